import JvmDerived
import JvmDerived.Pilot.@@N@@Statement
import JvmDerived.Pilot.@@N@@Code
set_option linter.unusedVariables false
set_option linter.unusedSimpArgs false
@@BLOCK:NumsL.lean.txt@@
namespace Jvm.RoadKit
open Sem ClassFile Op Lib Jvm.Stand Jvm.Free Jvm.LawKit
section New
variable {p : Program} {l : Launch} {e : Env} {R : Room} {s : State} {m : MethodId} {args : Array Value} {below : List Frame} {meth : Method} {c : Code} {T : State} {locs : List Loc} {cells slots : Nat}
theorem retI (X : Stand p l e R s m args below meth c T locs cells slots) (hx : p.tables.exec = Jvm.exec) {pc : Nat} {Ls : Array Slot} {z : Int32} {rest : List Value} (hret : meth.sig.returnType = some .int) (hd : decode c.code pc = .ok (.ireturn, 1)) {fs : List Frame}
    (hl : ∀ (f : JFrame) (acts : List Action), f.method = m → f.locked = none → f.entered = [] → (doReturn e (T.setTop f) acts (some (.int z))).1 = T.setFrames fs) : Steps p.tables e below (T.setTop (mkF m pc Ls (.int z :: rest))) (T.setFrames fs) := by
  have hm' : T.vm.method? m = some meth := X.method'
  have hn : narrow .int (.int z) = .int z := rfl
  show Steps p.tables e below (T.setTop { method := m, pc := pc, locals := Ls, stack := _ :: rest, locked := none }) _
  jvm_step X.here [X.here.top, hx, hd, hm', hret, hn]
  first | (intro acts; rw [hl _ acts rfl rfl rfl]) | rw [hl _ _ rfl rfl rfl]
  exact Steps.refl _
end New
end Jvm.RoadKit
namespace Jvm.Pilot.@@N@@
open Jvm Jvm.ClassFile Sem Op Lib Jvm.Free Jvm.Stand Jvm.LawKit Jvm.RoadKit Bundle Jvm.Pilot.@@N@@.Jvm.D
def Rc (Z : State) (h : Heap) (b : Addr) (V : Value) (k : Int32) : Prop := Exa Z h b "com/example/anemone/anemone/model/Recovered" ∧ Fld Z h b "com/example/anemone/anemone/model/Recovered" "value" "Ljava/lang/Object;" V ∧ Fld Z h b "com/example/anemone/anemone/model/Recovered" "known" "Z" (.int k)
theorem Rc.keep {Z : State} {h h' : Heap} {b : Addr} {V : Value} {k : Int32} (H : Rc Z h b V k) (K : Keep h h' []) : Rc Z h' b V k := ⟨H.1.keep K, H.2.1.keep K nin0, H.2.2.keep K nin0⟩
def Cf (Z : State) (x : Int32) : Prop := Sta Z Z.heap "java/lang/Integer$IntegerCache" "high" "I" (.int (127 : Int32)) ∧ (¬ (x < (-128 : Int32)) → ¬ ((127 : Int32) < x) → ∃ (w4 w6 : Addr) (cl : Cell), Sta Z Z.heap "java/lang/Integer$IntegerCache" "cache" "[Ljava/lang/Integer;" (.ref w4) ∧ Arr Z Z.heap w4 cl (.object "java/lang/Integer") ∧ ¬ ((x + (128 : Int32)) < 0 ∨ cl.slots.size ≤ ((x + (128 : Int32))).toNatClampNeg) ∧ cl.slots[((x + (128 : Int32))).toNatClampNeg]? = some (.ref w6))
theorem d10_0 : decode jdk_18_method_1_code 0 = .ok (.aload_n 0, 1) := by decide +kernel
theorem d10_1 : decode jdk_18_method_1_code 1 = .ok (.invokespecial 1, 3) := by decide +kernel
theorem d10_4 : decode jdk_18_method_1_code 4 = .ok (.return_, 1) := by decide +kernel
theorem pn_10 : plainName "java/lang/Number" = true := by first | (simp [plainName, overriddenIn]; done) | decide +kernel
theorem ef_10 (m : MethodId) (x0 : Addr) : entryFrame m #[(.ref x0)] 1 = mkF m 0 #[.val (.ref x0)] [] := by first | (simp [entryFrame, mkF, argsToLocals, Value.category]; done) | rfl
def Q10 (Z : State) (a1 : Addr) (h0 : Heap) (n0 : Nat) (v : Option Value) (h : Heap) (L : List Loc) : Prop := v = none ∧ Fr n0 L ∧ h = h0
set_option maxRecDepth 65536 in
set_option maxHeartbeats 40000000 in
theorem rm10 (l : Launch) (Z : State) (a0 : Array Value) (hw : ∀ d ∈ tables_1, d.before a0 Z = true) (ws : List Jvm.Cond) (a1 : Addr) (h0 : Heap) (n0 : Nat) (Z0 : n0 ≤ h0.size) :
    MetFree l (⟨"java/lang/Number", "<init>", "()V"⟩ : MethodName) (head1 (Jvm.Cond.code (⟨"java/lang/Number", "<init>", "()V"⟩ : MethodName) jdk_18_method_1_code 1 none :: ws) ({ frames := 1, cells := 0, slots := 0, locals := 12 } : Room)) (fun a U => a = #[(.ref a1)] ∧ Z.Warmed39 U.vm ∧ U.heap = h0) (fun _ _ _ _ _ => True) (fun _ U o U' => ∃ v L, o = .returned v ∧ Q10 Z a1 h0 n0 v U'.heap L ∧ FrameEnd U o U' L ({ frames := 1, cells := 0, slots := 0, locals := 12 } : Room).cells ({ frames := 1, cells := 0, slots := 0, locals := 12 } : Room).slots) := by
  refine MetFree.of_bodySF (plainFor_of_name pn_10) hisR ?_
  intro p e s m args below meth c s₁ Bd hml0 hP hK
  obtain ⟨rfl, hZ, hh⟩ := hP
  have hx := Bd.exec
  have hby := Bd.bytes
  have hml : c.maxLocals = 1 := hml0
  have hown : s.vm.findClass "java/lang/Number" = some m.cls := findClass_of_methodNamed Bd.named
  have hnm := (name_of_methodNamed Bd.named Bd.method).1
  have X0 : Stand p l e ({ frames := 1, cells := 0, slots := 0, locals := 12 } : Room) s m #[(.ref a1)] below meth c s₁ [] 0 0 := Stand.of_body Bd
  have e0 : s₁.heap = h0 := by rw [← hh, Bd.state]; rfl
  have N0 := Fr.nil n0
  have pre0 : ∀ t, Steps p.tables e below (s₁.setTop (mkF m 0 #[.val (.ref a1)] [])) t → Steps p.tables e below (s₁.setTop (entryFrame m #[(.ref a1)] 1)) t := fun t k => castTop (ef_10 m a1) k
  obtain ⟨T2, X2, e2, st2⟩ := initO X0 hx hZ hown (hw _ (List.mem_of_getElem? (i := 53) rfl)) (hw _ (List.mem_of_getElem? (i := 19) rfl)) (hw _ (List.mem_of_getElem? (i := 20) rfl)) e0 (g := (mkF m 1 #[.val (.ref a1)] [(.ref a1)])) rfl (by rw [hml]; rfl) rfl (hb hby d10_1) (by decide) (W := 0) (by show 2 * 0 + _ ≤ _; exact Nat.le_of_eq rfl) (by decide)
  obtain ⟨fs, hr, hrun, hended, hW, hsame⟩ := X2.leave (v := none) (fun _ => rfl)
  refine ⟨_, _, pre0 _ ?_, hrun, hended, _, _, rfl, ?_, ⟨_, rfl⟩, hW, hsame.mono (by decide) (by decide)⟩
  · show Steps p.tables e below (s₁.setTop (mkF m 0 #[.val (.ref a1)] [])) _
    refine XS.aloadN X0.here hx rfl (hb hby d10_0) rfl rfl ?_
    show Steps p.tables e below (s₁.setTop (mkF m 1 #[.val (.ref a1)] [(.ref a1)])) _
    refine st2 _ ?_
    show Steps p.tables e below (T2.setTop (mkF m 4 #[.val (.ref a1)] [])) _
    exact X2.returnOut hx Bd.returns (hb hby d10_4) hr
  · show Q10 Z a1 _ n0 _ T2.heap _
    rw [e2]
    exact ⟨rfl, N0, rfl⟩
theorem d3_0 : decode jdk_30_method_1_code 0 = .ok (.aload_n 0, 1) := by decide +kernel
theorem d3_1 : decode jdk_30_method_1_code 1 = .ok (.invokespecial 1, 3) := by decide +kernel
theorem d3_4 : decode jdk_30_method_1_code 4 = .ok (.return_, 1) := by decide +kernel
theorem pn_3 : plainName "java/lang/Record" = true := by first | (simp [plainName, overriddenIn]; done) | decide +kernel
theorem ef_3 (m : MethodId) (x0 : Addr) : entryFrame m #[(.ref x0)] 1 = mkF m 0 #[.val (.ref x0)] [] := by first | (simp [entryFrame, mkF, argsToLocals, Value.category]; done) | rfl
def Q3 (Z : State) (a1 : Addr) (h0 : Heap) (n0 : Nat) (v : Option Value) (h : Heap) (L : List Loc) : Prop := v = none ∧ Fr n0 L ∧ h = h0
set_option maxRecDepth 65536 in
set_option maxHeartbeats 40000000 in
theorem rm3 (l : Launch) (Z : State) (a0 : Array Value) (hw : ∀ d ∈ tables_1, d.before a0 Z = true) (ws : List Jvm.Cond) (a1 : Addr) (h0 : Heap) (n0 : Nat) (Z0 : n0 ≤ h0.size) :
    MetFree l (⟨"java/lang/Record", "<init>", "()V"⟩ : MethodName) (head1 (Jvm.Cond.code (⟨"java/lang/Record", "<init>", "()V"⟩ : MethodName) jdk_30_method_1_code 1 none :: ws) ({ frames := 1, cells := 0, slots := 0, locals := 12 } : Room)) (fun a U => a = #[(.ref a1)] ∧ Z.Warmed39 U.vm ∧ U.heap = h0) (fun _ _ _ _ _ => True) (fun _ U o U' => ∃ v L, o = .returned v ∧ Q3 Z a1 h0 n0 v U'.heap L ∧ FrameEnd U o U' L ({ frames := 1, cells := 0, slots := 0, locals := 12 } : Room).cells ({ frames := 1, cells := 0, slots := 0, locals := 12 } : Room).slots) := by
  refine MetFree.of_bodySF (plainFor_of_name pn_3) hisR ?_
  intro p e s m args below meth c s₁ Bd hml0 hP hK
  obtain ⟨rfl, hZ, hh⟩ := hP
  have hx := Bd.exec
  have hby := Bd.bytes
  have hml : c.maxLocals = 1 := hml0
  have hown : s.vm.findClass "java/lang/Record" = some m.cls := findClass_of_methodNamed Bd.named
  have hnm := (name_of_methodNamed Bd.named Bd.method).1
  have X0 : Stand p l e ({ frames := 1, cells := 0, slots := 0, locals := 12 } : Room) s m #[(.ref a1)] below meth c s₁ [] 0 0 := Stand.of_body Bd
  have e0 : s₁.heap = h0 := by rw [← hh, Bd.state]; rfl
  have N0 := Fr.nil n0
  have pre0 : ∀ t, Steps p.tables e below (s₁.setTop (mkF m 0 #[.val (.ref a1)] [])) t → Steps p.tables e below (s₁.setTop (entryFrame m #[(.ref a1)] 1)) t := fun t k => castTop (ef_3 m a1) k
  obtain ⟨T2, X2, e2, st2⟩ := initO X0 hx hZ hown (hw _ (List.mem_of_getElem? (i := 18) rfl)) (hw _ (List.mem_of_getElem? (i := 19) rfl)) (hw _ (List.mem_of_getElem? (i := 20) rfl)) e0 (g := (mkF m 1 #[.val (.ref a1)] [(.ref a1)])) rfl (by rw [hml]; rfl) rfl (hb hby d3_1) (by decide) (W := 0) (by show 2 * 0 + _ ≤ _; exact Nat.le_of_eq rfl) (by decide)
  obtain ⟨fs, hr, hrun, hended, hW, hsame⟩ := X2.leave (v := none) (fun _ => rfl)
  refine ⟨_, _, pre0 _ ?_, hrun, hended, _, _, rfl, ?_, ⟨_, rfl⟩, hW, hsame.mono (by decide) (by decide)⟩
  · show Steps p.tables e below (s₁.setTop (mkF m 0 #[.val (.ref a1)] [])) _
    refine XS.aloadN X0.here hx rfl (hb hby d3_0) rfl rfl ?_
    show Steps p.tables e below (s₁.setTop (mkF m 1 #[.val (.ref a1)] [(.ref a1)])) _
    refine st2 _ ?_
    show Steps p.tables e below (T2.setTop (mkF m 4 #[.val (.ref a1)] [])) _
    exact X2.returnOut hx Bd.returns (hb hby d3_4) hr
  · show Q3 Z a1 _ n0 _ T2.heap _
    rw [e2]
    exact ⟨rfl, N0, rfl⟩
theorem d9_0 : decode jdk_33_method_23_code 0 = .ok (.aload_n 0, 1) := by decide +kernel
theorem d9_1 : decode jdk_33_method_23_code 1 = .ok (.invokespecial 202, 3) := by decide +kernel
theorem d9_4 : decode jdk_33_method_23_code 4 = .ok (.aload_n 0, 1) := by decide +kernel
theorem d9_5 : decode jdk_33_method_23_code 5 = .ok (.iload_n 1, 1) := by decide +kernel
theorem d9_6 : decode jdk_33_method_23_code 6 = .ok (.putfield 205, 3) := by decide +kernel
theorem d9_9 : decode jdk_33_method_23_code 9 = .ok (.return_, 1) := by decide +kernel
theorem pn_9 : plainName "java/lang/Integer" = true := by first | (simp [plainName, overriddenIn]; done) | decide +kernel
theorem pd_9_2 : parseMethodDescriptor "()V" = some ⟨[], none⟩ := by decide +kernel
theorem ef_9 (m : MethodId) (x0 : Addr) (x1 : Int32) : entryFrame m #[(.ref x0), (.int x1)] 2 = mkF m 0 #[.val (.ref x0), .val (.int x1)] [] := by first | (simp [entryFrame, mkF, argsToLocals, Value.category]; done) | rfl
def Q9 (Z : State) (a1 : Addr) (p2 : Int32) (u_value_a1 : Value) (h0 : Heap) (n0 : Nat) (v : Option Value) (h : Heap) (L : List Loc) : Prop := v = none ∧ Fr n0 L ∧ Keep h0 h [a1]
set_option maxRecDepth 65536 in
set_option maxHeartbeats 40000000 in
theorem rm9 (l : Launch) (Z : State) (a0 : Array Value) (hw : ∀ d ∈ tables_1, d.before a0 Z = true) (ws : List Jvm.Cond) (a1 : Addr) (p2 : Int32) (u_value_a1 : Value) (h0 : Heap) (n0 : Nat) (Z0 : n0 ≤ h0.size) (E_a1 : Exa Z h0 a1 "java/lang/Integer") (F_value_a1 : Fld Z h0 a1 "java/lang/Integer" "value" "I" u_value_a1) (g_a1 : n0 ≤ a1) :
    MetFree l (⟨"java/lang/Integer", "<init>", "(I)V"⟩ : MethodName) (head1 (Jvm.Cond.code (⟨"java/lang/Integer", "<init>", "(I)V"⟩ : MethodName) jdk_33_method_23_code 2 none :: ws) ({ frames := 2, cells := 0, slots := 0, locals := 24 } : Room)) (fun a U => a = #[(.ref a1), (.int p2)] ∧ Z.Warmed39 U.vm ∧ U.heap = h0) (fun _ _ _ _ _ => True) (fun _ U o U' => ∃ v L, o = .returned v ∧ Q9 Z a1 p2 u_value_a1 h0 n0 v U'.heap L ∧ FrameEnd U o U' L ({ frames := 2, cells := 0, slots := 0, locals := 24 } : Room).cells ({ frames := 2, cells := 0, slots := 0, locals := 24 } : Room).slots) := by
  refine MetFree.of_bodySF (plainFor_of_name pn_9) hisR ?_
  intro p e s m args below meth c s₁ Bd hml0 hP hK
  obtain ⟨rfl, hZ, hh⟩ := hP
  have hx := Bd.exec
  have hby := Bd.bytes
  have hml : c.maxLocals = 2 := hml0
  have hown : s.vm.findClass "java/lang/Integer" = some m.cls := findClass_of_methodNamed Bd.named
  have hnm := (name_of_methodNamed Bd.named Bd.method).1
  have X0 : Stand p l e ({ frames := 2, cells := 0, slots := 0, locals := 24 } : Room) s m #[(.ref a1), (.int p2)] below meth c s₁ [] 0 0 := Stand.of_body Bd
  have e0 : s₁.heap = h0 := by rw [← hh, Bd.state]; rfl
  have N0 := Fr.nil n0
  have pre0 : ∀ t, Steps p.tables e below (s₁.setTop (mkF m 0 #[.val (.ref a1), .val (.int p2)] [])) t → Steps p.tables e below (s₁.setTop (entryFrame m #[(.ref a1), (.int p2)] 2)) t := fun t k => castTop (ef_9 m a1 p2) k
  obtain ⟨_, _, ⟨T3, L3, k3, n3⟩, -, X3, ⟨Lc3, hQ3, l3, y3, z3⟩, st3⟩ := X0.specialBack hx (y := (⟨"java/lang/Number", "<init>", "()V"⟩ : MethodName)) rfl hown (mvT hZ (hw _ (List.mem_of_getElem? (i := 47) rfl))) (mvT hZ (hw _ (List.mem_of_getElem? (i := 48) rfl))) (mvT hZ (hw _ (List.mem_of_getElem? (i := 52) rfl))) (by decide) (backOf (W := 0) (rm10 l Z a0 hw [] a1 h0 n0 Z0) hZ (hw _ (List.mem_of_getElem? (i := 52) rfl)) (hw _ (List.mem_of_getElem? (i := 51) rfl)) (by decide) (by decide)) (g := (mkF m 1 #[.val (.ref a1), .val (.int p2)] [(.ref a1)])) rfl (by rw [hml]; rfl) (Steps.refl _) (a := a1) (argsL := []) (rest := []) (lenOf pd_9_2 rfl) rfl (by show 2 * 0 + _ ≤ _; exact Nat.le_of_eq rfl) (hb hby d9_1) (fun _ _ => ⟨rfl, e0, (Nat.le_of_ble_eq_true rfl), (Nat.le_of_ble_eq_true rfl)⟩)
  dsimp only [Pt.U, Pt.locs, Pt.cells, Pt.slots] at X3 l3 y3 z3 st3 hQ3
  subst l3 y3 z3
  obtain ⟨rfl, N3q, rfl⟩ := hQ3
  have N3 := Fr.app N0 N3q
  obtain ⟨T4, h4, X4, e4, W4, st4⟩ := putF X3 hx hZ hown (host := "") (Or.inl (hw _ (List.mem_of_getElem? (i := 54) rfl))) Via.refl rfl F_value_a1 E_a1 (Or.inr ⟨(hw _ (List.mem_of_getElem? (i := 55) rfl)), rfl, hnm⟩) (hw _ (List.mem_of_getElem? (i := 42) rfl)) (ty := .int) (by decide) rfl rfl (g := (mkF m 6 #[.val (.ref a1), .val (.int p2)] [(.int p2), (.ref a1)])) rfl rfl (hb hby d9_6)
  have Fw4 := F_value_a1.same W4
  have K4 : Keep _ h4 [a1] := (Keep.refl _ _).wr W4 (Or.inl (List.mem_of_getElem? (i := 0) rfl))
  have N4 := Fr.snoc X4 N3 g_a1
  obtain ⟨fs, hr, hrun, hended, hW, hsame⟩ := X4.leave (v := none) (fun _ => rfl)
  refine ⟨_, _, pre0 _ ?_, hrun, hended, _, _, rfl, ?_, ⟨_, rfl⟩, hW, hsame.mono (by decide) (by decide)⟩
  · show Steps p.tables e below (s₁.setTop (mkF m 0 #[.val (.ref a1), .val (.int p2)] [])) _
    refine XS.aloadN X0.here hx rfl (hb hby d9_0) rfl rfl ?_
    show Steps p.tables e below (s₁.setTop (mkF m 1 #[.val (.ref a1), .val (.int p2)] [(.ref a1)])) _
    refine st3.trans ?_
    show Steps p.tables e below (T3.setTop (mkF m 4 #[.val (.ref a1), .val (.int p2)] [])) _
    refine XS.aloadN X3.here hx rfl (hb hby d9_4) rfl rfl ?_
    show Steps p.tables e below (T3.setTop (mkF m 5 #[.val (.ref a1), .val (.int p2)] [(.ref a1)])) _
    refine XS.iloadN X3.here hx rfl (hb hby d9_5) rfl ?_
    show Steps p.tables e below (T3.setTop (mkF m 6 #[.val (.ref a1), .val (.int p2)] [(.int p2), (.ref a1)])) _
    refine st4 _ ?_
    show Steps p.tables e below (T4.setTop (mkF m 9 #[.val (.ref a1), .val (.int p2)] [])) _
    exact X4.returnOut hx Bd.returns (hb hby d9_9) hr
  · show Q9 Z a1 p2 u_value_a1 _ n0 _ T4.heap _
    rw [e4]
    exact ⟨rfl, N4, K4⟩
def Q1 (h0 : Heap) (n0 : Nat) (v : Option Value) (h : Heap) (L : List Loc) : Prop := ∃ b : Addr, v = some (.ref b) ∧ Fr n0 L ∧ Keep h0 h []
theorem d1_0 : decode jdk_33_method_22_code 0 = .ok (.iload_n 0, 1) := by decide +kernel
theorem d1_1 : decode jdk_33_method_22_code 1 = .ok (.bipush (-128), 2) := by decide +kernel
theorem d1_3 : decode jdk_33_method_22_code 3 = .ok (.if_icmp .lt 20, 3) := by decide +kernel
theorem d1_6 : decode jdk_33_method_22_code 6 = .ok (.iload_n 0, 1) := by decide +kernel
theorem d1_7 : decode jdk_33_method_22_code 7 = .ok (.getstatic 191, 3) := by decide +kernel
theorem d1_10 : decode jdk_33_method_22_code 10 = .ok (.if_icmp .gt 13, 3) := by decide +kernel
theorem d1_13 : decode jdk_33_method_22_code 13 = .ok (.getstatic 195, 3) := by decide +kernel
theorem d1_16 : decode jdk_33_method_22_code 16 = .ok (.iload_n 0, 1) := by decide +kernel
theorem d1_17 : decode jdk_33_method_22_code 17 = .ok (.sipush 128, 3) := by decide +kernel
theorem d1_20 : decode jdk_33_method_22_code 20 = .ok (.iadd, 1) := by decide +kernel
theorem d1_21 : decode jdk_33_method_22_code 21 = .ok (.aaload, 1) := by decide +kernel
theorem d1_22 : decode jdk_33_method_22_code 22 = .ok (.areturn, 1) := by decide +kernel
theorem pn_1c : plainName "java/lang/Integer" = true := by first | (simp [plainName, overriddenIn]; done) | decide +kernel
theorem ef_1c (m : MethodId) (x0 : Int32) : entryFrame m #[(.int x0)] 1 = mkF m 0 #[.val (.int x0)] [] := by first | (simp [entryFrame, mkF, argsToLocals, Value.category]; done) | rfl
set_option maxRecDepth 65536 in
set_option maxHeartbeats 40000000 in
theorem rm1c (l : Launch) (Z : State) (a0 : Array Value) (hw : ∀ d ∈ tables_1, d.before a0 Z = true) (ws : List Jvm.Cond) (p1 : Int32) (w2 : Int32) (w4 : Addr) (w6 : Addr) (cl_w4 : Cell) (h0 : Heap) (n0 : Nat) (Z0 : n0 ≤ h0.size) (S_high : Sta Z h0 "java/lang/Integer$IntegerCache" "high" "I" (.int w2)) (S_cache : Sta Z h0 "java/lang/Integer$IntegerCache" "cache" "[Ljava/lang/Integer;" (.ref w4)) (Ar_w4 : Arr Z h0 w4 cl_w4 (.object "java/lang/Integer")) (hin21 : ¬ ((p1 + (128 : Int32)) < 0 ∨ cl_w4.slots.size ≤ ((p1 + (128 : Int32))).toNatClampNeg)) (hat21 : cl_w4.slots[((p1 + (128 : Int32))).toNatClampNeg]? = some (.ref w6)) (hc3 : ¬ (p1 < (-128 : Int32))) (hc10 : ¬ (w2 < p1)) :
    MetFree l (⟨"java/lang/Integer", "valueOf", "(I)Ljava/lang/Integer;"⟩ : MethodName) (head1 (Jvm.Cond.code (⟨"java/lang/Integer", "valueOf", "(I)Ljava/lang/Integer;"⟩ : MethodName) jdk_33_method_22_code 1 (some (.object "java/lang/Integer")) :: ws) ({ frames := 3, cells := 1, slots := 1, locals := 38 } : Room)) (fun a U => a = #[(.int p1)] ∧ Z.Warmed39 U.vm ∧ U.heap = h0) (fun _ _ _ _ _ => True) (fun _ U o U' => ∃ v L, o = .returned v ∧ Q1 h0 n0 v U'.heap L ∧ FrameEnd U o U' L ({ frames := 3, cells := 1, slots := 1, locals := 38 } : Room).cells ({ frames := 3, cells := 1, slots := 1, locals := 38 } : Room).slots) := by
  refine MetFree.of_bodySF (plainFor_of_name pn_1c) hisR ?_
  intro p e s m args below meth c s₁ Bd hml0 hP hK
  obtain ⟨rfl, hZ, hh⟩ := hP
  have hx := Bd.exec
  have hby := Bd.bytes
  have hml : c.maxLocals = 1 := hml0
  have hown : s.vm.findClass "java/lang/Integer" = some m.cls := findClass_of_methodNamed Bd.named
  have hnm := (name_of_methodNamed Bd.named Bd.method).1
  have X0 : Stand p l e ({ frames := 3, cells := 1, slots := 1, locals := 38 } : Room) s m #[(.int p1)] below meth c s₁ [] 0 0 := Stand.of_body Bd
  have e0 : s₁.heap = h0 := by rw [← hh, Bd.state]; rfl
  have N0 := Fr.nil n0
  have pre0 : ∀ t, Steps p.tables e below (s₁.setTop (mkF m 0 #[.val (.int p1)] [])) t → Steps p.tables e below (s₁.setTop (entryFrame m #[(.int p1)] 1)) t := fun t k => castTop (ef_1c m p1) k
  obtain ⟨T3, X3, e3, st3⟩ := getS2 X0 hx hZ hown (host := "") (Or.inl (hw _ (List.mem_of_getElem? (i := 4) rfl))) Via.refl e0 S_high (g := (mkF m 7 #[.val (.int p1)] [(.int p1)])) rfl (hb hby d1_7)
  obtain ⟨T5, X5, e5, st5⟩ := getS2 X3 hx hZ hown (host := "") (Or.inl (hw _ (List.mem_of_getElem? (i := 6) rfl))) Via.refl e3 S_cache (g := (mkF m 13 #[.val (.int p1)] [])) rfl (hb hby d1_13)
  obtain ⟨fs, hr, hrun, hended, hW, hsame⟩ := X5.leave (v := some (.ref w6)) (fun h => by rw [Bd.returns] at h; cases h)
  refine ⟨_, _, pre0 _ ?_, hrun, hended, _, _, rfl, ?_, ⟨_, rfl⟩, hW, hsame.mono (by decide) (by decide)⟩
  · show Steps p.tables e below (s₁.setTop (mkF m 0 #[.val (.int p1)] [])) _
    refine XS.iloadN X0.here hx rfl (hb hby d1_0) rfl ?_
    show Steps p.tables e below (s₁.setTop (mkF m 1 #[.val (.int p1)] [(.int p1)])) _
    refine XS.bipush X0.here hx rfl (hb hby d1_1) ?_
    show Steps p.tables e below (s₁.setTop (mkF m 3 #[.val (.int p1)] [(.int (-128 : Int32)), (.int p1)])) _
    refine XS.icmpNo X0.here hx rfl (hb hby d1_3) rfl (flt hc3).1 ?_
    show Steps p.tables e below (s₁.setTop (mkF m 6 #[.val (.int p1)] [])) _
    refine XS.iloadN X0.here hx rfl (hb hby d1_6) rfl ?_
    show Steps p.tables e below (s₁.setTop (mkF m 7 #[.val (.int p1)] [(.int p1)])) _
    refine st3 _ ?_
    show Steps p.tables e below (T3.setTop (mkF m 10 #[.val (.int p1)] [(.int w2), (.int p1)])) _
    refine XS.icmpNo X3.here hx rfl (hb hby d1_10) rfl (flt hc10).2.2.1 ?_
    show Steps p.tables e below (T3.setTop (mkF m 13 #[.val (.int p1)] [])) _
    refine st5 _ ?_
    show Steps p.tables e below (T5.setTop (mkF m 16 #[.val (.int p1)] [(.ref w4)])) _
    refine XS.iloadN X5.here hx rfl (hb hby d1_16) rfl ?_
    show Steps p.tables e below (T5.setTop (mkF m 17 #[.val (.int p1)] [(.int p1), (.ref w4)])) _
    refine XS.sipush X5.here hx rfl (hb hby d1_17) ?_
    show Steps p.tables e below (T5.setTop (mkF m 20 #[.val (.int p1)] [(.int (128 : Int32)), (.int p1), (.ref w4)])) _
    refine XS.iadd X5.here hx rfl (hb hby d1_20) rfl ?_
    show Steps p.tables e below (T5.setTop (mkF m 21 #[.val (.int p1)] [(.int (p1 + (128 : Int32))), (.ref w4)])) _
    refine X5.aaload hx (j := (p1 + (128 : Int32))) (v := (.ref w6)) (by rw [e5]; exact Ar_w4.1) (State.isArrayOf_alike hZ.alike Ar_w4.2.1) rfl Ar_w4.2.2 hin21 hat21 (g := (mkF m 21 #[.val (.int p1)] [(.int (p1 + (128 : Int32))), (.ref w4)])) rfl rfl (hb hby d1_21) _ ?_
    show Steps p.tables e below (T5.setTop (mkF m 22 #[.val (.int p1)] [(.ref w6)])) _
    jvm_step X5.here [X5.here.top, hx, (hb hby d1_22), X5.method', Bd.returns, Value.isRef, FieldType.isReference]
    first | (intro acts; rw [hr _ acts rfl rfl rfl]) | rw [hr _ _ rfl rfl rfl]
    exact Steps.refl _
  · show Q1 _ n0 _ T5.heap _
    rw [e5]
    exact ⟨_, rfl, N0, Keep.refl _ _⟩
theorem d1_23 : decode jdk_33_method_22_code 23 = .ok (.new 1, 3) := by decide +kernel
theorem d1_26 : decode jdk_33_method_22_code 26 = .ok (.dup, 1) := by decide +kernel
theorem d1_27 : decode jdk_33_method_22_code 27 = .ok (.iload_n 0, 1) := by decide +kernel
theorem d1_28 : decode jdk_33_method_22_code 28 = .ok (.invokespecial 199, 3) := by decide +kernel
theorem d1_31 : decode jdk_33_method_22_code 31 = .ok (.areturn, 1) := by decide +kernel
theorem pn_1s : plainName "java/lang/Integer" = true := by first | (simp [plainName, overriddenIn]; done) | decide +kernel
theorem pd_1_6s : parseMethodDescriptor "(I)V" = some ⟨[.int], none⟩ := by decide +kernel
theorem ef_1s (m : MethodId) (x0 : Int32) : entryFrame m #[(.int x0)] 1 = mkF m 0 #[.val (.int x0)] [] := by first | (simp [entryFrame, mkF, argsToLocals, Value.category]; done) | rfl
set_option maxRecDepth 65536 in
set_option maxHeartbeats 40000000 in
theorem rm1s (l : Launch) (Z : State) (a0 : Array Value) (hw : ∀ d ∈ tables_1, d.before a0 Z = true) (ws : List Jvm.Cond) (p1 : Int32) (h0 : Heap) (n0 : Nat) (Z0 : n0 ≤ h0.size) (hc3 : p1 < (-128 : Int32)) :
    MetFree l (⟨"java/lang/Integer", "valueOf", "(I)Ljava/lang/Integer;"⟩ : MethodName) (head1 (Jvm.Cond.code (⟨"java/lang/Integer", "valueOf", "(I)Ljava/lang/Integer;"⟩ : MethodName) jdk_33_method_22_code 1 (some (.object "java/lang/Integer")) :: ws) ({ frames := 3, cells := 1, slots := 1, locals := 38 } : Room)) (fun a U => a = #[(.int p1)] ∧ Z.Warmed39 U.vm ∧ U.heap = h0) (fun _ _ _ _ _ => True) (fun _ U o U' => ∃ v L, o = .returned v ∧ Q1 h0 n0 v U'.heap L ∧ FrameEnd U o U' L ({ frames := 3, cells := 1, slots := 1, locals := 38 } : Room).cells ({ frames := 3, cells := 1, slots := 1, locals := 38 } : Room).slots) := by
  refine MetFree.of_bodySF (plainFor_of_name pn_1s) hisR ?_
  intro p e s m args below meth c s₁ Bd hml0 hP hK
  obtain ⟨rfl, hZ, hh⟩ := hP
  have hx := Bd.exec
  have hby := Bd.bytes
  have hml : c.maxLocals = 1 := hml0
  have hown : s.vm.findClass "java/lang/Integer" = some m.cls := findClass_of_methodNamed Bd.named
  have hnm := (name_of_methodNamed Bd.named Bd.method).1
  have X0 : Stand p l e ({ frames := 3, cells := 1, slots := 1, locals := 38 } : Room) s m #[(.int p1)] below meth c s₁ [] 0 0 := Stand.of_body Bd
  have e0 : s₁.heap = h0 := by rw [← hh, Bd.state]; rfl
  have N0 := Fr.nil n0
  have pre0 : ∀ t, Steps p.tables e below (s₁.setTop (mkF m 0 #[.val (.int p1)] [])) t → Steps p.tables e below (s₁.setTop (entryFrame m #[(.int p1)] 1)) t := fun t k => castTop (ef_1s m p1) k
  obtain ⟨T2, h2, X2, e2, E2, A2, D2, -, st2⟩ := newO X0 hx hZ hown (hw _ (List.mem_of_getElem? (i := 41) rfl)) (hw _ (List.mem_of_getElem? (i := 42) rfl)) (hw _ (List.mem_of_getElem? (i := 2) rfl)) e0 (g := (mkF m 23 #[.val (.int p1)] [])) rfl (hb hby d1_23) (by decide) (by decide)
  obtain ⟨b2, g2⟩ : ∃ z, z = h0.size := ⟨_, rfl⟩
  rw [← g2] at A2 D2 st2
  have F_value_b2 : Fld Z h2 b2 "java/lang/Integer" "value" "I" (.int (0 : Int32)) := D2 (Or.inr (hw _ (List.mem_of_getElem? (i := 55) rfl))) (ty := .int) (by decide)
  have E_b2 := A2
  have g_b2 : n0 ≤ b2 := Nat.le_trans Z0 (Nat.le_of_eq g2.symm)
  have sz_b2 : h0.size ≤ b2 := (Nat.le_trans (Keep.refl h0 []).1 (Nat.le_of_eq g2.symm))
  have K2 : Keep h0 h2 [] := (Keep.refl h0 []).ext E2
  obtain ⟨_, _, ⟨T3, L3, k3, n3⟩, -, X3, ⟨Lc3, hQ3, l3, y3, z3⟩, st3⟩ := X2.specialBack hx (y := (⟨"java/lang/Integer", "<init>", "(I)V"⟩ : MethodName)) rfl hown (mvT hZ (hw _ (List.mem_of_getElem? (i := 43) rfl))) (mvT hZ (hw _ (List.mem_of_getElem? (i := 44) rfl))) (mvT hZ (hw _ (List.mem_of_getElem? (i := 46) rfl))) (by decide) (backOf (W := 1) (rm9 l Z a0 hw [] b2 p1 _ h2 n0 (Nat.le_trans Z0 E2.1) E_b2 F_value_b2 g_b2) hZ (hw _ (List.mem_of_getElem? (i := 46) rfl)) (hw _ (List.mem_of_getElem? (i := 2) rfl)) (by decide) (by decide)) (g := (mkF m 28 #[.val (.int p1)] [(.int p1), (.ref b2), (.ref b2)])) rfl (by rw [hml]; rfl) (Steps.refl _) (a := b2) (argsL := [(.int p1)]) (rest := [(.ref b2)]) (lenOf pd_1_6s rfl) rfl (by show 2 * 0 + _ ≤ _; exact Nat.le_of_eq rfl) (hb hby d1_28) (fun _ _ => ⟨rfl, e2, (Nat.le_of_ble_eq_true rfl), (Nat.le_of_ble_eq_true rfl)⟩)
  dsimp only [Pt.U, Pt.locs, Pt.cells, Pt.slots] at X3 l3 y3 z3 st3 hQ3
  subst l3 y3 z3
  obtain ⟨rfl, N3q, K3⟩ := hQ3
  have N3 := Fr.app N0 N3q
  have KK : Keep h0 T3.heap [] := K2.trans K3 (allS (Or.inr sz_b2) all0)
  obtain ⟨fs, hr, hrun, hended, hW, hsame⟩ := X3.leave (v := some (.ref b2)) (fun h => by rw [Bd.returns] at h; cases h)
  refine ⟨_, _, pre0 _ ?_, hrun, hended, _, _, rfl, ?_, ⟨_, rfl⟩, hW, hsame.mono (by decide) (by decide)⟩
  · show Steps p.tables e below (s₁.setTop (mkF m 0 #[.val (.int p1)] [])) _
    refine XS.iloadN X0.here hx rfl (hb hby d1_0) rfl ?_
    show Steps p.tables e below (s₁.setTop (mkF m 1 #[.val (.int p1)] [(.int p1)])) _
    refine XS.bipush X0.here hx rfl (hb hby d1_1) ?_
    show Steps p.tables e below (s₁.setTop (mkF m 3 #[.val (.int p1)] [(.int (-128 : Int32)), (.int p1)])) _
    refine XS.icmpYes X0.here hx rfl (pc0 := 3) (pc' := 23) rfl (hb hby d1_3) rfl (tlt hc3).1 (by decide) (by decide) ?_
    show Steps p.tables e below (s₁.setTop (mkF m 23 #[.val (.int p1)] [])) _
    refine st2 _ ?_
    show Steps p.tables e below (T2.setTop (mkF m 26 #[.val (.int p1)] [(.ref b2)])) _
    refine XS.dup X2.here hx rfl (hb hby d1_26) rfl rfl ?_
    show Steps p.tables e below (T2.setTop (mkF m 27 #[.val (.int p1)] [(.ref b2), (.ref b2)])) _
    refine XS.iloadN X2.here hx rfl (hb hby d1_27) rfl ?_
    show Steps p.tables e below (T2.setTop (mkF m 28 #[.val (.int p1)] [(.int p1), (.ref b2), (.ref b2)])) _
    refine st3.trans ?_
    show Steps p.tables e below (T3.setTop (mkF m 31 #[.val (.int p1)] [(.ref b2)])) _
    jvm_step X3.here [X3.here.top, hx, (hb hby d1_31), X3.method', Bd.returns, Value.isRef, FieldType.isReference]
    first | (intro acts; rw [hr _ acts rfl rfl rfl]) | rw [hr _ _ rfl rfl rfl]
    exact Steps.refl _
  · show Q1 _ n0 _ T3.heap _
    exact ⟨_, rfl, N3, KK⟩
theorem pn_1g : plainName "java/lang/Integer" = true := by first | (simp [plainName, overriddenIn]; done) | decide +kernel
theorem pd_1_6g : parseMethodDescriptor "(I)V" = some ⟨[.int], none⟩ := by decide +kernel
theorem ef_1g (m : MethodId) (x0 : Int32) : entryFrame m #[(.int x0)] 1 = mkF m 0 #[.val (.int x0)] [] := by first | (simp [entryFrame, mkF, argsToLocals, Value.category]; done) | rfl
set_option maxRecDepth 65536 in
set_option maxHeartbeats 40000000 in
theorem rm1g (l : Launch) (Z : State) (a0 : Array Value) (hw : ∀ d ∈ tables_1, d.before a0 Z = true) (ws : List Jvm.Cond) (p1 : Int32) (w2 : Int32) (h0 : Heap) (n0 : Nat) (Z0 : n0 ≤ h0.size) (S_high : Sta Z h0 "java/lang/Integer$IntegerCache" "high" "I" (.int w2)) (hc3 : ¬ (p1 < (-128 : Int32))) (hc10 : w2 < p1) :
    MetFree l (⟨"java/lang/Integer", "valueOf", "(I)Ljava/lang/Integer;"⟩ : MethodName) (head1 (Jvm.Cond.code (⟨"java/lang/Integer", "valueOf", "(I)Ljava/lang/Integer;"⟩ : MethodName) jdk_33_method_22_code 1 (some (.object "java/lang/Integer")) :: ws) ({ frames := 3, cells := 1, slots := 1, locals := 38 } : Room)) (fun a U => a = #[(.int p1)] ∧ Z.Warmed39 U.vm ∧ U.heap = h0) (fun _ _ _ _ _ => True) (fun _ U o U' => ∃ v L, o = .returned v ∧ Q1 h0 n0 v U'.heap L ∧ FrameEnd U o U' L ({ frames := 3, cells := 1, slots := 1, locals := 38 } : Room).cells ({ frames := 3, cells := 1, slots := 1, locals := 38 } : Room).slots) := by
  refine MetFree.of_bodySF (plainFor_of_name pn_1g) hisR ?_
  intro p e s m args below meth c s₁ Bd hml0 hP hK
  obtain ⟨rfl, hZ, hh⟩ := hP
  have hx := Bd.exec
  have hby := Bd.bytes
  have hml : c.maxLocals = 1 := hml0
  have hown : s.vm.findClass "java/lang/Integer" = some m.cls := findClass_of_methodNamed Bd.named
  have hnm := (name_of_methodNamed Bd.named Bd.method).1
  have X0 : Stand p l e ({ frames := 3, cells := 1, slots := 1, locals := 38 } : Room) s m #[(.int p1)] below meth c s₁ [] 0 0 := Stand.of_body Bd
  have e0 : s₁.heap = h0 := by rw [← hh, Bd.state]; rfl
  have N0 := Fr.nil n0
  have pre0 : ∀ t, Steps p.tables e below (s₁.setTop (mkF m 0 #[.val (.int p1)] [])) t → Steps p.tables e below (s₁.setTop (entryFrame m #[(.int p1)] 1)) t := fun t k => castTop (ef_1g m p1) k
  obtain ⟨T3, X3, e3, st3⟩ := getS2 X0 hx hZ hown (host := "") (Or.inl (hw _ (List.mem_of_getElem? (i := 4) rfl))) Via.refl e0 S_high (g := (mkF m 7 #[.val (.int p1)] [(.int p1)])) rfl (hb hby d1_7)
  obtain ⟨T4, h4, X4, e4, E4, A4, D4, -, st4⟩ := newO X3 hx hZ hown (hw _ (List.mem_of_getElem? (i := 41) rfl)) (hw _ (List.mem_of_getElem? (i := 42) rfl)) (hw _ (List.mem_of_getElem? (i := 2) rfl)) e3 (g := (mkF m 23 #[.val (.int p1)] [])) rfl (hb hby d1_23) (by decide) (by decide)
  obtain ⟨b4, g4⟩ : ∃ z, z = h0.size := ⟨_, rfl⟩
  rw [← g4] at A4 D4 st4
  have F_value_b4 : Fld Z h4 b4 "java/lang/Integer" "value" "I" (.int (0 : Int32)) := D4 (Or.inr (hw _ (List.mem_of_getElem? (i := 55) rfl))) (ty := .int) (by decide)
  have E_b4 := A4
  have g_b4 : n0 ≤ b4 := Nat.le_trans Z0 (Nat.le_of_eq g4.symm)
  have sz_b4 : h0.size ≤ b4 := (Nat.le_trans (Keep.refl h0 []).1 (Nat.le_of_eq g4.symm))
  have K4 : Keep h0 h4 [] := (Keep.refl h0 []).ext E4
  obtain ⟨_, _, ⟨T5, L5, k5, n5⟩, -, X5, ⟨Lc5, hQ5, l5, y5, z5⟩, st5⟩ := X4.specialBack hx (y := (⟨"java/lang/Integer", "<init>", "(I)V"⟩ : MethodName)) rfl hown (mvT hZ (hw _ (List.mem_of_getElem? (i := 43) rfl))) (mvT hZ (hw _ (List.mem_of_getElem? (i := 44) rfl))) (mvT hZ (hw _ (List.mem_of_getElem? (i := 46) rfl))) (by decide) (backOf (W := 1) (rm9 l Z a0 hw [] b4 p1 _ h4 n0 (Nat.le_trans Z0 E4.1) E_b4 F_value_b4 g_b4) hZ (hw _ (List.mem_of_getElem? (i := 46) rfl)) (hw _ (List.mem_of_getElem? (i := 2) rfl)) (by decide) (by decide)) (g := (mkF m 28 #[.val (.int p1)] [(.int p1), (.ref b4), (.ref b4)])) rfl (by rw [hml]; rfl) (Steps.refl _) (a := b4) (argsL := [(.int p1)]) (rest := [(.ref b4)]) (lenOf pd_1_6g rfl) rfl (by show 2 * 0 + _ ≤ _; exact Nat.le_of_eq rfl) (hb hby d1_28) (fun _ _ => ⟨rfl, e4, (Nat.le_of_ble_eq_true rfl), (Nat.le_of_ble_eq_true rfl)⟩)
  dsimp only [Pt.U, Pt.locs, Pt.cells, Pt.slots] at X5 l5 y5 z5 st5 hQ5
  subst l5 y5 z5
  obtain ⟨rfl, N5q, KQ⟩ := hQ5
  have N5 := Fr.app N0 N5q
  have KK : Keep h0 T5.heap [] := K4.trans KQ (allS (Or.inr sz_b4) all0)
  obtain ⟨fs, hr, hrun, hended, hW, hsame⟩ := X5.leave (v := some (.ref b4)) (fun h => by rw [Bd.returns] at h; cases h)
  refine ⟨_, _, pre0 _ ?_, hrun, hended, _, _, rfl, ?_, ⟨_, rfl⟩, hW, hsame.mono (by decide) (by decide)⟩
  · show Steps p.tables e below (s₁.setTop (mkF m 0 #[.val (.int p1)] [])) _
    refine XS.iloadN X0.here hx rfl (hb hby d1_0) rfl ?_
    show Steps p.tables e below (s₁.setTop (mkF m 1 #[.val (.int p1)] [(.int p1)])) _
    refine XS.bipush X0.here hx rfl (hb hby d1_1) ?_
    show Steps p.tables e below (s₁.setTop (mkF m 3 #[.val (.int p1)] [(.int (-128 : Int32)), (.int p1)])) _
    refine XS.icmpNo X0.here hx rfl (hb hby d1_3) rfl (flt hc3).1 ?_
    show Steps p.tables e below (s₁.setTop (mkF m 6 #[.val (.int p1)] [])) _
    refine XS.iloadN X0.here hx rfl (hb hby d1_6) rfl ?_
    show Steps p.tables e below (s₁.setTop (mkF m 7 #[.val (.int p1)] [(.int p1)])) _
    refine st3 _ ?_
    show Steps p.tables e below (T3.setTop (mkF m 10 #[.val (.int p1)] [(.int w2), (.int p1)])) _
    refine XS.icmpYes X3.here hx rfl (pc0 := 10) (pc' := 23) rfl (hb hby d1_10) rfl (tlt hc10).2.2.1 (by decide) (by decide) ?_
    show Steps p.tables e below (T3.setTop (mkF m 23 #[.val (.int p1)] [])) _
    refine st4 _ ?_
    show Steps p.tables e below (T4.setTop (mkF m 26 #[.val (.int p1)] [(.ref b4)])) _
    refine XS.dup X4.here hx rfl (hb hby d1_26) rfl rfl ?_
    show Steps p.tables e below (T4.setTop (mkF m 27 #[.val (.int p1)] [(.ref b4), (.ref b4)])) _
    refine XS.iloadN X4.here hx rfl (hb hby d1_27) rfl ?_
    show Steps p.tables e below (T4.setTop (mkF m 28 #[.val (.int p1)] [(.int p1), (.ref b4), (.ref b4)])) _
    refine st5.trans ?_
    show Steps p.tables e below (T5.setTop (mkF m 31 #[.val (.int p1)] [(.ref b4)])) _
    jvm_step X5.here [X5.here.top, hx, (hb hby d1_31), X5.method', Bd.returns, Value.isRef, FieldType.isReference]
    first | (intro acts; rw [hr _ acts rfl rfl rfl]) | rw [hr _ _ rfl rfl rfl]
    exact Steps.refl _
  · show Q1 _ n0 _ T5.heap _
    exact ⟨_, rfl, N5, KK⟩
theorem rm1 (l : Launch) (Z : State) (a0 : Array Value) (hw : ∀ d ∈ tables_1, d.before a0 Z = true) (ws : List Jvm.Cond) (p1 : Int32) (h0 : Heap) (n0 : Nat) (Z0 : n0 ≤ h0.size) (O : Old Z n0 h0) (cf : Cf Z p1) :
    MetFree l (⟨"java/lang/Integer", "valueOf", "(I)Ljava/lang/Integer;"⟩ : MethodName) (head1 (Jvm.Cond.code (⟨"java/lang/Integer", "valueOf", "(I)Ljava/lang/Integer;"⟩ : MethodName) jdk_33_method_22_code 1 (some (.object "java/lang/Integer")) :: ws) ({ frames := 3, cells := 1, slots := 1, locals := 38 } : Room)) (fun a U => a = #[(.int p1)] ∧ Z.Warmed39 U.vm ∧ U.heap = h0) (fun _ _ _ _ _ => True) (fun _ U o U' => ∃ v L, o = .returned v ∧ Q1 h0 n0 v U'.heap L ∧ FrameEnd U o U' L ({ frames := 3, cells := 1, slots := 1, locals := 38 } : Room).cells ({ frames := 3, cells := 1, slots := 1, locals := 38 } : Room).slots) := by
  by_cases c1 : p1 < (-128 : Int32)
  · exact rm1s l Z a0 hw ws p1 h0 n0 Z0 c1
  · by_cases c2 : (127 : Int32) < p1
    · exact rm1g l Z a0 hw ws p1 _ h0 n0 Z0 (cf.1.ext O.2) c1 c2
    · obtain ⟨w4, w6, cl, s1, s2, s3, s4⟩ := cf.2 c1 c2
      exact rm1c l Z a0 hw ws p1 _ w4 w6 cl h0 n0 Z0 (cf.1.ext O.2) (s1.ext O.2) (s2.ext O.2) s3 s4 c1 c2
theorem d2_0 : decode prog_46_method_1_code 0 = .ok (.aload_n 0, 1) := by decide +kernel
theorem d2_1 : decode prog_46_method_1_code 1 = .ok (.invokespecial 1, 3) := by decide +kernel
theorem d2_4 : decode prog_46_method_1_code 4 = .ok (.aload_n 0, 1) := by decide +kernel
theorem d2_5 : decode prog_46_method_1_code 5 = .ok (.aload_n 1, 1) := by decide +kernel
theorem d2_6 : decode prog_46_method_1_code 6 = .ok (.putfield 7, 3) := by decide +kernel
theorem d2_9 : decode prog_46_method_1_code 9 = .ok (.aload_n 0, 1) := by decide +kernel
theorem d2_10 : decode prog_46_method_1_code 10 = .ok (.iload_n 2, 1) := by decide +kernel
theorem d2_11 : decode prog_46_method_1_code 11 = .ok (.putfield 13, 3) := by decide +kernel
theorem d2_14 : decode prog_46_method_1_code 14 = .ok (.return_, 1) := by decide +kernel
theorem pn_2n0 : plainName "com/example/anemone/anemone/model/Recovered" = true := by first | (simp [plainName, overriddenIn]; done) | decide +kernel
theorem pd_2_2n0 : parseMethodDescriptor "()V" = some ⟨[], none⟩ := by decide +kernel
theorem ef_2n0 (m : MethodId) (x0 : Addr) (x2 : Int32) : entryFrame m #[(.ref x0), .null, (.int x2)] 3 = mkF m 0 #[.val (.ref x0), .val .null, .val (.int x2)] [] := by first | (simp [entryFrame, mkF, argsToLocals, Value.category]; done) | rfl
def Q2n0 (Z : State) (a1 : Addr) (h0 : Heap) (n0 : Nat) (v : Option Value) (h : Heap) (L : List Loc) : Prop := v = none ∧ Fr n0 L ∧ Keep h0 h [a1] ∧ Rc Z h a1 .null (0 : Int32)
set_option maxRecDepth 65536 in
set_option maxHeartbeats 40000000 in
theorem rm2n0 (l : Launch) (Z : State) (a0 : Array Value) (hw : ∀ d ∈ tables_1, d.before a0 Z = true) (ws : List Jvm.Cond) (a1 : Addr) (u_value_a1 : Value) (u_known_a1 : Value) (h0 : Heap) (n0 : Nat) (Z0 : n0 ≤ h0.size) (E_a1 : Exa Z h0 a1 "com/example/anemone/anemone/model/Recovered") (F_value_a1 : Fld Z h0 a1 "com/example/anemone/anemone/model/Recovered" "value" "Ljava/lang/Object;" u_value_a1) (g_a1 : n0 ≤ a1) (F_known_a1 : Fld Z h0 a1 "com/example/anemone/anemone/model/Recovered" "known" "Z" u_known_a1) :
    MetFree l (⟨"com/example/anemone/anemone/model/Recovered", "<init>", "(Ljava/lang/Object;Z)V"⟩ : MethodName) (head1 (Jvm.Cond.code (⟨"com/example/anemone/anemone/model/Recovered", "<init>", "(Ljava/lang/Object;Z)V"⟩ : MethodName) prog_46_method_1_code 3 none :: ws) ({ frames := 2, cells := 0, slots := 0, locals := 24 } : Room)) (fun a U => a = #[(.ref a1), .null, (.int (0 : Int32))] ∧ Z.Warmed39 U.vm ∧ U.heap = h0) (fun _ _ _ _ _ => True) (fun _ U o U' => ∃ v L, o = .returned v ∧ Q2n0 Z a1 h0 n0 v U'.heap L ∧ FrameEnd U o U' L ({ frames := 2, cells := 0, slots := 0, locals := 24 } : Room).cells ({ frames := 2, cells := 0, slots := 0, locals := 24 } : Room).slots) := by
  refine MetFree.of_bodySF (plainFor_of_name pn_2n0) hisR ?_
  intro p e s m args below meth c s₁ Bd hml0 hP hK
  obtain ⟨rfl, hZ, hh⟩ := hP
  have hx := Bd.exec
  have hby := Bd.bytes
  have hml : c.maxLocals = 3 := hml0
  have hown : s.vm.findClass "com/example/anemone/anemone/model/Recovered" = some m.cls := findClass_of_methodNamed Bd.named
  have hnm := (name_of_methodNamed Bd.named Bd.method).1
  have X0 : Stand p l e ({ frames := 2, cells := 0, slots := 0, locals := 24 } : Room) s m #[(.ref a1), .null, (.int (0 : Int32))] below meth c s₁ [] 0 0 := Stand.of_body Bd
  have e0 : s₁.heap = h0 := by rw [← hh, Bd.state]; rfl
  have N0 := Fr.nil n0
  have pre0 : ∀ t, Steps p.tables e below (s₁.setTop (mkF m 0 #[.val (.ref a1), .val .null, .val (.int (0 : Int32))] [])) t → Steps p.tables e below (s₁.setTop (entryFrame m #[(.ref a1), .null, (.int (0 : Int32))] 3)) t := fun t k => castTop (ef_2n0 m a1 (0 : Int32)) k
  obtain ⟨_, _, ⟨T3, L3, k3, n3⟩, -, X3, ⟨Lc3, hQ3, l3, y3, z3⟩, st3⟩ := X0.specialBack hx (y := (⟨"java/lang/Record", "<init>", "()V"⟩ : MethodName)) rfl hown (mvT hZ (hw _ (List.mem_of_getElem? (i := 13) rfl))) (mvT hZ (hw _ (List.mem_of_getElem? (i := 14) rfl))) (mvT hZ (hw _ (List.mem_of_getElem? (i := 17) rfl))) (by decide) (backOf (W := 0) (rm3 l Z a0 hw [] a1 h0 n0 Z0) hZ (hw _ (List.mem_of_getElem? (i := 17) rfl)) (hw _ (List.mem_of_getElem? (i := 16) rfl)) (by decide) (by decide)) (g := (mkF m 1 #[.val (.ref a1), .val .null, .val (.int (0 : Int32))] [(.ref a1)])) rfl (by rw [hml]; rfl) (Steps.refl _) (a := a1) (argsL := []) (rest := []) (lenOf pd_2_2n0 rfl) rfl (by show 2 * 0 + _ ≤ _; exact Nat.le_of_eq rfl) (hb hby d2_1) (fun _ _ => ⟨rfl, e0, (Nat.le_of_ble_eq_true rfl), (Nat.le_of_ble_eq_true rfl)⟩)
  dsimp only [Pt.U, Pt.locs, Pt.cells, Pt.slots] at X3 l3 y3 z3 st3 hQ3
  subst l3 y3 z3
  obtain ⟨rfl, N3q, rfl⟩ := hQ3
  have N3 := Fr.app N0 N3q
  obtain ⟨T4, h4, X4, e4, W4, st4⟩ := putF X3 hx hZ hown (host := "") (Or.inl (hw _ (List.mem_of_getElem? (i := 21) rfl))) Via.refl rfl F_value_a1 E_a1 (Or.inr ⟨(hw _ (List.mem_of_getElem? (i := 22) rfl)), rfl, hnm⟩) (hw _ (List.mem_of_getElem? (i := 8) rfl)) (ty := (.object "java/lang/Object")) (by decide) rfl rfl (g := (mkF m 6 #[.val (.ref a1), .val .null, .val (.int (0 : Int32))] [.null, (.ref a1)])) rfl rfl (hb hby d2_6)
  have Fw4 := F_value_a1.same W4
  have K4 : Keep _ h4 [a1] := (Keep.refl _ _).wr W4 (Or.inl (List.mem_of_getElem? (i := 0) rfl))
  have N4 := Fr.snoc X4 N3 g_a1
  obtain ⟨T5, h5, X5, e5, W5, st5⟩ := putFN X4 hx hZ hown (hw _ (List.mem_of_getElem? (i := 23) rfl)) Via.refl e4 (F_known_a1.other W4 (Or.inr (slot_ne (Or.inr (hw _ (List.mem_of_getElem? (i := 24) rfl))) (Or.inr (hw _ (List.mem_of_getElem? (i := 22) rfl))) (by decide) (t := .boolean) (t' := (.object "java/lang/Object")) (by decide) (by decide)))) (E_a1.wr W4) (Or.inr ⟨(hw _ (List.mem_of_getElem? (i := 24) rfl)), rfl, hnm⟩) (hw _ (List.mem_of_getElem? (i := 8) rfl)) (ty := .boolean) (v' := (.int (0 : Int32))) (by decide) rfl rfl (g := (mkF m 11 #[.val (.ref a1), .val .null, .val (.int (0 : Int32))] [(.int (0 : Int32)), (.ref a1)])) rfl rfl (hb hby d2_11)
  have Fw5 := (F_known_a1.other W4 (Or.inr (slot_ne (Or.inr (hw _ (List.mem_of_getElem? (i := 24) rfl))) (Or.inr (hw _ (List.mem_of_getElem? (i := 22) rfl))) (by decide) (t := .boolean) (t' := (.object "java/lang/Object")) (by decide) (by decide)))).same W5
  have K5 : Keep _ h5 [a1] := K4.wr W5 (Or.inl (List.mem_of_getElem? (i := 0) rfl))
  have N5 := Fr.snoc X5 N4 g_a1
  obtain ⟨fs, hr, hrun, hended, hW, hsame⟩ := X5.leave (v := none) (fun _ => rfl)
  refine ⟨_, _, pre0 _ ?_, hrun, hended, _, _, rfl, ?_, ⟨_, rfl⟩, hW, hsame.mono (by decide) (by decide)⟩
  · show Steps p.tables e below (s₁.setTop (mkF m 0 #[.val (.ref a1), .val .null, .val (.int (0 : Int32))] [])) _
    refine XS.aloadN X0.here hx rfl (hb hby d2_0) rfl rfl ?_
    show Steps p.tables e below (s₁.setTop (mkF m 1 #[.val (.ref a1), .val .null, .val (.int (0 : Int32))] [(.ref a1)])) _
    refine st3.trans ?_
    show Steps p.tables e below (T3.setTop (mkF m 4 #[.val (.ref a1), .val .null, .val (.int (0 : Int32))] [])) _
    refine XS.aloadN X3.here hx rfl (hb hby d2_4) rfl rfl ?_
    show Steps p.tables e below (T3.setTop (mkF m 5 #[.val (.ref a1), .val .null, .val (.int (0 : Int32))] [(.ref a1)])) _
    refine XS.aloadN X3.here hx rfl (hb hby d2_5) rfl rfl ?_
    show Steps p.tables e below (T3.setTop (mkF m 6 #[.val (.ref a1), .val .null, .val (.int (0 : Int32))] [.null, (.ref a1)])) _
    refine st4 _ ?_
    show Steps p.tables e below (T4.setTop (mkF m 9 #[.val (.ref a1), .val .null, .val (.int (0 : Int32))] [])) _
    refine XS.aloadN X4.here hx rfl (hb hby d2_9) rfl rfl ?_
    show Steps p.tables e below (T4.setTop (mkF m 10 #[.val (.ref a1), .val .null, .val (.int (0 : Int32))] [(.ref a1)])) _
    refine XS.iloadN X4.here hx rfl (hb hby d2_10) rfl ?_
    show Steps p.tables e below (T4.setTop (mkF m 11 #[.val (.ref a1), .val .null, .val (.int (0 : Int32))] [(.int (0 : Int32)), (.ref a1)])) _
    refine st5 _ ?_
    show Steps p.tables e below (T5.setTop (mkF m 14 #[.val (.ref a1), .val .null, .val (.int (0 : Int32))] [])) _
    exact X5.returnOut hx Bd.returns (hb hby d2_14) hr
  · show Q2n0 Z a1 _ n0 _ T5.heap _
    rw [e5]
    exact ⟨rfl, N5, K5, ((E_a1.wr W4).wr W5), Fw4.other W5 (Or.inr (slot_ne (Or.inr (hw _ (List.mem_of_getElem? (i := 22) rfl))) (Or.inr (hw _ (List.mem_of_getElem? (i := 24) rfl))) (by decide) (t := (.object "java/lang/Object")) (t' := .boolean) (by decide) (by decide))), Fw5⟩
theorem pn_2n1 : plainName "com/example/anemone/anemone/model/Recovered" = true := by first | (simp [plainName, overriddenIn]; done) | decide +kernel
theorem pd_2_2n1 : parseMethodDescriptor "()V" = some ⟨[], none⟩ := by decide +kernel
theorem ef_2n1 (m : MethodId) (x0 : Addr) (x2 : Int32) : entryFrame m #[(.ref x0), .null, (.int x2)] 3 = mkF m 0 #[.val (.ref x0), .val .null, .val (.int x2)] [] := by first | (simp [entryFrame, mkF, argsToLocals, Value.category]; done) | rfl
def Q2n1 (Z : State) (a1 : Addr) (h0 : Heap) (n0 : Nat) (v : Option Value) (h : Heap) (L : List Loc) : Prop := v = none ∧ Fr n0 L ∧ Keep h0 h [a1] ∧ Rc Z h a1 .null (1 : Int32)
set_option maxRecDepth 65536 in
set_option maxHeartbeats 40000000 in
theorem rm2n1 (l : Launch) (Z : State) (a0 : Array Value) (hw : ∀ d ∈ tables_1, d.before a0 Z = true) (ws : List Jvm.Cond) (a1 : Addr) (u_value_a1 : Value) (u_known_a1 : Value) (h0 : Heap) (n0 : Nat) (Z0 : n0 ≤ h0.size) (E_a1 : Exa Z h0 a1 "com/example/anemone/anemone/model/Recovered") (F_value_a1 : Fld Z h0 a1 "com/example/anemone/anemone/model/Recovered" "value" "Ljava/lang/Object;" u_value_a1) (g_a1 : n0 ≤ a1) (F_known_a1 : Fld Z h0 a1 "com/example/anemone/anemone/model/Recovered" "known" "Z" u_known_a1) :
    MetFree l (⟨"com/example/anemone/anemone/model/Recovered", "<init>", "(Ljava/lang/Object;Z)V"⟩ : MethodName) (head1 (Jvm.Cond.code (⟨"com/example/anemone/anemone/model/Recovered", "<init>", "(Ljava/lang/Object;Z)V"⟩ : MethodName) prog_46_method_1_code 3 none :: ws) ({ frames := 2, cells := 0, slots := 0, locals := 24 } : Room)) (fun a U => a = #[(.ref a1), .null, (.int (1 : Int32))] ∧ Z.Warmed39 U.vm ∧ U.heap = h0) (fun _ _ _ _ _ => True) (fun _ U o U' => ∃ v L, o = .returned v ∧ Q2n1 Z a1 h0 n0 v U'.heap L ∧ FrameEnd U o U' L ({ frames := 2, cells := 0, slots := 0, locals := 24 } : Room).cells ({ frames := 2, cells := 0, slots := 0, locals := 24 } : Room).slots) := by
  refine MetFree.of_bodySF (plainFor_of_name pn_2n1) hisR ?_
  intro p e s m args below meth c s₁ Bd hml0 hP hK
  obtain ⟨rfl, hZ, hh⟩ := hP
  have hx := Bd.exec
  have hby := Bd.bytes
  have hml : c.maxLocals = 3 := hml0
  have hown : s.vm.findClass "com/example/anemone/anemone/model/Recovered" = some m.cls := findClass_of_methodNamed Bd.named
  have hnm := (name_of_methodNamed Bd.named Bd.method).1
  have X0 : Stand p l e ({ frames := 2, cells := 0, slots := 0, locals := 24 } : Room) s m #[(.ref a1), .null, (.int (1 : Int32))] below meth c s₁ [] 0 0 := Stand.of_body Bd
  have e0 : s₁.heap = h0 := by rw [← hh, Bd.state]; rfl
  have N0 := Fr.nil n0
  have pre0 : ∀ t, Steps p.tables e below (s₁.setTop (mkF m 0 #[.val (.ref a1), .val .null, .val (.int (1 : Int32))] [])) t → Steps p.tables e below (s₁.setTop (entryFrame m #[(.ref a1), .null, (.int (1 : Int32))] 3)) t := fun t k => castTop (ef_2n1 m a1 (1 : Int32)) k
  obtain ⟨_, _, ⟨T3, L3, k3, n3⟩, -, X3, ⟨Lc3, hQ3, l3, y3, z3⟩, st3⟩ := X0.specialBack hx (y := (⟨"java/lang/Record", "<init>", "()V"⟩ : MethodName)) rfl hown (mvT hZ (hw _ (List.mem_of_getElem? (i := 13) rfl))) (mvT hZ (hw _ (List.mem_of_getElem? (i := 14) rfl))) (mvT hZ (hw _ (List.mem_of_getElem? (i := 17) rfl))) (by decide) (backOf (W := 0) (rm3 l Z a0 hw [] a1 h0 n0 Z0) hZ (hw _ (List.mem_of_getElem? (i := 17) rfl)) (hw _ (List.mem_of_getElem? (i := 16) rfl)) (by decide) (by decide)) (g := (mkF m 1 #[.val (.ref a1), .val .null, .val (.int (1 : Int32))] [(.ref a1)])) rfl (by rw [hml]; rfl) (Steps.refl _) (a := a1) (argsL := []) (rest := []) (lenOf pd_2_2n1 rfl) rfl (by show 2 * 0 + _ ≤ _; exact Nat.le_of_eq rfl) (hb hby d2_1) (fun _ _ => ⟨rfl, e0, (Nat.le_of_ble_eq_true rfl), (Nat.le_of_ble_eq_true rfl)⟩)
  dsimp only [Pt.U, Pt.locs, Pt.cells, Pt.slots] at X3 l3 y3 z3 st3 hQ3
  subst l3 y3 z3
  obtain ⟨rfl, N3q, rfl⟩ := hQ3
  have N3 := Fr.app N0 N3q
  obtain ⟨T4, h4, X4, e4, W4, st4⟩ := putF X3 hx hZ hown (host := "") (Or.inl (hw _ (List.mem_of_getElem? (i := 21) rfl))) Via.refl rfl F_value_a1 E_a1 (Or.inr ⟨(hw _ (List.mem_of_getElem? (i := 22) rfl)), rfl, hnm⟩) (hw _ (List.mem_of_getElem? (i := 8) rfl)) (ty := (.object "java/lang/Object")) (by decide) rfl rfl (g := (mkF m 6 #[.val (.ref a1), .val .null, .val (.int (1 : Int32))] [.null, (.ref a1)])) rfl rfl (hb hby d2_6)
  have Fw4 := F_value_a1.same W4
  have K4 : Keep _ h4 [a1] := (Keep.refl _ _).wr W4 (Or.inl (List.mem_of_getElem? (i := 0) rfl))
  have N4 := Fr.snoc X4 N3 g_a1
  obtain ⟨T5, h5, X5, e5, W5, st5⟩ := putFN X4 hx hZ hown (hw _ (List.mem_of_getElem? (i := 23) rfl)) Via.refl e4 (F_known_a1.other W4 (Or.inr (slot_ne (Or.inr (hw _ (List.mem_of_getElem? (i := 24) rfl))) (Or.inr (hw _ (List.mem_of_getElem? (i := 22) rfl))) (by decide) (t := .boolean) (t' := (.object "java/lang/Object")) (by decide) (by decide)))) (E_a1.wr W4) (Or.inr ⟨(hw _ (List.mem_of_getElem? (i := 24) rfl)), rfl, hnm⟩) (hw _ (List.mem_of_getElem? (i := 8) rfl)) (ty := .boolean) (v' := (.int (1 : Int32))) (by decide) rfl rfl (g := (mkF m 11 #[.val (.ref a1), .val .null, .val (.int (1 : Int32))] [(.int (1 : Int32)), (.ref a1)])) rfl rfl (hb hby d2_11)
  have Fw5 := (F_known_a1.other W4 (Or.inr (slot_ne (Or.inr (hw _ (List.mem_of_getElem? (i := 24) rfl))) (Or.inr (hw _ (List.mem_of_getElem? (i := 22) rfl))) (by decide) (t := .boolean) (t' := (.object "java/lang/Object")) (by decide) (by decide)))).same W5
  have K5 : Keep _ h5 [a1] := K4.wr W5 (Or.inl (List.mem_of_getElem? (i := 0) rfl))
  have N5 := Fr.snoc X5 N4 g_a1
  obtain ⟨fs, hr, hrun, hended, hW, hsame⟩ := X5.leave (v := none) (fun _ => rfl)
  refine ⟨_, _, pre0 _ ?_, hrun, hended, _, _, rfl, ?_, ⟨_, rfl⟩, hW, hsame.mono (by decide) (by decide)⟩
  · show Steps p.tables e below (s₁.setTop (mkF m 0 #[.val (.ref a1), .val .null, .val (.int (1 : Int32))] [])) _
    refine XS.aloadN X0.here hx rfl (hb hby d2_0) rfl rfl ?_
    show Steps p.tables e below (s₁.setTop (mkF m 1 #[.val (.ref a1), .val .null, .val (.int (1 : Int32))] [(.ref a1)])) _
    refine st3.trans ?_
    show Steps p.tables e below (T3.setTop (mkF m 4 #[.val (.ref a1), .val .null, .val (.int (1 : Int32))] [])) _
    refine XS.aloadN X3.here hx rfl (hb hby d2_4) rfl rfl ?_
    show Steps p.tables e below (T3.setTop (mkF m 5 #[.val (.ref a1), .val .null, .val (.int (1 : Int32))] [(.ref a1)])) _
    refine XS.aloadN X3.here hx rfl (hb hby d2_5) rfl rfl ?_
    show Steps p.tables e below (T3.setTop (mkF m 6 #[.val (.ref a1), .val .null, .val (.int (1 : Int32))] [.null, (.ref a1)])) _
    refine st4 _ ?_
    show Steps p.tables e below (T4.setTop (mkF m 9 #[.val (.ref a1), .val .null, .val (.int (1 : Int32))] [])) _
    refine XS.aloadN X4.here hx rfl (hb hby d2_9) rfl rfl ?_
    show Steps p.tables e below (T4.setTop (mkF m 10 #[.val (.ref a1), .val .null, .val (.int (1 : Int32))] [(.ref a1)])) _
    refine XS.iloadN X4.here hx rfl (hb hby d2_10) rfl ?_
    show Steps p.tables e below (T4.setTop (mkF m 11 #[.val (.ref a1), .val .null, .val (.int (1 : Int32))] [(.int (1 : Int32)), (.ref a1)])) _
    refine st5 _ ?_
    show Steps p.tables e below (T5.setTop (mkF m 14 #[.val (.ref a1), .val .null, .val (.int (1 : Int32))] [])) _
    exact X5.returnOut hx Bd.returns (hb hby d2_14) hr
  · show Q2n1 Z a1 _ n0 _ T5.heap _
    rw [e5]
    exact ⟨rfl, N5, K5, ((E_a1.wr W4).wr W5), Fw4.other W5 (Or.inr (slot_ne (Or.inr (hw _ (List.mem_of_getElem? (i := 22) rfl))) (Or.inr (hw _ (List.mem_of_getElem? (i := 24) rfl))) (by decide) (t := (.object "java/lang/Object")) (t' := .boolean) (by decide) (by decide))), Fw5⟩
theorem pn_2r0 : plainName "com/example/anemone/anemone/model/Recovered" = true := by first | (simp [plainName, overriddenIn]; done) | decide +kernel
theorem pd_2_2r0 : parseMethodDescriptor "()V" = some ⟨[], none⟩ := by decide +kernel
theorem ef_2r0 (m : MethodId) (x0 : Addr) (x1 : Addr) (x2 : Int32) : entryFrame m #[(.ref x0), (.ref x1), (.int x2)] 3 = mkF m 0 #[.val (.ref x0), .val (.ref x1), .val (.int x2)] [] := by first | (simp [entryFrame, mkF, argsToLocals, Value.category]; done) | rfl
def Q2r0 (Z : State) (a1 : Addr) (a2 : Addr) (h0 : Heap) (n0 : Nat) (v : Option Value) (h : Heap) (L : List Loc) : Prop := v = none ∧ Fr n0 L ∧ Keep h0 h [a1] ∧ Rc Z h a1 (.ref a2) (0 : Int32)
set_option maxRecDepth 65536 in
set_option maxHeartbeats 40000000 in
theorem rm2r0 (l : Launch) (Z : State) (a0 : Array Value) (hw : ∀ d ∈ tables_1, d.before a0 Z = true) (ws : List Jvm.Cond) (a1 : Addr) (a2 : Addr) (u_value_a1 : Value) (u_known_a1 : Value) (h0 : Heap) (n0 : Nat) (Z0 : n0 ≤ h0.size) (E_a1 : Exa Z h0 a1 "com/example/anemone/anemone/model/Recovered") (F_value_a1 : Fld Z h0 a1 "com/example/anemone/anemone/model/Recovered" "value" "Ljava/lang/Object;" u_value_a1) (g_a1 : n0 ≤ a1) (F_known_a1 : Fld Z h0 a1 "com/example/anemone/anemone/model/Recovered" "known" "Z" u_known_a1) :
    MetFree l (⟨"com/example/anemone/anemone/model/Recovered", "<init>", "(Ljava/lang/Object;Z)V"⟩ : MethodName) (head1 (Jvm.Cond.code (⟨"com/example/anemone/anemone/model/Recovered", "<init>", "(Ljava/lang/Object;Z)V"⟩ : MethodName) prog_46_method_1_code 3 none :: ws) ({ frames := 2, cells := 0, slots := 0, locals := 24 } : Room)) (fun a U => a = #[(.ref a1), (.ref a2), (.int (0 : Int32))] ∧ Z.Warmed39 U.vm ∧ U.heap = h0) (fun _ _ _ _ _ => True) (fun _ U o U' => ∃ v L, o = .returned v ∧ Q2r0 Z a1 a2 h0 n0 v U'.heap L ∧ FrameEnd U o U' L ({ frames := 2, cells := 0, slots := 0, locals := 24 } : Room).cells ({ frames := 2, cells := 0, slots := 0, locals := 24 } : Room).slots) := by
  refine MetFree.of_bodySF (plainFor_of_name pn_2r0) hisR ?_
  intro p e s m args below meth c s₁ Bd hml0 hP hK
  obtain ⟨rfl, hZ, hh⟩ := hP
  have hx := Bd.exec
  have hby := Bd.bytes
  have hml : c.maxLocals = 3 := hml0
  have hown : s.vm.findClass "com/example/anemone/anemone/model/Recovered" = some m.cls := findClass_of_methodNamed Bd.named
  have hnm := (name_of_methodNamed Bd.named Bd.method).1
  have X0 : Stand p l e ({ frames := 2, cells := 0, slots := 0, locals := 24 } : Room) s m #[(.ref a1), (.ref a2), (.int (0 : Int32))] below meth c s₁ [] 0 0 := Stand.of_body Bd
  have e0 : s₁.heap = h0 := by rw [← hh, Bd.state]; rfl
  have N0 := Fr.nil n0
  have pre0 : ∀ t, Steps p.tables e below (s₁.setTop (mkF m 0 #[.val (.ref a1), .val (.ref a2), .val (.int (0 : Int32))] [])) t → Steps p.tables e below (s₁.setTop (entryFrame m #[(.ref a1), (.ref a2), (.int (0 : Int32))] 3)) t := fun t k => castTop (ef_2r0 m a1 a2 (0 : Int32)) k
  obtain ⟨_, _, ⟨T4, L4, k4, n4⟩, -, X4, ⟨Lc4, hQ4, l4, y4, z4⟩, st4⟩ := X0.specialBack hx (y := (⟨"java/lang/Record", "<init>", "()V"⟩ : MethodName)) rfl hown (mvT hZ (hw _ (List.mem_of_getElem? (i := 13) rfl))) (mvT hZ (hw _ (List.mem_of_getElem? (i := 14) rfl))) (mvT hZ (hw _ (List.mem_of_getElem? (i := 17) rfl))) (by decide) (backOf (W := 0) (rm3 l Z a0 hw [] a1 h0 n0 Z0) hZ (hw _ (List.mem_of_getElem? (i := 17) rfl)) (hw _ (List.mem_of_getElem? (i := 16) rfl)) (by decide) (by decide)) (g := (mkF m 1 #[.val (.ref a1), .val (.ref a2), .val (.int (0 : Int32))] [(.ref a1)])) rfl (by rw [hml]; rfl) (Steps.refl _) (a := a1) (argsL := []) (rest := []) (lenOf pd_2_2r0 rfl) rfl (by show 2 * 0 + _ ≤ _; exact Nat.le_of_eq rfl) (hb hby d2_1) (fun _ _ => ⟨rfl, e0, (Nat.le_of_ble_eq_true rfl), (Nat.le_of_ble_eq_true rfl)⟩)
  dsimp only [Pt.U, Pt.locs, Pt.cells, Pt.slots] at X4 l4 y4 z4 st4 hQ4
  subst l4 y4 z4
  obtain ⟨rfl, N4q, rfl⟩ := hQ4
  have N4 := Fr.app N0 N4q
  obtain ⟨T5, h5, X5, e5, W5, st5⟩ := putF X4 hx hZ hown (host := "") (Or.inl (hw _ (List.mem_of_getElem? (i := 21) rfl))) Via.refl rfl F_value_a1 E_a1 (Or.inr ⟨(hw _ (List.mem_of_getElem? (i := 22) rfl)), rfl, hnm⟩) (hw _ (List.mem_of_getElem? (i := 8) rfl)) (ty := (.object "java/lang/Object")) (by decide) rfl rfl (g := (mkF m 6 #[.val (.ref a1), .val (.ref a2), .val (.int (0 : Int32))] [(.ref a2), (.ref a1)])) rfl rfl (hb hby d2_6)
  have Fw5 := F_value_a1.same W5
  have K5 : Keep _ h5 [a1] := (Keep.refl _ _).wr W5 (Or.inl (List.mem_of_getElem? (i := 0) rfl))
  have N5 := Fr.snoc X5 N4 g_a1
  obtain ⟨T6, h6, X6, e6, W6, st6⟩ := putFN X5 hx hZ hown (hw _ (List.mem_of_getElem? (i := 23) rfl)) Via.refl e5 (F_known_a1.other W5 (Or.inr (slot_ne (Or.inr (hw _ (List.mem_of_getElem? (i := 24) rfl))) (Or.inr (hw _ (List.mem_of_getElem? (i := 22) rfl))) (by decide) (t := .boolean) (t' := (.object "java/lang/Object")) (by decide) (by decide)))) (E_a1.wr W5) (Or.inr ⟨(hw _ (List.mem_of_getElem? (i := 24) rfl)), rfl, hnm⟩) (hw _ (List.mem_of_getElem? (i := 8) rfl)) (ty := .boolean) (v' := (.int (0 : Int32))) (by decide) rfl rfl (g := (mkF m 11 #[.val (.ref a1), .val (.ref a2), .val (.int (0 : Int32))] [(.int (0 : Int32)), (.ref a1)])) rfl rfl (hb hby d2_11)
  have Fw6 := (F_known_a1.other W5 (Or.inr (slot_ne (Or.inr (hw _ (List.mem_of_getElem? (i := 24) rfl))) (Or.inr (hw _ (List.mem_of_getElem? (i := 22) rfl))) (by decide) (t := .boolean) (t' := (.object "java/lang/Object")) (by decide) (by decide)))).same W6
  have K6 : Keep _ h6 [a1] := K5.wr W6 (Or.inl (List.mem_of_getElem? (i := 0) rfl))
  have N6 := Fr.snoc X6 N5 g_a1
  obtain ⟨fs, hr, hrun, hended, hW, hsame⟩ := X6.leave (v := none) (fun _ => rfl)
  refine ⟨_, _, pre0 _ ?_, hrun, hended, _, _, rfl, ?_, ⟨_, rfl⟩, hW, hsame.mono (by decide) (by decide)⟩
  · show Steps p.tables e below (s₁.setTop (mkF m 0 #[.val (.ref a1), .val (.ref a2), .val (.int (0 : Int32))] [])) _
    refine XS.aloadN X0.here hx rfl (hb hby d2_0) rfl rfl ?_
    show Steps p.tables e below (s₁.setTop (mkF m 1 #[.val (.ref a1), .val (.ref a2), .val (.int (0 : Int32))] [(.ref a1)])) _
    refine st4.trans ?_
    show Steps p.tables e below (T4.setTop (mkF m 4 #[.val (.ref a1), .val (.ref a2), .val (.int (0 : Int32))] [])) _
    refine XS.aloadN X4.here hx rfl (hb hby d2_4) rfl rfl ?_
    show Steps p.tables e below (T4.setTop (mkF m 5 #[.val (.ref a1), .val (.ref a2), .val (.int (0 : Int32))] [(.ref a1)])) _
    refine XS.aloadN X4.here hx rfl (hb hby d2_5) rfl rfl ?_
    show Steps p.tables e below (T4.setTop (mkF m 6 #[.val (.ref a1), .val (.ref a2), .val (.int (0 : Int32))] [(.ref a2), (.ref a1)])) _
    refine st5 _ ?_
    show Steps p.tables e below (T5.setTop (mkF m 9 #[.val (.ref a1), .val (.ref a2), .val (.int (0 : Int32))] [])) _
    refine XS.aloadN X5.here hx rfl (hb hby d2_9) rfl rfl ?_
    show Steps p.tables e below (T5.setTop (mkF m 10 #[.val (.ref a1), .val (.ref a2), .val (.int (0 : Int32))] [(.ref a1)])) _
    refine XS.iloadN X5.here hx rfl (hb hby d2_10) rfl ?_
    show Steps p.tables e below (T5.setTop (mkF m 11 #[.val (.ref a1), .val (.ref a2), .val (.int (0 : Int32))] [(.int (0 : Int32)), (.ref a1)])) _
    refine st6 _ ?_
    show Steps p.tables e below (T6.setTop (mkF m 14 #[.val (.ref a1), .val (.ref a2), .val (.int (0 : Int32))] [])) _
    exact X6.returnOut hx Bd.returns (hb hby d2_14) hr
  · show Q2r0 Z a1 a2 _ n0 _ T6.heap _
    rw [e6]
    exact ⟨rfl, N6, K6, ((E_a1.wr W5).wr W6), Fw5.other W6 (Or.inr (slot_ne (Or.inr (hw _ (List.mem_of_getElem? (i := 22) rfl))) (Or.inr (hw _ (List.mem_of_getElem? (i := 24) rfl))) (by decide) (t := (.object "java/lang/Object")) (t' := .boolean) (by decide) (by decide))), Fw6⟩
theorem pn_2r1 : plainName "com/example/anemone/anemone/model/Recovered" = true := by first | (simp [plainName, overriddenIn]; done) | decide +kernel
theorem pd_2_2r1 : parseMethodDescriptor "()V" = some ⟨[], none⟩ := by decide +kernel
theorem ef_2r1 (m : MethodId) (x0 : Addr) (x1 : Addr) (x2 : Int32) : entryFrame m #[(.ref x0), (.ref x1), (.int x2)] 3 = mkF m 0 #[.val (.ref x0), .val (.ref x1), .val (.int x2)] [] := by first | (simp [entryFrame, mkF, argsToLocals, Value.category]; done) | rfl
def Q2r1 (Z : State) (a1 : Addr) (a2 : Addr) (h0 : Heap) (n0 : Nat) (v : Option Value) (h : Heap) (L : List Loc) : Prop := v = none ∧ Fr n0 L ∧ Keep h0 h [a1] ∧ Rc Z h a1 (.ref a2) (1 : Int32)
set_option maxRecDepth 65536 in
set_option maxHeartbeats 40000000 in
theorem rm2r1 (l : Launch) (Z : State) (a0 : Array Value) (hw : ∀ d ∈ tables_1, d.before a0 Z = true) (ws : List Jvm.Cond) (a1 : Addr) (a2 : Addr) (u_value_a1 : Value) (u_known_a1 : Value) (h0 : Heap) (n0 : Nat) (Z0 : n0 ≤ h0.size) (E_a1 : Exa Z h0 a1 "com/example/anemone/anemone/model/Recovered") (F_value_a1 : Fld Z h0 a1 "com/example/anemone/anemone/model/Recovered" "value" "Ljava/lang/Object;" u_value_a1) (g_a1 : n0 ≤ a1) (F_known_a1 : Fld Z h0 a1 "com/example/anemone/anemone/model/Recovered" "known" "Z" u_known_a1) :
    MetFree l (⟨"com/example/anemone/anemone/model/Recovered", "<init>", "(Ljava/lang/Object;Z)V"⟩ : MethodName) (head1 (Jvm.Cond.code (⟨"com/example/anemone/anemone/model/Recovered", "<init>", "(Ljava/lang/Object;Z)V"⟩ : MethodName) prog_46_method_1_code 3 none :: ws) ({ frames := 2, cells := 0, slots := 0, locals := 24 } : Room)) (fun a U => a = #[(.ref a1), (.ref a2), (.int (1 : Int32))] ∧ Z.Warmed39 U.vm ∧ U.heap = h0) (fun _ _ _ _ _ => True) (fun _ U o U' => ∃ v L, o = .returned v ∧ Q2r1 Z a1 a2 h0 n0 v U'.heap L ∧ FrameEnd U o U' L ({ frames := 2, cells := 0, slots := 0, locals := 24 } : Room).cells ({ frames := 2, cells := 0, slots := 0, locals := 24 } : Room).slots) := by
  refine MetFree.of_bodySF (plainFor_of_name pn_2r1) hisR ?_
  intro p e s m args below meth c s₁ Bd hml0 hP hK
  obtain ⟨rfl, hZ, hh⟩ := hP
  have hx := Bd.exec
  have hby := Bd.bytes
  have hml : c.maxLocals = 3 := hml0
  have hown : s.vm.findClass "com/example/anemone/anemone/model/Recovered" = some m.cls := findClass_of_methodNamed Bd.named
  have hnm := (name_of_methodNamed Bd.named Bd.method).1
  have X0 : Stand p l e ({ frames := 2, cells := 0, slots := 0, locals := 24 } : Room) s m #[(.ref a1), (.ref a2), (.int (1 : Int32))] below meth c s₁ [] 0 0 := Stand.of_body Bd
  have e0 : s₁.heap = h0 := by rw [← hh, Bd.state]; rfl
  have N0 := Fr.nil n0
  have pre0 : ∀ t, Steps p.tables e below (s₁.setTop (mkF m 0 #[.val (.ref a1), .val (.ref a2), .val (.int (1 : Int32))] [])) t → Steps p.tables e below (s₁.setTop (entryFrame m #[(.ref a1), (.ref a2), (.int (1 : Int32))] 3)) t := fun t k => castTop (ef_2r1 m a1 a2 (1 : Int32)) k
  obtain ⟨_, _, ⟨T4, L4, k4, n4⟩, -, X4, ⟨Lc4, hQ4, l4, y4, z4⟩, st4⟩ := X0.specialBack hx (y := (⟨"java/lang/Record", "<init>", "()V"⟩ : MethodName)) rfl hown (mvT hZ (hw _ (List.mem_of_getElem? (i := 13) rfl))) (mvT hZ (hw _ (List.mem_of_getElem? (i := 14) rfl))) (mvT hZ (hw _ (List.mem_of_getElem? (i := 17) rfl))) (by decide) (backOf (W := 0) (rm3 l Z a0 hw [] a1 h0 n0 Z0) hZ (hw _ (List.mem_of_getElem? (i := 17) rfl)) (hw _ (List.mem_of_getElem? (i := 16) rfl)) (by decide) (by decide)) (g := (mkF m 1 #[.val (.ref a1), .val (.ref a2), .val (.int (1 : Int32))] [(.ref a1)])) rfl (by rw [hml]; rfl) (Steps.refl _) (a := a1) (argsL := []) (rest := []) (lenOf pd_2_2r1 rfl) rfl (by show 2 * 0 + _ ≤ _; exact Nat.le_of_eq rfl) (hb hby d2_1) (fun _ _ => ⟨rfl, e0, (Nat.le_of_ble_eq_true rfl), (Nat.le_of_ble_eq_true rfl)⟩)
  dsimp only [Pt.U, Pt.locs, Pt.cells, Pt.slots] at X4 l4 y4 z4 st4 hQ4
  subst l4 y4 z4
  obtain ⟨rfl, N4q, rfl⟩ := hQ4
  have N4 := Fr.app N0 N4q
  obtain ⟨T5, h5, X5, e5, W5, st5⟩ := putF X4 hx hZ hown (host := "") (Or.inl (hw _ (List.mem_of_getElem? (i := 21) rfl))) Via.refl rfl F_value_a1 E_a1 (Or.inr ⟨(hw _ (List.mem_of_getElem? (i := 22) rfl)), rfl, hnm⟩) (hw _ (List.mem_of_getElem? (i := 8) rfl)) (ty := (.object "java/lang/Object")) (by decide) rfl rfl (g := (mkF m 6 #[.val (.ref a1), .val (.ref a2), .val (.int (1 : Int32))] [(.ref a2), (.ref a1)])) rfl rfl (hb hby d2_6)
  have Fw5 := F_value_a1.same W5
  have K5 : Keep _ h5 [a1] := (Keep.refl _ _).wr W5 (Or.inl (List.mem_of_getElem? (i := 0) rfl))
  have N5 := Fr.snoc X5 N4 g_a1
  obtain ⟨T6, h6, X6, e6, W6, st6⟩ := putFN X5 hx hZ hown (hw _ (List.mem_of_getElem? (i := 23) rfl)) Via.refl e5 (F_known_a1.other W5 (Or.inr (slot_ne (Or.inr (hw _ (List.mem_of_getElem? (i := 24) rfl))) (Or.inr (hw _ (List.mem_of_getElem? (i := 22) rfl))) (by decide) (t := .boolean) (t' := (.object "java/lang/Object")) (by decide) (by decide)))) (E_a1.wr W5) (Or.inr ⟨(hw _ (List.mem_of_getElem? (i := 24) rfl)), rfl, hnm⟩) (hw _ (List.mem_of_getElem? (i := 8) rfl)) (ty := .boolean) (v' := (.int (1 : Int32))) (by decide) rfl rfl (g := (mkF m 11 #[.val (.ref a1), .val (.ref a2), .val (.int (1 : Int32))] [(.int (1 : Int32)), (.ref a1)])) rfl rfl (hb hby d2_11)
  have Fw6 := (F_known_a1.other W5 (Or.inr (slot_ne (Or.inr (hw _ (List.mem_of_getElem? (i := 24) rfl))) (Or.inr (hw _ (List.mem_of_getElem? (i := 22) rfl))) (by decide) (t := .boolean) (t' := (.object "java/lang/Object")) (by decide) (by decide)))).same W6
  have K6 : Keep _ h6 [a1] := K5.wr W6 (Or.inl (List.mem_of_getElem? (i := 0) rfl))
  have N6 := Fr.snoc X6 N5 g_a1
  obtain ⟨fs, hr, hrun, hended, hW, hsame⟩ := X6.leave (v := none) (fun _ => rfl)
  refine ⟨_, _, pre0 _ ?_, hrun, hended, _, _, rfl, ?_, ⟨_, rfl⟩, hW, hsame.mono (by decide) (by decide)⟩
  · show Steps p.tables e below (s₁.setTop (mkF m 0 #[.val (.ref a1), .val (.ref a2), .val (.int (1 : Int32))] [])) _
    refine XS.aloadN X0.here hx rfl (hb hby d2_0) rfl rfl ?_
    show Steps p.tables e below (s₁.setTop (mkF m 1 #[.val (.ref a1), .val (.ref a2), .val (.int (1 : Int32))] [(.ref a1)])) _
    refine st4.trans ?_
    show Steps p.tables e below (T4.setTop (mkF m 4 #[.val (.ref a1), .val (.ref a2), .val (.int (1 : Int32))] [])) _
    refine XS.aloadN X4.here hx rfl (hb hby d2_4) rfl rfl ?_
    show Steps p.tables e below (T4.setTop (mkF m 5 #[.val (.ref a1), .val (.ref a2), .val (.int (1 : Int32))] [(.ref a1)])) _
    refine XS.aloadN X4.here hx rfl (hb hby d2_5) rfl rfl ?_
    show Steps p.tables e below (T4.setTop (mkF m 6 #[.val (.ref a1), .val (.ref a2), .val (.int (1 : Int32))] [(.ref a2), (.ref a1)])) _
    refine st5 _ ?_
    show Steps p.tables e below (T5.setTop (mkF m 9 #[.val (.ref a1), .val (.ref a2), .val (.int (1 : Int32))] [])) _
    refine XS.aloadN X5.here hx rfl (hb hby d2_9) rfl rfl ?_
    show Steps p.tables e below (T5.setTop (mkF m 10 #[.val (.ref a1), .val (.ref a2), .val (.int (1 : Int32))] [(.ref a1)])) _
    refine XS.iloadN X5.here hx rfl (hb hby d2_10) rfl ?_
    show Steps p.tables e below (T5.setTop (mkF m 11 #[.val (.ref a1), .val (.ref a2), .val (.int (1 : Int32))] [(.int (1 : Int32)), (.ref a1)])) _
    refine st6 _ ?_
    show Steps p.tables e below (T6.setTop (mkF m 14 #[.val (.ref a1), .val (.ref a2), .val (.int (1 : Int32))] [])) _
    exact X6.returnOut hx Bd.returns (hb hby d2_14) hr
  · show Q2r1 Z a1 a2 _ n0 _ T6.heap _
    rw [e6]
    exact ⟨rfl, N6, K6, ((E_a1.wr W5).wr W6), Fw5.other W6 (Or.inr (slot_ne (Or.inr (hw _ (List.mem_of_getElem? (i := 22) rfl))) (Or.inr (hw _ (List.mem_of_getElem? (i := 24) rfl))) (by decide) (t := (.object "java/lang/Object")) (t' := .boolean) (by decide) (by decide))), Fw6⟩
theorem d5_0 : decode prog_46_method_5_code 0 = .ok (.aload_n 0, 1) := by decide +kernel
theorem d5_1 : decode prog_46_method_5_code 1 = .ok (.getfield 13, 3) := by decide +kernel
theorem d5_4 : decode prog_46_method_5_code 4 = .ok (.ifCond .eq 14, 3) := by decide +kernel
theorem d5_18 : decode prog_46_method_5_code 18 = .ok (.iconst 0, 1) := by decide +kernel
theorem d5_19 : decode prog_46_method_5_code 19 = .ok (.ireturn, 1) := by decide +kernel
theorem pn_5u : plainName "com/example/anemone/anemone/model/Recovered" = true := by first | (simp [plainName, overriddenIn]; done) | decide +kernel
theorem ef_5u (m : MethodId) (x0 : Addr) : entryFrame m #[(.ref x0)] 1 = mkF m 0 #[.val (.ref x0)] [] := by first | (simp [entryFrame, mkF, argsToLocals, Value.category]; done) | rfl
def Q5u (Z : State) (a1 : Addr) (w2 : Int32) (h0 : Heap) (n0 : Nat) (v : Option Value) (h : Heap) (L : List Loc) : Prop := v = some (.int (0 : Int32)) ∧ Fr n0 L ∧ h = h0
set_option maxRecDepth 65536 in
set_option maxHeartbeats 40000000 in
theorem rm5u (l : Launch) (Z : State) (a0 : Array Value) (hw : ∀ d ∈ tables_1, d.before a0 Z = true) (ws : List Jvm.Cond) (a1 : Addr) (w2 : Int32) (h0 : Heap) (n0 : Nat) (Z0 : n0 ≤ h0.size) (F_known_a1 : Fld Z h0 a1 "com/example/anemone/anemone/model/Recovered" "known" "Z" (.int w2)) (hc4 : w2 = (0 : Int32)) :
    MetFree l (⟨"com/example/anemone/anemone/model/Recovered", "isNone", "()Z"⟩ : MethodName) (head1 (Jvm.Cond.code (⟨"com/example/anemone/anemone/model/Recovered", "isNone", "()Z"⟩ : MethodName) prog_46_method_5_code 1 (some .boolean) :: ws) ({ frames := 0, cells := 0, slots := 0, locals := 0 } : Room)) (fun a U => a = #[(.ref a1)] ∧ Z.Warmed39 U.vm ∧ U.heap = h0) (fun _ _ _ _ _ => True) (fun _ U o U' => ∃ v L, o = .returned v ∧ Q5u Z a1 w2 h0 n0 v U'.heap L ∧ FrameEnd U o U' L ({ frames := 0, cells := 0, slots := 0, locals := 0 } : Room).cells ({ frames := 0, cells := 0, slots := 0, locals := 0 } : Room).slots) := by
  refine MetFree.of_bodySF (plainFor_of_name pn_5u) hisR ?_
  intro p e s m args below meth c s₁ Bd hml0 hP hK
  obtain ⟨rfl, hZ, hh⟩ := hP
  have hx := Bd.exec
  have hby := Bd.bytes
  have hml : c.maxLocals = 1 := hml0
  have hown : s.vm.findClass "com/example/anemone/anemone/model/Recovered" = some m.cls := findClass_of_methodNamed Bd.named
  have hnm := (name_of_methodNamed Bd.named Bd.method).1
  have X0 : Stand p l e ({ frames := 0, cells := 0, slots := 0, locals := 0 } : Room) s m #[(.ref a1)] below meth c s₁ [] 0 0 := Stand.of_body Bd
  have e0 : s₁.heap = h0 := by rw [← hh, Bd.state]; rfl
  have N0 := Fr.nil n0
  have pre0 : ∀ t, Steps p.tables e below (s₁.setTop (mkF m 0 #[.val (.ref a1)] [])) t → Steps p.tables e below (s₁.setTop (entryFrame m #[(.ref a1)] 1)) t := fun t k => castTop (ef_5u m a1) k
  obtain ⟨T3, X3, e3, st3⟩ := getF X0 hx hZ hown (host := "") (Or.inl (hw _ (List.mem_of_getElem? (i := 23) rfl))) Via.refl e0 F_known_a1 (g := (mkF m 1 #[.val (.ref a1)] [(.ref a1)])) rfl rfl (hb hby d5_1)
  obtain ⟨fs, hr, hrun, hended, hW, hsame⟩ := X3.leave (v := some (.int (0 : Int32))) (fun h => by rw [Bd.returns] at h; cases h)
  refine ⟨_, _, pre0 _ ?_, hrun, hended, _, _, rfl, ?_, ⟨_, rfl⟩, hW, hsame.mono (by decide) (by decide)⟩
  · show Steps p.tables e below (s₁.setTop (mkF m 0 #[.val (.ref a1)] [])) _
    refine XS.aloadN X0.here hx rfl (hb hby d5_0) rfl rfl ?_
    show Steps p.tables e below (s₁.setTop (mkF m 1 #[.val (.ref a1)] [(.ref a1)])) _
    refine st3 _ ?_
    show Steps p.tables e below (T3.setTop (mkF m 4 #[.val (.ref a1)] [(.int w2)])) _
    refine XS.ifYes X3.here hx rfl (pc0 := 4) (pc' := 18) rfl (hb hby d5_4) rfl ((if0 _ _).trans (teq hc4).1) (by decide) (by decide) ?_
    show Steps p.tables e below (T3.setTop (mkF m 18 #[.val (.ref a1)] [])) _
    refine XS.iconst X3.here hx rfl (hb hby d5_18) ?_
    show Steps p.tables e below (T3.setTop (mkF m 19 #[.val (.ref a1)] [(.int (0 : Int32))])) _
    exact retN X3 hx (t := .boolean) Bd.returns (by simp) (hb hby d5_19) hr
  · show Q5u Z a1 w2 _ n0 _ T3.heap _
    rw [e3]
    exact ⟨rfl, N0, rfl⟩
theorem d5_7 : decode prog_46_method_5_code 7 = .ok (.aload_n 0, 1) := by decide +kernel
theorem d5_8 : decode prog_46_method_5_code 8 = .ok (.getfield 7, 3) := by decide +kernel
theorem d5_11 : decode prog_46_method_5_code 11 = .ok (.ifnonnull 7, 3) := by decide +kernel
theorem pn_5v : plainName "com/example/anemone/anemone/model/Recovered" = true := by first | (simp [plainName, overriddenIn]; done) | decide +kernel
theorem ef_5v (m : MethodId) (x0 : Addr) : entryFrame m #[(.ref x0)] 1 = mkF m 0 #[.val (.ref x0)] [] := by first | (simp [entryFrame, mkF, argsToLocals, Value.category]; done) | rfl
def Q5v (Z : State) (a1 : Addr) (w2 : Int32) (w4 : Addr) (h0 : Heap) (n0 : Nat) (v : Option Value) (h : Heap) (L : List Loc) : Prop := v = some (.int (0 : Int32)) ∧ Fr n0 L ∧ h = h0
set_option maxRecDepth 65536 in
set_option maxHeartbeats 40000000 in
theorem rm5v (l : Launch) (Z : State) (a0 : Array Value) (hw : ∀ d ∈ tables_1, d.before a0 Z = true) (ws : List Jvm.Cond) (a1 : Addr) (w2 : Int32) (w4 : Addr) (h0 : Heap) (n0 : Nat) (Z0 : n0 ≤ h0.size) (F_known_a1 : Fld Z h0 a1 "com/example/anemone/anemone/model/Recovered" "known" "Z" (.int w2)) (F_value_a1 : Fld Z h0 a1 "com/example/anemone/anemone/model/Recovered" "value" "Ljava/lang/Object;" (.ref w4)) (hc4 : ¬ (w2 = (0 : Int32))) :
    MetFree l (⟨"com/example/anemone/anemone/model/Recovered", "isNone", "()Z"⟩ : MethodName) (head1 (Jvm.Cond.code (⟨"com/example/anemone/anemone/model/Recovered", "isNone", "()Z"⟩ : MethodName) prog_46_method_5_code 1 (some .boolean) :: ws) ({ frames := 0, cells := 0, slots := 0, locals := 0 } : Room)) (fun a U => a = #[(.ref a1)] ∧ Z.Warmed39 U.vm ∧ U.heap = h0) (fun _ _ _ _ _ => True) (fun _ U o U' => ∃ v L, o = .returned v ∧ Q5v Z a1 w2 w4 h0 n0 v U'.heap L ∧ FrameEnd U o U' L ({ frames := 0, cells := 0, slots := 0, locals := 0 } : Room).cells ({ frames := 0, cells := 0, slots := 0, locals := 0 } : Room).slots) := by
  refine MetFree.of_bodySF (plainFor_of_name pn_5v) hisR ?_
  intro p e s m args below meth c s₁ Bd hml0 hP hK
  obtain ⟨rfl, hZ, hh⟩ := hP
  have hx := Bd.exec
  have hby := Bd.bytes
  have hml : c.maxLocals = 1 := hml0
  have hown : s.vm.findClass "com/example/anemone/anemone/model/Recovered" = some m.cls := findClass_of_methodNamed Bd.named
  have hnm := (name_of_methodNamed Bd.named Bd.method).1
  have X0 : Stand p l e ({ frames := 0, cells := 0, slots := 0, locals := 0 } : Room) s m #[(.ref a1)] below meth c s₁ [] 0 0 := Stand.of_body Bd
  have e0 : s₁.heap = h0 := by rw [← hh, Bd.state]; rfl
  have N0 := Fr.nil n0
  have pre0 : ∀ t, Steps p.tables e below (s₁.setTop (mkF m 0 #[.val (.ref a1)] [])) t → Steps p.tables e below (s₁.setTop (entryFrame m #[(.ref a1)] 1)) t := fun t k => castTop (ef_5v m a1) k
  obtain ⟨T3, X3, e3, st3⟩ := getF X0 hx hZ hown (host := "") (Or.inl (hw _ (List.mem_of_getElem? (i := 23) rfl))) Via.refl e0 F_known_a1 (g := (mkF m 1 #[.val (.ref a1)] [(.ref a1)])) rfl rfl (hb hby d5_1)
  obtain ⟨T5, X5, e5, st5⟩ := getF X3 hx hZ hown (host := "") (Or.inl (hw _ (List.mem_of_getElem? (i := 21) rfl))) Via.refl e3 F_value_a1 (g := (mkF m 8 #[.val (.ref a1)] [(.ref a1)])) rfl rfl (hb hby d5_8)
  obtain ⟨fs, hr, hrun, hended, hW, hsame⟩ := X5.leave (v := some (.int (0 : Int32))) (fun h => by rw [Bd.returns] at h; cases h)
  refine ⟨_, _, pre0 _ ?_, hrun, hended, _, _, rfl, ?_, ⟨_, rfl⟩, hW, hsame.mono (by decide) (by decide)⟩
  · show Steps p.tables e below (s₁.setTop (mkF m 0 #[.val (.ref a1)] [])) _
    refine XS.aloadN X0.here hx rfl (hb hby d5_0) rfl rfl ?_
    show Steps p.tables e below (s₁.setTop (mkF m 1 #[.val (.ref a1)] [(.ref a1)])) _
    refine st3 _ ?_
    show Steps p.tables e below (T3.setTop (mkF m 4 #[.val (.ref a1)] [(.int w2)])) _
    refine XS.ifNo X3.here hx rfl (hb hby d5_4) rfl ((if0 _ _).trans (feq hc4).1) ?_
    show Steps p.tables e below (T3.setTop (mkF m 7 #[.val (.ref a1)] [])) _
    refine XS.aloadN X3.here hx rfl (hb hby d5_7) rfl rfl ?_
    show Steps p.tables e below (T3.setTop (mkF m 8 #[.val (.ref a1)] [(.ref a1)])) _
    refine st5 _ ?_
    show Steps p.tables e below (T5.setTop (mkF m 11 #[.val (.ref a1)] [(.ref w4)])) _
    refine XS.ifnonnullYes X5.here hx rfl (pc0 := 11) (pc' := 18) rfl (hb hby d5_11) rfl (by decide) (by decide) ?_
    show Steps p.tables e below (T5.setTop (mkF m 18 #[.val (.ref a1)] [])) _
    refine XS.iconst X5.here hx rfl (hb hby d5_18) ?_
    show Steps p.tables e below (T5.setTop (mkF m 19 #[.val (.ref a1)] [(.int (0 : Int32))])) _
    exact retN X5 hx (t := .boolean) Bd.returns (by simp) (hb hby d5_19) hr
  · show Q5v Z a1 w2 w4 _ n0 _ T5.heap _
    rw [e5]
    exact ⟨rfl, N0, rfl⟩
theorem d5_14 : decode prog_46_method_5_code 14 = .ok (.iconst 1, 1) := by decide +kernel
theorem d5_15 : decode prog_46_method_5_code 15 = .ok (.goto 4, 3) := by decide +kernel
theorem pn_5n : plainName "com/example/anemone/anemone/model/Recovered" = true := by first | (simp [plainName, overriddenIn]; done) | decide +kernel
theorem ef_5n (m : MethodId) (x0 : Addr) : entryFrame m #[(.ref x0)] 1 = mkF m 0 #[.val (.ref x0)] [] := by first | (simp [entryFrame, mkF, argsToLocals, Value.category]; done) | rfl
def Q5n (Z : State) (a1 : Addr) (w2 : Int32) (h0 : Heap) (n0 : Nat) (v : Option Value) (h : Heap) (L : List Loc) : Prop := v = some (.int (1 : Int32)) ∧ Fr n0 L ∧ h = h0
set_option maxRecDepth 65536 in
set_option maxHeartbeats 40000000 in
theorem rm5n (l : Launch) (Z : State) (a0 : Array Value) (hw : ∀ d ∈ tables_1, d.before a0 Z = true) (ws : List Jvm.Cond) (a1 : Addr) (w2 : Int32) (h0 : Heap) (n0 : Nat) (Z0 : n0 ≤ h0.size) (F_known_a1 : Fld Z h0 a1 "com/example/anemone/anemone/model/Recovered" "known" "Z" (.int w2)) (F_value_a1 : Fld Z h0 a1 "com/example/anemone/anemone/model/Recovered" "value" "Ljava/lang/Object;" .null) (hc4 : ¬ (w2 = (0 : Int32))) :
    MetFree l (⟨"com/example/anemone/anemone/model/Recovered", "isNone", "()Z"⟩ : MethodName) (head1 (Jvm.Cond.code (⟨"com/example/anemone/anemone/model/Recovered", "isNone", "()Z"⟩ : MethodName) prog_46_method_5_code 1 (some .boolean) :: ws) ({ frames := 0, cells := 0, slots := 0, locals := 0 } : Room)) (fun a U => a = #[(.ref a1)] ∧ Z.Warmed39 U.vm ∧ U.heap = h0) (fun _ _ _ _ _ => True) (fun _ U o U' => ∃ v L, o = .returned v ∧ Q5n Z a1 w2 h0 n0 v U'.heap L ∧ FrameEnd U o U' L ({ frames := 0, cells := 0, slots := 0, locals := 0 } : Room).cells ({ frames := 0, cells := 0, slots := 0, locals := 0 } : Room).slots) := by
  refine MetFree.of_bodySF (plainFor_of_name pn_5n) hisR ?_
  intro p e s m args below meth c s₁ Bd hml0 hP hK
  obtain ⟨rfl, hZ, hh⟩ := hP
  have hx := Bd.exec
  have hby := Bd.bytes
  have hml : c.maxLocals = 1 := hml0
  have hown : s.vm.findClass "com/example/anemone/anemone/model/Recovered" = some m.cls := findClass_of_methodNamed Bd.named
  have hnm := (name_of_methodNamed Bd.named Bd.method).1
  have X0 : Stand p l e ({ frames := 0, cells := 0, slots := 0, locals := 0 } : Room) s m #[(.ref a1)] below meth c s₁ [] 0 0 := Stand.of_body Bd
  have e0 : s₁.heap = h0 := by rw [← hh, Bd.state]; rfl
  have N0 := Fr.nil n0
  have pre0 : ∀ t, Steps p.tables e below (s₁.setTop (mkF m 0 #[.val (.ref a1)] [])) t → Steps p.tables e below (s₁.setTop (entryFrame m #[(.ref a1)] 1)) t := fun t k => castTop (ef_5n m a1) k
  obtain ⟨T3, X3, e3, st3⟩ := getF X0 hx hZ hown (host := "") (Or.inl (hw _ (List.mem_of_getElem? (i := 23) rfl))) Via.refl e0 F_known_a1 (g := (mkF m 1 #[.val (.ref a1)] [(.ref a1)])) rfl rfl (hb hby d5_1)
  obtain ⟨T4, X4, e4, st4⟩ := getF X3 hx hZ hown (host := "") (Or.inl (hw _ (List.mem_of_getElem? (i := 21) rfl))) Via.refl e3 F_value_a1 (g := (mkF m 8 #[.val (.ref a1)] [(.ref a1)])) rfl rfl (hb hby d5_8)
  obtain ⟨fs, hr, hrun, hended, hW, hsame⟩ := X4.leave (v := some (.int (1 : Int32))) (fun h => by rw [Bd.returns] at h; cases h)
  refine ⟨_, _, pre0 _ ?_, hrun, hended, _, _, rfl, ?_, ⟨_, rfl⟩, hW, hsame.mono (by decide) (by decide)⟩
  · show Steps p.tables e below (s₁.setTop (mkF m 0 #[.val (.ref a1)] [])) _
    refine XS.aloadN X0.here hx rfl (hb hby d5_0) rfl rfl ?_
    show Steps p.tables e below (s₁.setTop (mkF m 1 #[.val (.ref a1)] [(.ref a1)])) _
    refine st3 _ ?_
    show Steps p.tables e below (T3.setTop (mkF m 4 #[.val (.ref a1)] [(.int w2)])) _
    refine XS.ifNo X3.here hx rfl (hb hby d5_4) rfl ((if0 _ _).trans (feq hc4).1) ?_
    show Steps p.tables e below (T3.setTop (mkF m 7 #[.val (.ref a1)] [])) _
    refine XS.aloadN X3.here hx rfl (hb hby d5_7) rfl rfl ?_
    show Steps p.tables e below (T3.setTop (mkF m 8 #[.val (.ref a1)] [(.ref a1)])) _
    refine st4 _ ?_
    show Steps p.tables e below (T4.setTop (mkF m 11 #[.val (.ref a1)] [.null])) _
    refine XS.ifnonnullNo X4.here hx rfl (hb hby d5_11) rfl ?_
    show Steps p.tables e below (T4.setTop (mkF m 14 #[.val (.ref a1)] [])) _
    refine XS.iconst X4.here hx rfl (hb hby d5_14) ?_
    show Steps p.tables e below (T4.setTop (mkF m 15 #[.val (.ref a1)] [(.int (1 : Int32))])) _
    refine XS.goto X4.here hx rfl (pc0 := 15) (pc' := 19) rfl (hb hby d5_15) (by decide) (by decide) ?_
    show Steps p.tables e below (T4.setTop (mkF m 19 #[.val (.ref a1)] [(.int (1 : Int32))])) _
    exact retN X4 hx (t := .boolean) Bd.returns (by simp) (hb hby d5_19) hr
  · show Q5n Z a1 w2 _ n0 _ T4.heap _
    rw [e4]
    exact ⟨rfl, N0, rfl⟩
theorem d6_0 : decode prog_46_method_2_code 0 = .ok (.new 8, 3) := by decide +kernel
theorem d6_3 : decode prog_46_method_2_code 3 = .ok (.dup, 1) := by decide +kernel
theorem d6_4 : decode prog_46_method_2_code 4 = .ok (.aconst_null, 1) := by decide +kernel
theorem d6_5 : decode prog_46_method_2_code 5 = .ok (.iconst 1, 1) := by decide +kernel
theorem d6_6 : decode prog_46_method_2_code 6 = .ok (.invokespecial 17, 3) := by decide +kernel
theorem d6_9 : decode prog_46_method_2_code 9 = .ok (.areturn, 1) := by decide +kernel
theorem pn_6 : plainName "com/example/anemone/anemone/model/Recovered" = true := by first | (simp [plainName, overriddenIn]; done) | decide +kernel
theorem pd_6_1 : parseMethodDescriptor "(Ljava/lang/Object;Z)V" = some ⟨[(.object "java/lang/Object"), .boolean], none⟩ := by decide +kernel
theorem ef_6 (m : MethodId)  : entryFrame m #[] 0 = mkF m 0 #[] [] := by first | (simp [entryFrame, mkF, argsToLocals, Value.category]; done) | rfl
def Q6 (Z : State) (h0 : Heap) (n0 : Nat) (v : Option Value) (h : Heap) (L : List Loc) : Prop := ∃ b : Addr, v = some (.ref b) ∧ Fr n0 L ∧ Keep h0 h [] ∧ Rc Z h b .null (1 : Int32)
set_option maxRecDepth 65536 in
set_option maxHeartbeats 40000000 in
theorem rm6 (l : Launch) (Z : State) (a0 : Array Value) (hw : ∀ d ∈ tables_1, d.before a0 Z = true) (ws : List Jvm.Cond)  (h0 : Heap) (n0 : Nat) (Z0 : n0 ≤ h0.size) :
    MetFree l (⟨"com/example/anemone/anemone/model/Recovered", "none", "()Lcom/example/anemone/anemone/model/Recovered;"⟩ : MethodName) (head1 (Jvm.Cond.code (⟨"com/example/anemone/anemone/model/Recovered", "none", "()Lcom/example/anemone/anemone/model/Recovered;"⟩ : MethodName) prog_46_method_2_code 0 (some (.object "com/example/anemone/anemone/model/Recovered")) :: ws) ({ frames := 3, cells := 1, slots := 2, locals := 39 } : Room)) (fun a U => a = #[] ∧ Z.Warmed39 U.vm ∧ U.heap = h0) (fun _ _ _ _ _ => True) (fun _ U o U' => ∃ v L, o = .returned v ∧ Q6 Z  h0 n0 v U'.heap L ∧ FrameEnd U o U' L ({ frames := 3, cells := 1, slots := 2, locals := 39 } : Room).cells ({ frames := 3, cells := 1, slots := 2, locals := 39 } : Room).slots) := by
  refine MetFree.of_bodySF (plainFor_of_name pn_6) hisR ?_
  intro p e s m args below meth c s₁ Bd hml0 hP hK
  obtain ⟨rfl, hZ, hh⟩ := hP
  have hx := Bd.exec
  have hby := Bd.bytes
  have hml : c.maxLocals = 0 := hml0
  have hown : s.vm.findClass "com/example/anemone/anemone/model/Recovered" = some m.cls := findClass_of_methodNamed Bd.named
  have hnm := (name_of_methodNamed Bd.named Bd.method).1
  have X0 : Stand p l e ({ frames := 3, cells := 1, slots := 2, locals := 39 } : Room) s m #[] below meth c s₁ [] 0 0 := Stand.of_body Bd
  have e0 : s₁.heap = h0 := by rw [← hh, Bd.state]; rfl
  have N0 := Fr.nil n0
  have pre0 : ∀ t, Steps p.tables e below (s₁.setTop (mkF m 0 #[] [])) t → Steps p.tables e below (s₁.setTop (entryFrame m #[] 0)) t := fun t k => castTop (ef_6 m ) k
  obtain ⟨T1, h1, X1, e1, E1, A1, D1, -, st1⟩ := newO X0 hx hZ hown (hw _ (List.mem_of_getElem? (i := 33) rfl)) (hw _ (List.mem_of_getElem? (i := 8) rfl)) (hw _ (List.mem_of_getElem? (i := 9) rfl)) e0 (g := (mkF m 0 #[] [])) rfl (hb hby d6_0) (by decide) (by decide)
  obtain ⟨b1, g1⟩ : ∃ z, z = h0.size := ⟨_, rfl⟩
  rw [← g1] at A1 D1 st1
  have F_value_b1 : Fld Z h1 b1 "com/example/anemone/anemone/model/Recovered" "value" "Ljava/lang/Object;" .null := D1 (Or.inr (hw _ (List.mem_of_getElem? (i := 22) rfl))) (ty := (.object "java/lang/Object")) (by decide)
  have F_known_b1 : Fld Z h1 b1 "com/example/anemone/anemone/model/Recovered" "known" "Z" (.int (0 : Int32)) := D1 (Or.inr (hw _ (List.mem_of_getElem? (i := 24) rfl))) (ty := .boolean) (by decide)
  have E_b1 := A1
  have g_b1 : n0 ≤ b1 := Nat.le_trans Z0 (Nat.le_of_eq g1.symm)
  have sz_b1 : h0.size ≤ b1 := (Nat.le_trans (Keep.refl h0 []).1 (Nat.le_of_eq g1.symm))
  have K1 : Keep h0 h1 [] := (Keep.refl h0 []).ext E1
  obtain ⟨_, _, ⟨T2, L2, k2, n2⟩, -, X2, ⟨Lc2, hQ2, l2, y2, z2⟩, st2⟩ := X1.specialBack hx (y := (⟨"com/example/anemone/anemone/model/Recovered", "<init>", "(Ljava/lang/Object;Z)V"⟩ : MethodName)) rfl hown (mvT hZ (hw _ (List.mem_of_getElem? (i := 34) rfl))) (mvT hZ (hw _ (List.mem_of_getElem? (i := 11) rfl))) (mvT hZ (hw _ (List.mem_of_getElem? (i := 12) rfl))) (by decide) (backOf (W := 1) (rm2n1 l Z a0 hw [] b1 _ _ h1 n0 (Nat.le_trans Z0 E1.1) E_b1 F_value_b1 g_b1 F_known_b1) hZ (hw _ (List.mem_of_getElem? (i := 12) rfl)) (hw _ (List.mem_of_getElem? (i := 9) rfl)) (by decide) (by decide)) (g := (mkF m 6 #[] [(.int (1 : Int32)), .null, (.ref b1), (.ref b1)])) rfl (by rw [hml]; rfl) (Steps.refl _) (a := b1) (argsL := [.null, (.int (1 : Int32))]) (rest := [(.ref b1)]) (lenOf pd_6_1 rfl) rfl (by show 2 * 0 + _ ≤ _; exact Nat.le_of_eq rfl) (hb hby d6_6) (fun _ _ => ⟨rfl, e1, (Nat.le_of_ble_eq_true rfl), (Nat.le_of_ble_eq_true rfl)⟩)
  dsimp only [Pt.U, Pt.locs, Pt.cells, Pt.slots] at X2 l2 y2 z2 st2 hQ2
  subst l2 y2 z2
  obtain ⟨rfl, N2q, KQ, RQ⟩ := hQ2
  have N2 := Fr.app N0 N2q
  obtain ⟨fs, hr, hrun, hended, hW, hsame⟩ := X2.leave (v := some (.ref b1)) (fun h => by rw [Bd.returns] at h; cases h)
  refine ⟨_, _, pre0 _ ?_, hrun, hended, _, _, rfl, ?_, ⟨_, rfl⟩, hW, hsame.mono (by decide) (by decide)⟩
  · show Steps p.tables e below (s₁.setTop (mkF m 0 #[] [])) _
    refine st1 _ ?_
    show Steps p.tables e below (T1.setTop (mkF m 3 #[] [(.ref b1)])) _
    refine XS.dup X1.here hx rfl (hb hby d6_3) rfl rfl ?_
    show Steps p.tables e below (T1.setTop (mkF m 4 #[] [(.ref b1), (.ref b1)])) _
    refine XS.aconstNull X1.here hx rfl (hb hby d6_4) ?_
    show Steps p.tables e below (T1.setTop (mkF m 5 #[] [.null, (.ref b1), (.ref b1)])) _
    refine XS.iconst X1.here hx rfl (hb hby d6_5) ?_
    show Steps p.tables e below (T1.setTop (mkF m 6 #[] [(.int (1 : Int32)), .null, (.ref b1), (.ref b1)])) _
    refine st2.trans ?_
    show Steps p.tables e below (T2.setTop (mkF m 9 #[] [(.ref b1)])) _
    jvm_step X2.here [X2.here.top, hx, (hb hby d6_9), X2.method', Bd.returns, Value.isRef, FieldType.isReference]
    first | (intro acts; rw [hr _ acts rfl rfl rfl]) | rw [hr _ _ rfl rfl rfl]
    exact Steps.refl _
  · show Q6 Z  _ n0 _ T2.heap _
    exact ⟨_, rfl, N2, K1.trans KQ (allS (Or.inr sz_b1) all0), RQ⟩
theorem d7_0 : decode prog_46_method_4_code 0 = .ok (.new 8, 3) := by decide +kernel
theorem d7_3 : decode prog_46_method_4_code 3 = .ok (.dup, 1) := by decide +kernel
theorem d7_4 : decode prog_46_method_4_code 4 = .ok (.aconst_null, 1) := by decide +kernel
theorem d7_5 : decode prog_46_method_4_code 5 = .ok (.iconst 0, 1) := by decide +kernel
theorem d7_6 : decode prog_46_method_4_code 6 = .ok (.invokespecial 17, 3) := by decide +kernel
theorem d7_9 : decode prog_46_method_4_code 9 = .ok (.areturn, 1) := by decide +kernel
theorem pn_7 : plainName "com/example/anemone/anemone/model/Recovered" = true := by first | (simp [plainName, overriddenIn]; done) | decide +kernel
theorem pd_7_1 : parseMethodDescriptor "(Ljava/lang/Object;Z)V" = some ⟨[(.object "java/lang/Object"), .boolean], none⟩ := by decide +kernel
theorem ef_7 (m : MethodId)  : entryFrame m #[] 0 = mkF m 0 #[] [] := by first | (simp [entryFrame, mkF, argsToLocals, Value.category]; done) | rfl
def Q7 (Z : State) (h0 : Heap) (n0 : Nat) (v : Option Value) (h : Heap) (L : List Loc) : Prop := ∃ b : Addr, v = some (.ref b) ∧ Fr n0 L ∧ Keep h0 h [] ∧ Rc Z h b .null (0 : Int32)
set_option maxRecDepth 65536 in
set_option maxHeartbeats 40000000 in
theorem rm7 (l : Launch) (Z : State) (a0 : Array Value) (hw : ∀ d ∈ tables_1, d.before a0 Z = true) (ws : List Jvm.Cond)  (h0 : Heap) (n0 : Nat) (Z0 : n0 ≤ h0.size) :
    MetFree l (⟨"com/example/anemone/anemone/model/Recovered", "unknown", "()Lcom/example/anemone/anemone/model/Recovered;"⟩ : MethodName) (head1 (Jvm.Cond.code (⟨"com/example/anemone/anemone/model/Recovered", "unknown", "()Lcom/example/anemone/anemone/model/Recovered;"⟩ : MethodName) prog_46_method_4_code 0 (some (.object "com/example/anemone/anemone/model/Recovered")) :: ws) ({ frames := 3, cells := 1, slots := 2, locals := 39 } : Room)) (fun a U => a = #[] ∧ Z.Warmed39 U.vm ∧ U.heap = h0) (fun _ _ _ _ _ => True) (fun _ U o U' => ∃ v L, o = .returned v ∧ Q7 Z  h0 n0 v U'.heap L ∧ FrameEnd U o U' L ({ frames := 3, cells := 1, slots := 2, locals := 39 } : Room).cells ({ frames := 3, cells := 1, slots := 2, locals := 39 } : Room).slots) := by
  refine MetFree.of_bodySF (plainFor_of_name pn_7) hisR ?_
  intro p e s m args below meth c s₁ Bd hml0 hP hK
  obtain ⟨rfl, hZ, hh⟩ := hP
  have hx := Bd.exec
  have hby := Bd.bytes
  have hml : c.maxLocals = 0 := hml0
  have hown : s.vm.findClass "com/example/anemone/anemone/model/Recovered" = some m.cls := findClass_of_methodNamed Bd.named
  have hnm := (name_of_methodNamed Bd.named Bd.method).1
  have X0 : Stand p l e ({ frames := 3, cells := 1, slots := 2, locals := 39 } : Room) s m #[] below meth c s₁ [] 0 0 := Stand.of_body Bd
  have e0 : s₁.heap = h0 := by rw [← hh, Bd.state]; rfl
  have N0 := Fr.nil n0
  have pre0 : ∀ t, Steps p.tables e below (s₁.setTop (mkF m 0 #[] [])) t → Steps p.tables e below (s₁.setTop (entryFrame m #[] 0)) t := fun t k => castTop (ef_7 m ) k
  obtain ⟨T1, h1, X1, e1, E1, A1, D1, -, st1⟩ := newO X0 hx hZ hown (hw _ (List.mem_of_getElem? (i := 33) rfl)) (hw _ (List.mem_of_getElem? (i := 8) rfl)) (hw _ (List.mem_of_getElem? (i := 9) rfl)) e0 (g := (mkF m 0 #[] [])) rfl (hb hby d7_0) (by decide) (by decide)
  obtain ⟨b1, g1⟩ : ∃ z, z = h0.size := ⟨_, rfl⟩
  rw [← g1] at A1 D1 st1
  have F_value_b1 : Fld Z h1 b1 "com/example/anemone/anemone/model/Recovered" "value" "Ljava/lang/Object;" .null := D1 (Or.inr (hw _ (List.mem_of_getElem? (i := 22) rfl))) (ty := (.object "java/lang/Object")) (by decide)
  have F_known_b1 : Fld Z h1 b1 "com/example/anemone/anemone/model/Recovered" "known" "Z" (.int (0 : Int32)) := D1 (Or.inr (hw _ (List.mem_of_getElem? (i := 24) rfl))) (ty := .boolean) (by decide)
  have E_b1 := A1
  have g_b1 : n0 ≤ b1 := Nat.le_trans Z0 (Nat.le_of_eq g1.symm)
  have sz_b1 : h0.size ≤ b1 := (Nat.le_trans (Keep.refl h0 []).1 (Nat.le_of_eq g1.symm))
  have K1 : Keep h0 h1 [] := (Keep.refl h0 []).ext E1
  obtain ⟨_, _, ⟨T2, L2, k2, n2⟩, -, X2, ⟨Lc2, hQ2, l2, y2, z2⟩, st2⟩ := X1.specialBack hx (y := (⟨"com/example/anemone/anemone/model/Recovered", "<init>", "(Ljava/lang/Object;Z)V"⟩ : MethodName)) rfl hown (mvT hZ (hw _ (List.mem_of_getElem? (i := 34) rfl))) (mvT hZ (hw _ (List.mem_of_getElem? (i := 11) rfl))) (mvT hZ (hw _ (List.mem_of_getElem? (i := 12) rfl))) (by decide) (backOf (W := 1) (rm2n0 l Z a0 hw [] b1 _ _ h1 n0 (Nat.le_trans Z0 E1.1) E_b1 F_value_b1 g_b1 F_known_b1) hZ (hw _ (List.mem_of_getElem? (i := 12) rfl)) (hw _ (List.mem_of_getElem? (i := 9) rfl)) (by decide) (by decide)) (g := (mkF m 6 #[] [(.int (0 : Int32)), .null, (.ref b1), (.ref b1)])) rfl (by rw [hml]; rfl) (Steps.refl _) (a := b1) (argsL := [.null, (.int (0 : Int32))]) (rest := [(.ref b1)]) (lenOf pd_7_1 rfl) rfl (by show 2 * 0 + _ ≤ _; exact Nat.le_of_eq rfl) (hb hby d7_6) (fun _ _ => ⟨rfl, e1, (Nat.le_of_ble_eq_true rfl), (Nat.le_of_ble_eq_true rfl)⟩)
  dsimp only [Pt.U, Pt.locs, Pt.cells, Pt.slots] at X2 l2 y2 z2 st2 hQ2
  subst l2 y2 z2
  obtain ⟨rfl, N2q, KQ, RQ⟩ := hQ2
  have N2 := Fr.app N0 N2q
  obtain ⟨fs, hr, hrun, hended, hW, hsame⟩ := X2.leave (v := some (.ref b1)) (fun h => by rw [Bd.returns] at h; cases h)
  refine ⟨_, _, pre0 _ ?_, hrun, hended, _, _, rfl, ?_, ⟨_, rfl⟩, hW, hsame.mono (by decide) (by decide)⟩
  · show Steps p.tables e below (s₁.setTop (mkF m 0 #[] [])) _
    refine st1 _ ?_
    show Steps p.tables e below (T1.setTop (mkF m 3 #[] [(.ref b1)])) _
    refine XS.dup X1.here hx rfl (hb hby d7_3) rfl rfl ?_
    show Steps p.tables e below (T1.setTop (mkF m 4 #[] [(.ref b1), (.ref b1)])) _
    refine XS.aconstNull X1.here hx rfl (hb hby d7_4) ?_
    show Steps p.tables e below (T1.setTop (mkF m 5 #[] [.null, (.ref b1), (.ref b1)])) _
    refine XS.iconst X1.here hx rfl (hb hby d7_5) ?_
    show Steps p.tables e below (T1.setTop (mkF m 6 #[] [(.int (0 : Int32)), .null, (.ref b1), (.ref b1)])) _
    refine st2.trans ?_
    show Steps p.tables e below (T2.setTop (mkF m 9 #[] [(.ref b1)])) _
    jvm_step X2.here [X2.here.top, hx, (hb hby d7_9), X2.method', Bd.returns, Value.isRef, FieldType.isReference]
    first | (intro acts; rw [hr _ acts rfl rfl rfl]) | rw [hr _ _ rfl rfl rfl]
    exact Steps.refl _
  · show Q7 Z  _ n0 _ T2.heap _
    exact ⟨_, rfl, N2, K1.trans KQ (allS (Or.inr sz_b1) all0), RQ⟩
theorem d8_0 : decode prog_46_method_3_code 0 = .ok (.new 8, 3) := by decide +kernel
theorem d8_3 : decode prog_46_method_3_code 3 = .ok (.dup, 1) := by decide +kernel
theorem d8_4 : decode prog_46_method_3_code 4 = .ok (.aload_n 0, 1) := by decide +kernel
theorem d8_5 : decode prog_46_method_3_code 5 = .ok (.iconst 1, 1) := by decide +kernel
theorem d8_6 : decode prog_46_method_3_code 6 = .ok (.invokespecial 17, 3) := by decide +kernel
theorem d8_9 : decode prog_46_method_3_code 9 = .ok (.areturn, 1) := by decide +kernel
theorem pn_8 : plainName "com/example/anemone/anemone/model/Recovered" = true := by first | (simp [plainName, overriddenIn]; done) | decide +kernel
theorem pd_8_1 : parseMethodDescriptor "(Ljava/lang/Object;Z)V" = some ⟨[(.object "java/lang/Object"), .boolean], none⟩ := by decide +kernel
theorem ef_8 (m : MethodId) (x0 : Addr) : entryFrame m #[(.ref x0)] 1 = mkF m 0 #[.val (.ref x0)] [] := by first | (simp [entryFrame, mkF, argsToLocals, Value.category]; done) | rfl
def Q8 (Z : State) (a1 : Addr) (h0 : Heap) (n0 : Nat) (v : Option Value) (h : Heap) (L : List Loc) : Prop := ∃ b : Addr, v = some (.ref b) ∧ Fr n0 L ∧ Keep h0 h [] ∧ Rc Z h b (.ref a1) (1 : Int32)
set_option maxRecDepth 65536 in
set_option maxHeartbeats 40000000 in
theorem rm8 (l : Launch) (Z : State) (a0 : Array Value) (hw : ∀ d ∈ tables_1, d.before a0 Z = true) (ws : List Jvm.Cond) (a1 : Addr) (h0 : Heap) (n0 : Nat) (Z0 : n0 ≤ h0.size) :
    MetFree l (⟨"com/example/anemone/anemone/model/Recovered", "of", "(Ljava/lang/Object;)Lcom/example/anemone/anemone/model/Recovered;"⟩ : MethodName) (head1 (Jvm.Cond.code (⟨"com/example/anemone/anemone/model/Recovered", "of", "(Ljava/lang/Object;)Lcom/example/anemone/anemone/model/Recovered;"⟩ : MethodName) prog_46_method_3_code 1 (some (.object "com/example/anemone/anemone/model/Recovered")) :: ws) ({ frames := 3, cells := 1, slots := 2, locals := 39 } : Room)) (fun a U => a = #[(.ref a1)] ∧ Z.Warmed39 U.vm ∧ U.heap = h0) (fun _ _ _ _ _ => True) (fun _ U o U' => ∃ v L, o = .returned v ∧ Q8 Z a1 h0 n0 v U'.heap L ∧ FrameEnd U o U' L ({ frames := 3, cells := 1, slots := 2, locals := 39 } : Room).cells ({ frames := 3, cells := 1, slots := 2, locals := 39 } : Room).slots) := by
  refine MetFree.of_bodySF (plainFor_of_name pn_8) hisR ?_
  intro p e s m args below meth c s₁ Bd hml0 hP hK
  obtain ⟨rfl, hZ, hh⟩ := hP
  have hx := Bd.exec
  have hby := Bd.bytes
  have hml : c.maxLocals = 1 := hml0
  have hown : s.vm.findClass "com/example/anemone/anemone/model/Recovered" = some m.cls := findClass_of_methodNamed Bd.named
  have hnm := (name_of_methodNamed Bd.named Bd.method).1
  have X0 : Stand p l e ({ frames := 3, cells := 1, slots := 2, locals := 39 } : Room) s m #[(.ref a1)] below meth c s₁ [] 0 0 := Stand.of_body Bd
  have e0 : s₁.heap = h0 := by rw [← hh, Bd.state]; rfl
  have N0 := Fr.nil n0
  have pre0 : ∀ t, Steps p.tables e below (s₁.setTop (mkF m 0 #[.val (.ref a1)] [])) t → Steps p.tables e below (s₁.setTop (entryFrame m #[(.ref a1)] 1)) t := fun t k => castTop (ef_8 m a1) k
  obtain ⟨T2, h2, X2, e2, E2, A2, D2, -, st2⟩ := newO X0 hx hZ hown (hw _ (List.mem_of_getElem? (i := 33) rfl)) (hw _ (List.mem_of_getElem? (i := 8) rfl)) (hw _ (List.mem_of_getElem? (i := 9) rfl)) e0 (g := (mkF m 0 #[.val (.ref a1)] [])) rfl (hb hby d8_0) (by decide) (by decide)
  obtain ⟨b2, g2⟩ : ∃ z, z = h0.size := ⟨_, rfl⟩
  rw [← g2] at A2 D2 st2
  have F_value_b2 : Fld Z h2 b2 "com/example/anemone/anemone/model/Recovered" "value" "Ljava/lang/Object;" .null := D2 (Or.inr (hw _ (List.mem_of_getElem? (i := 22) rfl))) (ty := (.object "java/lang/Object")) (by decide)
  have F_known_b2 : Fld Z h2 b2 "com/example/anemone/anemone/model/Recovered" "known" "Z" (.int (0 : Int32)) := D2 (Or.inr (hw _ (List.mem_of_getElem? (i := 24) rfl))) (ty := .boolean) (by decide)
  have E_b2 := A2
  have g_b2 : n0 ≤ b2 := Nat.le_trans Z0 (Nat.le_of_eq g2.symm)
  have sz_b2 : h0.size ≤ b2 := (Nat.le_trans (Keep.refl h0 []).1 (Nat.le_of_eq g2.symm))
  have K2 : Keep h0 h2 [] := (Keep.refl h0 []).ext E2
  obtain ⟨_, _, ⟨T3, L3, k3, n3⟩, -, X3, ⟨Lc3, hQ3, l3, y3, z3⟩, st3⟩ := X2.specialBack hx (y := (⟨"com/example/anemone/anemone/model/Recovered", "<init>", "(Ljava/lang/Object;Z)V"⟩ : MethodName)) rfl hown (mvT hZ (hw _ (List.mem_of_getElem? (i := 34) rfl))) (mvT hZ (hw _ (List.mem_of_getElem? (i := 11) rfl))) (mvT hZ (hw _ (List.mem_of_getElem? (i := 12) rfl))) (by decide) (backOf (W := 1) (rm2r1 l Z a0 hw [] b2 a1 _ _ h2 n0 (Nat.le_trans Z0 E2.1) E_b2 F_value_b2 g_b2 F_known_b2) hZ (hw _ (List.mem_of_getElem? (i := 12) rfl)) (hw _ (List.mem_of_getElem? (i := 9) rfl)) (by decide) (by decide)) (g := (mkF m 6 #[.val (.ref a1)] [(.int (1 : Int32)), (.ref a1), (.ref b2), (.ref b2)])) rfl (by rw [hml]; rfl) (Steps.refl _) (a := b2) (argsL := [(.ref a1), (.int (1 : Int32))]) (rest := [(.ref b2)]) (lenOf pd_8_1 rfl) rfl (by show 2 * 0 + _ ≤ _; exact Nat.le_of_eq rfl) (hb hby d8_6) (fun _ _ => ⟨rfl, e2, (Nat.le_of_ble_eq_true rfl), (Nat.le_of_ble_eq_true rfl)⟩)
  dsimp only [Pt.U, Pt.locs, Pt.cells, Pt.slots] at X3 l3 y3 z3 st3 hQ3
  subst l3 y3 z3
  obtain ⟨rfl, N3q, KQ, RQ⟩ := hQ3
  have N3 := Fr.app N0 N3q
  obtain ⟨fs, hr, hrun, hended, hW, hsame⟩ := X3.leave (v := some (.ref b2)) (fun h => by rw [Bd.returns] at h; cases h)
  refine ⟨_, _, pre0 _ ?_, hrun, hended, _, _, rfl, ?_, ⟨_, rfl⟩, hW, hsame.mono (by decide) (by decide)⟩
  · show Steps p.tables e below (s₁.setTop (mkF m 0 #[.val (.ref a1)] [])) _
    refine st2 _ ?_
    show Steps p.tables e below (T2.setTop (mkF m 3 #[.val (.ref a1)] [(.ref b2)])) _
    refine XS.dup X2.here hx rfl (hb hby d8_3) rfl rfl ?_
    show Steps p.tables e below (T2.setTop (mkF m 4 #[.val (.ref a1)] [(.ref b2), (.ref b2)])) _
    refine XS.aloadN X2.here hx rfl (hb hby d8_4) rfl rfl ?_
    show Steps p.tables e below (T2.setTop (mkF m 5 #[.val (.ref a1)] [(.ref a1), (.ref b2), (.ref b2)])) _
    refine XS.iconst X2.here hx rfl (hb hby d8_5) ?_
    show Steps p.tables e below (T2.setTop (mkF m 6 #[.val (.ref a1)] [(.int (1 : Int32)), (.ref a1), (.ref b2), (.ref b2)])) _
    refine st3.trans ?_
    show Steps p.tables e below (T3.setTop (mkF m 9 #[.val (.ref a1)] [(.ref b2)])) _
    jvm_step X3.here [X3.here.top, hx, (hb hby d8_9), X3.method', Bd.returns, Value.isRef, FieldType.isReference]
    first | (intro acts; rw [hr _ acts rfl rfl rfl]) | rw [hr _ _ rfl rfl rfl]
    exact Steps.refl _
  · show Q8 Z a1 _ n0 _ T3.heap _
    exact ⟨_, rfl, N3, K2.trans KQ (allS (Or.inr sz_b2) all0), RQ⟩
theorem pn_011 : plainName "com/example/anemone/anemone/model/RecoveredIsNonePinLaw" = true := by first | (simp [plainName, overriddenIn]; done) | decide +kernel
theorem pd_0_011 : parseMethodDescriptor "(I)Ljava/lang/Integer;" = some ⟨[.int], some (.object "java/lang/Integer")⟩ := by decide +kernel
theorem pd_0_111 : parseMethodDescriptor "(Ljava/lang/Object;Z)V" = some ⟨[(.object "java/lang/Object"), .boolean], none⟩ := by decide +kernel
theorem pd_0_311 : parseMethodDescriptor "()Z" = some ⟨[], some .boolean⟩ := by decide +kernel
theorem pd_0_411 : parseMethodDescriptor "()Lcom/example/anemone/anemone/model/Recovered;" = some ⟨[], some (.object "com/example/anemone/anemone/model/Recovered")⟩ := by decide +kernel
theorem pd_0_511 : parseMethodDescriptor "(Ljava/lang/Object;)Lcom/example/anemone/anemone/model/Recovered;" = some ⟨[(.object "java/lang/Object")], some (.object "com/example/anemone/anemone/model/Recovered")⟩ := by decide +kernel
theorem ef_011 (m : MethodId) (x0 : Int32) (x1 : Int32) : entryFrame m #[(.int x0), (.int x1)] maxLocals = mkF m 0 #[.val (.int x0), .val (.int x1), .unset, .unset, .unset, .unset, .unset, .unset, .unset, .unset, .unset] [] := by first | (simp [entryFrame, mkF, argsToLocals, Value.category, maxLocals]; done) | rfl
def Q011 (Z : State) (p1 : Int32) (p2 : Int32) (h0 : Heap) (n0 : Nat) (v : Option Value) (h : Heap) (L : List Loc) : Prop := v = some (.int (1 : Int32)) ∧ Fr n0 L
set_option maxRecDepth 65536 in
set_option maxHeartbeats 40000000 in
theorem rm011 (l : Launch) (Z : State) (a0 : Array Value) (hw : ∀ d ∈ tables_1, d.before a0 Z = true) (ws : List Jvm.Cond) (p1 : Int32) (p2 : Int32) (h0 : Heap) (n0 : Nat) (Z0 : n0 ≤ h0.size) (hc3 : ¬ ((p2 &&& (1 : Int32)) = (0 : Int32))) (hc15 : ¬ ((p2 &&& (2 : Int32)) = (0 : Int32))) (O0 : Old Z n0 h0) (cf : Cf Z p1) :
    MetFree l x (head1 (Jvm.Cond.code x code maxLocals ret :: ws) room_1) (fun a U => a = #[(.int p1), (.int p2)] ∧ Z.Warmed39 U.vm ∧ U.heap = h0) (fun _ _ _ _ _ => True) (fun _ U o U' => ∃ v L, o = .returned v ∧ Q011 Z p1 p2 h0 n0 v U'.heap L ∧ FrameEnd U o U' L room_1.cells room_1.slots) := by
  refine MetFree.of_bodySF (plainFor_of_name pn_011) hisR ?_
  intro p e s m args below meth c s₁ Bd hml0 hP hK
  obtain ⟨rfl, hZ, hh⟩ := hP
  have hx := Bd.exec
  have hby := Bd.bytes
  have hml : c.maxLocals = 11 := hml0
  have hown : s.vm.findClass "com/example/anemone/anemone/model/RecoveredIsNonePinLaw" = some m.cls := findClass_of_methodNamed Bd.named
  have hnm := (name_of_methodNamed Bd.named Bd.method).1
  have X0 : Stand p l e room_1 s m #[(.int p1), (.int p2)] below meth c s₁ [] 0 0 := Stand.of_body Bd
  have e0 : s₁.heap = h0 := by rw [← hh, Bd.state]; rfl
  have N0 := Fr.nil n0
  have pre0 : ∀ t, Steps p.tables e below (s₁.setTop (mkF m 0 #[.val (.int p1), .val (.int p2), .unset, .unset, .unset, .unset, .unset, .unset, .unset, .unset, .unset] [])) t → Steps p.tables e below (s₁.setTop (entryFrame m #[(.int p1), (.int p2)] maxLocals)) t := fun t k => castTop (ef_011 m p1 p2) k
  obtain ⟨_, _, ⟨T3, L3, k3, n3⟩, -, X3, ⟨Lc3, hQ3, l3, y3, z3⟩, st3⟩ := Jvm.LawKit.callS X0 hx (y := (⟨"java/lang/Integer", "valueOf", "(I)Ljava/lang/Integer;"⟩ : MethodName)) hown (mvT hZ (hw _ (List.mem_of_getElem? (i := 0) rfl))) (mvT hZ (hw _ (List.mem_of_getElem? (i := 1) rfl))) (mvT hZ (hw _ (List.mem_of_getElem? (i := 2) rfl))) (mvT hZ (hw _ (List.mem_of_getElem? (i := 3) rfl))) (by decide) (backOf (W := 0) (rm1 l Z a0 hw [] p1 h0 n0 Z0 O0 cf) hZ (hw _ (List.mem_of_getElem? (i := 3) rfl)) (hw _ (List.mem_of_getElem? (i := 2) rfl)) (by decide) (by decide)) (g := (mkF m 32 #[.val (.int p1), .val (.int p2), .val (.int (1 : Int32)), .val (.int (1 : Int32)), .val .null, .unset, .unset, .unset, .unset, .unset, .unset] [(.int p1)])) rfl (by rw [hml]; rfl) (argsL := [(.int p1)]) (rest := []) (lenOf pd_0_011 rfl) rfl (by show 2 * 0 + _ ≤ _; exact Nat.le_of_eq rfl) (hb hby at_32) (fun _ _ => ⟨rfl, e0, (Nat.le_of_ble_eq_true rfl), (Nat.le_of_ble_eq_true rfl)⟩)
  dsimp only [Pt.U, Pt.locs, Pt.cells, Pt.slots] at X3 l3 y3 z3 st3 hQ3
  subst l3 y3 z3
  obtain ⟨v3, rfl, N3q, KV⟩ := hQ3
  have N3 := Fr.app N0 N3q
  have O1 := O0.keep KV all0
  obtain ⟨T4, h4, X4, e4, E4, A4, D4, -, st4⟩ := newO X3 hx hZ hown (hw _ (List.mem_of_getElem? (i := 7) rfl)) (hw _ (List.mem_of_getElem? (i := 8) rfl)) (hw _ (List.mem_of_getElem? (i := 9) rfl)) rfl (g := (mkF m 37 #[.val (.int p1), .val (.int p2), .val (.int (1 : Int32)), .val (.int (1 : Int32)), .val (.ref v3), .unset, .unset, .unset, .unset, .unset, .unset] [])) rfl (hb hby at_37) (by decide) (by decide)
  obtain ⟨b4, g4⟩ : ∃ z, z = T3.heap.size := ⟨_, rfl⟩
  rw [← g4] at A4 D4 st4
  have F_value_b4 : Fld Z h4 b4 "com/example/anemone/anemone/model/Recovered" "value" "Ljava/lang/Object;" .null := D4 (Or.inr (hw _ (List.mem_of_getElem? (i := 22) rfl))) (ty := (.object "java/lang/Object")) (by decide)
  have F_known_b4 : Fld Z h4 b4 "com/example/anemone/anemone/model/Recovered" "known" "Z" (.int (0 : Int32)) := D4 (Or.inr (hw _ (List.mem_of_getElem? (i := 24) rfl))) (ty := .boolean) (by decide)
  have E_b4 := A4
  have g_b4 : n0 ≤ b4 := Nat.le_trans (Nat.le_trans Z0 KV.1) (Nat.le_of_eq g4.symm)
  have sz_b4 : h0.size ≤ b4 := (Nat.le_trans KV.1 (Nat.le_of_eq g4.symm))
  have K4 : Keep h0 h4 [] := KV.ext E4
  obtain ⟨_, _, ⟨T5, L5, k5, n5⟩, -, X5, ⟨Lc5, hQ5, l5, y5, z5⟩, st5⟩ := X4.specialBack hx (y := (⟨"com/example/anemone/anemone/model/Recovered", "<init>", "(Ljava/lang/Object;Z)V"⟩ : MethodName)) rfl hown (mvT hZ (hw _ (List.mem_of_getElem? (i := 10) rfl))) (mvT hZ (hw _ (List.mem_of_getElem? (i := 11) rfl))) (mvT hZ (hw _ (List.mem_of_getElem? (i := 12) rfl))) (by decide) (backOf (W := 1) (rm2r1 l Z a0 hw [] b4 v3 _ _ h4 n0 (Nat.le_trans g_b4 (Nat.le_of_lt E_b4.lt)) E_b4 F_value_b4 g_b4 F_known_b4) hZ (hw _ (List.mem_of_getElem? (i := 12) rfl)) (hw _ (List.mem_of_getElem? (i := 9) rfl)) (by decide) (by decide)) (g := (mkF m 44 #[.val (.int p1), .val (.int p2), .val (.int (1 : Int32)), .val (.int (1 : Int32)), .val (.ref v3), .unset, .unset, .unset, .unset, .unset, .unset] [(.int (1 : Int32)), (.ref v3), (.ref b4), (.ref b4)])) rfl (by rw [hml]; rfl) (Steps.refl _) (a := b4) (argsL := [(.ref v3), (.int (1 : Int32))]) (rest := [(.ref b4)]) (lenOf pd_0_111 rfl) rfl (by show 2 * 0 + _ ≤ _; exact Nat.le_of_eq rfl) (hb hby at_44) (fun _ _ => ⟨rfl, e4, (Nat.le_of_ble_eq_true rfl), (Nat.le_of_ble_eq_true rfl)⟩)
  dsimp only [Pt.U, Pt.locs, Pt.cells, Pt.slots] at X5 l5 y5 z5 st5 hQ5
  subst l5 y5 z5
  obtain ⟨rfl, N5q, KI, RI⟩ := hQ5
  have N5 := Fr.app N3 N5q
  have O2 := (O1.ext E4).keep KI (allS g_b4 all0)
  obtain ⟨cq6, kq6, q6a, q6b, q6c⟩ := isOf hZ rfl RI.1
  obtain ⟨_, _, ⟨T6, L6, k6, n6⟩, -, X6, ⟨Lc6, hQ6, l6, y6, z6⟩, st6⟩ := X5.virtualBack hx (y := (⟨"com/example/anemone/anemone/model/Recovered", "isNone", "()Z"⟩ : MethodName)) (z := (⟨"com/example/anemone/anemone/model/Recovered", "isNone", "()Z"⟩ : MethodName)) hown (mvT hZ (hw _ (List.mem_of_getElem? (i := 25) rfl))) (mvT hZ (hw _ (List.mem_of_getElem? (i := 26) rfl))) (notFace_of_selects (args := #[]) (mvT hZ (hw _ (List.mem_of_getElem? (i := 28) rfl)))) (mvT hZ (hw _ (List.mem_of_getElem? (i := 28) rfl))) (mvT hZ (hw _ (List.mem_of_getElem? (i := 27) rfl))) (by decide) (backOf (W := 0) (rm5v l Z a0 hw [] b4 _ _ _ n0 (Nat.le_trans g_b4 (Nat.le_of_lt RI.1.lt)) RI.2.2 RI.2.1 (by decide)) hZ (hw _ (List.mem_of_getElem? (i := 29) rfl)) (hw _ (List.mem_of_getElem? (i := 9) rfl)) (by decide) (by decide)) q6a q6c (g := (mkF m 74 #[.val (.int p1), .val (.int p2), .val (.int (1 : Int32)), .val (.int (1 : Int32)), .val (.ref v3), .val (.ref b4), .val (.int (0 : Int32)), .unset, .unset, .unset, .unset] [(.ref b4)])) rfl (by rw [hml]; rfl) (Steps.refl _) (argsL := []) (rest := []) (lenOf pd_0_311 rfl) rfl (by show 2 * 0 + _ ≤ _; exact Nat.le_of_eq rfl) (hb hby at_74) (fun _ _ => ⟨rfl, rfl, (Nat.le_of_ble_eq_true rfl), (Nat.le_of_ble_eq_true rfl)⟩)
  dsimp only [Pt.U, Pt.locs, Pt.cells, Pt.slots] at X6 l6 y6 z6 st6 hQ6
  subst l6 y6 z6
  obtain ⟨rfl, N6q, HQ⟩ := hQ6
  have N6 := Fr.app N5 N6q
  rw [← HQ] at O2
  obtain ⟨_, _, ⟨T7, L7, k7, n7⟩, -, X7, ⟨Lc7, hQ7, l7, y7, z7⟩, st7⟩ := Jvm.LawKit.callS X6 hx (y := (⟨"com/example/anemone/anemone/model/Recovered", "none", "()Lcom/example/anemone/anemone/model/Recovered;"⟩ : MethodName)) hown (mvT hZ (hw _ (List.mem_of_getElem? (i := 30) rfl))) (mvT hZ (hw _ (List.mem_of_getElem? (i := 31) rfl))) (mvT hZ (hw _ (List.mem_of_getElem? (i := 9) rfl))) (mvT hZ (hw _ (List.mem_of_getElem? (i := 32) rfl))) (by decide) (backOf (W := 0) (rm6 l Z a0 hw [] _ n0 (Nat.le_trans (Nat.le_of_eq O2.1.symm) O2.2.1)) hZ (hw _ (List.mem_of_getElem? (i := 32) rfl)) (hw _ (List.mem_of_getElem? (i := 9) rfl)) (by decide) (by decide)) (g := (mkF m 89 #[.val (.int p1), .val (.int p2), .val (.int (1 : Int32)), .val (.int (1 : Int32)), .val (.ref v3), .val (.ref b4), .val (.int (0 : Int32)), .val (.int (1 : Int32)), .unset, .unset, .unset] [])) rfl (by rw [hml]; rfl) (argsL := []) (rest := []) (lenOf pd_0_411 rfl) rfl (by show 2 * 0 + _ ≤ _; exact Nat.le_of_eq rfl) (hb hby at_89) (fun _ _ => ⟨rfl, rfl, (Nat.le_of_ble_eq_true rfl), (Nat.le_of_ble_eq_true rfl)⟩)
  dsimp only [Pt.U, Pt.locs, Pt.cells, Pt.slots] at X7 l7 y7 z7 st7 hQ7
  subst l7 y7 z7
  obtain ⟨bn, rfl, N7q, KN, RN⟩ := hQ7
  have N7 := Fr.app N6 N7q
  have O3 := O2.keep KN all0
  obtain ⟨_, _, ⟨T8, L8, k8, n8⟩, -, X8, ⟨Lc8, hQ8, l8, y8, z8⟩, st8⟩ := Jvm.LawKit.callS X7 hx (y := (⟨"com/example/anemone/anemone/model/Recovered", "unknown", "()Lcom/example/anemone/anemone/model/Recovered;"⟩ : MethodName)) hown (mvT hZ (hw _ (List.mem_of_getElem? (i := 35) rfl))) (mvT hZ (hw _ (List.mem_of_getElem? (i := 36) rfl))) (mvT hZ (hw _ (List.mem_of_getElem? (i := 9) rfl))) (mvT hZ (hw _ (List.mem_of_getElem? (i := 37) rfl))) (by decide) (backOf (W := 0) (rm7 l Z a0 hw [] _ n0 (Nat.le_trans (Nat.le_of_eq O3.1.symm) O3.2.1)) hZ (hw _ (List.mem_of_getElem? (i := 37) rfl)) (hw _ (List.mem_of_getElem? (i := 9) rfl)) (by decide) (by decide)) (g := (mkF m 94 #[.val (.int p1), .val (.int p2), .val (.int (1 : Int32)), .val (.int (1 : Int32)), .val (.ref v3), .val (.ref b4), .val (.int (0 : Int32)), .val (.int (1 : Int32)), .val (.ref bn), .unset, .unset] [])) rfl (by rw [hml]; rfl) (argsL := []) (rest := []) (lenOf pd_0_411 rfl) rfl (by show 2 * 0 + _ ≤ _; exact Nat.le_of_eq rfl) (hb hby at_94) (fun _ _ => ⟨rfl, rfl, (Nat.le_of_ble_eq_true rfl), (Nat.le_of_ble_eq_true rfl)⟩)
  dsimp only [Pt.U, Pt.locs, Pt.cells, Pt.slots] at X8 l8 y8 z8 st8 hQ8
  subst l8 y8 z8
  obtain ⟨bu, rfl, N8q, KU, RU⟩ := hQ8
  have N8 := Fr.app N7 N8q
  have O4 := O3.keep KU all0
  obtain ⟨_, _, ⟨T9, L9, k9, n9⟩, -, X9, ⟨Lc9, hQ9, l9, y9, z9⟩, st9⟩ := Jvm.LawKit.callS X8 hx (y := (⟨"java/lang/Integer", "valueOf", "(I)Ljava/lang/Integer;"⟩ : MethodName)) hown (mvT hZ (hw _ (List.mem_of_getElem? (i := 0) rfl))) (mvT hZ (hw _ (List.mem_of_getElem? (i := 1) rfl))) (mvT hZ (hw _ (List.mem_of_getElem? (i := 2) rfl))) (mvT hZ (hw _ (List.mem_of_getElem? (i := 3) rfl))) (by decide) (backOf (W := 0) (rm1 l Z a0 hw [] p1 _ n0 (Nat.le_trans (Nat.le_of_eq O4.1.symm) O4.2.1) O4 cf) hZ (hw _ (List.mem_of_getElem? (i := 3) rfl)) (hw _ (List.mem_of_getElem? (i := 2) rfl)) (by decide) (by decide)) (g := (mkF m 100 #[.val (.int p1), .val (.int p2), .val (.int (1 : Int32)), .val (.int (1 : Int32)), .val (.ref v3), .val (.ref b4), .val (.int (0 : Int32)), .val (.int (1 : Int32)), .val (.ref bn), .val (.ref bu), .unset] [(.int p1)])) rfl (by rw [hml]; rfl) (argsL := [(.int p1)]) (rest := []) (lenOf pd_0_011 rfl) rfl (by show 2 * 0 + _ ≤ _; exact Nat.le_of_eq rfl) (hb hby at_100) (fun _ _ => ⟨rfl, rfl, (Nat.le_of_ble_eq_true rfl), (Nat.le_of_ble_eq_true rfl)⟩)
  dsimp only [Pt.U, Pt.locs, Pt.cells, Pt.slots] at X9 l9 y9 z9 st9 hQ9
  subst l9 y9 z9
  obtain ⟨bx, rfl, N9q, KX⟩ := hQ9
  have N9 := Fr.app N8 N9q
  have O5 := O4.keep KX all0
  obtain ⟨_, _, ⟨T10, L10, k10, n10⟩, -, X10, ⟨Lc10, hQ10, l10, y10, z10⟩, st10⟩ := Jvm.LawKit.callS X9 hx (y := (⟨"com/example/anemone/anemone/model/Recovered", "of", "(Ljava/lang/Object;)Lcom/example/anemone/anemone/model/Recovered;"⟩ : MethodName)) hown (mvT hZ (hw _ (List.mem_of_getElem? (i := 38) rfl))) (mvT hZ (hw _ (List.mem_of_getElem? (i := 39) rfl))) (mvT hZ (hw _ (List.mem_of_getElem? (i := 9) rfl))) (mvT hZ (hw _ (List.mem_of_getElem? (i := 40) rfl))) (by decide) (backOf (W := 0) (rm8 l Z a0 hw [] bx _ n0 (Nat.le_trans (Nat.le_of_eq O5.1.symm) O5.2.1)) hZ (hw _ (List.mem_of_getElem? (i := 40) rfl)) (hw _ (List.mem_of_getElem? (i := 9) rfl)) (by decide) (by decide)) (g := (mkF m 103 #[.val (.int p1), .val (.int p2), .val (.int (1 : Int32)), .val (.int (1 : Int32)), .val (.ref v3), .val (.ref b4), .val (.int (0 : Int32)), .val (.int (1 : Int32)), .val (.ref bn), .val (.ref bu), .unset] [(.ref bx)])) rfl (by rw [hml]; rfl) (argsL := [(.ref bx)]) (rest := []) (lenOf pd_0_511 rfl) rfl (by show 2 * 0 + _ ≤ _; exact Nat.le_of_eq rfl) (hb hby at_103) (fun _ _ => ⟨rfl, rfl, (Nat.le_of_ble_eq_true rfl), (Nat.le_of_ble_eq_true rfl)⟩)
  dsimp only [Pt.U, Pt.locs, Pt.cells, Pt.slots] at X10 l10 y10 z10 st10 hQ10
  subst l10 y10 z10
  obtain ⟨bc, rfl, N10q, KC, RC⟩ := hQ10
  have N10 := Fr.app N9 N10q
  have O6 := O5.keep KC all0
  have RN6 := ((RN.keep KU).keep KX).keep KC
  have RU6 := (RU.keep KX).keep KC
  obtain ⟨cq11, kq11, q11a, q11b, q11c⟩ := isOf hZ rfl RN6.1
  obtain ⟨_, _, ⟨T11, L11, k11, n11⟩, -, X11, ⟨Lc11, hQ11, l11, y11, z11⟩, st11⟩ := X10.virtualBack hx (y := (⟨"com/example/anemone/anemone/model/Recovered", "isNone", "()Z"⟩ : MethodName)) (z := (⟨"com/example/anemone/anemone/model/Recovered", "isNone", "()Z"⟩ : MethodName)) hown (mvT hZ (hw _ (List.mem_of_getElem? (i := 25) rfl))) (mvT hZ (hw _ (List.mem_of_getElem? (i := 26) rfl))) (notFace_of_selects (args := #[]) (mvT hZ (hw _ (List.mem_of_getElem? (i := 28) rfl)))) (mvT hZ (hw _ (List.mem_of_getElem? (i := 28) rfl))) (mvT hZ (hw _ (List.mem_of_getElem? (i := 27) rfl))) (by decide) (backOf (W := 0) (rm5n l Z a0 hw [] bn _ _ n0 (Nat.le_trans (Nat.le_of_eq O6.1.symm) O6.2.1) RN6.2.2 RN6.2.1 (by decide)) hZ (hw _ (List.mem_of_getElem? (i := 29) rfl)) (hw _ (List.mem_of_getElem? (i := 9) rfl)) (by decide) (by decide)) q11a q11c (g := (mkF m 115 #[.val (.int p1), .val (.int p2), .val (.int (1 : Int32)), .val (.int (1 : Int32)), .val (.ref v3), .val (.ref b4), .val (.int (0 : Int32)), .val (.int (1 : Int32)), .val (.ref bn), .val (.ref bu), .val (.ref bc)] [(.ref bn)])) rfl (by rw [hml]; rfl) (Steps.refl _) (argsL := []) (rest := []) (lenOf pd_0_311 rfl) rfl (by show 2 * 0 + _ ≤ _; exact Nat.le_of_eq rfl) (hb hby at_115) (fun _ _ => ⟨rfl, rfl, (Nat.le_of_ble_eq_true rfl), (Nat.le_of_ble_eq_true rfl)⟩)
  dsimp only [Pt.U, Pt.locs, Pt.cells, Pt.slots] at X11 l11 y11 z11 st11 hQ11
  subst l11 y11 z11
  obtain ⟨rfl, N11q, HQ1⟩ := hQ11
  have N11 := Fr.app N10 N11q
  obtain ⟨cq12, kq12, q12a, q12b, q12c⟩ := isOf hZ HQ1 RU6.1
  obtain ⟨_, _, ⟨T12, L12, k12, n12⟩, -, X12, ⟨Lc12, hQ12, l12, y12, z12⟩, st12⟩ := X11.virtualBack hx (y := (⟨"com/example/anemone/anemone/model/Recovered", "isNone", "()Z"⟩ : MethodName)) (z := (⟨"com/example/anemone/anemone/model/Recovered", "isNone", "()Z"⟩ : MethodName)) hown (mvT hZ (hw _ (List.mem_of_getElem? (i := 25) rfl))) (mvT hZ (hw _ (List.mem_of_getElem? (i := 26) rfl))) (notFace_of_selects (args := #[]) (mvT hZ (hw _ (List.mem_of_getElem? (i := 28) rfl)))) (mvT hZ (hw _ (List.mem_of_getElem? (i := 28) rfl))) (mvT hZ (hw _ (List.mem_of_getElem? (i := 27) rfl))) (by decide) (backOf (W := 0) (rm5u l Z a0 hw [] bu _ _ n0 (Nat.le_trans (Nat.le_of_eq O6.1.symm) O6.2.1) RU6.2.2 rfl) hZ (hw _ (List.mem_of_getElem? (i := 29) rfl)) (hw _ (List.mem_of_getElem? (i := 9) rfl)) (by decide) (by decide)) q12a q12c (g := (mkF m 123 #[.val (.int p1), .val (.int p2), .val (.int (1 : Int32)), .val (.int (1 : Int32)), .val (.ref v3), .val (.ref b4), .val (.int (0 : Int32)), .val (.int (1 : Int32)), .val (.ref bn), .val (.ref bu), .val (.ref bc)] [(.ref bu)])) rfl (by rw [hml]; rfl) (Steps.refl _) (argsL := []) (rest := []) (lenOf pd_0_311 rfl) rfl (by show 2 * 0 + _ ≤ _; exact Nat.le_of_eq rfl) (hb hby at_123) (fun _ _ => ⟨rfl, HQ1, (Nat.le_of_ble_eq_true rfl), (Nat.le_of_ble_eq_true rfl)⟩)
  dsimp only [Pt.U, Pt.locs, Pt.cells, Pt.slots] at X12 l12 y12 z12 st12 hQ12
  subst l12 y12 z12
  obtain ⟨rfl, N12q, HQ2⟩ := hQ12
  have N12 := Fr.app N11 N12q
  obtain ⟨cq13, kq13, q13a, q13b, q13c⟩ := isOf hZ HQ2 RC.1
  obtain ⟨_, _, ⟨T13, L13, k13, n13⟩, -, X13, ⟨Lc13, hQ13, l13, y13, z13⟩, st13⟩ := X12.virtualBack hx (y := (⟨"com/example/anemone/anemone/model/Recovered", "isNone", "()Z"⟩ : MethodName)) (z := (⟨"com/example/anemone/anemone/model/Recovered", "isNone", "()Z"⟩ : MethodName)) hown (mvT hZ (hw _ (List.mem_of_getElem? (i := 25) rfl))) (mvT hZ (hw _ (List.mem_of_getElem? (i := 26) rfl))) (notFace_of_selects (args := #[]) (mvT hZ (hw _ (List.mem_of_getElem? (i := 28) rfl)))) (mvT hZ (hw _ (List.mem_of_getElem? (i := 28) rfl))) (mvT hZ (hw _ (List.mem_of_getElem? (i := 27) rfl))) (by decide) (backOf (W := 0) (rm5v l Z a0 hw [] bc _ _ _ n0 (Nat.le_trans (Nat.le_of_eq O6.1.symm) O6.2.1) RC.2.2 RC.2.1 (by decide)) hZ (hw _ (List.mem_of_getElem? (i := 29) rfl)) (hw _ (List.mem_of_getElem? (i := 9) rfl)) (by decide) (by decide)) q13a q13c (g := (mkF m 131 #[.val (.int p1), .val (.int p2), .val (.int (1 : Int32)), .val (.int (1 : Int32)), .val (.ref v3), .val (.ref b4), .val (.int (0 : Int32)), .val (.int (1 : Int32)), .val (.ref bn), .val (.ref bu), .val (.ref bc)] [(.ref bc)])) rfl (by rw [hml]; rfl) (Steps.refl _) (argsL := []) (rest := []) (lenOf pd_0_311 rfl) rfl (by show 2 * 0 + _ ≤ _; exact Nat.le_of_eq rfl) (hb hby at_131) (fun _ _ => ⟨rfl, HQ2, (Nat.le_of_ble_eq_true rfl), (Nat.le_of_ble_eq_true rfl)⟩)
  dsimp only [Pt.U, Pt.locs, Pt.cells, Pt.slots] at X13 l13 y13 z13 st13 hQ13
  subst l13 y13 z13
  obtain ⟨rfl, N13q, -⟩ := hQ13
  have N13 := Fr.app N12 N13q
  obtain ⟨fs, hr, hrun, hended, hW, hsame⟩ := X13.leave (v := some (.int (1 : Int32))) (fun h => by rw [Bd.returns] at h; cases h)
  refine ⟨_, _, pre0 _ ?_, hrun, hended, _, _, rfl, ?_, ⟨_, rfl⟩, hW, hsame.mono (by decide) (by decide)⟩
  · show Steps p.tables e below (s₁.setTop (mkF m 0 #[.val (.int p1), .val (.int p2), .unset, .unset, .unset, .unset, .unset, .unset, .unset, .unset, .unset] [])) _
    refine XS.iloadN X0.here hx rfl (hb hby at_0) rfl ?_
    show Steps p.tables e below (s₁.setTop (mkF m 1 #[.val (.int p1), .val (.int p2), .unset, .unset, .unset, .unset, .unset, .unset, .unset, .unset, .unset] [(.int p2)])) _
    refine XS.iconst X0.here hx rfl (hb hby at_1) ?_
    show Steps p.tables e below (s₁.setTop (mkF m 2 #[.val (.int p1), .val (.int p2), .unset, .unset, .unset, .unset, .unset, .unset, .unset, .unset, .unset] [(.int (1 : Int32)), (.int p2)])) _
    refine XS.iand X0.here hx rfl (hb hby at_2) rfl ?_
    show Steps p.tables e below (s₁.setTop (mkF m 3 #[.val (.int p1), .val (.int p2), .unset, .unset, .unset, .unset, .unset, .unset, .unset, .unset, .unset] [(.int (p2 &&& (1 : Int32)))])) _
    refine XS.ifNo X0.here hx rfl (hb hby at_3) rfl ((if0 _ _).trans (feq hc3).1) ?_
    show Steps p.tables e below (s₁.setTop (mkF m 6 #[.val (.int p1), .val (.int p2), .unset, .unset, .unset, .unset, .unset, .unset, .unset, .unset, .unset] [])) _
    refine XS.iconst X0.here hx rfl (hb hby at_6) ?_
    show Steps p.tables e below (s₁.setTop (mkF m 7 #[.val (.int p1), .val (.int p2), .unset, .unset, .unset, .unset, .unset, .unset, .unset, .unset, .unset] [(.int (1 : Int32))])) _
    refine XS.goto X0.here hx rfl (pc0 := 7) (pc' := 11) rfl (hb hby at_7) (by decide) (by decide) ?_
    show Steps p.tables e below (s₁.setTop (mkF m 11 #[.val (.int p1), .val (.int p2), .unset, .unset, .unset, .unset, .unset, .unset, .unset, .unset, .unset] [(.int (1 : Int32))])) _
    refine XS.istoreN X0.here hx rfl (hb hby at_11) rfl (l' := #[.val (.int p1), .val (.int p2), .val (.int (1 : Int32)), .unset, .unset, .unset, .unset, .unset, .unset, .unset, .unset]) rfl ?_
    show Steps p.tables e below (s₁.setTop (mkF m 12 #[.val (.int p1), .val (.int p2), .val (.int (1 : Int32)), .unset, .unset, .unset, .unset, .unset, .unset, .unset, .unset] [])) _
    refine XS.iloadN X0.here hx rfl (hb hby at_12) rfl ?_
    show Steps p.tables e below (s₁.setTop (mkF m 13 #[.val (.int p1), .val (.int p2), .val (.int (1 : Int32)), .unset, .unset, .unset, .unset, .unset, .unset, .unset, .unset] [(.int p2)])) _
    refine XS.iconst X0.here hx rfl (hb hby at_13) ?_
    show Steps p.tables e below (s₁.setTop (mkF m 14 #[.val (.int p1), .val (.int p2), .val (.int (1 : Int32)), .unset, .unset, .unset, .unset, .unset, .unset, .unset, .unset] [(.int (2 : Int32)), (.int p2)])) _
    refine XS.iand X0.here hx rfl (hb hby at_14) rfl ?_
    show Steps p.tables e below (s₁.setTop (mkF m 15 #[.val (.int p1), .val (.int p2), .val (.int (1 : Int32)), .unset, .unset, .unset, .unset, .unset, .unset, .unset, .unset] [(.int (p2 &&& (2 : Int32)))])) _
    refine XS.ifNo X0.here hx rfl (hb hby at_15) rfl ((if0 _ _).trans (feq hc15).1) ?_
    show Steps p.tables e below (s₁.setTop (mkF m 18 #[.val (.int p1), .val (.int p2), .val (.int (1 : Int32)), .unset, .unset, .unset, .unset, .unset, .unset, .unset, .unset] [])) _
    refine XS.iconst X0.here hx rfl (hb hby at_18) ?_
    show Steps p.tables e below (s₁.setTop (mkF m 19 #[.val (.int p1), .val (.int p2), .val (.int (1 : Int32)), .unset, .unset, .unset, .unset, .unset, .unset, .unset, .unset] [(.int (1 : Int32))])) _
    refine XS.goto X0.here hx rfl (pc0 := 19) (pc' := 23) rfl (hb hby at_19) (by decide) (by decide) ?_
    show Steps p.tables e below (s₁.setTop (mkF m 23 #[.val (.int p1), .val (.int p2), .val (.int (1 : Int32)), .unset, .unset, .unset, .unset, .unset, .unset, .unset, .unset] [(.int (1 : Int32))])) _
    refine XS.istoreN X0.here hx rfl (hb hby at_23) rfl (l' := #[.val (.int p1), .val (.int p2), .val (.int (1 : Int32)), .val (.int (1 : Int32)), .unset, .unset, .unset, .unset, .unset, .unset, .unset]) rfl ?_
    show Steps p.tables e below (s₁.setTop (mkF m 24 #[.val (.int p1), .val (.int p2), .val (.int (1 : Int32)), .val (.int (1 : Int32)), .unset, .unset, .unset, .unset, .unset, .unset, .unset] [])) _
    refine XS.aconstNull X0.here hx rfl (hb hby at_24) ?_
    show Steps p.tables e below (s₁.setTop (mkF m 25 #[.val (.int p1), .val (.int p2), .val (.int (1 : Int32)), .val (.int (1 : Int32)), .unset, .unset, .unset, .unset, .unset, .unset, .unset] [.null])) _
    refine XS.astore X0.here hx rfl (hb hby at_25) rfl rfl (l' := #[.val (.int p1), .val (.int p2), .val (.int (1 : Int32)), .val (.int (1 : Int32)), .val .null, .unset, .unset, .unset, .unset, .unset, .unset]) rfl ?_
    show Steps p.tables e below (s₁.setTop (mkF m 27 #[.val (.int p1), .val (.int p2), .val (.int (1 : Int32)), .val (.int (1 : Int32)), .val .null, .unset, .unset, .unset, .unset, .unset, .unset] [])) _
    refine XS.iloadN X0.here hx rfl (hb hby at_27) rfl ?_
    show Steps p.tables e below (s₁.setTop (mkF m 28 #[.val (.int p1), .val (.int p2), .val (.int (1 : Int32)), .val (.int (1 : Int32)), .val .null, .unset, .unset, .unset, .unset, .unset, .unset] [(.int (1 : Int32))])) _
    refine XS.ifNo X0.here hx rfl (hb hby at_28) rfl ((if0 _ _).trans (feq (by decide)).1) ?_
    show Steps p.tables e below (s₁.setTop (mkF m 31 #[.val (.int p1), .val (.int p2), .val (.int (1 : Int32)), .val (.int (1 : Int32)), .val .null, .unset, .unset, .unset, .unset, .unset, .unset] [])) _
    refine XS.iloadN X0.here hx rfl (hb hby at_31) rfl ?_
    show Steps p.tables e below (s₁.setTop (mkF m 32 #[.val (.int p1), .val (.int p2), .val (.int (1 : Int32)), .val (.int (1 : Int32)), .val .null, .unset, .unset, .unset, .unset, .unset, .unset] [(.int p1)])) _
    refine st3 _ ?_
    show Steps p.tables e below (T3.setTop (mkF m 35 #[.val (.int p1), .val (.int p2), .val (.int (1 : Int32)), .val (.int (1 : Int32)), .val .null, .unset, .unset, .unset, .unset, .unset, .unset] [(.ref v3)])) _
    refine XS.astore X3.here hx rfl (hb hby at_35) rfl rfl (l' := #[.val (.int p1), .val (.int p2), .val (.int (1 : Int32)), .val (.int (1 : Int32)), .val (.ref v3), .unset, .unset, .unset, .unset, .unset, .unset]) rfl ?_
    show Steps p.tables e below (T3.setTop (mkF m 37 #[.val (.int p1), .val (.int p2), .val (.int (1 : Int32)), .val (.int (1 : Int32)), .val (.ref v3), .unset, .unset, .unset, .unset, .unset, .unset] [])) _
    refine st4 _ ?_
    show Steps p.tables e below (T4.setTop (mkF m 40 #[.val (.int p1), .val (.int p2), .val (.int (1 : Int32)), .val (.int (1 : Int32)), .val (.ref v3), .unset, .unset, .unset, .unset, .unset, .unset] [(.ref b4)])) _
    refine XS.dup X4.here hx rfl (hb hby at_40) rfl rfl ?_
    show Steps p.tables e below (T4.setTop (mkF m 41 #[.val (.int p1), .val (.int p2), .val (.int (1 : Int32)), .val (.int (1 : Int32)), .val (.ref v3), .unset, .unset, .unset, .unset, .unset, .unset] [(.ref b4), (.ref b4)])) _
    refine XS.aload X4.here hx rfl (hb hby at_41) rfl rfl ?_
    show Steps p.tables e below (T4.setTop (mkF m 43 #[.val (.int p1), .val (.int p2), .val (.int (1 : Int32)), .val (.int (1 : Int32)), .val (.ref v3), .unset, .unset, .unset, .unset, .unset, .unset] [(.ref v3), (.ref b4), (.ref b4)])) _
    refine XS.iloadN X4.here hx rfl (hb hby at_43) rfl ?_
    show Steps p.tables e below (T4.setTop (mkF m 44 #[.val (.int p1), .val (.int p2), .val (.int (1 : Int32)), .val (.int (1 : Int32)), .val (.ref v3), .unset, .unset, .unset, .unset, .unset, .unset] [(.int (1 : Int32)), (.ref v3), (.ref b4), (.ref b4)])) _
    refine st5.trans ?_
    show Steps p.tables e below (T5.setTop (mkF m 47 #[.val (.int p1), .val (.int p2), .val (.int (1 : Int32)), .val (.int (1 : Int32)), .val (.ref v3), .unset, .unset, .unset, .unset, .unset, .unset] [(.ref b4)])) _
    refine XS.astore X5.here hx rfl (hb hby at_47) rfl rfl (l' := #[.val (.int p1), .val (.int p2), .val (.int (1 : Int32)), .val (.int (1 : Int32)), .val (.ref v3), .val (.ref b4), .unset, .unset, .unset, .unset, .unset]) rfl ?_
    show Steps p.tables e below (T5.setTop (mkF m 49 #[.val (.int p1), .val (.int p2), .val (.int (1 : Int32)), .val (.int (1 : Int32)), .val (.ref v3), .val (.ref b4), .unset, .unset, .unset, .unset, .unset] [])) _
    refine XS.iloadN X5.here hx rfl (hb hby at_49) rfl ?_
    show Steps p.tables e below (T5.setTop (mkF m 50 #[.val (.int p1), .val (.int p2), .val (.int (1 : Int32)), .val (.int (1 : Int32)), .val (.ref v3), .val (.ref b4), .unset, .unset, .unset, .unset, .unset] [(.int (1 : Int32))])) _
    refine XS.ifYes X5.here hx rfl (pc0 := 50) (pc' := 59) rfl (hb hby at_50) rfl ((if0 _ _).trans (feq (by decide)).2) (by decide) (by decide) ?_
    show Steps p.tables e below (T5.setTop (mkF m 59 #[.val (.int p1), .val (.int p2), .val (.int (1 : Int32)), .val (.int (1 : Int32)), .val (.ref v3), .val (.ref b4), .unset, .unset, .unset, .unset, .unset] [])) _
    refine XS.iloadN X5.here hx rfl (hb hby at_59) rfl ?_
    show Steps p.tables e below (T5.setTop (mkF m 60 #[.val (.int p1), .val (.int p2), .val (.int (1 : Int32)), .val (.int (1 : Int32)), .val (.ref v3), .val (.ref b4), .unset, .unset, .unset, .unset, .unset] [(.int (1 : Int32))])) _
    refine XS.ifNo X5.here hx rfl (hb hby at_60) rfl ((if0 _ _).trans (feq (by decide)).1) ?_
    show Steps p.tables e below (T5.setTop (mkF m 63 #[.val (.int p1), .val (.int p2), .val (.int (1 : Int32)), .val (.int (1 : Int32)), .val (.ref v3), .val (.ref b4), .unset, .unset, .unset, .unset, .unset] [])) _
    refine XS.iconst X5.here hx rfl (hb hby at_63) ?_
    show Steps p.tables e below (T5.setTop (mkF m 64 #[.val (.int p1), .val (.int p2), .val (.int (1 : Int32)), .val (.int (1 : Int32)), .val (.ref v3), .val (.ref b4), .unset, .unset, .unset, .unset, .unset] [(.int (0 : Int32))])) _
    refine XS.istore X5.here hx rfl (hb hby at_64) rfl (l' := #[.val (.int p1), .val (.int p2), .val (.int (1 : Int32)), .val (.int (1 : Int32)), .val (.ref v3), .val (.ref b4), .val (.int (0 : Int32)), .unset, .unset, .unset, .unset]) rfl ?_
    show Steps p.tables e below (T5.setTop (mkF m 66 #[.val (.int p1), .val (.int p2), .val (.int (1 : Int32)), .val (.int (1 : Int32)), .val (.ref v3), .val (.ref b4), .val (.int (0 : Int32)), .unset, .unset, .unset, .unset] [])) _
    refine XS.goto X5.here hx rfl (pc0 := 66) (pc' := 72) rfl (hb hby at_66) (by decide) (by decide) ?_
    show Steps p.tables e below (T5.setTop (mkF m 72 #[.val (.int p1), .val (.int p2), .val (.int (1 : Int32)), .val (.int (1 : Int32)), .val (.ref v3), .val (.ref b4), .val (.int (0 : Int32)), .unset, .unset, .unset, .unset] [])) _
    refine XS.aload X5.here hx rfl (hb hby at_72) rfl rfl ?_
    show Steps p.tables e below (T5.setTop (mkF m 74 #[.val (.int p1), .val (.int p2), .val (.int (1 : Int32)), .val (.int (1 : Int32)), .val (.ref v3), .val (.ref b4), .val (.int (0 : Int32)), .unset, .unset, .unset, .unset] [(.ref b4)])) _
    refine st6.trans ?_
    show Steps p.tables e below (T6.setTop (mkF m 77 #[.val (.int p1), .val (.int p2), .val (.int (1 : Int32)), .val (.int (1 : Int32)), .val (.ref v3), .val (.ref b4), .val (.int (0 : Int32)), .unset, .unset, .unset, .unset] [(.int (0 : Int32))])) _
    refine XS.iload X6.here hx rfl (hb hby at_77) rfl ?_
    show Steps p.tables e below (T6.setTop (mkF m 79 #[.val (.int p1), .val (.int p2), .val (.int (1 : Int32)), .val (.int (1 : Int32)), .val (.ref v3), .val (.ref b4), .val (.int (0 : Int32)), .unset, .unset, .unset, .unset] [(.int (0 : Int32)), (.int (0 : Int32))])) _
    refine XS.icmpNo X6.here hx rfl (hb hby at_79) rfl (teq (by decide : (0 : Int32) = (0 : Int32))).2 ?_
    show Steps p.tables e below (T6.setTop (mkF m 82 #[.val (.int p1), .val (.int p2), .val (.int (1 : Int32)), .val (.int (1 : Int32)), .val (.ref v3), .val (.ref b4), .val (.int (0 : Int32)), .unset, .unset, .unset, .unset] [])) _
    refine XS.iconst X6.here hx rfl (hb hby at_82) ?_
    show Steps p.tables e below (T6.setTop (mkF m 83 #[.val (.int p1), .val (.int p2), .val (.int (1 : Int32)), .val (.int (1 : Int32)), .val (.ref v3), .val (.ref b4), .val (.int (0 : Int32)), .unset, .unset, .unset, .unset] [(.int (1 : Int32))])) _
    refine XS.goto X6.here hx rfl (pc0 := 83) (pc' := 87) rfl (hb hby at_83) (by decide) (by decide) ?_
    show Steps p.tables e below (T6.setTop (mkF m 87 #[.val (.int p1), .val (.int p2), .val (.int (1 : Int32)), .val (.int (1 : Int32)), .val (.ref v3), .val (.ref b4), .val (.int (0 : Int32)), .unset, .unset, .unset, .unset] [(.int (1 : Int32))])) _
    refine XS.istore X6.here hx rfl (hb hby at_87) rfl (l' := #[.val (.int p1), .val (.int p2), .val (.int (1 : Int32)), .val (.int (1 : Int32)), .val (.ref v3), .val (.ref b4), .val (.int (0 : Int32)), .val (.int (1 : Int32)), .unset, .unset, .unset]) rfl ?_
    show Steps p.tables e below (T6.setTop (mkF m 89 #[.val (.int p1), .val (.int p2), .val (.int (1 : Int32)), .val (.int (1 : Int32)), .val (.ref v3), .val (.ref b4), .val (.int (0 : Int32)), .val (.int (1 : Int32)), .unset, .unset, .unset] [])) _
    refine st7 _ ?_
    show Steps p.tables e below (T7.setTop (mkF m 92 #[.val (.int p1), .val (.int p2), .val (.int (1 : Int32)), .val (.int (1 : Int32)), .val (.ref v3), .val (.ref b4), .val (.int (0 : Int32)), .val (.int (1 : Int32)), .unset, .unset, .unset] [(.ref bn)])) _
    refine XS.astore X7.here hx rfl (hb hby at_92) rfl rfl (l' := #[.val (.int p1), .val (.int p2), .val (.int (1 : Int32)), .val (.int (1 : Int32)), .val (.ref v3), .val (.ref b4), .val (.int (0 : Int32)), .val (.int (1 : Int32)), .val (.ref bn), .unset, .unset]) rfl ?_
    show Steps p.tables e below (T7.setTop (mkF m 94 #[.val (.int p1), .val (.int p2), .val (.int (1 : Int32)), .val (.int (1 : Int32)), .val (.ref v3), .val (.ref b4), .val (.int (0 : Int32)), .val (.int (1 : Int32)), .val (.ref bn), .unset, .unset] [])) _
    refine st8 _ ?_
    show Steps p.tables e below (T8.setTop (mkF m 97 #[.val (.int p1), .val (.int p2), .val (.int (1 : Int32)), .val (.int (1 : Int32)), .val (.ref v3), .val (.ref b4), .val (.int (0 : Int32)), .val (.int (1 : Int32)), .val (.ref bn), .unset, .unset] [(.ref bu)])) _
    refine XS.astore X8.here hx rfl (hb hby at_97) rfl rfl (l' := #[.val (.int p1), .val (.int p2), .val (.int (1 : Int32)), .val (.int (1 : Int32)), .val (.ref v3), .val (.ref b4), .val (.int (0 : Int32)), .val (.int (1 : Int32)), .val (.ref bn), .val (.ref bu), .unset]) rfl ?_
    show Steps p.tables e below (T8.setTop (mkF m 99 #[.val (.int p1), .val (.int p2), .val (.int (1 : Int32)), .val (.int (1 : Int32)), .val (.ref v3), .val (.ref b4), .val (.int (0 : Int32)), .val (.int (1 : Int32)), .val (.ref bn), .val (.ref bu), .unset] [])) _
    refine XS.iloadN X8.here hx rfl (hb hby at_99) rfl ?_
    show Steps p.tables e below (T8.setTop (mkF m 100 #[.val (.int p1), .val (.int p2), .val (.int (1 : Int32)), .val (.int (1 : Int32)), .val (.ref v3), .val (.ref b4), .val (.int (0 : Int32)), .val (.int (1 : Int32)), .val (.ref bn), .val (.ref bu), .unset] [(.int p1)])) _
    refine st9 _ ?_
    show Steps p.tables e below (T9.setTop (mkF m 103 #[.val (.int p1), .val (.int p2), .val (.int (1 : Int32)), .val (.int (1 : Int32)), .val (.ref v3), .val (.ref b4), .val (.int (0 : Int32)), .val (.int (1 : Int32)), .val (.ref bn), .val (.ref bu), .unset] [(.ref bx)])) _
    refine st10 _ ?_
    show Steps p.tables e below (T10.setTop (mkF m 106 #[.val (.int p1), .val (.int p2), .val (.int (1 : Int32)), .val (.int (1 : Int32)), .val (.ref v3), .val (.ref b4), .val (.int (0 : Int32)), .val (.int (1 : Int32)), .val (.ref bn), .val (.ref bu), .unset] [(.ref bc)])) _
    refine XS.astore X10.here hx rfl (hb hby at_106) rfl rfl (l' := #[.val (.int p1), .val (.int p2), .val (.int (1 : Int32)), .val (.int (1 : Int32)), .val (.ref v3), .val (.ref b4), .val (.int (0 : Int32)), .val (.int (1 : Int32)), .val (.ref bn), .val (.ref bu), .val (.ref bc)]) rfl ?_
    show Steps p.tables e below (T10.setTop (mkF m 108 #[.val (.int p1), .val (.int p2), .val (.int (1 : Int32)), .val (.int (1 : Int32)), .val (.ref v3), .val (.ref b4), .val (.int (0 : Int32)), .val (.int (1 : Int32)), .val (.ref bn), .val (.ref bu), .val (.ref bc)] [])) _
    refine XS.iload X10.here hx rfl (hb hby at_108) rfl ?_
    show Steps p.tables e below (T10.setTop (mkF m 110 #[.val (.int p1), .val (.int p2), .val (.int (1 : Int32)), .val (.int (1 : Int32)), .val (.ref v3), .val (.ref b4), .val (.int (0 : Int32)), .val (.int (1 : Int32)), .val (.ref bn), .val (.ref bu), .val (.ref bc)] [(.int (1 : Int32))])) _
    refine XS.ifNo X10.here hx rfl (hb hby at_110) rfl ((if0 _ _).trans (feq (by decide)).1) ?_
    show Steps p.tables e below (T10.setTop (mkF m 113 #[.val (.int p1), .val (.int p2), .val (.int (1 : Int32)), .val (.int (1 : Int32)), .val (.ref v3), .val (.ref b4), .val (.int (0 : Int32)), .val (.int (1 : Int32)), .val (.ref bn), .val (.ref bu), .val (.ref bc)] [])) _
    refine XS.aload X10.here hx rfl (hb hby at_113) rfl rfl ?_
    show Steps p.tables e below (T10.setTop (mkF m 115 #[.val (.int p1), .val (.int p2), .val (.int (1 : Int32)), .val (.int (1 : Int32)), .val (.ref v3), .val (.ref b4), .val (.int (0 : Int32)), .val (.int (1 : Int32)), .val (.ref bn), .val (.ref bu), .val (.ref bc)] [(.ref bn)])) _
    refine st11.trans ?_
    show Steps p.tables e below (T11.setTop (mkF m 118 #[.val (.int p1), .val (.int p2), .val (.int (1 : Int32)), .val (.int (1 : Int32)), .val (.ref v3), .val (.ref b4), .val (.int (0 : Int32)), .val (.int (1 : Int32)), .val (.ref bn), .val (.ref bu), .val (.ref bc)] [(.int (1 : Int32))])) _
    refine XS.ifNo X11.here hx rfl (hb hby at_118) rfl ((if0 _ _).trans (feq (by decide : ¬ ((1 : Int32) = (0 : Int32)))).1) ?_
    show Steps p.tables e below (T11.setTop (mkF m 121 #[.val (.int p1), .val (.int p2), .val (.int (1 : Int32)), .val (.int (1 : Int32)), .val (.ref v3), .val (.ref b4), .val (.int (0 : Int32)), .val (.int (1 : Int32)), .val (.ref bn), .val (.ref bu), .val (.ref bc)] [])) _
    refine XS.aload X11.here hx rfl (hb hby at_121) rfl rfl ?_
    show Steps p.tables e below (T11.setTop (mkF m 123 #[.val (.int p1), .val (.int p2), .val (.int (1 : Int32)), .val (.int (1 : Int32)), .val (.ref v3), .val (.ref b4), .val (.int (0 : Int32)), .val (.int (1 : Int32)), .val (.ref bn), .val (.ref bu), .val (.ref bc)] [(.ref bu)])) _
    refine st12.trans ?_
    show Steps p.tables e below (T12.setTop (mkF m 126 #[.val (.int p1), .val (.int p2), .val (.int (1 : Int32)), .val (.int (1 : Int32)), .val (.ref v3), .val (.ref b4), .val (.int (0 : Int32)), .val (.int (1 : Int32)), .val (.ref bn), .val (.ref bu), .val (.ref bc)] [(.int (0 : Int32))])) _
    refine XS.ifNo X12.here hx rfl (hb hby at_126) rfl ((if0 _ _).trans (teq (by decide : (0 : Int32) = (0 : Int32))).2) ?_
    show Steps p.tables e below (T12.setTop (mkF m 129 #[.val (.int p1), .val (.int p2), .val (.int (1 : Int32)), .val (.int (1 : Int32)), .val (.ref v3), .val (.ref b4), .val (.int (0 : Int32)), .val (.int (1 : Int32)), .val (.ref bn), .val (.ref bu), .val (.ref bc)] [])) _
    refine XS.aload X12.here hx rfl (hb hby at_129) rfl rfl ?_
    show Steps p.tables e below (T12.setTop (mkF m 131 #[.val (.int p1), .val (.int p2), .val (.int (1 : Int32)), .val (.int (1 : Int32)), .val (.ref v3), .val (.ref b4), .val (.int (0 : Int32)), .val (.int (1 : Int32)), .val (.ref bn), .val (.ref bu), .val (.ref bc)] [(.ref bc)])) _
    refine st13.trans ?_
    show Steps p.tables e below (T13.setTop (mkF m 134 #[.val (.int p1), .val (.int p2), .val (.int (1 : Int32)), .val (.int (1 : Int32)), .val (.ref v3), .val (.ref b4), .val (.int (0 : Int32)), .val (.int (1 : Int32)), .val (.ref bn), .val (.ref bu), .val (.ref bc)] [(.int (0 : Int32))])) _
    refine XS.ifNo X13.here hx rfl (hb hby at_134) rfl ((if0 _ _).trans (teq (by decide : (0 : Int32) = (0 : Int32))).2) ?_
    show Steps p.tables e below (T13.setTop (mkF m 137 #[.val (.int p1), .val (.int p2), .val (.int (1 : Int32)), .val (.int (1 : Int32)), .val (.ref v3), .val (.ref b4), .val (.int (0 : Int32)), .val (.int (1 : Int32)), .val (.ref bn), .val (.ref bu), .val (.ref bc)] [])) _
    refine XS.iconst X13.here hx rfl (hb hby at_137) ?_
    show Steps p.tables e below (T13.setTop (mkF m 138 #[.val (.int p1), .val (.int p2), .val (.int (1 : Int32)), .val (.int (1 : Int32)), .val (.ref v3), .val (.ref b4), .val (.int (0 : Int32)), .val (.int (1 : Int32)), .val (.ref bn), .val (.ref bu), .val (.ref bc)] [(.int (1 : Int32))])) _
    refine XS.goto X13.here hx rfl (pc0 := 138) (pc' := 142) rfl (hb hby at_138) (by decide) (by decide) ?_
    show Steps p.tables e below (T13.setTop (mkF m 142 #[.val (.int p1), .val (.int p2), .val (.int (1 : Int32)), .val (.int (1 : Int32)), .val (.ref v3), .val (.ref b4), .val (.int (0 : Int32)), .val (.int (1 : Int32)), .val (.ref bn), .val (.ref bu), .val (.ref bc)] [(.int (1 : Int32))])) _
    exact retN X13 hx (t := .boolean) Bd.returns (by simp) (hb hby at_142) hr
  · show Q011 Z p1 p2 _ n0 _ T13.heap _
    exact ⟨rfl, N13⟩
theorem pn_010 : plainName "com/example/anemone/anemone/model/RecoveredIsNonePinLaw" = true := by first | (simp [plainName, overriddenIn]; done) | decide +kernel
theorem pd_0_110 : parseMethodDescriptor "(Ljava/lang/Object;Z)V" = some ⟨[(.object "java/lang/Object"), .boolean], none⟩ := by decide +kernel
theorem pd_0_310 : parseMethodDescriptor "()Z" = some ⟨[], some .boolean⟩ := by decide +kernel
theorem pd_0_410 : parseMethodDescriptor "()Lcom/example/anemone/anemone/model/Recovered;" = some ⟨[], some (.object "com/example/anemone/anemone/model/Recovered")⟩ := by decide +kernel
theorem pd_0_010 : parseMethodDescriptor "(I)Ljava/lang/Integer;" = some ⟨[.int], some (.object "java/lang/Integer")⟩ := by decide +kernel
theorem pd_0_510 : parseMethodDescriptor "(Ljava/lang/Object;)Lcom/example/anemone/anemone/model/Recovered;" = some ⟨[(.object "java/lang/Object")], some (.object "com/example/anemone/anemone/model/Recovered")⟩ := by decide +kernel
theorem ef_010 (m : MethodId) (x0 : Int32) (x1 : Int32) : entryFrame m #[(.int x0), (.int x1)] maxLocals = mkF m 0 #[.val (.int x0), .val (.int x1), .unset, .unset, .unset, .unset, .unset, .unset, .unset, .unset, .unset] [] := by first | (simp [entryFrame, mkF, argsToLocals, Value.category, maxLocals]; done) | rfl
def Q010 (Z : State) (p1 : Int32) (p2 : Int32) (h0 : Heap) (n0 : Nat) (v : Option Value) (h : Heap) (L : List Loc) : Prop := v = some (.int (1 : Int32)) ∧ Fr n0 L
set_option maxRecDepth 65536 in
set_option maxHeartbeats 40000000 in
theorem rm010 (l : Launch) (Z : State) (a0 : Array Value) (hw : ∀ d ∈ tables_1, d.before a0 Z = true) (ws : List Jvm.Cond) (p1 : Int32) (p2 : Int32) (h0 : Heap) (n0 : Nat) (Z0 : n0 ≤ h0.size) (hc3 : ¬ ((p2 &&& (1 : Int32)) = (0 : Int32))) (hc15 : (p2 &&& (2 : Int32)) = (0 : Int32)) (O0 : Old Z n0 h0) (cf : Cf Z p1) :
    MetFree l x (head1 (Jvm.Cond.code x code maxLocals ret :: ws) room_1) (fun a U => a = #[(.int p1), (.int p2)] ∧ Z.Warmed39 U.vm ∧ U.heap = h0) (fun _ _ _ _ _ => True) (fun _ U o U' => ∃ v L, o = .returned v ∧ Q010 Z p1 p2 h0 n0 v U'.heap L ∧ FrameEnd U o U' L room_1.cells room_1.slots) := by
  refine MetFree.of_bodySF (plainFor_of_name pn_010) hisR ?_
  intro p e s m args below meth c s₁ Bd hml0 hP hK
  obtain ⟨rfl, hZ, hh⟩ := hP
  have hx := Bd.exec
  have hby := Bd.bytes
  have hml : c.maxLocals = 11 := hml0
  have hown : s.vm.findClass "com/example/anemone/anemone/model/RecoveredIsNonePinLaw" = some m.cls := findClass_of_methodNamed Bd.named
  have hnm := (name_of_methodNamed Bd.named Bd.method).1
  have X0 : Stand p l e room_1 s m #[(.int p1), (.int p2)] below meth c s₁ [] 0 0 := Stand.of_body Bd
  have e0 : s₁.heap = h0 := by rw [← hh, Bd.state]; rfl
  have N0 := Fr.nil n0
  have pre0 : ∀ t, Steps p.tables e below (s₁.setTop (mkF m 0 #[.val (.int p1), .val (.int p2), .unset, .unset, .unset, .unset, .unset, .unset, .unset, .unset, .unset] [])) t → Steps p.tables e below (s₁.setTop (entryFrame m #[(.int p1), (.int p2)] maxLocals)) t := fun t k => castTop (ef_010 m p1 p2) k
  obtain ⟨T3, h3, X3, e3, E3, A3, D3, -, st3⟩ := newO X0 hx hZ hown (hw _ (List.mem_of_getElem? (i := 7) rfl)) (hw _ (List.mem_of_getElem? (i := 8) rfl)) (hw _ (List.mem_of_getElem? (i := 9) rfl)) e0 (g := (mkF m 37 #[.val (.int p1), .val (.int p2), .val (.int (1 : Int32)), .val (.int (0 : Int32)), .val .null, .unset, .unset, .unset, .unset, .unset, .unset] [])) rfl (hb hby at_37) (by decide) (by decide)
  obtain ⟨b3, g3⟩ : ∃ z, z = h0.size := ⟨_, rfl⟩
  rw [← g3] at A3 D3 st3
  have F_value_b3 : Fld Z h3 b3 "com/example/anemone/anemone/model/Recovered" "value" "Ljava/lang/Object;" .null := D3 (Or.inr (hw _ (List.mem_of_getElem? (i := 22) rfl))) (ty := (.object "java/lang/Object")) (by decide)
  have F_known_b3 : Fld Z h3 b3 "com/example/anemone/anemone/model/Recovered" "known" "Z" (.int (0 : Int32)) := D3 (Or.inr (hw _ (List.mem_of_getElem? (i := 24) rfl))) (ty := .boolean) (by decide)
  have E_b3 := A3
  have g_b3 : n0 ≤ b3 := Nat.le_trans Z0 (Nat.le_of_eq g3.symm)
  have sz_b3 : h0.size ≤ b3 := (Nat.le_trans (Keep.refl h0 []).1 (Nat.le_of_eq g3.symm))
  have K3 : Keep h0 h3 [] := (Keep.refl h0 []).ext E3
  obtain ⟨_, _, ⟨T4, L4, k4, n4⟩, -, X4, ⟨Lc4, hQ4, l4, y4, z4⟩, st4⟩ := X3.specialBack hx (y := (⟨"com/example/anemone/anemone/model/Recovered", "<init>", "(Ljava/lang/Object;Z)V"⟩ : MethodName)) rfl hown (mvT hZ (hw _ (List.mem_of_getElem? (i := 10) rfl))) (mvT hZ (hw _ (List.mem_of_getElem? (i := 11) rfl))) (mvT hZ (hw _ (List.mem_of_getElem? (i := 12) rfl))) (by decide) (backOf (W := 1) (rm2n1 l Z a0 hw [] b3 _ _ h3 n0 (Nat.le_trans g_b3 (Nat.le_of_lt E_b3.lt)) E_b3 F_value_b3 g_b3 F_known_b3) hZ (hw _ (List.mem_of_getElem? (i := 12) rfl)) (hw _ (List.mem_of_getElem? (i := 9) rfl)) (by decide) (by decide)) (g := (mkF m 44 #[.val (.int p1), .val (.int p2), .val (.int (1 : Int32)), .val (.int (0 : Int32)), .val .null, .unset, .unset, .unset, .unset, .unset, .unset] [(.int (1 : Int32)), .null, (.ref b3), (.ref b3)])) rfl (by rw [hml]; rfl) (Steps.refl _) (a := b3) (argsL := [.null, (.int (1 : Int32))]) (rest := [(.ref b3)]) (lenOf pd_0_110 rfl) rfl (by show 2 * 0 + _ ≤ _; exact Nat.le_of_eq rfl) (hb hby at_44) (fun _ _ => ⟨rfl, e3, (Nat.le_of_ble_eq_true rfl), (Nat.le_of_ble_eq_true rfl)⟩)
  dsimp only [Pt.U, Pt.locs, Pt.cells, Pt.slots] at X4 l4 y4 z4 st4 hQ4
  subst l4 y4 z4
  obtain ⟨rfl, N4q, KI, RI⟩ := hQ4
  have N4 := Fr.app N0 N4q
  have O2 := (O0.ext E3).keep KI (allS g_b3 all0)
  obtain ⟨cq5, kq5, q5a, q5b, q5c⟩ := isOf hZ rfl RI.1
  obtain ⟨_, _, ⟨T5, L5, k5, n5⟩, -, X5, ⟨Lc5, hQ5, l5, y5, z5⟩, st5⟩ := X4.virtualBack hx (y := (⟨"com/example/anemone/anemone/model/Recovered", "isNone", "()Z"⟩ : MethodName)) (z := (⟨"com/example/anemone/anemone/model/Recovered", "isNone", "()Z"⟩ : MethodName)) hown (mvT hZ (hw _ (List.mem_of_getElem? (i := 25) rfl))) (mvT hZ (hw _ (List.mem_of_getElem? (i := 26) rfl))) (notFace_of_selects (args := #[]) (mvT hZ (hw _ (List.mem_of_getElem? (i := 28) rfl)))) (mvT hZ (hw _ (List.mem_of_getElem? (i := 28) rfl))) (mvT hZ (hw _ (List.mem_of_getElem? (i := 27) rfl))) (by decide) (backOf (W := 0) (rm5n l Z a0 hw [] b3 _ _ n0 (Nat.le_trans g_b3 (Nat.le_of_lt RI.1.lt)) RI.2.2 RI.2.1 (by decide)) hZ (hw _ (List.mem_of_getElem? (i := 29) rfl)) (hw _ (List.mem_of_getElem? (i := 9) rfl)) (by decide) (by decide)) q5a q5c (g := (mkF m 74 #[.val (.int p1), .val (.int p2), .val (.int (1 : Int32)), .val (.int (0 : Int32)), .val .null, .val (.ref b3), .val (.int (1 : Int32)), .unset, .unset, .unset, .unset] [(.ref b3)])) rfl (by rw [hml]; rfl) (Steps.refl _) (argsL := []) (rest := []) (lenOf pd_0_310 rfl) rfl (by show 2 * 0 + _ ≤ _; exact Nat.le_of_eq rfl) (hb hby at_74) (fun _ _ => ⟨rfl, rfl, (Nat.le_of_ble_eq_true rfl), (Nat.le_of_ble_eq_true rfl)⟩)
  dsimp only [Pt.U, Pt.locs, Pt.cells, Pt.slots] at X5 l5 y5 z5 st5 hQ5
  subst l5 y5 z5
  obtain ⟨rfl, N5q, HQ⟩ := hQ5
  have N5 := Fr.app N4 N5q
  rw [← HQ] at O2
  obtain ⟨_, _, ⟨T6, L6, k6, n6⟩, -, X6, ⟨Lc6, hQ6, l6, y6, z6⟩, st6⟩ := Jvm.LawKit.callS X5 hx (y := (⟨"com/example/anemone/anemone/model/Recovered", "none", "()Lcom/example/anemone/anemone/model/Recovered;"⟩ : MethodName)) hown (mvT hZ (hw _ (List.mem_of_getElem? (i := 30) rfl))) (mvT hZ (hw _ (List.mem_of_getElem? (i := 31) rfl))) (mvT hZ (hw _ (List.mem_of_getElem? (i := 9) rfl))) (mvT hZ (hw _ (List.mem_of_getElem? (i := 32) rfl))) (by decide) (backOf (W := 0) (rm6 l Z a0 hw [] _ n0 (Nat.le_trans (Nat.le_of_eq O2.1.symm) O2.2.1)) hZ (hw _ (List.mem_of_getElem? (i := 32) rfl)) (hw _ (List.mem_of_getElem? (i := 9) rfl)) (by decide) (by decide)) (g := (mkF m 89 #[.val (.int p1), .val (.int p2), .val (.int (1 : Int32)), .val (.int (0 : Int32)), .val .null, .val (.ref b3), .val (.int (1 : Int32)), .val (.int (1 : Int32)), .unset, .unset, .unset] [])) rfl (by rw [hml]; rfl) (argsL := []) (rest := []) (lenOf pd_0_410 rfl) rfl (by show 2 * 0 + _ ≤ _; exact Nat.le_of_eq rfl) (hb hby at_89) (fun _ _ => ⟨rfl, rfl, (Nat.le_of_ble_eq_true rfl), (Nat.le_of_ble_eq_true rfl)⟩)
  dsimp only [Pt.U, Pt.locs, Pt.cells, Pt.slots] at X6 l6 y6 z6 st6 hQ6
  subst l6 y6 z6
  obtain ⟨bn, rfl, N6q, KN, RN⟩ := hQ6
  have N6 := Fr.app N5 N6q
  have O3 := O2.keep KN all0
  obtain ⟨_, _, ⟨T7, L7, k7, n7⟩, -, X7, ⟨Lc7, hQ7, l7, y7, z7⟩, st7⟩ := Jvm.LawKit.callS X6 hx (y := (⟨"com/example/anemone/anemone/model/Recovered", "unknown", "()Lcom/example/anemone/anemone/model/Recovered;"⟩ : MethodName)) hown (mvT hZ (hw _ (List.mem_of_getElem? (i := 35) rfl))) (mvT hZ (hw _ (List.mem_of_getElem? (i := 36) rfl))) (mvT hZ (hw _ (List.mem_of_getElem? (i := 9) rfl))) (mvT hZ (hw _ (List.mem_of_getElem? (i := 37) rfl))) (by decide) (backOf (W := 0) (rm7 l Z a0 hw [] _ n0 (Nat.le_trans (Nat.le_of_eq O3.1.symm) O3.2.1)) hZ (hw _ (List.mem_of_getElem? (i := 37) rfl)) (hw _ (List.mem_of_getElem? (i := 9) rfl)) (by decide) (by decide)) (g := (mkF m 94 #[.val (.int p1), .val (.int p2), .val (.int (1 : Int32)), .val (.int (0 : Int32)), .val .null, .val (.ref b3), .val (.int (1 : Int32)), .val (.int (1 : Int32)), .val (.ref bn), .unset, .unset] [])) rfl (by rw [hml]; rfl) (argsL := []) (rest := []) (lenOf pd_0_410 rfl) rfl (by show 2 * 0 + _ ≤ _; exact Nat.le_of_eq rfl) (hb hby at_94) (fun _ _ => ⟨rfl, rfl, (Nat.le_of_ble_eq_true rfl), (Nat.le_of_ble_eq_true rfl)⟩)
  dsimp only [Pt.U, Pt.locs, Pt.cells, Pt.slots] at X7 l7 y7 z7 st7 hQ7
  subst l7 y7 z7
  obtain ⟨bu, rfl, N7q, KU, RU⟩ := hQ7
  have N7 := Fr.app N6 N7q
  have O4 := O3.keep KU all0
  obtain ⟨_, _, ⟨T8, L8, k8, n8⟩, -, X8, ⟨Lc8, hQ8, l8, y8, z8⟩, st8⟩ := Jvm.LawKit.callS X7 hx (y := (⟨"java/lang/Integer", "valueOf", "(I)Ljava/lang/Integer;"⟩ : MethodName)) hown (mvT hZ (hw _ (List.mem_of_getElem? (i := 0) rfl))) (mvT hZ (hw _ (List.mem_of_getElem? (i := 1) rfl))) (mvT hZ (hw _ (List.mem_of_getElem? (i := 2) rfl))) (mvT hZ (hw _ (List.mem_of_getElem? (i := 3) rfl))) (by decide) (backOf (W := 0) (rm1 l Z a0 hw [] p1 _ n0 (Nat.le_trans (Nat.le_of_eq O4.1.symm) O4.2.1) O4 cf) hZ (hw _ (List.mem_of_getElem? (i := 3) rfl)) (hw _ (List.mem_of_getElem? (i := 2) rfl)) (by decide) (by decide)) (g := (mkF m 100 #[.val (.int p1), .val (.int p2), .val (.int (1 : Int32)), .val (.int (0 : Int32)), .val .null, .val (.ref b3), .val (.int (1 : Int32)), .val (.int (1 : Int32)), .val (.ref bn), .val (.ref bu), .unset] [(.int p1)])) rfl (by rw [hml]; rfl) (argsL := [(.int p1)]) (rest := []) (lenOf pd_0_010 rfl) rfl (by show 2 * 0 + _ ≤ _; exact Nat.le_of_eq rfl) (hb hby at_100) (fun _ _ => ⟨rfl, rfl, (Nat.le_of_ble_eq_true rfl), (Nat.le_of_ble_eq_true rfl)⟩)
  dsimp only [Pt.U, Pt.locs, Pt.cells, Pt.slots] at X8 l8 y8 z8 st8 hQ8
  subst l8 y8 z8
  obtain ⟨bx, rfl, N8q, KX⟩ := hQ8
  have N8 := Fr.app N7 N8q
  have O5 := O4.keep KX all0
  obtain ⟨_, _, ⟨T9, L9, k9, n9⟩, -, X9, ⟨Lc9, hQ9, l9, y9, z9⟩, st9⟩ := Jvm.LawKit.callS X8 hx (y := (⟨"com/example/anemone/anemone/model/Recovered", "of", "(Ljava/lang/Object;)Lcom/example/anemone/anemone/model/Recovered;"⟩ : MethodName)) hown (mvT hZ (hw _ (List.mem_of_getElem? (i := 38) rfl))) (mvT hZ (hw _ (List.mem_of_getElem? (i := 39) rfl))) (mvT hZ (hw _ (List.mem_of_getElem? (i := 9) rfl))) (mvT hZ (hw _ (List.mem_of_getElem? (i := 40) rfl))) (by decide) (backOf (W := 0) (rm8 l Z a0 hw [] bx _ n0 (Nat.le_trans (Nat.le_of_eq O5.1.symm) O5.2.1)) hZ (hw _ (List.mem_of_getElem? (i := 40) rfl)) (hw _ (List.mem_of_getElem? (i := 9) rfl)) (by decide) (by decide)) (g := (mkF m 103 #[.val (.int p1), .val (.int p2), .val (.int (1 : Int32)), .val (.int (0 : Int32)), .val .null, .val (.ref b3), .val (.int (1 : Int32)), .val (.int (1 : Int32)), .val (.ref bn), .val (.ref bu), .unset] [(.ref bx)])) rfl (by rw [hml]; rfl) (argsL := [(.ref bx)]) (rest := []) (lenOf pd_0_510 rfl) rfl (by show 2 * 0 + _ ≤ _; exact Nat.le_of_eq rfl) (hb hby at_103) (fun _ _ => ⟨rfl, rfl, (Nat.le_of_ble_eq_true rfl), (Nat.le_of_ble_eq_true rfl)⟩)
  dsimp only [Pt.U, Pt.locs, Pt.cells, Pt.slots] at X9 l9 y9 z9 st9 hQ9
  subst l9 y9 z9
  obtain ⟨bc, rfl, N9q, KC, RC⟩ := hQ9
  have N9 := Fr.app N8 N9q
  have O6 := O5.keep KC all0
  have RN6 := ((RN.keep KU).keep KX).keep KC
  have RU6 := (RU.keep KX).keep KC
  obtain ⟨cq10, kq10, q10a, q10b, q10c⟩ := isOf hZ rfl RN6.1
  obtain ⟨_, _, ⟨T10, L10, k10, n10⟩, -, X10, ⟨Lc10, hQ10, l10, y10, z10⟩, st10⟩ := X9.virtualBack hx (y := (⟨"com/example/anemone/anemone/model/Recovered", "isNone", "()Z"⟩ : MethodName)) (z := (⟨"com/example/anemone/anemone/model/Recovered", "isNone", "()Z"⟩ : MethodName)) hown (mvT hZ (hw _ (List.mem_of_getElem? (i := 25) rfl))) (mvT hZ (hw _ (List.mem_of_getElem? (i := 26) rfl))) (notFace_of_selects (args := #[]) (mvT hZ (hw _ (List.mem_of_getElem? (i := 28) rfl)))) (mvT hZ (hw _ (List.mem_of_getElem? (i := 28) rfl))) (mvT hZ (hw _ (List.mem_of_getElem? (i := 27) rfl))) (by decide) (backOf (W := 0) (rm5n l Z a0 hw [] bn _ _ n0 (Nat.le_trans (Nat.le_of_eq O6.1.symm) O6.2.1) RN6.2.2 RN6.2.1 (by decide)) hZ (hw _ (List.mem_of_getElem? (i := 29) rfl)) (hw _ (List.mem_of_getElem? (i := 9) rfl)) (by decide) (by decide)) q10a q10c (g := (mkF m 115 #[.val (.int p1), .val (.int p2), .val (.int (1 : Int32)), .val (.int (0 : Int32)), .val .null, .val (.ref b3), .val (.int (1 : Int32)), .val (.int (1 : Int32)), .val (.ref bn), .val (.ref bu), .val (.ref bc)] [(.ref bn)])) rfl (by rw [hml]; rfl) (Steps.refl _) (argsL := []) (rest := []) (lenOf pd_0_310 rfl) rfl (by show 2 * 0 + _ ≤ _; exact Nat.le_of_eq rfl) (hb hby at_115) (fun _ _ => ⟨rfl, rfl, (Nat.le_of_ble_eq_true rfl), (Nat.le_of_ble_eq_true rfl)⟩)
  dsimp only [Pt.U, Pt.locs, Pt.cells, Pt.slots] at X10 l10 y10 z10 st10 hQ10
  subst l10 y10 z10
  obtain ⟨rfl, N10q, HQ1⟩ := hQ10
  have N10 := Fr.app N9 N10q
  obtain ⟨cq11, kq11, q11a, q11b, q11c⟩ := isOf hZ HQ1 RU6.1
  obtain ⟨_, _, ⟨T11, L11, k11, n11⟩, -, X11, ⟨Lc11, hQ11, l11, y11, z11⟩, st11⟩ := X10.virtualBack hx (y := (⟨"com/example/anemone/anemone/model/Recovered", "isNone", "()Z"⟩ : MethodName)) (z := (⟨"com/example/anemone/anemone/model/Recovered", "isNone", "()Z"⟩ : MethodName)) hown (mvT hZ (hw _ (List.mem_of_getElem? (i := 25) rfl))) (mvT hZ (hw _ (List.mem_of_getElem? (i := 26) rfl))) (notFace_of_selects (args := #[]) (mvT hZ (hw _ (List.mem_of_getElem? (i := 28) rfl)))) (mvT hZ (hw _ (List.mem_of_getElem? (i := 28) rfl))) (mvT hZ (hw _ (List.mem_of_getElem? (i := 27) rfl))) (by decide) (backOf (W := 0) (rm5u l Z a0 hw [] bu _ _ n0 (Nat.le_trans (Nat.le_of_eq O6.1.symm) O6.2.1) RU6.2.2 rfl) hZ (hw _ (List.mem_of_getElem? (i := 29) rfl)) (hw _ (List.mem_of_getElem? (i := 9) rfl)) (by decide) (by decide)) q11a q11c (g := (mkF m 123 #[.val (.int p1), .val (.int p2), .val (.int (1 : Int32)), .val (.int (0 : Int32)), .val .null, .val (.ref b3), .val (.int (1 : Int32)), .val (.int (1 : Int32)), .val (.ref bn), .val (.ref bu), .val (.ref bc)] [(.ref bu)])) rfl (by rw [hml]; rfl) (Steps.refl _) (argsL := []) (rest := []) (lenOf pd_0_310 rfl) rfl (by show 2 * 0 + _ ≤ _; exact Nat.le_of_eq rfl) (hb hby at_123) (fun _ _ => ⟨rfl, HQ1, (Nat.le_of_ble_eq_true rfl), (Nat.le_of_ble_eq_true rfl)⟩)
  dsimp only [Pt.U, Pt.locs, Pt.cells, Pt.slots] at X11 l11 y11 z11 st11 hQ11
  subst l11 y11 z11
  obtain ⟨rfl, N11q, HQ2⟩ := hQ11
  have N11 := Fr.app N10 N11q
  obtain ⟨cq12, kq12, q12a, q12b, q12c⟩ := isOf hZ HQ2 RC.1
  obtain ⟨_, _, ⟨T12, L12, k12, n12⟩, -, X12, ⟨Lc12, hQ12, l12, y12, z12⟩, st12⟩ := X11.virtualBack hx (y := (⟨"com/example/anemone/anemone/model/Recovered", "isNone", "()Z"⟩ : MethodName)) (z := (⟨"com/example/anemone/anemone/model/Recovered", "isNone", "()Z"⟩ : MethodName)) hown (mvT hZ (hw _ (List.mem_of_getElem? (i := 25) rfl))) (mvT hZ (hw _ (List.mem_of_getElem? (i := 26) rfl))) (notFace_of_selects (args := #[]) (mvT hZ (hw _ (List.mem_of_getElem? (i := 28) rfl)))) (mvT hZ (hw _ (List.mem_of_getElem? (i := 28) rfl))) (mvT hZ (hw _ (List.mem_of_getElem? (i := 27) rfl))) (by decide) (backOf (W := 0) (rm5v l Z a0 hw [] bc _ _ _ n0 (Nat.le_trans (Nat.le_of_eq O6.1.symm) O6.2.1) RC.2.2 RC.2.1 (by decide)) hZ (hw _ (List.mem_of_getElem? (i := 29) rfl)) (hw _ (List.mem_of_getElem? (i := 9) rfl)) (by decide) (by decide)) q12a q12c (g := (mkF m 131 #[.val (.int p1), .val (.int p2), .val (.int (1 : Int32)), .val (.int (0 : Int32)), .val .null, .val (.ref b3), .val (.int (1 : Int32)), .val (.int (1 : Int32)), .val (.ref bn), .val (.ref bu), .val (.ref bc)] [(.ref bc)])) rfl (by rw [hml]; rfl) (Steps.refl _) (argsL := []) (rest := []) (lenOf pd_0_310 rfl) rfl (by show 2 * 0 + _ ≤ _; exact Nat.le_of_eq rfl) (hb hby at_131) (fun _ _ => ⟨rfl, HQ2, (Nat.le_of_ble_eq_true rfl), (Nat.le_of_ble_eq_true rfl)⟩)
  dsimp only [Pt.U, Pt.locs, Pt.cells, Pt.slots] at X12 l12 y12 z12 st12 hQ12
  subst l12 y12 z12
  obtain ⟨rfl, N12q, -⟩ := hQ12
  have N12 := Fr.app N11 N12q
  obtain ⟨fs, hr, hrun, hended, hW, hsame⟩ := X12.leave (v := some (.int (1 : Int32))) (fun h => by rw [Bd.returns] at h; cases h)
  refine ⟨_, _, pre0 _ ?_, hrun, hended, _, _, rfl, ?_, ⟨_, rfl⟩, hW, hsame.mono (by decide) (by decide)⟩
  · show Steps p.tables e below (s₁.setTop (mkF m 0 #[.val (.int p1), .val (.int p2), .unset, .unset, .unset, .unset, .unset, .unset, .unset, .unset, .unset] [])) _
    refine XS.iloadN X0.here hx rfl (hb hby at_0) rfl ?_
    show Steps p.tables e below (s₁.setTop (mkF m 1 #[.val (.int p1), .val (.int p2), .unset, .unset, .unset, .unset, .unset, .unset, .unset, .unset, .unset] [(.int p2)])) _
    refine XS.iconst X0.here hx rfl (hb hby at_1) ?_
    show Steps p.tables e below (s₁.setTop (mkF m 2 #[.val (.int p1), .val (.int p2), .unset, .unset, .unset, .unset, .unset, .unset, .unset, .unset, .unset] [(.int (1 : Int32)), (.int p2)])) _
    refine XS.iand X0.here hx rfl (hb hby at_2) rfl ?_
    show Steps p.tables e below (s₁.setTop (mkF m 3 #[.val (.int p1), .val (.int p2), .unset, .unset, .unset, .unset, .unset, .unset, .unset, .unset, .unset] [(.int (p2 &&& (1 : Int32)))])) _
    refine XS.ifNo X0.here hx rfl (hb hby at_3) rfl ((if0 _ _).trans (feq hc3).1) ?_
    show Steps p.tables e below (s₁.setTop (mkF m 6 #[.val (.int p1), .val (.int p2), .unset, .unset, .unset, .unset, .unset, .unset, .unset, .unset, .unset] [])) _
    refine XS.iconst X0.here hx rfl (hb hby at_6) ?_
    show Steps p.tables e below (s₁.setTop (mkF m 7 #[.val (.int p1), .val (.int p2), .unset, .unset, .unset, .unset, .unset, .unset, .unset, .unset, .unset] [(.int (1 : Int32))])) _
    refine XS.goto X0.here hx rfl (pc0 := 7) (pc' := 11) rfl (hb hby at_7) (by decide) (by decide) ?_
    show Steps p.tables e below (s₁.setTop (mkF m 11 #[.val (.int p1), .val (.int p2), .unset, .unset, .unset, .unset, .unset, .unset, .unset, .unset, .unset] [(.int (1 : Int32))])) _
    refine XS.istoreN X0.here hx rfl (hb hby at_11) rfl (l' := #[.val (.int p1), .val (.int p2), .val (.int (1 : Int32)), .unset, .unset, .unset, .unset, .unset, .unset, .unset, .unset]) rfl ?_
    show Steps p.tables e below (s₁.setTop (mkF m 12 #[.val (.int p1), .val (.int p2), .val (.int (1 : Int32)), .unset, .unset, .unset, .unset, .unset, .unset, .unset, .unset] [])) _
    refine XS.iloadN X0.here hx rfl (hb hby at_12) rfl ?_
    show Steps p.tables e below (s₁.setTop (mkF m 13 #[.val (.int p1), .val (.int p2), .val (.int (1 : Int32)), .unset, .unset, .unset, .unset, .unset, .unset, .unset, .unset] [(.int p2)])) _
    refine XS.iconst X0.here hx rfl (hb hby at_13) ?_
    show Steps p.tables e below (s₁.setTop (mkF m 14 #[.val (.int p1), .val (.int p2), .val (.int (1 : Int32)), .unset, .unset, .unset, .unset, .unset, .unset, .unset, .unset] [(.int (2 : Int32)), (.int p2)])) _
    refine XS.iand X0.here hx rfl (hb hby at_14) rfl ?_
    show Steps p.tables e below (s₁.setTop (mkF m 15 #[.val (.int p1), .val (.int p2), .val (.int (1 : Int32)), .unset, .unset, .unset, .unset, .unset, .unset, .unset, .unset] [(.int (p2 &&& (2 : Int32)))])) _
    refine XS.ifYes X0.here hx rfl (pc0 := 15) (pc' := 22) rfl (hb hby at_15) rfl ((if0 _ _).trans (teq hc15).1) (by decide) (by decide) ?_
    show Steps p.tables e below (s₁.setTop (mkF m 22 #[.val (.int p1), .val (.int p2), .val (.int (1 : Int32)), .unset, .unset, .unset, .unset, .unset, .unset, .unset, .unset] [])) _
    refine XS.iconst X0.here hx rfl (hb hby at_22) ?_
    show Steps p.tables e below (s₁.setTop (mkF m 23 #[.val (.int p1), .val (.int p2), .val (.int (1 : Int32)), .unset, .unset, .unset, .unset, .unset, .unset, .unset, .unset] [(.int (0 : Int32))])) _
    refine XS.istoreN X0.here hx rfl (hb hby at_23) rfl (l' := #[.val (.int p1), .val (.int p2), .val (.int (1 : Int32)), .val (.int (0 : Int32)), .unset, .unset, .unset, .unset, .unset, .unset, .unset]) rfl ?_
    show Steps p.tables e below (s₁.setTop (mkF m 24 #[.val (.int p1), .val (.int p2), .val (.int (1 : Int32)), .val (.int (0 : Int32)), .unset, .unset, .unset, .unset, .unset, .unset, .unset] [])) _
    refine XS.aconstNull X0.here hx rfl (hb hby at_24) ?_
    show Steps p.tables e below (s₁.setTop (mkF m 25 #[.val (.int p1), .val (.int p2), .val (.int (1 : Int32)), .val (.int (0 : Int32)), .unset, .unset, .unset, .unset, .unset, .unset, .unset] [.null])) _
    refine XS.astore X0.here hx rfl (hb hby at_25) rfl rfl (l' := #[.val (.int p1), .val (.int p2), .val (.int (1 : Int32)), .val (.int (0 : Int32)), .val .null, .unset, .unset, .unset, .unset, .unset, .unset]) rfl ?_
    show Steps p.tables e below (s₁.setTop (mkF m 27 #[.val (.int p1), .val (.int p2), .val (.int (1 : Int32)), .val (.int (0 : Int32)), .val .null, .unset, .unset, .unset, .unset, .unset, .unset] [])) _
    refine XS.iloadN X0.here hx rfl (hb hby at_27) rfl ?_
    show Steps p.tables e below (s₁.setTop (mkF m 28 #[.val (.int p1), .val (.int p2), .val (.int (1 : Int32)), .val (.int (0 : Int32)), .val .null, .unset, .unset, .unset, .unset, .unset, .unset] [(.int (0 : Int32))])) _
    refine XS.ifYes X0.here hx rfl (pc0 := 28) (pc' := 37) rfl (hb hby at_28) rfl ((if0 _ _).trans (teq (rfl : (0 : Int32) = (0 : Int32))).1) (by decide) (by decide) ?_
    show Steps p.tables e below (s₁.setTop (mkF m 37 #[.val (.int p1), .val (.int p2), .val (.int (1 : Int32)), .val (.int (0 : Int32)), .val .null, .unset, .unset, .unset, .unset, .unset, .unset] [])) _
    refine st3 _ ?_
    show Steps p.tables e below (T3.setTop (mkF m 40 #[.val (.int p1), .val (.int p2), .val (.int (1 : Int32)), .val (.int (0 : Int32)), .val .null, .unset, .unset, .unset, .unset, .unset, .unset] [(.ref b3)])) _
    refine XS.dup X3.here hx rfl (hb hby at_40) rfl rfl ?_
    show Steps p.tables e below (T3.setTop (mkF m 41 #[.val (.int p1), .val (.int p2), .val (.int (1 : Int32)), .val (.int (0 : Int32)), .val .null, .unset, .unset, .unset, .unset, .unset, .unset] [(.ref b3), (.ref b3)])) _
    refine XS.aload X3.here hx rfl (hb hby at_41) rfl rfl ?_
    show Steps p.tables e below (T3.setTop (mkF m 43 #[.val (.int p1), .val (.int p2), .val (.int (1 : Int32)), .val (.int (0 : Int32)), .val .null, .unset, .unset, .unset, .unset, .unset, .unset] [.null, (.ref b3), (.ref b3)])) _
    refine XS.iloadN X3.here hx rfl (hb hby at_43) rfl ?_
    show Steps p.tables e below (T3.setTop (mkF m 44 #[.val (.int p1), .val (.int p2), .val (.int (1 : Int32)), .val (.int (0 : Int32)), .val .null, .unset, .unset, .unset, .unset, .unset, .unset] [(.int (1 : Int32)), .null, (.ref b3), (.ref b3)])) _
    refine st4.trans ?_
    show Steps p.tables e below (T4.setTop (mkF m 47 #[.val (.int p1), .val (.int p2), .val (.int (1 : Int32)), .val (.int (0 : Int32)), .val .null, .unset, .unset, .unset, .unset, .unset, .unset] [(.ref b3)])) _
    refine XS.astore X4.here hx rfl (hb hby at_47) rfl rfl (l' := #[.val (.int p1), .val (.int p2), .val (.int (1 : Int32)), .val (.int (0 : Int32)), .val .null, .val (.ref b3), .unset, .unset, .unset, .unset, .unset]) rfl ?_
    show Steps p.tables e below (T4.setTop (mkF m 49 #[.val (.int p1), .val (.int p2), .val (.int (1 : Int32)), .val (.int (0 : Int32)), .val .null, .val (.ref b3), .unset, .unset, .unset, .unset, .unset] [])) _
    refine XS.iloadN X4.here hx rfl (hb hby at_49) rfl ?_
    show Steps p.tables e below (T4.setTop (mkF m 50 #[.val (.int p1), .val (.int p2), .val (.int (1 : Int32)), .val (.int (0 : Int32)), .val .null, .val (.ref b3), .unset, .unset, .unset, .unset, .unset] [(.int (1 : Int32))])) _
    refine XS.ifYes X4.here hx rfl (pc0 := 50) (pc' := 59) rfl (hb hby at_50) rfl ((if0 _ _).trans (feq (by decide)).2) (by decide) (by decide) ?_
    show Steps p.tables e below (T4.setTop (mkF m 59 #[.val (.int p1), .val (.int p2), .val (.int (1 : Int32)), .val (.int (0 : Int32)), .val .null, .val (.ref b3), .unset, .unset, .unset, .unset, .unset] [])) _
    refine XS.iloadN X4.here hx rfl (hb hby at_59) rfl ?_
    show Steps p.tables e below (T4.setTop (mkF m 60 #[.val (.int p1), .val (.int p2), .val (.int (1 : Int32)), .val (.int (0 : Int32)), .val .null, .val (.ref b3), .unset, .unset, .unset, .unset, .unset] [(.int (0 : Int32))])) _
    refine XS.ifYes X4.here hx rfl (pc0 := 60) (pc' := 69) rfl (hb hby at_60) rfl ((if0 _ _).trans (teq (rfl : (0 : Int32) = (0 : Int32))).1) (by decide) (by decide) ?_
    show Steps p.tables e below (T4.setTop (mkF m 69 #[.val (.int p1), .val (.int p2), .val (.int (1 : Int32)), .val (.int (0 : Int32)), .val .null, .val (.ref b3), .unset, .unset, .unset, .unset, .unset] [])) _
    refine XS.iconst X4.here hx rfl (hb hby at_69) ?_
    show Steps p.tables e below (T4.setTop (mkF m 70 #[.val (.int p1), .val (.int p2), .val (.int (1 : Int32)), .val (.int (0 : Int32)), .val .null, .val (.ref b3), .unset, .unset, .unset, .unset, .unset] [(.int (1 : Int32))])) _
    refine XS.istore X4.here hx rfl (hb hby at_70) rfl (l' := #[.val (.int p1), .val (.int p2), .val (.int (1 : Int32)), .val (.int (0 : Int32)), .val .null, .val (.ref b3), .val (.int (1 : Int32)), .unset, .unset, .unset, .unset]) rfl ?_
    show Steps p.tables e below (T4.setTop (mkF m 72 #[.val (.int p1), .val (.int p2), .val (.int (1 : Int32)), .val (.int (0 : Int32)), .val .null, .val (.ref b3), .val (.int (1 : Int32)), .unset, .unset, .unset, .unset] [])) _
    refine XS.aload X4.here hx rfl (hb hby at_72) rfl rfl ?_
    show Steps p.tables e below (T4.setTop (mkF m 74 #[.val (.int p1), .val (.int p2), .val (.int (1 : Int32)), .val (.int (0 : Int32)), .val .null, .val (.ref b3), .val (.int (1 : Int32)), .unset, .unset, .unset, .unset] [(.ref b3)])) _
    refine st5.trans ?_
    show Steps p.tables e below (T5.setTop (mkF m 77 #[.val (.int p1), .val (.int p2), .val (.int (1 : Int32)), .val (.int (0 : Int32)), .val .null, .val (.ref b3), .val (.int (1 : Int32)), .unset, .unset, .unset, .unset] [(.int (1 : Int32))])) _
    refine XS.iload X5.here hx rfl (hb hby at_77) rfl ?_
    show Steps p.tables e below (T5.setTop (mkF m 79 #[.val (.int p1), .val (.int p2), .val (.int (1 : Int32)), .val (.int (0 : Int32)), .val .null, .val (.ref b3), .val (.int (1 : Int32)), .unset, .unset, .unset, .unset] [(.int (1 : Int32)), (.int (1 : Int32))])) _
    refine XS.icmpNo X5.here hx rfl (hb hby at_79) rfl (teq rfl).2 ?_
    show Steps p.tables e below (T5.setTop (mkF m 82 #[.val (.int p1), .val (.int p2), .val (.int (1 : Int32)), .val (.int (0 : Int32)), .val .null, .val (.ref b3), .val (.int (1 : Int32)), .unset, .unset, .unset, .unset] [])) _
    refine XS.iconst X5.here hx rfl (hb hby at_82) ?_
    show Steps p.tables e below (T5.setTop (mkF m 83 #[.val (.int p1), .val (.int p2), .val (.int (1 : Int32)), .val (.int (0 : Int32)), .val .null, .val (.ref b3), .val (.int (1 : Int32)), .unset, .unset, .unset, .unset] [(.int (1 : Int32))])) _
    refine XS.goto X5.here hx rfl (pc0 := 83) (pc' := 87) rfl (hb hby at_83) (by decide) (by decide) ?_
    show Steps p.tables e below (T5.setTop (mkF m 87 #[.val (.int p1), .val (.int p2), .val (.int (1 : Int32)), .val (.int (0 : Int32)), .val .null, .val (.ref b3), .val (.int (1 : Int32)), .unset, .unset, .unset, .unset] [(.int (1 : Int32))])) _
    refine XS.istore X5.here hx rfl (hb hby at_87) rfl (l' := #[.val (.int p1), .val (.int p2), .val (.int (1 : Int32)), .val (.int (0 : Int32)), .val .null, .val (.ref b3), .val (.int (1 : Int32)), .val (.int (1 : Int32)), .unset, .unset, .unset]) rfl ?_
    show Steps p.tables e below (T5.setTop (mkF m 89 #[.val (.int p1), .val (.int p2), .val (.int (1 : Int32)), .val (.int (0 : Int32)), .val .null, .val (.ref b3), .val (.int (1 : Int32)), .val (.int (1 : Int32)), .unset, .unset, .unset] [])) _
    refine st6 _ ?_
    show Steps p.tables e below (T6.setTop (mkF m 92 #[.val (.int p1), .val (.int p2), .val (.int (1 : Int32)), .val (.int (0 : Int32)), .val .null, .val (.ref b3), .val (.int (1 : Int32)), .val (.int (1 : Int32)), .unset, .unset, .unset] [(.ref bn)])) _
    refine XS.astore X6.here hx rfl (hb hby at_92) rfl rfl (l' := #[.val (.int p1), .val (.int p2), .val (.int (1 : Int32)), .val (.int (0 : Int32)), .val .null, .val (.ref b3), .val (.int (1 : Int32)), .val (.int (1 : Int32)), .val (.ref bn), .unset, .unset]) rfl ?_
    show Steps p.tables e below (T6.setTop (mkF m 94 #[.val (.int p1), .val (.int p2), .val (.int (1 : Int32)), .val (.int (0 : Int32)), .val .null, .val (.ref b3), .val (.int (1 : Int32)), .val (.int (1 : Int32)), .val (.ref bn), .unset, .unset] [])) _
    refine st7 _ ?_
    show Steps p.tables e below (T7.setTop (mkF m 97 #[.val (.int p1), .val (.int p2), .val (.int (1 : Int32)), .val (.int (0 : Int32)), .val .null, .val (.ref b3), .val (.int (1 : Int32)), .val (.int (1 : Int32)), .val (.ref bn), .unset, .unset] [(.ref bu)])) _
    refine XS.astore X7.here hx rfl (hb hby at_97) rfl rfl (l' := #[.val (.int p1), .val (.int p2), .val (.int (1 : Int32)), .val (.int (0 : Int32)), .val .null, .val (.ref b3), .val (.int (1 : Int32)), .val (.int (1 : Int32)), .val (.ref bn), .val (.ref bu), .unset]) rfl ?_
    show Steps p.tables e below (T7.setTop (mkF m 99 #[.val (.int p1), .val (.int p2), .val (.int (1 : Int32)), .val (.int (0 : Int32)), .val .null, .val (.ref b3), .val (.int (1 : Int32)), .val (.int (1 : Int32)), .val (.ref bn), .val (.ref bu), .unset] [])) _
    refine XS.iloadN X7.here hx rfl (hb hby at_99) rfl ?_
    show Steps p.tables e below (T7.setTop (mkF m 100 #[.val (.int p1), .val (.int p2), .val (.int (1 : Int32)), .val (.int (0 : Int32)), .val .null, .val (.ref b3), .val (.int (1 : Int32)), .val (.int (1 : Int32)), .val (.ref bn), .val (.ref bu), .unset] [(.int p1)])) _
    refine st8 _ ?_
    show Steps p.tables e below (T8.setTop (mkF m 103 #[.val (.int p1), .val (.int p2), .val (.int (1 : Int32)), .val (.int (0 : Int32)), .val .null, .val (.ref b3), .val (.int (1 : Int32)), .val (.int (1 : Int32)), .val (.ref bn), .val (.ref bu), .unset] [(.ref bx)])) _
    refine st9 _ ?_
    show Steps p.tables e below (T9.setTop (mkF m 106 #[.val (.int p1), .val (.int p2), .val (.int (1 : Int32)), .val (.int (0 : Int32)), .val .null, .val (.ref b3), .val (.int (1 : Int32)), .val (.int (1 : Int32)), .val (.ref bn), .val (.ref bu), .unset] [(.ref bc)])) _
    refine XS.astore X9.here hx rfl (hb hby at_106) rfl rfl (l' := #[.val (.int p1), .val (.int p2), .val (.int (1 : Int32)), .val (.int (0 : Int32)), .val .null, .val (.ref b3), .val (.int (1 : Int32)), .val (.int (1 : Int32)), .val (.ref bn), .val (.ref bu), .val (.ref bc)]) rfl ?_
    show Steps p.tables e below (T9.setTop (mkF m 108 #[.val (.int p1), .val (.int p2), .val (.int (1 : Int32)), .val (.int (0 : Int32)), .val .null, .val (.ref b3), .val (.int (1 : Int32)), .val (.int (1 : Int32)), .val (.ref bn), .val (.ref bu), .val (.ref bc)] [])) _
    refine XS.iload X9.here hx rfl (hb hby at_108) rfl ?_
    show Steps p.tables e below (T9.setTop (mkF m 110 #[.val (.int p1), .val (.int p2), .val (.int (1 : Int32)), .val (.int (0 : Int32)), .val .null, .val (.ref b3), .val (.int (1 : Int32)), .val (.int (1 : Int32)), .val (.ref bn), .val (.ref bu), .val (.ref bc)] [(.int (1 : Int32))])) _
    refine XS.ifNo X9.here hx rfl (hb hby at_110) rfl ((if0 _ _).trans (feq (by decide)).1) ?_
    show Steps p.tables e below (T9.setTop (mkF m 113 #[.val (.int p1), .val (.int p2), .val (.int (1 : Int32)), .val (.int (0 : Int32)), .val .null, .val (.ref b3), .val (.int (1 : Int32)), .val (.int (1 : Int32)), .val (.ref bn), .val (.ref bu), .val (.ref bc)] [])) _
    refine XS.aload X9.here hx rfl (hb hby at_113) rfl rfl ?_
    show Steps p.tables e below (T9.setTop (mkF m 115 #[.val (.int p1), .val (.int p2), .val (.int (1 : Int32)), .val (.int (0 : Int32)), .val .null, .val (.ref b3), .val (.int (1 : Int32)), .val (.int (1 : Int32)), .val (.ref bn), .val (.ref bu), .val (.ref bc)] [(.ref bn)])) _
    refine st10.trans ?_
    show Steps p.tables e below (T10.setTop (mkF m 118 #[.val (.int p1), .val (.int p2), .val (.int (1 : Int32)), .val (.int (0 : Int32)), .val .null, .val (.ref b3), .val (.int (1 : Int32)), .val (.int (1 : Int32)), .val (.ref bn), .val (.ref bu), .val (.ref bc)] [(.int (1 : Int32))])) _
    refine XS.ifNo X10.here hx rfl (hb hby at_118) rfl ((if0 _ _).trans (feq (by decide : ¬ ((1 : Int32) = (0 : Int32)))).1) ?_
    show Steps p.tables e below (T10.setTop (mkF m 121 #[.val (.int p1), .val (.int p2), .val (.int (1 : Int32)), .val (.int (0 : Int32)), .val .null, .val (.ref b3), .val (.int (1 : Int32)), .val (.int (1 : Int32)), .val (.ref bn), .val (.ref bu), .val (.ref bc)] [])) _
    refine XS.aload X10.here hx rfl (hb hby at_121) rfl rfl ?_
    show Steps p.tables e below (T10.setTop (mkF m 123 #[.val (.int p1), .val (.int p2), .val (.int (1 : Int32)), .val (.int (0 : Int32)), .val .null, .val (.ref b3), .val (.int (1 : Int32)), .val (.int (1 : Int32)), .val (.ref bn), .val (.ref bu), .val (.ref bc)] [(.ref bu)])) _
    refine st11.trans ?_
    show Steps p.tables e below (T11.setTop (mkF m 126 #[.val (.int p1), .val (.int p2), .val (.int (1 : Int32)), .val (.int (0 : Int32)), .val .null, .val (.ref b3), .val (.int (1 : Int32)), .val (.int (1 : Int32)), .val (.ref bn), .val (.ref bu), .val (.ref bc)] [(.int (0 : Int32))])) _
    refine XS.ifNo X11.here hx rfl (hb hby at_126) rfl ((if0 _ _).trans (teq (by decide : (0 : Int32) = (0 : Int32))).2) ?_
    show Steps p.tables e below (T11.setTop (mkF m 129 #[.val (.int p1), .val (.int p2), .val (.int (1 : Int32)), .val (.int (0 : Int32)), .val .null, .val (.ref b3), .val (.int (1 : Int32)), .val (.int (1 : Int32)), .val (.ref bn), .val (.ref bu), .val (.ref bc)] [])) _
    refine XS.aload X11.here hx rfl (hb hby at_129) rfl rfl ?_
    show Steps p.tables e below (T11.setTop (mkF m 131 #[.val (.int p1), .val (.int p2), .val (.int (1 : Int32)), .val (.int (0 : Int32)), .val .null, .val (.ref b3), .val (.int (1 : Int32)), .val (.int (1 : Int32)), .val (.ref bn), .val (.ref bu), .val (.ref bc)] [(.ref bc)])) _
    refine st12.trans ?_
    show Steps p.tables e below (T12.setTop (mkF m 134 #[.val (.int p1), .val (.int p2), .val (.int (1 : Int32)), .val (.int (0 : Int32)), .val .null, .val (.ref b3), .val (.int (1 : Int32)), .val (.int (1 : Int32)), .val (.ref bn), .val (.ref bu), .val (.ref bc)] [(.int (0 : Int32))])) _
    refine XS.ifNo X12.here hx rfl (hb hby at_134) rfl ((if0 _ _).trans (teq (by decide : (0 : Int32) = (0 : Int32))).2) ?_
    show Steps p.tables e below (T12.setTop (mkF m 137 #[.val (.int p1), .val (.int p2), .val (.int (1 : Int32)), .val (.int (0 : Int32)), .val .null, .val (.ref b3), .val (.int (1 : Int32)), .val (.int (1 : Int32)), .val (.ref bn), .val (.ref bu), .val (.ref bc)] [])) _
    refine XS.iconst X12.here hx rfl (hb hby at_137) ?_
    show Steps p.tables e below (T12.setTop (mkF m 138 #[.val (.int p1), .val (.int p2), .val (.int (1 : Int32)), .val (.int (0 : Int32)), .val .null, .val (.ref b3), .val (.int (1 : Int32)), .val (.int (1 : Int32)), .val (.ref bn), .val (.ref bu), .val (.ref bc)] [(.int (1 : Int32))])) _
    refine XS.goto X12.here hx rfl (pc0 := 138) (pc' := 142) rfl (hb hby at_138) (by decide) (by decide) ?_
    show Steps p.tables e below (T12.setTop (mkF m 142 #[.val (.int p1), .val (.int p2), .val (.int (1 : Int32)), .val (.int (0 : Int32)), .val .null, .val (.ref b3), .val (.int (1 : Int32)), .val (.int (1 : Int32)), .val (.ref bn), .val (.ref bu), .val (.ref bc)] [(.int (1 : Int32))])) _
    exact retN X12 hx (t := .boolean) Bd.returns (by simp) (hb hby at_142) hr
  · show Q010 Z p1 p2 _ n0 _ T12.heap _
    exact ⟨rfl, N12⟩
theorem pn_001 : plainName "com/example/anemone/anemone/model/RecoveredIsNonePinLaw" = true := by first | (simp [plainName, overriddenIn]; done) | decide +kernel
theorem pd_0_001 : parseMethodDescriptor "(I)Ljava/lang/Integer;" = some ⟨[.int], some (.object "java/lang/Integer")⟩ := by decide +kernel
theorem pd_0_101 : parseMethodDescriptor "(Ljava/lang/Object;Z)V" = some ⟨[(.object "java/lang/Object"), .boolean], none⟩ := by decide +kernel
theorem pd_0_301 : parseMethodDescriptor "()Z" = some ⟨[], some .boolean⟩ := by decide +kernel
theorem pd_0_401 : parseMethodDescriptor "()Lcom/example/anemone/anemone/model/Recovered;" = some ⟨[], some (.object "com/example/anemone/anemone/model/Recovered")⟩ := by decide +kernel
theorem pd_0_501 : parseMethodDescriptor "(Ljava/lang/Object;)Lcom/example/anemone/anemone/model/Recovered;" = some ⟨[(.object "java/lang/Object")], some (.object "com/example/anemone/anemone/model/Recovered")⟩ := by decide +kernel
theorem ef_001 (m : MethodId) (x0 : Int32) (x1 : Int32) : entryFrame m #[(.int x0), (.int x1)] maxLocals = mkF m 0 #[.val (.int x0), .val (.int x1), .unset, .unset, .unset, .unset, .unset, .unset, .unset, .unset, .unset] [] := by first | (simp [entryFrame, mkF, argsToLocals, Value.category, maxLocals]; done) | rfl
def Q001 (Z : State) (p1 : Int32) (p2 : Int32) (h0 : Heap) (n0 : Nat) (v : Option Value) (h : Heap) (L : List Loc) : Prop := v = some (.int (1 : Int32)) ∧ Fr n0 L
set_option maxRecDepth 65536 in
set_option maxHeartbeats 40000000 in
theorem rm001 (l : Launch) (Z : State) (a0 : Array Value) (hw : ∀ d ∈ tables_1, d.before a0 Z = true) (ws : List Jvm.Cond) (p1 : Int32) (p2 : Int32) (h0 : Heap) (n0 : Nat) (Z0 : n0 ≤ h0.size) (hc3 : (p2 &&& (1 : Int32)) = (0 : Int32)) (hc15 : ¬ ((p2 &&& (2 : Int32)) = (0 : Int32))) (O0 : Old Z n0 h0) (cf : Cf Z p1) :
    MetFree l x (head1 (Jvm.Cond.code x code maxLocals ret :: ws) room_1) (fun a U => a = #[(.int p1), (.int p2)] ∧ Z.Warmed39 U.vm ∧ U.heap = h0) (fun _ _ _ _ _ => True) (fun _ U o U' => ∃ v L, o = .returned v ∧ Q001 Z p1 p2 h0 n0 v U'.heap L ∧ FrameEnd U o U' L room_1.cells room_1.slots) := by
  refine MetFree.of_bodySF (plainFor_of_name pn_001) hisR ?_
  intro p e s m args below meth c s₁ Bd hml0 hP hK
  obtain ⟨rfl, hZ, hh⟩ := hP
  have hx := Bd.exec
  have hby := Bd.bytes
  have hml : c.maxLocals = 11 := hml0
  have hown : s.vm.findClass "com/example/anemone/anemone/model/RecoveredIsNonePinLaw" = some m.cls := findClass_of_methodNamed Bd.named
  have hnm := (name_of_methodNamed Bd.named Bd.method).1
  have X0 : Stand p l e room_1 s m #[(.int p1), (.int p2)] below meth c s₁ [] 0 0 := Stand.of_body Bd
  have e0 : s₁.heap = h0 := by rw [← hh, Bd.state]; rfl
  have N0 := Fr.nil n0
  have pre0 : ∀ t, Steps p.tables e below (s₁.setTop (mkF m 0 #[.val (.int p1), .val (.int p2), .unset, .unset, .unset, .unset, .unset, .unset, .unset, .unset, .unset] [])) t → Steps p.tables e below (s₁.setTop (entryFrame m #[(.int p1), (.int p2)] maxLocals)) t := fun t k => castTop (ef_001 m p1 p2) k
  obtain ⟨_, _, ⟨T3, L3, k3, n3⟩, -, X3, ⟨Lc3, hQ3, l3, y3, z3⟩, st3⟩ := Jvm.LawKit.callS X0 hx (y := (⟨"java/lang/Integer", "valueOf", "(I)Ljava/lang/Integer;"⟩ : MethodName)) hown (mvT hZ (hw _ (List.mem_of_getElem? (i := 0) rfl))) (mvT hZ (hw _ (List.mem_of_getElem? (i := 1) rfl))) (mvT hZ (hw _ (List.mem_of_getElem? (i := 2) rfl))) (mvT hZ (hw _ (List.mem_of_getElem? (i := 3) rfl))) (by decide) (backOf (W := 0) (rm1 l Z a0 hw [] p1 h0 n0 Z0 O0 cf) hZ (hw _ (List.mem_of_getElem? (i := 3) rfl)) (hw _ (List.mem_of_getElem? (i := 2) rfl)) (by decide) (by decide)) (g := (mkF m 32 #[.val (.int p1), .val (.int p2), .val (.int (0 : Int32)), .val (.int (1 : Int32)), .val .null, .unset, .unset, .unset, .unset, .unset, .unset] [(.int p1)])) rfl (by rw [hml]; rfl) (argsL := [(.int p1)]) (rest := []) (lenOf pd_0_001 rfl) rfl (by show 2 * 0 + _ ≤ _; exact Nat.le_of_eq rfl) (hb hby at_32) (fun _ _ => ⟨rfl, e0, (Nat.le_of_ble_eq_true rfl), (Nat.le_of_ble_eq_true rfl)⟩)
  dsimp only [Pt.U, Pt.locs, Pt.cells, Pt.slots] at X3 l3 y3 z3 st3 hQ3
  subst l3 y3 z3
  obtain ⟨v3, rfl, N3q, KV⟩ := hQ3
  have N3 := Fr.app N0 N3q
  have O1 := O0.keep KV all0
  obtain ⟨T4, h4, X4, e4, E4, A4, D4, -, st4⟩ := newO X3 hx hZ hown (hw _ (List.mem_of_getElem? (i := 7) rfl)) (hw _ (List.mem_of_getElem? (i := 8) rfl)) (hw _ (List.mem_of_getElem? (i := 9) rfl)) rfl (g := (mkF m 37 #[.val (.int p1), .val (.int p2), .val (.int (0 : Int32)), .val (.int (1 : Int32)), .val (.ref v3), .unset, .unset, .unset, .unset, .unset, .unset] [])) rfl (hb hby at_37) (by decide) (by decide)
  obtain ⟨b4, g4⟩ : ∃ z, z = T3.heap.size := ⟨_, rfl⟩
  rw [← g4] at A4 D4 st4
  have F_value_b4 : Fld Z h4 b4 "com/example/anemone/anemone/model/Recovered" "value" "Ljava/lang/Object;" .null := D4 (Or.inr (hw _ (List.mem_of_getElem? (i := 22) rfl))) (ty := (.object "java/lang/Object")) (by decide)
  have F_known_b4 : Fld Z h4 b4 "com/example/anemone/anemone/model/Recovered" "known" "Z" (.int (0 : Int32)) := D4 (Or.inr (hw _ (List.mem_of_getElem? (i := 24) rfl))) (ty := .boolean) (by decide)
  have E_b4 := A4
  have g_b4 : n0 ≤ b4 := Nat.le_trans (Nat.le_trans Z0 KV.1) (Nat.le_of_eq g4.symm)
  have sz_b4 : h0.size ≤ b4 := (Nat.le_trans KV.1 (Nat.le_of_eq g4.symm))
  have K4 : Keep h0 h4 [] := KV.ext E4
  obtain ⟨_, _, ⟨T5, L5, k5, n5⟩, -, X5, ⟨Lc5, hQ5, l5, y5, z5⟩, st5⟩ := X4.specialBack hx (y := (⟨"com/example/anemone/anemone/model/Recovered", "<init>", "(Ljava/lang/Object;Z)V"⟩ : MethodName)) rfl hown (mvT hZ (hw _ (List.mem_of_getElem? (i := 10) rfl))) (mvT hZ (hw _ (List.mem_of_getElem? (i := 11) rfl))) (mvT hZ (hw _ (List.mem_of_getElem? (i := 12) rfl))) (by decide) (backOf (W := 1) (rm2r0 l Z a0 hw [] b4 v3 _ _ h4 n0 (Nat.le_trans g_b4 (Nat.le_of_lt E_b4.lt)) E_b4 F_value_b4 g_b4 F_known_b4) hZ (hw _ (List.mem_of_getElem? (i := 12) rfl)) (hw _ (List.mem_of_getElem? (i := 9) rfl)) (by decide) (by decide)) (g := (mkF m 44 #[.val (.int p1), .val (.int p2), .val (.int (0 : Int32)), .val (.int (1 : Int32)), .val (.ref v3), .unset, .unset, .unset, .unset, .unset, .unset] [(.int (0 : Int32)), (.ref v3), (.ref b4), (.ref b4)])) rfl (by rw [hml]; rfl) (Steps.refl _) (a := b4) (argsL := [(.ref v3), (.int (0 : Int32))]) (rest := [(.ref b4)]) (lenOf pd_0_101 rfl) rfl (by show 2 * 0 + _ ≤ _; exact Nat.le_of_eq rfl) (hb hby at_44) (fun _ _ => ⟨rfl, e4, (Nat.le_of_ble_eq_true rfl), (Nat.le_of_ble_eq_true rfl)⟩)
  dsimp only [Pt.U, Pt.locs, Pt.cells, Pt.slots] at X5 l5 y5 z5 st5 hQ5
  subst l5 y5 z5
  obtain ⟨rfl, N5q, KI, RI⟩ := hQ5
  have N5 := Fr.app N3 N5q
  have O2 := (O1.ext E4).keep KI (allS g_b4 all0)
  obtain ⟨cq6, kq6, q6a, q6b, q6c⟩ := isOf hZ rfl RI.1
  obtain ⟨_, _, ⟨T6, L6, k6, n6⟩, -, X6, ⟨Lc6, hQ6, l6, y6, z6⟩, st6⟩ := X5.virtualBack hx (y := (⟨"com/example/anemone/anemone/model/Recovered", "isNone", "()Z"⟩ : MethodName)) (z := (⟨"com/example/anemone/anemone/model/Recovered", "isNone", "()Z"⟩ : MethodName)) hown (mvT hZ (hw _ (List.mem_of_getElem? (i := 25) rfl))) (mvT hZ (hw _ (List.mem_of_getElem? (i := 26) rfl))) (notFace_of_selects (args := #[]) (mvT hZ (hw _ (List.mem_of_getElem? (i := 28) rfl)))) (mvT hZ (hw _ (List.mem_of_getElem? (i := 28) rfl))) (mvT hZ (hw _ (List.mem_of_getElem? (i := 27) rfl))) (by decide) (backOf (W := 0) (rm5u l Z a0 hw [] b4 _ _ n0 (Nat.le_trans g_b4 (Nat.le_of_lt RI.1.lt)) RI.2.2 rfl) hZ (hw _ (List.mem_of_getElem? (i := 29) rfl)) (hw _ (List.mem_of_getElem? (i := 9) rfl)) (by decide) (by decide)) q6a q6c (g := (mkF m 74 #[.val (.int p1), .val (.int p2), .val (.int (0 : Int32)), .val (.int (1 : Int32)), .val (.ref v3), .val (.ref b4), .val (.int (0 : Int32)), .unset, .unset, .unset, .unset] [(.ref b4)])) rfl (by rw [hml]; rfl) (Steps.refl _) (argsL := []) (rest := []) (lenOf pd_0_301 rfl) rfl (by show 2 * 0 + _ ≤ _; exact Nat.le_of_eq rfl) (hb hby at_74) (fun _ _ => ⟨rfl, rfl, (Nat.le_of_ble_eq_true rfl), (Nat.le_of_ble_eq_true rfl)⟩)
  dsimp only [Pt.U, Pt.locs, Pt.cells, Pt.slots] at X6 l6 y6 z6 st6 hQ6
  subst l6 y6 z6
  obtain ⟨rfl, N6q, HQ⟩ := hQ6
  have N6 := Fr.app N5 N6q
  rw [← HQ] at O2
  obtain ⟨_, _, ⟨T7, L7, k7, n7⟩, -, X7, ⟨Lc7, hQ7, l7, y7, z7⟩, st7⟩ := Jvm.LawKit.callS X6 hx (y := (⟨"com/example/anemone/anemone/model/Recovered", "none", "()Lcom/example/anemone/anemone/model/Recovered;"⟩ : MethodName)) hown (mvT hZ (hw _ (List.mem_of_getElem? (i := 30) rfl))) (mvT hZ (hw _ (List.mem_of_getElem? (i := 31) rfl))) (mvT hZ (hw _ (List.mem_of_getElem? (i := 9) rfl))) (mvT hZ (hw _ (List.mem_of_getElem? (i := 32) rfl))) (by decide) (backOf (W := 0) (rm6 l Z a0 hw [] _ n0 (Nat.le_trans (Nat.le_of_eq O2.1.symm) O2.2.1)) hZ (hw _ (List.mem_of_getElem? (i := 32) rfl)) (hw _ (List.mem_of_getElem? (i := 9) rfl)) (by decide) (by decide)) (g := (mkF m 89 #[.val (.int p1), .val (.int p2), .val (.int (0 : Int32)), .val (.int (1 : Int32)), .val (.ref v3), .val (.ref b4), .val (.int (0 : Int32)), .val (.int (1 : Int32)), .unset, .unset, .unset] [])) rfl (by rw [hml]; rfl) (argsL := []) (rest := []) (lenOf pd_0_401 rfl) rfl (by show 2 * 0 + _ ≤ _; exact Nat.le_of_eq rfl) (hb hby at_89) (fun _ _ => ⟨rfl, rfl, (Nat.le_of_ble_eq_true rfl), (Nat.le_of_ble_eq_true rfl)⟩)
  dsimp only [Pt.U, Pt.locs, Pt.cells, Pt.slots] at X7 l7 y7 z7 st7 hQ7
  subst l7 y7 z7
  obtain ⟨bn, rfl, N7q, KN, RN⟩ := hQ7
  have N7 := Fr.app N6 N7q
  have O3 := O2.keep KN all0
  obtain ⟨_, _, ⟨T8, L8, k8, n8⟩, -, X8, ⟨Lc8, hQ8, l8, y8, z8⟩, st8⟩ := Jvm.LawKit.callS X7 hx (y := (⟨"com/example/anemone/anemone/model/Recovered", "unknown", "()Lcom/example/anemone/anemone/model/Recovered;"⟩ : MethodName)) hown (mvT hZ (hw _ (List.mem_of_getElem? (i := 35) rfl))) (mvT hZ (hw _ (List.mem_of_getElem? (i := 36) rfl))) (mvT hZ (hw _ (List.mem_of_getElem? (i := 9) rfl))) (mvT hZ (hw _ (List.mem_of_getElem? (i := 37) rfl))) (by decide) (backOf (W := 0) (rm7 l Z a0 hw [] _ n0 (Nat.le_trans (Nat.le_of_eq O3.1.symm) O3.2.1)) hZ (hw _ (List.mem_of_getElem? (i := 37) rfl)) (hw _ (List.mem_of_getElem? (i := 9) rfl)) (by decide) (by decide)) (g := (mkF m 94 #[.val (.int p1), .val (.int p2), .val (.int (0 : Int32)), .val (.int (1 : Int32)), .val (.ref v3), .val (.ref b4), .val (.int (0 : Int32)), .val (.int (1 : Int32)), .val (.ref bn), .unset, .unset] [])) rfl (by rw [hml]; rfl) (argsL := []) (rest := []) (lenOf pd_0_401 rfl) rfl (by show 2 * 0 + _ ≤ _; exact Nat.le_of_eq rfl) (hb hby at_94) (fun _ _ => ⟨rfl, rfl, (Nat.le_of_ble_eq_true rfl), (Nat.le_of_ble_eq_true rfl)⟩)
  dsimp only [Pt.U, Pt.locs, Pt.cells, Pt.slots] at X8 l8 y8 z8 st8 hQ8
  subst l8 y8 z8
  obtain ⟨bu, rfl, N8q, KU, RU⟩ := hQ8
  have N8 := Fr.app N7 N8q
  have O4 := O3.keep KU all0
  obtain ⟨_, _, ⟨T9, L9, k9, n9⟩, -, X9, ⟨Lc9, hQ9, l9, y9, z9⟩, st9⟩ := Jvm.LawKit.callS X8 hx (y := (⟨"java/lang/Integer", "valueOf", "(I)Ljava/lang/Integer;"⟩ : MethodName)) hown (mvT hZ (hw _ (List.mem_of_getElem? (i := 0) rfl))) (mvT hZ (hw _ (List.mem_of_getElem? (i := 1) rfl))) (mvT hZ (hw _ (List.mem_of_getElem? (i := 2) rfl))) (mvT hZ (hw _ (List.mem_of_getElem? (i := 3) rfl))) (by decide) (backOf (W := 0) (rm1 l Z a0 hw [] p1 _ n0 (Nat.le_trans (Nat.le_of_eq O4.1.symm) O4.2.1) O4 cf) hZ (hw _ (List.mem_of_getElem? (i := 3) rfl)) (hw _ (List.mem_of_getElem? (i := 2) rfl)) (by decide) (by decide)) (g := (mkF m 100 #[.val (.int p1), .val (.int p2), .val (.int (0 : Int32)), .val (.int (1 : Int32)), .val (.ref v3), .val (.ref b4), .val (.int (0 : Int32)), .val (.int (1 : Int32)), .val (.ref bn), .val (.ref bu), .unset] [(.int p1)])) rfl (by rw [hml]; rfl) (argsL := [(.int p1)]) (rest := []) (lenOf pd_0_001 rfl) rfl (by show 2 * 0 + _ ≤ _; exact Nat.le_of_eq rfl) (hb hby at_100) (fun _ _ => ⟨rfl, rfl, (Nat.le_of_ble_eq_true rfl), (Nat.le_of_ble_eq_true rfl)⟩)
  dsimp only [Pt.U, Pt.locs, Pt.cells, Pt.slots] at X9 l9 y9 z9 st9 hQ9
  subst l9 y9 z9
  obtain ⟨bx, rfl, N9q, KX⟩ := hQ9
  have N9 := Fr.app N8 N9q
  have O5 := O4.keep KX all0
  obtain ⟨_, _, ⟨T10, L10, k10, n10⟩, -, X10, ⟨Lc10, hQ10, l10, y10, z10⟩, st10⟩ := Jvm.LawKit.callS X9 hx (y := (⟨"com/example/anemone/anemone/model/Recovered", "of", "(Ljava/lang/Object;)Lcom/example/anemone/anemone/model/Recovered;"⟩ : MethodName)) hown (mvT hZ (hw _ (List.mem_of_getElem? (i := 38) rfl))) (mvT hZ (hw _ (List.mem_of_getElem? (i := 39) rfl))) (mvT hZ (hw _ (List.mem_of_getElem? (i := 9) rfl))) (mvT hZ (hw _ (List.mem_of_getElem? (i := 40) rfl))) (by decide) (backOf (W := 0) (rm8 l Z a0 hw [] bx _ n0 (Nat.le_trans (Nat.le_of_eq O5.1.symm) O5.2.1)) hZ (hw _ (List.mem_of_getElem? (i := 40) rfl)) (hw _ (List.mem_of_getElem? (i := 9) rfl)) (by decide) (by decide)) (g := (mkF m 103 #[.val (.int p1), .val (.int p2), .val (.int (0 : Int32)), .val (.int (1 : Int32)), .val (.ref v3), .val (.ref b4), .val (.int (0 : Int32)), .val (.int (1 : Int32)), .val (.ref bn), .val (.ref bu), .unset] [(.ref bx)])) rfl (by rw [hml]; rfl) (argsL := [(.ref bx)]) (rest := []) (lenOf pd_0_501 rfl) rfl (by show 2 * 0 + _ ≤ _; exact Nat.le_of_eq rfl) (hb hby at_103) (fun _ _ => ⟨rfl, rfl, (Nat.le_of_ble_eq_true rfl), (Nat.le_of_ble_eq_true rfl)⟩)
  dsimp only [Pt.U, Pt.locs, Pt.cells, Pt.slots] at X10 l10 y10 z10 st10 hQ10
  subst l10 y10 z10
  obtain ⟨bc, rfl, N10q, KC, RC⟩ := hQ10
  have N10 := Fr.app N9 N10q
  have O6 := O5.keep KC all0
  have RN6 := ((RN.keep KU).keep KX).keep KC
  have RU6 := (RU.keep KX).keep KC
  obtain ⟨cq11, kq11, q11a, q11b, q11c⟩ := isOf hZ rfl RN6.1
  obtain ⟨_, _, ⟨T11, L11, k11, n11⟩, -, X11, ⟨Lc11, hQ11, l11, y11, z11⟩, st11⟩ := X10.virtualBack hx (y := (⟨"com/example/anemone/anemone/model/Recovered", "isNone", "()Z"⟩ : MethodName)) (z := (⟨"com/example/anemone/anemone/model/Recovered", "isNone", "()Z"⟩ : MethodName)) hown (mvT hZ (hw _ (List.mem_of_getElem? (i := 25) rfl))) (mvT hZ (hw _ (List.mem_of_getElem? (i := 26) rfl))) (notFace_of_selects (args := #[]) (mvT hZ (hw _ (List.mem_of_getElem? (i := 28) rfl)))) (mvT hZ (hw _ (List.mem_of_getElem? (i := 28) rfl))) (mvT hZ (hw _ (List.mem_of_getElem? (i := 27) rfl))) (by decide) (backOf (W := 0) (rm5n l Z a0 hw [] bn _ _ n0 (Nat.le_trans (Nat.le_of_eq O6.1.symm) O6.2.1) RN6.2.2 RN6.2.1 (by decide)) hZ (hw _ (List.mem_of_getElem? (i := 29) rfl)) (hw _ (List.mem_of_getElem? (i := 9) rfl)) (by decide) (by decide)) q11a q11c (g := (mkF m 115 #[.val (.int p1), .val (.int p2), .val (.int (0 : Int32)), .val (.int (1 : Int32)), .val (.ref v3), .val (.ref b4), .val (.int (0 : Int32)), .val (.int (1 : Int32)), .val (.ref bn), .val (.ref bu), .val (.ref bc)] [(.ref bn)])) rfl (by rw [hml]; rfl) (Steps.refl _) (argsL := []) (rest := []) (lenOf pd_0_301 rfl) rfl (by show 2 * 0 + _ ≤ _; exact Nat.le_of_eq rfl) (hb hby at_115) (fun _ _ => ⟨rfl, rfl, (Nat.le_of_ble_eq_true rfl), (Nat.le_of_ble_eq_true rfl)⟩)
  dsimp only [Pt.U, Pt.locs, Pt.cells, Pt.slots] at X11 l11 y11 z11 st11 hQ11
  subst l11 y11 z11
  obtain ⟨rfl, N11q, HQ1⟩ := hQ11
  have N11 := Fr.app N10 N11q
  obtain ⟨cq12, kq12, q12a, q12b, q12c⟩ := isOf hZ HQ1 RU6.1
  obtain ⟨_, _, ⟨T12, L12, k12, n12⟩, -, X12, ⟨Lc12, hQ12, l12, y12, z12⟩, st12⟩ := X11.virtualBack hx (y := (⟨"com/example/anemone/anemone/model/Recovered", "isNone", "()Z"⟩ : MethodName)) (z := (⟨"com/example/anemone/anemone/model/Recovered", "isNone", "()Z"⟩ : MethodName)) hown (mvT hZ (hw _ (List.mem_of_getElem? (i := 25) rfl))) (mvT hZ (hw _ (List.mem_of_getElem? (i := 26) rfl))) (notFace_of_selects (args := #[]) (mvT hZ (hw _ (List.mem_of_getElem? (i := 28) rfl)))) (mvT hZ (hw _ (List.mem_of_getElem? (i := 28) rfl))) (mvT hZ (hw _ (List.mem_of_getElem? (i := 27) rfl))) (by decide) (backOf (W := 0) (rm5u l Z a0 hw [] bu _ _ n0 (Nat.le_trans (Nat.le_of_eq O6.1.symm) O6.2.1) RU6.2.2 rfl) hZ (hw _ (List.mem_of_getElem? (i := 29) rfl)) (hw _ (List.mem_of_getElem? (i := 9) rfl)) (by decide) (by decide)) q12a q12c (g := (mkF m 123 #[.val (.int p1), .val (.int p2), .val (.int (0 : Int32)), .val (.int (1 : Int32)), .val (.ref v3), .val (.ref b4), .val (.int (0 : Int32)), .val (.int (1 : Int32)), .val (.ref bn), .val (.ref bu), .val (.ref bc)] [(.ref bu)])) rfl (by rw [hml]; rfl) (Steps.refl _) (argsL := []) (rest := []) (lenOf pd_0_301 rfl) rfl (by show 2 * 0 + _ ≤ _; exact Nat.le_of_eq rfl) (hb hby at_123) (fun _ _ => ⟨rfl, HQ1, (Nat.le_of_ble_eq_true rfl), (Nat.le_of_ble_eq_true rfl)⟩)
  dsimp only [Pt.U, Pt.locs, Pt.cells, Pt.slots] at X12 l12 y12 z12 st12 hQ12
  subst l12 y12 z12
  obtain ⟨rfl, N12q, HQ2⟩ := hQ12
  have N12 := Fr.app N11 N12q
  obtain ⟨cq13, kq13, q13a, q13b, q13c⟩ := isOf hZ HQ2 RC.1
  obtain ⟨_, _, ⟨T13, L13, k13, n13⟩, -, X13, ⟨Lc13, hQ13, l13, y13, z13⟩, st13⟩ := X12.virtualBack hx (y := (⟨"com/example/anemone/anemone/model/Recovered", "isNone", "()Z"⟩ : MethodName)) (z := (⟨"com/example/anemone/anemone/model/Recovered", "isNone", "()Z"⟩ : MethodName)) hown (mvT hZ (hw _ (List.mem_of_getElem? (i := 25) rfl))) (mvT hZ (hw _ (List.mem_of_getElem? (i := 26) rfl))) (notFace_of_selects (args := #[]) (mvT hZ (hw _ (List.mem_of_getElem? (i := 28) rfl)))) (mvT hZ (hw _ (List.mem_of_getElem? (i := 28) rfl))) (mvT hZ (hw _ (List.mem_of_getElem? (i := 27) rfl))) (by decide) (backOf (W := 0) (rm5v l Z a0 hw [] bc _ _ _ n0 (Nat.le_trans (Nat.le_of_eq O6.1.symm) O6.2.1) RC.2.2 RC.2.1 (by decide)) hZ (hw _ (List.mem_of_getElem? (i := 29) rfl)) (hw _ (List.mem_of_getElem? (i := 9) rfl)) (by decide) (by decide)) q13a q13c (g := (mkF m 131 #[.val (.int p1), .val (.int p2), .val (.int (0 : Int32)), .val (.int (1 : Int32)), .val (.ref v3), .val (.ref b4), .val (.int (0 : Int32)), .val (.int (1 : Int32)), .val (.ref bn), .val (.ref bu), .val (.ref bc)] [(.ref bc)])) rfl (by rw [hml]; rfl) (Steps.refl _) (argsL := []) (rest := []) (lenOf pd_0_301 rfl) rfl (by show 2 * 0 + _ ≤ _; exact Nat.le_of_eq rfl) (hb hby at_131) (fun _ _ => ⟨rfl, HQ2, (Nat.le_of_ble_eq_true rfl), (Nat.le_of_ble_eq_true rfl)⟩)
  dsimp only [Pt.U, Pt.locs, Pt.cells, Pt.slots] at X13 l13 y13 z13 st13 hQ13
  subst l13 y13 z13
  obtain ⟨rfl, N13q, -⟩ := hQ13
  have N13 := Fr.app N12 N13q
  obtain ⟨fs, hr, hrun, hended, hW, hsame⟩ := X13.leave (v := some (.int (1 : Int32))) (fun h => by rw [Bd.returns] at h; cases h)
  refine ⟨_, _, pre0 _ ?_, hrun, hended, _, _, rfl, ?_, ⟨_, rfl⟩, hW, hsame.mono (by decide) (by decide)⟩
  · show Steps p.tables e below (s₁.setTop (mkF m 0 #[.val (.int p1), .val (.int p2), .unset, .unset, .unset, .unset, .unset, .unset, .unset, .unset, .unset] [])) _
    refine XS.iloadN X0.here hx rfl (hb hby at_0) rfl ?_
    show Steps p.tables e below (s₁.setTop (mkF m 1 #[.val (.int p1), .val (.int p2), .unset, .unset, .unset, .unset, .unset, .unset, .unset, .unset, .unset] [(.int p2)])) _
    refine XS.iconst X0.here hx rfl (hb hby at_1) ?_
    show Steps p.tables e below (s₁.setTop (mkF m 2 #[.val (.int p1), .val (.int p2), .unset, .unset, .unset, .unset, .unset, .unset, .unset, .unset, .unset] [(.int (1 : Int32)), (.int p2)])) _
    refine XS.iand X0.here hx rfl (hb hby at_2) rfl ?_
    show Steps p.tables e below (s₁.setTop (mkF m 3 #[.val (.int p1), .val (.int p2), .unset, .unset, .unset, .unset, .unset, .unset, .unset, .unset, .unset] [(.int (p2 &&& (1 : Int32)))])) _
    refine XS.ifYes X0.here hx rfl (pc0 := 3) (pc' := 10) rfl (hb hby at_3) rfl ((if0 _ _).trans (teq hc3).1) (by decide) (by decide) ?_
    show Steps p.tables e below (s₁.setTop (mkF m 10 #[.val (.int p1), .val (.int p2), .unset, .unset, .unset, .unset, .unset, .unset, .unset, .unset, .unset] [])) _
    refine XS.iconst X0.here hx rfl (hb hby at_10) ?_
    show Steps p.tables e below (s₁.setTop (mkF m 11 #[.val (.int p1), .val (.int p2), .unset, .unset, .unset, .unset, .unset, .unset, .unset, .unset, .unset] [(.int (0 : Int32))])) _
    refine XS.istoreN X0.here hx rfl (hb hby at_11) rfl (l' := #[.val (.int p1), .val (.int p2), .val (.int (0 : Int32)), .unset, .unset, .unset, .unset, .unset, .unset, .unset, .unset]) rfl ?_
    show Steps p.tables e below (s₁.setTop (mkF m 12 #[.val (.int p1), .val (.int p2), .val (.int (0 : Int32)), .unset, .unset, .unset, .unset, .unset, .unset, .unset, .unset] [])) _
    refine XS.iloadN X0.here hx rfl (hb hby at_12) rfl ?_
    show Steps p.tables e below (s₁.setTop (mkF m 13 #[.val (.int p1), .val (.int p2), .val (.int (0 : Int32)), .unset, .unset, .unset, .unset, .unset, .unset, .unset, .unset] [(.int p2)])) _
    refine XS.iconst X0.here hx rfl (hb hby at_13) ?_
    show Steps p.tables e below (s₁.setTop (mkF m 14 #[.val (.int p1), .val (.int p2), .val (.int (0 : Int32)), .unset, .unset, .unset, .unset, .unset, .unset, .unset, .unset] [(.int (2 : Int32)), (.int p2)])) _
    refine XS.iand X0.here hx rfl (hb hby at_14) rfl ?_
    show Steps p.tables e below (s₁.setTop (mkF m 15 #[.val (.int p1), .val (.int p2), .val (.int (0 : Int32)), .unset, .unset, .unset, .unset, .unset, .unset, .unset, .unset] [(.int (p2 &&& (2 : Int32)))])) _
    refine XS.ifNo X0.here hx rfl (hb hby at_15) rfl ((if0 _ _).trans (feq hc15).1) ?_
    show Steps p.tables e below (s₁.setTop (mkF m 18 #[.val (.int p1), .val (.int p2), .val (.int (0 : Int32)), .unset, .unset, .unset, .unset, .unset, .unset, .unset, .unset] [])) _
    refine XS.iconst X0.here hx rfl (hb hby at_18) ?_
    show Steps p.tables e below (s₁.setTop (mkF m 19 #[.val (.int p1), .val (.int p2), .val (.int (0 : Int32)), .unset, .unset, .unset, .unset, .unset, .unset, .unset, .unset] [(.int (1 : Int32))])) _
    refine XS.goto X0.here hx rfl (pc0 := 19) (pc' := 23) rfl (hb hby at_19) (by decide) (by decide) ?_
    show Steps p.tables e below (s₁.setTop (mkF m 23 #[.val (.int p1), .val (.int p2), .val (.int (0 : Int32)), .unset, .unset, .unset, .unset, .unset, .unset, .unset, .unset] [(.int (1 : Int32))])) _
    refine XS.istoreN X0.here hx rfl (hb hby at_23) rfl (l' := #[.val (.int p1), .val (.int p2), .val (.int (0 : Int32)), .val (.int (1 : Int32)), .unset, .unset, .unset, .unset, .unset, .unset, .unset]) rfl ?_
    show Steps p.tables e below (s₁.setTop (mkF m 24 #[.val (.int p1), .val (.int p2), .val (.int (0 : Int32)), .val (.int (1 : Int32)), .unset, .unset, .unset, .unset, .unset, .unset, .unset] [])) _
    refine XS.aconstNull X0.here hx rfl (hb hby at_24) ?_
    show Steps p.tables e below (s₁.setTop (mkF m 25 #[.val (.int p1), .val (.int p2), .val (.int (0 : Int32)), .val (.int (1 : Int32)), .unset, .unset, .unset, .unset, .unset, .unset, .unset] [.null])) _
    refine XS.astore X0.here hx rfl (hb hby at_25) rfl rfl (l' := #[.val (.int p1), .val (.int p2), .val (.int (0 : Int32)), .val (.int (1 : Int32)), .val .null, .unset, .unset, .unset, .unset, .unset, .unset]) rfl ?_
    show Steps p.tables e below (s₁.setTop (mkF m 27 #[.val (.int p1), .val (.int p2), .val (.int (0 : Int32)), .val (.int (1 : Int32)), .val .null, .unset, .unset, .unset, .unset, .unset, .unset] [])) _
    refine XS.iloadN X0.here hx rfl (hb hby at_27) rfl ?_
    show Steps p.tables e below (s₁.setTop (mkF m 28 #[.val (.int p1), .val (.int p2), .val (.int (0 : Int32)), .val (.int (1 : Int32)), .val .null, .unset, .unset, .unset, .unset, .unset, .unset] [(.int (1 : Int32))])) _
    refine XS.ifNo X0.here hx rfl (hb hby at_28) rfl ((if0 _ _).trans (feq (by decide)).1) ?_
    show Steps p.tables e below (s₁.setTop (mkF m 31 #[.val (.int p1), .val (.int p2), .val (.int (0 : Int32)), .val (.int (1 : Int32)), .val .null, .unset, .unset, .unset, .unset, .unset, .unset] [])) _
    refine XS.iloadN X0.here hx rfl (hb hby at_31) rfl ?_
    show Steps p.tables e below (s₁.setTop (mkF m 32 #[.val (.int p1), .val (.int p2), .val (.int (0 : Int32)), .val (.int (1 : Int32)), .val .null, .unset, .unset, .unset, .unset, .unset, .unset] [(.int p1)])) _
    refine st3 _ ?_
    show Steps p.tables e below (T3.setTop (mkF m 35 #[.val (.int p1), .val (.int p2), .val (.int (0 : Int32)), .val (.int (1 : Int32)), .val .null, .unset, .unset, .unset, .unset, .unset, .unset] [(.ref v3)])) _
    refine XS.astore X3.here hx rfl (hb hby at_35) rfl rfl (l' := #[.val (.int p1), .val (.int p2), .val (.int (0 : Int32)), .val (.int (1 : Int32)), .val (.ref v3), .unset, .unset, .unset, .unset, .unset, .unset]) rfl ?_
    show Steps p.tables e below (T3.setTop (mkF m 37 #[.val (.int p1), .val (.int p2), .val (.int (0 : Int32)), .val (.int (1 : Int32)), .val (.ref v3), .unset, .unset, .unset, .unset, .unset, .unset] [])) _
    refine st4 _ ?_
    show Steps p.tables e below (T4.setTop (mkF m 40 #[.val (.int p1), .val (.int p2), .val (.int (0 : Int32)), .val (.int (1 : Int32)), .val (.ref v3), .unset, .unset, .unset, .unset, .unset, .unset] [(.ref b4)])) _
    refine XS.dup X4.here hx rfl (hb hby at_40) rfl rfl ?_
    show Steps p.tables e below (T4.setTop (mkF m 41 #[.val (.int p1), .val (.int p2), .val (.int (0 : Int32)), .val (.int (1 : Int32)), .val (.ref v3), .unset, .unset, .unset, .unset, .unset, .unset] [(.ref b4), (.ref b4)])) _
    refine XS.aload X4.here hx rfl (hb hby at_41) rfl rfl ?_
    show Steps p.tables e below (T4.setTop (mkF m 43 #[.val (.int p1), .val (.int p2), .val (.int (0 : Int32)), .val (.int (1 : Int32)), .val (.ref v3), .unset, .unset, .unset, .unset, .unset, .unset] [(.ref v3), (.ref b4), (.ref b4)])) _
    refine XS.iloadN X4.here hx rfl (hb hby at_43) rfl ?_
    show Steps p.tables e below (T4.setTop (mkF m 44 #[.val (.int p1), .val (.int p2), .val (.int (0 : Int32)), .val (.int (1 : Int32)), .val (.ref v3), .unset, .unset, .unset, .unset, .unset, .unset] [(.int (0 : Int32)), (.ref v3), (.ref b4), (.ref b4)])) _
    refine st5.trans ?_
    show Steps p.tables e below (T5.setTop (mkF m 47 #[.val (.int p1), .val (.int p2), .val (.int (0 : Int32)), .val (.int (1 : Int32)), .val (.ref v3), .unset, .unset, .unset, .unset, .unset, .unset] [(.ref b4)])) _
    refine XS.astore X5.here hx rfl (hb hby at_47) rfl rfl (l' := #[.val (.int p1), .val (.int p2), .val (.int (0 : Int32)), .val (.int (1 : Int32)), .val (.ref v3), .val (.ref b4), .unset, .unset, .unset, .unset, .unset]) rfl ?_
    show Steps p.tables e below (T5.setTop (mkF m 49 #[.val (.int p1), .val (.int p2), .val (.int (0 : Int32)), .val (.int (1 : Int32)), .val (.ref v3), .val (.ref b4), .unset, .unset, .unset, .unset, .unset] [])) _
    refine XS.iloadN X5.here hx rfl (hb hby at_49) rfl ?_
    show Steps p.tables e below (T5.setTop (mkF m 50 #[.val (.int p1), .val (.int p2), .val (.int (0 : Int32)), .val (.int (1 : Int32)), .val (.ref v3), .val (.ref b4), .unset, .unset, .unset, .unset, .unset] [(.int (0 : Int32))])) _
    refine XS.ifNo X5.here hx rfl (hb hby at_50) rfl ((if0 _ _).trans (teq (rfl : (0 : Int32) = (0 : Int32))).2) ?_
    show Steps p.tables e below (T5.setTop (mkF m 53 #[.val (.int p1), .val (.int p2), .val (.int (0 : Int32)), .val (.int (1 : Int32)), .val (.ref v3), .val (.ref b4), .unset, .unset, .unset, .unset, .unset] [])) _
    refine XS.iconst X5.here hx rfl (hb hby at_53) ?_
    show Steps p.tables e below (T5.setTop (mkF m 54 #[.val (.int p1), .val (.int p2), .val (.int (0 : Int32)), .val (.int (1 : Int32)), .val (.ref v3), .val (.ref b4), .unset, .unset, .unset, .unset, .unset] [(.int (0 : Int32))])) _
    refine XS.istore X5.here hx rfl (hb hby at_54) rfl (l' := #[.val (.int p1), .val (.int p2), .val (.int (0 : Int32)), .val (.int (1 : Int32)), .val (.ref v3), .val (.ref b4), .val (.int (0 : Int32)), .unset, .unset, .unset, .unset]) rfl ?_
    show Steps p.tables e below (T5.setTop (mkF m 56 #[.val (.int p1), .val (.int p2), .val (.int (0 : Int32)), .val (.int (1 : Int32)), .val (.ref v3), .val (.ref b4), .val (.int (0 : Int32)), .unset, .unset, .unset, .unset] [])) _
    refine XS.goto X5.here hx rfl (pc0 := 56) (pc' := 72) rfl (hb hby at_56) (by decide) (by decide) ?_
    show Steps p.tables e below (T5.setTop (mkF m 72 #[.val (.int p1), .val (.int p2), .val (.int (0 : Int32)), .val (.int (1 : Int32)), .val (.ref v3), .val (.ref b4), .val (.int (0 : Int32)), .unset, .unset, .unset, .unset] [])) _
    refine XS.aload X5.here hx rfl (hb hby at_72) rfl rfl ?_
    show Steps p.tables e below (T5.setTop (mkF m 74 #[.val (.int p1), .val (.int p2), .val (.int (0 : Int32)), .val (.int (1 : Int32)), .val (.ref v3), .val (.ref b4), .val (.int (0 : Int32)), .unset, .unset, .unset, .unset] [(.ref b4)])) _
    refine st6.trans ?_
    show Steps p.tables e below (T6.setTop (mkF m 77 #[.val (.int p1), .val (.int p2), .val (.int (0 : Int32)), .val (.int (1 : Int32)), .val (.ref v3), .val (.ref b4), .val (.int (0 : Int32)), .unset, .unset, .unset, .unset] [(.int (0 : Int32))])) _
    refine XS.iload X6.here hx rfl (hb hby at_77) rfl ?_
    show Steps p.tables e below (T6.setTop (mkF m 79 #[.val (.int p1), .val (.int p2), .val (.int (0 : Int32)), .val (.int (1 : Int32)), .val (.ref v3), .val (.ref b4), .val (.int (0 : Int32)), .unset, .unset, .unset, .unset] [(.int (0 : Int32)), (.int (0 : Int32))])) _
    refine XS.icmpNo X6.here hx rfl (hb hby at_79) rfl (teq (by decide : (0 : Int32) = (0 : Int32))).2 ?_
    show Steps p.tables e below (T6.setTop (mkF m 82 #[.val (.int p1), .val (.int p2), .val (.int (0 : Int32)), .val (.int (1 : Int32)), .val (.ref v3), .val (.ref b4), .val (.int (0 : Int32)), .unset, .unset, .unset, .unset] [])) _
    refine XS.iconst X6.here hx rfl (hb hby at_82) ?_
    show Steps p.tables e below (T6.setTop (mkF m 83 #[.val (.int p1), .val (.int p2), .val (.int (0 : Int32)), .val (.int (1 : Int32)), .val (.ref v3), .val (.ref b4), .val (.int (0 : Int32)), .unset, .unset, .unset, .unset] [(.int (1 : Int32))])) _
    refine XS.goto X6.here hx rfl (pc0 := 83) (pc' := 87) rfl (hb hby at_83) (by decide) (by decide) ?_
    show Steps p.tables e below (T6.setTop (mkF m 87 #[.val (.int p1), .val (.int p2), .val (.int (0 : Int32)), .val (.int (1 : Int32)), .val (.ref v3), .val (.ref b4), .val (.int (0 : Int32)), .unset, .unset, .unset, .unset] [(.int (1 : Int32))])) _
    refine XS.istore X6.here hx rfl (hb hby at_87) rfl (l' := #[.val (.int p1), .val (.int p2), .val (.int (0 : Int32)), .val (.int (1 : Int32)), .val (.ref v3), .val (.ref b4), .val (.int (0 : Int32)), .val (.int (1 : Int32)), .unset, .unset, .unset]) rfl ?_
    show Steps p.tables e below (T6.setTop (mkF m 89 #[.val (.int p1), .val (.int p2), .val (.int (0 : Int32)), .val (.int (1 : Int32)), .val (.ref v3), .val (.ref b4), .val (.int (0 : Int32)), .val (.int (1 : Int32)), .unset, .unset, .unset] [])) _
    refine st7 _ ?_
    show Steps p.tables e below (T7.setTop (mkF m 92 #[.val (.int p1), .val (.int p2), .val (.int (0 : Int32)), .val (.int (1 : Int32)), .val (.ref v3), .val (.ref b4), .val (.int (0 : Int32)), .val (.int (1 : Int32)), .unset, .unset, .unset] [(.ref bn)])) _
    refine XS.astore X7.here hx rfl (hb hby at_92) rfl rfl (l' := #[.val (.int p1), .val (.int p2), .val (.int (0 : Int32)), .val (.int (1 : Int32)), .val (.ref v3), .val (.ref b4), .val (.int (0 : Int32)), .val (.int (1 : Int32)), .val (.ref bn), .unset, .unset]) rfl ?_
    show Steps p.tables e below (T7.setTop (mkF m 94 #[.val (.int p1), .val (.int p2), .val (.int (0 : Int32)), .val (.int (1 : Int32)), .val (.ref v3), .val (.ref b4), .val (.int (0 : Int32)), .val (.int (1 : Int32)), .val (.ref bn), .unset, .unset] [])) _
    refine st8 _ ?_
    show Steps p.tables e below (T8.setTop (mkF m 97 #[.val (.int p1), .val (.int p2), .val (.int (0 : Int32)), .val (.int (1 : Int32)), .val (.ref v3), .val (.ref b4), .val (.int (0 : Int32)), .val (.int (1 : Int32)), .val (.ref bn), .unset, .unset] [(.ref bu)])) _
    refine XS.astore X8.here hx rfl (hb hby at_97) rfl rfl (l' := #[.val (.int p1), .val (.int p2), .val (.int (0 : Int32)), .val (.int (1 : Int32)), .val (.ref v3), .val (.ref b4), .val (.int (0 : Int32)), .val (.int (1 : Int32)), .val (.ref bn), .val (.ref bu), .unset]) rfl ?_
    show Steps p.tables e below (T8.setTop (mkF m 99 #[.val (.int p1), .val (.int p2), .val (.int (0 : Int32)), .val (.int (1 : Int32)), .val (.ref v3), .val (.ref b4), .val (.int (0 : Int32)), .val (.int (1 : Int32)), .val (.ref bn), .val (.ref bu), .unset] [])) _
    refine XS.iloadN X8.here hx rfl (hb hby at_99) rfl ?_
    show Steps p.tables e below (T8.setTop (mkF m 100 #[.val (.int p1), .val (.int p2), .val (.int (0 : Int32)), .val (.int (1 : Int32)), .val (.ref v3), .val (.ref b4), .val (.int (0 : Int32)), .val (.int (1 : Int32)), .val (.ref bn), .val (.ref bu), .unset] [(.int p1)])) _
    refine st9 _ ?_
    show Steps p.tables e below (T9.setTop (mkF m 103 #[.val (.int p1), .val (.int p2), .val (.int (0 : Int32)), .val (.int (1 : Int32)), .val (.ref v3), .val (.ref b4), .val (.int (0 : Int32)), .val (.int (1 : Int32)), .val (.ref bn), .val (.ref bu), .unset] [(.ref bx)])) _
    refine st10 _ ?_
    show Steps p.tables e below (T10.setTop (mkF m 106 #[.val (.int p1), .val (.int p2), .val (.int (0 : Int32)), .val (.int (1 : Int32)), .val (.ref v3), .val (.ref b4), .val (.int (0 : Int32)), .val (.int (1 : Int32)), .val (.ref bn), .val (.ref bu), .unset] [(.ref bc)])) _
    refine XS.astore X10.here hx rfl (hb hby at_106) rfl rfl (l' := #[.val (.int p1), .val (.int p2), .val (.int (0 : Int32)), .val (.int (1 : Int32)), .val (.ref v3), .val (.ref b4), .val (.int (0 : Int32)), .val (.int (1 : Int32)), .val (.ref bn), .val (.ref bu), .val (.ref bc)]) rfl ?_
    show Steps p.tables e below (T10.setTop (mkF m 108 #[.val (.int p1), .val (.int p2), .val (.int (0 : Int32)), .val (.int (1 : Int32)), .val (.ref v3), .val (.ref b4), .val (.int (0 : Int32)), .val (.int (1 : Int32)), .val (.ref bn), .val (.ref bu), .val (.ref bc)] [])) _
    refine XS.iload X10.here hx rfl (hb hby at_108) rfl ?_
    show Steps p.tables e below (T10.setTop (mkF m 110 #[.val (.int p1), .val (.int p2), .val (.int (0 : Int32)), .val (.int (1 : Int32)), .val (.ref v3), .val (.ref b4), .val (.int (0 : Int32)), .val (.int (1 : Int32)), .val (.ref bn), .val (.ref bu), .val (.ref bc)] [(.int (1 : Int32))])) _
    refine XS.ifNo X10.here hx rfl (hb hby at_110) rfl ((if0 _ _).trans (feq (by decide)).1) ?_
    show Steps p.tables e below (T10.setTop (mkF m 113 #[.val (.int p1), .val (.int p2), .val (.int (0 : Int32)), .val (.int (1 : Int32)), .val (.ref v3), .val (.ref b4), .val (.int (0 : Int32)), .val (.int (1 : Int32)), .val (.ref bn), .val (.ref bu), .val (.ref bc)] [])) _
    refine XS.aload X10.here hx rfl (hb hby at_113) rfl rfl ?_
    show Steps p.tables e below (T10.setTop (mkF m 115 #[.val (.int p1), .val (.int p2), .val (.int (0 : Int32)), .val (.int (1 : Int32)), .val (.ref v3), .val (.ref b4), .val (.int (0 : Int32)), .val (.int (1 : Int32)), .val (.ref bn), .val (.ref bu), .val (.ref bc)] [(.ref bn)])) _
    refine st11.trans ?_
    show Steps p.tables e below (T11.setTop (mkF m 118 #[.val (.int p1), .val (.int p2), .val (.int (0 : Int32)), .val (.int (1 : Int32)), .val (.ref v3), .val (.ref b4), .val (.int (0 : Int32)), .val (.int (1 : Int32)), .val (.ref bn), .val (.ref bu), .val (.ref bc)] [(.int (1 : Int32))])) _
    refine XS.ifNo X11.here hx rfl (hb hby at_118) rfl ((if0 _ _).trans (feq (by decide : ¬ ((1 : Int32) = (0 : Int32)))).1) ?_
    show Steps p.tables e below (T11.setTop (mkF m 121 #[.val (.int p1), .val (.int p2), .val (.int (0 : Int32)), .val (.int (1 : Int32)), .val (.ref v3), .val (.ref b4), .val (.int (0 : Int32)), .val (.int (1 : Int32)), .val (.ref bn), .val (.ref bu), .val (.ref bc)] [])) _
    refine XS.aload X11.here hx rfl (hb hby at_121) rfl rfl ?_
    show Steps p.tables e below (T11.setTop (mkF m 123 #[.val (.int p1), .val (.int p2), .val (.int (0 : Int32)), .val (.int (1 : Int32)), .val (.ref v3), .val (.ref b4), .val (.int (0 : Int32)), .val (.int (1 : Int32)), .val (.ref bn), .val (.ref bu), .val (.ref bc)] [(.ref bu)])) _
    refine st12.trans ?_
    show Steps p.tables e below (T12.setTop (mkF m 126 #[.val (.int p1), .val (.int p2), .val (.int (0 : Int32)), .val (.int (1 : Int32)), .val (.ref v3), .val (.ref b4), .val (.int (0 : Int32)), .val (.int (1 : Int32)), .val (.ref bn), .val (.ref bu), .val (.ref bc)] [(.int (0 : Int32))])) _
    refine XS.ifNo X12.here hx rfl (hb hby at_126) rfl ((if0 _ _).trans (teq (by decide : (0 : Int32) = (0 : Int32))).2) ?_
    show Steps p.tables e below (T12.setTop (mkF m 129 #[.val (.int p1), .val (.int p2), .val (.int (0 : Int32)), .val (.int (1 : Int32)), .val (.ref v3), .val (.ref b4), .val (.int (0 : Int32)), .val (.int (1 : Int32)), .val (.ref bn), .val (.ref bu), .val (.ref bc)] [])) _
    refine XS.aload X12.here hx rfl (hb hby at_129) rfl rfl ?_
    show Steps p.tables e below (T12.setTop (mkF m 131 #[.val (.int p1), .val (.int p2), .val (.int (0 : Int32)), .val (.int (1 : Int32)), .val (.ref v3), .val (.ref b4), .val (.int (0 : Int32)), .val (.int (1 : Int32)), .val (.ref bn), .val (.ref bu), .val (.ref bc)] [(.ref bc)])) _
    refine st13.trans ?_
    show Steps p.tables e below (T13.setTop (mkF m 134 #[.val (.int p1), .val (.int p2), .val (.int (0 : Int32)), .val (.int (1 : Int32)), .val (.ref v3), .val (.ref b4), .val (.int (0 : Int32)), .val (.int (1 : Int32)), .val (.ref bn), .val (.ref bu), .val (.ref bc)] [(.int (0 : Int32))])) _
    refine XS.ifNo X13.here hx rfl (hb hby at_134) rfl ((if0 _ _).trans (teq (by decide : (0 : Int32) = (0 : Int32))).2) ?_
    show Steps p.tables e below (T13.setTop (mkF m 137 #[.val (.int p1), .val (.int p2), .val (.int (0 : Int32)), .val (.int (1 : Int32)), .val (.ref v3), .val (.ref b4), .val (.int (0 : Int32)), .val (.int (1 : Int32)), .val (.ref bn), .val (.ref bu), .val (.ref bc)] [])) _
    refine XS.iconst X13.here hx rfl (hb hby at_137) ?_
    show Steps p.tables e below (T13.setTop (mkF m 138 #[.val (.int p1), .val (.int p2), .val (.int (0 : Int32)), .val (.int (1 : Int32)), .val (.ref v3), .val (.ref b4), .val (.int (0 : Int32)), .val (.int (1 : Int32)), .val (.ref bn), .val (.ref bu), .val (.ref bc)] [(.int (1 : Int32))])) _
    refine XS.goto X13.here hx rfl (pc0 := 138) (pc' := 142) rfl (hb hby at_138) (by decide) (by decide) ?_
    show Steps p.tables e below (T13.setTop (mkF m 142 #[.val (.int p1), .val (.int p2), .val (.int (0 : Int32)), .val (.int (1 : Int32)), .val (.ref v3), .val (.ref b4), .val (.int (0 : Int32)), .val (.int (1 : Int32)), .val (.ref bn), .val (.ref bu), .val (.ref bc)] [(.int (1 : Int32))])) _
    exact retN X13 hx (t := .boolean) Bd.returns (by simp) (hb hby at_142) hr
  · show Q001 Z p1 p2 _ n0 _ T13.heap _
    exact ⟨rfl, N13⟩
theorem pn_000 : plainName "com/example/anemone/anemone/model/RecoveredIsNonePinLaw" = true := by first | (simp [plainName, overriddenIn]; done) | decide +kernel
theorem pd_0_100 : parseMethodDescriptor "(Ljava/lang/Object;Z)V" = some ⟨[(.object "java/lang/Object"), .boolean], none⟩ := by decide +kernel
theorem pd_0_300 : parseMethodDescriptor "()Z" = some ⟨[], some .boolean⟩ := by decide +kernel
theorem pd_0_400 : parseMethodDescriptor "()Lcom/example/anemone/anemone/model/Recovered;" = some ⟨[], some (.object "com/example/anemone/anemone/model/Recovered")⟩ := by decide +kernel
theorem pd_0_000 : parseMethodDescriptor "(I)Ljava/lang/Integer;" = some ⟨[.int], some (.object "java/lang/Integer")⟩ := by decide +kernel
theorem pd_0_500 : parseMethodDescriptor "(Ljava/lang/Object;)Lcom/example/anemone/anemone/model/Recovered;" = some ⟨[(.object "java/lang/Object")], some (.object "com/example/anemone/anemone/model/Recovered")⟩ := by decide +kernel
theorem ef_000 (m : MethodId) (x0 : Int32) (x1 : Int32) : entryFrame m #[(.int x0), (.int x1)] maxLocals = mkF m 0 #[.val (.int x0), .val (.int x1), .unset, .unset, .unset, .unset, .unset, .unset, .unset, .unset, .unset] [] := by first | (simp [entryFrame, mkF, argsToLocals, Value.category, maxLocals]; done) | rfl
def Q000 (Z : State) (p1 : Int32) (p2 : Int32) (h0 : Heap) (n0 : Nat) (v : Option Value) (h : Heap) (L : List Loc) : Prop := v = some (.int (1 : Int32)) ∧ Fr n0 L
set_option maxRecDepth 65536 in
set_option maxHeartbeats 40000000 in
theorem rm000 (l : Launch) (Z : State) (a0 : Array Value) (hw : ∀ d ∈ tables_1, d.before a0 Z = true) (ws : List Jvm.Cond) (p1 : Int32) (p2 : Int32) (h0 : Heap) (n0 : Nat) (Z0 : n0 ≤ h0.size) (hc3 : (p2 &&& (1 : Int32)) = (0 : Int32)) (hc15 : (p2 &&& (2 : Int32)) = (0 : Int32)) (O0 : Old Z n0 h0) (cf : Cf Z p1) :
    MetFree l x (head1 (Jvm.Cond.code x code maxLocals ret :: ws) room_1) (fun a U => a = #[(.int p1), (.int p2)] ∧ Z.Warmed39 U.vm ∧ U.heap = h0) (fun _ _ _ _ _ => True) (fun _ U o U' => ∃ v L, o = .returned v ∧ Q000 Z p1 p2 h0 n0 v U'.heap L ∧ FrameEnd U o U' L room_1.cells room_1.slots) := by
  refine MetFree.of_bodySF (plainFor_of_name pn_000) hisR ?_
  intro p e s m args below meth c s₁ Bd hml0 hP hK
  obtain ⟨rfl, hZ, hh⟩ := hP
  have hx := Bd.exec
  have hby := Bd.bytes
  have hml : c.maxLocals = 11 := hml0
  have hown : s.vm.findClass "com/example/anemone/anemone/model/RecoveredIsNonePinLaw" = some m.cls := findClass_of_methodNamed Bd.named
  have hnm := (name_of_methodNamed Bd.named Bd.method).1
  have X0 : Stand p l e room_1 s m #[(.int p1), (.int p2)] below meth c s₁ [] 0 0 := Stand.of_body Bd
  have e0 : s₁.heap = h0 := by rw [← hh, Bd.state]; rfl
  have N0 := Fr.nil n0
  have pre0 : ∀ t, Steps p.tables e below (s₁.setTop (mkF m 0 #[.val (.int p1), .val (.int p2), .unset, .unset, .unset, .unset, .unset, .unset, .unset, .unset, .unset] [])) t → Steps p.tables e below (s₁.setTop (entryFrame m #[(.int p1), (.int p2)] maxLocals)) t := fun t k => castTop (ef_000 m p1 p2) k
  obtain ⟨T3, h3, X3, e3, E3, A3, D3, -, st3⟩ := newO X0 hx hZ hown (hw _ (List.mem_of_getElem? (i := 7) rfl)) (hw _ (List.mem_of_getElem? (i := 8) rfl)) (hw _ (List.mem_of_getElem? (i := 9) rfl)) e0 (g := (mkF m 37 #[.val (.int p1), .val (.int p2), .val (.int (0 : Int32)), .val (.int (0 : Int32)), .val .null, .unset, .unset, .unset, .unset, .unset, .unset] [])) rfl (hb hby at_37) (by decide) (by decide)
  obtain ⟨b3, g3⟩ : ∃ z, z = h0.size := ⟨_, rfl⟩
  rw [← g3] at A3 D3 st3
  have F_value_b3 : Fld Z h3 b3 "com/example/anemone/anemone/model/Recovered" "value" "Ljava/lang/Object;" .null := D3 (Or.inr (hw _ (List.mem_of_getElem? (i := 22) rfl))) (ty := (.object "java/lang/Object")) (by decide)
  have F_known_b3 : Fld Z h3 b3 "com/example/anemone/anemone/model/Recovered" "known" "Z" (.int (0 : Int32)) := D3 (Or.inr (hw _ (List.mem_of_getElem? (i := 24) rfl))) (ty := .boolean) (by decide)
  have E_b3 := A3
  have g_b3 : n0 ≤ b3 := Nat.le_trans Z0 (Nat.le_of_eq g3.symm)
  have sz_b3 : h0.size ≤ b3 := (Nat.le_trans (Keep.refl h0 []).1 (Nat.le_of_eq g3.symm))
  have K3 : Keep h0 h3 [] := (Keep.refl h0 []).ext E3
  obtain ⟨_, _, ⟨T4, L4, k4, n4⟩, -, X4, ⟨Lc4, hQ4, l4, y4, z4⟩, st4⟩ := X3.specialBack hx (y := (⟨"com/example/anemone/anemone/model/Recovered", "<init>", "(Ljava/lang/Object;Z)V"⟩ : MethodName)) rfl hown (mvT hZ (hw _ (List.mem_of_getElem? (i := 10) rfl))) (mvT hZ (hw _ (List.mem_of_getElem? (i := 11) rfl))) (mvT hZ (hw _ (List.mem_of_getElem? (i := 12) rfl))) (by decide) (backOf (W := 1) (rm2n0 l Z a0 hw [] b3 _ _ h3 n0 (Nat.le_trans g_b3 (Nat.le_of_lt E_b3.lt)) E_b3 F_value_b3 g_b3 F_known_b3) hZ (hw _ (List.mem_of_getElem? (i := 12) rfl)) (hw _ (List.mem_of_getElem? (i := 9) rfl)) (by decide) (by decide)) (g := (mkF m 44 #[.val (.int p1), .val (.int p2), .val (.int (0 : Int32)), .val (.int (0 : Int32)), .val .null, .unset, .unset, .unset, .unset, .unset, .unset] [(.int (0 : Int32)), .null, (.ref b3), (.ref b3)])) rfl (by rw [hml]; rfl) (Steps.refl _) (a := b3) (argsL := [.null, (.int (0 : Int32))]) (rest := [(.ref b3)]) (lenOf pd_0_100 rfl) rfl (by show 2 * 0 + _ ≤ _; exact Nat.le_of_eq rfl) (hb hby at_44) (fun _ _ => ⟨rfl, e3, (Nat.le_of_ble_eq_true rfl), (Nat.le_of_ble_eq_true rfl)⟩)
  dsimp only [Pt.U, Pt.locs, Pt.cells, Pt.slots] at X4 l4 y4 z4 st4 hQ4
  subst l4 y4 z4
  obtain ⟨rfl, N4q, KI, RI⟩ := hQ4
  have N4 := Fr.app N0 N4q
  have O2 := (O0.ext E3).keep KI (allS g_b3 all0)
  obtain ⟨cq5, kq5, q5a, q5b, q5c⟩ := isOf hZ rfl RI.1
  obtain ⟨_, _, ⟨T5, L5, k5, n5⟩, -, X5, ⟨Lc5, hQ5, l5, y5, z5⟩, st5⟩ := X4.virtualBack hx (y := (⟨"com/example/anemone/anemone/model/Recovered", "isNone", "()Z"⟩ : MethodName)) (z := (⟨"com/example/anemone/anemone/model/Recovered", "isNone", "()Z"⟩ : MethodName)) hown (mvT hZ (hw _ (List.mem_of_getElem? (i := 25) rfl))) (mvT hZ (hw _ (List.mem_of_getElem? (i := 26) rfl))) (notFace_of_selects (args := #[]) (mvT hZ (hw _ (List.mem_of_getElem? (i := 28) rfl)))) (mvT hZ (hw _ (List.mem_of_getElem? (i := 28) rfl))) (mvT hZ (hw _ (List.mem_of_getElem? (i := 27) rfl))) (by decide) (backOf (W := 0) (rm5u l Z a0 hw [] b3 _ _ n0 (Nat.le_trans g_b3 (Nat.le_of_lt RI.1.lt)) RI.2.2 rfl) hZ (hw _ (List.mem_of_getElem? (i := 29) rfl)) (hw _ (List.mem_of_getElem? (i := 9) rfl)) (by decide) (by decide)) q5a q5c (g := (mkF m 74 #[.val (.int p1), .val (.int p2), .val (.int (0 : Int32)), .val (.int (0 : Int32)), .val .null, .val (.ref b3), .val (.int (0 : Int32)), .unset, .unset, .unset, .unset] [(.ref b3)])) rfl (by rw [hml]; rfl) (Steps.refl _) (argsL := []) (rest := []) (lenOf pd_0_300 rfl) rfl (by show 2 * 0 + _ ≤ _; exact Nat.le_of_eq rfl) (hb hby at_74) (fun _ _ => ⟨rfl, rfl, (Nat.le_of_ble_eq_true rfl), (Nat.le_of_ble_eq_true rfl)⟩)
  dsimp only [Pt.U, Pt.locs, Pt.cells, Pt.slots] at X5 l5 y5 z5 st5 hQ5
  subst l5 y5 z5
  obtain ⟨rfl, N5q, HQ⟩ := hQ5
  have N5 := Fr.app N4 N5q
  rw [← HQ] at O2
  obtain ⟨_, _, ⟨T6, L6, k6, n6⟩, -, X6, ⟨Lc6, hQ6, l6, y6, z6⟩, st6⟩ := Jvm.LawKit.callS X5 hx (y := (⟨"com/example/anemone/anemone/model/Recovered", "none", "()Lcom/example/anemone/anemone/model/Recovered;"⟩ : MethodName)) hown (mvT hZ (hw _ (List.mem_of_getElem? (i := 30) rfl))) (mvT hZ (hw _ (List.mem_of_getElem? (i := 31) rfl))) (mvT hZ (hw _ (List.mem_of_getElem? (i := 9) rfl))) (mvT hZ (hw _ (List.mem_of_getElem? (i := 32) rfl))) (by decide) (backOf (W := 0) (rm6 l Z a0 hw [] _ n0 (Nat.le_trans (Nat.le_of_eq O2.1.symm) O2.2.1)) hZ (hw _ (List.mem_of_getElem? (i := 32) rfl)) (hw _ (List.mem_of_getElem? (i := 9) rfl)) (by decide) (by decide)) (g := (mkF m 89 #[.val (.int p1), .val (.int p2), .val (.int (0 : Int32)), .val (.int (0 : Int32)), .val .null, .val (.ref b3), .val (.int (0 : Int32)), .val (.int (1 : Int32)), .unset, .unset, .unset] [])) rfl (by rw [hml]; rfl) (argsL := []) (rest := []) (lenOf pd_0_400 rfl) rfl (by show 2 * 0 + _ ≤ _; exact Nat.le_of_eq rfl) (hb hby at_89) (fun _ _ => ⟨rfl, rfl, (Nat.le_of_ble_eq_true rfl), (Nat.le_of_ble_eq_true rfl)⟩)
  dsimp only [Pt.U, Pt.locs, Pt.cells, Pt.slots] at X6 l6 y6 z6 st6 hQ6
  subst l6 y6 z6
  obtain ⟨bn, rfl, N6q, KN, RN⟩ := hQ6
  have N6 := Fr.app N5 N6q
  have O3 := O2.keep KN all0
  obtain ⟨_, _, ⟨T7, L7, k7, n7⟩, -, X7, ⟨Lc7, hQ7, l7, y7, z7⟩, st7⟩ := Jvm.LawKit.callS X6 hx (y := (⟨"com/example/anemone/anemone/model/Recovered", "unknown", "()Lcom/example/anemone/anemone/model/Recovered;"⟩ : MethodName)) hown (mvT hZ (hw _ (List.mem_of_getElem? (i := 35) rfl))) (mvT hZ (hw _ (List.mem_of_getElem? (i := 36) rfl))) (mvT hZ (hw _ (List.mem_of_getElem? (i := 9) rfl))) (mvT hZ (hw _ (List.mem_of_getElem? (i := 37) rfl))) (by decide) (backOf (W := 0) (rm7 l Z a0 hw [] _ n0 (Nat.le_trans (Nat.le_of_eq O3.1.symm) O3.2.1)) hZ (hw _ (List.mem_of_getElem? (i := 37) rfl)) (hw _ (List.mem_of_getElem? (i := 9) rfl)) (by decide) (by decide)) (g := (mkF m 94 #[.val (.int p1), .val (.int p2), .val (.int (0 : Int32)), .val (.int (0 : Int32)), .val .null, .val (.ref b3), .val (.int (0 : Int32)), .val (.int (1 : Int32)), .val (.ref bn), .unset, .unset] [])) rfl (by rw [hml]; rfl) (argsL := []) (rest := []) (lenOf pd_0_400 rfl) rfl (by show 2 * 0 + _ ≤ _; exact Nat.le_of_eq rfl) (hb hby at_94) (fun _ _ => ⟨rfl, rfl, (Nat.le_of_ble_eq_true rfl), (Nat.le_of_ble_eq_true rfl)⟩)
  dsimp only [Pt.U, Pt.locs, Pt.cells, Pt.slots] at X7 l7 y7 z7 st7 hQ7
  subst l7 y7 z7
  obtain ⟨bu, rfl, N7q, KU, RU⟩ := hQ7
  have N7 := Fr.app N6 N7q
  have O4 := O3.keep KU all0
  obtain ⟨_, _, ⟨T8, L8, k8, n8⟩, -, X8, ⟨Lc8, hQ8, l8, y8, z8⟩, st8⟩ := Jvm.LawKit.callS X7 hx (y := (⟨"java/lang/Integer", "valueOf", "(I)Ljava/lang/Integer;"⟩ : MethodName)) hown (mvT hZ (hw _ (List.mem_of_getElem? (i := 0) rfl))) (mvT hZ (hw _ (List.mem_of_getElem? (i := 1) rfl))) (mvT hZ (hw _ (List.mem_of_getElem? (i := 2) rfl))) (mvT hZ (hw _ (List.mem_of_getElem? (i := 3) rfl))) (by decide) (backOf (W := 0) (rm1 l Z a0 hw [] p1 _ n0 (Nat.le_trans (Nat.le_of_eq O4.1.symm) O4.2.1) O4 cf) hZ (hw _ (List.mem_of_getElem? (i := 3) rfl)) (hw _ (List.mem_of_getElem? (i := 2) rfl)) (by decide) (by decide)) (g := (mkF m 100 #[.val (.int p1), .val (.int p2), .val (.int (0 : Int32)), .val (.int (0 : Int32)), .val .null, .val (.ref b3), .val (.int (0 : Int32)), .val (.int (1 : Int32)), .val (.ref bn), .val (.ref bu), .unset] [(.int p1)])) rfl (by rw [hml]; rfl) (argsL := [(.int p1)]) (rest := []) (lenOf pd_0_000 rfl) rfl (by show 2 * 0 + _ ≤ _; exact Nat.le_of_eq rfl) (hb hby at_100) (fun _ _ => ⟨rfl, rfl, (Nat.le_of_ble_eq_true rfl), (Nat.le_of_ble_eq_true rfl)⟩)
  dsimp only [Pt.U, Pt.locs, Pt.cells, Pt.slots] at X8 l8 y8 z8 st8 hQ8
  subst l8 y8 z8
  obtain ⟨bx, rfl, N8q, KX⟩ := hQ8
  have N8 := Fr.app N7 N8q
  have O5 := O4.keep KX all0
  obtain ⟨_, _, ⟨T9, L9, k9, n9⟩, -, X9, ⟨Lc9, hQ9, l9, y9, z9⟩, st9⟩ := Jvm.LawKit.callS X8 hx (y := (⟨"com/example/anemone/anemone/model/Recovered", "of", "(Ljava/lang/Object;)Lcom/example/anemone/anemone/model/Recovered;"⟩ : MethodName)) hown (mvT hZ (hw _ (List.mem_of_getElem? (i := 38) rfl))) (mvT hZ (hw _ (List.mem_of_getElem? (i := 39) rfl))) (mvT hZ (hw _ (List.mem_of_getElem? (i := 9) rfl))) (mvT hZ (hw _ (List.mem_of_getElem? (i := 40) rfl))) (by decide) (backOf (W := 0) (rm8 l Z a0 hw [] bx _ n0 (Nat.le_trans (Nat.le_of_eq O5.1.symm) O5.2.1)) hZ (hw _ (List.mem_of_getElem? (i := 40) rfl)) (hw _ (List.mem_of_getElem? (i := 9) rfl)) (by decide) (by decide)) (g := (mkF m 103 #[.val (.int p1), .val (.int p2), .val (.int (0 : Int32)), .val (.int (0 : Int32)), .val .null, .val (.ref b3), .val (.int (0 : Int32)), .val (.int (1 : Int32)), .val (.ref bn), .val (.ref bu), .unset] [(.ref bx)])) rfl (by rw [hml]; rfl) (argsL := [(.ref bx)]) (rest := []) (lenOf pd_0_500 rfl) rfl (by show 2 * 0 + _ ≤ _; exact Nat.le_of_eq rfl) (hb hby at_103) (fun _ _ => ⟨rfl, rfl, (Nat.le_of_ble_eq_true rfl), (Nat.le_of_ble_eq_true rfl)⟩)
  dsimp only [Pt.U, Pt.locs, Pt.cells, Pt.slots] at X9 l9 y9 z9 st9 hQ9
  subst l9 y9 z9
  obtain ⟨bc, rfl, N9q, KC, RC⟩ := hQ9
  have N9 := Fr.app N8 N9q
  have O6 := O5.keep KC all0
  have RN6 := ((RN.keep KU).keep KX).keep KC
  have RU6 := (RU.keep KX).keep KC
  obtain ⟨cq10, kq10, q10a, q10b, q10c⟩ := isOf hZ rfl RN6.1
  obtain ⟨_, _, ⟨T10, L10, k10, n10⟩, -, X10, ⟨Lc10, hQ10, l10, y10, z10⟩, st10⟩ := X9.virtualBack hx (y := (⟨"com/example/anemone/anemone/model/Recovered", "isNone", "()Z"⟩ : MethodName)) (z := (⟨"com/example/anemone/anemone/model/Recovered", "isNone", "()Z"⟩ : MethodName)) hown (mvT hZ (hw _ (List.mem_of_getElem? (i := 25) rfl))) (mvT hZ (hw _ (List.mem_of_getElem? (i := 26) rfl))) (notFace_of_selects (args := #[]) (mvT hZ (hw _ (List.mem_of_getElem? (i := 28) rfl)))) (mvT hZ (hw _ (List.mem_of_getElem? (i := 28) rfl))) (mvT hZ (hw _ (List.mem_of_getElem? (i := 27) rfl))) (by decide) (backOf (W := 0) (rm5n l Z a0 hw [] bn _ _ n0 (Nat.le_trans (Nat.le_of_eq O6.1.symm) O6.2.1) RN6.2.2 RN6.2.1 (by decide)) hZ (hw _ (List.mem_of_getElem? (i := 29) rfl)) (hw _ (List.mem_of_getElem? (i := 9) rfl)) (by decide) (by decide)) q10a q10c (g := (mkF m 115 #[.val (.int p1), .val (.int p2), .val (.int (0 : Int32)), .val (.int (0 : Int32)), .val .null, .val (.ref b3), .val (.int (0 : Int32)), .val (.int (1 : Int32)), .val (.ref bn), .val (.ref bu), .val (.ref bc)] [(.ref bn)])) rfl (by rw [hml]; rfl) (Steps.refl _) (argsL := []) (rest := []) (lenOf pd_0_300 rfl) rfl (by show 2 * 0 + _ ≤ _; exact Nat.le_of_eq rfl) (hb hby at_115) (fun _ _ => ⟨rfl, rfl, (Nat.le_of_ble_eq_true rfl), (Nat.le_of_ble_eq_true rfl)⟩)
  dsimp only [Pt.U, Pt.locs, Pt.cells, Pt.slots] at X10 l10 y10 z10 st10 hQ10
  subst l10 y10 z10
  obtain ⟨rfl, N10q, HQ1⟩ := hQ10
  have N10 := Fr.app N9 N10q
  obtain ⟨cq11, kq11, q11a, q11b, q11c⟩ := isOf hZ HQ1 RU6.1
  obtain ⟨_, _, ⟨T11, L11, k11, n11⟩, -, X11, ⟨Lc11, hQ11, l11, y11, z11⟩, st11⟩ := X10.virtualBack hx (y := (⟨"com/example/anemone/anemone/model/Recovered", "isNone", "()Z"⟩ : MethodName)) (z := (⟨"com/example/anemone/anemone/model/Recovered", "isNone", "()Z"⟩ : MethodName)) hown (mvT hZ (hw _ (List.mem_of_getElem? (i := 25) rfl))) (mvT hZ (hw _ (List.mem_of_getElem? (i := 26) rfl))) (notFace_of_selects (args := #[]) (mvT hZ (hw _ (List.mem_of_getElem? (i := 28) rfl)))) (mvT hZ (hw _ (List.mem_of_getElem? (i := 28) rfl))) (mvT hZ (hw _ (List.mem_of_getElem? (i := 27) rfl))) (by decide) (backOf (W := 0) (rm5u l Z a0 hw [] bu _ _ n0 (Nat.le_trans (Nat.le_of_eq O6.1.symm) O6.2.1) RU6.2.2 rfl) hZ (hw _ (List.mem_of_getElem? (i := 29) rfl)) (hw _ (List.mem_of_getElem? (i := 9) rfl)) (by decide) (by decide)) q11a q11c (g := (mkF m 123 #[.val (.int p1), .val (.int p2), .val (.int (0 : Int32)), .val (.int (0 : Int32)), .val .null, .val (.ref b3), .val (.int (0 : Int32)), .val (.int (1 : Int32)), .val (.ref bn), .val (.ref bu), .val (.ref bc)] [(.ref bu)])) rfl (by rw [hml]; rfl) (Steps.refl _) (argsL := []) (rest := []) (lenOf pd_0_300 rfl) rfl (by show 2 * 0 + _ ≤ _; exact Nat.le_of_eq rfl) (hb hby at_123) (fun _ _ => ⟨rfl, HQ1, (Nat.le_of_ble_eq_true rfl), (Nat.le_of_ble_eq_true rfl)⟩)
  dsimp only [Pt.U, Pt.locs, Pt.cells, Pt.slots] at X11 l11 y11 z11 st11 hQ11
  subst l11 y11 z11
  obtain ⟨rfl, N11q, HQ2⟩ := hQ11
  have N11 := Fr.app N10 N11q
  obtain ⟨cq12, kq12, q12a, q12b, q12c⟩ := isOf hZ HQ2 RC.1
  obtain ⟨_, _, ⟨T12, L12, k12, n12⟩, -, X12, ⟨Lc12, hQ12, l12, y12, z12⟩, st12⟩ := X11.virtualBack hx (y := (⟨"com/example/anemone/anemone/model/Recovered", "isNone", "()Z"⟩ : MethodName)) (z := (⟨"com/example/anemone/anemone/model/Recovered", "isNone", "()Z"⟩ : MethodName)) hown (mvT hZ (hw _ (List.mem_of_getElem? (i := 25) rfl))) (mvT hZ (hw _ (List.mem_of_getElem? (i := 26) rfl))) (notFace_of_selects (args := #[]) (mvT hZ (hw _ (List.mem_of_getElem? (i := 28) rfl)))) (mvT hZ (hw _ (List.mem_of_getElem? (i := 28) rfl))) (mvT hZ (hw _ (List.mem_of_getElem? (i := 27) rfl))) (by decide) (backOf (W := 0) (rm5v l Z a0 hw [] bc _ _ _ n0 (Nat.le_trans (Nat.le_of_eq O6.1.symm) O6.2.1) RC.2.2 RC.2.1 (by decide)) hZ (hw _ (List.mem_of_getElem? (i := 29) rfl)) (hw _ (List.mem_of_getElem? (i := 9) rfl)) (by decide) (by decide)) q12a q12c (g := (mkF m 131 #[.val (.int p1), .val (.int p2), .val (.int (0 : Int32)), .val (.int (0 : Int32)), .val .null, .val (.ref b3), .val (.int (0 : Int32)), .val (.int (1 : Int32)), .val (.ref bn), .val (.ref bu), .val (.ref bc)] [(.ref bc)])) rfl (by rw [hml]; rfl) (Steps.refl _) (argsL := []) (rest := []) (lenOf pd_0_300 rfl) rfl (by show 2 * 0 + _ ≤ _; exact Nat.le_of_eq rfl) (hb hby at_131) (fun _ _ => ⟨rfl, HQ2, (Nat.le_of_ble_eq_true rfl), (Nat.le_of_ble_eq_true rfl)⟩)
  dsimp only [Pt.U, Pt.locs, Pt.cells, Pt.slots] at X12 l12 y12 z12 st12 hQ12
  subst l12 y12 z12
  obtain ⟨rfl, N12q, -⟩ := hQ12
  have N12 := Fr.app N11 N12q
  obtain ⟨fs, hr, hrun, hended, hW, hsame⟩ := X12.leave (v := some (.int (1 : Int32))) (fun h => by rw [Bd.returns] at h; cases h)
  refine ⟨_, _, pre0 _ ?_, hrun, hended, _, _, rfl, ?_, ⟨_, rfl⟩, hW, hsame.mono (by decide) (by decide)⟩
  · show Steps p.tables e below (s₁.setTop (mkF m 0 #[.val (.int p1), .val (.int p2), .unset, .unset, .unset, .unset, .unset, .unset, .unset, .unset, .unset] [])) _
    refine XS.iloadN X0.here hx rfl (hb hby at_0) rfl ?_
    show Steps p.tables e below (s₁.setTop (mkF m 1 #[.val (.int p1), .val (.int p2), .unset, .unset, .unset, .unset, .unset, .unset, .unset, .unset, .unset] [(.int p2)])) _
    refine XS.iconst X0.here hx rfl (hb hby at_1) ?_
    show Steps p.tables e below (s₁.setTop (mkF m 2 #[.val (.int p1), .val (.int p2), .unset, .unset, .unset, .unset, .unset, .unset, .unset, .unset, .unset] [(.int (1 : Int32)), (.int p2)])) _
    refine XS.iand X0.here hx rfl (hb hby at_2) rfl ?_
    show Steps p.tables e below (s₁.setTop (mkF m 3 #[.val (.int p1), .val (.int p2), .unset, .unset, .unset, .unset, .unset, .unset, .unset, .unset, .unset] [(.int (p2 &&& (1 : Int32)))])) _
    refine XS.ifYes X0.here hx rfl (pc0 := 3) (pc' := 10) rfl (hb hby at_3) rfl ((if0 _ _).trans (teq hc3).1) (by decide) (by decide) ?_
    show Steps p.tables e below (s₁.setTop (mkF m 10 #[.val (.int p1), .val (.int p2), .unset, .unset, .unset, .unset, .unset, .unset, .unset, .unset, .unset] [])) _
    refine XS.iconst X0.here hx rfl (hb hby at_10) ?_
    show Steps p.tables e below (s₁.setTop (mkF m 11 #[.val (.int p1), .val (.int p2), .unset, .unset, .unset, .unset, .unset, .unset, .unset, .unset, .unset] [(.int (0 : Int32))])) _
    refine XS.istoreN X0.here hx rfl (hb hby at_11) rfl (l' := #[.val (.int p1), .val (.int p2), .val (.int (0 : Int32)), .unset, .unset, .unset, .unset, .unset, .unset, .unset, .unset]) rfl ?_
    show Steps p.tables e below (s₁.setTop (mkF m 12 #[.val (.int p1), .val (.int p2), .val (.int (0 : Int32)), .unset, .unset, .unset, .unset, .unset, .unset, .unset, .unset] [])) _
    refine XS.iloadN X0.here hx rfl (hb hby at_12) rfl ?_
    show Steps p.tables e below (s₁.setTop (mkF m 13 #[.val (.int p1), .val (.int p2), .val (.int (0 : Int32)), .unset, .unset, .unset, .unset, .unset, .unset, .unset, .unset] [(.int p2)])) _
    refine XS.iconst X0.here hx rfl (hb hby at_13) ?_
    show Steps p.tables e below (s₁.setTop (mkF m 14 #[.val (.int p1), .val (.int p2), .val (.int (0 : Int32)), .unset, .unset, .unset, .unset, .unset, .unset, .unset, .unset] [(.int (2 : Int32)), (.int p2)])) _
    refine XS.iand X0.here hx rfl (hb hby at_14) rfl ?_
    show Steps p.tables e below (s₁.setTop (mkF m 15 #[.val (.int p1), .val (.int p2), .val (.int (0 : Int32)), .unset, .unset, .unset, .unset, .unset, .unset, .unset, .unset] [(.int (p2 &&& (2 : Int32)))])) _
    refine XS.ifYes X0.here hx rfl (pc0 := 15) (pc' := 22) rfl (hb hby at_15) rfl ((if0 _ _).trans (teq hc15).1) (by decide) (by decide) ?_
    show Steps p.tables e below (s₁.setTop (mkF m 22 #[.val (.int p1), .val (.int p2), .val (.int (0 : Int32)), .unset, .unset, .unset, .unset, .unset, .unset, .unset, .unset] [])) _
    refine XS.iconst X0.here hx rfl (hb hby at_22) ?_
    show Steps p.tables e below (s₁.setTop (mkF m 23 #[.val (.int p1), .val (.int p2), .val (.int (0 : Int32)), .unset, .unset, .unset, .unset, .unset, .unset, .unset, .unset] [(.int (0 : Int32))])) _
    refine XS.istoreN X0.here hx rfl (hb hby at_23) rfl (l' := #[.val (.int p1), .val (.int p2), .val (.int (0 : Int32)), .val (.int (0 : Int32)), .unset, .unset, .unset, .unset, .unset, .unset, .unset]) rfl ?_
    show Steps p.tables e below (s₁.setTop (mkF m 24 #[.val (.int p1), .val (.int p2), .val (.int (0 : Int32)), .val (.int (0 : Int32)), .unset, .unset, .unset, .unset, .unset, .unset, .unset] [])) _
    refine XS.aconstNull X0.here hx rfl (hb hby at_24) ?_
    show Steps p.tables e below (s₁.setTop (mkF m 25 #[.val (.int p1), .val (.int p2), .val (.int (0 : Int32)), .val (.int (0 : Int32)), .unset, .unset, .unset, .unset, .unset, .unset, .unset] [.null])) _
    refine XS.astore X0.here hx rfl (hb hby at_25) rfl rfl (l' := #[.val (.int p1), .val (.int p2), .val (.int (0 : Int32)), .val (.int (0 : Int32)), .val .null, .unset, .unset, .unset, .unset, .unset, .unset]) rfl ?_
    show Steps p.tables e below (s₁.setTop (mkF m 27 #[.val (.int p1), .val (.int p2), .val (.int (0 : Int32)), .val (.int (0 : Int32)), .val .null, .unset, .unset, .unset, .unset, .unset, .unset] [])) _
    refine XS.iloadN X0.here hx rfl (hb hby at_27) rfl ?_
    show Steps p.tables e below (s₁.setTop (mkF m 28 #[.val (.int p1), .val (.int p2), .val (.int (0 : Int32)), .val (.int (0 : Int32)), .val .null, .unset, .unset, .unset, .unset, .unset, .unset] [(.int (0 : Int32))])) _
    refine XS.ifYes X0.here hx rfl (pc0 := 28) (pc' := 37) rfl (hb hby at_28) rfl ((if0 _ _).trans (teq (rfl : (0 : Int32) = (0 : Int32))).1) (by decide) (by decide) ?_
    show Steps p.tables e below (s₁.setTop (mkF m 37 #[.val (.int p1), .val (.int p2), .val (.int (0 : Int32)), .val (.int (0 : Int32)), .val .null, .unset, .unset, .unset, .unset, .unset, .unset] [])) _
    refine st3 _ ?_
    show Steps p.tables e below (T3.setTop (mkF m 40 #[.val (.int p1), .val (.int p2), .val (.int (0 : Int32)), .val (.int (0 : Int32)), .val .null, .unset, .unset, .unset, .unset, .unset, .unset] [(.ref b3)])) _
    refine XS.dup X3.here hx rfl (hb hby at_40) rfl rfl ?_
    show Steps p.tables e below (T3.setTop (mkF m 41 #[.val (.int p1), .val (.int p2), .val (.int (0 : Int32)), .val (.int (0 : Int32)), .val .null, .unset, .unset, .unset, .unset, .unset, .unset] [(.ref b3), (.ref b3)])) _
    refine XS.aload X3.here hx rfl (hb hby at_41) rfl rfl ?_
    show Steps p.tables e below (T3.setTop (mkF m 43 #[.val (.int p1), .val (.int p2), .val (.int (0 : Int32)), .val (.int (0 : Int32)), .val .null, .unset, .unset, .unset, .unset, .unset, .unset] [.null, (.ref b3), (.ref b3)])) _
    refine XS.iloadN X3.here hx rfl (hb hby at_43) rfl ?_
    show Steps p.tables e below (T3.setTop (mkF m 44 #[.val (.int p1), .val (.int p2), .val (.int (0 : Int32)), .val (.int (0 : Int32)), .val .null, .unset, .unset, .unset, .unset, .unset, .unset] [(.int (0 : Int32)), .null, (.ref b3), (.ref b3)])) _
    refine st4.trans ?_
    show Steps p.tables e below (T4.setTop (mkF m 47 #[.val (.int p1), .val (.int p2), .val (.int (0 : Int32)), .val (.int (0 : Int32)), .val .null, .unset, .unset, .unset, .unset, .unset, .unset] [(.ref b3)])) _
    refine XS.astore X4.here hx rfl (hb hby at_47) rfl rfl (l' := #[.val (.int p1), .val (.int p2), .val (.int (0 : Int32)), .val (.int (0 : Int32)), .val .null, .val (.ref b3), .unset, .unset, .unset, .unset, .unset]) rfl ?_
    show Steps p.tables e below (T4.setTop (mkF m 49 #[.val (.int p1), .val (.int p2), .val (.int (0 : Int32)), .val (.int (0 : Int32)), .val .null, .val (.ref b3), .unset, .unset, .unset, .unset, .unset] [])) _
    refine XS.iloadN X4.here hx rfl (hb hby at_49) rfl ?_
    show Steps p.tables e below (T4.setTop (mkF m 50 #[.val (.int p1), .val (.int p2), .val (.int (0 : Int32)), .val (.int (0 : Int32)), .val .null, .val (.ref b3), .unset, .unset, .unset, .unset, .unset] [(.int (0 : Int32))])) _
    refine XS.ifNo X4.here hx rfl (hb hby at_50) rfl ((if0 _ _).trans (teq (rfl : (0 : Int32) = (0 : Int32))).2) ?_
    show Steps p.tables e below (T4.setTop (mkF m 53 #[.val (.int p1), .val (.int p2), .val (.int (0 : Int32)), .val (.int (0 : Int32)), .val .null, .val (.ref b3), .unset, .unset, .unset, .unset, .unset] [])) _
    refine XS.iconst X4.here hx rfl (hb hby at_53) ?_
    show Steps p.tables e below (T4.setTop (mkF m 54 #[.val (.int p1), .val (.int p2), .val (.int (0 : Int32)), .val (.int (0 : Int32)), .val .null, .val (.ref b3), .unset, .unset, .unset, .unset, .unset] [(.int (0 : Int32))])) _
    refine XS.istore X4.here hx rfl (hb hby at_54) rfl (l' := #[.val (.int p1), .val (.int p2), .val (.int (0 : Int32)), .val (.int (0 : Int32)), .val .null, .val (.ref b3), .val (.int (0 : Int32)), .unset, .unset, .unset, .unset]) rfl ?_
    show Steps p.tables e below (T4.setTop (mkF m 56 #[.val (.int p1), .val (.int p2), .val (.int (0 : Int32)), .val (.int (0 : Int32)), .val .null, .val (.ref b3), .val (.int (0 : Int32)), .unset, .unset, .unset, .unset] [])) _
    refine XS.goto X4.here hx rfl (pc0 := 56) (pc' := 72) rfl (hb hby at_56) (by decide) (by decide) ?_
    show Steps p.tables e below (T4.setTop (mkF m 72 #[.val (.int p1), .val (.int p2), .val (.int (0 : Int32)), .val (.int (0 : Int32)), .val .null, .val (.ref b3), .val (.int (0 : Int32)), .unset, .unset, .unset, .unset] [])) _
    refine XS.aload X4.here hx rfl (hb hby at_72) rfl rfl ?_
    show Steps p.tables e below (T4.setTop (mkF m 74 #[.val (.int p1), .val (.int p2), .val (.int (0 : Int32)), .val (.int (0 : Int32)), .val .null, .val (.ref b3), .val (.int (0 : Int32)), .unset, .unset, .unset, .unset] [(.ref b3)])) _
    refine st5.trans ?_
    show Steps p.tables e below (T5.setTop (mkF m 77 #[.val (.int p1), .val (.int p2), .val (.int (0 : Int32)), .val (.int (0 : Int32)), .val .null, .val (.ref b3), .val (.int (0 : Int32)), .unset, .unset, .unset, .unset] [(.int (0 : Int32))])) _
    refine XS.iload X5.here hx rfl (hb hby at_77) rfl ?_
    show Steps p.tables e below (T5.setTop (mkF m 79 #[.val (.int p1), .val (.int p2), .val (.int (0 : Int32)), .val (.int (0 : Int32)), .val .null, .val (.ref b3), .val (.int (0 : Int32)), .unset, .unset, .unset, .unset] [(.int (0 : Int32)), (.int (0 : Int32))])) _
    refine XS.icmpNo X5.here hx rfl (hb hby at_79) rfl (teq (by decide : (0 : Int32) = (0 : Int32))).2 ?_
    show Steps p.tables e below (T5.setTop (mkF m 82 #[.val (.int p1), .val (.int p2), .val (.int (0 : Int32)), .val (.int (0 : Int32)), .val .null, .val (.ref b3), .val (.int (0 : Int32)), .unset, .unset, .unset, .unset] [])) _
    refine XS.iconst X5.here hx rfl (hb hby at_82) ?_
    show Steps p.tables e below (T5.setTop (mkF m 83 #[.val (.int p1), .val (.int p2), .val (.int (0 : Int32)), .val (.int (0 : Int32)), .val .null, .val (.ref b3), .val (.int (0 : Int32)), .unset, .unset, .unset, .unset] [(.int (1 : Int32))])) _
    refine XS.goto X5.here hx rfl (pc0 := 83) (pc' := 87) rfl (hb hby at_83) (by decide) (by decide) ?_
    show Steps p.tables e below (T5.setTop (mkF m 87 #[.val (.int p1), .val (.int p2), .val (.int (0 : Int32)), .val (.int (0 : Int32)), .val .null, .val (.ref b3), .val (.int (0 : Int32)), .unset, .unset, .unset, .unset] [(.int (1 : Int32))])) _
    refine XS.istore X5.here hx rfl (hb hby at_87) rfl (l' := #[.val (.int p1), .val (.int p2), .val (.int (0 : Int32)), .val (.int (0 : Int32)), .val .null, .val (.ref b3), .val (.int (0 : Int32)), .val (.int (1 : Int32)), .unset, .unset, .unset]) rfl ?_
    show Steps p.tables e below (T5.setTop (mkF m 89 #[.val (.int p1), .val (.int p2), .val (.int (0 : Int32)), .val (.int (0 : Int32)), .val .null, .val (.ref b3), .val (.int (0 : Int32)), .val (.int (1 : Int32)), .unset, .unset, .unset] [])) _
    refine st6 _ ?_
    show Steps p.tables e below (T6.setTop (mkF m 92 #[.val (.int p1), .val (.int p2), .val (.int (0 : Int32)), .val (.int (0 : Int32)), .val .null, .val (.ref b3), .val (.int (0 : Int32)), .val (.int (1 : Int32)), .unset, .unset, .unset] [(.ref bn)])) _
    refine XS.astore X6.here hx rfl (hb hby at_92) rfl rfl (l' := #[.val (.int p1), .val (.int p2), .val (.int (0 : Int32)), .val (.int (0 : Int32)), .val .null, .val (.ref b3), .val (.int (0 : Int32)), .val (.int (1 : Int32)), .val (.ref bn), .unset, .unset]) rfl ?_
    show Steps p.tables e below (T6.setTop (mkF m 94 #[.val (.int p1), .val (.int p2), .val (.int (0 : Int32)), .val (.int (0 : Int32)), .val .null, .val (.ref b3), .val (.int (0 : Int32)), .val (.int (1 : Int32)), .val (.ref bn), .unset, .unset] [])) _
    refine st7 _ ?_
    show Steps p.tables e below (T7.setTop (mkF m 97 #[.val (.int p1), .val (.int p2), .val (.int (0 : Int32)), .val (.int (0 : Int32)), .val .null, .val (.ref b3), .val (.int (0 : Int32)), .val (.int (1 : Int32)), .val (.ref bn), .unset, .unset] [(.ref bu)])) _
    refine XS.astore X7.here hx rfl (hb hby at_97) rfl rfl (l' := #[.val (.int p1), .val (.int p2), .val (.int (0 : Int32)), .val (.int (0 : Int32)), .val .null, .val (.ref b3), .val (.int (0 : Int32)), .val (.int (1 : Int32)), .val (.ref bn), .val (.ref bu), .unset]) rfl ?_
    show Steps p.tables e below (T7.setTop (mkF m 99 #[.val (.int p1), .val (.int p2), .val (.int (0 : Int32)), .val (.int (0 : Int32)), .val .null, .val (.ref b3), .val (.int (0 : Int32)), .val (.int (1 : Int32)), .val (.ref bn), .val (.ref bu), .unset] [])) _
    refine XS.iloadN X7.here hx rfl (hb hby at_99) rfl ?_
    show Steps p.tables e below (T7.setTop (mkF m 100 #[.val (.int p1), .val (.int p2), .val (.int (0 : Int32)), .val (.int (0 : Int32)), .val .null, .val (.ref b3), .val (.int (0 : Int32)), .val (.int (1 : Int32)), .val (.ref bn), .val (.ref bu), .unset] [(.int p1)])) _
    refine st8 _ ?_
    show Steps p.tables e below (T8.setTop (mkF m 103 #[.val (.int p1), .val (.int p2), .val (.int (0 : Int32)), .val (.int (0 : Int32)), .val .null, .val (.ref b3), .val (.int (0 : Int32)), .val (.int (1 : Int32)), .val (.ref bn), .val (.ref bu), .unset] [(.ref bx)])) _
    refine st9 _ ?_
    show Steps p.tables e below (T9.setTop (mkF m 106 #[.val (.int p1), .val (.int p2), .val (.int (0 : Int32)), .val (.int (0 : Int32)), .val .null, .val (.ref b3), .val (.int (0 : Int32)), .val (.int (1 : Int32)), .val (.ref bn), .val (.ref bu), .unset] [(.ref bc)])) _
    refine XS.astore X9.here hx rfl (hb hby at_106) rfl rfl (l' := #[.val (.int p1), .val (.int p2), .val (.int (0 : Int32)), .val (.int (0 : Int32)), .val .null, .val (.ref b3), .val (.int (0 : Int32)), .val (.int (1 : Int32)), .val (.ref bn), .val (.ref bu), .val (.ref bc)]) rfl ?_
    show Steps p.tables e below (T9.setTop (mkF m 108 #[.val (.int p1), .val (.int p2), .val (.int (0 : Int32)), .val (.int (0 : Int32)), .val .null, .val (.ref b3), .val (.int (0 : Int32)), .val (.int (1 : Int32)), .val (.ref bn), .val (.ref bu), .val (.ref bc)] [])) _
    refine XS.iload X9.here hx rfl (hb hby at_108) rfl ?_
    show Steps p.tables e below (T9.setTop (mkF m 110 #[.val (.int p1), .val (.int p2), .val (.int (0 : Int32)), .val (.int (0 : Int32)), .val .null, .val (.ref b3), .val (.int (0 : Int32)), .val (.int (1 : Int32)), .val (.ref bn), .val (.ref bu), .val (.ref bc)] [(.int (1 : Int32))])) _
    refine XS.ifNo X9.here hx rfl (hb hby at_110) rfl ((if0 _ _).trans (feq (by decide)).1) ?_
    show Steps p.tables e below (T9.setTop (mkF m 113 #[.val (.int p1), .val (.int p2), .val (.int (0 : Int32)), .val (.int (0 : Int32)), .val .null, .val (.ref b3), .val (.int (0 : Int32)), .val (.int (1 : Int32)), .val (.ref bn), .val (.ref bu), .val (.ref bc)] [])) _
    refine XS.aload X9.here hx rfl (hb hby at_113) rfl rfl ?_
    show Steps p.tables e below (T9.setTop (mkF m 115 #[.val (.int p1), .val (.int p2), .val (.int (0 : Int32)), .val (.int (0 : Int32)), .val .null, .val (.ref b3), .val (.int (0 : Int32)), .val (.int (1 : Int32)), .val (.ref bn), .val (.ref bu), .val (.ref bc)] [(.ref bn)])) _
    refine st10.trans ?_
    show Steps p.tables e below (T10.setTop (mkF m 118 #[.val (.int p1), .val (.int p2), .val (.int (0 : Int32)), .val (.int (0 : Int32)), .val .null, .val (.ref b3), .val (.int (0 : Int32)), .val (.int (1 : Int32)), .val (.ref bn), .val (.ref bu), .val (.ref bc)] [(.int (1 : Int32))])) _
    refine XS.ifNo X10.here hx rfl (hb hby at_118) rfl ((if0 _ _).trans (feq (by decide : ¬ ((1 : Int32) = (0 : Int32)))).1) ?_
    show Steps p.tables e below (T10.setTop (mkF m 121 #[.val (.int p1), .val (.int p2), .val (.int (0 : Int32)), .val (.int (0 : Int32)), .val .null, .val (.ref b3), .val (.int (0 : Int32)), .val (.int (1 : Int32)), .val (.ref bn), .val (.ref bu), .val (.ref bc)] [])) _
    refine XS.aload X10.here hx rfl (hb hby at_121) rfl rfl ?_
    show Steps p.tables e below (T10.setTop (mkF m 123 #[.val (.int p1), .val (.int p2), .val (.int (0 : Int32)), .val (.int (0 : Int32)), .val .null, .val (.ref b3), .val (.int (0 : Int32)), .val (.int (1 : Int32)), .val (.ref bn), .val (.ref bu), .val (.ref bc)] [(.ref bu)])) _
    refine st11.trans ?_
    show Steps p.tables e below (T11.setTop (mkF m 126 #[.val (.int p1), .val (.int p2), .val (.int (0 : Int32)), .val (.int (0 : Int32)), .val .null, .val (.ref b3), .val (.int (0 : Int32)), .val (.int (1 : Int32)), .val (.ref bn), .val (.ref bu), .val (.ref bc)] [(.int (0 : Int32))])) _
    refine XS.ifNo X11.here hx rfl (hb hby at_126) rfl ((if0 _ _).trans (teq (by decide : (0 : Int32) = (0 : Int32))).2) ?_
    show Steps p.tables e below (T11.setTop (mkF m 129 #[.val (.int p1), .val (.int p2), .val (.int (0 : Int32)), .val (.int (0 : Int32)), .val .null, .val (.ref b3), .val (.int (0 : Int32)), .val (.int (1 : Int32)), .val (.ref bn), .val (.ref bu), .val (.ref bc)] [])) _
    refine XS.aload X11.here hx rfl (hb hby at_129) rfl rfl ?_
    show Steps p.tables e below (T11.setTop (mkF m 131 #[.val (.int p1), .val (.int p2), .val (.int (0 : Int32)), .val (.int (0 : Int32)), .val .null, .val (.ref b3), .val (.int (0 : Int32)), .val (.int (1 : Int32)), .val (.ref bn), .val (.ref bu), .val (.ref bc)] [(.ref bc)])) _
    refine st12.trans ?_
    show Steps p.tables e below (T12.setTop (mkF m 134 #[.val (.int p1), .val (.int p2), .val (.int (0 : Int32)), .val (.int (0 : Int32)), .val .null, .val (.ref b3), .val (.int (0 : Int32)), .val (.int (1 : Int32)), .val (.ref bn), .val (.ref bu), .val (.ref bc)] [(.int (0 : Int32))])) _
    refine XS.ifNo X12.here hx rfl (hb hby at_134) rfl ((if0 _ _).trans (teq (by decide : (0 : Int32) = (0 : Int32))).2) ?_
    show Steps p.tables e below (T12.setTop (mkF m 137 #[.val (.int p1), .val (.int p2), .val (.int (0 : Int32)), .val (.int (0 : Int32)), .val .null, .val (.ref b3), .val (.int (0 : Int32)), .val (.int (1 : Int32)), .val (.ref bn), .val (.ref bu), .val (.ref bc)] [])) _
    refine XS.iconst X12.here hx rfl (hb hby at_137) ?_
    show Steps p.tables e below (T12.setTop (mkF m 138 #[.val (.int p1), .val (.int p2), .val (.int (0 : Int32)), .val (.int (0 : Int32)), .val .null, .val (.ref b3), .val (.int (0 : Int32)), .val (.int (1 : Int32)), .val (.ref bn), .val (.ref bu), .val (.ref bc)] [(.int (1 : Int32))])) _
    refine XS.goto X12.here hx rfl (pc0 := 138) (pc' := 142) rfl (hb hby at_138) (by decide) (by decide) ?_
    show Steps p.tables e below (T12.setTop (mkF m 142 #[.val (.int p1), .val (.int p2), .val (.int (0 : Int32)), .val (.int (0 : Int32)), .val .null, .val (.ref b3), .val (.int (0 : Int32)), .val (.int (1 : Int32)), .val (.ref bn), .val (.ref bu), .val (.ref bc)] [(.int (1 : Int32))])) _
    exact retN X12 hx (t := .boolean) Bd.returns (by simp) (hb hby at_142) hr
  · show Q000 Z p1 p2 _ n0 _ T12.heap _
    exact ⟨rfl, N12⟩
theorem own_eqi {args : Array Value} {Z : State} {t : Term} {k : Int32} (h : (Cond.eq t (.int k)).value args Z none Z [] = some true) : t.eval args Z none [] Z = some (.int k) := by
  simp only [Cond.value, Term.eval] at h
  cases ht : t.eval args Z none [] Z with
  | none => simp [ht] at h
  | some x => cases x <;> simp [ht] at h ⊢ <;> exact h
theorem own_sta {args : Array Value} {Z : State} {C n d C' : String} (h : (Cond.exactly (.static C n d) C').value args Z none Z [] = some true) (hi : (Cond.initialized C).before args Z = true) (hl : (Cond.laysStatic C n d).before args Z = true) :
    ∃ a : Addr, (Term.static C n d).eval args Z none [] Z = some (.ref a) ∧ Sta Z Z.heap C n d (.ref a) ∧ Exa Z Z.heap a C' := by
  obtain ⟨a, ev⟩ := exa_v h
  exact ⟨a, ev, Sta.start ev (Or.inr ⟨hi, hl⟩), Exa.start ev h⟩
theorem own_fld {args : Array Value} {Z : State} {t : Term} {a : Addr} {O f d : String} {k : Int32} (ev : t.eval args Z none [] Z = some (.ref a)) (h : (Cond.eq (.field t O f d) (.int k)).value args Z none Z [] = some true) : Fld Z Z.heap a O f d (.int k) :=
  Fld.start (fld_at ev ▸ own_eqi h)
theorem own_len {args : Array Value} {Z : State} {t : Term} {a : Addr} {c : Cell} {k : Int32} (ht : t.eval args Z none [] Z = some (.ref a)) (hA : Z.arrayAt? a = some c) (h : (Term.length t).eval args Z none [] Z = some (.int k)) : c.slots.size < 2 ^ 31 ∧ c.slots.size.toInt32 = k := by
  by_cases q : c.slots.size < 2 ^ 31
  · rw [len_f ht hA q] at h
    exact ⟨q, Value.int.inj (Option.some.inj h)⟩
  · simp [Term.eval, ht, hA, q] at h
theorem own_cf {args : Array Value} {Z : State} (w1 : (Cond.initializedFor "java/lang/Integer$IntegerCache" "high" "I").before args Z = true) (w2 : (Cond.laysStatic "java/lang/Integer$IntegerCache" "cache" "[Ljava/lang/Integer;").before args Z = true) (wi : (Cond.initialized "java/lang/Integer$IntegerCache").before args Z = true)
    (w3 : (Cond.eq (Term.static "java/lang/Integer$IntegerCache" "high" "I") (Term.int (127 : Int32))).before args Z = true) (w4 : (Cond.arrayOf (Term.static "java/lang/Integer$IntegerCache" "cache" "[Ljava/lang/Integer;") (Jvm.ClassFile.FieldType.object "java/lang/Integer")).before args Z = true)
    (w6 : (Cond.eq (Term.length (Term.static "java/lang/Integer$IntegerCache" "cache" "[Ljava/lang/Integer;")) (Term.int (256 : Int32))).before args Z = true)
    (w7 : (Cond.all (Term.static "java/lang/Integer$IntegerCache" "cache" "[Ljava/lang/Integer;") (Cond.and (Cond.exactly (Term.elem (Term.static "java/lang/Integer$IntegerCache" "cache" "[Ljava/lang/Integer;") (Term.index (0 : Nat))) "java/lang/Integer") (Cond.eq (Term.field (Term.elem (Term.static "java/lang/Integer$IntegerCache" "cache" "[Ljava/lang/Integer;") (Term.index (0 : Nat))) "java/lang/Integer" "value" "I") (Term.sub (Term.index (0 : Nat)) (Term.int (128 : Int32)))))).before args Z = true) (x : Int32) : Cf Z x := by
  refine ⟨Sta.start (own_eqi (Cond.before_iff.mp w3)) (Or.inl w1), fun h1 h2 => ?_⟩
  have w4' := Cond.before_iff.mp w4
  obtain ⟨a, ea⟩ := arr_v w4'
  obtain ⟨c, A⟩ := Arr.start ea w4'
  have et : ∀ idx, (Term.static "java/lang/Integer$IntegerCache" "cache" "[Ljava/lang/Integer;").eval args Z none idx Z = some (.ref a) := fun _ => ea
  have hA := A.fin (Vm.Alike.refl _)
  obtain ⟨q1, q2⟩ := own_len ea hA (own_eqi (Cond.before_iff.mp w6))
  have q3 := len_toInt q1
  rw [q2] at q3
  have e256 : (256 : Int32).toInt = 256 := rfl
  have sz : c.slots.size = 256 := by omega
  rw [Int32.lt_iff_toInt_lt] at h1 h2
  have e1 : (-128 : Int32).toInt = -128 := rfl
  have e2 : (127 : Int32).toInt = 127 := rfl
  have e3 : (128 : Int32).toInt = 128 := rfl
  have e4 : (0 : Int32).toInt = 0 := rfl
  have ej : (x + (128 : Int32)).toInt = x.toInt + 128 := by rw [Jvm.Kit.i32_add (by omega) (by omega), e3]
  have nn : ¬ (x + (128 : Int32)) < 0 := by rw [Int32.lt_iff_toInt_lt]; omega
  have hlt : (x + (128 : Int32)).toNatClampNeg < c.slots.size := by simp only [Int32.toNatClampNeg]; omega
  obtain ⟨u1, -⟩ := and_e (Cond.all_elim (et []) hA (Cond.before_iff.mp w7) _ hlt)
  obtain ⟨box, eb⟩ := exa_v u1
  exact ⟨a, box, c, Sta.start ea (Or.inr ⟨wi, w2⟩), A, fun z => z.elim nn (fun y => absurd hlt (Nat.not_lt.mpr y)), (elem_f (et _) (idx_at nn) hA nn).symm.trans eb⟩
set_option maxRecDepth 65536 in
set_option maxHeartbeats 40000000 in
theorem comes_1 {Post : Tables → Env → Array Value → State → Outcome → State → Prop} (hpost : ∀ tb e args s v u, (limb_1_1.after args s (.returned v) u = true ∧ limb_1_2.after args s (.returned v) u = true ∧ True) → FrameEnd s (.returned v) u (Jvm.fieldLocs frame_1_writes args s ++ Jvm.arrayLocs frame_1_arrays args s ++ Jvm.staticLocs frame_1_statics s) 24 128 → Post tb e args s (.returned v) u) :
    ArmFor flags0 classFile x code maxLocals ret World_1 tables_1 room_1 Calls_1 rest_1 Pre_1 Post := by
  intro l hfl _ _ p e ha hc hk s m args below hf hA hF happ hP
  obtain ⟨hcalls, hrest, hpre⟩ := hP
  obtain ⟨-, -, -, hnamed, -, -, -, hat⟩ := (Spec.applies_iff hf).mp happ
  obtain ⟨hg, hn⟩ := and_e (Cond.before_iff.mp (show (Jvm.Cond.and given_1 narrow_1).before args s = true from hpre))
  obtain ⟨g13, g14⟩ := and_e hg
  obtain ⟨g15, g16⟩ := and_e g14
  obtain ⟨w0, w1, rfl⟩ : ∃ w0 w1 : Value, args = #[w0, w1] := by
    have hs : args.size = 2 := by simpa [Cond.value, given_1] using g13
    obtain ⟨L⟩ := args
    match L, hs with
    | [w0, w1], _ => exact ⟨w0, w1, rfl⟩
  have hw := fun d (hd : d ∈ tables_1) => atoms_spec (ws := Jvm.Cond.code x code maxLocals ret :: tables_1) hat d (List.mem_cons_of_mem _ hd)
  have hfit : Fit s := fun {y c} hc i hi => by
    obtain ⟨ha, rfl⟩ := Array.getElem?_eq_some_iff.mp hc
    have q := List.all_eq_true.mp ((Array.all_eq_true_iff_forall_mem.mp hF) _ (Array.getElem_mem ha)) i (List.mem_range.mpr hi)
    simpa [Array.getElem?_eq_getElem hi] using q
  obtain ⟨hsets, hown0⟩ := atoms_of _ (rest_1_c_eq ▸ (show rest_1_c.before _ s = true from hrest))
  have hr0 := Cond.before_iff.mp hown0
  obtain ⟨i0, ei0⟩ := is_v g15
  obtain rfl : w0 = (.int i0) := Option.some.inj ei0
  obtain ⟨i1, ei1⟩ := is_v g16
  obtain rfl : w1 = (.int i1) := Option.some.inj ei1
  have cf : Cf s i0 := own_cf (hsets _ (List.mem_of_getElem? (i := 1) rfl)) (hsets _ (List.mem_of_getElem? (i := 2) rfl)) (hw _ (List.mem_of_getElem? (i := 5) rfl)) (hsets _ (List.mem_of_getElem? (i := 3) rfl)) (hsets _ (List.mem_of_getElem? (i := 4) rfl)) (hsets _ (List.mem_of_getElem? (i := 6) rfl)) (hsets _ (List.mem_of_getElem? (i := 7) rfl)) i0
  by_cases c0 : (i1 &&& (1 : Int32)) = (0 : Int32)
  ·
    by_cases c1 : (i1 &&& (2 : Int32)) = (0 : Int32)
    ·
      obtain ⟨n, o, h1, h2, h3, _, L, rfl, ⟨rfl, N⟩, hq⟩ := rm000 l s _ hw tables_1 i0 i1 s.heap s.heap.size (Nat.le_refl _) c0 c1 (Old.start s) cf p e ha hc hk s m _ below hf ((Spec.applies_iff_loose hf).mp happ).1 ⟨rfl, State.Warmed39.refl s, rfl⟩ trivial
      exact ⟨n, _, h1, h2, h3, hpost _ _ _ _ _ _ ⟨Cond.after_iff.mpr rfl, Cond.after_iff.mpr (eq_i res_at (Term.int_eval (1)) rfl), trivial⟩ ⟨hq.1, hq.2.1, (hq.2.2.sift fun y hy => Or.inr (N y hy)).mono (by decide) (by decide)⟩⟩
    ·
      obtain ⟨n, o, h1, h2, h3, _, L, rfl, ⟨rfl, N⟩, hq⟩ := rm001 l s _ hw tables_1 i0 i1 s.heap s.heap.size (Nat.le_refl _) c0 c1 (Old.start s) cf p e ha hc hk s m _ below hf ((Spec.applies_iff_loose hf).mp happ).1 ⟨rfl, State.Warmed39.refl s, rfl⟩ trivial
      exact ⟨n, _, h1, h2, h3, hpost _ _ _ _ _ _ ⟨Cond.after_iff.mpr rfl, Cond.after_iff.mpr (eq_i res_at (Term.int_eval (1)) rfl), trivial⟩ ⟨hq.1, hq.2.1, (hq.2.2.sift fun y hy => Or.inr (N y hy)).mono (by decide) (by decide)⟩⟩
  ·
    by_cases c1 : (i1 &&& (2 : Int32)) = (0 : Int32)
    ·
      obtain ⟨n, o, h1, h2, h3, _, L, rfl, ⟨rfl, N⟩, hq⟩ := rm010 l s _ hw tables_1 i0 i1 s.heap s.heap.size (Nat.le_refl _) c0 c1 (Old.start s) cf p e ha hc hk s m _ below hf ((Spec.applies_iff_loose hf).mp happ).1 ⟨rfl, State.Warmed39.refl s, rfl⟩ trivial
      exact ⟨n, _, h1, h2, h3, hpost _ _ _ _ _ _ ⟨Cond.after_iff.mpr rfl, Cond.after_iff.mpr (eq_i res_at (Term.int_eval (1)) rfl), trivial⟩ ⟨hq.1, hq.2.1, (hq.2.2.sift fun y hy => Or.inr (N y hy)).mono (by decide) (by decide)⟩⟩
    ·
      obtain ⟨n, o, h1, h2, h3, _, L, rfl, ⟨rfl, N⟩, hq⟩ := rm011 l s _ hw tables_1 i0 i1 s.heap s.heap.size (Nat.le_refl _) c0 c1 (Old.start s) cf p e ha hc hk s m _ below hf ((Spec.applies_iff_loose hf).mp happ).1 ⟨rfl, State.Warmed39.refl s, rfl⟩ trivial
      exact ⟨n, _, h1, h2, h3, hpost _ _ _ _ _ _ ⟨Cond.after_iff.mpr rfl, Cond.after_iff.mpr (eq_i res_at (Term.int_eval (1)) rfl), trivial⟩ ⟨hq.1, hq.2.1, (hq.2.2.sift fun y hy => Or.inr (N y hy)).mono (by decide) (by decide)⟩⟩
theorem main_1_1 : Claimed_1_1 := comes_1 fun _ _ _ _ _ _ h hF => ⟨h.1, hF⟩
theorem main_1_2 : Claimed_1_2 := comes_1 fun _ _ _ _ _ _ h hF => ⟨h.2.1, hF⟩
end Jvm.Pilot.@@N@@
namespace Jvm.Pilot.@@N@@
open Jvm Jvm.ClassFile Sem Op Lib Jvm.Free Jvm.Stand Jvm.Pilot.@@N@@.Jvm.D
/-! MADE BY PROGRAM (witnessworld.py) out of the Statement's table words and the real class files: 17 classes; the members and pool entries that the words name. The judged class is class 1, her method 1. -/
namespace start1
open Jvm.ClassFile
def u (s : String) : CpInfo := .utf8 (stringToUtf16 s)
/-- a pool by its gaps: so many unusable entries, then the entry; so many at the end -/
def gap : Nat → List CpInfo → List CpInfo
  | 0, r => r
  | n + 1, r => .unusable :: gap n r
def poolList (es : List (Nat × CpInfo)) (last : Nat) : List CpInfo := es.foldr (fun e r => gap e.1 (e.2 :: r)) (gap last [])
def pool (es : List (Nat × CpInfo)) (last : Nat) : Array CpInfo := ⟨poolList es last⟩
def fileOf (pool : Array CpInfo) (this : Nat) (attrs : Array Attribute := #[]) (ms : Array MethodInfo := #[]) (fl : Nat := 33) (sup : Nat := 0) (ifs : Array Nat := #[]) (fds : Array FieldInfo := #[]) : ClassFile where
  minorVersion := 0
  majorVersion := 65
  constantPool := pool
  accessFlags := fl
  thisClass := this
  superClass := sup
  interfaces := ifs
  fields := fds
  methods := ms
  attributes := attrs
def plain (name : String) (sup : Option ClassId) : Class where
  name := name
  kind := .ordinary
  loader := none
  accessFlags := 33
  super := sup
  interfaces := #[]
  cf := none
  fields := #[]
  methods := #[]
  instanceTypes := #[]
  staticTypes := #[]
  resolved := #[]
  callSites := []
  init := .initialized
  statics := none
  mirror := none

def pool0 : Array CpInfo := pool [(5, u "<init>"), (0, u "()V"), (1, .class_ 10), (1, u "java/lang/Object")] 113

def k0c0 : Code := { maxStack := 0, maxLocals := 1, code := object_method_1_code, exceptionTable := #[], attributes := #[] }
def k0m0 : Method := { name := "<init>", desc := "()V", sig := { parameters := [], returnType := none }, accessFlags := 1, code := some k0c0 }
/-- java/lang/Object -/
def k0 : Class := { plain "java/lang/Object" none with
  accessFlags := 33
  interfaces := #[]
  cf := some (fileOf pool0 8 #[] #[{ accessFlags := 1, nameIndex := 5, descriptorIndex := 6, attributes := #[] }] 33 0 #[] #[])
  fields := #[]
  methods := #[k0m0]
  instanceTypes := #[]
  staticTypes := #[]
  resolved := Array.replicate 124 none
  statics := none }

def pool1 : Array CpInfo := pool [(2, .class_ 4), (1, u "java/lang/Object"), (0, u "<init>"), (0, u "()V"), (0, .methodref 8 9), (0, .class_ 10), (0, .nameAndType 11 12), (0, u "java/lang/Integer"), (0, u "valueOf"), (0, u "(I)Ljava/lang/Integer;"), (0, .class_ 14), (0, u "com/example/anemone/anemone/model/Recovered"), (0, .methodref 13 16), (0, .nameAndType 5 17), (0, u "(Ljava/lang/Object;Z)V"), (0, .methodref 13 19), (0, .nameAndType 20 21), (0, u "isNone"), (0, u "()Z"), (0, .methodref 13 23), (0, .nameAndType 24 25), (0, u "none"), (0, u "()Lcom/example/anemone/anemone/model/Recovered;"), (0, .methodref 13 27), (0, .nameAndType 28 25), (0, u "unknown"), (0, .methodref 13 30), (0, .nameAndType 31 32), (0, u "of"), (0, u "(Ljava/lang/Object;)Lcom/example/anemone/anemone/model/Recovered;"), (0, .class_ 34), (0, u "com/example/anemone/anemone/model/RecoveredIsNonePinLaw"), (2, u "law"), (0, u "(II)Z")] 3

def k1m0 : Method := { name := "<init>", desc := "()V", sig := { parameters := [], returnType := none }, accessFlags := 1, code := none }
def k1c1 : Code := { maxStack := 4, maxLocals := 11, code := code, exceptionTable := #[], attributes := #[] }
def k1m1 : Method := { name := "law", desc := "(II)Z", sig := { parameters := [.int, .int], returnType := some .boolean }, accessFlags := 9, code := some k1c1 }
/-- com/example/anemone/anemone/model/RecoveredIsNonePinLaw -/
def k1 : Class := { plain "com/example/anemone/anemone/model/RecoveredIsNonePinLaw" (some 0) with
  accessFlags := 49
  interfaces := #[]
  cf := some (fileOf pool1 33 #[] #[{ accessFlags := 1, nameIndex := 5, descriptorIndex := 6, attributes := #[] }, { accessFlags := 9, nameIndex := 37, descriptorIndex := 38, attributes := #[] }] 49 2 #[] #[])
  fields := #[]
  methods := #[k1m0, k1m1]
  instanceTypes := #[]
  staticTypes := #[]
  resolved := Array.replicate 42 none
  statics := none }

def pool2 : Array CpInfo := pool [(1, .class_ 2), (0, u "java/io/Serializable"), (0, .class_ 4), (0, u "java/lang/Object")] 2

/-- java/io/Serializable -/
def k2 : Class := { plain "java/io/Serializable" (some 0) with
  accessFlags := 1537
  interfaces := #[]
  cf := some (fileOf pool2 1 #[] #[] 1537 3 #[] #[])
  fields := #[]
  methods := #[]
  instanceTypes := #[]
  staticTypes := #[]
  resolved := Array.replicate 7 none
  statics := none }

def pool3 : Array CpInfo := pool [(1, .methodref 2 3), (0, .class_ 4), (0, .nameAndType 5 6), (0, u "java/lang/Object"), (0, u "<init>"), (0, u "()V"), (1, .class_ 10), (1, u "java/lang/Number"), (2, .class_ 14), (0, u "java/io/Serializable"), (0, u "serialVersionUID"), (0, u "J")] 20

def k3c0 : Code := { maxStack := 1, maxLocals := 1, code := jdk_18_method_1_code, exceptionTable := #[], attributes := #[] }
def k3m0 : Method := { name := "<init>", desc := "()V", sig := { parameters := [], returnType := none }, accessFlags := 1, code := some k3c0 }
/-- java/lang/Number -/
def k3 : Class := { plain "java/lang/Number" (some 0) with
  accessFlags := 1057
  interfaces := #[2]
  cf := some (fileOf pool3 8 #[] #[{ accessFlags := 1, nameIndex := 5, descriptorIndex := 6, attributes := #[] }] 1057 2 #[13] #[{ accessFlags := 26, nameIndex := 15, descriptorIndex := 16, attributes := #[] }])
  fields := #[{ name := "serialVersionUID", type := .long, accessFlags := 26, slot := 0, constantValue := 0 }]
  methods := #[k3m0]
  instanceTypes := #[]
  staticTypes := #[.long]
  resolved := Array.replicate 37 none
  statics := none }

def pool4 : Array CpInfo := pool [(1, .class_ 2), (0, u "java/lang/Comparable"), (0, .class_ 4), (0, u "java/lang/Object")] 7

/-- java/lang/Comparable -/
def k4 : Class := { plain "java/lang/Comparable" (some 0) with
  accessFlags := 1537
  interfaces := #[]
  cf := some (fileOf pool4 1 #[] #[] 1537 3 #[] #[])
  fields := #[]
  methods := #[]
  instanceTypes := #[]
  staticTypes := #[]
  resolved := Array.replicate 12 none
  statics := none }

def pool5 : Array CpInfo := pool [(1, .class_ 2), (0, u "java/lang/constant/Constable"), (0, .class_ 4), (0, u "java/lang/Object")] 6

/-- java/lang/constant/Constable -/
def k5 : Class := { plain "java/lang/constant/Constable" (some 0) with
  accessFlags := 1537
  interfaces := #[]
  cf := some (fileOf pool5 1 #[] #[] 1537 3 #[] #[])
  fields := #[]
  methods := #[]
  instanceTypes := #[]
  staticTypes := #[]
  resolved := Array.replicate 11 none
  statics := none }

def pool6 : Array CpInfo := pool [(1, .class_ 2), (0, u "java/lang/constant/ConstantDesc"), (0, .class_ 4), (0, u "java/lang/Object")] 32

/-- java/lang/constant/ConstantDesc -/
def k6 : Class := { plain "java/lang/constant/ConstantDesc" (some 0) with
  accessFlags := 1537
  interfaces := #[]
  cf := some (fileOf pool6 1 #[] #[] 1537 3 #[] #[])
  fields := #[]
  methods := #[]
  instanceTypes := #[]
  staticTypes := #[]
  resolved := Array.replicate 37 none
  statics := none }

def pool7 : Array CpInfo := pool [(1, .class_ 2), (0, u "java/lang/Integer"), (16, u "digits"), (0, u "[C"), (46, u "<init>"), (17, u "DigitOnes"), (0, u "[B"), (2, u "DigitTens"), (10, .nameAndType 67 101), (0, u "()V"), (85, u "valueOf"), (0, u "(I)Ljava/lang/Integer;"), (0, .class_ 190), (0, u "java/lang/Integer$IntegerCache"), (0, .fieldref 189 192), (0, .nameAndType 193 194), (0, u "high"), (0, u "I"), (0, .fieldref 189 196), (0, .nameAndType 197 198), (0, u "cache"), (0, u "[Ljava/lang/Integer;"), (0, .methodref 1 200), (0, .nameAndType 67 201), (0, u "(I)V"), (0, .methodref 203 100), (0, .class_ 204), (0, u "java/lang/Number"), (0, .fieldref 1 206), (0, .nameAndType 207 194), (0, u "value"), (94, u "TYPE"), (0, u "Ljava/lang/Class;"), (0, .class_ 305), (0, u "java/lang/Comparable"), (0, .class_ 307), (0, u "java/lang/constant/Constable"), (0, .class_ 309), (0, u "java/lang/constant/ConstantDesc"), (0, u "MIN_VALUE"), (1, u "MAX_VALUE"), (3, u "SIZE"), (1, u "BYTES"), (1, u "serialVersionUID"), (0, u "J")] 131

def k7c0 : Code := { maxStack := 3, maxLocals := 1, code := jdk_33_method_22_code, exceptionTable := #[], attributes := #[] }
def k7m0 : Method := { name := "valueOf", desc := "(I)Ljava/lang/Integer;", sig := { parameters := [.int], returnType := some (.object "java/lang/Integer") }, accessFlags := 9, code := some k7c0 }
def k7c1 : Code := { maxStack := 2, maxLocals := 2, code := jdk_33_method_23_code, exceptionTable := #[], attributes := #[] }
def k7m1 : Method := { name := "<init>", desc := "(I)V", sig := { parameters := [.int], returnType := none }, accessFlags := 1, code := some k7c1 }
/-- java/lang/Integer -/
def k7 : Class := { plain "java/lang/Integer" (some 3) with
  accessFlags := 49
  interfaces := #[4, 5, 6]
  cf := some (fileOf pool7 1 #[.nestMembers #[189]] #[{ accessFlags := 9, nameIndex := 187, descriptorIndex := 188, attributes := #[] }, { accessFlags := 1, nameIndex := 67, descriptorIndex := 201, attributes := #[] }] 49 203 #[304, 306, 308] #[{ accessFlags := 25, nameIndex := 310, descriptorIndex := 194, attributes := #[] }, { accessFlags := 25, nameIndex := 312, descriptorIndex := 194, attributes := #[] }, { accessFlags := 25, nameIndex := 302, descriptorIndex := 303, attributes := #[] }, { accessFlags := 24, nameIndex := 19, descriptorIndex := 20, attributes := #[] }, { accessFlags := 24, nameIndex := 89, descriptorIndex := 86, attributes := #[] }, { accessFlags := 24, nameIndex := 85, descriptorIndex := 86, attributes := #[] }, { accessFlags := 18, nameIndex := 207, descriptorIndex := 194, attributes := #[] }, { accessFlags := 25, nameIndex := 316, descriptorIndex := 194, attributes := #[] }, { accessFlags := 25, nameIndex := 318, descriptorIndex := 194, attributes := #[] }, { accessFlags := 26, nameIndex := 320, descriptorIndex := 321, attributes := #[] }])
  fields := #[{ name := "MIN_VALUE", type := .int, accessFlags := 25, slot := 0, constantValue := 0 }, { name := "MAX_VALUE", type := .int, accessFlags := 25, slot := 1, constantValue := 0 }, { name := "TYPE", type := (.object "java/lang/Class"), accessFlags := 25, slot := 2, constantValue := 0 }, { name := "digits", type := (.array .char), accessFlags := 24, slot := 3, constantValue := 0 }, { name := "DigitTens", type := (.array .byte), accessFlags := 24, slot := 4, constantValue := 0 }, { name := "DigitOnes", type := (.array .byte), accessFlags := 24, slot := 5, constantValue := 0 }, { name := "value", type := .int, accessFlags := 18, slot := 0, constantValue := 0 }, { name := "SIZE", type := .int, accessFlags := 25, slot := 6, constantValue := 0 }, { name := "BYTES", type := .int, accessFlags := 25, slot := 7, constantValue := 0 }, { name := "serialVersionUID", type := .long, accessFlags := 26, slot := 8, constantValue := 0 }]
  methods := #[k7m0, k7m1]
  instanceTypes := #[.int]
  staticTypes := #[.int, .int, (.object "java/lang/Class"), (.array .char), (.array .byte), (.array .byte), .int, .int, .long]
  resolved := Array.replicate 453 none
  statics := none }

def pool8 : Array CpInfo := pool [(2, .class_ 4), (1, u "java/lang/Object"), (0, u "<init>"), (0, u "()V"), (0, .class_ 8), (0, u "java/lang/Integer"), (7, .class_ 18), (1, u "java/lang/Integer$IntegerCache"), (0, u "$assertionsDisabled"), (0, u "Z"), (26, u "high"), (0, u "I"), (8, u "archivedCache"), (0, u "[Ljava/lang/Integer;"), (12, u "cache"), (0, u "low")] 27

def k8m0 : Method := { name := "<init>", desc := "()V", sig := { parameters := [], returnType := none }, accessFlags := 2, code := none }
/-- java/lang/Integer$IntegerCache -/
def k8 : Class := { plain "java/lang/Integer$IntegerCache" (some 0) with
  accessFlags := 48
  interfaces := #[]
  cf := some (fileOf pool8 16 #[.nestHost 7] #[{ accessFlags := 2, nameIndex := 5, descriptorIndex := 6, attributes := #[] }] 48 2 #[] #[{ accessFlags := 24, nameIndex := 72, descriptorIndex := 48, attributes := #[] }, { accessFlags := 24, nameIndex := 47, descriptorIndex := 48, attributes := #[] }, { accessFlags := 24, nameIndex := 71, descriptorIndex := 58, attributes := #[] }, { accessFlags := 8, nameIndex := 57, descriptorIndex := 58, attributes := #[] }, { accessFlags := 4120, nameIndex := 19, descriptorIndex := 20, attributes := #[] }])
  fields := #[{ name := "low", type := .int, accessFlags := 24, slot := 0, constantValue := 0 }, { name := "high", type := .int, accessFlags := 24, slot := 1, constantValue := 0 }, { name := "cache", type := (.array (.object "java/lang/Integer")), accessFlags := 24, slot := 2, constantValue := 0 }, { name := "archivedCache", type := (.array (.object "java/lang/Integer")), accessFlags := 8, slot := 3, constantValue := 0 }, { name := "$assertionsDisabled", type := .boolean, accessFlags := 4120, slot := 4, constantValue := 0 }]
  methods := #[k8m0]
  instanceTypes := #[]
  staticTypes := #[.int, .int, (.array (.object "java/lang/Integer")), (.array (.object "java/lang/Integer")), .boolean]
  resolved := Array.replicate 100 none
  statics := some 0 }

def pool9 : Array CpInfo := pool [(1, .methodref 2 3), (0, .class_ 4), (0, .nameAndType 5 6), (0, u "java/lang/Object"), (0, u "<init>"), (0, u "()V"), (0, .class_ 8), (0, u "java/lang/Record")] 13

def k9c0 : Code := { maxStack := 1, maxLocals := 1, code := jdk_30_method_1_code, exceptionTable := #[], attributes := #[] }
def k9m0 : Method := { name := "<init>", desc := "()V", sig := { parameters := [], returnType := none }, accessFlags := 4, code := some k9c0 }
/-- java/lang/Record -/
def k9 : Class := { plain "java/lang/Record" (some 0) with
  accessFlags := 1057
  interfaces := #[]
  cf := some (fileOf pool9 7 #[] #[{ accessFlags := 4, nameIndex := 5, descriptorIndex := 6, attributes := #[] }] 1057 2 #[] #[])
  fields := #[]
  methods := #[k9m0]
  instanceTypes := #[]
  staticTypes := #[]
  resolved := Array.replicate 22 none
  statics := none }

def pool10 : Array CpInfo := pool [(1, .methodref 2 3), (0, .class_ 4), (0, .nameAndType 5 6), (0, u "java/lang/Record"), (0, u "<init>"), (0, u "()V"), (0, .fieldref 8 9), (0, .class_ 10), (0, .nameAndType 11 12), (0, u "com/example/anemone/anemone/model/Recovered"), (0, u "value"), (0, u "Ljava/lang/Object;"), (0, .fieldref 8 14), (0, .nameAndType 15 16), (0, u "known"), (0, u "Z"), (0, .methodref 8 18), (0, .nameAndType 5 19), (0, u "(Ljava/lang/Object;Z)V"), (18, u "none"), (0, u "()Lcom/example/anemone/anemone/model/Recovered;"), (1, u "of"), (0, u "(Ljava/lang/Object;)Lcom/example/anemone/anemone/model/Recovered;"), (1, u "unknown"), (0, u "isNone"), (0, u "()Z")] 28

def k10c0 : Code := { maxStack := 2, maxLocals := 3, code := prog_46_method_1_code, exceptionTable := #[], attributes := #[] }
def k10m0 : Method := { name := "<init>", desc := "(Ljava/lang/Object;Z)V", sig := { parameters := [(.object "java/lang/Object"), .boolean], returnType := none }, accessFlags := 1, code := some k10c0 }
def k10c1 : Code := { maxStack := 4, maxLocals := 0, code := prog_46_method_2_code, exceptionTable := #[], attributes := #[] }
def k10m1 : Method := { name := "none", desc := "()Lcom/example/anemone/anemone/model/Recovered;", sig := { parameters := [], returnType := some (.object "com/example/anemone/anemone/model/Recovered") }, accessFlags := 9, code := some k10c1 }
def k10c2 : Code := { maxStack := 4, maxLocals := 1, code := prog_46_method_3_code, exceptionTable := #[], attributes := #[] }
def k10m2 : Method := { name := "of", desc := "(Ljava/lang/Object;)Lcom/example/anemone/anemone/model/Recovered;", sig := { parameters := [(.object "java/lang/Object")], returnType := some (.object "com/example/anemone/anemone/model/Recovered") }, accessFlags := 9, code := some k10c2 }
def k10c3 : Code := { maxStack := 4, maxLocals := 0, code := prog_46_method_4_code, exceptionTable := #[], attributes := #[] }
def k10m3 : Method := { name := "unknown", desc := "()Lcom/example/anemone/anemone/model/Recovered;", sig := { parameters := [], returnType := some (.object "com/example/anemone/anemone/model/Recovered") }, accessFlags := 9, code := some k10c3 }
def k10c4 : Code := { maxStack := 1, maxLocals := 1, code := prog_46_method_5_code, exceptionTable := #[], attributes := #[] }
def k10m4 : Method := { name := "isNone", desc := "()Z", sig := { parameters := [], returnType := some .boolean }, accessFlags := 1, code := some k10c4 }
/-- com/example/anemone/anemone/model/Recovered -/
def k10 : Class := { plain "com/example/anemone/anemone/model/Recovered" (some 9) with
  accessFlags := 49
  interfaces := #[]
  cf := some (fileOf pool10 8 #[] #[{ accessFlags := 1, nameIndex := 5, descriptorIndex := 19, attributes := #[] }, { accessFlags := 9, nameIndex := 38, descriptorIndex := 39, attributes := #[] }, { accessFlags := 9, nameIndex := 41, descriptorIndex := 42, attributes := #[] }, { accessFlags := 9, nameIndex := 44, descriptorIndex := 39, attributes := #[] }, { accessFlags := 1, nameIndex := 45, descriptorIndex := 46, attributes := #[] }] 49 2 #[] #[{ accessFlags := 18, nameIndex := 11, descriptorIndex := 12, attributes := #[] }, { accessFlags := 18, nameIndex := 15, descriptorIndex := 16, attributes := #[] }])
  fields := #[{ name := "value", type := (.object "java/lang/Object"), accessFlags := 18, slot := 0, constantValue := 0 }, { name := "known", type := .boolean, accessFlags := 18, slot := 1, constantValue := 0 }]
  methods := #[k10m0, k10m1, k10m2, k10m3, k10m4]
  instanceTypes := #[(.object "java/lang/Object"), .boolean]
  staticTypes := #[]
  resolved := Array.replicate 75 none
  statics := none }

def pool11 : Array CpInfo := pool [(1, u "java/lang/Cloneable"), (0, .class_ 1), (0, u "java/lang/Object"), (0, .class_ 3)] 3

/-- java/lang/Cloneable -/
def k11 : Class := { plain "java/lang/Cloneable" (some 0) with
  accessFlags := 1537
  interfaces := #[]
  cf := some (fileOf pool11 2 #[] #[] 1537 4 #[] #[])
  fields := #[]
  methods := #[]
  instanceTypes := #[]
  staticTypes := #[]
  resolved := Array.replicate 8 none
  statics := none }

/-- the primitive byte -/
def k12 : Class := { plain "byte" none with kind := .primitive 'B', accessFlags := 0x411 }
/-- [B -/
def k13 : Class := { plain "[B" (some 0) with kind := .array 12 .byte, interfaces := #[11, 2], accessFlags := 1041 }

/-- the primitive int -/
def k14 : Class := { plain "int" none with kind := .primitive 'I', accessFlags := 0x411 }
/-- [I -/
def k15 : Class := { plain "[I" (some 0) with kind := .array 14 .int, interfaces := #[11, 2], accessFlags := 1041 }

/-- [Ljava/lang/Integer; -/
def k16 : Class := { plain "[Ljava/lang/Integer;" (some 0) with kind := .array 7 (.object "java/lang/Integer"), interfaces := #[11, 2], accessFlags := 1041 }

def heap : Heap := #[{ cls := 8, slots := #[.int 0, .int 127, .ref 1, .null, .int 0], vm := .statics 8 },
  { cls := 16, slots := #[.ref 2, .ref 3, .ref 4, .ref 5, .ref 6, .ref 7, .ref 8, .ref 9, .ref 10, .ref 11, .ref 12, .ref 13, .ref 14, .ref 15, .ref 16, .ref 17, .ref 18, .ref 19, .ref 20, .ref 21, .ref 22, .ref 23, .ref 24, .ref 25, .ref 26, .ref 27, .ref 28, .ref 29, .ref 30, .ref 31, .ref 32, .ref 33, .ref 34, .ref 35, .ref 36, .ref 37, .ref 38, .ref 39, .ref 40, .ref 41, .ref 42, .ref 43, .ref 44, .ref 45, .ref 46, .ref 47, .ref 48, .ref 49, .ref 50, .ref 51, .ref 52, .ref 53, .ref 54, .ref 55, .ref 56, .ref 57, .ref 58, .ref 59, .ref 60, .ref 61, .ref 62, .ref 63, .ref 64, .ref 65, .ref 66, .ref 67, .ref 68, .ref 69, .ref 70, .ref 71, .ref 72, .ref 73, .ref 74, .ref 75, .ref 76, .ref 77, .ref 78, .ref 79, .ref 80, .ref 81, .ref 82, .ref 83, .ref 84, .ref 85, .ref 86, .ref 87, .ref 88, .ref 89, .ref 90, .ref 91, .ref 92, .ref 93, .ref 94, .ref 95, .ref 96, .ref 97, .ref 98, .ref 99, .ref 100, .ref 101, .ref 102, .ref 103, .ref 104, .ref 105, .ref 106, .ref 107, .ref 108, .ref 109, .ref 110, .ref 111, .ref 112, .ref 113, .ref 114, .ref 115, .ref 116, .ref 117, .ref 118, .ref 119, .ref 120, .ref 121, .ref 122, .ref 123, .ref 124, .ref 125, .ref 126, .ref 127, .ref 128, .ref 129, .ref 130, .ref 131, .ref 132, .ref 133, .ref 134, .ref 135, .ref 136, .ref 137, .ref 138, .ref 139, .ref 140, .ref 141, .ref 142, .ref 143, .ref 144, .ref 145, .ref 146, .ref 147, .ref 148, .ref 149, .ref 150, .ref 151, .ref 152, .ref 153, .ref 154, .ref 155, .ref 156, .ref 157, .ref 158, .ref 159, .ref 160, .ref 161, .ref 162, .ref 163, .ref 164, .ref 165, .ref 166, .ref 167, .ref 168, .ref 169, .ref 170, .ref 171, .ref 172, .ref 173, .ref 174, .ref 175, .ref 176, .ref 177, .ref 178, .ref 179, .ref 180, .ref 181, .ref 182, .ref 183, .ref 184, .ref 185, .ref 186, .ref 187, .ref 188, .ref 189, .ref 190, .ref 191, .ref 192, .ref 193, .ref 194, .ref 195, .ref 196, .ref 197, .ref 198, .ref 199, .ref 200, .ref 201, .ref 202, .ref 203, .ref 204, .ref 205, .ref 206, .ref 207, .ref 208, .ref 209, .ref 210, .ref 211, .ref 212, .ref 213, .ref 214, .ref 215, .ref 216, .ref 217, .ref 218, .ref 219, .ref 220, .ref 221, .ref 222, .ref 223, .ref 224, .ref 225, .ref 226, .ref 227, .ref 228, .ref 229, .ref 230, .ref 231, .ref 232, .ref 233, .ref 234, .ref 235, .ref 236, .ref 237, .ref 238, .ref 239, .ref 240, .ref 241, .ref 242, .ref 243, .ref 244, .ref 245, .ref 246, .ref 247, .ref 248, .ref 249, .ref 250, .ref 251, .ref 252, .ref 253, .ref 254, .ref 255, .ref 256, .ref 257], vm := .none },
  { cls := 7, slots := #[.int (-128)], vm := .none },
  { cls := 7, slots := #[.int (-127)], vm := .none },
  { cls := 7, slots := #[.int (-126)], vm := .none },
  { cls := 7, slots := #[.int (-125)], vm := .none },
  { cls := 7, slots := #[.int (-124)], vm := .none },
  { cls := 7, slots := #[.int (-123)], vm := .none },
  { cls := 7, slots := #[.int (-122)], vm := .none },
  { cls := 7, slots := #[.int (-121)], vm := .none },
  { cls := 7, slots := #[.int (-120)], vm := .none },
  { cls := 7, slots := #[.int (-119)], vm := .none },
  { cls := 7, slots := #[.int (-118)], vm := .none },
  { cls := 7, slots := #[.int (-117)], vm := .none },
  { cls := 7, slots := #[.int (-116)], vm := .none },
  { cls := 7, slots := #[.int (-115)], vm := .none },
  { cls := 7, slots := #[.int (-114)], vm := .none },
  { cls := 7, slots := #[.int (-113)], vm := .none },
  { cls := 7, slots := #[.int (-112)], vm := .none },
  { cls := 7, slots := #[.int (-111)], vm := .none },
  { cls := 7, slots := #[.int (-110)], vm := .none },
  { cls := 7, slots := #[.int (-109)], vm := .none },
  { cls := 7, slots := #[.int (-108)], vm := .none },
  { cls := 7, slots := #[.int (-107)], vm := .none },
  { cls := 7, slots := #[.int (-106)], vm := .none },
  { cls := 7, slots := #[.int (-105)], vm := .none },
  { cls := 7, slots := #[.int (-104)], vm := .none },
  { cls := 7, slots := #[.int (-103)], vm := .none },
  { cls := 7, slots := #[.int (-102)], vm := .none },
  { cls := 7, slots := #[.int (-101)], vm := .none },
  { cls := 7, slots := #[.int (-100)], vm := .none },
  { cls := 7, slots := #[.int (-99)], vm := .none },
  { cls := 7, slots := #[.int (-98)], vm := .none },
  { cls := 7, slots := #[.int (-97)], vm := .none },
  { cls := 7, slots := #[.int (-96)], vm := .none },
  { cls := 7, slots := #[.int (-95)], vm := .none },
  { cls := 7, slots := #[.int (-94)], vm := .none },
  { cls := 7, slots := #[.int (-93)], vm := .none },
  { cls := 7, slots := #[.int (-92)], vm := .none },
  { cls := 7, slots := #[.int (-91)], vm := .none },
  { cls := 7, slots := #[.int (-90)], vm := .none },
  { cls := 7, slots := #[.int (-89)], vm := .none },
  { cls := 7, slots := #[.int (-88)], vm := .none },
  { cls := 7, slots := #[.int (-87)], vm := .none },
  { cls := 7, slots := #[.int (-86)], vm := .none },
  { cls := 7, slots := #[.int (-85)], vm := .none },
  { cls := 7, slots := #[.int (-84)], vm := .none },
  { cls := 7, slots := #[.int (-83)], vm := .none },
  { cls := 7, slots := #[.int (-82)], vm := .none },
  { cls := 7, slots := #[.int (-81)], vm := .none },
  { cls := 7, slots := #[.int (-80)], vm := .none },
  { cls := 7, slots := #[.int (-79)], vm := .none },
  { cls := 7, slots := #[.int (-78)], vm := .none },
  { cls := 7, slots := #[.int (-77)], vm := .none },
  { cls := 7, slots := #[.int (-76)], vm := .none },
  { cls := 7, slots := #[.int (-75)], vm := .none },
  { cls := 7, slots := #[.int (-74)], vm := .none },
  { cls := 7, slots := #[.int (-73)], vm := .none },
  { cls := 7, slots := #[.int (-72)], vm := .none },
  { cls := 7, slots := #[.int (-71)], vm := .none },
  { cls := 7, slots := #[.int (-70)], vm := .none },
  { cls := 7, slots := #[.int (-69)], vm := .none },
  { cls := 7, slots := #[.int (-68)], vm := .none },
  { cls := 7, slots := #[.int (-67)], vm := .none },
  { cls := 7, slots := #[.int (-66)], vm := .none },
  { cls := 7, slots := #[.int (-65)], vm := .none },
  { cls := 7, slots := #[.int (-64)], vm := .none },
  { cls := 7, slots := #[.int (-63)], vm := .none },
  { cls := 7, slots := #[.int (-62)], vm := .none },
  { cls := 7, slots := #[.int (-61)], vm := .none },
  { cls := 7, slots := #[.int (-60)], vm := .none },
  { cls := 7, slots := #[.int (-59)], vm := .none },
  { cls := 7, slots := #[.int (-58)], vm := .none },
  { cls := 7, slots := #[.int (-57)], vm := .none },
  { cls := 7, slots := #[.int (-56)], vm := .none },
  { cls := 7, slots := #[.int (-55)], vm := .none },
  { cls := 7, slots := #[.int (-54)], vm := .none },
  { cls := 7, slots := #[.int (-53)], vm := .none },
  { cls := 7, slots := #[.int (-52)], vm := .none },
  { cls := 7, slots := #[.int (-51)], vm := .none },
  { cls := 7, slots := #[.int (-50)], vm := .none },
  { cls := 7, slots := #[.int (-49)], vm := .none },
  { cls := 7, slots := #[.int (-48)], vm := .none },
  { cls := 7, slots := #[.int (-47)], vm := .none },
  { cls := 7, slots := #[.int (-46)], vm := .none },
  { cls := 7, slots := #[.int (-45)], vm := .none },
  { cls := 7, slots := #[.int (-44)], vm := .none },
  { cls := 7, slots := #[.int (-43)], vm := .none },
  { cls := 7, slots := #[.int (-42)], vm := .none },
  { cls := 7, slots := #[.int (-41)], vm := .none },
  { cls := 7, slots := #[.int (-40)], vm := .none },
  { cls := 7, slots := #[.int (-39)], vm := .none },
  { cls := 7, slots := #[.int (-38)], vm := .none },
  { cls := 7, slots := #[.int (-37)], vm := .none },
  { cls := 7, slots := #[.int (-36)], vm := .none },
  { cls := 7, slots := #[.int (-35)], vm := .none },
  { cls := 7, slots := #[.int (-34)], vm := .none },
  { cls := 7, slots := #[.int (-33)], vm := .none },
  { cls := 7, slots := #[.int (-32)], vm := .none },
  { cls := 7, slots := #[.int (-31)], vm := .none },
  { cls := 7, slots := #[.int (-30)], vm := .none },
  { cls := 7, slots := #[.int (-29)], vm := .none },
  { cls := 7, slots := #[.int (-28)], vm := .none },
  { cls := 7, slots := #[.int (-27)], vm := .none },
  { cls := 7, slots := #[.int (-26)], vm := .none },
  { cls := 7, slots := #[.int (-25)], vm := .none },
  { cls := 7, slots := #[.int (-24)], vm := .none },
  { cls := 7, slots := #[.int (-23)], vm := .none },
  { cls := 7, slots := #[.int (-22)], vm := .none },
  { cls := 7, slots := #[.int (-21)], vm := .none },
  { cls := 7, slots := #[.int (-20)], vm := .none },
  { cls := 7, slots := #[.int (-19)], vm := .none },
  { cls := 7, slots := #[.int (-18)], vm := .none },
  { cls := 7, slots := #[.int (-17)], vm := .none },
  { cls := 7, slots := #[.int (-16)], vm := .none },
  { cls := 7, slots := #[.int (-15)], vm := .none },
  { cls := 7, slots := #[.int (-14)], vm := .none },
  { cls := 7, slots := #[.int (-13)], vm := .none },
  { cls := 7, slots := #[.int (-12)], vm := .none },
  { cls := 7, slots := #[.int (-11)], vm := .none },
  { cls := 7, slots := #[.int (-10)], vm := .none },
  { cls := 7, slots := #[.int (-9)], vm := .none },
  { cls := 7, slots := #[.int (-8)], vm := .none },
  { cls := 7, slots := #[.int (-7)], vm := .none },
  { cls := 7, slots := #[.int (-6)], vm := .none },
  { cls := 7, slots := #[.int (-5)], vm := .none },
  { cls := 7, slots := #[.int (-4)], vm := .none },
  { cls := 7, slots := #[.int (-3)], vm := .none },
  { cls := 7, slots := #[.int (-2)], vm := .none },
  { cls := 7, slots := #[.int (-1)], vm := .none },
  { cls := 7, slots := #[.int (0)], vm := .none },
  { cls := 7, slots := #[.int (1)], vm := .none },
  { cls := 7, slots := #[.int (2)], vm := .none },
  { cls := 7, slots := #[.int (3)], vm := .none },
  { cls := 7, slots := #[.int (4)], vm := .none },
  { cls := 7, slots := #[.int (5)], vm := .none },
  { cls := 7, slots := #[.int (6)], vm := .none },
  { cls := 7, slots := #[.int (7)], vm := .none },
  { cls := 7, slots := #[.int (8)], vm := .none },
  { cls := 7, slots := #[.int (9)], vm := .none },
  { cls := 7, slots := #[.int (10)], vm := .none },
  { cls := 7, slots := #[.int (11)], vm := .none },
  { cls := 7, slots := #[.int (12)], vm := .none },
  { cls := 7, slots := #[.int (13)], vm := .none },
  { cls := 7, slots := #[.int (14)], vm := .none },
  { cls := 7, slots := #[.int (15)], vm := .none },
  { cls := 7, slots := #[.int (16)], vm := .none },
  { cls := 7, slots := #[.int (17)], vm := .none },
  { cls := 7, slots := #[.int (18)], vm := .none },
  { cls := 7, slots := #[.int (19)], vm := .none },
  { cls := 7, slots := #[.int (20)], vm := .none },
  { cls := 7, slots := #[.int (21)], vm := .none },
  { cls := 7, slots := #[.int (22)], vm := .none },
  { cls := 7, slots := #[.int (23)], vm := .none },
  { cls := 7, slots := #[.int (24)], vm := .none },
  { cls := 7, slots := #[.int (25)], vm := .none },
  { cls := 7, slots := #[.int (26)], vm := .none },
  { cls := 7, slots := #[.int (27)], vm := .none },
  { cls := 7, slots := #[.int (28)], vm := .none },
  { cls := 7, slots := #[.int (29)], vm := .none },
  { cls := 7, slots := #[.int (30)], vm := .none },
  { cls := 7, slots := #[.int (31)], vm := .none },
  { cls := 7, slots := #[.int (32)], vm := .none },
  { cls := 7, slots := #[.int (33)], vm := .none },
  { cls := 7, slots := #[.int (34)], vm := .none },
  { cls := 7, slots := #[.int (35)], vm := .none },
  { cls := 7, slots := #[.int (36)], vm := .none },
  { cls := 7, slots := #[.int (37)], vm := .none },
  { cls := 7, slots := #[.int (38)], vm := .none },
  { cls := 7, slots := #[.int (39)], vm := .none },
  { cls := 7, slots := #[.int (40)], vm := .none },
  { cls := 7, slots := #[.int (41)], vm := .none },
  { cls := 7, slots := #[.int (42)], vm := .none },
  { cls := 7, slots := #[.int (43)], vm := .none },
  { cls := 7, slots := #[.int (44)], vm := .none },
  { cls := 7, slots := #[.int (45)], vm := .none },
  { cls := 7, slots := #[.int (46)], vm := .none },
  { cls := 7, slots := #[.int (47)], vm := .none },
  { cls := 7, slots := #[.int (48)], vm := .none },
  { cls := 7, slots := #[.int (49)], vm := .none },
  { cls := 7, slots := #[.int (50)], vm := .none },
  { cls := 7, slots := #[.int (51)], vm := .none },
  { cls := 7, slots := #[.int (52)], vm := .none },
  { cls := 7, slots := #[.int (53)], vm := .none },
  { cls := 7, slots := #[.int (54)], vm := .none },
  { cls := 7, slots := #[.int (55)], vm := .none },
  { cls := 7, slots := #[.int (56)], vm := .none },
  { cls := 7, slots := #[.int (57)], vm := .none },
  { cls := 7, slots := #[.int (58)], vm := .none },
  { cls := 7, slots := #[.int (59)], vm := .none },
  { cls := 7, slots := #[.int (60)], vm := .none },
  { cls := 7, slots := #[.int (61)], vm := .none },
  { cls := 7, slots := #[.int (62)], vm := .none },
  { cls := 7, slots := #[.int (63)], vm := .none },
  { cls := 7, slots := #[.int (64)], vm := .none },
  { cls := 7, slots := #[.int (65)], vm := .none },
  { cls := 7, slots := #[.int (66)], vm := .none },
  { cls := 7, slots := #[.int (67)], vm := .none },
  { cls := 7, slots := #[.int (68)], vm := .none },
  { cls := 7, slots := #[.int (69)], vm := .none },
  { cls := 7, slots := #[.int (70)], vm := .none },
  { cls := 7, slots := #[.int (71)], vm := .none },
  { cls := 7, slots := #[.int (72)], vm := .none },
  { cls := 7, slots := #[.int (73)], vm := .none },
  { cls := 7, slots := #[.int (74)], vm := .none },
  { cls := 7, slots := #[.int (75)], vm := .none },
  { cls := 7, slots := #[.int (76)], vm := .none },
  { cls := 7, slots := #[.int (77)], vm := .none },
  { cls := 7, slots := #[.int (78)], vm := .none },
  { cls := 7, slots := #[.int (79)], vm := .none },
  { cls := 7, slots := #[.int (80)], vm := .none },
  { cls := 7, slots := #[.int (81)], vm := .none },
  { cls := 7, slots := #[.int (82)], vm := .none },
  { cls := 7, slots := #[.int (83)], vm := .none },
  { cls := 7, slots := #[.int (84)], vm := .none },
  { cls := 7, slots := #[.int (85)], vm := .none },
  { cls := 7, slots := #[.int (86)], vm := .none },
  { cls := 7, slots := #[.int (87)], vm := .none },
  { cls := 7, slots := #[.int (88)], vm := .none },
  { cls := 7, slots := #[.int (89)], vm := .none },
  { cls := 7, slots := #[.int (90)], vm := .none },
  { cls := 7, slots := #[.int (91)], vm := .none },
  { cls := 7, slots := #[.int (92)], vm := .none },
  { cls := 7, slots := #[.int (93)], vm := .none },
  { cls := 7, slots := #[.int (94)], vm := .none },
  { cls := 7, slots := #[.int (95)], vm := .none },
  { cls := 7, slots := #[.int (96)], vm := .none },
  { cls := 7, slots := #[.int (97)], vm := .none },
  { cls := 7, slots := #[.int (98)], vm := .none },
  { cls := 7, slots := #[.int (99)], vm := .none },
  { cls := 7, slots := #[.int (100)], vm := .none },
  { cls := 7, slots := #[.int (101)], vm := .none },
  { cls := 7, slots := #[.int (102)], vm := .none },
  { cls := 7, slots := #[.int (103)], vm := .none },
  { cls := 7, slots := #[.int (104)], vm := .none },
  { cls := 7, slots := #[.int (105)], vm := .none },
  { cls := 7, slots := #[.int (106)], vm := .none },
  { cls := 7, slots := #[.int (107)], vm := .none },
  { cls := 7, slots := #[.int (108)], vm := .none },
  { cls := 7, slots := #[.int (109)], vm := .none },
  { cls := 7, slots := #[.int (110)], vm := .none },
  { cls := 7, slots := #[.int (111)], vm := .none },
  { cls := 7, slots := #[.int (112)], vm := .none },
  { cls := 7, slots := #[.int (113)], vm := .none },
  { cls := 7, slots := #[.int (114)], vm := .none },
  { cls := 7, slots := #[.int (115)], vm := .none },
  { cls := 7, slots := #[.int (116)], vm := .none },
  { cls := 7, slots := #[.int (117)], vm := .none },
  { cls := 7, slots := #[.int (118)], vm := .none },
  { cls := 7, slots := #[.int (119)], vm := .none },
  { cls := 7, slots := #[.int (120)], vm := .none },
  { cls := 7, slots := #[.int (121)], vm := .none },
  { cls := 7, slots := #[.int (122)], vm := .none },
  { cls := 7, slots := #[.int (123)], vm := .none },
  { cls := 7, slots := #[.int (124)], vm := .none },
  { cls := 7, slots := #[.int (125)], vm := .none },
  { cls := 7, slots := #[.int (126)], vm := .none },
  { cls := 7, slots := #[.int (127)], vm := .none }]
def classes : Array Class := #[k0, k1, k2, k3, k4, k5, k6, k7, k8, k9, k10, k11, k12, k13, k14, k15, k16]
def interned : List (Array UInt16 × Addr) := []
def slotsUsed : Nat := 517
def theMethod : MethodId := ⟨1, 1⟩
def args0 : Array Value := #[.int 5, .int 3]
def aboutOver (below : List Frame) : State where
  vm := { classes := classes, interned := interned.toArray }
  heap := heap
  slotsUsed := slotsUsed
  threads := #[{ frames := .invoking theMethod args0 :: below }]
def below0 : List Frame := [.native { method := ⟨0, 0⟩, args := #[] }]
def about1 : State := aboutOver below0
def p0 : Program := .bare "" "" ""
def e0 : Env := launch0.env 0 0 0
theorem w_frames : about1.frames = Frame.invoking theMethod args0 :: below0 := rfl
set_option maxRecDepth 65536 in
theorem w_args : argsFit about1.vm theMethod args0 = true := by decide +kernel
set_option maxRecDepth 65536 in
theorem w_heap : heapFits about1 = true := by decide +kernel
set_option maxRecDepth 65536 in
theorem w_runnable : about1.curStatus? = some .runnable := by decide +kernel
set_option maxRecDepth 65536 in
theorem w_alone : about1.alone = true := by decide +kernel
set_option maxRecDepth 65536 in
theorem w_named : about1.methodNamed? x = some theMethod := by decide +kernel
set_option maxRecDepth 65536 in
theorem w_hears : about1.hears theMethod below0 = true := by decide +kernel
set_option maxRecDepth 65536 in
theorem w_ripe : about1.ripe theMethod args0 below0 = true := by decide +kernel
theorem w_running : about1.status = .running := rfl
set_option maxRecDepth 65536 in
theorem w_room : about1.hasRoom e0.platform room_1 = true :=
  launch0.hasRoom_least _ room_1 (by decide +kernel) (by decide +kernel) (by decide +kernel) (by decide +kernel) (by decide +kernel) (by decide +kernel)
theorem allAtoms_all (ts : List Jvm.Cond) (a : Array Jvm.Value) (st : Jvm.State) : (allAtoms ts).before a st = ts.all (fun c => c.before a st) := by
  induction ts with
  | nil => rfl
  | cons c t ih =>
    show (Jvm.Cond.and c (allAtoms t)).before a st = _
    rw [Jvm.Cond.before_and, ih, List.all_cons]
def words1 : List Jvm.Cond := Jvm.Cond.code x code maxLocals ret :: tables_1
/-- a 'code' word, met by the world's own term for the bytes: nothing is compared byte by byte -/
theorem code_word {y : MethodName} {bytes : ByteArray} {mx : Nat} {rt : Option FieldType} {a : Array Value} {s : State} {m : MethodId} {meth : Method} {c : Code} (h1 : s.methodNamed? y = some m) (h2 : s.vm.method? m = some meth) (h3 : meth.code = some c) (h4 : c.code = bytes)
    (h5 : (c.maxLocals == mx && c.exceptionTable.isEmpty && decide (c.maxStack ≤ mostOperands) && decide (meth.sig.returnType = rt) && !meth.locks && decide (parseMethodDescriptor y.desc = some meth.sig)) = true) : (Jvm.Cond.code y bytes mx rt).before a s = true := by
  simp only [Bool.and_eq_true, beq_iff_eq, Bool.not_eq_true', decide_eq_true_eq] at h5
  obtain ⟨⟨⟨⟨⟨g1, g2⟩, g3⟩, g4⟩, g5⟩, g6⟩ := h5
  simp [Cond.before, Cond.holds, Cond.value, h1, h2, h3, h4, g1, g2, g3, g4, g5, g6]
def isCode : Jvm.Cond → Bool
  | .code _ _ _ _ => true
  | _ => false
theorem all_split {L : List Jvm.Cond} {P : Jvm.Cond → Bool} (h1 : L.all (fun c => isCode c || P c) = true) (h2 : ∀ c ∈ L.filter isCode, P c = true) : L.all P = true := by
  refine List.all_eq_true.mpr fun c hc => ?_
  have h := List.all_eq_true.mp h1 c hc
  rcases Bool.eq_false_or_eq_true (isCode c) with hi | hi
  · exact h2 c (List.mem_filter.mpr ⟨hc, hi⟩)
  · simpa [hi] using h
set_option maxRecDepth 65536 in
theorem w_c0 : (Jvm.Cond.code x code maxLocals ret).before args0 about1 = true := code_word (m := ⟨1, 1⟩) (meth := k1m1) (c := k1c1) (by decide +kernel) rfl rfl rfl (by decide +kernel)
set_option maxRecDepth 65536 in
theorem w_c1 : (Jvm.Cond.code ({ cls := "java/lang/Integer", name := "valueOf", desc := "(I)Ljava/lang/Integer;" } : Jvm.MethodName) jdk_33_method_22_code (1 : Nat) (Option.some (Jvm.ClassFile.FieldType.object "java/lang/Integer"))).before args0 about1 = true := code_word (m := ⟨7, 0⟩) (meth := k7m0) (c := k7c0) (by decide +kernel) rfl rfl rfl (by decide +kernel)
set_option maxRecDepth 65536 in
theorem w_c2 : (Jvm.Cond.code ({ cls := "com/example/anemone/anemone/model/Recovered", name := "<init>", desc := "(Ljava/lang/Object;Z)V" } : Jvm.MethodName) prog_46_method_1_code (3 : Nat) (Option.none : Option Jvm.ClassFile.FieldType)).before args0 about1 = true := code_word (m := ⟨10, 0⟩) (meth := k10m0) (c := k10c0) (by decide +kernel) rfl rfl rfl (by decide +kernel)
set_option maxRecDepth 65536 in
theorem w_c3 : (Jvm.Cond.code ({ cls := "java/lang/Record", name := "<init>", desc := "()V" } : Jvm.MethodName) jdk_30_method_1_code (1 : Nat) (Option.none : Option Jvm.ClassFile.FieldType)).before args0 about1 = true := code_word (m := ⟨9, 0⟩) (meth := k9m0) (c := k9c0) (by decide +kernel) rfl rfl rfl (by decide +kernel)
set_option maxRecDepth 65536 in
theorem w_c4 : (Jvm.Cond.code ({ cls := "java/lang/Object", name := "<init>", desc := "()V" } : Jvm.MethodName) object_method_1_code (1 : Nat) (Option.none : Option Jvm.ClassFile.FieldType)).before args0 about1 = true := code_word (m := ⟨0, 0⟩) (meth := k0m0) (c := k0c0) (by decide +kernel) rfl rfl rfl (by decide +kernel)
set_option maxRecDepth 65536 in
theorem w_c5 : (Jvm.Cond.code ({ cls := "com/example/anemone/anemone/model/Recovered", name := "isNone", desc := "()Z" } : Jvm.MethodName) prog_46_method_5_code (1 : Nat) (Option.some Jvm.ClassFile.FieldType.boolean)).before args0 about1 = true := code_word (m := ⟨10, 4⟩) (meth := k10m4) (c := k10c4) (by decide +kernel) rfl rfl rfl (by decide +kernel)
set_option maxRecDepth 65536 in
theorem w_c6 : (Jvm.Cond.code ({ cls := "com/example/anemone/anemone/model/Recovered", name := "none", desc := "()Lcom/example/anemone/anemone/model/Recovered;" } : Jvm.MethodName) prog_46_method_2_code (0 : Nat) (Option.some (Jvm.ClassFile.FieldType.object "com/example/anemone/anemone/model/Recovered"))).before args0 about1 = true := code_word (m := ⟨10, 1⟩) (meth := k10m1) (c := k10c1) (by decide +kernel) rfl rfl rfl (by decide +kernel)
set_option maxRecDepth 65536 in
theorem w_c7 : (Jvm.Cond.code ({ cls := "com/example/anemone/anemone/model/Recovered", name := "unknown", desc := "()Lcom/example/anemone/anemone/model/Recovered;" } : Jvm.MethodName) prog_46_method_4_code (0 : Nat) (Option.some (Jvm.ClassFile.FieldType.object "com/example/anemone/anemone/model/Recovered"))).before args0 about1 = true := code_word (m := ⟨10, 3⟩) (meth := k10m3) (c := k10c3) (by decide +kernel) rfl rfl rfl (by decide +kernel)
set_option maxRecDepth 65536 in
theorem w_c8 : (Jvm.Cond.code ({ cls := "com/example/anemone/anemone/model/Recovered", name := "of", desc := "(Ljava/lang/Object;)Lcom/example/anemone/anemone/model/Recovered;" } : Jvm.MethodName) prog_46_method_3_code (1 : Nat) (Option.some (Jvm.ClassFile.FieldType.object "com/example/anemone/anemone/model/Recovered"))).before args0 about1 = true := code_word (m := ⟨10, 2⟩) (meth := k10m2) (c := k10c2) (by decide +kernel) rfl rfl rfl (by decide +kernel)
set_option maxRecDepth 65536 in
theorem w_c9 : (Jvm.Cond.code ({ cls := "java/lang/Integer", name := "<init>", desc := "(I)V" } : Jvm.MethodName) jdk_33_method_23_code (2 : Nat) (Option.none : Option Jvm.ClassFile.FieldType)).before args0 about1 = true := code_word (m := ⟨7, 1⟩) (meth := k7m1) (c := k7c1) (by decide +kernel) rfl rfl rfl (by decide +kernel)
set_option maxRecDepth 65536 in
theorem w_c10 : (Jvm.Cond.code ({ cls := "java/lang/Number", name := "<init>", desc := "()V" } : Jvm.MethodName) jdk_18_method_1_code (1 : Nat) (Option.none : Option Jvm.ClassFile.FieldType)).before args0 about1 = true := code_word (m := ⟨3, 0⟩) (meth := k3m0) (c := k3c0) (by decide +kernel) rfl rfl rfl (by decide +kernel)
def codes1 : List Jvm.Cond := [Jvm.Cond.code x code maxLocals ret, Jvm.Cond.code ({ cls := "java/lang/Integer", name := "valueOf", desc := "(I)Ljava/lang/Integer;" } : Jvm.MethodName) jdk_33_method_22_code (1 : Nat) (Option.some (Jvm.ClassFile.FieldType.object "java/lang/Integer")), Jvm.Cond.code ({ cls := "com/example/anemone/anemone/model/Recovered", name := "<init>", desc := "(Ljava/lang/Object;Z)V" } : Jvm.MethodName) prog_46_method_1_code (3 : Nat) (Option.none : Option Jvm.ClassFile.FieldType), Jvm.Cond.code ({ cls := "java/lang/Record", name := "<init>", desc := "()V" } : Jvm.MethodName) jdk_30_method_1_code (1 : Nat) (Option.none : Option Jvm.ClassFile.FieldType), Jvm.Cond.code ({ cls := "java/lang/Object", name := "<init>", desc := "()V" } : Jvm.MethodName) object_method_1_code (1 : Nat) (Option.none : Option Jvm.ClassFile.FieldType), Jvm.Cond.code ({ cls := "com/example/anemone/anemone/model/Recovered", name := "isNone", desc := "()Z" } : Jvm.MethodName) prog_46_method_5_code (1 : Nat) (Option.some Jvm.ClassFile.FieldType.boolean), Jvm.Cond.code ({ cls := "com/example/anemone/anemone/model/Recovered", name := "none", desc := "()Lcom/example/anemone/anemone/model/Recovered;" } : Jvm.MethodName) prog_46_method_2_code (0 : Nat) (Option.some (Jvm.ClassFile.FieldType.object "com/example/anemone/anemone/model/Recovered")), Jvm.Cond.code ({ cls := "com/example/anemone/anemone/model/Recovered", name := "unknown", desc := "()Lcom/example/anemone/anemone/model/Recovered;" } : Jvm.MethodName) prog_46_method_4_code (0 : Nat) (Option.some (Jvm.ClassFile.FieldType.object "com/example/anemone/anemone/model/Recovered")), Jvm.Cond.code ({ cls := "com/example/anemone/anemone/model/Recovered", name := "of", desc := "(Ljava/lang/Object;)Lcom/example/anemone/anemone/model/Recovered;" } : Jvm.MethodName) prog_46_method_3_code (1 : Nat) (Option.some (Jvm.ClassFile.FieldType.object "com/example/anemone/anemone/model/Recovered")), Jvm.Cond.code ({ cls := "java/lang/Integer", name := "<init>", desc := "(I)V" } : Jvm.MethodName) jdk_33_method_23_code (2 : Nat) (Option.none : Option Jvm.ClassFile.FieldType), Jvm.Cond.code ({ cls := "java/lang/Number", name := "<init>", desc := "()V" } : Jvm.MethodName) jdk_18_method_1_code (1 : Nat) (Option.none : Option Jvm.ClassFile.FieldType)]
set_option maxRecDepth 65536 in
theorem codes_eq : words1.filter isCode = codes1 := rfl
theorem w_codes : ∀ c ∈ words1.filter isCode, c.before args0 about1 = true := by
  rw [codes_eq]
  intro c hc
  simp only [codes1, List.mem_cons, List.not_mem_nil, or_false] at hc
  rcases hc with rfl | rfl | rfl | rfl | rfl | rfl | rfl | rfl | rfl | rfl | rfl
  · exact w_c0
  · exact w_c1
  · exact w_c2
  · exact w_c3
  · exact w_c4
  · exact w_c5
  · exact w_c6
  · exact w_c7
  · exact w_c8
  · exact w_c9
  · exact w_c10
set_option maxRecDepth 65536 in
theorem w_t1 : (words1.take 24).all (fun c => isCode c || c.before args0 about1) = true := by decide +kernel
set_option maxRecDepth 65536 in
theorem w_t2 : ((words1.drop 24).take 24).all (fun c => isCode c || c.before args0 about1) = true := by decide +kernel
set_option maxRecDepth 65536 in
theorem w_t3 : ((words1.drop 24).drop 24).all (fun c => isCode c || c.before args0 about1) = true := by decide +kernel
theorem w_tables : (allAtoms (Jvm.Cond.code x code maxLocals ret :: tables_1)).before args0 about1 = true := by
  rw [allAtoms_all]
  show words1.all (fun c => c.before args0 about1) = true
  refine all_split ?_ w_codes
  rw [← List.take_append_drop 24 words1, List.all_append, w_t1, ← List.take_append_drop 24 (words1.drop 24), List.all_append, w_t2, w_t3]
  rfl
set_option maxRecDepth 65536 in
theorem w_rest : rest_1_c.before args0 about1 = true := by decide +kernel
set_option maxRecDepth 65536 in
theorem w_case : (Jvm.Cond.and given_1 narrow_1).before args0 about1 = true := by decide +kernel
theorem w_applies : (headSpec (Jvm.Cond.code x code maxLocals ret :: tables_1) room_1).applies x e0.platform about1 = true :=
  (Spec.applies_iff w_frames).mpr ⟨w_running, w_runnable, w_alone, w_named, w_hears, w_ripe, w_room, w_tables⟩
theorem atStart : AtStart classFile x code maxLocals ret World_1 tables_1 room_1 Calls_1 rest_1 Pre_1 launch0 p0 e0 about1 theMethod args0 below0 :=
  ⟨lists_1, trivial, launch0.admits_env _ _ _, launch0.least_env, fairChoices_fair.cas, fairChoices_fair.clock, w_frames, w_args, w_heap, w_applies, trivial, w_rest, w_case⟩
end start1
theorem witness_1 : WitnessClaimed_1 := ⟨start1.p0, start1.e0, start1.about1, start1.theMethod, start1.args0, start1.below0, start1.atStart⟩
end Jvm.Pilot.@@N@@
