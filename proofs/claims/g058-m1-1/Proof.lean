import JvmDerived
import JvmDerived.Pilot.@@N@@Statement
import JvmDerived.Pilot.@@N@@Code
set_option linter.unusedVariables false
set_option linter.unusedSimpArgs false
@@BLOCK:NumsL.lean.txt@@
namespace Jvm.RoadKit
open Sem ClassFile Op Lib Jvm.Stand Jvm.Free Jvm.LawKit
section New
variable {p : Program} {l : Launch} {e : Env} {R : Room} {s : State} {m : MethodId} {args : Array Value} {below : List Frame} {meth : Method} {c : Code} {T : State} {locs : List Loc} {cells slots : Nat}
theorem retI (X : Stand p l e R s m args below meth c T locs cells slots) (hx : p.tables.exec = Jvm.exec) {pc : Nat} {Ls : Array Slot} {z : Int32} {rest : List Value} (hret : meth.sig.returnType = some .int) (hd : decode c.code pc = .ok (.ireturn, 1)) {fs : List Frame}
    (hl : ∀ (f : JFrame) (acts : List Action), f.method = m → f.locked = none → f.entered = [] → (doReturn e (T.setTop f) acts (some (.int z))).1 = T.setFrames fs) : Steps p.tables e below (T.setTop (mkF m pc Ls (.int z :: rest))) (T.setFrames fs) := by
  have hm' : T.vm.method? m = some meth := X.method'
  have hn : narrow .int (.int z) = .int z := rfl
  show Steps p.tables e below (T.setTop { method := m, pc := pc, locals := Ls, stack := _ :: rest, locked := none }) _
  jvm_step X.here [X.here.top, hx, hd, hm', hret, hn]
  first | (intro acts; rw [hl _ acts rfl rfl rfl]) | rw [hl _ _ rfl rfl rfl]
  exact Steps.refl _
end New
end Jvm.RoadKit
namespace Jvm.Pilot.@@N@@
open Jvm Jvm.ClassFile Sem Op Lib Jvm.Free Jvm.Stand Jvm.LawKit Jvm.RoadKit Bundle Jvm.Pilot.@@N@@.Jvm.D
def Wt (Z : State) (h : Heap) (a : Addr) (sn bl : Int64) (sp si : Int32) : Prop := Exa Z h a "com/example/leasehold/leasehold/link/ReplyWaits" ∧ Fld Z h a "com/example/leasehold/leasehold/link/ReplyWaits" "spunNanos" "J" (.long sn) ∧ Fld Z h a "com/example/leasehold/leasehold/link/ReplyWaits" "blockedNanos" "J" (.long bl) ∧ Fld Z h a "com/example/leasehold/leasehold/link/ReplyWaits" "spinning" "Z" (.int sp) ∧ Fld Z h a "com/example/leasehold/leasehold/link/ReplyWaits" "sinceOther" "I" (.int si) ∧ Sta Z h "com/example/leasehold/leasehold/link/ReplyWaits" "SPIN_NANOS" "J" (.long (100000 : Int64))
theorem own_init {Z : State} {args : Array Value} {k : Int64} {t : Term} (h : (Cond.eq t (.long k)).value args Z none Z [] = some true) : t.eval args Z none [] Z = some (.long k) := by
  simp only [Cond.value, Term.eval] at h
  cases ht : t.eval args Z none [] Z with
  | none => simp [ht] at h
  | some x => cases x <;> simp [ht] at h ⊢ <;> exact h
theorem Wt.w0 {Z : State} {a0 : Array Value} (hw : ∀ d ∈ tables_1, d.before a0 Z = true) {h h' : Heap} {a : Addr} {sn bl : Int64} {sp si : Int32} {v : Int64} (W : Wr h h' a (RoadKit.slotOf Z "com/example/leasehold/leasehold/link/ReplyWaits" "spunNanos" "J") (.long v)) (H : Wt Z h a sn bl sp si) : Wt Z h' a v bl sp si := ⟨H.1.wr W, H.2.1.same W, H.2.2.1.other W (Or.inr (slot_ne (Or.inl (hw _ (List.mem_of_getElem? (i := 20) rfl))) (Or.inl (hw _ (List.mem_of_getElem? (i := 15) rfl))) (by decide) (t := .long) (t' := .long) (by decide) (by decide))), H.2.2.2.1.other W (Or.inr (slot_ne (Or.inl (hw _ (List.mem_of_getElem? (i := 29) rfl))) (Or.inl (hw _ (List.mem_of_getElem? (i := 15) rfl))) (by decide) (t := .boolean) (t' := .long) (by decide) (by decide))), H.2.2.2.2.1.other W (Or.inr (slot_ne (Or.inl (hw _ (List.mem_of_getElem? (i := 31) rfl))) (Or.inl (hw _ (List.mem_of_getElem? (i := 15) rfl))) (by decide) (t := .int) (t' := .long) (by decide) (by decide))), H.2.2.2.2.2.wr W⟩
theorem Wt.w1 {Z : State} {a0 : Array Value} (hw : ∀ d ∈ tables_1, d.before a0 Z = true) {h h' : Heap} {a : Addr} {sn bl : Int64} {sp si : Int32} {v : Int64} (W : Wr h h' a (RoadKit.slotOf Z "com/example/leasehold/leasehold/link/ReplyWaits" "blockedNanos" "J") (.long v)) (H : Wt Z h a sn bl sp si) : Wt Z h' a sn v sp si := ⟨H.1.wr W, H.2.1.other W (Or.inr (slot_ne (Or.inl (hw _ (List.mem_of_getElem? (i := 15) rfl))) (Or.inl (hw _ (List.mem_of_getElem? (i := 20) rfl))) (by decide) (t := .long) (t' := .long) (by decide) (by decide))), H.2.2.1.same W, H.2.2.2.1.other W (Or.inr (slot_ne (Or.inl (hw _ (List.mem_of_getElem? (i := 29) rfl))) (Or.inl (hw _ (List.mem_of_getElem? (i := 20) rfl))) (by decide) (t := .boolean) (t' := .long) (by decide) (by decide))), H.2.2.2.2.1.other W (Or.inr (slot_ne (Or.inl (hw _ (List.mem_of_getElem? (i := 31) rfl))) (Or.inl (hw _ (List.mem_of_getElem? (i := 20) rfl))) (by decide) (t := .int) (t' := .long) (by decide) (by decide))), H.2.2.2.2.2.wr W⟩
theorem Wt.w2 {Z : State} {a0 : Array Value} (hw : ∀ d ∈ tables_1, d.before a0 Z = true) {h h' : Heap} {a : Addr} {sn bl : Int64} {sp si : Int32} {v : Int32} (W : Wr h h' a (RoadKit.slotOf Z "com/example/leasehold/leasehold/link/ReplyWaits" "spinning" "Z") (.int v)) (H : Wt Z h a sn bl sp si) : Wt Z h' a sn bl v si := ⟨H.1.wr W, H.2.1.other W (Or.inr (slot_ne (Or.inl (hw _ (List.mem_of_getElem? (i := 15) rfl))) (Or.inl (hw _ (List.mem_of_getElem? (i := 29) rfl))) (by decide) (t := .long) (t' := .boolean) (by decide) (by decide))), H.2.2.1.other W (Or.inr (slot_ne (Or.inl (hw _ (List.mem_of_getElem? (i := 20) rfl))) (Or.inl (hw _ (List.mem_of_getElem? (i := 29) rfl))) (by decide) (t := .long) (t' := .boolean) (by decide) (by decide))), H.2.2.2.1.same W, H.2.2.2.2.1.other W (Or.inr (slot_ne (Or.inl (hw _ (List.mem_of_getElem? (i := 31) rfl))) (Or.inl (hw _ (List.mem_of_getElem? (i := 29) rfl))) (by decide) (t := .int) (t' := .boolean) (by decide) (by decide))), H.2.2.2.2.2.wr W⟩
theorem Wt.w3 {Z : State} {a0 : Array Value} (hw : ∀ d ∈ tables_1, d.before a0 Z = true) {h h' : Heap} {a : Addr} {sn bl : Int64} {sp si : Int32} {v : Int32} (W : Wr h h' a (RoadKit.slotOf Z "com/example/leasehold/leasehold/link/ReplyWaits" "sinceOther" "I") (.int v)) (H : Wt Z h a sn bl sp si) : Wt Z h' a sn bl sp v := ⟨H.1.wr W, H.2.1.other W (Or.inr (slot_ne (Or.inl (hw _ (List.mem_of_getElem? (i := 15) rfl))) (Or.inl (hw _ (List.mem_of_getElem? (i := 31) rfl))) (by decide) (t := .long) (t' := .int) (by decide) (by decide))), H.2.2.1.other W (Or.inr (slot_ne (Or.inl (hw _ (List.mem_of_getElem? (i := 20) rfl))) (Or.inl (hw _ (List.mem_of_getElem? (i := 31) rfl))) (by decide) (t := .long) (t' := .int) (by decide) (by decide))), H.2.2.2.1.other W (Or.inr (slot_ne (Or.inl (hw _ (List.mem_of_getElem? (i := 29) rfl))) (Or.inl (hw _ (List.mem_of_getElem? (i := 31) rfl))) (by decide) (t := .boolean) (t' := .int) (by decide) (by decide))), H.2.2.2.2.1.same W, H.2.2.2.2.2.wr W⟩
theorem d1_0 : decode prog_48_method_1_code 0 = .ok (.aload_n 0, 1) := by decide +kernel
theorem d1_1 : decode prog_48_method_1_code 1 = .ok (.invokespecial 1, 3) := by decide +kernel
theorem d1_4 : decode prog_48_method_1_code 4 = .ok (.return_, 1) := by decide +kernel
theorem pn_1 : plainName "com/example/leasehold/leasehold/link/ReplyWaits" = true := by first | (simp [plainName, overriddenIn]; done) | decide +kernel
theorem ef_1 (m : MethodId) (x0 : Addr) : entryFrame m #[(.ref x0)] 1 = mkF m 0 #[.val (.ref x0)] [] := by first | (simp [entryFrame, mkF, argsToLocals, Value.category]; done) | rfl
def Q1 (Z : State) (a1 : Addr) (h0 : Heap) (n0 : Nat) (v : Option Value) (h : Heap) (L : List Loc) : Prop := v = none ∧ Fr n0 L ∧ h = h0
set_option maxRecDepth 65536 in
set_option maxHeartbeats 40000000 in
theorem rm1 (l : Launch) (Z : State) (a0 : Array Value) (hw : ∀ d ∈ tables_1, d.before a0 Z = true) (ws : List Jvm.Cond) (a1 : Addr) (h0 : Heap) (n0 : Nat) (Z0 : n0 ≤ h0.size) :
    MetFree l (⟨"com/example/leasehold/leasehold/link/ReplyWaits", "<init>", "()V"⟩ : MethodName) (head1 (Jvm.Cond.code (⟨"com/example/leasehold/leasehold/link/ReplyWaits", "<init>", "()V"⟩ : MethodName) prog_48_method_1_code 1 none :: ws) ({ frames := 1, cells := 0, slots := 0, locals := 12 } : Room)) (fun a U => a = #[(.ref a1)] ∧ Z.Warmed39 U.vm ∧ U.heap = h0) (fun _ _ _ _ _ => True) (fun _ U o U' => ∃ v L, o = .returned v ∧ Q1 Z a1 h0 n0 v U'.heap L ∧ FrameEnd U o U' L ({ frames := 1, cells := 0, slots := 0, locals := 12 } : Room).cells ({ frames := 1, cells := 0, slots := 0, locals := 12 } : Room).slots) := by
  refine MetFree.of_bodySF (plainFor_of_name pn_1) hisR ?_
  intro p e s m args below meth c s₁ Bd hml0 hP hK
  obtain ⟨rfl, hZ, hh⟩ := hP
  have hx := Bd.exec
  have hby := Bd.bytes
  have hml : c.maxLocals = 1 := hml0
  have hown : s.vm.findClass "com/example/leasehold/leasehold/link/ReplyWaits" = some m.cls := findClass_of_methodNamed Bd.named
  have hnm := (name_of_methodNamed Bd.named Bd.method).1
  have X0 : Stand p l e ({ frames := 1, cells := 0, slots := 0, locals := 12 } : Room) s m #[(.ref a1)] below meth c s₁ [] 0 0 := Stand.of_body Bd
  have e0 : s₁.heap = h0 := by rw [← hh, Bd.state]; rfl
  have N0 := Fr.nil n0
  have pre0 : ∀ t, Steps p.tables e below (s₁.setTop (mkF m 0 #[.val (.ref a1)] [])) t → Steps p.tables e below (s₁.setTop (entryFrame m #[(.ref a1)] 1)) t := fun t k => castTop (ef_1 m a1) k
  obtain ⟨T2, X2, e2, st2⟩ := initO X0 hx hZ hown (hw _ (List.mem_of_getElem? (i := 6) rfl)) (hw _ (List.mem_of_getElem? (i := 7) rfl)) (hw _ (List.mem_of_getElem? (i := 8) rfl)) e0 (g := (mkF m 1 #[.val (.ref a1)] [(.ref a1)])) rfl (by rw [hml]; rfl) rfl (hb hby d1_1) (by decide) (W := 0) (by show 2 * 0 + _ ≤ _; exact Nat.le_of_eq rfl) (by decide)
  obtain ⟨fs, hr, hrun, hended, hW, hsame⟩ := X2.leave (v := none) (fun _ => rfl)
  refine ⟨_, _, pre0 _ ?_, hrun, hended, _, _, rfl, ?_, ⟨_, rfl⟩, hW, hsame.mono (by decide) (by decide)⟩
  · show Steps p.tables e below (s₁.setTop (mkF m 0 #[.val (.ref a1)] [])) _
    refine XS.aloadN X0.here hx rfl (hb hby d1_0) rfl rfl ?_
    show Steps p.tables e below (s₁.setTop (mkF m 1 #[.val (.ref a1)] [(.ref a1)])) _
    refine st2 _ ?_
    show Steps p.tables e below (T2.setTop (mkF m 4 #[.val (.ref a1)] [])) _
    exact X2.returnOut hx Bd.returns (hb hby d1_4) hr
  · show Q1 Z a1 _ n0 _ T2.heap _
    rw [e2]
    exact ⟨rfl, N0, rfl⟩
theorem d4_0 : decode prog_48_method_4_code 0 = .ok (.lload_n 0, 1) := by decide +kernel
theorem d4_1 : decode prog_48_method_4_code 1 = .ok (.lconst 0, 1) := by decide +kernel
theorem d4_2 : decode prog_48_method_4_code 2 = .ok (.lcmp, 1) := by decide +kernel
theorem d4_3 : decode prog_48_method_4_code 3 = .ok (.ifCond .ne 5, 3) := by decide +kernel
theorem d4_6 : decode prog_48_method_4_code 6 = .ok (.lload_n 2, 1) := by decide +kernel
theorem d4_7 : decode prog_48_method_4_code 7 = .ok (.lreturn, 1) := by decide +kernel
theorem pn_4 : plainName "com/example/leasehold/leasehold/link/ReplyWaits" = true := by first | (simp [plainName, overriddenIn]; done) | decide +kernel
theorem ef_4 (m : MethodId) (x0 : Int64) (x1 : Int64) : entryFrame m #[(.long x0), (.long x1)] 6 = mkF m 0 #[.val (.long x0), .second, .val (.long x1), .second, .unset, .unset] [] := by first | (simp [entryFrame, mkF, argsToLocals, Value.category]; done) | rfl
def Q4 (Z : State) (q1 : Int64) (q2 : Int64) (h0 : Heap) (n0 : Nat) (v : Option Value) (h : Heap) (L : List Loc) : Prop := v = some (.long q2) ∧ Fr n0 L ∧ h = h0
set_option maxRecDepth 65536 in
set_option maxHeartbeats 40000000 in
theorem rm4 (l : Launch) (Z : State) (a0 : Array Value) (hw : ∀ d ∈ tables_1, d.before a0 Z = true) (ws : List Jvm.Cond) (q1 : Int64) (q2 : Int64) (h0 : Heap) (n0 : Nat) (Z0 : n0 ≤ h0.size) (hc3 : (lcmpW q1 (0 : Int64)) = (0 : Int32)) :
    MetFree l (⟨"com/example/leasehold/leasehold/link/ReplyWaits", "average", "(JJ)J"⟩ : MethodName) (head1 (Jvm.Cond.code (⟨"com/example/leasehold/leasehold/link/ReplyWaits", "average", "(JJ)J"⟩ : MethodName) prog_48_method_4_code 6 (some .long) :: ws) ({ frames := 0, cells := 0, slots := 0, locals := 0 } : Room)) (fun a U => a = #[(.long q1), (.long q2)] ∧ Z.Warmed39 U.vm ∧ U.heap = h0) (fun _ _ _ _ _ => True) (fun _ U o U' => ∃ v L, o = .returned v ∧ Q4 Z q1 q2 h0 n0 v U'.heap L ∧ FrameEnd U o U' L ({ frames := 0, cells := 0, slots := 0, locals := 0 } : Room).cells ({ frames := 0, cells := 0, slots := 0, locals := 0 } : Room).slots) := by
  refine MetFree.of_bodySF (plainFor_of_name pn_4) hisR ?_
  intro p e s m args below meth c s₁ Bd hml0 hP hK
  obtain ⟨rfl, hZ, hh⟩ := hP
  have hx := Bd.exec
  have hby := Bd.bytes
  have hml : c.maxLocals = 6 := hml0
  have hown : s.vm.findClass "com/example/leasehold/leasehold/link/ReplyWaits" = some m.cls := findClass_of_methodNamed Bd.named
  have hnm := (name_of_methodNamed Bd.named Bd.method).1
  have X0 : Stand p l e ({ frames := 0, cells := 0, slots := 0, locals := 0 } : Room) s m #[(.long q1), (.long q2)] below meth c s₁ [] 0 0 := Stand.of_body Bd
  have e0 : s₁.heap = h0 := by rw [← hh, Bd.state]; rfl
  have N0 := Fr.nil n0
  have pre0 : ∀ t, Steps p.tables e below (s₁.setTop (mkF m 0 #[.val (.long q1), .second, .val (.long q2), .second, .unset, .unset] [])) t → Steps p.tables e below (s₁.setTop (entryFrame m #[(.long q1), (.long q2)] 6)) t := fun t k => castTop (ef_4 m q1 q2) k
  obtain ⟨fs, hr, hrun, hended, hW, hsame⟩ := X0.leave (v := some (.long q2)) (fun h => by rw [Bd.returns] at h; cases h)
  refine ⟨_, _, pre0 _ ?_, hrun, hended, _, _, rfl, ?_, ⟨_, rfl⟩, hW, hsame.mono (by decide) (by decide)⟩
  · show Steps p.tables e below (s₁.setTop (mkF m 0 #[.val (.long q1), .second, .val (.long q2), .second, .unset, .unset] [])) _
    refine XS.lloadN X0.here hx rfl (hb hby d4_0) rfl ?_
    show Steps p.tables e below (s₁.setTop (mkF m 1 #[.val (.long q1), .second, .val (.long q2), .second, .unset, .unset] [(.long q1)])) _
    refine XS.lconst X0.here hx rfl (hb hby d4_1) ?_
    show Steps p.tables e below (s₁.setTop (mkF m 2 #[.val (.long q1), .second, .val (.long q2), .second, .unset, .unset] [(.long (0 : Int64)), (.long q1)])) _
    refine XS.lcmp X0.here hx rfl (hb hby d4_2) rfl ?_
    show Steps p.tables e below (s₁.setTop (mkF m 3 #[.val (.long q1), .second, .val (.long q2), .second, .unset, .unset] [(.int (lcmpW q1 (0 : Int64)))])) _
    refine XS.ifNo X0.here hx rfl (hb hby d4_3) rfl ((if0 _ _).trans (teq hc3).2) ?_
    show Steps p.tables e below (s₁.setTop (mkF m 6 #[.val (.long q1), .second, .val (.long q2), .second, .unset, .unset] [])) _
    refine XS.lloadN X0.here hx rfl (hb hby d4_6) rfl ?_
    show Steps p.tables e below (s₁.setTop (mkF m 7 #[.val (.long q1), .second, .val (.long q2), .second, .unset, .unset] [(.long q2)])) _
    jvm_step X0.here [X0.here.top, hx, (hb hby d4_7), X0.method', Bd.returns, narrow]
    first | (intro acts; rw [hr _ acts rfl rfl rfl]) | rw [hr _ _ rfl rfl rfl]
    exact Steps.refl _
  · show Q4 Z q1 q2 _ n0 _ s₁.heap _
    rw [e0]
    exact ⟨rfl, N0, rfl⟩
theorem d3_0 : decode prog_48_method_3_code 0 = .ok (.iload_n 1, 1) := by decide +kernel
theorem d3_1 : decode prog_48_method_3_code 1 = .ok (.ifCond .eq 18, 3) := by decide +kernel
theorem d3_4 : decode prog_48_method_3_code 4 = .ok (.aload_n 0, 1) := by decide +kernel
theorem d3_5 : decode prog_48_method_3_code 5 = .ok (.aload_n 0, 1) := by decide +kernel
theorem d3_6 : decode prog_48_method_3_code 6 = .ok (.getfield 20, 3) := by decide +kernel
theorem d3_9 : decode prog_48_method_3_code 9 = .ok (.lload_n 2, 1) := by decide +kernel
theorem d3_10 : decode prog_48_method_3_code 10 = .ok (.invokestatic 27, 3) := by decide +kernel
theorem d3_13 : decode prog_48_method_3_code 13 = .ok (.putfield 20, 3) := by decide +kernel
theorem d3_16 : decode prog_48_method_3_code 16 = .ok (.goto 15, 3) := by decide +kernel
theorem d3_31 : decode prog_48_method_3_code 31 = .ok (.return_, 1) := by decide +kernel
theorem pn_3y : plainName "com/example/leasehold/leasehold/link/ReplyWaits" = true := by first | (simp [plainName, overriddenIn]; done) | decide +kernel
theorem pd_3_2y : parseMethodDescriptor "(JJ)J" = some ⟨[.long, .long], some .long⟩ := by decide +kernel
theorem ef_3y (m : MethodId) (x0 : Addr) (x1 : Int32) (x2 : Int64) : entryFrame m #[(.ref x0), (.int x1), (.long x2)] 4 = mkF m 0 #[.val (.ref x0), .val (.int x1), .val (.long x2), .second] [] := by first | (simp [entryFrame, mkF, argsToLocals, Value.category]; done) | rfl
def Q3y (Z : State) (a1 : Addr) (p2 : Int32) (q3 : Int64) (sn bl : Int64) (sp si : Int32) (h0 : Heap) (n0 : Nat) (v : Option Value) (h : Heap) (L : List Loc) : Prop := v = none ∧ Fr n0 L ∧ Wt Z h a1 q3 bl sp si
set_option maxRecDepth 65536 in
set_option maxHeartbeats 40000000 in
theorem rm3y (l : Launch) (Z : State) (a0 : Array Value) (hw : ∀ d ∈ tables_1, d.before a0 Z = true) (ws : List Jvm.Cond) (a1 : Addr) (p2 : Int32) (q3 : Int64) (h0 : Heap) (n0 : Nat) (Z0 : n0 ≤ h0.size) (F_spunNanos_a1 : Fld Z h0 a1 "com/example/leasehold/leasehold/link/ReplyWaits" "spunNanos" "J" (.long (0 : Int64))) (E_a1 : Exa Z h0 a1 "com/example/leasehold/leasehold/link/ReplyWaits") (g_a1 : n0 ≤ a1) (hc1 : ¬ (p2 = (0 : Int32))) {bl : Int64} {sp : Int32} {si : Int32} (H : Wt Z h0 a1 (0 : Int64) bl sp si) :
    MetFree l (⟨"com/example/leasehold/leasehold/link/ReplyWaits", "took", "(ZJ)V"⟩ : MethodName) (head1 (Jvm.Cond.code (⟨"com/example/leasehold/leasehold/link/ReplyWaits", "took", "(ZJ)V"⟩ : MethodName) prog_48_method_3_code 4 none :: ws) ({ frames := 1, cells := 0, slots := 0, locals := 18 } : Room)) (fun a U => a = #[(.ref a1), (.int p2), (.long q3)] ∧ Z.Warmed39 U.vm ∧ U.heap = h0) (fun _ _ _ _ _ => True) (fun _ U o U' => ∃ v L, o = .returned v ∧ Q3y Z a1 p2 q3 (0 : Int64) bl sp si h0 n0 v U'.heap L ∧ FrameEnd U o U' L ({ frames := 1, cells := 0, slots := 0, locals := 18 } : Room).cells ({ frames := 1, cells := 0, slots := 0, locals := 18 } : Room).slots) := by
  refine MetFree.of_bodySF (plainFor_of_name pn_3y) hisR ?_
  intro p e s m args below meth c s₁ Bd hml0 hP hK
  obtain ⟨rfl, hZ, hh⟩ := hP
  have hx := Bd.exec
  have hby := Bd.bytes
  have hml : c.maxLocals = 4 := hml0
  have hown : s.vm.findClass "com/example/leasehold/leasehold/link/ReplyWaits" = some m.cls := findClass_of_methodNamed Bd.named
  have hnm := (name_of_methodNamed Bd.named Bd.method).1
  have X0 : Stand p l e ({ frames := 1, cells := 0, slots := 0, locals := 18 } : Room) s m #[(.ref a1), (.int p2), (.long q3)] below meth c s₁ [] 0 0 := Stand.of_body Bd
  have e0 : s₁.heap = h0 := by rw [← hh, Bd.state]; rfl
  have N0 := Fr.nil n0
  have pre0 : ∀ t, Steps p.tables e below (s₁.setTop (mkF m 0 #[.val (.ref a1), .val (.int p2), .val (.long q3), .second] [])) t → Steps p.tables e below (s₁.setTop (entryFrame m #[(.ref a1), (.int p2), (.long q3)] 4)) t := fun t k => castTop (ef_3y m a1 p2 q3) k
  obtain ⟨T5, X5, e5, st5⟩ := getF X0 hx hZ hown (host := "") (Or.inl (hw _ (List.mem_of_getElem? (i := 14) rfl))) Via.refl e0 F_spunNanos_a1 (g := (mkF m 6 #[.val (.ref a1), .val (.int p2), .val (.long q3), .second] [(.ref a1), (.ref a1)])) rfl rfl (hb hby d3_6)
  obtain ⟨_, _, ⟨T6, L6, k6, n6⟩, -, X6, ⟨Lc6, hQ6, l6, y6, z6⟩, st6⟩ := Jvm.LawKit.callS X5 hx (y := (⟨"com/example/leasehold/leasehold/link/ReplyWaits", "average", "(JJ)J"⟩ : MethodName)) hown (mvT hZ (hw _ (List.mem_of_getElem? (i := 16) rfl))) (mvT hZ (hw _ (List.mem_of_getElem? (i := 17) rfl))) (mvT hZ (hw _ (List.mem_of_getElem? (i := 2) rfl))) (mvT hZ (hw _ (List.mem_of_getElem? (i := 18) rfl))) (by decide) (backOf (W := 1) (rm4 l Z a0 hw [] (0 : Int64) q3 h0 n0 Z0 rfl) hZ (hw _ (List.mem_of_getElem? (i := 18) rfl)) (hw _ (List.mem_of_getElem? (i := 2) rfl)) (by decide) (by decide)) (g := (mkF m 10 #[.val (.ref a1), .val (.int p2), .val (.long q3), .second] [(.long q3), (.long (0 : Int64)), (.ref a1)])) rfl (by rw [hml]; rfl) (argsL := [(.long (0 : Int64)), (.long q3)]) (rest := [(.ref a1)]) (lenOf pd_3_2y rfl) rfl (by show 2 * 0 + _ ≤ _; exact Nat.le_of_eq rfl) (hb hby d3_10) (fun _ _ => ⟨rfl, e5, (by decide : 0 + 0 ≤ _), (by decide : 0 + 0 ≤ _)⟩)
  dsimp only [Pt.U, Pt.locs, Pt.cells, Pt.slots] at X6 l6 y6 z6 st6 hQ6
  subst l6 y6 z6
  obtain ⟨rfl, N6q, rfl⟩ := hQ6
  have N6 := Fr.app N0 N6q
  obtain ⟨T7, h7, X7, e7, W7, st7⟩ := putF X6 hx hZ hown (host := "") (Or.inl (hw _ (List.mem_of_getElem? (i := 14) rfl))) Via.refl rfl F_spunNanos_a1 E_a1 (Or.inl (hw _ (List.mem_of_getElem? (i := 15) rfl))) (hw _ (List.mem_of_getElem? (i := 1) rfl)) (ty := .long) (by decide) rfl rfl (g := (mkF m 13 #[.val (.ref a1), .val (.int p2), .val (.long q3), .second] [(.long q3), (.ref a1)])) rfl rfl (hb hby d3_13)
  have Fw7 := F_spunNanos_a1.same W7
  have N7 := Fr.snoc X7 N6 g_a1
  obtain ⟨fs, hr, hrun, hended, hW, hsame⟩ := X7.leave (v := none) (fun _ => rfl)
  refine ⟨_, _, pre0 _ ?_, hrun, hended, _, _, rfl, ?_, ⟨_, rfl⟩, hW, hsame.mono (by decide) (by decide)⟩
  · show Steps p.tables e below (s₁.setTop (mkF m 0 #[.val (.ref a1), .val (.int p2), .val (.long q3), .second] [])) _
    refine XS.iloadN X0.here hx rfl (hb hby d3_0) rfl ?_
    show Steps p.tables e below (s₁.setTop (mkF m 1 #[.val (.ref a1), .val (.int p2), .val (.long q3), .second] [(.int p2)])) _
    refine XS.ifNo X0.here hx rfl (hb hby d3_1) rfl ((if0 _ _).trans (feq hc1).1) ?_
    show Steps p.tables e below (s₁.setTop (mkF m 4 #[.val (.ref a1), .val (.int p2), .val (.long q3), .second] [])) _
    refine XS.aloadN X0.here hx rfl (hb hby d3_4) rfl rfl ?_
    show Steps p.tables e below (s₁.setTop (mkF m 5 #[.val (.ref a1), .val (.int p2), .val (.long q3), .second] [(.ref a1)])) _
    refine XS.aloadN X0.here hx rfl (hb hby d3_5) rfl rfl ?_
    show Steps p.tables e below (s₁.setTop (mkF m 6 #[.val (.ref a1), .val (.int p2), .val (.long q3), .second] [(.ref a1), (.ref a1)])) _
    refine st5 _ ?_
    show Steps p.tables e below (T5.setTop (mkF m 9 #[.val (.ref a1), .val (.int p2), .val (.long q3), .second] [(.long (0 : Int64)), (.ref a1)])) _
    refine XS.lloadN X5.here hx rfl (hb hby d3_9) rfl ?_
    show Steps p.tables e below (T5.setTop (mkF m 10 #[.val (.ref a1), .val (.int p2), .val (.long q3), .second] [(.long q3), (.long (0 : Int64)), (.ref a1)])) _
    refine st6 _ ?_
    show Steps p.tables e below (T6.setTop (mkF m 13 #[.val (.ref a1), .val (.int p2), .val (.long q3), .second] [(.long q3), (.ref a1)])) _
    refine st7 _ ?_
    show Steps p.tables e below (T7.setTop (mkF m 16 #[.val (.ref a1), .val (.int p2), .val (.long q3), .second] [])) _
    refine XS.goto X7.here hx rfl (pc0 := 16) (pc' := 31) rfl (hb hby d3_16) (by decide) (by decide) ?_
    show Steps p.tables e below (T7.setTop (mkF m 31 #[.val (.ref a1), .val (.int p2), .val (.long q3), .second] [])) _
    exact X7.returnOut hx Bd.returns (hb hby d3_31) hr
  · show Q3y Z a1 p2 q3 (0 : Int64) bl sp si _ n0 _ T7.heap _
    rw [e7]
    exact ⟨rfl, N7, H.w0 hw W7⟩
theorem d3_19 : decode prog_48_method_3_code 19 = .ok (.aload_n 0, 1) := by decide +kernel
theorem d3_20 : decode prog_48_method_3_code 20 = .ok (.aload_n 0, 1) := by decide +kernel
theorem d3_21 : decode prog_48_method_3_code 21 = .ok (.getfield 7, 3) := by decide +kernel
theorem d3_24 : decode prog_48_method_3_code 24 = .ok (.lload_n 2, 1) := by decide +kernel
theorem d3_25 : decode prog_48_method_3_code 25 = .ok (.invokestatic 27, 3) := by decide +kernel
theorem d3_28 : decode prog_48_method_3_code 28 = .ok (.putfield 7, 3) := by decide +kernel
theorem pn_3n : plainName "com/example/leasehold/leasehold/link/ReplyWaits" = true := by first | (simp [plainName, overriddenIn]; done) | decide +kernel
theorem pd_3_2n : parseMethodDescriptor "(JJ)J" = some ⟨[.long, .long], some .long⟩ := by decide +kernel
theorem ef_3n (m : MethodId) (x0 : Addr) (x1 : Int32) (x2 : Int64) : entryFrame m #[(.ref x0), (.int x1), (.long x2)] 4 = mkF m 0 #[.val (.ref x0), .val (.int x1), .val (.long x2), .second] [] := by first | (simp [entryFrame, mkF, argsToLocals, Value.category]; done) | rfl
def Q3n (Z : State) (a1 : Addr) (p2 : Int32) (q3 : Int64) (sn bl : Int64) (sp si : Int32) (h0 : Heap) (n0 : Nat) (v : Option Value) (h : Heap) (L : List Loc) : Prop := v = none ∧ Fr n0 L ∧ Wt Z h a1 sn q3 sp si
set_option maxRecDepth 65536 in
set_option maxHeartbeats 40000000 in
theorem rm3n (l : Launch) (Z : State) (a0 : Array Value) (hw : ∀ d ∈ tables_1, d.before a0 Z = true) (ws : List Jvm.Cond) (a1 : Addr) (p2 : Int32) (q3 : Int64) (h0 : Heap) (n0 : Nat) (Z0 : n0 ≤ h0.size) (F_blockedNanos_a1 : Fld Z h0 a1 "com/example/leasehold/leasehold/link/ReplyWaits" "blockedNanos" "J" (.long (0 : Int64))) (E_a1 : Exa Z h0 a1 "com/example/leasehold/leasehold/link/ReplyWaits") (g_a1 : n0 ≤ a1) (hc1 : p2 = (0 : Int32)) {sn : Int64} {sp : Int32} {si : Int32} (H : Wt Z h0 a1 sn (0 : Int64) sp si) :
    MetFree l (⟨"com/example/leasehold/leasehold/link/ReplyWaits", "took", "(ZJ)V"⟩ : MethodName) (head1 (Jvm.Cond.code (⟨"com/example/leasehold/leasehold/link/ReplyWaits", "took", "(ZJ)V"⟩ : MethodName) prog_48_method_3_code 4 none :: ws) ({ frames := 1, cells := 0, slots := 0, locals := 18 } : Room)) (fun a U => a = #[(.ref a1), (.int p2), (.long q3)] ∧ Z.Warmed39 U.vm ∧ U.heap = h0) (fun _ _ _ _ _ => True) (fun _ U o U' => ∃ v L, o = .returned v ∧ Q3n Z a1 p2 q3 sn (0 : Int64) sp si h0 n0 v U'.heap L ∧ FrameEnd U o U' L ({ frames := 1, cells := 0, slots := 0, locals := 18 } : Room).cells ({ frames := 1, cells := 0, slots := 0, locals := 18 } : Room).slots) := by
  refine MetFree.of_bodySF (plainFor_of_name pn_3n) hisR ?_
  intro p e s m args below meth c s₁ Bd hml0 hP hK
  obtain ⟨rfl, hZ, hh⟩ := hP
  have hx := Bd.exec
  have hby := Bd.bytes
  have hml : c.maxLocals = 4 := hml0
  have hown : s.vm.findClass "com/example/leasehold/leasehold/link/ReplyWaits" = some m.cls := findClass_of_methodNamed Bd.named
  have hnm := (name_of_methodNamed Bd.named Bd.method).1
  have X0 : Stand p l e ({ frames := 1, cells := 0, slots := 0, locals := 18 } : Room) s m #[(.ref a1), (.int p2), (.long q3)] below meth c s₁ [] 0 0 := Stand.of_body Bd
  have e0 : s₁.heap = h0 := by rw [← hh, Bd.state]; rfl
  have N0 := Fr.nil n0
  have pre0 : ∀ t, Steps p.tables e below (s₁.setTop (mkF m 0 #[.val (.ref a1), .val (.int p2), .val (.long q3), .second] [])) t → Steps p.tables e below (s₁.setTop (entryFrame m #[(.ref a1), (.int p2), (.long q3)] 4)) t := fun t k => castTop (ef_3n m a1 p2 q3) k
  obtain ⟨T5, X5, e5, st5⟩ := getF X0 hx hZ hown (host := "") (Or.inl (hw _ (List.mem_of_getElem? (i := 19) rfl))) Via.refl e0 F_blockedNanos_a1 (g := (mkF m 21 #[.val (.ref a1), .val (.int p2), .val (.long q3), .second] [(.ref a1), (.ref a1)])) rfl rfl (hb hby d3_21)
  obtain ⟨_, _, ⟨T6, L6, k6, n6⟩, -, X6, ⟨Lc6, hQ6, l6, y6, z6⟩, st6⟩ := Jvm.LawKit.callS X5 hx (y := (⟨"com/example/leasehold/leasehold/link/ReplyWaits", "average", "(JJ)J"⟩ : MethodName)) hown (mvT hZ (hw _ (List.mem_of_getElem? (i := 16) rfl))) (mvT hZ (hw _ (List.mem_of_getElem? (i := 17) rfl))) (mvT hZ (hw _ (List.mem_of_getElem? (i := 2) rfl))) (mvT hZ (hw _ (List.mem_of_getElem? (i := 18) rfl))) (by decide) (backOf (W := 1) (rm4 l Z a0 hw [] (0 : Int64) q3 h0 n0 Z0 rfl) hZ (hw _ (List.mem_of_getElem? (i := 18) rfl)) (hw _ (List.mem_of_getElem? (i := 2) rfl)) (by decide) (by decide)) (g := (mkF m 25 #[.val (.ref a1), .val (.int p2), .val (.long q3), .second] [(.long q3), (.long (0 : Int64)), (.ref a1)])) rfl (by rw [hml]; rfl) (argsL := [(.long (0 : Int64)), (.long q3)]) (rest := [(.ref a1)]) (lenOf pd_3_2n rfl) rfl (by show 2 * 0 + _ ≤ _; exact Nat.le_of_eq rfl) (hb hby d3_25) (fun _ _ => ⟨rfl, e5, (by decide : 0 + 0 ≤ _), (by decide : 0 + 0 ≤ _)⟩)
  dsimp only [Pt.U, Pt.locs, Pt.cells, Pt.slots] at X6 l6 y6 z6 st6 hQ6
  subst l6 y6 z6
  obtain ⟨rfl, N6q, rfl⟩ := hQ6
  have N6 := Fr.app N0 N6q
  obtain ⟨T7, h7, X7, e7, W7, st7⟩ := putF X6 hx hZ hown (host := "") (Or.inl (hw _ (List.mem_of_getElem? (i := 19) rfl))) Via.refl rfl F_blockedNanos_a1 E_a1 (Or.inl (hw _ (List.mem_of_getElem? (i := 20) rfl))) (hw _ (List.mem_of_getElem? (i := 1) rfl)) (ty := .long) (by decide) rfl rfl (g := (mkF m 28 #[.val (.ref a1), .val (.int p2), .val (.long q3), .second] [(.long q3), (.ref a1)])) rfl rfl (hb hby d3_28)
  have Fw7 := F_blockedNanos_a1.same W7
  have N7 := Fr.snoc X7 N6 g_a1
  obtain ⟨fs, hr, hrun, hended, hW, hsame⟩ := X7.leave (v := none) (fun _ => rfl)
  refine ⟨_, _, pre0 _ ?_, hrun, hended, _, _, rfl, ?_, ⟨_, rfl⟩, hW, hsame.mono (by decide) (by decide)⟩
  · show Steps p.tables e below (s₁.setTop (mkF m 0 #[.val (.ref a1), .val (.int p2), .val (.long q3), .second] [])) _
    refine XS.iloadN X0.here hx rfl (hb hby d3_0) rfl ?_
    show Steps p.tables e below (s₁.setTop (mkF m 1 #[.val (.ref a1), .val (.int p2), .val (.long q3), .second] [(.int p2)])) _
    refine XS.ifYes X0.here hx rfl (pc0 := 1) (pc' := 19) rfl (hb hby d3_1) rfl ((if0 _ _).trans (teq hc1).1) (by decide) (by decide) ?_
    show Steps p.tables e below (s₁.setTop (mkF m 19 #[.val (.ref a1), .val (.int p2), .val (.long q3), .second] [])) _
    refine XS.aloadN X0.here hx rfl (hb hby d3_19) rfl rfl ?_
    show Steps p.tables e below (s₁.setTop (mkF m 20 #[.val (.ref a1), .val (.int p2), .val (.long q3), .second] [(.ref a1)])) _
    refine XS.aloadN X0.here hx rfl (hb hby d3_20) rfl rfl ?_
    show Steps p.tables e below (s₁.setTop (mkF m 21 #[.val (.ref a1), .val (.int p2), .val (.long q3), .second] [(.ref a1), (.ref a1)])) _
    refine st5 _ ?_
    show Steps p.tables e below (T5.setTop (mkF m 24 #[.val (.ref a1), .val (.int p2), .val (.long q3), .second] [(.long (0 : Int64)), (.ref a1)])) _
    refine XS.lloadN X5.here hx rfl (hb hby d3_24) rfl ?_
    show Steps p.tables e below (T5.setTop (mkF m 25 #[.val (.ref a1), .val (.int p2), .val (.long q3), .second] [(.long q3), (.long (0 : Int64)), (.ref a1)])) _
    refine st6 _ ?_
    show Steps p.tables e below (T6.setTop (mkF m 28 #[.val (.ref a1), .val (.int p2), .val (.long q3), .second] [(.long q3), (.ref a1)])) _
    refine st7 _ ?_
    show Steps p.tables e below (T7.setTop (mkF m 31 #[.val (.ref a1), .val (.int p2), .val (.long q3), .second] [])) _
    exact X7.returnOut hx Bd.returns (hb hby d3_31) hr
  · show Q3n Z a1 p2 q3 sn (0 : Int64) sp si _ n0 _ T7.heap _
    rw [e7]
    exact ⟨rfl, N7, H.w1 hw W7⟩
theorem d5_0 : decode prog_48_method_2_code 0 = .ok (.aload_n 0, 1) := by decide +kernel
theorem d5_1 : decode prog_48_method_2_code 1 = .ok (.getfield 7, 3) := by decide +kernel
theorem d5_4 : decode prog_48_method_2_code 4 = .ok (.getstatic 13, 3) := by decide +kernel
theorem d5_7 : decode prog_48_method_2_code 7 = .ok (.lcmp, 1) := by decide +kernel
theorem d5_8 : decode prog_48_method_2_code 8 = .ok (.ifCond .lt 10, 3) := by decide +kernel
theorem d5_11 : decode prog_48_method_2_code 11 = .ok (.aload_n 0, 1) := by decide +kernel
theorem d5_12 : decode prog_48_method_2_code 12 = .ok (.iconst 0, 1) := by decide +kernel
theorem d5_13 : decode prog_48_method_2_code 13 = .ok (.putfield 16, 3) := by decide +kernel
theorem d5_16 : decode prog_48_method_2_code 16 = .ok (.iconst 0, 1) := by decide +kernel
theorem d5_17 : decode prog_48_method_2_code 17 = .ok (.ireturn, 1) := by decide +kernel
theorem pn_5a : plainName "com/example/leasehold/leasehold/link/ReplyWaits" = true := by first | (simp [plainName, overriddenIn]; done) | decide +kernel
theorem ef_5a (m : MethodId) (x0 : Addr) : entryFrame m #[(.ref x0)] 2 = mkF m 0 #[.val (.ref x0), .unset] [] := by first | (simp [entryFrame, mkF, argsToLocals, Value.category]; done) | rfl
def Q5a (Z : State) (a1 : Addr) (sn bl : Int64) (si : Int32) (h0 : Heap) (n0 : Nat) (v : Option Value) (h : Heap) (L : List Loc) : Prop := v = some (.int (0 : Int32)) ∧ Fr n0 L ∧ ∃ si' : Int32, Wt Z h a1 sn bl (0 : Int32) si' ∧ (si' = si ∨ si' = si + 1)
set_option maxRecDepth 65536 in
set_option maxHeartbeats 40000000 in
theorem rm5a (l : Launch) (Z : State) (a0 : Array Value) (hw : ∀ d ∈ tables_1, d.before a0 Z = true) (ws : List Jvm.Cond) (a1 : Addr) (sn w2 : Int64) (spv si : Int32) (h0 : Heap) (n0 : Nat) (Z0 : n0 ≤ h0.size) (F_blockedNanos_a1 : Fld Z h0 a1 "com/example/leasehold/leasehold/link/ReplyWaits" "blockedNanos" "J" (.long w2)) (S_SPIN_NANOS : Sta Z h0 "com/example/leasehold/leasehold/link/ReplyWaits" "SPIN_NANOS" "J" (.long (100000 : Int64))) (E_a1 : Exa Z h0 a1 "com/example/leasehold/leasehold/link/ReplyWaits") (F_spinning_a1 : Fld Z h0 a1 "com/example/leasehold/leasehold/link/ReplyWaits" "spinning" "Z" (.int spv)) (g_a1 : n0 ≤ a1) (hc8 : ¬ ((lcmpW w2 (100000 : Int64)) < (0 : Int32))) (H : Wt Z h0 a1 sn w2 spv si) :
    MetFree l (⟨"com/example/leasehold/leasehold/link/ReplyWaits", "spinsNext", "()Z"⟩ : MethodName) (head1 (Jvm.Cond.code (⟨"com/example/leasehold/leasehold/link/ReplyWaits", "spinsNext", "()Z"⟩ : MethodName) prog_48_method_2_code 2 (some .boolean) :: ws) ({ frames := 0, cells := 0, slots := 0, locals := 0 } : Room)) (fun a U => a = #[(.ref a1)] ∧ Z.Warmed39 U.vm ∧ U.heap = h0) (fun _ _ _ _ _ => True) (fun _ U o U' => ∃ v L, o = .returned v ∧ Q5a Z a1 sn w2 si h0 n0 v U'.heap L ∧ FrameEnd U o U' L ({ frames := 0, cells := 0, slots := 0, locals := 0 } : Room).cells ({ frames := 0, cells := 0, slots := 0, locals := 0 } : Room).slots) := by
  refine MetFree.of_bodySF (plainFor_of_name pn_5a) hisR ?_
  intro p e s m args below meth c s₁ Bd hml0 hP hK
  obtain ⟨rfl, hZ, hh⟩ := hP
  have hx := Bd.exec
  have hby := Bd.bytes
  have hml : c.maxLocals = 2 := hml0
  have hown : s.vm.findClass "com/example/leasehold/leasehold/link/ReplyWaits" = some m.cls := findClass_of_methodNamed Bd.named
  have hnm := (name_of_methodNamed Bd.named Bd.method).1
  have X0 : Stand p l e ({ frames := 0, cells := 0, slots := 0, locals := 0 } : Room) s m #[(.ref a1)] below meth c s₁ [] 0 0 := Stand.of_body Bd
  have e0 : s₁.heap = h0 := by rw [← hh, Bd.state]; rfl
  have N0 := Fr.nil n0
  have pre0 : ∀ t, Steps p.tables e below (s₁.setTop (mkF m 0 #[.val (.ref a1), .unset] [])) t → Steps p.tables e below (s₁.setTop (entryFrame m #[(.ref a1)] 2)) t := fun t k => castTop (ef_5a m a1) k
  obtain ⟨T3, X3, e3, st3⟩ := getF X0 hx hZ hown (host := "") (Or.inl (hw _ (List.mem_of_getElem? (i := 19) rfl))) Via.refl e0 F_blockedNanos_a1 (g := (mkF m 1 #[.val (.ref a1), .unset] [(.ref a1)])) rfl rfl (hb hby d5_1)
  obtain ⟨T5, X5, e5, st5⟩ := getS2 X3 hx hZ hown (host := "") (Or.inl (hw _ (List.mem_of_getElem? (i := 26) rfl))) Via.refl e3 S_SPIN_NANOS (g := (mkF m 4 #[.val (.ref a1), .unset] [(.long w2)])) rfl (hb hby d5_4)
  obtain ⟨T6, h6, X6, e6, W6, st6⟩ := putFN X5 hx hZ hown (hw _ (List.mem_of_getElem? (i := 28) rfl)) Via.refl e5 F_spinning_a1 E_a1 (Or.inl (hw _ (List.mem_of_getElem? (i := 29) rfl))) (hw _ (List.mem_of_getElem? (i := 1) rfl)) (ty := .boolean) (v' := (.int (0 : Int32))) (by decide) rfl rfl (g := (mkF m 13 #[.val (.ref a1), .unset] [(.int (0 : Int32)), (.ref a1)])) rfl rfl (hb hby d5_13)
  have Fw6 := F_spinning_a1.same W6
  have N6 := Fr.snoc X6 N0 g_a1
  obtain ⟨fs, hr, hrun, hended, hW, hsame⟩ := X6.leave (v := some (.int (0 : Int32))) (fun h => by rw [Bd.returns] at h; cases h)
  refine ⟨_, _, pre0 _ ?_, hrun, hended, _, _, rfl, ?_, ⟨_, rfl⟩, hW, hsame.mono (by decide) (by decide)⟩
  · show Steps p.tables e below (s₁.setTop (mkF m 0 #[.val (.ref a1), .unset] [])) _
    refine XS.aloadN X0.here hx rfl (hb hby d5_0) rfl rfl ?_
    show Steps p.tables e below (s₁.setTop (mkF m 1 #[.val (.ref a1), .unset] [(.ref a1)])) _
    refine st3 _ ?_
    show Steps p.tables e below (T3.setTop (mkF m 4 #[.val (.ref a1), .unset] [(.long w2)])) _
    refine st5 _ ?_
    show Steps p.tables e below (T5.setTop (mkF m 7 #[.val (.ref a1), .unset] [(.long (100000 : Int64)), (.long w2)])) _
    refine XS.lcmp X5.here hx rfl (hb hby d5_7) rfl ?_
    show Steps p.tables e below (T5.setTop (mkF m 8 #[.val (.ref a1), .unset] [(.int (lcmpW w2 (100000 : Int64)))])) _
    refine XS.ifNo X5.here hx rfl (hb hby d5_8) rfl ((if0 _ _).trans (flt hc8).1) ?_
    show Steps p.tables e below (T5.setTop (mkF m 11 #[.val (.ref a1), .unset] [])) _
    refine XS.aloadN X5.here hx rfl (hb hby d5_11) rfl rfl ?_
    show Steps p.tables e below (T5.setTop (mkF m 12 #[.val (.ref a1), .unset] [(.ref a1)])) _
    refine XS.iconst X5.here hx rfl (hb hby d5_12) ?_
    show Steps p.tables e below (T5.setTop (mkF m 13 #[.val (.ref a1), .unset] [(.int (0 : Int32)), (.ref a1)])) _
    refine st6 _ ?_
    show Steps p.tables e below (T6.setTop (mkF m 16 #[.val (.ref a1), .unset] [])) _
    refine XS.iconst X6.here hx rfl (hb hby d5_16) ?_
    show Steps p.tables e below (T6.setTop (mkF m 17 #[.val (.ref a1), .unset] [(.int (0 : Int32))])) _
    exact retN X6 hx (t := .boolean) Bd.returns (by simp) (hb hby d5_17) hr
  · show Q5a Z a1 sn w2 si _ n0 _ T6.heap _
    rw [e6]
    exact ⟨rfl, N6, _, (H.w2 hw W6), Or.inl rfl⟩
theorem d5_18 : decode prog_48_method_2_code 18 = .ok (.aload_n 0, 1) := by decide +kernel
theorem d5_19 : decode prog_48_method_2_code 19 = .ok (.getfield 16, 3) := by decide +kernel
theorem d5_22 : decode prog_48_method_2_code 22 = .ok (.ifCond .eq 30, 3) := by decide +kernel
theorem d5_25 : decode prog_48_method_2_code 25 = .ok (.aload_n 0, 1) := by decide +kernel
theorem d5_26 : decode prog_48_method_2_code 26 = .ok (.getfield 7, 3) := by decide +kernel
theorem d5_29 : decode prog_48_method_2_code 29 = .ok (.aload_n 0, 1) := by decide +kernel
theorem d5_30 : decode prog_48_method_2_code 30 = .ok (.getfield 20, 3) := by decide +kernel
theorem d5_33 : decode prog_48_method_2_code 33 = .ok (.aload_n 0, 1) := by decide +kernel
theorem d5_34 : decode prog_48_method_2_code 34 = .ok (.getfield 20, 3) := by decide +kernel
theorem d5_37 : decode prog_48_method_2_code 37 = .ok (.iconst 3, 1) := by decide +kernel
theorem d5_38 : decode prog_48_method_2_code 38 = .ok (.lshr, 1) := by decide +kernel
theorem d5_39 : decode prog_48_method_2_code 39 = .ok (.lsub, 1) := by decide +kernel
theorem d5_40 : decode prog_48_method_2_code 40 = .ok (.lcmp, 1) := by decide +kernel
theorem d5_41 : decode prog_48_method_2_code 41 = .ok (.ifCond .ge 7, 3) := by decide +kernel
theorem d5_44 : decode prog_48_method_2_code 44 = .ok (.iconst 1, 1) := by decide +kernel
theorem d5_45 : decode prog_48_method_2_code 45 = .ok (.goto 31, 3) := by decide +kernel
theorem d5_76 : decode prog_48_method_2_code 76 = .ok (.istore_n 1, 1) := by decide +kernel
theorem d5_77 : decode prog_48_method_2_code 77 = .ok (.iload_n 1, 1) := by decide +kernel
theorem d5_78 : decode prog_48_method_2_code 78 = .ok (.ifCond .eq 19, 3) := by decide +kernel
theorem d5_81 : decode prog_48_method_2_code 81 = .ok (.aload_n 0, 1) := by decide +kernel
theorem d5_82 : decode prog_48_method_2_code 82 = .ok (.aload_n 0, 1) := by decide +kernel
theorem d5_83 : decode prog_48_method_2_code 83 = .ok (.getfield 16, 3) := by decide +kernel
theorem d5_86 : decode prog_48_method_2_code 86 = .ok (.ifCond .ne 7, 3) := by decide +kernel
theorem d5_93 : decode prog_48_method_2_code 93 = .ok (.iconst 0, 1) := by decide +kernel
theorem d5_94 : decode prog_48_method_2_code 94 = .ok (.putfield 16, 3) := by decide +kernel
theorem d5_97 : decode prog_48_method_2_code 97 = .ok (.aload_n 0, 1) := by decide +kernel
theorem d5_98 : decode prog_48_method_2_code 98 = .ok (.dup, 1) := by decide +kernel
theorem d5_99 : decode prog_48_method_2_code 99 = .ok (.getfield 23, 3) := by decide +kernel
theorem d5_102 : decode prog_48_method_2_code 102 = .ok (.iconst 1, 1) := by decide +kernel
theorem d5_103 : decode prog_48_method_2_code 103 = .ok (.iadd, 1) := by decide +kernel
theorem d5_104 : decode prog_48_method_2_code 104 = .ok (.dup_x1, 1) := by decide +kernel
theorem d5_105 : decode prog_48_method_2_code 105 = .ok (.putfield 23, 3) := by decide +kernel
theorem d5_108 : decode prog_48_method_2_code 108 = .ok (.bipush 17, 2) := by decide +kernel
theorem d5_110 : decode prog_48_method_2_code 110 = .ok (.if_icmp .ge 8, 3) := by decide +kernel
theorem d5_113 : decode prog_48_method_2_code 113 = .ok (.aload_n 0, 1) := by decide +kernel
theorem d5_114 : decode prog_48_method_2_code 114 = .ok (.getfield 16, 3) := by decide +kernel
theorem d5_117 : decode prog_48_method_2_code 117 = .ok (.ireturn, 1) := by decide +kernel
theorem pn_5b : plainName "com/example/leasehold/leasehold/link/ReplyWaits" = true := by first | (simp [plainName, overriddenIn]; done) | decide +kernel
theorem ef_5b (m : MethodId) (x0 : Addr) : entryFrame m #[(.ref x0)] 2 = mkF m 0 #[.val (.ref x0), .unset] [] := by first | (simp [entryFrame, mkF, argsToLocals, Value.category]; done) | rfl
def Q5b (Z : State) (a1 : Addr) (sn bl : Int64) (si : Int32) (h0 : Heap) (n0 : Nat) (v : Option Value) (h : Heap) (L : List Loc) : Prop := v = some (.int (0 : Int32)) ∧ Fr n0 L ∧ ∃ si' : Int32, Wt Z h a1 sn bl (0 : Int32) si' ∧ (si' = si ∨ si' = si + 1)
set_option maxRecDepth 65536 in
set_option maxHeartbeats 40000000 in
theorem rm5b (l : Launch) (Z : State) (a0 : Array Value) (hw : ∀ d ∈ tables_1, d.before a0 Z = true) (ws : List Jvm.Cond) (a1 : Addr) (w9 w2 : Int64) (w14 : Int32) (h0 : Heap) (n0 : Nat) (Z0 : n0 ≤ h0.size) (F_blockedNanos_a1 : Fld Z h0 a1 "com/example/leasehold/leasehold/link/ReplyWaits" "blockedNanos" "J" (.long w2)) (S_SPIN_NANOS : Sta Z h0 "com/example/leasehold/leasehold/link/ReplyWaits" "SPIN_NANOS" "J" (.long (100000 : Int64))) (F_spinning_a1 : Fld Z h0 a1 "com/example/leasehold/leasehold/link/ReplyWaits" "spinning" "Z" (.int (1 : Int32))) (F_spunNanos_a1 : Fld Z h0 a1 "com/example/leasehold/leasehold/link/ReplyWaits" "spunNanos" "J" (.long w9)) (E_a1 : Exa Z h0 a1 "com/example/leasehold/leasehold/link/ReplyWaits") (g_a1 : n0 ≤ a1) (F_sinceOther_a1 : Fld Z h0 a1 "com/example/leasehold/leasehold/link/ReplyWaits" "sinceOther" "I" (.int w14)) (hc8 : (lcmpW w2 (100000 : Int64)) < (0 : Int32)) (hc22 : ¬ ((1 : Int32) = (0 : Int32))) (hc41 : (lcmpW w2 (w9 - (w9 >>> ((3 : Int32) &&& 0x3f).toInt64))) < (0 : Int32)) (hc78 : ¬ ((1 : Int32) = (0 : Int32))) (hc86 : ¬ ((1 : Int32) = (0 : Int32))) (hc110 : (w14 + (1 : Int32)) < (17 : Int32)) (H : Wt Z h0 a1 w9 w2 (1 : Int32) w14) :
    MetFree l (⟨"com/example/leasehold/leasehold/link/ReplyWaits", "spinsNext", "()Z"⟩ : MethodName) (head1 (Jvm.Cond.code (⟨"com/example/leasehold/leasehold/link/ReplyWaits", "spinsNext", "()Z"⟩ : MethodName) prog_48_method_2_code 2 (some .boolean) :: ws) ({ frames := 0, cells := 0, slots := 0, locals := 0 } : Room)) (fun a U => a = #[(.ref a1)] ∧ Z.Warmed39 U.vm ∧ U.heap = h0) (fun _ _ _ _ _ => True) (fun _ U o U' => ∃ v L, o = .returned v ∧ Q5b Z a1 w9 w2 w14 h0 n0 v U'.heap L ∧ FrameEnd U o U' L ({ frames := 0, cells := 0, slots := 0, locals := 0 } : Room).cells ({ frames := 0, cells := 0, slots := 0, locals := 0 } : Room).slots) := by
  refine MetFree.of_bodySF (plainFor_of_name pn_5b) hisR ?_
  intro p e s m args below meth c s₁ Bd hml0 hP hK
  obtain ⟨rfl, hZ, hh⟩ := hP
  have hx := Bd.exec
  have hby := Bd.bytes
  have hml : c.maxLocals = 2 := hml0
  have hown : s.vm.findClass "com/example/leasehold/leasehold/link/ReplyWaits" = some m.cls := findClass_of_methodNamed Bd.named
  have hnm := (name_of_methodNamed Bd.named Bd.method).1
  have X0 : Stand p l e ({ frames := 0, cells := 0, slots := 0, locals := 0 } : Room) s m #[(.ref a1)] below meth c s₁ [] 0 0 := Stand.of_body Bd
  have e0 : s₁.heap = h0 := by rw [← hh, Bd.state]; rfl
  have N0 := Fr.nil n0
  have pre0 : ∀ t, Steps p.tables e below (s₁.setTop (mkF m 0 #[.val (.ref a1), .unset] [])) t → Steps p.tables e below (s₁.setTop (entryFrame m #[(.ref a1)] 2)) t := fun t k => castTop (ef_5b m a1) k
  obtain ⟨T3, X3, e3, st3⟩ := getF X0 hx hZ hown (host := "") (Or.inl (hw _ (List.mem_of_getElem? (i := 19) rfl))) Via.refl e0 F_blockedNanos_a1 (g := (mkF m 1 #[.val (.ref a1), .unset] [(.ref a1)])) rfl rfl (hb hby d5_1)
  obtain ⟨T5, X5, e5, st5⟩ := getS2 X3 hx hZ hown (host := "") (Or.inl (hw _ (List.mem_of_getElem? (i := 26) rfl))) Via.refl e3 S_SPIN_NANOS (g := (mkF m 4 #[.val (.ref a1), .unset] [(.long w2)])) rfl (hb hby d5_4)
  obtain ⟨T7, X7, e7, st7⟩ := getF X5 hx hZ hown (host := "") (Or.inl (hw _ (List.mem_of_getElem? (i := 28) rfl))) Via.refl e5 F_spinning_a1 (g := (mkF m 19 #[.val (.ref a1), .unset] [(.ref a1)])) rfl rfl (hb hby d5_19)
  obtain ⟨T8, X8, e8, st8⟩ := getF X7 hx hZ hown (host := "") (Or.inl (hw _ (List.mem_of_getElem? (i := 19) rfl))) Via.refl e7 F_blockedNanos_a1 (g := (mkF m 26 #[.val (.ref a1), .unset] [(.ref a1)])) rfl rfl (hb hby d5_26)
  obtain ⟨T10, X10, e10, st10⟩ := getF X8 hx hZ hown (host := "") (Or.inl (hw _ (List.mem_of_getElem? (i := 14) rfl))) Via.refl e8 F_spunNanos_a1 (g := (mkF m 30 #[.val (.ref a1), .unset] [(.ref a1), (.long w2)])) rfl rfl (hb hby d5_30)
  obtain ⟨T11, X11, e11, st11⟩ := getF X10 hx hZ hown (host := "") (Or.inl (hw _ (List.mem_of_getElem? (i := 14) rfl))) Via.refl e10 F_spunNanos_a1 (g := (mkF m 34 #[.val (.ref a1), .unset] [(.ref a1), (.long w9), (.long w2)])) rfl rfl (hb hby d5_34)
  obtain ⟨T12, X12, e12, st12⟩ := getF X11 hx hZ hown (host := "") (Or.inl (hw _ (List.mem_of_getElem? (i := 28) rfl))) Via.refl e11 F_spinning_a1 (g := (mkF m 83 #[.val (.ref a1), .val (.int (1 : Int32))] [(.ref a1), (.ref a1)])) rfl rfl (hb hby d5_83)
  obtain ⟨T13, h13, X13, e13, W13, st13⟩ := putFN X12 hx hZ hown (hw _ (List.mem_of_getElem? (i := 28) rfl)) Via.refl e12 F_spinning_a1 E_a1 (Or.inl (hw _ (List.mem_of_getElem? (i := 29) rfl))) (hw _ (List.mem_of_getElem? (i := 1) rfl)) (ty := .boolean) (v' := (.int (0 : Int32))) (by decide) rfl rfl (g := (mkF m 94 #[.val (.ref a1), .val (.int (1 : Int32))] [(.int (0 : Int32)), (.ref a1)])) rfl rfl (hb hby d5_94)
  have Fw13 := F_spinning_a1.same W13
  have N13 := Fr.snoc X13 N0 g_a1
  obtain ⟨T15, X15, e15, st15⟩ := getF X13 hx hZ hown (host := "") (Or.inl (hw _ (List.mem_of_getElem? (i := 30) rfl))) Via.refl e13 (F_sinceOther_a1.other W13 (Or.inr (slot_ne (Or.inl (hw _ (List.mem_of_getElem? (i := 31) rfl))) (Or.inl (hw _ (List.mem_of_getElem? (i := 29) rfl))) (by decide) (t := .int) (t' := .boolean) (by decide) (by decide)))) (g := (mkF m 99 #[.val (.ref a1), .val (.int (1 : Int32))] [(.ref a1), (.ref a1)])) rfl rfl (hb hby d5_99)
  obtain ⟨T16, h16, X16, e16, W16, st16⟩ := putF X15 hx hZ hown (host := "") (Or.inl (hw _ (List.mem_of_getElem? (i := 30) rfl))) Via.refl e15 (F_sinceOther_a1.other W13 (Or.inr (slot_ne (Or.inl (hw _ (List.mem_of_getElem? (i := 31) rfl))) (Or.inl (hw _ (List.mem_of_getElem? (i := 29) rfl))) (by decide) (t := .int) (t' := .boolean) (by decide) (by decide)))) (E_a1.wr W13) (Or.inl (hw _ (List.mem_of_getElem? (i := 31) rfl))) (hw _ (List.mem_of_getElem? (i := 1) rfl)) (ty := .int) (by decide) rfl rfl (g := (mkF m 105 #[.val (.ref a1), .val (.int (1 : Int32))] [(.int (w14 + (1 : Int32))), (.ref a1), (.int (w14 + (1 : Int32)))])) rfl rfl (hb hby d5_105)
  have Fw16 := (F_sinceOther_a1.other W13 (Or.inr (slot_ne (Or.inl (hw _ (List.mem_of_getElem? (i := 31) rfl))) (Or.inl (hw _ (List.mem_of_getElem? (i := 29) rfl))) (by decide) (t := .int) (t' := .boolean) (by decide) (by decide)))).same W16
  have N16 := Fr.snoc X16 N13 g_a1
  obtain ⟨T17, X17, e17, st17⟩ := getF X16 hx hZ hown (host := "") (Or.inl (hw _ (List.mem_of_getElem? (i := 28) rfl))) Via.refl e16 (Fw13.other W16 (Or.inr (slot_ne (Or.inl (hw _ (List.mem_of_getElem? (i := 29) rfl))) (Or.inl (hw _ (List.mem_of_getElem? (i := 31) rfl))) (by decide) (t := .boolean) (t' := .int) (by decide) (by decide)))) (g := (mkF m 114 #[.val (.ref a1), .val (.int (1 : Int32))] [(.ref a1)])) rfl rfl (hb hby d5_114)
  obtain ⟨fs, hr, hrun, hended, hW, hsame⟩ := X17.leave (v := some (.int (0 : Int32))) (fun h => by rw [Bd.returns] at h; cases h)
  refine ⟨_, _, pre0 _ ?_, hrun, hended, _, _, rfl, ?_, ⟨_, rfl⟩, hW, hsame.mono (by decide) (by decide)⟩
  · show Steps p.tables e below (s₁.setTop (mkF m 0 #[.val (.ref a1), .unset] [])) _
    refine XS.aloadN X0.here hx rfl (hb hby d5_0) rfl rfl ?_
    show Steps p.tables e below (s₁.setTop (mkF m 1 #[.val (.ref a1), .unset] [(.ref a1)])) _
    refine st3 _ ?_
    show Steps p.tables e below (T3.setTop (mkF m 4 #[.val (.ref a1), .unset] [(.long w2)])) _
    refine st5 _ ?_
    show Steps p.tables e below (T5.setTop (mkF m 7 #[.val (.ref a1), .unset] [(.long (100000 : Int64)), (.long w2)])) _
    refine XS.lcmp X5.here hx rfl (hb hby d5_7) rfl ?_
    show Steps p.tables e below (T5.setTop (mkF m 8 #[.val (.ref a1), .unset] [(.int (lcmpW w2 (100000 : Int64)))])) _
    refine XS.ifYes X5.here hx rfl (pc0 := 8) (pc' := 18) rfl (hb hby d5_8) rfl ((if0 _ _).trans (tlt hc8).1) (by decide) (by decide) ?_
    show Steps p.tables e below (T5.setTop (mkF m 18 #[.val (.ref a1), .unset] [])) _
    refine XS.aloadN X5.here hx rfl (hb hby d5_18) rfl rfl ?_
    show Steps p.tables e below (T5.setTop (mkF m 19 #[.val (.ref a1), .unset] [(.ref a1)])) _
    refine st7 _ ?_
    show Steps p.tables e below (T7.setTop (mkF m 22 #[.val (.ref a1), .unset] [(.int (1 : Int32))])) _
    refine XS.ifNo X7.here hx rfl (hb hby d5_22) rfl ((if0 _ _).trans (feq hc22).1) ?_
    show Steps p.tables e below (T7.setTop (mkF m 25 #[.val (.ref a1), .unset] [])) _
    refine XS.aloadN X7.here hx rfl (hb hby d5_25) rfl rfl ?_
    show Steps p.tables e below (T7.setTop (mkF m 26 #[.val (.ref a1), .unset] [(.ref a1)])) _
    refine st8 _ ?_
    show Steps p.tables e below (T8.setTop (mkF m 29 #[.val (.ref a1), .unset] [(.long w2)])) _
    refine XS.aloadN X8.here hx rfl (hb hby d5_29) rfl rfl ?_
    show Steps p.tables e below (T8.setTop (mkF m 30 #[.val (.ref a1), .unset] [(.ref a1), (.long w2)])) _
    refine st10 _ ?_
    show Steps p.tables e below (T10.setTop (mkF m 33 #[.val (.ref a1), .unset] [(.long w9), (.long w2)])) _
    refine XS.aloadN X10.here hx rfl (hb hby d5_33) rfl rfl ?_
    show Steps p.tables e below (T10.setTop (mkF m 34 #[.val (.ref a1), .unset] [(.ref a1), (.long w9), (.long w2)])) _
    refine st11 _ ?_
    show Steps p.tables e below (T11.setTop (mkF m 37 #[.val (.ref a1), .unset] [(.long w9), (.long w9), (.long w2)])) _
    refine XS.iconst X11.here hx rfl (hb hby d5_37) ?_
    show Steps p.tables e below (T11.setTop (mkF m 38 #[.val (.ref a1), .unset] [(.int (3 : Int32)), (.long w9), (.long w9), (.long w2)])) _
    refine XS.lshr X11.here hx rfl (hb hby d5_38) rfl ?_
    show Steps p.tables e below (T11.setTop (mkF m 39 #[.val (.ref a1), .unset] [(.long (w9 >>> ((3 : Int32) &&& 0x3f).toInt64)), (.long w9), (.long w2)])) _
    refine XS.lsub X11.here hx rfl (hb hby d5_39) rfl ?_
    show Steps p.tables e below (T11.setTop (mkF m 40 #[.val (.ref a1), .unset] [(.long (w9 - (w9 >>> ((3 : Int32) &&& 0x3f).toInt64))), (.long w2)])) _
    refine XS.lcmp X11.here hx rfl (hb hby d5_40) rfl ?_
    show Steps p.tables e below (T11.setTop (mkF m 41 #[.val (.ref a1), .unset] [(.int (lcmpW w2 (w9 - (w9 >>> ((3 : Int32) &&& 0x3f).toInt64))))])) _
    refine XS.ifNo X11.here hx rfl (hb hby d5_41) rfl ((if0 _ _).trans (tlt hc41).2.1) ?_
    show Steps p.tables e below (T11.setTop (mkF m 44 #[.val (.ref a1), .unset] [])) _
    refine XS.iconst X11.here hx rfl (hb hby d5_44) ?_
    show Steps p.tables e below (T11.setTop (mkF m 45 #[.val (.ref a1), .unset] [(.int (1 : Int32))])) _
    refine XS.goto X11.here hx rfl (pc0 := 45) (pc' := 76) rfl (hb hby d5_45) (by decide) (by decide) ?_
    show Steps p.tables e below (T11.setTop (mkF m 76 #[.val (.ref a1), .unset] [(.int (1 : Int32))])) _
    refine XS.istoreN X11.here hx rfl (hb hby d5_76) rfl (l' := #[.val (.ref a1), .val (.int (1 : Int32))]) rfl ?_
    show Steps p.tables e below (T11.setTop (mkF m 77 #[.val (.ref a1), .val (.int (1 : Int32))] [])) _
    refine XS.iloadN X11.here hx rfl (hb hby d5_77) rfl ?_
    show Steps p.tables e below (T11.setTop (mkF m 78 #[.val (.ref a1), .val (.int (1 : Int32))] [(.int (1 : Int32))])) _
    refine XS.ifNo X11.here hx rfl (hb hby d5_78) rfl ((if0 _ _).trans (feq hc78).1) ?_
    show Steps p.tables e below (T11.setTop (mkF m 81 #[.val (.ref a1), .val (.int (1 : Int32))] [])) _
    refine XS.aloadN X11.here hx rfl (hb hby d5_81) rfl rfl ?_
    show Steps p.tables e below (T11.setTop (mkF m 82 #[.val (.ref a1), .val (.int (1 : Int32))] [(.ref a1)])) _
    refine XS.aloadN X11.here hx rfl (hb hby d5_82) rfl rfl ?_
    show Steps p.tables e below (T11.setTop (mkF m 83 #[.val (.ref a1), .val (.int (1 : Int32))] [(.ref a1), (.ref a1)])) _
    refine st12 _ ?_
    show Steps p.tables e below (T12.setTop (mkF m 86 #[.val (.ref a1), .val (.int (1 : Int32))] [(.int (1 : Int32)), (.ref a1)])) _
    refine XS.ifYes X12.here hx rfl (pc0 := 86) (pc' := 93) rfl (hb hby d5_86) rfl ((if0 _ _).trans (feq hc86).2) (by decide) (by decide) ?_
    show Steps p.tables e below (T12.setTop (mkF m 93 #[.val (.ref a1), .val (.int (1 : Int32))] [(.ref a1)])) _
    refine XS.iconst X12.here hx rfl (hb hby d5_93) ?_
    show Steps p.tables e below (T12.setTop (mkF m 94 #[.val (.ref a1), .val (.int (1 : Int32))] [(.int (0 : Int32)), (.ref a1)])) _
    refine st13 _ ?_
    show Steps p.tables e below (T13.setTop (mkF m 97 #[.val (.ref a1), .val (.int (1 : Int32))] [])) _
    refine XS.aloadN X13.here hx rfl (hb hby d5_97) rfl rfl ?_
    show Steps p.tables e below (T13.setTop (mkF m 98 #[.val (.ref a1), .val (.int (1 : Int32))] [(.ref a1)])) _
    refine XS.dup X13.here hx rfl (hb hby d5_98) rfl rfl ?_
    show Steps p.tables e below (T13.setTop (mkF m 99 #[.val (.ref a1), .val (.int (1 : Int32))] [(.ref a1), (.ref a1)])) _
    refine st15 _ ?_
    show Steps p.tables e below (T15.setTop (mkF m 102 #[.val (.ref a1), .val (.int (1 : Int32))] [(.int w14), (.ref a1)])) _
    refine XS.iconst X15.here hx rfl (hb hby d5_102) ?_
    show Steps p.tables e below (T15.setTop (mkF m 103 #[.val (.ref a1), .val (.int (1 : Int32))] [(.int (1 : Int32)), (.int w14), (.ref a1)])) _
    refine XS.iadd X15.here hx rfl (hb hby d5_103) rfl ?_
    show Steps p.tables e below (T15.setTop (mkF m 104 #[.val (.ref a1), .val (.int (1 : Int32))] [(.int (w14 + (1 : Int32))), (.ref a1)])) _
    refine XS.dupX1 X15.here hx rfl (hb hby d5_104) rfl rfl rfl ?_
    show Steps p.tables e below (T15.setTop (mkF m 105 #[.val (.ref a1), .val (.int (1 : Int32))] [(.int (w14 + (1 : Int32))), (.ref a1), (.int (w14 + (1 : Int32)))])) _
    refine st16 _ ?_
    show Steps p.tables e below (T16.setTop (mkF m 108 #[.val (.ref a1), .val (.int (1 : Int32))] [(.int (w14 + (1 : Int32)))])) _
    refine XS.bipush X16.here hx rfl (hb hby d5_108) ?_
    show Steps p.tables e below (T16.setTop (mkF m 110 #[.val (.ref a1), .val (.int (1 : Int32))] [(.int (17 : Int32)), (.int (w14 + (1 : Int32)))])) _
    refine XS.icmpNo X16.here hx rfl (hb hby d5_110) rfl (tlt hc110).2.1 ?_
    show Steps p.tables e below (T16.setTop (mkF m 113 #[.val (.ref a1), .val (.int (1 : Int32))] [])) _
    refine XS.aloadN X16.here hx rfl (hb hby d5_113) rfl rfl ?_
    show Steps p.tables e below (T16.setTop (mkF m 114 #[.val (.ref a1), .val (.int (1 : Int32))] [(.ref a1)])) _
    refine st17 _ ?_
    show Steps p.tables e below (T17.setTop (mkF m 117 #[.val (.ref a1), .val (.int (1 : Int32))] [(.int (0 : Int32))])) _
    exact retN X17 hx (t := .boolean) Bd.returns (by simp) (hb hby d5_117) hr
  · show Q5b Z a1 w9 w2 w14 _ n0 _ T17.heap _
    rw [e17]
    exact ⟨rfl, N16, _, ((H.w2 hw W13).w3 hw W16), Or.inr rfl⟩
theorem d5_48 : decode prog_48_method_2_code 48 = .ok (.iconst 0, 1) := by decide +kernel
theorem d5_49 : decode prog_48_method_2_code 49 = .ok (.goto 27, 3) := by decide +kernel
theorem pn_5c : plainName "com/example/leasehold/leasehold/link/ReplyWaits" = true := by first | (simp [plainName, overriddenIn]; done) | decide +kernel
theorem ef_5c (m : MethodId) (x0 : Addr) : entryFrame m #[(.ref x0)] 2 = mkF m 0 #[.val (.ref x0), .unset] [] := by first | (simp [entryFrame, mkF, argsToLocals, Value.category]; done) | rfl
def Q5c (Z : State) (a1 : Addr) (sn bl : Int64) (si : Int32) (h0 : Heap) (n0 : Nat) (v : Option Value) (h : Heap) (L : List Loc) : Prop := v = some (.int (1 : Int32)) ∧ Fr n0 L ∧ ∃ si' : Int32, Wt Z h a1 sn bl (1 : Int32) si' ∧ (si' = si ∨ si' = si + 1)
set_option maxRecDepth 65536 in
set_option maxHeartbeats 40000000 in
theorem rm5c (l : Launch) (Z : State) (a0 : Array Value) (hw : ∀ d ∈ tables_1, d.before a0 Z = true) (ws : List Jvm.Cond) (a1 : Addr) (w9 w2 : Int64) (w12 : Int32) (h0 : Heap) (n0 : Nat) (Z0 : n0 ≤ h0.size) (F_blockedNanos_a1 : Fld Z h0 a1 "com/example/leasehold/leasehold/link/ReplyWaits" "blockedNanos" "J" (.long w2)) (S_SPIN_NANOS : Sta Z h0 "com/example/leasehold/leasehold/link/ReplyWaits" "SPIN_NANOS" "J" (.long (100000 : Int64))) (F_spinning_a1 : Fld Z h0 a1 "com/example/leasehold/leasehold/link/ReplyWaits" "spinning" "Z" (.int (1 : Int32))) (F_spunNanos_a1 : Fld Z h0 a1 "com/example/leasehold/leasehold/link/ReplyWaits" "spunNanos" "J" (.long w9)) (F_sinceOther_a1 : Fld Z h0 a1 "com/example/leasehold/leasehold/link/ReplyWaits" "sinceOther" "I" (.int w12)) (E_a1 : Exa Z h0 a1 "com/example/leasehold/leasehold/link/ReplyWaits") (g_a1 : n0 ≤ a1) (hc8 : (lcmpW w2 (100000 : Int64)) < (0 : Int32)) (hc22 : ¬ ((1 : Int32) = (0 : Int32))) (hc41 : ¬ ((lcmpW w2 (w9 - (w9 >>> ((3 : Int32) &&& 0x3f).toInt64))) < (0 : Int32))) (hc110 : (w12 + (1 : Int32)) < (17 : Int32)) (H : Wt Z h0 a1 w9 w2 (1 : Int32) w12) :
    MetFree l (⟨"com/example/leasehold/leasehold/link/ReplyWaits", "spinsNext", "()Z"⟩ : MethodName) (head1 (Jvm.Cond.code (⟨"com/example/leasehold/leasehold/link/ReplyWaits", "spinsNext", "()Z"⟩ : MethodName) prog_48_method_2_code 2 (some .boolean) :: ws) ({ frames := 0, cells := 0, slots := 0, locals := 0 } : Room)) (fun a U => a = #[(.ref a1)] ∧ Z.Warmed39 U.vm ∧ U.heap = h0) (fun _ _ _ _ _ => True) (fun _ U o U' => ∃ v L, o = .returned v ∧ Q5c Z a1 w9 w2 w12 h0 n0 v U'.heap L ∧ FrameEnd U o U' L ({ frames := 0, cells := 0, slots := 0, locals := 0 } : Room).cells ({ frames := 0, cells := 0, slots := 0, locals := 0 } : Room).slots) := by
  refine MetFree.of_bodySF (plainFor_of_name pn_5c) hisR ?_
  intro p e s m args below meth c s₁ Bd hml0 hP hK
  obtain ⟨rfl, hZ, hh⟩ := hP
  have hx := Bd.exec
  have hby := Bd.bytes
  have hml : c.maxLocals = 2 := hml0
  have hown : s.vm.findClass "com/example/leasehold/leasehold/link/ReplyWaits" = some m.cls := findClass_of_methodNamed Bd.named
  have hnm := (name_of_methodNamed Bd.named Bd.method).1
  have X0 : Stand p l e ({ frames := 0, cells := 0, slots := 0, locals := 0 } : Room) s m #[(.ref a1)] below meth c s₁ [] 0 0 := Stand.of_body Bd
  have e0 : s₁.heap = h0 := by rw [← hh, Bd.state]; rfl
  have N0 := Fr.nil n0
  have pre0 : ∀ t, Steps p.tables e below (s₁.setTop (mkF m 0 #[.val (.ref a1), .unset] [])) t → Steps p.tables e below (s₁.setTop (entryFrame m #[(.ref a1)] 2)) t := fun t k => castTop (ef_5c m a1) k
  obtain ⟨T3, X3, e3, st3⟩ := getF X0 hx hZ hown (host := "") (Or.inl (hw _ (List.mem_of_getElem? (i := 19) rfl))) Via.refl e0 F_blockedNanos_a1 (g := (mkF m 1 #[.val (.ref a1), .unset] [(.ref a1)])) rfl rfl (hb hby d5_1)
  obtain ⟨T5, X5, e5, st5⟩ := getS2 X3 hx hZ hown (host := "") (Or.inl (hw _ (List.mem_of_getElem? (i := 26) rfl))) Via.refl e3 S_SPIN_NANOS (g := (mkF m 4 #[.val (.ref a1), .unset] [(.long w2)])) rfl (hb hby d5_4)
  obtain ⟨T7, X7, e7, st7⟩ := getF X5 hx hZ hown (host := "") (Or.inl (hw _ (List.mem_of_getElem? (i := 28) rfl))) Via.refl e5 F_spinning_a1 (g := (mkF m 19 #[.val (.ref a1), .unset] [(.ref a1)])) rfl rfl (hb hby d5_19)
  obtain ⟨T8, X8, e8, st8⟩ := getF X7 hx hZ hown (host := "") (Or.inl (hw _ (List.mem_of_getElem? (i := 19) rfl))) Via.refl e7 F_blockedNanos_a1 (g := (mkF m 26 #[.val (.ref a1), .unset] [(.ref a1)])) rfl rfl (hb hby d5_26)
  obtain ⟨T10, X10, e10, st10⟩ := getF X8 hx hZ hown (host := "") (Or.inl (hw _ (List.mem_of_getElem? (i := 14) rfl))) Via.refl e8 F_spunNanos_a1 (g := (mkF m 30 #[.val (.ref a1), .unset] [(.ref a1), (.long w2)])) rfl rfl (hb hby d5_30)
  obtain ⟨T11, X11, e11, st11⟩ := getF X10 hx hZ hown (host := "") (Or.inl (hw _ (List.mem_of_getElem? (i := 14) rfl))) Via.refl e10 F_spunNanos_a1 (g := (mkF m 34 #[.val (.ref a1), .unset] [(.ref a1), (.long w9), (.long w2)])) rfl rfl (hb hby d5_34)
  obtain ⟨T13, X13, e13, st13⟩ := getF X11 hx hZ hown (host := "") (Or.inl (hw _ (List.mem_of_getElem? (i := 30) rfl))) Via.refl e11 F_sinceOther_a1 (g := (mkF m 99 #[.val (.ref a1), .val (.int (0 : Int32))] [(.ref a1), (.ref a1)])) rfl rfl (hb hby d5_99)
  obtain ⟨T14, h14, X14, e14, W14, st14⟩ := putF X13 hx hZ hown (host := "") (Or.inl (hw _ (List.mem_of_getElem? (i := 30) rfl))) Via.refl e13 F_sinceOther_a1 E_a1 (Or.inl (hw _ (List.mem_of_getElem? (i := 31) rfl))) (hw _ (List.mem_of_getElem? (i := 1) rfl)) (ty := .int) (by decide) rfl rfl (g := (mkF m 105 #[.val (.ref a1), .val (.int (0 : Int32))] [(.int (w12 + (1 : Int32))), (.ref a1), (.int (w12 + (1 : Int32)))])) rfl rfl (hb hby d5_105)
  have Fw14 := F_sinceOther_a1.same W14
  have N14 := Fr.snoc X14 N0 g_a1
  obtain ⟨T15, X15, e15, st15⟩ := getF X14 hx hZ hown (host := "") (Or.inl (hw _ (List.mem_of_getElem? (i := 28) rfl))) Via.refl e14 (F_spinning_a1.other W14 (Or.inr (slot_ne (Or.inl (hw _ (List.mem_of_getElem? (i := 29) rfl))) (Or.inl (hw _ (List.mem_of_getElem? (i := 31) rfl))) (by decide) (t := .boolean) (t' := .int) (by decide) (by decide)))) (g := (mkF m 114 #[.val (.ref a1), .val (.int (0 : Int32))] [(.ref a1)])) rfl rfl (hb hby d5_114)
  obtain ⟨fs, hr, hrun, hended, hW, hsame⟩ := X15.leave (v := some (.int (1 : Int32))) (fun h => by rw [Bd.returns] at h; cases h)
  refine ⟨_, _, pre0 _ ?_, hrun, hended, _, _, rfl, ?_, ⟨_, rfl⟩, hW, hsame.mono (by decide) (by decide)⟩
  · show Steps p.tables e below (s₁.setTop (mkF m 0 #[.val (.ref a1), .unset] [])) _
    refine XS.aloadN X0.here hx rfl (hb hby d5_0) rfl rfl ?_
    show Steps p.tables e below (s₁.setTop (mkF m 1 #[.val (.ref a1), .unset] [(.ref a1)])) _
    refine st3 _ ?_
    show Steps p.tables e below (T3.setTop (mkF m 4 #[.val (.ref a1), .unset] [(.long w2)])) _
    refine st5 _ ?_
    show Steps p.tables e below (T5.setTop (mkF m 7 #[.val (.ref a1), .unset] [(.long (100000 : Int64)), (.long w2)])) _
    refine XS.lcmp X5.here hx rfl (hb hby d5_7) rfl ?_
    show Steps p.tables e below (T5.setTop (mkF m 8 #[.val (.ref a1), .unset] [(.int (lcmpW w2 (100000 : Int64)))])) _
    refine XS.ifYes X5.here hx rfl (pc0 := 8) (pc' := 18) rfl (hb hby d5_8) rfl ((if0 _ _).trans (tlt hc8).1) (by decide) (by decide) ?_
    show Steps p.tables e below (T5.setTop (mkF m 18 #[.val (.ref a1), .unset] [])) _
    refine XS.aloadN X5.here hx rfl (hb hby d5_18) rfl rfl ?_
    show Steps p.tables e below (T5.setTop (mkF m 19 #[.val (.ref a1), .unset] [(.ref a1)])) _
    refine st7 _ ?_
    show Steps p.tables e below (T7.setTop (mkF m 22 #[.val (.ref a1), .unset] [(.int (1 : Int32))])) _
    refine XS.ifNo X7.here hx rfl (hb hby d5_22) rfl ((if0 _ _).trans (feq hc22).1) ?_
    show Steps p.tables e below (T7.setTop (mkF m 25 #[.val (.ref a1), .unset] [])) _
    refine XS.aloadN X7.here hx rfl (hb hby d5_25) rfl rfl ?_
    show Steps p.tables e below (T7.setTop (mkF m 26 #[.val (.ref a1), .unset] [(.ref a1)])) _
    refine st8 _ ?_
    show Steps p.tables e below (T8.setTop (mkF m 29 #[.val (.ref a1), .unset] [(.long w2)])) _
    refine XS.aloadN X8.here hx rfl (hb hby d5_29) rfl rfl ?_
    show Steps p.tables e below (T8.setTop (mkF m 30 #[.val (.ref a1), .unset] [(.ref a1), (.long w2)])) _
    refine st10 _ ?_
    show Steps p.tables e below (T10.setTop (mkF m 33 #[.val (.ref a1), .unset] [(.long w9), (.long w2)])) _
    refine XS.aloadN X10.here hx rfl (hb hby d5_33) rfl rfl ?_
    show Steps p.tables e below (T10.setTop (mkF m 34 #[.val (.ref a1), .unset] [(.ref a1), (.long w9), (.long w2)])) _
    refine st11 _ ?_
    show Steps p.tables e below (T11.setTop (mkF m 37 #[.val (.ref a1), .unset] [(.long w9), (.long w9), (.long w2)])) _
    refine XS.iconst X11.here hx rfl (hb hby d5_37) ?_
    show Steps p.tables e below (T11.setTop (mkF m 38 #[.val (.ref a1), .unset] [(.int (3 : Int32)), (.long w9), (.long w9), (.long w2)])) _
    refine XS.lshr X11.here hx rfl (hb hby d5_38) rfl ?_
    show Steps p.tables e below (T11.setTop (mkF m 39 #[.val (.ref a1), .unset] [(.long (w9 >>> ((3 : Int32) &&& 0x3f).toInt64)), (.long w9), (.long w2)])) _
    refine XS.lsub X11.here hx rfl (hb hby d5_39) rfl ?_
    show Steps p.tables e below (T11.setTop (mkF m 40 #[.val (.ref a1), .unset] [(.long (w9 - (w9 >>> ((3 : Int32) &&& 0x3f).toInt64))), (.long w2)])) _
    refine XS.lcmp X11.here hx rfl (hb hby d5_40) rfl ?_
    show Steps p.tables e below (T11.setTop (mkF m 41 #[.val (.ref a1), .unset] [(.int (lcmpW w2 (w9 - (w9 >>> ((3 : Int32) &&& 0x3f).toInt64))))])) _
    refine XS.ifYes X11.here hx rfl (pc0 := 41) (pc' := 48) rfl (hb hby d5_41) rfl ((if0 _ _).trans (flt hc41).2.1) (by decide) (by decide) ?_
    show Steps p.tables e below (T11.setTop (mkF m 48 #[.val (.ref a1), .unset] [])) _
    refine XS.iconst X11.here hx rfl (hb hby d5_48) ?_
    show Steps p.tables e below (T11.setTop (mkF m 49 #[.val (.ref a1), .unset] [(.int (0 : Int32))])) _
    refine XS.goto X11.here hx rfl (pc0 := 49) (pc' := 76) rfl (hb hby d5_49) (by decide) (by decide) ?_
    show Steps p.tables e below (T11.setTop (mkF m 76 #[.val (.ref a1), .unset] [(.int (0 : Int32))])) _
    refine XS.istoreN X11.here hx rfl (hb hby d5_76) rfl (l' := #[.val (.ref a1), .val (.int (0 : Int32))]) rfl ?_
    show Steps p.tables e below (T11.setTop (mkF m 77 #[.val (.ref a1), .val (.int (0 : Int32))] [])) _
    refine XS.iloadN X11.here hx rfl (hb hby d5_77) rfl ?_
    show Steps p.tables e below (T11.setTop (mkF m 78 #[.val (.ref a1), .val (.int (0 : Int32))] [(.int (0 : Int32))])) _
    refine XS.ifYes X11.here hx rfl (pc0 := 78) (pc' := 97) rfl (hb hby d5_78) rfl ((if0 _ _).trans (teq (rfl : (0 : Int32) = (0 : Int32))).1) (by decide) (by decide) ?_
    show Steps p.tables e below (T11.setTop (mkF m 97 #[.val (.ref a1), .val (.int (0 : Int32))] [])) _
    refine XS.aloadN X11.here hx rfl (hb hby d5_97) rfl rfl ?_
    show Steps p.tables e below (T11.setTop (mkF m 98 #[.val (.ref a1), .val (.int (0 : Int32))] [(.ref a1)])) _
    refine XS.dup X11.here hx rfl (hb hby d5_98) rfl rfl ?_
    show Steps p.tables e below (T11.setTop (mkF m 99 #[.val (.ref a1), .val (.int (0 : Int32))] [(.ref a1), (.ref a1)])) _
    refine st13 _ ?_
    show Steps p.tables e below (T13.setTop (mkF m 102 #[.val (.ref a1), .val (.int (0 : Int32))] [(.int w12), (.ref a1)])) _
    refine XS.iconst X13.here hx rfl (hb hby d5_102) ?_
    show Steps p.tables e below (T13.setTop (mkF m 103 #[.val (.ref a1), .val (.int (0 : Int32))] [(.int (1 : Int32)), (.int w12), (.ref a1)])) _
    refine XS.iadd X13.here hx rfl (hb hby d5_103) rfl ?_
    show Steps p.tables e below (T13.setTop (mkF m 104 #[.val (.ref a1), .val (.int (0 : Int32))] [(.int (w12 + (1 : Int32))), (.ref a1)])) _
    refine XS.dupX1 X13.here hx rfl (hb hby d5_104) rfl rfl rfl ?_
    show Steps p.tables e below (T13.setTop (mkF m 105 #[.val (.ref a1), .val (.int (0 : Int32))] [(.int (w12 + (1 : Int32))), (.ref a1), (.int (w12 + (1 : Int32)))])) _
    refine st14 _ ?_
    show Steps p.tables e below (T14.setTop (mkF m 108 #[.val (.ref a1), .val (.int (0 : Int32))] [(.int (w12 + (1 : Int32)))])) _
    refine XS.bipush X14.here hx rfl (hb hby d5_108) ?_
    show Steps p.tables e below (T14.setTop (mkF m 110 #[.val (.ref a1), .val (.int (0 : Int32))] [(.int (17 : Int32)), (.int (w12 + (1 : Int32)))])) _
    refine XS.icmpNo X14.here hx rfl (hb hby d5_110) rfl (tlt hc110).2.1 ?_
    show Steps p.tables e below (T14.setTop (mkF m 113 #[.val (.ref a1), .val (.int (0 : Int32))] [])) _
    refine XS.aloadN X14.here hx rfl (hb hby d5_113) rfl rfl ?_
    show Steps p.tables e below (T14.setTop (mkF m 114 #[.val (.ref a1), .val (.int (0 : Int32))] [(.ref a1)])) _
    refine st15 _ ?_
    show Steps p.tables e below (T15.setTop (mkF m 117 #[.val (.ref a1), .val (.int (0 : Int32))] [(.int (1 : Int32))])) _
    exact retN X15 hx (t := .boolean) Bd.returns (by simp) (hb hby d5_117) hr
  · show Q5c Z a1 w9 w2 w12 _ n0 _ T15.heap _
    rw [e15]
    exact ⟨rfl, N14, _, (H.w3 hw W14), Or.inr rfl⟩
theorem d5_52 : decode prog_48_method_2_code 52 = .ok (.aload_n 0, 1) := by decide +kernel
theorem d5_53 : decode prog_48_method_2_code 53 = .ok (.getfield 20, 3) := by decide +kernel
theorem d5_56 : decode prog_48_method_2_code 56 = .ok (.aload_n 0, 1) := by decide +kernel
theorem d5_57 : decode prog_48_method_2_code 57 = .ok (.getfield 7, 3) := by decide +kernel
theorem d5_60 : decode prog_48_method_2_code 60 = .ok (.aload_n 0, 1) := by decide +kernel
theorem d5_61 : decode prog_48_method_2_code 61 = .ok (.getfield 7, 3) := by decide +kernel
theorem d5_64 : decode prog_48_method_2_code 64 = .ok (.iconst 3, 1) := by decide +kernel
theorem d5_65 : decode prog_48_method_2_code 65 = .ok (.lshr, 1) := by decide +kernel
theorem d5_66 : decode prog_48_method_2_code 66 = .ok (.lsub, 1) := by decide +kernel
theorem d5_67 : decode prog_48_method_2_code 67 = .ok (.lcmp, 1) := by decide +kernel
theorem d5_68 : decode prog_48_method_2_code 68 = .ok (.ifCond .ge 7, 3) := by decide +kernel
theorem d5_71 : decode prog_48_method_2_code 71 = .ok (.iconst 1, 1) := by decide +kernel
theorem d5_72 : decode prog_48_method_2_code 72 = .ok (.goto 4, 3) := by decide +kernel
theorem d5_89 : decode prog_48_method_2_code 89 = .ok (.iconst 1, 1) := by decide +kernel
theorem d5_90 : decode prog_48_method_2_code 90 = .ok (.goto 4, 3) := by decide +kernel
theorem pn_5d : plainName "com/example/leasehold/leasehold/link/ReplyWaits" = true := by first | (simp [plainName, overriddenIn]; done) | decide +kernel
theorem ef_5d (m : MethodId) (x0 : Addr) : entryFrame m #[(.ref x0)] 2 = mkF m 0 #[.val (.ref x0), .unset] [] := by first | (simp [entryFrame, mkF, argsToLocals, Value.category]; done) | rfl
def Q5d (Z : State) (a1 : Addr) (sn bl : Int64) (si : Int32) (h0 : Heap) (n0 : Nat) (v : Option Value) (h : Heap) (L : List Loc) : Prop := v = some (.int (1 : Int32)) ∧ Fr n0 L ∧ ∃ si' : Int32, Wt Z h a1 sn bl (1 : Int32) si' ∧ (si' = si ∨ si' = si + 1)
set_option maxRecDepth 65536 in
set_option maxHeartbeats 40000000 in
theorem rm5d (l : Launch) (Z : State) (a0 : Array Value) (hw : ∀ d ∈ tables_1, d.before a0 Z = true) (ws : List Jvm.Cond) (a1 : Addr) (w8 w2 : Int64) (w14 : Int32) (h0 : Heap) (n0 : Nat) (Z0 : n0 ≤ h0.size) (F_blockedNanos_a1 : Fld Z h0 a1 "com/example/leasehold/leasehold/link/ReplyWaits" "blockedNanos" "J" (.long w2)) (S_SPIN_NANOS : Sta Z h0 "com/example/leasehold/leasehold/link/ReplyWaits" "SPIN_NANOS" "J" (.long (100000 : Int64))) (F_spinning_a1 : Fld Z h0 a1 "com/example/leasehold/leasehold/link/ReplyWaits" "spinning" "Z" (.int (0 : Int32))) (F_spunNanos_a1 : Fld Z h0 a1 "com/example/leasehold/leasehold/link/ReplyWaits" "spunNanos" "J" (.long w8)) (E_a1 : Exa Z h0 a1 "com/example/leasehold/leasehold/link/ReplyWaits") (g_a1 : n0 ≤ a1) (F_sinceOther_a1 : Fld Z h0 a1 "com/example/leasehold/leasehold/link/ReplyWaits" "sinceOther" "I" (.int w14)) (hc8 : (lcmpW w2 (100000 : Int64)) < (0 : Int32)) (hc22 : (0 : Int32) = (0 : Int32)) (hc68 : (lcmpW w8 (w2 - (w2 >>> ((3 : Int32) &&& 0x3f).toInt64))) < (0 : Int32)) (hc78 : ¬ ((1 : Int32) = (0 : Int32))) (hc86 : (0 : Int32) = (0 : Int32)) (hc110 : (w14 + (1 : Int32)) < (17 : Int32)) (H : Wt Z h0 a1 w8 w2 (0 : Int32) w14) :
    MetFree l (⟨"com/example/leasehold/leasehold/link/ReplyWaits", "spinsNext", "()Z"⟩ : MethodName) (head1 (Jvm.Cond.code (⟨"com/example/leasehold/leasehold/link/ReplyWaits", "spinsNext", "()Z"⟩ : MethodName) prog_48_method_2_code 2 (some .boolean) :: ws) ({ frames := 0, cells := 0, slots := 0, locals := 0 } : Room)) (fun a U => a = #[(.ref a1)] ∧ Z.Warmed39 U.vm ∧ U.heap = h0) (fun _ _ _ _ _ => True) (fun _ U o U' => ∃ v L, o = .returned v ∧ Q5d Z a1 w8 w2 w14 h0 n0 v U'.heap L ∧ FrameEnd U o U' L ({ frames := 0, cells := 0, slots := 0, locals := 0 } : Room).cells ({ frames := 0, cells := 0, slots := 0, locals := 0 } : Room).slots) := by
  refine MetFree.of_bodySF (plainFor_of_name pn_5d) hisR ?_
  intro p e s m args below meth c s₁ Bd hml0 hP hK
  obtain ⟨rfl, hZ, hh⟩ := hP
  have hx := Bd.exec
  have hby := Bd.bytes
  have hml : c.maxLocals = 2 := hml0
  have hown : s.vm.findClass "com/example/leasehold/leasehold/link/ReplyWaits" = some m.cls := findClass_of_methodNamed Bd.named
  have hnm := (name_of_methodNamed Bd.named Bd.method).1
  have X0 : Stand p l e ({ frames := 0, cells := 0, slots := 0, locals := 0 } : Room) s m #[(.ref a1)] below meth c s₁ [] 0 0 := Stand.of_body Bd
  have e0 : s₁.heap = h0 := by rw [← hh, Bd.state]; rfl
  have N0 := Fr.nil n0
  have pre0 : ∀ t, Steps p.tables e below (s₁.setTop (mkF m 0 #[.val (.ref a1), .unset] [])) t → Steps p.tables e below (s₁.setTop (entryFrame m #[(.ref a1)] 2)) t := fun t k => castTop (ef_5d m a1) k
  obtain ⟨T3, X3, e3, st3⟩ := getF X0 hx hZ hown (host := "") (Or.inl (hw _ (List.mem_of_getElem? (i := 19) rfl))) Via.refl e0 F_blockedNanos_a1 (g := (mkF m 1 #[.val (.ref a1), .unset] [(.ref a1)])) rfl rfl (hb hby d5_1)
  obtain ⟨T5, X5, e5, st5⟩ := getS2 X3 hx hZ hown (host := "") (Or.inl (hw _ (List.mem_of_getElem? (i := 26) rfl))) Via.refl e3 S_SPIN_NANOS (g := (mkF m 4 #[.val (.ref a1), .unset] [(.long w2)])) rfl (hb hby d5_4)
  obtain ⟨T7, X7, e7, st7⟩ := getF X5 hx hZ hown (host := "") (Or.inl (hw _ (List.mem_of_getElem? (i := 28) rfl))) Via.refl e5 F_spinning_a1 (g := (mkF m 19 #[.val (.ref a1), .unset] [(.ref a1)])) rfl rfl (hb hby d5_19)
  obtain ⟨T9, X9, e9, st9⟩ := getF X7 hx hZ hown (host := "") (Or.inl (hw _ (List.mem_of_getElem? (i := 14) rfl))) Via.refl e7 F_spunNanos_a1 (g := (mkF m 53 #[.val (.ref a1), .unset] [(.ref a1)])) rfl rfl (hb hby d5_53)
  obtain ⟨T10, X10, e10, st10⟩ := getF X9 hx hZ hown (host := "") (Or.inl (hw _ (List.mem_of_getElem? (i := 19) rfl))) Via.refl e9 F_blockedNanos_a1 (g := (mkF m 57 #[.val (.ref a1), .unset] [(.ref a1), (.long w8)])) rfl rfl (hb hby d5_57)
  obtain ⟨T11, X11, e11, st11⟩ := getF X10 hx hZ hown (host := "") (Or.inl (hw _ (List.mem_of_getElem? (i := 19) rfl))) Via.refl e10 F_blockedNanos_a1 (g := (mkF m 61 #[.val (.ref a1), .unset] [(.ref a1), (.long w2), (.long w8)])) rfl rfl (hb hby d5_61)
  obtain ⟨T12, X12, e12, st12⟩ := getF X11 hx hZ hown (host := "") (Or.inl (hw _ (List.mem_of_getElem? (i := 28) rfl))) Via.refl e11 F_spinning_a1 (g := (mkF m 83 #[.val (.ref a1), .val (.int (1 : Int32))] [(.ref a1), (.ref a1)])) rfl rfl (hb hby d5_83)
  obtain ⟨T13, h13, X13, e13, W13, st13⟩ := putFN X12 hx hZ hown (hw _ (List.mem_of_getElem? (i := 28) rfl)) Via.refl e12 F_spinning_a1 E_a1 (Or.inl (hw _ (List.mem_of_getElem? (i := 29) rfl))) (hw _ (List.mem_of_getElem? (i := 1) rfl)) (ty := .boolean) (v' := (.int (1 : Int32))) (by decide) rfl rfl (g := (mkF m 94 #[.val (.ref a1), .val (.int (1 : Int32))] [(.int (1 : Int32)), (.ref a1)])) rfl rfl (hb hby d5_94)
  have Fw13 := F_spinning_a1.same W13
  have N13 := Fr.snoc X13 N0 g_a1
  obtain ⟨T15, X15, e15, st15⟩ := getF X13 hx hZ hown (host := "") (Or.inl (hw _ (List.mem_of_getElem? (i := 30) rfl))) Via.refl e13 (F_sinceOther_a1.other W13 (Or.inr (slot_ne (Or.inl (hw _ (List.mem_of_getElem? (i := 31) rfl))) (Or.inl (hw _ (List.mem_of_getElem? (i := 29) rfl))) (by decide) (t := .int) (t' := .boolean) (by decide) (by decide)))) (g := (mkF m 99 #[.val (.ref a1), .val (.int (1 : Int32))] [(.ref a1), (.ref a1)])) rfl rfl (hb hby d5_99)
  obtain ⟨T16, h16, X16, e16, W16, st16⟩ := putF X15 hx hZ hown (host := "") (Or.inl (hw _ (List.mem_of_getElem? (i := 30) rfl))) Via.refl e15 (F_sinceOther_a1.other W13 (Or.inr (slot_ne (Or.inl (hw _ (List.mem_of_getElem? (i := 31) rfl))) (Or.inl (hw _ (List.mem_of_getElem? (i := 29) rfl))) (by decide) (t := .int) (t' := .boolean) (by decide) (by decide)))) (E_a1.wr W13) (Or.inl (hw _ (List.mem_of_getElem? (i := 31) rfl))) (hw _ (List.mem_of_getElem? (i := 1) rfl)) (ty := .int) (by decide) rfl rfl (g := (mkF m 105 #[.val (.ref a1), .val (.int (1 : Int32))] [(.int (w14 + (1 : Int32))), (.ref a1), (.int (w14 + (1 : Int32)))])) rfl rfl (hb hby d5_105)
  have Fw16 := (F_sinceOther_a1.other W13 (Or.inr (slot_ne (Or.inl (hw _ (List.mem_of_getElem? (i := 31) rfl))) (Or.inl (hw _ (List.mem_of_getElem? (i := 29) rfl))) (by decide) (t := .int) (t' := .boolean) (by decide) (by decide)))).same W16
  have N16 := Fr.snoc X16 N13 g_a1
  obtain ⟨T17, X17, e17, st17⟩ := getF X16 hx hZ hown (host := "") (Or.inl (hw _ (List.mem_of_getElem? (i := 28) rfl))) Via.refl e16 (Fw13.other W16 (Or.inr (slot_ne (Or.inl (hw _ (List.mem_of_getElem? (i := 29) rfl))) (Or.inl (hw _ (List.mem_of_getElem? (i := 31) rfl))) (by decide) (t := .boolean) (t' := .int) (by decide) (by decide)))) (g := (mkF m 114 #[.val (.ref a1), .val (.int (1 : Int32))] [(.ref a1)])) rfl rfl (hb hby d5_114)
  obtain ⟨fs, hr, hrun, hended, hW, hsame⟩ := X17.leave (v := some (.int (1 : Int32))) (fun h => by rw [Bd.returns] at h; cases h)
  refine ⟨_, _, pre0 _ ?_, hrun, hended, _, _, rfl, ?_, ⟨_, rfl⟩, hW, hsame.mono (by decide) (by decide)⟩
  · show Steps p.tables e below (s₁.setTop (mkF m 0 #[.val (.ref a1), .unset] [])) _
    refine XS.aloadN X0.here hx rfl (hb hby d5_0) rfl rfl ?_
    show Steps p.tables e below (s₁.setTop (mkF m 1 #[.val (.ref a1), .unset] [(.ref a1)])) _
    refine st3 _ ?_
    show Steps p.tables e below (T3.setTop (mkF m 4 #[.val (.ref a1), .unset] [(.long w2)])) _
    refine st5 _ ?_
    show Steps p.tables e below (T5.setTop (mkF m 7 #[.val (.ref a1), .unset] [(.long (100000 : Int64)), (.long w2)])) _
    refine XS.lcmp X5.here hx rfl (hb hby d5_7) rfl ?_
    show Steps p.tables e below (T5.setTop (mkF m 8 #[.val (.ref a1), .unset] [(.int (lcmpW w2 (100000 : Int64)))])) _
    refine XS.ifYes X5.here hx rfl (pc0 := 8) (pc' := 18) rfl (hb hby d5_8) rfl ((if0 _ _).trans (tlt hc8).1) (by decide) (by decide) ?_
    show Steps p.tables e below (T5.setTop (mkF m 18 #[.val (.ref a1), .unset] [])) _
    refine XS.aloadN X5.here hx rfl (hb hby d5_18) rfl rfl ?_
    show Steps p.tables e below (T5.setTop (mkF m 19 #[.val (.ref a1), .unset] [(.ref a1)])) _
    refine st7 _ ?_
    show Steps p.tables e below (T7.setTop (mkF m 22 #[.val (.ref a1), .unset] [(.int (0 : Int32))])) _
    refine XS.ifYes X7.here hx rfl (pc0 := 22) (pc' := 52) rfl (hb hby d5_22) rfl ((if0 _ _).trans (teq hc22).1) (by decide) (by decide) ?_
    show Steps p.tables e below (T7.setTop (mkF m 52 #[.val (.ref a1), .unset] [])) _
    refine XS.aloadN X7.here hx rfl (hb hby d5_52) rfl rfl ?_
    show Steps p.tables e below (T7.setTop (mkF m 53 #[.val (.ref a1), .unset] [(.ref a1)])) _
    refine st9 _ ?_
    show Steps p.tables e below (T9.setTop (mkF m 56 #[.val (.ref a1), .unset] [(.long w8)])) _
    refine XS.aloadN X9.here hx rfl (hb hby d5_56) rfl rfl ?_
    show Steps p.tables e below (T9.setTop (mkF m 57 #[.val (.ref a1), .unset] [(.ref a1), (.long w8)])) _
    refine st10 _ ?_
    show Steps p.tables e below (T10.setTop (mkF m 60 #[.val (.ref a1), .unset] [(.long w2), (.long w8)])) _
    refine XS.aloadN X10.here hx rfl (hb hby d5_60) rfl rfl ?_
    show Steps p.tables e below (T10.setTop (mkF m 61 #[.val (.ref a1), .unset] [(.ref a1), (.long w2), (.long w8)])) _
    refine st11 _ ?_
    show Steps p.tables e below (T11.setTop (mkF m 64 #[.val (.ref a1), .unset] [(.long w2), (.long w2), (.long w8)])) _
    refine XS.iconst X11.here hx rfl (hb hby d5_64) ?_
    show Steps p.tables e below (T11.setTop (mkF m 65 #[.val (.ref a1), .unset] [(.int (3 : Int32)), (.long w2), (.long w2), (.long w8)])) _
    refine XS.lshr X11.here hx rfl (hb hby d5_65) rfl ?_
    show Steps p.tables e below (T11.setTop (mkF m 66 #[.val (.ref a1), .unset] [(.long (w2 >>> ((3 : Int32) &&& 0x3f).toInt64)), (.long w2), (.long w8)])) _
    refine XS.lsub X11.here hx rfl (hb hby d5_66) rfl ?_
    show Steps p.tables e below (T11.setTop (mkF m 67 #[.val (.ref a1), .unset] [(.long (w2 - (w2 >>> ((3 : Int32) &&& 0x3f).toInt64))), (.long w8)])) _
    refine XS.lcmp X11.here hx rfl (hb hby d5_67) rfl ?_
    show Steps p.tables e below (T11.setTop (mkF m 68 #[.val (.ref a1), .unset] [(.int (lcmpW w8 (w2 - (w2 >>> ((3 : Int32) &&& 0x3f).toInt64))))])) _
    refine XS.ifNo X11.here hx rfl (hb hby d5_68) rfl ((if0 _ _).trans (tlt hc68).2.1) ?_
    show Steps p.tables e below (T11.setTop (mkF m 71 #[.val (.ref a1), .unset] [])) _
    refine XS.iconst X11.here hx rfl (hb hby d5_71) ?_
    show Steps p.tables e below (T11.setTop (mkF m 72 #[.val (.ref a1), .unset] [(.int (1 : Int32))])) _
    refine XS.goto X11.here hx rfl (pc0 := 72) (pc' := 76) rfl (hb hby d5_72) (by decide) (by decide) ?_
    show Steps p.tables e below (T11.setTop (mkF m 76 #[.val (.ref a1), .unset] [(.int (1 : Int32))])) _
    refine XS.istoreN X11.here hx rfl (hb hby d5_76) rfl (l' := #[.val (.ref a1), .val (.int (1 : Int32))]) rfl ?_
    show Steps p.tables e below (T11.setTop (mkF m 77 #[.val (.ref a1), .val (.int (1 : Int32))] [])) _
    refine XS.iloadN X11.here hx rfl (hb hby d5_77) rfl ?_
    show Steps p.tables e below (T11.setTop (mkF m 78 #[.val (.ref a1), .val (.int (1 : Int32))] [(.int (1 : Int32))])) _
    refine XS.ifNo X11.here hx rfl (hb hby d5_78) rfl ((if0 _ _).trans (feq hc78).1) ?_
    show Steps p.tables e below (T11.setTop (mkF m 81 #[.val (.ref a1), .val (.int (1 : Int32))] [])) _
    refine XS.aloadN X11.here hx rfl (hb hby d5_81) rfl rfl ?_
    show Steps p.tables e below (T11.setTop (mkF m 82 #[.val (.ref a1), .val (.int (1 : Int32))] [(.ref a1)])) _
    refine XS.aloadN X11.here hx rfl (hb hby d5_82) rfl rfl ?_
    show Steps p.tables e below (T11.setTop (mkF m 83 #[.val (.ref a1), .val (.int (1 : Int32))] [(.ref a1), (.ref a1)])) _
    refine st12 _ ?_
    show Steps p.tables e below (T12.setTop (mkF m 86 #[.val (.ref a1), .val (.int (1 : Int32))] [(.int (0 : Int32)), (.ref a1)])) _
    refine XS.ifNo X12.here hx rfl (hb hby d5_86) rfl ((if0 _ _).trans (teq hc86).2) ?_
    show Steps p.tables e below (T12.setTop (mkF m 89 #[.val (.ref a1), .val (.int (1 : Int32))] [(.ref a1)])) _
    refine XS.iconst X12.here hx rfl (hb hby d5_89) ?_
    show Steps p.tables e below (T12.setTop (mkF m 90 #[.val (.ref a1), .val (.int (1 : Int32))] [(.int (1 : Int32)), (.ref a1)])) _
    refine XS.goto X12.here hx rfl (pc0 := 90) (pc' := 94) rfl (hb hby d5_90) (by decide) (by decide) ?_
    show Steps p.tables e below (T12.setTop (mkF m 94 #[.val (.ref a1), .val (.int (1 : Int32))] [(.int (1 : Int32)), (.ref a1)])) _
    refine st13 _ ?_
    show Steps p.tables e below (T13.setTop (mkF m 97 #[.val (.ref a1), .val (.int (1 : Int32))] [])) _
    refine XS.aloadN X13.here hx rfl (hb hby d5_97) rfl rfl ?_
    show Steps p.tables e below (T13.setTop (mkF m 98 #[.val (.ref a1), .val (.int (1 : Int32))] [(.ref a1)])) _
    refine XS.dup X13.here hx rfl (hb hby d5_98) rfl rfl ?_
    show Steps p.tables e below (T13.setTop (mkF m 99 #[.val (.ref a1), .val (.int (1 : Int32))] [(.ref a1), (.ref a1)])) _
    refine st15 _ ?_
    show Steps p.tables e below (T15.setTop (mkF m 102 #[.val (.ref a1), .val (.int (1 : Int32))] [(.int w14), (.ref a1)])) _
    refine XS.iconst X15.here hx rfl (hb hby d5_102) ?_
    show Steps p.tables e below (T15.setTop (mkF m 103 #[.val (.ref a1), .val (.int (1 : Int32))] [(.int (1 : Int32)), (.int w14), (.ref a1)])) _
    refine XS.iadd X15.here hx rfl (hb hby d5_103) rfl ?_
    show Steps p.tables e below (T15.setTop (mkF m 104 #[.val (.ref a1), .val (.int (1 : Int32))] [(.int (w14 + (1 : Int32))), (.ref a1)])) _
    refine XS.dupX1 X15.here hx rfl (hb hby d5_104) rfl rfl rfl ?_
    show Steps p.tables e below (T15.setTop (mkF m 105 #[.val (.ref a1), .val (.int (1 : Int32))] [(.int (w14 + (1 : Int32))), (.ref a1), (.int (w14 + (1 : Int32)))])) _
    refine st16 _ ?_
    show Steps p.tables e below (T16.setTop (mkF m 108 #[.val (.ref a1), .val (.int (1 : Int32))] [(.int (w14 + (1 : Int32)))])) _
    refine XS.bipush X16.here hx rfl (hb hby d5_108) ?_
    show Steps p.tables e below (T16.setTop (mkF m 110 #[.val (.ref a1), .val (.int (1 : Int32))] [(.int (17 : Int32)), (.int (w14 + (1 : Int32)))])) _
    refine XS.icmpNo X16.here hx rfl (hb hby d5_110) rfl (tlt hc110).2.1 ?_
    show Steps p.tables e below (T16.setTop (mkF m 113 #[.val (.ref a1), .val (.int (1 : Int32))] [])) _
    refine XS.aloadN X16.here hx rfl (hb hby d5_113) rfl rfl ?_
    show Steps p.tables e below (T16.setTop (mkF m 114 #[.val (.ref a1), .val (.int (1 : Int32))] [(.ref a1)])) _
    refine st17 _ ?_
    show Steps p.tables e below (T17.setTop (mkF m 117 #[.val (.ref a1), .val (.int (1 : Int32))] [(.int (1 : Int32))])) _
    exact retN X17 hx (t := .boolean) Bd.returns (by simp) (hb hby d5_117) hr
  · show Q5d Z a1 w8 w2 w14 _ n0 _ T17.heap _
    rw [e17]
    exact ⟨rfl, N16, _, ((H.w2 hw W13).w3 hw W16), Or.inr rfl⟩
theorem d5_75 : decode prog_48_method_2_code 75 = .ok (.iconst 0, 1) := by decide +kernel
theorem pn_5e : plainName "com/example/leasehold/leasehold/link/ReplyWaits" = true := by first | (simp [plainName, overriddenIn]; done) | decide +kernel
theorem ef_5e (m : MethodId) (x0 : Addr) : entryFrame m #[(.ref x0)] 2 = mkF m 0 #[.val (.ref x0), .unset] [] := by first | (simp [entryFrame, mkF, argsToLocals, Value.category]; done) | rfl
def Q5e (Z : State) (a1 : Addr) (sn bl : Int64) (si : Int32) (h0 : Heap) (n0 : Nat) (v : Option Value) (h : Heap) (L : List Loc) : Prop := v = some (.int (0 : Int32)) ∧ Fr n0 L ∧ ∃ si' : Int32, Wt Z h a1 sn bl (0 : Int32) si' ∧ (si' = si ∨ si' = si + 1)
set_option maxRecDepth 65536 in
set_option maxHeartbeats 40000000 in
theorem rm5e (l : Launch) (Z : State) (a0 : Array Value) (hw : ∀ d ∈ tables_1, d.before a0 Z = true) (ws : List Jvm.Cond) (a1 : Addr) (w8 w2 : Int64) (w12 : Int32) (h0 : Heap) (n0 : Nat) (Z0 : n0 ≤ h0.size) (F_blockedNanos_a1 : Fld Z h0 a1 "com/example/leasehold/leasehold/link/ReplyWaits" "blockedNanos" "J" (.long w2)) (S_SPIN_NANOS : Sta Z h0 "com/example/leasehold/leasehold/link/ReplyWaits" "SPIN_NANOS" "J" (.long (100000 : Int64))) (F_spinning_a1 : Fld Z h0 a1 "com/example/leasehold/leasehold/link/ReplyWaits" "spinning" "Z" (.int (0 : Int32))) (F_spunNanos_a1 : Fld Z h0 a1 "com/example/leasehold/leasehold/link/ReplyWaits" "spunNanos" "J" (.long w8)) (F_sinceOther_a1 : Fld Z h0 a1 "com/example/leasehold/leasehold/link/ReplyWaits" "sinceOther" "I" (.int w12)) (E_a1 : Exa Z h0 a1 "com/example/leasehold/leasehold/link/ReplyWaits") (g_a1 : n0 ≤ a1) (hc8 : (lcmpW w2 (100000 : Int64)) < (0 : Int32)) (hc22 : (0 : Int32) = (0 : Int32)) (hc68 : ¬ ((lcmpW w8 (w2 - (w2 >>> ((3 : Int32) &&& 0x3f).toInt64))) < (0 : Int32))) (hc110 : (w12 + (1 : Int32)) < (17 : Int32)) (H : Wt Z h0 a1 w8 w2 (0 : Int32) w12) :
    MetFree l (⟨"com/example/leasehold/leasehold/link/ReplyWaits", "spinsNext", "()Z"⟩ : MethodName) (head1 (Jvm.Cond.code (⟨"com/example/leasehold/leasehold/link/ReplyWaits", "spinsNext", "()Z"⟩ : MethodName) prog_48_method_2_code 2 (some .boolean) :: ws) ({ frames := 0, cells := 0, slots := 0, locals := 0 } : Room)) (fun a U => a = #[(.ref a1)] ∧ Z.Warmed39 U.vm ∧ U.heap = h0) (fun _ _ _ _ _ => True) (fun _ U o U' => ∃ v L, o = .returned v ∧ Q5e Z a1 w8 w2 w12 h0 n0 v U'.heap L ∧ FrameEnd U o U' L ({ frames := 0, cells := 0, slots := 0, locals := 0 } : Room).cells ({ frames := 0, cells := 0, slots := 0, locals := 0 } : Room).slots) := by
  refine MetFree.of_bodySF (plainFor_of_name pn_5e) hisR ?_
  intro p e s m args below meth c s₁ Bd hml0 hP hK
  obtain ⟨rfl, hZ, hh⟩ := hP
  have hx := Bd.exec
  have hby := Bd.bytes
  have hml : c.maxLocals = 2 := hml0
  have hown : s.vm.findClass "com/example/leasehold/leasehold/link/ReplyWaits" = some m.cls := findClass_of_methodNamed Bd.named
  have hnm := (name_of_methodNamed Bd.named Bd.method).1
  have X0 : Stand p l e ({ frames := 0, cells := 0, slots := 0, locals := 0 } : Room) s m #[(.ref a1)] below meth c s₁ [] 0 0 := Stand.of_body Bd
  have e0 : s₁.heap = h0 := by rw [← hh, Bd.state]; rfl
  have N0 := Fr.nil n0
  have pre0 : ∀ t, Steps p.tables e below (s₁.setTop (mkF m 0 #[.val (.ref a1), .unset] [])) t → Steps p.tables e below (s₁.setTop (entryFrame m #[(.ref a1)] 2)) t := fun t k => castTop (ef_5e m a1) k
  obtain ⟨T3, X3, e3, st3⟩ := getF X0 hx hZ hown (host := "") (Or.inl (hw _ (List.mem_of_getElem? (i := 19) rfl))) Via.refl e0 F_blockedNanos_a1 (g := (mkF m 1 #[.val (.ref a1), .unset] [(.ref a1)])) rfl rfl (hb hby d5_1)
  obtain ⟨T5, X5, e5, st5⟩ := getS2 X3 hx hZ hown (host := "") (Or.inl (hw _ (List.mem_of_getElem? (i := 26) rfl))) Via.refl e3 S_SPIN_NANOS (g := (mkF m 4 #[.val (.ref a1), .unset] [(.long w2)])) rfl (hb hby d5_4)
  obtain ⟨T7, X7, e7, st7⟩ := getF X5 hx hZ hown (host := "") (Or.inl (hw _ (List.mem_of_getElem? (i := 28) rfl))) Via.refl e5 F_spinning_a1 (g := (mkF m 19 #[.val (.ref a1), .unset] [(.ref a1)])) rfl rfl (hb hby d5_19)
  obtain ⟨T9, X9, e9, st9⟩ := getF X7 hx hZ hown (host := "") (Or.inl (hw _ (List.mem_of_getElem? (i := 14) rfl))) Via.refl e7 F_spunNanos_a1 (g := (mkF m 53 #[.val (.ref a1), .unset] [(.ref a1)])) rfl rfl (hb hby d5_53)
  obtain ⟨T10, X10, e10, st10⟩ := getF X9 hx hZ hown (host := "") (Or.inl (hw _ (List.mem_of_getElem? (i := 19) rfl))) Via.refl e9 F_blockedNanos_a1 (g := (mkF m 57 #[.val (.ref a1), .unset] [(.ref a1), (.long w8)])) rfl rfl (hb hby d5_57)
  obtain ⟨T11, X11, e11, st11⟩ := getF X10 hx hZ hown (host := "") (Or.inl (hw _ (List.mem_of_getElem? (i := 19) rfl))) Via.refl e10 F_blockedNanos_a1 (g := (mkF m 61 #[.val (.ref a1), .unset] [(.ref a1), (.long w2), (.long w8)])) rfl rfl (hb hby d5_61)
  obtain ⟨T13, X13, e13, st13⟩ := getF X11 hx hZ hown (host := "") (Or.inl (hw _ (List.mem_of_getElem? (i := 30) rfl))) Via.refl e11 F_sinceOther_a1 (g := (mkF m 99 #[.val (.ref a1), .val (.int (0 : Int32))] [(.ref a1), (.ref a1)])) rfl rfl (hb hby d5_99)
  obtain ⟨T14, h14, X14, e14, W14, st14⟩ := putF X13 hx hZ hown (host := "") (Or.inl (hw _ (List.mem_of_getElem? (i := 30) rfl))) Via.refl e13 F_sinceOther_a1 E_a1 (Or.inl (hw _ (List.mem_of_getElem? (i := 31) rfl))) (hw _ (List.mem_of_getElem? (i := 1) rfl)) (ty := .int) (by decide) rfl rfl (g := (mkF m 105 #[.val (.ref a1), .val (.int (0 : Int32))] [(.int (w12 + (1 : Int32))), (.ref a1), (.int (w12 + (1 : Int32)))])) rfl rfl (hb hby d5_105)
  have Fw14 := F_sinceOther_a1.same W14
  have N14 := Fr.snoc X14 N0 g_a1
  obtain ⟨T15, X15, e15, st15⟩ := getF X14 hx hZ hown (host := "") (Or.inl (hw _ (List.mem_of_getElem? (i := 28) rfl))) Via.refl e14 (F_spinning_a1.other W14 (Or.inr (slot_ne (Or.inl (hw _ (List.mem_of_getElem? (i := 29) rfl))) (Or.inl (hw _ (List.mem_of_getElem? (i := 31) rfl))) (by decide) (t := .boolean) (t' := .int) (by decide) (by decide)))) (g := (mkF m 114 #[.val (.ref a1), .val (.int (0 : Int32))] [(.ref a1)])) rfl rfl (hb hby d5_114)
  obtain ⟨fs, hr, hrun, hended, hW, hsame⟩ := X15.leave (v := some (.int (0 : Int32))) (fun h => by rw [Bd.returns] at h; cases h)
  refine ⟨_, _, pre0 _ ?_, hrun, hended, _, _, rfl, ?_, ⟨_, rfl⟩, hW, hsame.mono (by decide) (by decide)⟩
  · show Steps p.tables e below (s₁.setTop (mkF m 0 #[.val (.ref a1), .unset] [])) _
    refine XS.aloadN X0.here hx rfl (hb hby d5_0) rfl rfl ?_
    show Steps p.tables e below (s₁.setTop (mkF m 1 #[.val (.ref a1), .unset] [(.ref a1)])) _
    refine st3 _ ?_
    show Steps p.tables e below (T3.setTop (mkF m 4 #[.val (.ref a1), .unset] [(.long w2)])) _
    refine st5 _ ?_
    show Steps p.tables e below (T5.setTop (mkF m 7 #[.val (.ref a1), .unset] [(.long (100000 : Int64)), (.long w2)])) _
    refine XS.lcmp X5.here hx rfl (hb hby d5_7) rfl ?_
    show Steps p.tables e below (T5.setTop (mkF m 8 #[.val (.ref a1), .unset] [(.int (lcmpW w2 (100000 : Int64)))])) _
    refine XS.ifYes X5.here hx rfl (pc0 := 8) (pc' := 18) rfl (hb hby d5_8) rfl ((if0 _ _).trans (tlt hc8).1) (by decide) (by decide) ?_
    show Steps p.tables e below (T5.setTop (mkF m 18 #[.val (.ref a1), .unset] [])) _
    refine XS.aloadN X5.here hx rfl (hb hby d5_18) rfl rfl ?_
    show Steps p.tables e below (T5.setTop (mkF m 19 #[.val (.ref a1), .unset] [(.ref a1)])) _
    refine st7 _ ?_
    show Steps p.tables e below (T7.setTop (mkF m 22 #[.val (.ref a1), .unset] [(.int (0 : Int32))])) _
    refine XS.ifYes X7.here hx rfl (pc0 := 22) (pc' := 52) rfl (hb hby d5_22) rfl ((if0 _ _).trans (teq hc22).1) (by decide) (by decide) ?_
    show Steps p.tables e below (T7.setTop (mkF m 52 #[.val (.ref a1), .unset] [])) _
    refine XS.aloadN X7.here hx rfl (hb hby d5_52) rfl rfl ?_
    show Steps p.tables e below (T7.setTop (mkF m 53 #[.val (.ref a1), .unset] [(.ref a1)])) _
    refine st9 _ ?_
    show Steps p.tables e below (T9.setTop (mkF m 56 #[.val (.ref a1), .unset] [(.long w8)])) _
    refine XS.aloadN X9.here hx rfl (hb hby d5_56) rfl rfl ?_
    show Steps p.tables e below (T9.setTop (mkF m 57 #[.val (.ref a1), .unset] [(.ref a1), (.long w8)])) _
    refine st10 _ ?_
    show Steps p.tables e below (T10.setTop (mkF m 60 #[.val (.ref a1), .unset] [(.long w2), (.long w8)])) _
    refine XS.aloadN X10.here hx rfl (hb hby d5_60) rfl rfl ?_
    show Steps p.tables e below (T10.setTop (mkF m 61 #[.val (.ref a1), .unset] [(.ref a1), (.long w2), (.long w8)])) _
    refine st11 _ ?_
    show Steps p.tables e below (T11.setTop (mkF m 64 #[.val (.ref a1), .unset] [(.long w2), (.long w2), (.long w8)])) _
    refine XS.iconst X11.here hx rfl (hb hby d5_64) ?_
    show Steps p.tables e below (T11.setTop (mkF m 65 #[.val (.ref a1), .unset] [(.int (3 : Int32)), (.long w2), (.long w2), (.long w8)])) _
    refine XS.lshr X11.here hx rfl (hb hby d5_65) rfl ?_
    show Steps p.tables e below (T11.setTop (mkF m 66 #[.val (.ref a1), .unset] [(.long (w2 >>> ((3 : Int32) &&& 0x3f).toInt64)), (.long w2), (.long w8)])) _
    refine XS.lsub X11.here hx rfl (hb hby d5_66) rfl ?_
    show Steps p.tables e below (T11.setTop (mkF m 67 #[.val (.ref a1), .unset] [(.long (w2 - (w2 >>> ((3 : Int32) &&& 0x3f).toInt64))), (.long w8)])) _
    refine XS.lcmp X11.here hx rfl (hb hby d5_67) rfl ?_
    show Steps p.tables e below (T11.setTop (mkF m 68 #[.val (.ref a1), .unset] [(.int (lcmpW w8 (w2 - (w2 >>> ((3 : Int32) &&& 0x3f).toInt64))))])) _
    refine XS.ifYes X11.here hx rfl (pc0 := 68) (pc' := 75) rfl (hb hby d5_68) rfl ((if0 _ _).trans (flt hc68).2.1) (by decide) (by decide) ?_
    show Steps p.tables e below (T11.setTop (mkF m 75 #[.val (.ref a1), .unset] [])) _
    refine XS.iconst X11.here hx rfl (hb hby d5_75) ?_
    show Steps p.tables e below (T11.setTop (mkF m 76 #[.val (.ref a1), .unset] [(.int (0 : Int32))])) _
    refine XS.istoreN X11.here hx rfl (hb hby d5_76) rfl (l' := #[.val (.ref a1), .val (.int (0 : Int32))]) rfl ?_
    show Steps p.tables e below (T11.setTop (mkF m 77 #[.val (.ref a1), .val (.int (0 : Int32))] [])) _
    refine XS.iloadN X11.here hx rfl (hb hby d5_77) rfl ?_
    show Steps p.tables e below (T11.setTop (mkF m 78 #[.val (.ref a1), .val (.int (0 : Int32))] [(.int (0 : Int32))])) _
    refine XS.ifYes X11.here hx rfl (pc0 := 78) (pc' := 97) rfl (hb hby d5_78) rfl ((if0 _ _).trans (teq (rfl : (0 : Int32) = (0 : Int32))).1) (by decide) (by decide) ?_
    show Steps p.tables e below (T11.setTop (mkF m 97 #[.val (.ref a1), .val (.int (0 : Int32))] [])) _
    refine XS.aloadN X11.here hx rfl (hb hby d5_97) rfl rfl ?_
    show Steps p.tables e below (T11.setTop (mkF m 98 #[.val (.ref a1), .val (.int (0 : Int32))] [(.ref a1)])) _
    refine XS.dup X11.here hx rfl (hb hby d5_98) rfl rfl ?_
    show Steps p.tables e below (T11.setTop (mkF m 99 #[.val (.ref a1), .val (.int (0 : Int32))] [(.ref a1), (.ref a1)])) _
    refine st13 _ ?_
    show Steps p.tables e below (T13.setTop (mkF m 102 #[.val (.ref a1), .val (.int (0 : Int32))] [(.int w12), (.ref a1)])) _
    refine XS.iconst X13.here hx rfl (hb hby d5_102) ?_
    show Steps p.tables e below (T13.setTop (mkF m 103 #[.val (.ref a1), .val (.int (0 : Int32))] [(.int (1 : Int32)), (.int w12), (.ref a1)])) _
    refine XS.iadd X13.here hx rfl (hb hby d5_103) rfl ?_
    show Steps p.tables e below (T13.setTop (mkF m 104 #[.val (.ref a1), .val (.int (0 : Int32))] [(.int (w12 + (1 : Int32))), (.ref a1)])) _
    refine XS.dupX1 X13.here hx rfl (hb hby d5_104) rfl rfl rfl ?_
    show Steps p.tables e below (T13.setTop (mkF m 105 #[.val (.ref a1), .val (.int (0 : Int32))] [(.int (w12 + (1 : Int32))), (.ref a1), (.int (w12 + (1 : Int32)))])) _
    refine st14 _ ?_
    show Steps p.tables e below (T14.setTop (mkF m 108 #[.val (.ref a1), .val (.int (0 : Int32))] [(.int (w12 + (1 : Int32)))])) _
    refine XS.bipush X14.here hx rfl (hb hby d5_108) ?_
    show Steps p.tables e below (T14.setTop (mkF m 110 #[.val (.ref a1), .val (.int (0 : Int32))] [(.int (17 : Int32)), (.int (w12 + (1 : Int32)))])) _
    refine XS.icmpNo X14.here hx rfl (hb hby d5_110) rfl (tlt hc110).2.1 ?_
    show Steps p.tables e below (T14.setTop (mkF m 113 #[.val (.ref a1), .val (.int (0 : Int32))] [])) _
    refine XS.aloadN X14.here hx rfl (hb hby d5_113) rfl rfl ?_
    show Steps p.tables e below (T14.setTop (mkF m 114 #[.val (.ref a1), .val (.int (0 : Int32))] [(.ref a1)])) _
    refine st15 _ ?_
    show Steps p.tables e below (T15.setTop (mkF m 117 #[.val (.ref a1), .val (.int (0 : Int32))] [(.int (0 : Int32))])) _
    exact retN X15 hx (t := .boolean) Bd.returns (by simp) (hb hby d5_117) hr
  · show Q5e Z a1 w8 w2 w12 _ n0 _ T15.heap _
    rw [e15]
    exact ⟨rfl, N14, _, (H.w3 hw W14), Or.inr rfl⟩
def Step (sp : Int32) (sn bl : Int64) (r : Int32) : Prop :=
  (¬ ((lcmpW bl (100000 : Int64)) < (0 : Int32)) ∧ r = 0) ∨
  ((lcmpW bl (100000 : Int64)) < (0 : Int32) ∧ sp = 1 ∧ (lcmpW bl (sn - (sn >>> ((3 : Int32) &&& 0x3f).toInt64))) < (0 : Int32) ∧ r = 0) ∨
  ((lcmpW bl (100000 : Int64)) < (0 : Int32) ∧ sp = 1 ∧ ¬ ((lcmpW bl (sn - (sn >>> ((3 : Int32) &&& 0x3f).toInt64))) < (0 : Int32)) ∧ r = 1) ∨
  ((lcmpW bl (100000 : Int64)) < (0 : Int32) ∧ sp = 0 ∧ (lcmpW sn (bl - (bl >>> ((3 : Int32) &&& 0x3f).toInt64))) < (0 : Int32) ∧ r = 1) ∨
  ((lcmpW bl (100000 : Int64)) < (0 : Int32) ∧ sp = 0 ∧ ¬ ((lcmpW sn (bl - (bl >>> ((3 : Int32) &&& 0x3f).toInt64))) < (0 : Int32)) ∧ r = 0)
def Q5 (Z : State) (a1 : Addr) (sn bl : Int64) (si r : Int32) (n0 : Nat) (v : Option Value) (h : Heap) (L : List Loc) : Prop := v = some (.int r) ∧ Fr n0 L ∧ ∃ si' : Int32, Wt Z h a1 sn bl r si' ∧ (si' = si ∨ si' = si + 1)
theorem rm5 (l : Launch) (Z : State) (a0 : Array Value) (hw : ∀ d ∈ tables_1, d.before a0 Z = true) (ws : List Jvm.Cond) (a1 : Addr) (sn bl : Int64) (sp si r : Int32) (h0 : Heap) (n0 : Nat) (Z0 : n0 ≤ h0.size) (H : Wt Z h0 a1 sn bl sp si) (g : n0 ≤ a1) (hs : (si + (1 : Int32)) < (17 : Int32)) (R : Step sp sn bl r) :
    MetFree l (⟨"com/example/leasehold/leasehold/link/ReplyWaits", "spinsNext", "()Z"⟩ : MethodName) (head1 (Jvm.Cond.code (⟨"com/example/leasehold/leasehold/link/ReplyWaits", "spinsNext", "()Z"⟩ : MethodName) prog_48_method_2_code 2 (some .boolean) :: ws) ({ frames := 0, cells := 0, slots := 0, locals := 0 } : Room)) (fun a U => a = #[(.ref a1)] ∧ Z.Warmed39 U.vm ∧ U.heap = h0) (fun _ _ _ _ _ => True) (fun _ U o U' => ∃ v L, o = .returned v ∧ Q5 Z a1 sn bl si r n0 v U'.heap L ∧ FrameEnd U o U' L ({ frames := 0, cells := 0, slots := 0, locals := 0 } : Room).cells ({ frames := 0, cells := 0, slots := 0, locals := 0 } : Room).slots) := by
  rcases R with ⟨h1, rfl⟩ | ⟨h1, rfl, h2, rfl⟩ | ⟨h1, rfl, h2, rfl⟩ | ⟨h1, rfl, h2, rfl⟩ | ⟨h1, rfl, h2, rfl⟩
  · exact rm5a l Z a0 hw ws a1 sn bl sp si h0 n0 Z0 H.2.2.1 H.2.2.2.2.2 H.1 H.2.2.2.1 g h1 H
  · exact rm5b l Z a0 hw ws a1 sn bl si h0 n0 Z0 H.2.2.1 H.2.2.2.2.2 H.2.2.2.1 H.2.1 H.1 g H.2.2.2.2.1 h1 (by decide) h2 (by decide) (by decide) hs H
  · exact rm5c l Z a0 hw ws a1 sn bl si h0 n0 Z0 H.2.2.1 H.2.2.2.2.2 H.2.2.2.1 H.2.1 H.2.2.2.2.1 H.1 g h1 (by decide) h2 hs H
  · exact rm5d l Z a0 hw ws a1 sn bl si h0 n0 Z0 H.2.2.1 H.2.2.2.2.2 H.2.2.2.1 H.2.1 H.1 g H.2.2.2.2.1 h1 rfl h2 (by decide) rfl hs H
  · exact rm5e l Z a0 hw ws a1 sn bl si h0 n0 Z0 H.2.2.1 H.2.2.2.2.2 H.2.2.2.1 H.2.1 H.2.2.2.2.1 H.1 g h1 rfl h2 hs H
def QK (res : Option Value) (h0 : Heap) (n0 : Nat) (v : Option Value) (h : Heap) (L : List Loc) : Prop := v = res ∧ Fr n0 L ∧ h = h0
abbrev K6 (l : Launch) (Z : State) (p1 : Int32) (q2 : Int64) (q3 : Int64) (h0 : Heap) (n0 : Nat) (res : Option Value) : Prop := MetFree l (⟨"com/example/leasehold/leasehold/link/ReplyWaitsSpinsNextPinLaw", "next", "(ZJJ)Z"⟩ : MethodName) (head1 (Jvm.Cond.code (⟨"com/example/leasehold/leasehold/link/ReplyWaitsSpinsNextPinLaw", "next", "(ZJJ)Z"⟩ : MethodName) method_2_code 5 (some .boolean) :: []) ({ frames := 0, cells := 0, slots := 0, locals := 0 } : Room)) (fun a U => a = #[(.int p1), (.long q2), (.long q3)] ∧ Z.Warmed39 U.vm ∧ U.heap = h0) (fun _ _ _ _ _ => True) (fun _ U o U' => ∃ v L, o = .returned v ∧ QK res h0 n0 v U'.heap L ∧ FrameEnd U o U' L ({ frames := 0, cells := 0, slots := 0, locals := 0 } : Room).cells ({ frames := 0, cells := 0, slots := 0, locals := 0 } : Room).slots)
theorem d6_0 : decode method_2_code 0 = .ok (.lload_n 3, 1) := by decide +kernel
theorem d6_1 : decode method_2_code 1 = .ok (.ldc2_w 7, 3) := by decide +kernel
theorem d6_4 : decode method_2_code 4 = .ok (.lcmp, 1) := by decide +kernel
theorem d6_5 : decode method_2_code 5 = .ok (.ifCond .lt 5, 3) := by decide +kernel
theorem d6_8 : decode method_2_code 8 = .ok (.iconst 0, 1) := by decide +kernel
theorem d6_9 : decode method_2_code 9 = .ok (.ireturn, 1) := by decide +kernel
theorem pn_6a : plainName "com/example/leasehold/leasehold/link/ReplyWaitsSpinsNextPinLaw" = true := by first | (simp [plainName, overriddenIn]; done) | decide +kernel
theorem ef_6a (m : MethodId) (x0 : Int32) (x1 : Int64) (x2 : Int64) : entryFrame m #[(.int x0), (.long x1), (.long x2)] 5 = mkF m 0 #[.val (.int x0), .val (.long x1), .second, .val (.long x2), .second] [] := by first | (simp [entryFrame, mkF, argsToLocals, Value.category]; done) | rfl
def Q6a (Z : State) (p1 : Int32) (q2 : Int64) (q3 : Int64) (h0 : Heap) (n0 : Nat) (v : Option Value) (h : Heap) (L : List Loc) : Prop := v = some (.int (0 : Int32)) ∧ Fr n0 L ∧ h = h0
set_option maxRecDepth 65536 in
set_option maxHeartbeats 40000000 in
theorem rm6a (l : Launch) (Z : State) (a0 : Array Value) (hw : ∀ d ∈ tables_1, d.before a0 Z = true) (ws : List Jvm.Cond) (p1 : Int32) (q2 : Int64) (q3 : Int64) (h0 : Heap) (n0 : Nat) (Z0 : n0 ≤ h0.size) (hc5 : ¬ ((lcmpW q3 (100000 : Int64)) < (0 : Int32))) :
    MetFree l (⟨"com/example/leasehold/leasehold/link/ReplyWaitsSpinsNextPinLaw", "next", "(ZJJ)Z"⟩ : MethodName) (head1 (Jvm.Cond.code (⟨"com/example/leasehold/leasehold/link/ReplyWaitsSpinsNextPinLaw", "next", "(ZJJ)Z"⟩ : MethodName) method_2_code 5 (some .boolean) :: ws) ({ frames := 0, cells := 0, slots := 0, locals := 0 } : Room)) (fun a U => a = #[(.int p1), (.long q2), (.long q3)] ∧ Z.Warmed39 U.vm ∧ U.heap = h0) (fun _ _ _ _ _ => True) (fun _ U o U' => ∃ v L, o = .returned v ∧ Q6a Z p1 q2 q3 h0 n0 v U'.heap L ∧ FrameEnd U o U' L ({ frames := 0, cells := 0, slots := 0, locals := 0 } : Room).cells ({ frames := 0, cells := 0, slots := 0, locals := 0 } : Room).slots) := by
  refine MetFree.of_bodySF (plainFor_of_name pn_6a) hisR ?_
  intro p e s m args below meth c s₁ Bd hml0 hP hK
  obtain ⟨rfl, hZ, hh⟩ := hP
  have hx := Bd.exec
  have hby := Bd.bytes
  have hml : c.maxLocals = 5 := hml0
  have hown : s.vm.findClass "com/example/leasehold/leasehold/link/ReplyWaitsSpinsNextPinLaw" = some m.cls := findClass_of_methodNamed Bd.named
  have hnm := (name_of_methodNamed Bd.named Bd.method).1
  have X0 : Stand p l e ({ frames := 0, cells := 0, slots := 0, locals := 0 } : Room) s m #[(.int p1), (.long q2), (.long q3)] below meth c s₁ [] 0 0 := Stand.of_body Bd
  have e0 : s₁.heap = h0 := by rw [← hh, Bd.state]; rfl
  have N0 := Fr.nil n0
  have pre0 : ∀ t, Steps p.tables e below (s₁.setTop (mkF m 0 #[.val (.int p1), .val (.long q2), .second, .val (.long q3), .second] [])) t → Steps p.tables e below (s₁.setTop (entryFrame m #[(.int p1), (.long q2), (.long q3)] 5)) t := fun t k => castTop (ef_6a m p1 q2 q3) k
  obtain ⟨fs, hr, hrun, hended, hW, hsame⟩ := X0.leave (v := some (.int (0 : Int32))) (fun h => by rw [Bd.returns] at h; cases h)
  refine ⟨_, _, pre0 _ ?_, hrun, hended, _, _, rfl, ?_, ⟨_, rfl⟩, hW, hsame.mono (by decide) (by decide)⟩
  · show Steps p.tables e below (s₁.setTop (mkF m 0 #[.val (.int p1), .val (.long q2), .second, .val (.long q3), .second] [])) _
    refine XS.lloadN X0.here hx rfl (hb hby d6_0) rfl ?_
    show Steps p.tables e below (s₁.setTop (mkF m 1 #[.val (.int p1), .val (.long q2), .second, .val (.long q3), .second] [(.long q3)])) _
    refine X0.ldc2Long hx hown (mvT hZ (hw _ (List.mem_of_getElem? (i := 36) rfl))) (g := (mkF m 1 #[.val (.int p1), .val (.long q2), .second, .val (.long q3), .second] [(.long q3)])) rfl (hb hby d6_1) _ ?_
    show Steps p.tables e below (s₁.setTop (mkF m 4 #[.val (.int p1), .val (.long q2), .second, .val (.long q3), .second] [(.long (100000 : Int64)), (.long q3)])) _
    refine XS.lcmp X0.here hx rfl (hb hby d6_4) rfl ?_
    show Steps p.tables e below (s₁.setTop (mkF m 5 #[.val (.int p1), .val (.long q2), .second, .val (.long q3), .second] [(.int (lcmpW q3 (100000 : Int64)))])) _
    refine XS.ifNo X0.here hx rfl (hb hby d6_5) rfl ((if0 _ _).trans (flt hc5).1) ?_
    show Steps p.tables e below (s₁.setTop (mkF m 8 #[.val (.int p1), .val (.long q2), .second, .val (.long q3), .second] [])) _
    refine XS.iconst X0.here hx rfl (hb hby d6_8) ?_
    show Steps p.tables e below (s₁.setTop (mkF m 9 #[.val (.int p1), .val (.long q2), .second, .val (.long q3), .second] [(.int (0 : Int32))])) _
    exact retN X0 hx (t := .boolean) Bd.returns (by simp) (hb hby d6_9) hr
  · show Q6a Z p1 q2 q3 _ n0 _ s₁.heap _
    rw [e0]
    exact ⟨rfl, N0, rfl⟩
theorem d6_10 : decode method_2_code 10 = .ok (.iload_n 0, 1) := by decide +kernel
theorem d6_11 : decode method_2_code 11 = .ok (.ifCond .eq 23, 3) := by decide +kernel
theorem d6_14 : decode method_2_code 14 = .ok (.ldc2_w 9, 3) := by decide +kernel
theorem d6_17 : decode method_2_code 17 = .ok (.lload_n 3, 1) := by decide +kernel
theorem d6_18 : decode method_2_code 18 = .ok (.lmul, 1) := by decide +kernel
theorem d6_19 : decode method_2_code 19 = .ok (.ldc2_w 11, 3) := by decide +kernel
theorem d6_22 : decode method_2_code 22 = .ok (.lload_n 1, 1) := by decide +kernel
theorem d6_23 : decode method_2_code 23 = .ok (.lmul, 1) := by decide +kernel
theorem d6_24 : decode method_2_code 24 = .ok (.lcmp, 1) := by decide +kernel
theorem d6_25 : decode method_2_code 25 = .ok (.ifCond .lt 7, 3) := by decide +kernel
theorem d6_28 : decode method_2_code 28 = .ok (.iconst 1, 1) := by decide +kernel
theorem d6_29 : decode method_2_code 29 = .ok (.goto 4, 3) := by decide +kernel
theorem d6_33 : decode method_2_code 33 = .ok (.ireturn, 1) := by decide +kernel
theorem pn_6b : plainName "com/example/leasehold/leasehold/link/ReplyWaitsSpinsNextPinLaw" = true := by first | (simp [plainName, overriddenIn]; done) | decide +kernel
theorem ef_6b (m : MethodId) (x0 : Int32) (x1 : Int64) (x2 : Int64) : entryFrame m #[(.int x0), (.long x1), (.long x2)] 5 = mkF m 0 #[.val (.int x0), .val (.long x1), .second, .val (.long x2), .second] [] := by first | (simp [entryFrame, mkF, argsToLocals, Value.category]; done) | rfl
def Q6b (Z : State) (p1 : Int32) (q2 : Int64) (q3 : Int64) (h0 : Heap) (n0 : Nat) (v : Option Value) (h : Heap) (L : List Loc) : Prop := v = some (.int (1 : Int32)) ∧ Fr n0 L ∧ h = h0
set_option maxRecDepth 65536 in
set_option maxHeartbeats 40000000 in
theorem rm6b (l : Launch) (Z : State) (a0 : Array Value) (hw : ∀ d ∈ tables_1, d.before a0 Z = true) (ws : List Jvm.Cond) (p1 : Int32) (q2 : Int64) (q3 : Int64) (h0 : Heap) (n0 : Nat) (Z0 : n0 ≤ h0.size) (hc5 : (lcmpW q3 (100000 : Int64)) < (0 : Int32)) (hc11 : ¬ (p1 = (0 : Int32))) (hc25 : ¬ ((lcmpW ((8 : Int64) * q3) ((7 : Int64) * q2)) < (0 : Int32))) :
    MetFree l (⟨"com/example/leasehold/leasehold/link/ReplyWaitsSpinsNextPinLaw", "next", "(ZJJ)Z"⟩ : MethodName) (head1 (Jvm.Cond.code (⟨"com/example/leasehold/leasehold/link/ReplyWaitsSpinsNextPinLaw", "next", "(ZJJ)Z"⟩ : MethodName) method_2_code 5 (some .boolean) :: ws) ({ frames := 0, cells := 0, slots := 0, locals := 0 } : Room)) (fun a U => a = #[(.int p1), (.long q2), (.long q3)] ∧ Z.Warmed39 U.vm ∧ U.heap = h0) (fun _ _ _ _ _ => True) (fun _ U o U' => ∃ v L, o = .returned v ∧ Q6b Z p1 q2 q3 h0 n0 v U'.heap L ∧ FrameEnd U o U' L ({ frames := 0, cells := 0, slots := 0, locals := 0 } : Room).cells ({ frames := 0, cells := 0, slots := 0, locals := 0 } : Room).slots) := by
  refine MetFree.of_bodySF (plainFor_of_name pn_6b) hisR ?_
  intro p e s m args below meth c s₁ Bd hml0 hP hK
  obtain ⟨rfl, hZ, hh⟩ := hP
  have hx := Bd.exec
  have hby := Bd.bytes
  have hml : c.maxLocals = 5 := hml0
  have hown : s.vm.findClass "com/example/leasehold/leasehold/link/ReplyWaitsSpinsNextPinLaw" = some m.cls := findClass_of_methodNamed Bd.named
  have hnm := (name_of_methodNamed Bd.named Bd.method).1
  have X0 : Stand p l e ({ frames := 0, cells := 0, slots := 0, locals := 0 } : Room) s m #[(.int p1), (.long q2), (.long q3)] below meth c s₁ [] 0 0 := Stand.of_body Bd
  have e0 : s₁.heap = h0 := by rw [← hh, Bd.state]; rfl
  have N0 := Fr.nil n0
  have pre0 : ∀ t, Steps p.tables e below (s₁.setTop (mkF m 0 #[.val (.int p1), .val (.long q2), .second, .val (.long q3), .second] [])) t → Steps p.tables e below (s₁.setTop (entryFrame m #[(.int p1), (.long q2), (.long q3)] 5)) t := fun t k => castTop (ef_6b m p1 q2 q3) k
  obtain ⟨fs, hr, hrun, hended, hW, hsame⟩ := X0.leave (v := some (.int (1 : Int32))) (fun h => by rw [Bd.returns] at h; cases h)
  refine ⟨_, _, pre0 _ ?_, hrun, hended, _, _, rfl, ?_, ⟨_, rfl⟩, hW, hsame.mono (by decide) (by decide)⟩
  · show Steps p.tables e below (s₁.setTop (mkF m 0 #[.val (.int p1), .val (.long q2), .second, .val (.long q3), .second] [])) _
    refine XS.lloadN X0.here hx rfl (hb hby d6_0) rfl ?_
    show Steps p.tables e below (s₁.setTop (mkF m 1 #[.val (.int p1), .val (.long q2), .second, .val (.long q3), .second] [(.long q3)])) _
    refine X0.ldc2Long hx hown (mvT hZ (hw _ (List.mem_of_getElem? (i := 36) rfl))) (g := (mkF m 1 #[.val (.int p1), .val (.long q2), .second, .val (.long q3), .second] [(.long q3)])) rfl (hb hby d6_1) _ ?_
    show Steps p.tables e below (s₁.setTop (mkF m 4 #[.val (.int p1), .val (.long q2), .second, .val (.long q3), .second] [(.long (100000 : Int64)), (.long q3)])) _
    refine XS.lcmp X0.here hx rfl (hb hby d6_4) rfl ?_
    show Steps p.tables e below (s₁.setTop (mkF m 5 #[.val (.int p1), .val (.long q2), .second, .val (.long q3), .second] [(.int (lcmpW q3 (100000 : Int64)))])) _
    refine XS.ifYes X0.here hx rfl (pc0 := 5) (pc' := 10) rfl (hb hby d6_5) rfl ((if0 _ _).trans (tlt hc5).1) (by decide) (by decide) ?_
    show Steps p.tables e below (s₁.setTop (mkF m 10 #[.val (.int p1), .val (.long q2), .second, .val (.long q3), .second] [])) _
    refine XS.iloadN X0.here hx rfl (hb hby d6_10) rfl ?_
    show Steps p.tables e below (s₁.setTop (mkF m 11 #[.val (.int p1), .val (.long q2), .second, .val (.long q3), .second] [(.int p1)])) _
    refine XS.ifNo X0.here hx rfl (hb hby d6_11) rfl ((if0 _ _).trans (feq hc11).1) ?_
    show Steps p.tables e below (s₁.setTop (mkF m 14 #[.val (.int p1), .val (.long q2), .second, .val (.long q3), .second] [])) _
    refine X0.ldc2Long hx hown (mvT hZ (hw _ (List.mem_of_getElem? (i := 37) rfl))) (g := (mkF m 14 #[.val (.int p1), .val (.long q2), .second, .val (.long q3), .second] [])) rfl (hb hby d6_14) _ ?_
    show Steps p.tables e below (s₁.setTop (mkF m 17 #[.val (.int p1), .val (.long q2), .second, .val (.long q3), .second] [(.long (8 : Int64))])) _
    refine XS.lloadN X0.here hx rfl (hb hby d6_17) rfl ?_
    show Steps p.tables e below (s₁.setTop (mkF m 18 #[.val (.int p1), .val (.long q2), .second, .val (.long q3), .second] [(.long q3), (.long (8 : Int64))])) _
    refine XS.lmul X0.here hx rfl (hb hby d6_18) rfl ?_
    show Steps p.tables e below (s₁.setTop (mkF m 19 #[.val (.int p1), .val (.long q2), .second, .val (.long q3), .second] [(.long ((8 : Int64) * q3))])) _
    refine X0.ldc2Long hx hown (mvT hZ (hw _ (List.mem_of_getElem? (i := 38) rfl))) (g := (mkF m 19 #[.val (.int p1), .val (.long q2), .second, .val (.long q3), .second] [(.long ((8 : Int64) * q3))])) rfl (hb hby d6_19) _ ?_
    show Steps p.tables e below (s₁.setTop (mkF m 22 #[.val (.int p1), .val (.long q2), .second, .val (.long q3), .second] [(.long (7 : Int64)), (.long ((8 : Int64) * q3))])) _
    refine XS.lloadN X0.here hx rfl (hb hby d6_22) rfl ?_
    show Steps p.tables e below (s₁.setTop (mkF m 23 #[.val (.int p1), .val (.long q2), .second, .val (.long q3), .second] [(.long q2), (.long (7 : Int64)), (.long ((8 : Int64) * q3))])) _
    refine XS.lmul X0.here hx rfl (hb hby d6_23) rfl ?_
    show Steps p.tables e below (s₁.setTop (mkF m 24 #[.val (.int p1), .val (.long q2), .second, .val (.long q3), .second] [(.long ((7 : Int64) * q2)), (.long ((8 : Int64) * q3))])) _
    refine XS.lcmp X0.here hx rfl (hb hby d6_24) rfl ?_
    show Steps p.tables e below (s₁.setTop (mkF m 25 #[.val (.int p1), .val (.long q2), .second, .val (.long q3), .second] [(.int (lcmpW ((8 : Int64) * q3) ((7 : Int64) * q2)))])) _
    refine XS.ifNo X0.here hx rfl (hb hby d6_25) rfl ((if0 _ _).trans (flt hc25).1) ?_
    show Steps p.tables e below (s₁.setTop (mkF m 28 #[.val (.int p1), .val (.long q2), .second, .val (.long q3), .second] [])) _
    refine XS.iconst X0.here hx rfl (hb hby d6_28) ?_
    show Steps p.tables e below (s₁.setTop (mkF m 29 #[.val (.int p1), .val (.long q2), .second, .val (.long q3), .second] [(.int (1 : Int32))])) _
    refine XS.goto X0.here hx rfl (pc0 := 29) (pc' := 33) rfl (hb hby d6_29) (by decide) (by decide) ?_
    show Steps p.tables e below (s₁.setTop (mkF m 33 #[.val (.int p1), .val (.long q2), .second, .val (.long q3), .second] [(.int (1 : Int32))])) _
    exact retN X0 hx (t := .boolean) Bd.returns (by simp) (hb hby d6_33) hr
  · show Q6b Z p1 q2 q3 _ n0 _ s₁.heap _
    rw [e0]
    exact ⟨rfl, N0, rfl⟩
theorem d6_32 : decode method_2_code 32 = .ok (.iconst 0, 1) := by decide +kernel
theorem pn_6c : plainName "com/example/leasehold/leasehold/link/ReplyWaitsSpinsNextPinLaw" = true := by first | (simp [plainName, overriddenIn]; done) | decide +kernel
theorem ef_6c (m : MethodId) (x0 : Int32) (x1 : Int64) (x2 : Int64) : entryFrame m #[(.int x0), (.long x1), (.long x2)] 5 = mkF m 0 #[.val (.int x0), .val (.long x1), .second, .val (.long x2), .second] [] := by first | (simp [entryFrame, mkF, argsToLocals, Value.category]; done) | rfl
def Q6c (Z : State) (p1 : Int32) (q2 : Int64) (q3 : Int64) (h0 : Heap) (n0 : Nat) (v : Option Value) (h : Heap) (L : List Loc) : Prop := v = some (.int (0 : Int32)) ∧ Fr n0 L ∧ h = h0
set_option maxRecDepth 65536 in
set_option maxHeartbeats 40000000 in
theorem rm6c (l : Launch) (Z : State) (a0 : Array Value) (hw : ∀ d ∈ tables_1, d.before a0 Z = true) (ws : List Jvm.Cond) (p1 : Int32) (q2 : Int64) (q3 : Int64) (h0 : Heap) (n0 : Nat) (Z0 : n0 ≤ h0.size) (hc5 : (lcmpW q3 (100000 : Int64)) < (0 : Int32)) (hc11 : ¬ (p1 = (0 : Int32))) (hc25 : (lcmpW ((8 : Int64) * q3) ((7 : Int64) * q2)) < (0 : Int32)) :
    MetFree l (⟨"com/example/leasehold/leasehold/link/ReplyWaitsSpinsNextPinLaw", "next", "(ZJJ)Z"⟩ : MethodName) (head1 (Jvm.Cond.code (⟨"com/example/leasehold/leasehold/link/ReplyWaitsSpinsNextPinLaw", "next", "(ZJJ)Z"⟩ : MethodName) method_2_code 5 (some .boolean) :: ws) ({ frames := 0, cells := 0, slots := 0, locals := 0 } : Room)) (fun a U => a = #[(.int p1), (.long q2), (.long q3)] ∧ Z.Warmed39 U.vm ∧ U.heap = h0) (fun _ _ _ _ _ => True) (fun _ U o U' => ∃ v L, o = .returned v ∧ Q6c Z p1 q2 q3 h0 n0 v U'.heap L ∧ FrameEnd U o U' L ({ frames := 0, cells := 0, slots := 0, locals := 0 } : Room).cells ({ frames := 0, cells := 0, slots := 0, locals := 0 } : Room).slots) := by
  refine MetFree.of_bodySF (plainFor_of_name pn_6c) hisR ?_
  intro p e s m args below meth c s₁ Bd hml0 hP hK
  obtain ⟨rfl, hZ, hh⟩ := hP
  have hx := Bd.exec
  have hby := Bd.bytes
  have hml : c.maxLocals = 5 := hml0
  have hown : s.vm.findClass "com/example/leasehold/leasehold/link/ReplyWaitsSpinsNextPinLaw" = some m.cls := findClass_of_methodNamed Bd.named
  have hnm := (name_of_methodNamed Bd.named Bd.method).1
  have X0 : Stand p l e ({ frames := 0, cells := 0, slots := 0, locals := 0 } : Room) s m #[(.int p1), (.long q2), (.long q3)] below meth c s₁ [] 0 0 := Stand.of_body Bd
  have e0 : s₁.heap = h0 := by rw [← hh, Bd.state]; rfl
  have N0 := Fr.nil n0
  have pre0 : ∀ t, Steps p.tables e below (s₁.setTop (mkF m 0 #[.val (.int p1), .val (.long q2), .second, .val (.long q3), .second] [])) t → Steps p.tables e below (s₁.setTop (entryFrame m #[(.int p1), (.long q2), (.long q3)] 5)) t := fun t k => castTop (ef_6c m p1 q2 q3) k
  obtain ⟨fs, hr, hrun, hended, hW, hsame⟩ := X0.leave (v := some (.int (0 : Int32))) (fun h => by rw [Bd.returns] at h; cases h)
  refine ⟨_, _, pre0 _ ?_, hrun, hended, _, _, rfl, ?_, ⟨_, rfl⟩, hW, hsame.mono (by decide) (by decide)⟩
  · show Steps p.tables e below (s₁.setTop (mkF m 0 #[.val (.int p1), .val (.long q2), .second, .val (.long q3), .second] [])) _
    refine XS.lloadN X0.here hx rfl (hb hby d6_0) rfl ?_
    show Steps p.tables e below (s₁.setTop (mkF m 1 #[.val (.int p1), .val (.long q2), .second, .val (.long q3), .second] [(.long q3)])) _
    refine X0.ldc2Long hx hown (mvT hZ (hw _ (List.mem_of_getElem? (i := 36) rfl))) (g := (mkF m 1 #[.val (.int p1), .val (.long q2), .second, .val (.long q3), .second] [(.long q3)])) rfl (hb hby d6_1) _ ?_
    show Steps p.tables e below (s₁.setTop (mkF m 4 #[.val (.int p1), .val (.long q2), .second, .val (.long q3), .second] [(.long (100000 : Int64)), (.long q3)])) _
    refine XS.lcmp X0.here hx rfl (hb hby d6_4) rfl ?_
    show Steps p.tables e below (s₁.setTop (mkF m 5 #[.val (.int p1), .val (.long q2), .second, .val (.long q3), .second] [(.int (lcmpW q3 (100000 : Int64)))])) _
    refine XS.ifYes X0.here hx rfl (pc0 := 5) (pc' := 10) rfl (hb hby d6_5) rfl ((if0 _ _).trans (tlt hc5).1) (by decide) (by decide) ?_
    show Steps p.tables e below (s₁.setTop (mkF m 10 #[.val (.int p1), .val (.long q2), .second, .val (.long q3), .second] [])) _
    refine XS.iloadN X0.here hx rfl (hb hby d6_10) rfl ?_
    show Steps p.tables e below (s₁.setTop (mkF m 11 #[.val (.int p1), .val (.long q2), .second, .val (.long q3), .second] [(.int p1)])) _
    refine XS.ifNo X0.here hx rfl (hb hby d6_11) rfl ((if0 _ _).trans (feq hc11).1) ?_
    show Steps p.tables e below (s₁.setTop (mkF m 14 #[.val (.int p1), .val (.long q2), .second, .val (.long q3), .second] [])) _
    refine X0.ldc2Long hx hown (mvT hZ (hw _ (List.mem_of_getElem? (i := 37) rfl))) (g := (mkF m 14 #[.val (.int p1), .val (.long q2), .second, .val (.long q3), .second] [])) rfl (hb hby d6_14) _ ?_
    show Steps p.tables e below (s₁.setTop (mkF m 17 #[.val (.int p1), .val (.long q2), .second, .val (.long q3), .second] [(.long (8 : Int64))])) _
    refine XS.lloadN X0.here hx rfl (hb hby d6_17) rfl ?_
    show Steps p.tables e below (s₁.setTop (mkF m 18 #[.val (.int p1), .val (.long q2), .second, .val (.long q3), .second] [(.long q3), (.long (8 : Int64))])) _
    refine XS.lmul X0.here hx rfl (hb hby d6_18) rfl ?_
    show Steps p.tables e below (s₁.setTop (mkF m 19 #[.val (.int p1), .val (.long q2), .second, .val (.long q3), .second] [(.long ((8 : Int64) * q3))])) _
    refine X0.ldc2Long hx hown (mvT hZ (hw _ (List.mem_of_getElem? (i := 38) rfl))) (g := (mkF m 19 #[.val (.int p1), .val (.long q2), .second, .val (.long q3), .second] [(.long ((8 : Int64) * q3))])) rfl (hb hby d6_19) _ ?_
    show Steps p.tables e below (s₁.setTop (mkF m 22 #[.val (.int p1), .val (.long q2), .second, .val (.long q3), .second] [(.long (7 : Int64)), (.long ((8 : Int64) * q3))])) _
    refine XS.lloadN X0.here hx rfl (hb hby d6_22) rfl ?_
    show Steps p.tables e below (s₁.setTop (mkF m 23 #[.val (.int p1), .val (.long q2), .second, .val (.long q3), .second] [(.long q2), (.long (7 : Int64)), (.long ((8 : Int64) * q3))])) _
    refine XS.lmul X0.here hx rfl (hb hby d6_23) rfl ?_
    show Steps p.tables e below (s₁.setTop (mkF m 24 #[.val (.int p1), .val (.long q2), .second, .val (.long q3), .second] [(.long ((7 : Int64) * q2)), (.long ((8 : Int64) * q3))])) _
    refine XS.lcmp X0.here hx rfl (hb hby d6_24) rfl ?_
    show Steps p.tables e below (s₁.setTop (mkF m 25 #[.val (.int p1), .val (.long q2), .second, .val (.long q3), .second] [(.int (lcmpW ((8 : Int64) * q3) ((7 : Int64) * q2)))])) _
    refine XS.ifYes X0.here hx rfl (pc0 := 25) (pc' := 32) rfl (hb hby d6_25) rfl ((if0 _ _).trans (tlt hc25).1) (by decide) (by decide) ?_
    show Steps p.tables e below (s₁.setTop (mkF m 32 #[.val (.int p1), .val (.long q2), .second, .val (.long q3), .second] [])) _
    refine XS.iconst X0.here hx rfl (hb hby d6_32) ?_
    show Steps p.tables e below (s₁.setTop (mkF m 33 #[.val (.int p1), .val (.long q2), .second, .val (.long q3), .second] [(.int (0 : Int32))])) _
    exact retN X0 hx (t := .boolean) Bd.returns (by simp) (hb hby d6_33) hr
  · show Q6c Z p1 q2 q3 _ n0 _ s₁.heap _
    rw [e0]
    exact ⟨rfl, N0, rfl⟩
theorem d6_34 : decode method_2_code 34 = .ok (.ldc2_w 9, 3) := by decide +kernel
theorem d6_37 : decode method_2_code 37 = .ok (.lload_n 1, 1) := by decide +kernel
theorem d6_38 : decode method_2_code 38 = .ok (.lmul, 1) := by decide +kernel
theorem d6_39 : decode method_2_code 39 = .ok (.ldc2_w 11, 3) := by decide +kernel
theorem d6_42 : decode method_2_code 42 = .ok (.lload_n 3, 1) := by decide +kernel
theorem d6_43 : decode method_2_code 43 = .ok (.lmul, 1) := by decide +kernel
theorem d6_44 : decode method_2_code 44 = .ok (.lcmp, 1) := by decide +kernel
theorem d6_45 : decode method_2_code 45 = .ok (.ifCond .ge 7, 3) := by decide +kernel
theorem d6_48 : decode method_2_code 48 = .ok (.iconst 1, 1) := by decide +kernel
theorem d6_49 : decode method_2_code 49 = .ok (.goto 4, 3) := by decide +kernel
theorem d6_53 : decode method_2_code 53 = .ok (.ireturn, 1) := by decide +kernel
theorem pn_6d : plainName "com/example/leasehold/leasehold/link/ReplyWaitsSpinsNextPinLaw" = true := by first | (simp [plainName, overriddenIn]; done) | decide +kernel
theorem ef_6d (m : MethodId) (x0 : Int32) (x1 : Int64) (x2 : Int64) : entryFrame m #[(.int x0), (.long x1), (.long x2)] 5 = mkF m 0 #[.val (.int x0), .val (.long x1), .second, .val (.long x2), .second] [] := by first | (simp [entryFrame, mkF, argsToLocals, Value.category]; done) | rfl
def Q6d (Z : State) (p1 : Int32) (q2 : Int64) (q3 : Int64) (h0 : Heap) (n0 : Nat) (v : Option Value) (h : Heap) (L : List Loc) : Prop := v = some (.int (1 : Int32)) ∧ Fr n0 L ∧ h = h0
set_option maxRecDepth 65536 in
set_option maxHeartbeats 40000000 in
theorem rm6d (l : Launch) (Z : State) (a0 : Array Value) (hw : ∀ d ∈ tables_1, d.before a0 Z = true) (ws : List Jvm.Cond) (p1 : Int32) (q2 : Int64) (q3 : Int64) (h0 : Heap) (n0 : Nat) (Z0 : n0 ≤ h0.size) (hc5 : (lcmpW q3 (100000 : Int64)) < (0 : Int32)) (hc11 : p1 = (0 : Int32)) (hc45 : (lcmpW ((8 : Int64) * q2) ((7 : Int64) * q3)) < (0 : Int32)) :
    MetFree l (⟨"com/example/leasehold/leasehold/link/ReplyWaitsSpinsNextPinLaw", "next", "(ZJJ)Z"⟩ : MethodName) (head1 (Jvm.Cond.code (⟨"com/example/leasehold/leasehold/link/ReplyWaitsSpinsNextPinLaw", "next", "(ZJJ)Z"⟩ : MethodName) method_2_code 5 (some .boolean) :: ws) ({ frames := 0, cells := 0, slots := 0, locals := 0 } : Room)) (fun a U => a = #[(.int p1), (.long q2), (.long q3)] ∧ Z.Warmed39 U.vm ∧ U.heap = h0) (fun _ _ _ _ _ => True) (fun _ U o U' => ∃ v L, o = .returned v ∧ Q6d Z p1 q2 q3 h0 n0 v U'.heap L ∧ FrameEnd U o U' L ({ frames := 0, cells := 0, slots := 0, locals := 0 } : Room).cells ({ frames := 0, cells := 0, slots := 0, locals := 0 } : Room).slots) := by
  refine MetFree.of_bodySF (plainFor_of_name pn_6d) hisR ?_
  intro p e s m args below meth c s₁ Bd hml0 hP hK
  obtain ⟨rfl, hZ, hh⟩ := hP
  have hx := Bd.exec
  have hby := Bd.bytes
  have hml : c.maxLocals = 5 := hml0
  have hown : s.vm.findClass "com/example/leasehold/leasehold/link/ReplyWaitsSpinsNextPinLaw" = some m.cls := findClass_of_methodNamed Bd.named
  have hnm := (name_of_methodNamed Bd.named Bd.method).1
  have X0 : Stand p l e ({ frames := 0, cells := 0, slots := 0, locals := 0 } : Room) s m #[(.int p1), (.long q2), (.long q3)] below meth c s₁ [] 0 0 := Stand.of_body Bd
  have e0 : s₁.heap = h0 := by rw [← hh, Bd.state]; rfl
  have N0 := Fr.nil n0
  have pre0 : ∀ t, Steps p.tables e below (s₁.setTop (mkF m 0 #[.val (.int p1), .val (.long q2), .second, .val (.long q3), .second] [])) t → Steps p.tables e below (s₁.setTop (entryFrame m #[(.int p1), (.long q2), (.long q3)] 5)) t := fun t k => castTop (ef_6d m p1 q2 q3) k
  obtain ⟨fs, hr, hrun, hended, hW, hsame⟩ := X0.leave (v := some (.int (1 : Int32))) (fun h => by rw [Bd.returns] at h; cases h)
  refine ⟨_, _, pre0 _ ?_, hrun, hended, _, _, rfl, ?_, ⟨_, rfl⟩, hW, hsame.mono (by decide) (by decide)⟩
  · show Steps p.tables e below (s₁.setTop (mkF m 0 #[.val (.int p1), .val (.long q2), .second, .val (.long q3), .second] [])) _
    refine XS.lloadN X0.here hx rfl (hb hby d6_0) rfl ?_
    show Steps p.tables e below (s₁.setTop (mkF m 1 #[.val (.int p1), .val (.long q2), .second, .val (.long q3), .second] [(.long q3)])) _
    refine X0.ldc2Long hx hown (mvT hZ (hw _ (List.mem_of_getElem? (i := 36) rfl))) (g := (mkF m 1 #[.val (.int p1), .val (.long q2), .second, .val (.long q3), .second] [(.long q3)])) rfl (hb hby d6_1) _ ?_
    show Steps p.tables e below (s₁.setTop (mkF m 4 #[.val (.int p1), .val (.long q2), .second, .val (.long q3), .second] [(.long (100000 : Int64)), (.long q3)])) _
    refine XS.lcmp X0.here hx rfl (hb hby d6_4) rfl ?_
    show Steps p.tables e below (s₁.setTop (mkF m 5 #[.val (.int p1), .val (.long q2), .second, .val (.long q3), .second] [(.int (lcmpW q3 (100000 : Int64)))])) _
    refine XS.ifYes X0.here hx rfl (pc0 := 5) (pc' := 10) rfl (hb hby d6_5) rfl ((if0 _ _).trans (tlt hc5).1) (by decide) (by decide) ?_
    show Steps p.tables e below (s₁.setTop (mkF m 10 #[.val (.int p1), .val (.long q2), .second, .val (.long q3), .second] [])) _
    refine XS.iloadN X0.here hx rfl (hb hby d6_10) rfl ?_
    show Steps p.tables e below (s₁.setTop (mkF m 11 #[.val (.int p1), .val (.long q2), .second, .val (.long q3), .second] [(.int p1)])) _
    refine XS.ifYes X0.here hx rfl (pc0 := 11) (pc' := 34) rfl (hb hby d6_11) rfl ((if0 _ _).trans (teq hc11).1) (by decide) (by decide) ?_
    show Steps p.tables e below (s₁.setTop (mkF m 34 #[.val (.int p1), .val (.long q2), .second, .val (.long q3), .second] [])) _
    refine X0.ldc2Long hx hown (mvT hZ (hw _ (List.mem_of_getElem? (i := 37) rfl))) (g := (mkF m 34 #[.val (.int p1), .val (.long q2), .second, .val (.long q3), .second] [])) rfl (hb hby d6_34) _ ?_
    show Steps p.tables e below (s₁.setTop (mkF m 37 #[.val (.int p1), .val (.long q2), .second, .val (.long q3), .second] [(.long (8 : Int64))])) _
    refine XS.lloadN X0.here hx rfl (hb hby d6_37) rfl ?_
    show Steps p.tables e below (s₁.setTop (mkF m 38 #[.val (.int p1), .val (.long q2), .second, .val (.long q3), .second] [(.long q2), (.long (8 : Int64))])) _
    refine XS.lmul X0.here hx rfl (hb hby d6_38) rfl ?_
    show Steps p.tables e below (s₁.setTop (mkF m 39 #[.val (.int p1), .val (.long q2), .second, .val (.long q3), .second] [(.long ((8 : Int64) * q2))])) _
    refine X0.ldc2Long hx hown (mvT hZ (hw _ (List.mem_of_getElem? (i := 38) rfl))) (g := (mkF m 39 #[.val (.int p1), .val (.long q2), .second, .val (.long q3), .second] [(.long ((8 : Int64) * q2))])) rfl (hb hby d6_39) _ ?_
    show Steps p.tables e below (s₁.setTop (mkF m 42 #[.val (.int p1), .val (.long q2), .second, .val (.long q3), .second] [(.long (7 : Int64)), (.long ((8 : Int64) * q2))])) _
    refine XS.lloadN X0.here hx rfl (hb hby d6_42) rfl ?_
    show Steps p.tables e below (s₁.setTop (mkF m 43 #[.val (.int p1), .val (.long q2), .second, .val (.long q3), .second] [(.long q3), (.long (7 : Int64)), (.long ((8 : Int64) * q2))])) _
    refine XS.lmul X0.here hx rfl (hb hby d6_43) rfl ?_
    show Steps p.tables e below (s₁.setTop (mkF m 44 #[.val (.int p1), .val (.long q2), .second, .val (.long q3), .second] [(.long ((7 : Int64) * q3)), (.long ((8 : Int64) * q2))])) _
    refine XS.lcmp X0.here hx rfl (hb hby d6_44) rfl ?_
    show Steps p.tables e below (s₁.setTop (mkF m 45 #[.val (.int p1), .val (.long q2), .second, .val (.long q3), .second] [(.int (lcmpW ((8 : Int64) * q2) ((7 : Int64) * q3)))])) _
    refine XS.ifNo X0.here hx rfl (hb hby d6_45) rfl ((if0 _ _).trans (tlt hc45).2.1) ?_
    show Steps p.tables e below (s₁.setTop (mkF m 48 #[.val (.int p1), .val (.long q2), .second, .val (.long q3), .second] [])) _
    refine XS.iconst X0.here hx rfl (hb hby d6_48) ?_
    show Steps p.tables e below (s₁.setTop (mkF m 49 #[.val (.int p1), .val (.long q2), .second, .val (.long q3), .second] [(.int (1 : Int32))])) _
    refine XS.goto X0.here hx rfl (pc0 := 49) (pc' := 53) rfl (hb hby d6_49) (by decide) (by decide) ?_
    show Steps p.tables e below (s₁.setTop (mkF m 53 #[.val (.int p1), .val (.long q2), .second, .val (.long q3), .second] [(.int (1 : Int32))])) _
    exact retN X0 hx (t := .boolean) Bd.returns (by simp) (hb hby d6_53) hr
  · show Q6d Z p1 q2 q3 _ n0 _ s₁.heap _
    rw [e0]
    exact ⟨rfl, N0, rfl⟩
theorem d6_52 : decode method_2_code 52 = .ok (.iconst 0, 1) := by decide +kernel
theorem pn_6e : plainName "com/example/leasehold/leasehold/link/ReplyWaitsSpinsNextPinLaw" = true := by first | (simp [plainName, overriddenIn]; done) | decide +kernel
theorem ef_6e (m : MethodId) (x0 : Int32) (x1 : Int64) (x2 : Int64) : entryFrame m #[(.int x0), (.long x1), (.long x2)] 5 = mkF m 0 #[.val (.int x0), .val (.long x1), .second, .val (.long x2), .second] [] := by first | (simp [entryFrame, mkF, argsToLocals, Value.category]; done) | rfl
def Q6e (Z : State) (p1 : Int32) (q2 : Int64) (q3 : Int64) (h0 : Heap) (n0 : Nat) (v : Option Value) (h : Heap) (L : List Loc) : Prop := v = some (.int (0 : Int32)) ∧ Fr n0 L ∧ h = h0
set_option maxRecDepth 65536 in
set_option maxHeartbeats 40000000 in
theorem rm6e (l : Launch) (Z : State) (a0 : Array Value) (hw : ∀ d ∈ tables_1, d.before a0 Z = true) (ws : List Jvm.Cond) (p1 : Int32) (q2 : Int64) (q3 : Int64) (h0 : Heap) (n0 : Nat) (Z0 : n0 ≤ h0.size) (hc5 : (lcmpW q3 (100000 : Int64)) < (0 : Int32)) (hc11 : p1 = (0 : Int32)) (hc45 : ¬ ((lcmpW ((8 : Int64) * q2) ((7 : Int64) * q3)) < (0 : Int32))) :
    MetFree l (⟨"com/example/leasehold/leasehold/link/ReplyWaitsSpinsNextPinLaw", "next", "(ZJJ)Z"⟩ : MethodName) (head1 (Jvm.Cond.code (⟨"com/example/leasehold/leasehold/link/ReplyWaitsSpinsNextPinLaw", "next", "(ZJJ)Z"⟩ : MethodName) method_2_code 5 (some .boolean) :: ws) ({ frames := 0, cells := 0, slots := 0, locals := 0 } : Room)) (fun a U => a = #[(.int p1), (.long q2), (.long q3)] ∧ Z.Warmed39 U.vm ∧ U.heap = h0) (fun _ _ _ _ _ => True) (fun _ U o U' => ∃ v L, o = .returned v ∧ Q6e Z p1 q2 q3 h0 n0 v U'.heap L ∧ FrameEnd U o U' L ({ frames := 0, cells := 0, slots := 0, locals := 0 } : Room).cells ({ frames := 0, cells := 0, slots := 0, locals := 0 } : Room).slots) := by
  refine MetFree.of_bodySF (plainFor_of_name pn_6e) hisR ?_
  intro p e s m args below meth c s₁ Bd hml0 hP hK
  obtain ⟨rfl, hZ, hh⟩ := hP
  have hx := Bd.exec
  have hby := Bd.bytes
  have hml : c.maxLocals = 5 := hml0
  have hown : s.vm.findClass "com/example/leasehold/leasehold/link/ReplyWaitsSpinsNextPinLaw" = some m.cls := findClass_of_methodNamed Bd.named
  have hnm := (name_of_methodNamed Bd.named Bd.method).1
  have X0 : Stand p l e ({ frames := 0, cells := 0, slots := 0, locals := 0 } : Room) s m #[(.int p1), (.long q2), (.long q3)] below meth c s₁ [] 0 0 := Stand.of_body Bd
  have e0 : s₁.heap = h0 := by rw [← hh, Bd.state]; rfl
  have N0 := Fr.nil n0
  have pre0 : ∀ t, Steps p.tables e below (s₁.setTop (mkF m 0 #[.val (.int p1), .val (.long q2), .second, .val (.long q3), .second] [])) t → Steps p.tables e below (s₁.setTop (entryFrame m #[(.int p1), (.long q2), (.long q3)] 5)) t := fun t k => castTop (ef_6e m p1 q2 q3) k
  obtain ⟨fs, hr, hrun, hended, hW, hsame⟩ := X0.leave (v := some (.int (0 : Int32))) (fun h => by rw [Bd.returns] at h; cases h)
  refine ⟨_, _, pre0 _ ?_, hrun, hended, _, _, rfl, ?_, ⟨_, rfl⟩, hW, hsame.mono (by decide) (by decide)⟩
  · show Steps p.tables e below (s₁.setTop (mkF m 0 #[.val (.int p1), .val (.long q2), .second, .val (.long q3), .second] [])) _
    refine XS.lloadN X0.here hx rfl (hb hby d6_0) rfl ?_
    show Steps p.tables e below (s₁.setTop (mkF m 1 #[.val (.int p1), .val (.long q2), .second, .val (.long q3), .second] [(.long q3)])) _
    refine X0.ldc2Long hx hown (mvT hZ (hw _ (List.mem_of_getElem? (i := 36) rfl))) (g := (mkF m 1 #[.val (.int p1), .val (.long q2), .second, .val (.long q3), .second] [(.long q3)])) rfl (hb hby d6_1) _ ?_
    show Steps p.tables e below (s₁.setTop (mkF m 4 #[.val (.int p1), .val (.long q2), .second, .val (.long q3), .second] [(.long (100000 : Int64)), (.long q3)])) _
    refine XS.lcmp X0.here hx rfl (hb hby d6_4) rfl ?_
    show Steps p.tables e below (s₁.setTop (mkF m 5 #[.val (.int p1), .val (.long q2), .second, .val (.long q3), .second] [(.int (lcmpW q3 (100000 : Int64)))])) _
    refine XS.ifYes X0.here hx rfl (pc0 := 5) (pc' := 10) rfl (hb hby d6_5) rfl ((if0 _ _).trans (tlt hc5).1) (by decide) (by decide) ?_
    show Steps p.tables e below (s₁.setTop (mkF m 10 #[.val (.int p1), .val (.long q2), .second, .val (.long q3), .second] [])) _
    refine XS.iloadN X0.here hx rfl (hb hby d6_10) rfl ?_
    show Steps p.tables e below (s₁.setTop (mkF m 11 #[.val (.int p1), .val (.long q2), .second, .val (.long q3), .second] [(.int p1)])) _
    refine XS.ifYes X0.here hx rfl (pc0 := 11) (pc' := 34) rfl (hb hby d6_11) rfl ((if0 _ _).trans (teq hc11).1) (by decide) (by decide) ?_
    show Steps p.tables e below (s₁.setTop (mkF m 34 #[.val (.int p1), .val (.long q2), .second, .val (.long q3), .second] [])) _
    refine X0.ldc2Long hx hown (mvT hZ (hw _ (List.mem_of_getElem? (i := 37) rfl))) (g := (mkF m 34 #[.val (.int p1), .val (.long q2), .second, .val (.long q3), .second] [])) rfl (hb hby d6_34) _ ?_
    show Steps p.tables e below (s₁.setTop (mkF m 37 #[.val (.int p1), .val (.long q2), .second, .val (.long q3), .second] [(.long (8 : Int64))])) _
    refine XS.lloadN X0.here hx rfl (hb hby d6_37) rfl ?_
    show Steps p.tables e below (s₁.setTop (mkF m 38 #[.val (.int p1), .val (.long q2), .second, .val (.long q3), .second] [(.long q2), (.long (8 : Int64))])) _
    refine XS.lmul X0.here hx rfl (hb hby d6_38) rfl ?_
    show Steps p.tables e below (s₁.setTop (mkF m 39 #[.val (.int p1), .val (.long q2), .second, .val (.long q3), .second] [(.long ((8 : Int64) * q2))])) _
    refine X0.ldc2Long hx hown (mvT hZ (hw _ (List.mem_of_getElem? (i := 38) rfl))) (g := (mkF m 39 #[.val (.int p1), .val (.long q2), .second, .val (.long q3), .second] [(.long ((8 : Int64) * q2))])) rfl (hb hby d6_39) _ ?_
    show Steps p.tables e below (s₁.setTop (mkF m 42 #[.val (.int p1), .val (.long q2), .second, .val (.long q3), .second] [(.long (7 : Int64)), (.long ((8 : Int64) * q2))])) _
    refine XS.lloadN X0.here hx rfl (hb hby d6_42) rfl ?_
    show Steps p.tables e below (s₁.setTop (mkF m 43 #[.val (.int p1), .val (.long q2), .second, .val (.long q3), .second] [(.long q3), (.long (7 : Int64)), (.long ((8 : Int64) * q2))])) _
    refine XS.lmul X0.here hx rfl (hb hby d6_43) rfl ?_
    show Steps p.tables e below (s₁.setTop (mkF m 44 #[.val (.int p1), .val (.long q2), .second, .val (.long q3), .second] [(.long ((7 : Int64) * q3)), (.long ((8 : Int64) * q2))])) _
    refine XS.lcmp X0.here hx rfl (hb hby d6_44) rfl ?_
    show Steps p.tables e below (s₁.setTop (mkF m 45 #[.val (.int p1), .val (.long q2), .second, .val (.long q3), .second] [(.int (lcmpW ((8 : Int64) * q2) ((7 : Int64) * q3)))])) _
    refine XS.ifYes X0.here hx rfl (pc0 := 45) (pc' := 52) rfl (hb hby d6_45) rfl ((if0 _ _).trans (flt hc45).2.1) (by decide) (by decide) ?_
    show Steps p.tables e below (s₁.setTop (mkF m 52 #[.val (.int p1), .val (.long q2), .second, .val (.long q3), .second] [])) _
    refine XS.iconst X0.here hx rfl (hb hby d6_52) ?_
    show Steps p.tables e below (s₁.setTop (mkF m 53 #[.val (.int p1), .val (.long q2), .second, .val (.long q3), .second] [(.int (0 : Int32))])) _
    exact retN X0 hx (t := .boolean) Bd.returns (by simp) (hb hby d6_53) hr
  · show Q6e Z p1 q2 q3 _ n0 _ s₁.heap _
    rw [e0]
    exact ⟨rfl, N0, rfl⟩
def Nx (sp : Int32) (sn bl : Int64) (r : Int32) : Prop :=
  (¬ ((lcmpW bl (100000 : Int64)) < (0 : Int32)) ∧ r = 0) ∨
  ((lcmpW bl (100000 : Int64)) < (0 : Int32) ∧ ¬ (sp = (0 : Int32)) ∧ ¬ ((lcmpW ((8 : Int64) * bl) ((7 : Int64) * sn)) < (0 : Int32)) ∧ r = 1) ∨
  ((lcmpW bl (100000 : Int64)) < (0 : Int32) ∧ ¬ (sp = (0 : Int32)) ∧ (lcmpW ((8 : Int64) * bl) ((7 : Int64) * sn)) < (0 : Int32) ∧ r = 0) ∨
  ((lcmpW bl (100000 : Int64)) < (0 : Int32) ∧ sp = (0 : Int32) ∧ (lcmpW ((8 : Int64) * sn) ((7 : Int64) * bl)) < (0 : Int32) ∧ r = 1) ∨
  ((lcmpW bl (100000 : Int64)) < (0 : Int32) ∧ sp = (0 : Int32) ∧ ¬ ((lcmpW ((8 : Int64) * sn) ((7 : Int64) * bl)) < (0 : Int32)) ∧ r = 0)
theorem rm6 (l : Launch) (Z : State) (a0 : Array Value) (hw : ∀ d ∈ tables_1, d.before a0 Z = true) (sp : Int32) (sn bl : Int64) (r : Int32) (h0 : Heap) (n0 : Nat) (Z0 : n0 ≤ h0.size) (R : Nx sp sn bl r) : K6 l Z sp sn bl h0 n0 (some (.int r)) := by
  rcases R with ⟨h1, rfl⟩ | ⟨h1, h3, h2, rfl⟩ | ⟨h1, h3, h2, rfl⟩ | ⟨h1, h3, h2, rfl⟩ | ⟨h1, h3, h2, rfl⟩
  · exact rm6a l Z a0 hw [] sp sn bl h0 n0 Z0 h1
  · exact rm6b l Z a0 hw [] sp sn bl h0 n0 Z0 h1 h3 h2
  · exact rm6c l Z a0 hw [] sp sn bl h0 n0 Z0 h1 h3 h2
  · exact rm6d l Z a0 hw [] sp sn bl h0 n0 Z0 h1 h3 h2
  · exact rm6e l Z a0 hw [] sp sn bl h0 n0 Z0 h1 h3 h2
def nx (sp : Int32) (sn bl : Int64) : Int32 := if (lcmpW bl (100000 : Int64)) < (0 : Int32) then (if sp = 0 then (if (lcmpW ((8 : Int64) * sn) ((7 : Int64) * bl)) < (0 : Int32) then 1 else 0) else (if (lcmpW ((8 : Int64) * bl) ((7 : Int64) * sn)) < (0 : Int32) then 0 else 1)) else 0
theorem nx_nx (sp : Int32) (sn bl : Int64) : Nx sp sn bl (nx sp sn bl) := by
  unfold nx Nx
  by_cases h1 : (lcmpW bl (100000 : Int64)) < (0 : Int32)
  · by_cases h2 : sp = 0
    · by_cases h3 : (lcmpW ((8 : Int64) * sn) ((7 : Int64) * bl)) < (0 : Int32) <;> simp only [h1, h2, h3, if_true, if_false, true_and, and_true, not_true, not_false_iff, false_and, and_false, or_false, false_or, or_true, true_or]
    · by_cases h3 : (lcmpW ((8 : Int64) * bl) ((7 : Int64) * sn)) < (0 : Int32) <;> simp only [h1, h2, h3, if_true, if_false, true_and, and_true, not_true, not_false_iff, false_and, and_false, or_false, false_or, or_true, true_or]
  · simp only [h1, if_false, not_false_iff, true_and, true_or]
theorem own_lt (a b : Int32) : (lcmpW a.toInt64 (b.toInt64 - (b.toInt64 >>> ((3 : Int32) &&& 0x3f).toInt64))) < (0 : Int32) ↔ (lcmpW ((8 : Int64) * a.toInt64) ((7 : Int64) * b.toInt64)) < (0 : Int32) := by
  rw [lw_lt, lw_lt, Int64.lt_iff_toInt_lt, Int64.lt_iff_toInt_lt]
  have ea : a.toInt64.toInt = a.toInt := Jvm.Kit.i64_of_i32 a
  have eb : b.toInt64.toInt = b.toInt := Jvm.Kit.i64_of_i32 b
  have a1 := a.toInt_lt; have a2 := a.le_toInt; have b1 := b.toInt_lt; have b2 := b.le_toInt
  have es : (b.toInt64 >>> ((3 : Int32) &&& 0x3f).toInt64).toInt = b.toInt64.toInt / 2 ^ 3 := Jvm.Kit.i64_shr b.toInt64 _ (by decide)
  have e8 : (8 : Int64).toInt = 8 := rfl
  have e7 : (7 : Int64).toInt = 7 := rfl
  rw [Jvm.Kit.i64_sub (by rw [es, eb]; omega) (by rw [es, eb]; omega), Jvm.Kit.i64_mul (by rw [e8, ea]; omega) (by rw [e8, ea]; omega), Jvm.Kit.i64_mul (by rw [e7, eb]; omega) (by rw [e7, eb]; omega), es, e8, e7, ea, eb]
  omega
theorem nx_bit (sp : Int32) (sn bl : Int64) : nx sp sn bl = 0 ∨ nx sp sn bl = 1 := by
  unfold nx; split <;> (try split) <;> (try split) <;> simp
theorem nx_step (sp : Int32) (a b : Int32) (hb : sp = 0 ∨ sp = 1) : Step sp a.toInt64 b.toInt64 (nx sp a.toInt64 b.toInt64) := by
  unfold nx Step
  rw [own_lt a b, own_lt b a]
  by_cases h1 : (lcmpW b.toInt64 (100000 : Int64)) < (0 : Int32)
  · rcases hb with rfl | rfl
    · by_cases h3 : (lcmpW ((8 : Int64) * a.toInt64) ((7 : Int64) * b.toInt64)) < (0 : Int32)
      · rw [if_pos h1, if_pos rfl, if_pos h3]; exact Or.inr (Or.inr (Or.inr (Or.inl ⟨h1, rfl, h3, rfl⟩)))
      · rw [if_pos h1, if_pos rfl, if_neg h3]; exact Or.inr (Or.inr (Or.inr (Or.inr ⟨h1, rfl, h3, rfl⟩)))
    · by_cases h3 : (lcmpW ((8 : Int64) * b.toInt64) ((7 : Int64) * a.toInt64)) < (0 : Int32)
      · rw [if_pos h1, if_neg (by decide), if_pos h3]; exact Or.inr (Or.inl ⟨h1, rfl, h3, rfl⟩)
      · rw [if_pos h1, if_neg (by decide), if_neg h3]; exact Or.inr (Or.inr (Or.inl ⟨h1, rfl, h3, rfl⟩))
  · rw [if_neg h1]; exact Or.inl ⟨h1, rfl⟩
theorem own_s1 {x : Int32} (h : x = (0 : Int32) ∨ x = (0 : Int32) + 1) : (x + (1 : Int32)) < (17 : Int32) := by rcases h with rfl | rfl <;> decide
theorem own_s2 {x y : Int32} (h : x = (0 : Int32) ∨ x = (0 : Int32) + 1) (g : y = x ∨ y = x + 1) : (y + (1 : Int32)) < (17 : Int32) := by rcases h with rfl | rfl <;> rcases g with rfl | rfl <;> decide
theorem pn_0n : plainName "com/example/leasehold/leasehold/link/ReplyWaitsSpinsNextPinLaw" = true := by first | (simp [plainName, overriddenIn]; done) | decide +kernel
theorem pd_0_0n : parseMethodDescriptor "()V" = some ⟨[], none⟩ := by decide +kernel
theorem pd_0_1n : parseMethodDescriptor "(ZJ)V" = some ⟨[.boolean, .long], none⟩ := by decide +kernel
theorem pd_0_3n : parseMethodDescriptor "()Z" = some ⟨[], some .boolean⟩ := by decide +kernel
theorem pd_0_4n : parseMethodDescriptor "(ZJJ)Z" = some ⟨[.boolean, .long, .long], some .boolean⟩ := by decide +kernel
theorem ef_0n (m : MethodId) (x0 : Int32) (x1 : Int32) (x2 : Int32) : entryFrame m #[(.int x0), (.int x1), (.int x2)] maxLocals = mkF m 0 #[.val (.int x0), .val (.int x1), .val (.int x2), .unset, .unset, .unset, .unset, .unset, .unset, .unset, .unset, .unset, .unset] [] := by first | (simp [entryFrame, mkF, argsToLocals, Value.category, maxLocals]; done) | rfl
def Q0n (Z : State) (p1 : Int32) (p2 : Int32) (p3 : Int32) (h0 : Heap) (n0 : Nat) (v : Option Value) (h : Heap) (L : List Loc) : Prop := v = some (.int (1 : Int32)) ∧ Fr n0 L
set_option maxRecDepth 65536 in
set_option maxHeartbeats 40000000 in
theorem rm0n (l : Launch) (Z : State) (a0 : Array Value) (hw : ∀ d ∈ tables_1, d.before a0 Z = true) (ws : List Jvm.Cond) (p1 : Int32) (p2 : Int32) (p3 : Int32) (h0 : Heap) (n0 : Nat) (Z0 : n0 ≤ h0.size) (hc10 : (p3 &&& (1 : Int32)) = (0 : Int32)) (r1 r2 : Int32) (S_SPIN : Sta Z h0 "com/example/leasehold/leasehold/link/ReplyWaits" "SPIN_NANOS" "J" (.long (100000 : Int64))) (R1 : Step (0 : Int32) (p1.toInt64) (p2.toInt64) r1) (N1 : Nx (0 : Int32) (p1.toInt64) (p2.toInt64) r1) (R2 : Step r1 (p1.toInt64) (p2.toInt64) r2) (N2 : Nx r1 (p1.toInt64) (p2.toInt64) r2) :
    MetFree l x (head1 (Jvm.Cond.code x code maxLocals ret :: ws) room_1) (fun a U => a = #[(.int p1), (.int p2), (.int p3)] ∧ Z.Warmed39 U.vm ∧ U.heap = h0) (fun _ _ _ _ _ => True) (fun _ U o U' => ∃ v L, o = .returned v ∧ Q0n Z p1 p2 p3 h0 n0 v U'.heap L ∧ FrameEnd U o U' L room_1.cells room_1.slots) := by
  refine MetFree.of_bodySF (plainFor_of_name pn_0n) hisR ?_
  intro p e s m args below meth c s₁ Bd hml0 hP hK
  obtain ⟨rfl, hZ, hh⟩ := hP
  have hx := Bd.exec
  have hby := Bd.bytes
  have hml : c.maxLocals = 13 := hml0
  have hown : s.vm.findClass "com/example/leasehold/leasehold/link/ReplyWaitsSpinsNextPinLaw" = some m.cls := findClass_of_methodNamed Bd.named
  have hnm := (name_of_methodNamed Bd.named Bd.method).1
  have X0 : Stand p l e room_1 s m #[(.int p1), (.int p2), (.int p3)] below meth c s₁ [] 0 0 := Stand.of_body Bd
  have e0 : s₁.heap = h0 := by rw [← hh, Bd.state]; rfl
  have N0 := Fr.nil n0
  have pre0 : ∀ t, Steps p.tables e below (s₁.setTop (mkF m 0 #[.val (.int p1), .val (.int p2), .val (.int p3), .unset, .unset, .unset, .unset, .unset, .unset, .unset, .unset, .unset, .unset] [])) t → Steps p.tables e below (s₁.setTop (entryFrame m #[(.int p1), (.int p2), (.int p3)] maxLocals)) t := fun t k => castTop (ef_0n m p1 p2 p3) k
  obtain ⟨T4, h4, X4, e4, E4, A4, D4, -, st4⟩ := newO X0 hx hZ hown (hw _ (List.mem_of_getElem? (i := 0) rfl)) (hw _ (List.mem_of_getElem? (i := 1) rfl)) (hw _ (List.mem_of_getElem? (i := 2) rfl)) e0 (g := (mkF m 20 #[.val (.int p1), .val (.int p2), .val (.int p3), .val (.long (p1.toInt64)), .second, .val (.long (p2.toInt64)), .second, .val (.int (0 : Int32)), .unset, .unset, .unset, .unset, .unset] [])) rfl (hb hby at_20) (by decide) (by decide)
  obtain ⟨b4, g4⟩ : ∃ z, z = h0.size := ⟨_, rfl⟩
  rw [← g4] at A4 D4 st4
  have F_spunNanos_b4 : Fld Z h4 b4 "com/example/leasehold/leasehold/link/ReplyWaits" "spunNanos" "J" (.long (0 : Int64)) := D4 (Or.inl (hw _ (List.mem_of_getElem? (i := 15) rfl))) (ty := .long) (by decide)
  have F_blockedNanos_b4 : Fld Z h4 b4 "com/example/leasehold/leasehold/link/ReplyWaits" "blockedNanos" "J" (.long (0 : Int64)) := D4 (Or.inl (hw _ (List.mem_of_getElem? (i := 20) rfl))) (ty := .long) (by decide)
  have F_spinning_b4 : Fld Z h4 b4 "com/example/leasehold/leasehold/link/ReplyWaits" "spinning" "Z" (.int (0 : Int32)) := D4 (Or.inl (hw _ (List.mem_of_getElem? (i := 29) rfl))) (ty := .boolean) (by decide)
  have F_sinceOther_b4 : Fld Z h4 b4 "com/example/leasehold/leasehold/link/ReplyWaits" "sinceOther" "I" (.int (0 : Int32)) := D4 (Or.inl (hw _ (List.mem_of_getElem? (i := 31) rfl))) (ty := .int) (by decide)
  have E_b4 := A4
  have g_b4 : n0 ≤ b4 := Nat.le_trans Z0 (Nat.le_of_eq g4.symm)
  have sz_b4 : h0.size ≤ b4 := (Nat.le_trans (Keep.refl h0 []).1 (Nat.le_of_eq g4.symm))
  have K4 : Keep h0 h4 [] := (Keep.refl h0 []).ext E4
  obtain ⟨_, _, ⟨T5, L5, k5, n5⟩, -, X5, ⟨Lc5, hQ5, l5, y5, z5⟩, st5⟩ := X4.specialBack hx (y := (⟨"com/example/leasehold/leasehold/link/ReplyWaits", "<init>", "()V"⟩ : MethodName)) rfl hown (mvT hZ (hw _ (List.mem_of_getElem? (i := 3) rfl))) (mvT hZ (hw _ (List.mem_of_getElem? (i := 4) rfl))) (mvT hZ (hw _ (List.mem_of_getElem? (i := 5) rfl))) (by decide) (backOf (W := 1) (rm1 l Z a0 hw [] b4 h4 n0 (Nat.le_trans Z0 E4.1)) hZ (hw _ (List.mem_of_getElem? (i := 5) rfl)) (hw _ (List.mem_of_getElem? (i := 2) rfl)) (by decide) (by decide)) (g := (mkF m 24 #[.val (.int p1), .val (.int p2), .val (.int p3), .val (.long (p1.toInt64)), .second, .val (.long (p2.toInt64)), .second, .val (.int (0 : Int32)), .unset, .unset, .unset, .unset, .unset] [(.ref b4), (.ref b4)])) rfl (by rw [hml]; rfl) (Steps.refl _) (a := b4) (argsL := []) (rest := [(.ref b4)]) (lenOf pd_0_0n rfl) rfl (by show 2 * 0 + _ ≤ _; exact Nat.le_of_eq rfl) (hb hby at_24) (fun _ _ => ⟨rfl, e4, (by decide : 1 + 0 ≤ _), (by decide : 4 + 0 ≤ _)⟩)
  dsimp only [Pt.U, Pt.locs, Pt.cells, Pt.slots] at X5 l5 y5 z5 st5 hQ5
  subst l5 y5 z5
  obtain ⟨rfl, N5q, rfl⟩ := hQ5
  have N5 := Fr.app N0 N5q
  have H5 : Wt Z T5.heap b4 (0 : Int64) (0 : Int64) (0 : Int32) (0 : Int32) := ⟨E_b4, F_spunNanos_b4, F_blockedNanos_b4, F_spinning_b4, F_sinceOther_b4, S_SPIN.ext E4⟩
  obtain ⟨cq6, kq6, q6a, q6b, q6c⟩ := isOf hZ rfl H5.1
  obtain ⟨_, _, ⟨T6, L6, k6, n6⟩, -, X6, ⟨Lc6, hQ6, l6, y6, z6⟩, st6⟩ := X5.virtualBack hx (y := (⟨"com/example/leasehold/leasehold/link/ReplyWaits", "took", "(ZJ)V"⟩ : MethodName)) (z := (⟨"com/example/leasehold/leasehold/link/ReplyWaits", "took", "(ZJ)V"⟩ : MethodName)) hown (mvT hZ (hw _ (List.mem_of_getElem? (i := 9) rfl))) (mvT hZ (hw _ (List.mem_of_getElem? (i := 10) rfl))) (notFace_of_selects (args := #[]) (mvT hZ (hw _ (List.mem_of_getElem? (i := 12) rfl)))) (mvT hZ (hw _ (List.mem_of_getElem? (i := 12) rfl))) (mvT hZ (hw _ (List.mem_of_getElem? (i := 11) rfl))) (by decide) (backOf (W := 0) (rm3y l Z a0 hw [] b4 (1 : Int32) (p1.toInt64) _ n0 (Nat.le_trans g_b4 (Nat.le_of_lt H5.1.lt)) H5.2.1 H5.1 g_b4 (by decide) H5) hZ (hw _ (List.mem_of_getElem? (i := 13) rfl)) (hw _ (List.mem_of_getElem? (i := 2) rfl)) (by decide) (by decide)) q6a q6c (g := (mkF m 92 #[.val (.int p1), .val (.int p2), .val (.int p3), .val (.long (p1.toInt64)), .second, .val (.long (p2.toInt64)), .second, .val (.int (0 : Int32)), .val (.ref b4), .val (.int (0 : Int32)), .val (.int (1 : Int32)), .unset, .unset] [(.long (p1.toInt64)), (.int (1 : Int32)), (.ref b4)])) rfl (by rw [hml]; rfl) (Steps.refl _) (argsL := [(.int (1 : Int32)), (.long (p1.toInt64))]) (rest := []) (lenOf pd_0_1n rfl) rfl (by show 2 * 0 + _ ≤ _; exact Nat.le_of_eq rfl) (hb hby at_92) (fun _ _ => ⟨rfl, rfl, (by decide : 1 + 0 ≤ _), (by decide : 4 + 0 ≤ _)⟩)
  dsimp only [Pt.U, Pt.locs, Pt.cells, Pt.slots] at X6 l6 y6 z6 st6 hQ6
  subst l6 y6 z6
  obtain ⟨rfl, N6q, H6⟩ := hQ6
  have N6 := Fr.app N5 N6q
  obtain ⟨cq7, kq7, q7a, q7b, q7c⟩ := isOf hZ rfl H6.1
  obtain ⟨_, _, ⟨T7, L7, k7, n7⟩, -, X7, ⟨Lc7, hQ7, l7, y7, z7⟩, st7⟩ := X6.virtualBack hx (y := (⟨"com/example/leasehold/leasehold/link/ReplyWaits", "took", "(ZJ)V"⟩ : MethodName)) (z := (⟨"com/example/leasehold/leasehold/link/ReplyWaits", "took", "(ZJ)V"⟩ : MethodName)) hown (mvT hZ (hw _ (List.mem_of_getElem? (i := 9) rfl))) (mvT hZ (hw _ (List.mem_of_getElem? (i := 10) rfl))) (notFace_of_selects (args := #[]) (mvT hZ (hw _ (List.mem_of_getElem? (i := 12) rfl)))) (mvT hZ (hw _ (List.mem_of_getElem? (i := 12) rfl))) (mvT hZ (hw _ (List.mem_of_getElem? (i := 11) rfl))) (by decide) (backOf (W := 0) (rm3n l Z a0 hw [] b4 (0 : Int32) (p2.toInt64) _ n0 (Nat.le_trans g_b4 (Nat.le_of_lt H6.1.lt)) H6.2.2.1 H6.1 g_b4 (by decide) H6) hZ (hw _ (List.mem_of_getElem? (i := 13) rfl)) (hw _ (List.mem_of_getElem? (i := 2) rfl)) (by decide) (by decide)) q7a q7c (g := (mkF m 100 #[.val (.int p1), .val (.int p2), .val (.int p3), .val (.long (p1.toInt64)), .second, .val (.long (p2.toInt64)), .second, .val (.int (0 : Int32)), .val (.ref b4), .val (.int (0 : Int32)), .val (.int (1 : Int32)), .unset, .unset] [(.long (p2.toInt64)), (.int (0 : Int32)), (.ref b4)])) rfl (by rw [hml]; rfl) (Steps.refl _) (argsL := [(.int (0 : Int32)), (.long (p2.toInt64))]) (rest := []) (lenOf pd_0_1n rfl) rfl (by show 2 * 0 + _ ≤ _; exact Nat.le_of_eq rfl) (hb hby at_100) (fun _ _ => ⟨rfl, rfl, (by decide : 1 + 0 ≤ _), (by decide : 4 + 0 ≤ _)⟩)
  dsimp only [Pt.U, Pt.locs, Pt.cells, Pt.slots] at X7 l7 y7 z7 st7 hQ7
  subst l7 y7 z7
  obtain ⟨rfl, N7q, H7⟩ := hQ7
  have N7 := Fr.app N6 N7q
  obtain ⟨cq8, kq8, q8a, q8b, q8c⟩ := isOf hZ rfl H7.1
  obtain ⟨_, _, ⟨T8, L8, k8, n8⟩, -, X8, ⟨Lc8, hQ8, l8, y8, z8⟩, st8⟩ := X7.virtualBack hx (y := (⟨"com/example/leasehold/leasehold/link/ReplyWaits", "spinsNext", "()Z"⟩ : MethodName)) (z := (⟨"com/example/leasehold/leasehold/link/ReplyWaits", "spinsNext", "()Z"⟩ : MethodName)) hown (mvT hZ (hw _ (List.mem_of_getElem? (i := 21) rfl))) (mvT hZ (hw _ (List.mem_of_getElem? (i := 22) rfl))) (notFace_of_selects (args := #[]) (mvT hZ (hw _ (List.mem_of_getElem? (i := 24) rfl)))) (mvT hZ (hw _ (List.mem_of_getElem? (i := 24) rfl))) (mvT hZ (hw _ (List.mem_of_getElem? (i := 23) rfl))) (by decide) (backOf (W := 0) (rm5 l Z a0 hw [] b4 _ _ (0 : Int32) _ r1 _ n0 (Nat.le_trans g_b4 (Nat.le_of_lt H7.1.lt)) H7 g_b4 (by decide) R1) hZ (hw _ (List.mem_of_getElem? (i := 25) rfl)) (hw _ (List.mem_of_getElem? (i := 2) rfl)) (by decide) (by decide)) q8a q8c (g := (mkF m 105 #[.val (.int p1), .val (.int p2), .val (.int p3), .val (.long (p1.toInt64)), .second, .val (.long (p2.toInt64)), .second, .val (.int (0 : Int32)), .val (.ref b4), .val (.int (0 : Int32)), .val (.int (1 : Int32)), .unset, .unset] [(.ref b4)])) rfl (by rw [hml]; rfl) (Steps.refl _) (argsL := []) (rest := []) (lenOf pd_0_3n rfl) rfl (by show 2 * 0 + _ ≤ _; exact Nat.le_of_eq rfl) (hb hby at_105) (fun _ _ => ⟨rfl, rfl, (by decide : 1 + 0 ≤ _), (by decide : 4 + 0 ≤ _)⟩)
  dsimp only [Pt.U, Pt.locs, Pt.cells, Pt.slots] at X8 l8 y8 z8 st8 hQ8
  subst l8 y8 z8
  obtain ⟨rfl, N8q, si8, H8, hs8⟩ := hQ8
  have N8 := Fr.app N7 N8q
  obtain ⟨_, _, ⟨T9, L9, k9, n9⟩, -, X9, ⟨Lc9, hQ9, l9, y9, z9⟩, st9⟩ := Jvm.LawKit.callS X8 hx (y := (⟨"com/example/leasehold/leasehold/link/ReplyWaitsSpinsNextPinLaw", "next", "(ZJJ)Z"⟩ : MethodName)) hown (mvT hZ (hw _ (List.mem_of_getElem? (i := 32) rfl))) (mvT hZ (hw _ (List.mem_of_getElem? (i := 33) rfl))) (mvT hZ (hw _ (List.mem_of_getElem? (i := 34) rfl))) (mvT hZ (hw _ (List.mem_of_getElem? (i := 35) rfl))) (by decide) (backOf (W := 0) (rm6 l Z a0 hw (0 : Int32) (p1.toInt64) (p2.toInt64) r1 _ n0 (Nat.le_trans g_b4 (Nat.le_of_lt H8.1.lt)) N1) hZ (hw _ (List.mem_of_getElem? (i := 35) rfl)) (hw _ (List.mem_of_getElem? (i := 34) rfl)) (by decide) (by decide)) (g := (mkF m 115 #[.val (.int p1), .val (.int p2), .val (.int p3), .val (.long (p1.toInt64)), .second, .val (.long (p2.toInt64)), .second, .val (.int (0 : Int32)), .val (.ref b4), .val (.int (0 : Int32)), .val (.int (1 : Int32)), .val (.int r1), .unset] [(.long (p2.toInt64)), (.long (p1.toInt64)), (.int (0 : Int32))])) rfl (by rw [hml]; rfl) (argsL := [(.int (0 : Int32)), (.long (p1.toInt64)), (.long (p2.toInt64))]) (rest := []) (lenOf pd_0_4n rfl) rfl (by show 2 * 0 + _ ≤ _; exact Nat.le_of_eq rfl) (hb hby at_115) (fun _ _ => ⟨rfl, rfl, (by decide : 1 + 0 ≤ _), (by decide : 4 + 0 ≤ _)⟩)
  dsimp only [Pt.U, Pt.locs, Pt.cells, Pt.slots] at X9 l9 y9 z9 st9 hQ9
  subst l9 y9 z9
  obtain ⟨rfl, N9q, Hq9⟩ := hQ9
  have N9 := Fr.app N8 N9q
  obtain ⟨cq10, kq10, q10a, q10b, q10c⟩ := isOf hZ Hq9 H8.1
  obtain ⟨_, _, ⟨T10, L10, k10, n10⟩, -, X10, ⟨Lc10, hQ10, l10, y10, z10⟩, st10⟩ := X9.virtualBack hx (y := (⟨"com/example/leasehold/leasehold/link/ReplyWaits", "spinsNext", "()Z"⟩ : MethodName)) (z := (⟨"com/example/leasehold/leasehold/link/ReplyWaits", "spinsNext", "()Z"⟩ : MethodName)) hown (mvT hZ (hw _ (List.mem_of_getElem? (i := 21) rfl))) (mvT hZ (hw _ (List.mem_of_getElem? (i := 22) rfl))) (notFace_of_selects (args := #[]) (mvT hZ (hw _ (List.mem_of_getElem? (i := 24) rfl)))) (mvT hZ (hw _ (List.mem_of_getElem? (i := 24) rfl))) (mvT hZ (hw _ (List.mem_of_getElem? (i := 23) rfl))) (by decide) (backOf (W := 0) (rm5 l Z a0 hw [] b4 _ _ r1 _ r2 _ n0 (Nat.le_trans g_b4 (Nat.le_of_lt H8.1.lt)) H8 g_b4 (own_s1 hs8) R2) hZ (hw _ (List.mem_of_getElem? (i := 25) rfl)) (hw _ (List.mem_of_getElem? (i := 2) rfl)) (by decide) (by decide)) q10a q10c (g := (mkF m 141 #[.val (.int p1), .val (.int p2), .val (.int p3), .val (.long (p1.toInt64)), .second, .val (.long (p2.toInt64)), .second, .val (.int (0 : Int32)), .val (.ref b4), .val (.int r1), .val (.int (1 : Int32)), .val (.int r1), .unset] [(.ref b4)])) rfl (by rw [hml]; rfl) (Steps.refl _) (argsL := []) (rest := []) (lenOf pd_0_3n rfl) rfl (by show 2 * 0 + _ ≤ _; exact Nat.le_of_eq rfl) (hb hby at_141) (fun _ _ => ⟨rfl, Hq9, (by decide : 1 + 0 ≤ _), (by decide : 4 + 0 ≤ _)⟩)
  dsimp only [Pt.U, Pt.locs, Pt.cells, Pt.slots] at X10 l10 y10 z10 st10 hQ10
  subst l10 y10 z10
  obtain ⟨rfl, N10q, si10, H10, hs10⟩ := hQ10
  have N10 := Fr.app N9 N10q
  obtain ⟨_, _, ⟨T11, L11, k11, n11⟩, -, X11, ⟨Lc11, hQ11, l11, y11, z11⟩, st11⟩ := Jvm.LawKit.callS X10 hx (y := (⟨"com/example/leasehold/leasehold/link/ReplyWaitsSpinsNextPinLaw", "next", "(ZJJ)Z"⟩ : MethodName)) hown (mvT hZ (hw _ (List.mem_of_getElem? (i := 32) rfl))) (mvT hZ (hw _ (List.mem_of_getElem? (i := 33) rfl))) (mvT hZ (hw _ (List.mem_of_getElem? (i := 34) rfl))) (mvT hZ (hw _ (List.mem_of_getElem? (i := 35) rfl))) (by decide) (backOf (W := 0) (rm6 l Z a0 hw r1 (p1.toInt64) (p2.toInt64) r2 _ n0 (Nat.le_trans g_b4 (Nat.le_of_lt H10.1.lt)) N2) hZ (hw _ (List.mem_of_getElem? (i := 35) rfl)) (hw _ (List.mem_of_getElem? (i := 34) rfl)) (by decide) (by decide)) (g := (mkF m 151 #[.val (.int p1), .val (.int p2), .val (.int p3), .val (.long (p1.toInt64)), .second, .val (.long (p2.toInt64)), .second, .val (.int (0 : Int32)), .val (.ref b4), .val (.int r1), .val (.int (1 : Int32)), .val (.int r1), .val (.int r2)] [(.long (p2.toInt64)), (.long (p1.toInt64)), (.int r1)])) rfl (by rw [hml]; rfl) (argsL := [(.int r1), (.long (p1.toInt64)), (.long (p2.toInt64))]) (rest := []) (lenOf pd_0_4n rfl) rfl (by show 2 * 0 + _ ≤ _; exact Nat.le_of_eq rfl) (hb hby at_151) (fun _ _ => ⟨rfl, rfl, (by decide : 1 + 0 ≤ _), (by decide : 4 + 0 ≤ _)⟩)
  dsimp only [Pt.U, Pt.locs, Pt.cells, Pt.slots] at X11 l11 y11 z11 st11 hQ11
  subst l11 y11 z11
  obtain ⟨rfl, N11q, Hq11⟩ := hQ11
  have N11 := Fr.app N10 N11q
  obtain ⟨fs, hr, hrun, hended, hW, hsame⟩ := X11.leave (v := some (.int (1 : Int32))) (fun h => by rw [Bd.returns] at h; cases h)
  refine ⟨_, _, pre0 _ ?_, hrun, hended, _, _, rfl, ?_, ⟨_, rfl⟩, hW, hsame.mono (by decide) (by decide)⟩
  · show Steps p.tables e below (s₁.setTop (mkF m 0 #[.val (.int p1), .val (.int p2), .val (.int p3), .unset, .unset, .unset, .unset, .unset, .unset, .unset, .unset, .unset, .unset] [])) _
    refine XS.iloadN X0.here hx rfl (hb hby at_0) rfl ?_
    show Steps p.tables e below (s₁.setTop (mkF m 1 #[.val (.int p1), .val (.int p2), .val (.int p3), .unset, .unset, .unset, .unset, .unset, .unset, .unset, .unset, .unset, .unset] [(.int p1)])) _
    refine XS.i2l X0.here hx rfl (hb hby at_1) rfl ?_
    show Steps p.tables e below (s₁.setTop (mkF m 2 #[.val (.int p1), .val (.int p2), .val (.int p3), .unset, .unset, .unset, .unset, .unset, .unset, .unset, .unset, .unset, .unset] [(.long (p1.toInt64))])) _
    refine XS.lstoreN X0.here hx rfl (hb hby at_2) rfl (l' := #[.val (.int p1), .val (.int p2), .val (.int p3), .val (.long (p1.toInt64)), .second, .unset, .unset, .unset, .unset, .unset, .unset, .unset, .unset]) rfl ?_
    show Steps p.tables e below (s₁.setTop (mkF m 3 #[.val (.int p1), .val (.int p2), .val (.int p3), .val (.long (p1.toInt64)), .second, .unset, .unset, .unset, .unset, .unset, .unset, .unset, .unset] [])) _
    refine XS.iloadN X0.here hx rfl (hb hby at_3) rfl ?_
    show Steps p.tables e below (s₁.setTop (mkF m 4 #[.val (.int p1), .val (.int p2), .val (.int p3), .val (.long (p1.toInt64)), .second, .unset, .unset, .unset, .unset, .unset, .unset, .unset, .unset] [(.int p2)])) _
    refine XS.i2l X0.here hx rfl (hb hby at_4) rfl ?_
    show Steps p.tables e below (s₁.setTop (mkF m 5 #[.val (.int p1), .val (.int p2), .val (.int p3), .val (.long (p1.toInt64)), .second, .unset, .unset, .unset, .unset, .unset, .unset, .unset, .unset] [(.long (p2.toInt64))])) _
    refine XS.lstore X0.here hx rfl (hb hby at_5) rfl (l' := #[.val (.int p1), .val (.int p2), .val (.int p3), .val (.long (p1.toInt64)), .second, .val (.long (p2.toInt64)), .second, .unset, .unset, .unset, .unset, .unset, .unset]) rfl ?_
    show Steps p.tables e below (s₁.setTop (mkF m 7 #[.val (.int p1), .val (.int p2), .val (.int p3), .val (.long (p1.toInt64)), .second, .val (.long (p2.toInt64)), .second, .unset, .unset, .unset, .unset, .unset, .unset] [])) _
    refine XS.iloadN X0.here hx rfl (hb hby at_7) rfl ?_
    show Steps p.tables e below (s₁.setTop (mkF m 8 #[.val (.int p1), .val (.int p2), .val (.int p3), .val (.long (p1.toInt64)), .second, .val (.long (p2.toInt64)), .second, .unset, .unset, .unset, .unset, .unset, .unset] [(.int p3)])) _
    refine XS.iconst X0.here hx rfl (hb hby at_8) ?_
    show Steps p.tables e below (s₁.setTop (mkF m 9 #[.val (.int p1), .val (.int p2), .val (.int p3), .val (.long (p1.toInt64)), .second, .val (.long (p2.toInt64)), .second, .unset, .unset, .unset, .unset, .unset, .unset] [(.int (1 : Int32)), (.int p3)])) _
    refine XS.iand X0.here hx rfl (hb hby at_9) rfl ?_
    show Steps p.tables e below (s₁.setTop (mkF m 10 #[.val (.int p1), .val (.int p2), .val (.int p3), .val (.long (p1.toInt64)), .second, .val (.long (p2.toInt64)), .second, .unset, .unset, .unset, .unset, .unset, .unset] [(.int (p3 &&& (1 : Int32)))])) _
    refine XS.ifYes X0.here hx rfl (pc0 := 10) (pc' := 17) rfl (hb hby at_10) rfl ((if0 _ _).trans (teq hc10).1) (by decide) (by decide) ?_
    show Steps p.tables e below (s₁.setTop (mkF m 17 #[.val (.int p1), .val (.int p2), .val (.int p3), .val (.long (p1.toInt64)), .second, .val (.long (p2.toInt64)), .second, .unset, .unset, .unset, .unset, .unset, .unset] [])) _
    refine XS.iconst X0.here hx rfl (hb hby at_17) ?_
    show Steps p.tables e below (s₁.setTop (mkF m 18 #[.val (.int p1), .val (.int p2), .val (.int p3), .val (.long (p1.toInt64)), .second, .val (.long (p2.toInt64)), .second, .unset, .unset, .unset, .unset, .unset, .unset] [(.int (0 : Int32))])) _
    refine XS.istore X0.here hx rfl (hb hby at_18) rfl (l' := #[.val (.int p1), .val (.int p2), .val (.int p3), .val (.long (p1.toInt64)), .second, .val (.long (p2.toInt64)), .second, .val (.int (0 : Int32)), .unset, .unset, .unset, .unset, .unset]) rfl ?_
    show Steps p.tables e below (s₁.setTop (mkF m 20 #[.val (.int p1), .val (.int p2), .val (.int p3), .val (.long (p1.toInt64)), .second, .val (.long (p2.toInt64)), .second, .val (.int (0 : Int32)), .unset, .unset, .unset, .unset, .unset] [])) _
    refine st4 _ ?_
    show Steps p.tables e below (T4.setTop (mkF m 23 #[.val (.int p1), .val (.int p2), .val (.int p3), .val (.long (p1.toInt64)), .second, .val (.long (p2.toInt64)), .second, .val (.int (0 : Int32)), .unset, .unset, .unset, .unset, .unset] [(.ref b4)])) _
    refine XS.dup X4.here hx rfl (hb hby at_23) rfl rfl ?_
    show Steps p.tables e below (T4.setTop (mkF m 24 #[.val (.int p1), .val (.int p2), .val (.int p3), .val (.long (p1.toInt64)), .second, .val (.long (p2.toInt64)), .second, .val (.int (0 : Int32)), .unset, .unset, .unset, .unset, .unset] [(.ref b4), (.ref b4)])) _
    refine st5.trans ?_
    show Steps p.tables e below (T5.setTop (mkF m 27 #[.val (.int p1), .val (.int p2), .val (.int p3), .val (.long (p1.toInt64)), .second, .val (.long (p2.toInt64)), .second, .val (.int (0 : Int32)), .unset, .unset, .unset, .unset, .unset] [(.ref b4)])) _
    refine XS.astore X5.here hx rfl (hb hby at_27) rfl rfl (l' := #[.val (.int p1), .val (.int p2), .val (.int p3), .val (.long (p1.toInt64)), .second, .val (.long (p2.toInt64)), .second, .val (.int (0 : Int32)), .val (.ref b4), .unset, .unset, .unset, .unset]) rfl ?_
    show Steps p.tables e below (T5.setTop (mkF m 29 #[.val (.int p1), .val (.int p2), .val (.int p3), .val (.long (p1.toInt64)), .second, .val (.long (p2.toInt64)), .second, .val (.int (0 : Int32)), .val (.ref b4), .unset, .unset, .unset, .unset] [])) _
    refine XS.iconst X5.here hx rfl (hb hby at_29) ?_
    show Steps p.tables e below (T5.setTop (mkF m 30 #[.val (.int p1), .val (.int p2), .val (.int p3), .val (.long (p1.toInt64)), .second, .val (.long (p2.toInt64)), .second, .val (.int (0 : Int32)), .val (.ref b4), .unset, .unset, .unset, .unset] [(.int (0 : Int32))])) _
    refine XS.istore X5.here hx rfl (hb hby at_30) rfl (l' := #[.val (.int p1), .val (.int p2), .val (.int p3), .val (.long (p1.toInt64)), .second, .val (.long (p2.toInt64)), .second, .val (.int (0 : Int32)), .val (.ref b4), .val (.int (0 : Int32)), .unset, .unset, .unset]) rfl ?_
    show Steps p.tables e below (T5.setTop (mkF m 32 #[.val (.int p1), .val (.int p2), .val (.int p3), .val (.long (p1.toInt64)), .second, .val (.long (p2.toInt64)), .second, .val (.int (0 : Int32)), .val (.ref b4), .val (.int (0 : Int32)), .unset, .unset, .unset] [])) _
    refine XS.iconst X5.here hx rfl (hb hby at_32) ?_
    show Steps p.tables e below (T5.setTop (mkF m 33 #[.val (.int p1), .val (.int p2), .val (.int p3), .val (.long (p1.toInt64)), .second, .val (.long (p2.toInt64)), .second, .val (.int (0 : Int32)), .val (.ref b4), .val (.int (0 : Int32)), .unset, .unset, .unset] [(.int (1 : Int32))])) _
    refine XS.istore X5.here hx rfl (hb hby at_33) rfl (l' := #[.val (.int p1), .val (.int p2), .val (.int p3), .val (.long (p1.toInt64)), .second, .val (.long (p2.toInt64)), .second, .val (.int (0 : Int32)), .val (.ref b4), .val (.int (0 : Int32)), .val (.int (1 : Int32)), .unset, .unset]) rfl ?_
    show Steps p.tables e below (T5.setTop (mkF m 35 #[.val (.int p1), .val (.int p2), .val (.int p3), .val (.long (p1.toInt64)), .second, .val (.long (p2.toInt64)), .second, .val (.int (0 : Int32)), .val (.ref b4), .val (.int (0 : Int32)), .val (.int (1 : Int32)), .unset, .unset] [])) _
    refine XS.iload X5.here hx rfl (hb hby at_35) rfl ?_
    show Steps p.tables e below (T5.setTop (mkF m 37 #[.val (.int p1), .val (.int p2), .val (.int p3), .val (.long (p1.toInt64)), .second, .val (.long (p2.toInt64)), .second, .val (.int (0 : Int32)), .val (.ref b4), .val (.int (0 : Int32)), .val (.int (1 : Int32)), .unset, .unset] [(.int (0 : Int32))])) _
    refine XS.ifYes X5.here hx rfl (pc0 := 37) (pc' := 88) rfl (hb hby at_37) rfl ((if0 _ _).trans (teq (rfl : (0 : Int32) = (0 : Int32))).1) (by decide) (by decide) ?_
    show Steps p.tables e below (T5.setTop (mkF m 88 #[.val (.int p1), .val (.int p2), .val (.int p3), .val (.long (p1.toInt64)), .second, .val (.long (p2.toInt64)), .second, .val (.int (0 : Int32)), .val (.ref b4), .val (.int (0 : Int32)), .val (.int (1 : Int32)), .unset, .unset] [])) _
    refine XS.aload X5.here hx rfl (hb hby at_88) rfl rfl ?_
    show Steps p.tables e below (T5.setTop (mkF m 90 #[.val (.int p1), .val (.int p2), .val (.int p3), .val (.long (p1.toInt64)), .second, .val (.long (p2.toInt64)), .second, .val (.int (0 : Int32)), .val (.ref b4), .val (.int (0 : Int32)), .val (.int (1 : Int32)), .unset, .unset] [(.ref b4)])) _
    refine XS.iconst X5.here hx rfl (hb hby at_90) ?_
    show Steps p.tables e below (T5.setTop (mkF m 91 #[.val (.int p1), .val (.int p2), .val (.int p3), .val (.long (p1.toInt64)), .second, .val (.long (p2.toInt64)), .second, .val (.int (0 : Int32)), .val (.ref b4), .val (.int (0 : Int32)), .val (.int (1 : Int32)), .unset, .unset] [(.int (1 : Int32)), (.ref b4)])) _
    refine XS.lloadN X5.here hx rfl (hb hby at_91) rfl ?_
    show Steps p.tables e below (T5.setTop (mkF m 92 #[.val (.int p1), .val (.int p2), .val (.int p3), .val (.long (p1.toInt64)), .second, .val (.long (p2.toInt64)), .second, .val (.int (0 : Int32)), .val (.ref b4), .val (.int (0 : Int32)), .val (.int (1 : Int32)), .unset, .unset] [(.long (p1.toInt64)), (.int (1 : Int32)), (.ref b4)])) _
    refine st6.trans ?_
    show Steps p.tables e below (T6.setTop (mkF m 95 #[.val (.int p1), .val (.int p2), .val (.int p3), .val (.long (p1.toInt64)), .second, .val (.long (p2.toInt64)), .second, .val (.int (0 : Int32)), .val (.ref b4), .val (.int (0 : Int32)), .val (.int (1 : Int32)), .unset, .unset] [])) _
    refine XS.aload X6.here hx rfl (hb hby at_95) rfl rfl ?_
    show Steps p.tables e below (T6.setTop (mkF m 97 #[.val (.int p1), .val (.int p2), .val (.int p3), .val (.long (p1.toInt64)), .second, .val (.long (p2.toInt64)), .second, .val (.int (0 : Int32)), .val (.ref b4), .val (.int (0 : Int32)), .val (.int (1 : Int32)), .unset, .unset] [(.ref b4)])) _
    refine XS.iconst X6.here hx rfl (hb hby at_97) ?_
    show Steps p.tables e below (T6.setTop (mkF m 98 #[.val (.int p1), .val (.int p2), .val (.int p3), .val (.long (p1.toInt64)), .second, .val (.long (p2.toInt64)), .second, .val (.int (0 : Int32)), .val (.ref b4), .val (.int (0 : Int32)), .val (.int (1 : Int32)), .unset, .unset] [(.int (0 : Int32)), (.ref b4)])) _
    refine XS.lload X6.here hx rfl (hb hby at_98) rfl ?_
    show Steps p.tables e below (T6.setTop (mkF m 100 #[.val (.int p1), .val (.int p2), .val (.int p3), .val (.long (p1.toInt64)), .second, .val (.long (p2.toInt64)), .second, .val (.int (0 : Int32)), .val (.ref b4), .val (.int (0 : Int32)), .val (.int (1 : Int32)), .unset, .unset] [(.long (p2.toInt64)), (.int (0 : Int32)), (.ref b4)])) _
    refine st7.trans ?_
    show Steps p.tables e below (T7.setTop (mkF m 103 #[.val (.int p1), .val (.int p2), .val (.int p3), .val (.long (p1.toInt64)), .second, .val (.long (p2.toInt64)), .second, .val (.int (0 : Int32)), .val (.ref b4), .val (.int (0 : Int32)), .val (.int (1 : Int32)), .unset, .unset] [])) _
    refine XS.aload X7.here hx rfl (hb hby at_103) rfl rfl ?_
    show Steps p.tables e below (T7.setTop (mkF m 105 #[.val (.int p1), .val (.int p2), .val (.int p3), .val (.long (p1.toInt64)), .second, .val (.long (p2.toInt64)), .second, .val (.int (0 : Int32)), .val (.ref b4), .val (.int (0 : Int32)), .val (.int (1 : Int32)), .unset, .unset] [(.ref b4)])) _
    refine st8.trans ?_
    show Steps p.tables e below (T8.setTop (mkF m 108 #[.val (.int p1), .val (.int p2), .val (.int p3), .val (.long (p1.toInt64)), .second, .val (.long (p2.toInt64)), .second, .val (.int (0 : Int32)), .val (.ref b4), .val (.int (0 : Int32)), .val (.int (1 : Int32)), .unset, .unset] [(.int r1)])) _
    refine XS.istore X8.here hx rfl (hb hby at_108) rfl (l' := #[.val (.int p1), .val (.int p2), .val (.int p3), .val (.long (p1.toInt64)), .second, .val (.long (p2.toInt64)), .second, .val (.int (0 : Int32)), .val (.ref b4), .val (.int (0 : Int32)), .val (.int (1 : Int32)), .val (.int r1), .unset]) rfl ?_
    show Steps p.tables e below (T8.setTop (mkF m 110 #[.val (.int p1), .val (.int p2), .val (.int p3), .val (.long (p1.toInt64)), .second, .val (.long (p2.toInt64)), .second, .val (.int (0 : Int32)), .val (.ref b4), .val (.int (0 : Int32)), .val (.int (1 : Int32)), .val (.int r1), .unset] [])) _
    refine XS.iload X8.here hx rfl (hb hby at_110) rfl ?_
    show Steps p.tables e below (T8.setTop (mkF m 112 #[.val (.int p1), .val (.int p2), .val (.int p3), .val (.long (p1.toInt64)), .second, .val (.long (p2.toInt64)), .second, .val (.int (0 : Int32)), .val (.ref b4), .val (.int (0 : Int32)), .val (.int (1 : Int32)), .val (.int r1), .unset] [(.int (0 : Int32))])) _
    refine XS.lloadN X8.here hx rfl (hb hby at_112) rfl ?_
    show Steps p.tables e below (T8.setTop (mkF m 113 #[.val (.int p1), .val (.int p2), .val (.int p3), .val (.long (p1.toInt64)), .second, .val (.long (p2.toInt64)), .second, .val (.int (0 : Int32)), .val (.ref b4), .val (.int (0 : Int32)), .val (.int (1 : Int32)), .val (.int r1), .unset] [(.long (p1.toInt64)), (.int (0 : Int32))])) _
    refine XS.lload X8.here hx rfl (hb hby at_113) rfl ?_
    show Steps p.tables e below (T8.setTop (mkF m 115 #[.val (.int p1), .val (.int p2), .val (.int p3), .val (.long (p1.toInt64)), .second, .val (.long (p2.toInt64)), .second, .val (.int (0 : Int32)), .val (.ref b4), .val (.int (0 : Int32)), .val (.int (1 : Int32)), .val (.int r1), .unset] [(.long (p2.toInt64)), (.long (p1.toInt64)), (.int (0 : Int32))])) _
    refine st9 _ ?_
    show Steps p.tables e below (T9.setTop (mkF m 118 #[.val (.int p1), .val (.int p2), .val (.int p3), .val (.long (p1.toInt64)), .second, .val (.long (p2.toInt64)), .second, .val (.int (0 : Int32)), .val (.ref b4), .val (.int (0 : Int32)), .val (.int (1 : Int32)), .val (.int r1), .unset] [(.int r1)])) _
    refine XS.istore X9.here hx rfl (hb hby at_118) rfl (l' := #[.val (.int p1), .val (.int p2), .val (.int p3), .val (.long (p1.toInt64)), .second, .val (.long (p2.toInt64)), .second, .val (.int (0 : Int32)), .val (.ref b4), .val (.int r1), .val (.int (1 : Int32)), .val (.int r1), .unset]) rfl ?_
    show Steps p.tables e below (T9.setTop (mkF m 120 #[.val (.int p1), .val (.int p2), .val (.int p3), .val (.long (p1.toInt64)), .second, .val (.long (p2.toInt64)), .second, .val (.int (0 : Int32)), .val (.ref b4), .val (.int r1), .val (.int (1 : Int32)), .val (.int r1), .unset] [])) _
    refine XS.iload X9.here hx rfl (hb hby at_120) rfl ?_
    show Steps p.tables e below (T9.setTop (mkF m 122 #[.val (.int p1), .val (.int p2), .val (.int p3), .val (.long (p1.toInt64)), .second, .val (.long (p2.toInt64)), .second, .val (.int (0 : Int32)), .val (.ref b4), .val (.int r1), .val (.int (1 : Int32)), .val (.int r1), .unset] [(.int (1 : Int32))])) _
    refine XS.ifNo X9.here hx rfl (hb hby at_122) rfl ((if0 _ _).trans (feq (by decide)).1) ?_
    show Steps p.tables e below (T9.setTop (mkF m 125 #[.val (.int p1), .val (.int p2), .val (.int p3), .val (.long (p1.toInt64)), .second, .val (.long (p2.toInt64)), .second, .val (.int (0 : Int32)), .val (.ref b4), .val (.int r1), .val (.int (1 : Int32)), .val (.int r1), .unset] [])) _
    refine XS.iload X9.here hx rfl (hb hby at_125) rfl ?_
    show Steps p.tables e below (T9.setTop (mkF m 127 #[.val (.int p1), .val (.int p2), .val (.int p3), .val (.long (p1.toInt64)), .second, .val (.long (p2.toInt64)), .second, .val (.int (0 : Int32)), .val (.ref b4), .val (.int r1), .val (.int (1 : Int32)), .val (.int r1), .unset] [(.int r1)])) _
    refine XS.iload X9.here hx rfl (hb hby at_127) rfl ?_
    show Steps p.tables e below (T9.setTop (mkF m 129 #[.val (.int p1), .val (.int p2), .val (.int p3), .val (.long (p1.toInt64)), .second, .val (.long (p2.toInt64)), .second, .val (.int (0 : Int32)), .val (.ref b4), .val (.int r1), .val (.int (1 : Int32)), .val (.int r1), .unset] [(.int r1), (.int r1)])) _
    refine XS.icmpNo X9.here hx rfl (hb hby at_129) rfl (teq (rfl : r1 = r1)).2 ?_
    show Steps p.tables e below (T9.setTop (mkF m 132 #[.val (.int p1), .val (.int p2), .val (.int p3), .val (.long (p1.toInt64)), .second, .val (.long (p2.toInt64)), .second, .val (.int (0 : Int32)), .val (.ref b4), .val (.int r1), .val (.int (1 : Int32)), .val (.int r1), .unset] [])) _
    refine XS.iconst X9.here hx rfl (hb hby at_132) ?_
    show Steps p.tables e below (T9.setTop (mkF m 133 #[.val (.int p1), .val (.int p2), .val (.int p3), .val (.long (p1.toInt64)), .second, .val (.long (p2.toInt64)), .second, .val (.int (0 : Int32)), .val (.ref b4), .val (.int r1), .val (.int (1 : Int32)), .val (.int r1), .unset] [(.int (1 : Int32))])) _
    refine XS.goto X9.here hx rfl (pc0 := 133) (pc' := 137) rfl (hb hby at_133) (by decide) (by decide) ?_
    show Steps p.tables e below (T9.setTop (mkF m 137 #[.val (.int p1), .val (.int p2), .val (.int p3), .val (.long (p1.toInt64)), .second, .val (.long (p2.toInt64)), .second, .val (.int (0 : Int32)), .val (.ref b4), .val (.int r1), .val (.int (1 : Int32)), .val (.int r1), .unset] [(.int (1 : Int32))])) _
    refine XS.istore X9.here hx rfl (hb hby at_137) rfl (l' := #[.val (.int p1), .val (.int p2), .val (.int p3), .val (.long (p1.toInt64)), .second, .val (.long (p2.toInt64)), .second, .val (.int (0 : Int32)), .val (.ref b4), .val (.int r1), .val (.int (1 : Int32)), .val (.int r1), .unset]) rfl ?_
    show Steps p.tables e below (T9.setTop (mkF m 139 #[.val (.int p1), .val (.int p2), .val (.int p3), .val (.long (p1.toInt64)), .second, .val (.long (p2.toInt64)), .second, .val (.int (0 : Int32)), .val (.ref b4), .val (.int r1), .val (.int (1 : Int32)), .val (.int r1), .unset] [])) _
    refine XS.aload X9.here hx rfl (hb hby at_139) rfl rfl ?_
    show Steps p.tables e below (T9.setTop (mkF m 141 #[.val (.int p1), .val (.int p2), .val (.int p3), .val (.long (p1.toInt64)), .second, .val (.long (p2.toInt64)), .second, .val (.int (0 : Int32)), .val (.ref b4), .val (.int r1), .val (.int (1 : Int32)), .val (.int r1), .unset] [(.ref b4)])) _
    refine st10.trans ?_
    show Steps p.tables e below (T10.setTop (mkF m 144 #[.val (.int p1), .val (.int p2), .val (.int p3), .val (.long (p1.toInt64)), .second, .val (.long (p2.toInt64)), .second, .val (.int (0 : Int32)), .val (.ref b4), .val (.int r1), .val (.int (1 : Int32)), .val (.int r1), .unset] [(.int r2)])) _
    refine XS.istore X10.here hx rfl (hb hby at_144) rfl (l' := #[.val (.int p1), .val (.int p2), .val (.int p3), .val (.long (p1.toInt64)), .second, .val (.long (p2.toInt64)), .second, .val (.int (0 : Int32)), .val (.ref b4), .val (.int r1), .val (.int (1 : Int32)), .val (.int r1), .val (.int r2)]) rfl ?_
    show Steps p.tables e below (T10.setTop (mkF m 146 #[.val (.int p1), .val (.int p2), .val (.int p3), .val (.long (p1.toInt64)), .second, .val (.long (p2.toInt64)), .second, .val (.int (0 : Int32)), .val (.ref b4), .val (.int r1), .val (.int (1 : Int32)), .val (.int r1), .val (.int r2)] [])) _
    refine XS.iload X10.here hx rfl (hb hby at_146) rfl ?_
    show Steps p.tables e below (T10.setTop (mkF m 148 #[.val (.int p1), .val (.int p2), .val (.int p3), .val (.long (p1.toInt64)), .second, .val (.long (p2.toInt64)), .second, .val (.int (0 : Int32)), .val (.ref b4), .val (.int r1), .val (.int (1 : Int32)), .val (.int r1), .val (.int r2)] [(.int r1)])) _
    refine XS.lloadN X10.here hx rfl (hb hby at_148) rfl ?_
    show Steps p.tables e below (T10.setTop (mkF m 149 #[.val (.int p1), .val (.int p2), .val (.int p3), .val (.long (p1.toInt64)), .second, .val (.long (p2.toInt64)), .second, .val (.int (0 : Int32)), .val (.ref b4), .val (.int r1), .val (.int (1 : Int32)), .val (.int r1), .val (.int r2)] [(.long (p1.toInt64)), (.int r1)])) _
    refine XS.lload X10.here hx rfl (hb hby at_149) rfl ?_
    show Steps p.tables e below (T10.setTop (mkF m 151 #[.val (.int p1), .val (.int p2), .val (.int p3), .val (.long (p1.toInt64)), .second, .val (.long (p2.toInt64)), .second, .val (.int (0 : Int32)), .val (.ref b4), .val (.int r1), .val (.int (1 : Int32)), .val (.int r1), .val (.int r2)] [(.long (p2.toInt64)), (.long (p1.toInt64)), (.int r1)])) _
    refine st11 _ ?_
    show Steps p.tables e below (T11.setTop (mkF m 154 #[.val (.int p1), .val (.int p2), .val (.int p3), .val (.long (p1.toInt64)), .second, .val (.long (p2.toInt64)), .second, .val (.int (0 : Int32)), .val (.ref b4), .val (.int r1), .val (.int (1 : Int32)), .val (.int r1), .val (.int r2)] [(.int r2)])) _
    refine XS.istore X11.here hx rfl (hb hby at_154) rfl (l' := #[.val (.int p1), .val (.int p2), .val (.int p3), .val (.long (p1.toInt64)), .second, .val (.long (p2.toInt64)), .second, .val (.int (0 : Int32)), .val (.ref b4), .val (.int r2), .val (.int (1 : Int32)), .val (.int r1), .val (.int r2)]) rfl ?_
    show Steps p.tables e below (T11.setTop (mkF m 156 #[.val (.int p1), .val (.int p2), .val (.int p3), .val (.long (p1.toInt64)), .second, .val (.long (p2.toInt64)), .second, .val (.int (0 : Int32)), .val (.ref b4), .val (.int r2), .val (.int (1 : Int32)), .val (.int r1), .val (.int r2)] [])) _
    refine XS.iload X11.here hx rfl (hb hby at_156) rfl ?_
    show Steps p.tables e below (T11.setTop (mkF m 158 #[.val (.int p1), .val (.int p2), .val (.int p3), .val (.long (p1.toInt64)), .second, .val (.long (p2.toInt64)), .second, .val (.int (0 : Int32)), .val (.ref b4), .val (.int r2), .val (.int (1 : Int32)), .val (.int r1), .val (.int r2)] [(.int (1 : Int32))])) _
    refine XS.ifNo X11.here hx rfl (hb hby at_158) rfl ((if0 _ _).trans (feq (by decide)).1) ?_
    show Steps p.tables e below (T11.setTop (mkF m 161 #[.val (.int p1), .val (.int p2), .val (.int p3), .val (.long (p1.toInt64)), .second, .val (.long (p2.toInt64)), .second, .val (.int (0 : Int32)), .val (.ref b4), .val (.int r2), .val (.int (1 : Int32)), .val (.int r1), .val (.int r2)] [])) _
    refine XS.iload X11.here hx rfl (hb hby at_161) rfl ?_
    show Steps p.tables e below (T11.setTop (mkF m 163 #[.val (.int p1), .val (.int p2), .val (.int p3), .val (.long (p1.toInt64)), .second, .val (.long (p2.toInt64)), .second, .val (.int (0 : Int32)), .val (.ref b4), .val (.int r2), .val (.int (1 : Int32)), .val (.int r1), .val (.int r2)] [(.int r2)])) _
    refine XS.iload X11.here hx rfl (hb hby at_163) rfl ?_
    show Steps p.tables e below (T11.setTop (mkF m 165 #[.val (.int p1), .val (.int p2), .val (.int p3), .val (.long (p1.toInt64)), .second, .val (.long (p2.toInt64)), .second, .val (.int (0 : Int32)), .val (.ref b4), .val (.int r2), .val (.int (1 : Int32)), .val (.int r1), .val (.int r2)] [(.int r2), (.int r2)])) _
    refine XS.icmpNo X11.here hx rfl (hb hby at_165) rfl (teq (rfl : r2 = r2)).2 ?_
    show Steps p.tables e below (T11.setTop (mkF m 168 #[.val (.int p1), .val (.int p2), .val (.int p3), .val (.long (p1.toInt64)), .second, .val (.long (p2.toInt64)), .second, .val (.int (0 : Int32)), .val (.ref b4), .val (.int r2), .val (.int (1 : Int32)), .val (.int r1), .val (.int r2)] [])) _
    refine XS.iconst X11.here hx rfl (hb hby at_168) ?_
    show Steps p.tables e below (T11.setTop (mkF m 169 #[.val (.int p1), .val (.int p2), .val (.int p3), .val (.long (p1.toInt64)), .second, .val (.long (p2.toInt64)), .second, .val (.int (0 : Int32)), .val (.ref b4), .val (.int r2), .val (.int (1 : Int32)), .val (.int r1), .val (.int r2)] [(.int (1 : Int32))])) _
    refine XS.goto X11.here hx rfl (pc0 := 169) (pc' := 173) rfl (hb hby at_169) (by decide) (by decide) ?_
    show Steps p.tables e below (T11.setTop (mkF m 173 #[.val (.int p1), .val (.int p2), .val (.int p3), .val (.long (p1.toInt64)), .second, .val (.long (p2.toInt64)), .second, .val (.int (0 : Int32)), .val (.ref b4), .val (.int r2), .val (.int (1 : Int32)), .val (.int r1), .val (.int r2)] [(.int (1 : Int32))])) _
    refine XS.istore X11.here hx rfl (hb hby at_173) rfl (l' := #[.val (.int p1), .val (.int p2), .val (.int p3), .val (.long (p1.toInt64)), .second, .val (.long (p2.toInt64)), .second, .val (.int (0 : Int32)), .val (.ref b4), .val (.int r2), .val (.int (1 : Int32)), .val (.int r1), .val (.int r2)]) rfl ?_
    show Steps p.tables e below (T11.setTop (mkF m 175 #[.val (.int p1), .val (.int p2), .val (.int p3), .val (.long (p1.toInt64)), .second, .val (.long (p2.toInt64)), .second, .val (.int (0 : Int32)), .val (.ref b4), .val (.int r2), .val (.int (1 : Int32)), .val (.int r1), .val (.int r2)] [])) _
    refine XS.iload X11.here hx rfl (hb hby at_175) rfl ?_
    show Steps p.tables e below (T11.setTop (mkF m 177 #[.val (.int p1), .val (.int p2), .val (.int p3), .val (.long (p1.toInt64)), .second, .val (.long (p2.toInt64)), .second, .val (.int (0 : Int32)), .val (.ref b4), .val (.int r2), .val (.int (1 : Int32)), .val (.int r1), .val (.int r2)] [(.int (1 : Int32))])) _
    exact retN X11 hx (t := .boolean) Bd.returns (by simp) (hb hby at_177) hr
  · show Q0n Z p1 p2 p3 _ n0 _ T11.heap _
    exact ⟨rfl, N11⟩
theorem pn_0y : plainName "com/example/leasehold/leasehold/link/ReplyWaitsSpinsNextPinLaw" = true := by first | (simp [plainName, overriddenIn]; done) | decide +kernel
theorem pd_0_0y : parseMethodDescriptor "()V" = some ⟨[], none⟩ := by decide +kernel
theorem pd_0_1y : parseMethodDescriptor "(ZJ)V" = some ⟨[.boolean, .long], none⟩ := by decide +kernel
theorem pd_0_3y : parseMethodDescriptor "()Z" = some ⟨[], some .boolean⟩ := by decide +kernel
theorem pd_0_4y : parseMethodDescriptor "(ZJJ)Z" = some ⟨[.boolean, .long, .long], some .boolean⟩ := by decide +kernel
theorem ef_0y (m : MethodId) (x0 : Int32) (x1 : Int32) (x2 : Int32) : entryFrame m #[(.int x0), (.int x1), (.int x2)] maxLocals = mkF m 0 #[.val (.int x0), .val (.int x1), .val (.int x2), .unset, .unset, .unset, .unset, .unset, .unset, .unset, .unset, .unset, .unset] [] := by first | (simp [entryFrame, mkF, argsToLocals, Value.category, maxLocals]; done) | rfl
def Q0y (Z : State) (p1 : Int32) (p2 : Int32) (p3 : Int32) (h0 : Heap) (n0 : Nat) (v : Option Value) (h : Heap) (L : List Loc) : Prop := v = some (.int (1 : Int32)) ∧ Fr n0 L
set_option maxRecDepth 65536 in
set_option maxHeartbeats 40000000 in
theorem rm0y (l : Launch) (Z : State) (a0 : Array Value) (hw : ∀ d ∈ tables_1, d.before a0 Z = true) (ws : List Jvm.Cond) (p1 : Int32) (p2 : Int32) (p3 : Int32) (h0 : Heap) (n0 : Nat) (Z0 : n0 ≤ h0.size) (hc10 : ¬ ((p3 &&& (1 : Int32)) = (0 : Int32))) (r0 r1 r2 : Int32) (S_SPIN : Sta Z h0 "com/example/leasehold/leasehold/link/ReplyWaits" "SPIN_NANOS" "J" (.long (100000 : Int64))) (R0 : Step (0 : Int32) (0 : Int64) (p2.toInt64) r0) (N0x : Nx (0 : Int32) (0 : Int64) (p2.toInt64) r0) (R1 : Step r0 (p1.toInt64) (p2.toInt64) r1) (N1 : Nx r0 (p1.toInt64) (p2.toInt64) r1) (R2 : Step r1 (p1.toInt64) (p2.toInt64) r2) (N2 : Nx r1 (p1.toInt64) (p2.toInt64) r2) :
    MetFree l x (head1 (Jvm.Cond.code x code maxLocals ret :: ws) room_1) (fun a U => a = #[(.int p1), (.int p2), (.int p3)] ∧ Z.Warmed39 U.vm ∧ U.heap = h0) (fun _ _ _ _ _ => True) (fun _ U o U' => ∃ v L, o = .returned v ∧ Q0y Z p1 p2 p3 h0 n0 v U'.heap L ∧ FrameEnd U o U' L room_1.cells room_1.slots) := by
  refine MetFree.of_bodySF (plainFor_of_name pn_0y) hisR ?_
  intro p e s m args below meth c s₁ Bd hml0 hP hK
  obtain ⟨rfl, hZ, hh⟩ := hP
  have hx := Bd.exec
  have hby := Bd.bytes
  have hml : c.maxLocals = 13 := hml0
  have hown : s.vm.findClass "com/example/leasehold/leasehold/link/ReplyWaitsSpinsNextPinLaw" = some m.cls := findClass_of_methodNamed Bd.named
  have hnm := (name_of_methodNamed Bd.named Bd.method).1
  have X0 : Stand p l e room_1 s m #[(.int p1), (.int p2), (.int p3)] below meth c s₁ [] 0 0 := Stand.of_body Bd
  have e0 : s₁.heap = h0 := by rw [← hh, Bd.state]; rfl
  have N0 := Fr.nil n0
  have pre0 : ∀ t, Steps p.tables e below (s₁.setTop (mkF m 0 #[.val (.int p1), .val (.int p2), .val (.int p3), .unset, .unset, .unset, .unset, .unset, .unset, .unset, .unset, .unset, .unset] [])) t → Steps p.tables e below (s₁.setTop (entryFrame m #[(.int p1), (.int p2), (.int p3)] maxLocals)) t := fun t k => castTop (ef_0y m p1 p2 p3) k
  obtain ⟨T4, h4, X4, e4, E4, A4, D4, -, st4⟩ := newO X0 hx hZ hown (hw _ (List.mem_of_getElem? (i := 0) rfl)) (hw _ (List.mem_of_getElem? (i := 1) rfl)) (hw _ (List.mem_of_getElem? (i := 2) rfl)) e0 (g := (mkF m 20 #[.val (.int p1), .val (.int p2), .val (.int p3), .val (.long (p1.toInt64)), .second, .val (.long (p2.toInt64)), .second, .val (.int (1 : Int32)), .unset, .unset, .unset, .unset, .unset] [])) rfl (hb hby at_20) (by decide) (by decide)
  obtain ⟨b4, g4⟩ : ∃ z, z = h0.size := ⟨_, rfl⟩
  rw [← g4] at A4 D4 st4
  have F_spunNanos_b4 : Fld Z h4 b4 "com/example/leasehold/leasehold/link/ReplyWaits" "spunNanos" "J" (.long (0 : Int64)) := D4 (Or.inl (hw _ (List.mem_of_getElem? (i := 15) rfl))) (ty := .long) (by decide)
  have F_blockedNanos_b4 : Fld Z h4 b4 "com/example/leasehold/leasehold/link/ReplyWaits" "blockedNanos" "J" (.long (0 : Int64)) := D4 (Or.inl (hw _ (List.mem_of_getElem? (i := 20) rfl))) (ty := .long) (by decide)
  have F_spinning_b4 : Fld Z h4 b4 "com/example/leasehold/leasehold/link/ReplyWaits" "spinning" "Z" (.int (0 : Int32)) := D4 (Or.inl (hw _ (List.mem_of_getElem? (i := 29) rfl))) (ty := .boolean) (by decide)
  have F_sinceOther_b4 : Fld Z h4 b4 "com/example/leasehold/leasehold/link/ReplyWaits" "sinceOther" "I" (.int (0 : Int32)) := D4 (Or.inl (hw _ (List.mem_of_getElem? (i := 31) rfl))) (ty := .int) (by decide)
  have E_b4 := A4
  have g_b4 : n0 ≤ b4 := Nat.le_trans Z0 (Nat.le_of_eq g4.symm)
  have sz_b4 : h0.size ≤ b4 := (Nat.le_trans (Keep.refl h0 []).1 (Nat.le_of_eq g4.symm))
  have K4 : Keep h0 h4 [] := (Keep.refl h0 []).ext E4
  obtain ⟨_, _, ⟨T5, L5, k5, n5⟩, -, X5, ⟨Lc5, hQ5, l5, y5, z5⟩, st5⟩ := X4.specialBack hx (y := (⟨"com/example/leasehold/leasehold/link/ReplyWaits", "<init>", "()V"⟩ : MethodName)) rfl hown (mvT hZ (hw _ (List.mem_of_getElem? (i := 3) rfl))) (mvT hZ (hw _ (List.mem_of_getElem? (i := 4) rfl))) (mvT hZ (hw _ (List.mem_of_getElem? (i := 5) rfl))) (by decide) (backOf (W := 1) (rm1 l Z a0 hw [] b4 h4 n0 (Nat.le_trans Z0 E4.1)) hZ (hw _ (List.mem_of_getElem? (i := 5) rfl)) (hw _ (List.mem_of_getElem? (i := 2) rfl)) (by decide) (by decide)) (g := (mkF m 24 #[.val (.int p1), .val (.int p2), .val (.int p3), .val (.long (p1.toInt64)), .second, .val (.long (p2.toInt64)), .second, .val (.int (1 : Int32)), .unset, .unset, .unset, .unset, .unset] [(.ref b4), (.ref b4)])) rfl (by rw [hml]; rfl) (Steps.refl _) (a := b4) (argsL := []) (rest := [(.ref b4)]) (lenOf pd_0_0y rfl) rfl (by show 2 * 0 + _ ≤ _; exact Nat.le_of_eq rfl) (hb hby at_24) (fun _ _ => ⟨rfl, e4, (by decide : 1 + 0 ≤ _), (by decide : 4 + 0 ≤ _)⟩)
  dsimp only [Pt.U, Pt.locs, Pt.cells, Pt.slots] at X5 l5 y5 z5 st5 hQ5
  subst l5 y5 z5
  obtain ⟨rfl, N5q, rfl⟩ := hQ5
  have N5 := Fr.app N0 N5q
  have H5 : Wt Z T5.heap b4 (0 : Int64) (0 : Int64) (0 : Int32) (0 : Int32) := ⟨E_b4, F_spunNanos_b4, F_blockedNanos_b4, F_spinning_b4, F_sinceOther_b4, S_SPIN.ext E4⟩
  obtain ⟨cq6, kq6, q6a, q6b, q6c⟩ := isOf hZ rfl H5.1
  obtain ⟨_, _, ⟨T6, L6, k6, n6⟩, -, X6, ⟨Lc6, hQ6, l6, y6, z6⟩, st6⟩ := X5.virtualBack hx (y := (⟨"com/example/leasehold/leasehold/link/ReplyWaits", "took", "(ZJ)V"⟩ : MethodName)) (z := (⟨"com/example/leasehold/leasehold/link/ReplyWaits", "took", "(ZJ)V"⟩ : MethodName)) hown (mvT hZ (hw _ (List.mem_of_getElem? (i := 9) rfl))) (mvT hZ (hw _ (List.mem_of_getElem? (i := 10) rfl))) (notFace_of_selects (args := #[]) (mvT hZ (hw _ (List.mem_of_getElem? (i := 12) rfl)))) (mvT hZ (hw _ (List.mem_of_getElem? (i := 12) rfl))) (mvT hZ (hw _ (List.mem_of_getElem? (i := 11) rfl))) (by decide) (backOf (W := 0) (rm3n l Z a0 hw [] b4 (0 : Int32) (p2.toInt64) _ n0 (Nat.le_trans g_b4 (Nat.le_of_lt H5.1.lt)) H5.2.2.1 H5.1 g_b4 (by decide) H5) hZ (hw _ (List.mem_of_getElem? (i := 13) rfl)) (hw _ (List.mem_of_getElem? (i := 2) rfl)) (by decide) (by decide)) q6a q6c (g := (mkF m 45 #[.val (.int p1), .val (.int p2), .val (.int p3), .val (.long (p1.toInt64)), .second, .val (.long (p2.toInt64)), .second, .val (.int (1 : Int32)), .val (.ref b4), .val (.int (0 : Int32)), .val (.int (1 : Int32)), .unset, .unset] [(.long (p2.toInt64)), (.int (0 : Int32)), (.ref b4)])) rfl (by rw [hml]; rfl) (Steps.refl _) (argsL := [(.int (0 : Int32)), (.long (p2.toInt64))]) (rest := []) (lenOf pd_0_1y rfl) rfl (by show 2 * 0 + _ ≤ _; exact Nat.le_of_eq rfl) (hb hby at_45) (fun _ _ => ⟨rfl, rfl, (by decide : 1 + 0 ≤ _), (by decide : 4 + 0 ≤ _)⟩)
  dsimp only [Pt.U, Pt.locs, Pt.cells, Pt.slots] at X6 l6 y6 z6 st6 hQ6
  subst l6 y6 z6
  obtain ⟨rfl, N6q, H6⟩ := hQ6
  have N6 := Fr.app N5 N6q
  obtain ⟨cq7, kq7, q7a, q7b, q7c⟩ := isOf hZ rfl H6.1
  obtain ⟨_, _, ⟨T7, L7, k7, n7⟩, -, X7, ⟨Lc7, hQ7, l7, y7, z7⟩, st7⟩ := X6.virtualBack hx (y := (⟨"com/example/leasehold/leasehold/link/ReplyWaits", "spinsNext", "()Z"⟩ : MethodName)) (z := (⟨"com/example/leasehold/leasehold/link/ReplyWaits", "spinsNext", "()Z"⟩ : MethodName)) hown (mvT hZ (hw _ (List.mem_of_getElem? (i := 21) rfl))) (mvT hZ (hw _ (List.mem_of_getElem? (i := 22) rfl))) (notFace_of_selects (args := #[]) (mvT hZ (hw _ (List.mem_of_getElem? (i := 24) rfl)))) (mvT hZ (hw _ (List.mem_of_getElem? (i := 24) rfl))) (mvT hZ (hw _ (List.mem_of_getElem? (i := 23) rfl))) (by decide) (backOf (W := 0) (rm5 l Z a0 hw [] b4 _ _ (0 : Int32) _ r0 _ n0 (Nat.le_trans g_b4 (Nat.le_of_lt H6.1.lt)) H6 g_b4 (by decide) R0) hZ (hw _ (List.mem_of_getElem? (i := 25) rfl)) (hw _ (List.mem_of_getElem? (i := 2) rfl)) (by decide) (by decide)) q7a q7c (g := (mkF m 50 #[.val (.int p1), .val (.int p2), .val (.int p3), .val (.long (p1.toInt64)), .second, .val (.long (p2.toInt64)), .second, .val (.int (1 : Int32)), .val (.ref b4), .val (.int (0 : Int32)), .val (.int (1 : Int32)), .unset, .unset] [(.ref b4)])) rfl (by rw [hml]; rfl) (Steps.refl _) (argsL := []) (rest := []) (lenOf pd_0_3y rfl) rfl (by show 2 * 0 + _ ≤ _; exact Nat.le_of_eq rfl) (hb hby at_50) (fun _ _ => ⟨rfl, rfl, (by decide : 1 + 0 ≤ _), (by decide : 4 + 0 ≤ _)⟩)
  dsimp only [Pt.U, Pt.locs, Pt.cells, Pt.slots] at X7 l7 y7 z7 st7 hQ7
  subst l7 y7 z7
  obtain ⟨rfl, N7q, si7, H7, hs7⟩ := hQ7
  have N7 := Fr.app N6 N7q
  obtain ⟨_, _, ⟨T8, L8, k8, n8⟩, -, X8, ⟨Lc8, hQ8, l8, y8, z8⟩, st8⟩ := Jvm.LawKit.callS X7 hx (y := (⟨"com/example/leasehold/leasehold/link/ReplyWaitsSpinsNextPinLaw", "next", "(ZJJ)Z"⟩ : MethodName)) hown (mvT hZ (hw _ (List.mem_of_getElem? (i := 32) rfl))) (mvT hZ (hw _ (List.mem_of_getElem? (i := 33) rfl))) (mvT hZ (hw _ (List.mem_of_getElem? (i := 34) rfl))) (mvT hZ (hw _ (List.mem_of_getElem? (i := 35) rfl))) (by decide) (backOf (W := 0) (rm6 l Z a0 hw (0 : Int32) (0 : Int64) (p2.toInt64) r0 _ n0 (Nat.le_trans g_b4 (Nat.le_of_lt H7.1.lt)) N0x) hZ (hw _ (List.mem_of_getElem? (i := 35) rfl)) (hw _ (List.mem_of_getElem? (i := 34) rfl)) (by decide) (by decide)) (g := (mkF m 59 #[.val (.int p1), .val (.int p2), .val (.int p3), .val (.long (p1.toInt64)), .second, .val (.long (p2.toInt64)), .second, .val (.int (1 : Int32)), .val (.ref b4), .val (.int (0 : Int32)), .val (.int (1 : Int32)), .val (.int r0), .unset] [(.long (p2.toInt64)), (.long (0 : Int64)), (.int (0 : Int32))])) rfl (by rw [hml]; rfl) (argsL := [(.int (0 : Int32)), (.long (0 : Int64)), (.long (p2.toInt64))]) (rest := []) (lenOf pd_0_4y rfl) rfl (by show 2 * 0 + _ ≤ _; exact Nat.le_of_eq rfl) (hb hby at_59) (fun _ _ => ⟨rfl, rfl, (by decide : 1 + 0 ≤ _), (by decide : 4 + 0 ≤ _)⟩)
  dsimp only [Pt.U, Pt.locs, Pt.cells, Pt.slots] at X8 l8 y8 z8 st8 hQ8
  subst l8 y8 z8
  obtain ⟨rfl, N8q, Hq8⟩ := hQ8
  have N8 := Fr.app N7 N8q
  obtain ⟨cq9, kq9, q9a, q9b, q9c⟩ := isOf hZ Hq8 H7.1
  obtain ⟨_, _, ⟨T9, L9, k9, n9⟩, -, X9, ⟨Lc9, hQ9, l9, y9, z9⟩, st9⟩ := X8.virtualBack hx (y := (⟨"com/example/leasehold/leasehold/link/ReplyWaits", "took", "(ZJ)V"⟩ : MethodName)) (z := (⟨"com/example/leasehold/leasehold/link/ReplyWaits", "took", "(ZJ)V"⟩ : MethodName)) hown (mvT hZ (hw _ (List.mem_of_getElem? (i := 9) rfl))) (mvT hZ (hw _ (List.mem_of_getElem? (i := 10) rfl))) (notFace_of_selects (args := #[]) (mvT hZ (hw _ (List.mem_of_getElem? (i := 12) rfl)))) (mvT hZ (hw _ (List.mem_of_getElem? (i := 12) rfl))) (mvT hZ (hw _ (List.mem_of_getElem? (i := 11) rfl))) (by decide) (backOf (W := 0) (rm3y l Z a0 hw [] b4 (1 : Int32) (p1.toInt64) _ n0 (Nat.le_trans g_b4 (Nat.le_of_lt H7.1.lt)) H7.2.1 H7.1 g_b4 (by decide) H7) hZ (hw _ (List.mem_of_getElem? (i := 13) rfl)) (hw _ (List.mem_of_getElem? (i := 2) rfl)) (by decide) (by decide)) q9a q9c (g := (mkF m 82 #[.val (.int p1), .val (.int p2), .val (.int p3), .val (.long (p1.toInt64)), .second, .val (.long (p2.toInt64)), .second, .val (.int (1 : Int32)), .val (.ref b4), .val (.int r0), .val (.int (1 : Int32)), .val (.int r0), .unset] [(.long (p1.toInt64)), (.int (1 : Int32)), (.ref b4)])) rfl (by rw [hml]; rfl) (Steps.refl _) (argsL := [(.int (1 : Int32)), (.long (p1.toInt64))]) (rest := []) (lenOf pd_0_1y rfl) rfl (by show 2 * 0 + _ ≤ _; exact Nat.le_of_eq rfl) (hb hby at_82) (fun _ _ => ⟨rfl, Hq8, (by decide : 1 + 0 ≤ _), (by decide : 4 + 0 ≤ _)⟩)
  dsimp only [Pt.U, Pt.locs, Pt.cells, Pt.slots] at X9 l9 y9 z9 st9 hQ9
  subst l9 y9 z9
  obtain ⟨rfl, N9q, H9⟩ := hQ9
  have N9 := Fr.app N8 N9q
  obtain ⟨cq10, kq10, q10a, q10b, q10c⟩ := isOf hZ rfl H9.1
  obtain ⟨_, _, ⟨T10, L10, k10, n10⟩, -, X10, ⟨Lc10, hQ10, l10, y10, z10⟩, st10⟩ := X9.virtualBack hx (y := (⟨"com/example/leasehold/leasehold/link/ReplyWaits", "spinsNext", "()Z"⟩ : MethodName)) (z := (⟨"com/example/leasehold/leasehold/link/ReplyWaits", "spinsNext", "()Z"⟩ : MethodName)) hown (mvT hZ (hw _ (List.mem_of_getElem? (i := 21) rfl))) (mvT hZ (hw _ (List.mem_of_getElem? (i := 22) rfl))) (notFace_of_selects (args := #[]) (mvT hZ (hw _ (List.mem_of_getElem? (i := 24) rfl)))) (mvT hZ (hw _ (List.mem_of_getElem? (i := 24) rfl))) (mvT hZ (hw _ (List.mem_of_getElem? (i := 23) rfl))) (by decide) (backOf (W := 0) (rm5 l Z a0 hw [] b4 _ _ r0 _ r1 _ n0 (Nat.le_trans g_b4 (Nat.le_of_lt H9.1.lt)) H9 g_b4 (own_s1 hs7) R1) hZ (hw _ (List.mem_of_getElem? (i := 25) rfl)) (hw _ (List.mem_of_getElem? (i := 2) rfl)) (by decide) (by decide)) q10a q10c (g := (mkF m 105 #[.val (.int p1), .val (.int p2), .val (.int p3), .val (.long (p1.toInt64)), .second, .val (.long (p2.toInt64)), .second, .val (.int (1 : Int32)), .val (.ref b4), .val (.int r0), .val (.int (1 : Int32)), .val (.int r0), .unset] [(.ref b4)])) rfl (by rw [hml]; rfl) (Steps.refl _) (argsL := []) (rest := []) (lenOf pd_0_3y rfl) rfl (by show 2 * 0 + _ ≤ _; exact Nat.le_of_eq rfl) (hb hby at_105) (fun _ _ => ⟨rfl, rfl, (by decide : 1 + 0 ≤ _), (by decide : 4 + 0 ≤ _)⟩)
  dsimp only [Pt.U, Pt.locs, Pt.cells, Pt.slots] at X10 l10 y10 z10 st10 hQ10
  subst l10 y10 z10
  obtain ⟨rfl, N10q, si10, H10, hs10⟩ := hQ10
  have N10 := Fr.app N9 N10q
  obtain ⟨_, _, ⟨T11, L11, k11, n11⟩, -, X11, ⟨Lc11, hQ11, l11, y11, z11⟩, st11⟩ := Jvm.LawKit.callS X10 hx (y := (⟨"com/example/leasehold/leasehold/link/ReplyWaitsSpinsNextPinLaw", "next", "(ZJJ)Z"⟩ : MethodName)) hown (mvT hZ (hw _ (List.mem_of_getElem? (i := 32) rfl))) (mvT hZ (hw _ (List.mem_of_getElem? (i := 33) rfl))) (mvT hZ (hw _ (List.mem_of_getElem? (i := 34) rfl))) (mvT hZ (hw _ (List.mem_of_getElem? (i := 35) rfl))) (by decide) (backOf (W := 0) (rm6 l Z a0 hw r0 (p1.toInt64) (p2.toInt64) r1 _ n0 (Nat.le_trans g_b4 (Nat.le_of_lt H10.1.lt)) N1) hZ (hw _ (List.mem_of_getElem? (i := 35) rfl)) (hw _ (List.mem_of_getElem? (i := 34) rfl)) (by decide) (by decide)) (g := (mkF m 115 #[.val (.int p1), .val (.int p2), .val (.int p3), .val (.long (p1.toInt64)), .second, .val (.long (p2.toInt64)), .second, .val (.int (1 : Int32)), .val (.ref b4), .val (.int r0), .val (.int (1 : Int32)), .val (.int r1), .unset] [(.long (p2.toInt64)), (.long (p1.toInt64)), (.int r0)])) rfl (by rw [hml]; rfl) (argsL := [(.int r0), (.long (p1.toInt64)), (.long (p2.toInt64))]) (rest := []) (lenOf pd_0_4y rfl) rfl (by show 2 * 0 + _ ≤ _; exact Nat.le_of_eq rfl) (hb hby at_115) (fun _ _ => ⟨rfl, rfl, (by decide : 1 + 0 ≤ _), (by decide : 4 + 0 ≤ _)⟩)
  dsimp only [Pt.U, Pt.locs, Pt.cells, Pt.slots] at X11 l11 y11 z11 st11 hQ11
  subst l11 y11 z11
  obtain ⟨rfl, N11q, Hq11⟩ := hQ11
  have N11 := Fr.app N10 N11q
  obtain ⟨cq12, kq12, q12a, q12b, q12c⟩ := isOf hZ Hq11 H10.1
  obtain ⟨_, _, ⟨T12, L12, k12, n12⟩, -, X12, ⟨Lc12, hQ12, l12, y12, z12⟩, st12⟩ := X11.virtualBack hx (y := (⟨"com/example/leasehold/leasehold/link/ReplyWaits", "spinsNext", "()Z"⟩ : MethodName)) (z := (⟨"com/example/leasehold/leasehold/link/ReplyWaits", "spinsNext", "()Z"⟩ : MethodName)) hown (mvT hZ (hw _ (List.mem_of_getElem? (i := 21) rfl))) (mvT hZ (hw _ (List.mem_of_getElem? (i := 22) rfl))) (notFace_of_selects (args := #[]) (mvT hZ (hw _ (List.mem_of_getElem? (i := 24) rfl)))) (mvT hZ (hw _ (List.mem_of_getElem? (i := 24) rfl))) (mvT hZ (hw _ (List.mem_of_getElem? (i := 23) rfl))) (by decide) (backOf (W := 0) (rm5 l Z a0 hw [] b4 _ _ r1 _ r2 _ n0 (Nat.le_trans g_b4 (Nat.le_of_lt H10.1.lt)) H10 g_b4 (own_s2 hs7 hs10) R2) hZ (hw _ (List.mem_of_getElem? (i := 25) rfl)) (hw _ (List.mem_of_getElem? (i := 2) rfl)) (by decide) (by decide)) q12a q12c (g := (mkF m 141 #[.val (.int p1), .val (.int p2), .val (.int p3), .val (.long (p1.toInt64)), .second, .val (.long (p2.toInt64)), .second, .val (.int (1 : Int32)), .val (.ref b4), .val (.int r1), .val (.int (1 : Int32)), .val (.int r1), .unset] [(.ref b4)])) rfl (by rw [hml]; rfl) (Steps.refl _) (argsL := []) (rest := []) (lenOf pd_0_3y rfl) rfl (by show 2 * 0 + _ ≤ _; exact Nat.le_of_eq rfl) (hb hby at_141) (fun _ _ => ⟨rfl, Hq11, (by decide : 1 + 0 ≤ _), (by decide : 4 + 0 ≤ _)⟩)
  dsimp only [Pt.U, Pt.locs, Pt.cells, Pt.slots] at X12 l12 y12 z12 st12 hQ12
  subst l12 y12 z12
  obtain ⟨rfl, N12q, si12, H12, hs12⟩ := hQ12
  have N12 := Fr.app N11 N12q
  obtain ⟨_, _, ⟨T13, L13, k13, n13⟩, -, X13, ⟨Lc13, hQ13, l13, y13, z13⟩, st13⟩ := Jvm.LawKit.callS X12 hx (y := (⟨"com/example/leasehold/leasehold/link/ReplyWaitsSpinsNextPinLaw", "next", "(ZJJ)Z"⟩ : MethodName)) hown (mvT hZ (hw _ (List.mem_of_getElem? (i := 32) rfl))) (mvT hZ (hw _ (List.mem_of_getElem? (i := 33) rfl))) (mvT hZ (hw _ (List.mem_of_getElem? (i := 34) rfl))) (mvT hZ (hw _ (List.mem_of_getElem? (i := 35) rfl))) (by decide) (backOf (W := 0) (rm6 l Z a0 hw r1 (p1.toInt64) (p2.toInt64) r2 _ n0 (Nat.le_trans g_b4 (Nat.le_of_lt H12.1.lt)) N2) hZ (hw _ (List.mem_of_getElem? (i := 35) rfl)) (hw _ (List.mem_of_getElem? (i := 34) rfl)) (by decide) (by decide)) (g := (mkF m 151 #[.val (.int p1), .val (.int p2), .val (.int p3), .val (.long (p1.toInt64)), .second, .val (.long (p2.toInt64)), .second, .val (.int (1 : Int32)), .val (.ref b4), .val (.int r1), .val (.int (1 : Int32)), .val (.int r1), .val (.int r2)] [(.long (p2.toInt64)), (.long (p1.toInt64)), (.int r1)])) rfl (by rw [hml]; rfl) (argsL := [(.int r1), (.long (p1.toInt64)), (.long (p2.toInt64))]) (rest := []) (lenOf pd_0_4y rfl) rfl (by show 2 * 0 + _ ≤ _; exact Nat.le_of_eq rfl) (hb hby at_151) (fun _ _ => ⟨rfl, rfl, (by decide : 1 + 0 ≤ _), (by decide : 4 + 0 ≤ _)⟩)
  dsimp only [Pt.U, Pt.locs, Pt.cells, Pt.slots] at X13 l13 y13 z13 st13 hQ13
  subst l13 y13 z13
  obtain ⟨rfl, N13q, Hq13⟩ := hQ13
  have N13 := Fr.app N12 N13q
  obtain ⟨fs, hr, hrun, hended, hW, hsame⟩ := X13.leave (v := some (.int (1 : Int32))) (fun h => by rw [Bd.returns] at h; cases h)
  refine ⟨_, _, pre0 _ ?_, hrun, hended, _, _, rfl, ?_, ⟨_, rfl⟩, hW, hsame.mono (by decide) (by decide)⟩
  · show Steps p.tables e below (s₁.setTop (mkF m 0 #[.val (.int p1), .val (.int p2), .val (.int p3), .unset, .unset, .unset, .unset, .unset, .unset, .unset, .unset, .unset, .unset] [])) _
    refine XS.iloadN X0.here hx rfl (hb hby at_0) rfl ?_
    show Steps p.tables e below (s₁.setTop (mkF m 1 #[.val (.int p1), .val (.int p2), .val (.int p3), .unset, .unset, .unset, .unset, .unset, .unset, .unset, .unset, .unset, .unset] [(.int p1)])) _
    refine XS.i2l X0.here hx rfl (hb hby at_1) rfl ?_
    show Steps p.tables e below (s₁.setTop (mkF m 2 #[.val (.int p1), .val (.int p2), .val (.int p3), .unset, .unset, .unset, .unset, .unset, .unset, .unset, .unset, .unset, .unset] [(.long (p1.toInt64))])) _
    refine XS.lstoreN X0.here hx rfl (hb hby at_2) rfl (l' := #[.val (.int p1), .val (.int p2), .val (.int p3), .val (.long (p1.toInt64)), .second, .unset, .unset, .unset, .unset, .unset, .unset, .unset, .unset]) rfl ?_
    show Steps p.tables e below (s₁.setTop (mkF m 3 #[.val (.int p1), .val (.int p2), .val (.int p3), .val (.long (p1.toInt64)), .second, .unset, .unset, .unset, .unset, .unset, .unset, .unset, .unset] [])) _
    refine XS.iloadN X0.here hx rfl (hb hby at_3) rfl ?_
    show Steps p.tables e below (s₁.setTop (mkF m 4 #[.val (.int p1), .val (.int p2), .val (.int p3), .val (.long (p1.toInt64)), .second, .unset, .unset, .unset, .unset, .unset, .unset, .unset, .unset] [(.int p2)])) _
    refine XS.i2l X0.here hx rfl (hb hby at_4) rfl ?_
    show Steps p.tables e below (s₁.setTop (mkF m 5 #[.val (.int p1), .val (.int p2), .val (.int p3), .val (.long (p1.toInt64)), .second, .unset, .unset, .unset, .unset, .unset, .unset, .unset, .unset] [(.long (p2.toInt64))])) _
    refine XS.lstore X0.here hx rfl (hb hby at_5) rfl (l' := #[.val (.int p1), .val (.int p2), .val (.int p3), .val (.long (p1.toInt64)), .second, .val (.long (p2.toInt64)), .second, .unset, .unset, .unset, .unset, .unset, .unset]) rfl ?_
    show Steps p.tables e below (s₁.setTop (mkF m 7 #[.val (.int p1), .val (.int p2), .val (.int p3), .val (.long (p1.toInt64)), .second, .val (.long (p2.toInt64)), .second, .unset, .unset, .unset, .unset, .unset, .unset] [])) _
    refine XS.iloadN X0.here hx rfl (hb hby at_7) rfl ?_
    show Steps p.tables e below (s₁.setTop (mkF m 8 #[.val (.int p1), .val (.int p2), .val (.int p3), .val (.long (p1.toInt64)), .second, .val (.long (p2.toInt64)), .second, .unset, .unset, .unset, .unset, .unset, .unset] [(.int p3)])) _
    refine XS.iconst X0.here hx rfl (hb hby at_8) ?_
    show Steps p.tables e below (s₁.setTop (mkF m 9 #[.val (.int p1), .val (.int p2), .val (.int p3), .val (.long (p1.toInt64)), .second, .val (.long (p2.toInt64)), .second, .unset, .unset, .unset, .unset, .unset, .unset] [(.int (1 : Int32)), (.int p3)])) _
    refine XS.iand X0.here hx rfl (hb hby at_9) rfl ?_
    show Steps p.tables e below (s₁.setTop (mkF m 10 #[.val (.int p1), .val (.int p2), .val (.int p3), .val (.long (p1.toInt64)), .second, .val (.long (p2.toInt64)), .second, .unset, .unset, .unset, .unset, .unset, .unset] [(.int (p3 &&& (1 : Int32)))])) _
    refine XS.ifNo X0.here hx rfl (hb hby at_10) rfl ((if0 _ _).trans (feq hc10).1) ?_
    show Steps p.tables e below (s₁.setTop (mkF m 13 #[.val (.int p1), .val (.int p2), .val (.int p3), .val (.long (p1.toInt64)), .second, .val (.long (p2.toInt64)), .second, .unset, .unset, .unset, .unset, .unset, .unset] [])) _
    refine XS.iconst X0.here hx rfl (hb hby at_13) ?_
    show Steps p.tables e below (s₁.setTop (mkF m 14 #[.val (.int p1), .val (.int p2), .val (.int p3), .val (.long (p1.toInt64)), .second, .val (.long (p2.toInt64)), .second, .unset, .unset, .unset, .unset, .unset, .unset] [(.int (1 : Int32))])) _
    refine XS.goto X0.here hx rfl (pc0 := 14) (pc' := 18) rfl (hb hby at_14) (by decide) (by decide) ?_
    show Steps p.tables e below (s₁.setTop (mkF m 18 #[.val (.int p1), .val (.int p2), .val (.int p3), .val (.long (p1.toInt64)), .second, .val (.long (p2.toInt64)), .second, .unset, .unset, .unset, .unset, .unset, .unset] [(.int (1 : Int32))])) _
    refine XS.istore X0.here hx rfl (hb hby at_18) rfl (l' := #[.val (.int p1), .val (.int p2), .val (.int p3), .val (.long (p1.toInt64)), .second, .val (.long (p2.toInt64)), .second, .val (.int (1 : Int32)), .unset, .unset, .unset, .unset, .unset]) rfl ?_
    show Steps p.tables e below (s₁.setTop (mkF m 20 #[.val (.int p1), .val (.int p2), .val (.int p3), .val (.long (p1.toInt64)), .second, .val (.long (p2.toInt64)), .second, .val (.int (1 : Int32)), .unset, .unset, .unset, .unset, .unset] [])) _
    refine st4 _ ?_
    show Steps p.tables e below (T4.setTop (mkF m 23 #[.val (.int p1), .val (.int p2), .val (.int p3), .val (.long (p1.toInt64)), .second, .val (.long (p2.toInt64)), .second, .val (.int (1 : Int32)), .unset, .unset, .unset, .unset, .unset] [(.ref b4)])) _
    refine XS.dup X4.here hx rfl (hb hby at_23) rfl rfl ?_
    show Steps p.tables e below (T4.setTop (mkF m 24 #[.val (.int p1), .val (.int p2), .val (.int p3), .val (.long (p1.toInt64)), .second, .val (.long (p2.toInt64)), .second, .val (.int (1 : Int32)), .unset, .unset, .unset, .unset, .unset] [(.ref b4), (.ref b4)])) _
    refine st5.trans ?_
    show Steps p.tables e below (T5.setTop (mkF m 27 #[.val (.int p1), .val (.int p2), .val (.int p3), .val (.long (p1.toInt64)), .second, .val (.long (p2.toInt64)), .second, .val (.int (1 : Int32)), .unset, .unset, .unset, .unset, .unset] [(.ref b4)])) _
    refine XS.astore X5.here hx rfl (hb hby at_27) rfl rfl (l' := #[.val (.int p1), .val (.int p2), .val (.int p3), .val (.long (p1.toInt64)), .second, .val (.long (p2.toInt64)), .second, .val (.int (1 : Int32)), .val (.ref b4), .unset, .unset, .unset, .unset]) rfl ?_
    show Steps p.tables e below (T5.setTop (mkF m 29 #[.val (.int p1), .val (.int p2), .val (.int p3), .val (.long (p1.toInt64)), .second, .val (.long (p2.toInt64)), .second, .val (.int (1 : Int32)), .val (.ref b4), .unset, .unset, .unset, .unset] [])) _
    refine XS.iconst X5.here hx rfl (hb hby at_29) ?_
    show Steps p.tables e below (T5.setTop (mkF m 30 #[.val (.int p1), .val (.int p2), .val (.int p3), .val (.long (p1.toInt64)), .second, .val (.long (p2.toInt64)), .second, .val (.int (1 : Int32)), .val (.ref b4), .unset, .unset, .unset, .unset] [(.int (0 : Int32))])) _
    refine XS.istore X5.here hx rfl (hb hby at_30) rfl (l' := #[.val (.int p1), .val (.int p2), .val (.int p3), .val (.long (p1.toInt64)), .second, .val (.long (p2.toInt64)), .second, .val (.int (1 : Int32)), .val (.ref b4), .val (.int (0 : Int32)), .unset, .unset, .unset]) rfl ?_
    show Steps p.tables e below (T5.setTop (mkF m 32 #[.val (.int p1), .val (.int p2), .val (.int p3), .val (.long (p1.toInt64)), .second, .val (.long (p2.toInt64)), .second, .val (.int (1 : Int32)), .val (.ref b4), .val (.int (0 : Int32)), .unset, .unset, .unset] [])) _
    refine XS.iconst X5.here hx rfl (hb hby at_32) ?_
    show Steps p.tables e below (T5.setTop (mkF m 33 #[.val (.int p1), .val (.int p2), .val (.int p3), .val (.long (p1.toInt64)), .second, .val (.long (p2.toInt64)), .second, .val (.int (1 : Int32)), .val (.ref b4), .val (.int (0 : Int32)), .unset, .unset, .unset] [(.int (1 : Int32))])) _
    refine XS.istore X5.here hx rfl (hb hby at_33) rfl (l' := #[.val (.int p1), .val (.int p2), .val (.int p3), .val (.long (p1.toInt64)), .second, .val (.long (p2.toInt64)), .second, .val (.int (1 : Int32)), .val (.ref b4), .val (.int (0 : Int32)), .val (.int (1 : Int32)), .unset, .unset]) rfl ?_
    show Steps p.tables e below (T5.setTop (mkF m 35 #[.val (.int p1), .val (.int p2), .val (.int p3), .val (.long (p1.toInt64)), .second, .val (.long (p2.toInt64)), .second, .val (.int (1 : Int32)), .val (.ref b4), .val (.int (0 : Int32)), .val (.int (1 : Int32)), .unset, .unset] [])) _
    refine XS.iload X5.here hx rfl (hb hby at_35) rfl ?_
    show Steps p.tables e below (T5.setTop (mkF m 37 #[.val (.int p1), .val (.int p2), .val (.int p3), .val (.long (p1.toInt64)), .second, .val (.long (p2.toInt64)), .second, .val (.int (1 : Int32)), .val (.ref b4), .val (.int (0 : Int32)), .val (.int (1 : Int32)), .unset, .unset] [(.int (1 : Int32))])) _
    refine XS.ifNo X5.here hx rfl (hb hby at_37) rfl ((if0 _ _).trans (feq (by decide)).1) ?_
    show Steps p.tables e below (T5.setTop (mkF m 40 #[.val (.int p1), .val (.int p2), .val (.int p3), .val (.long (p1.toInt64)), .second, .val (.long (p2.toInt64)), .second, .val (.int (1 : Int32)), .val (.ref b4), .val (.int (0 : Int32)), .val (.int (1 : Int32)), .unset, .unset] [])) _
    refine XS.aload X5.here hx rfl (hb hby at_40) rfl rfl ?_
    show Steps p.tables e below (T5.setTop (mkF m 42 #[.val (.int p1), .val (.int p2), .val (.int p3), .val (.long (p1.toInt64)), .second, .val (.long (p2.toInt64)), .second, .val (.int (1 : Int32)), .val (.ref b4), .val (.int (0 : Int32)), .val (.int (1 : Int32)), .unset, .unset] [(.ref b4)])) _
    refine XS.iconst X5.here hx rfl (hb hby at_42) ?_
    show Steps p.tables e below (T5.setTop (mkF m 43 #[.val (.int p1), .val (.int p2), .val (.int p3), .val (.long (p1.toInt64)), .second, .val (.long (p2.toInt64)), .second, .val (.int (1 : Int32)), .val (.ref b4), .val (.int (0 : Int32)), .val (.int (1 : Int32)), .unset, .unset] [(.int (0 : Int32)), (.ref b4)])) _
    refine XS.lload X5.here hx rfl (hb hby at_43) rfl ?_
    show Steps p.tables e below (T5.setTop (mkF m 45 #[.val (.int p1), .val (.int p2), .val (.int p3), .val (.long (p1.toInt64)), .second, .val (.long (p2.toInt64)), .second, .val (.int (1 : Int32)), .val (.ref b4), .val (.int (0 : Int32)), .val (.int (1 : Int32)), .unset, .unset] [(.long (p2.toInt64)), (.int (0 : Int32)), (.ref b4)])) _
    refine st6.trans ?_
    show Steps p.tables e below (T6.setTop (mkF m 48 #[.val (.int p1), .val (.int p2), .val (.int p3), .val (.long (p1.toInt64)), .second, .val (.long (p2.toInt64)), .second, .val (.int (1 : Int32)), .val (.ref b4), .val (.int (0 : Int32)), .val (.int (1 : Int32)), .unset, .unset] [])) _
    refine XS.aload X6.here hx rfl (hb hby at_48) rfl rfl ?_
    show Steps p.tables e below (T6.setTop (mkF m 50 #[.val (.int p1), .val (.int p2), .val (.int p3), .val (.long (p1.toInt64)), .second, .val (.long (p2.toInt64)), .second, .val (.int (1 : Int32)), .val (.ref b4), .val (.int (0 : Int32)), .val (.int (1 : Int32)), .unset, .unset] [(.ref b4)])) _
    refine st7.trans ?_
    show Steps p.tables e below (T7.setTop (mkF m 53 #[.val (.int p1), .val (.int p2), .val (.int p3), .val (.long (p1.toInt64)), .second, .val (.long (p2.toInt64)), .second, .val (.int (1 : Int32)), .val (.ref b4), .val (.int (0 : Int32)), .val (.int (1 : Int32)), .unset, .unset] [(.int r0)])) _
    refine XS.istore X7.here hx rfl (hb hby at_53) rfl (l' := #[.val (.int p1), .val (.int p2), .val (.int p3), .val (.long (p1.toInt64)), .second, .val (.long (p2.toInt64)), .second, .val (.int (1 : Int32)), .val (.ref b4), .val (.int (0 : Int32)), .val (.int (1 : Int32)), .val (.int r0), .unset]) rfl ?_
    show Steps p.tables e below (T7.setTop (mkF m 55 #[.val (.int p1), .val (.int p2), .val (.int p3), .val (.long (p1.toInt64)), .second, .val (.long (p2.toInt64)), .second, .val (.int (1 : Int32)), .val (.ref b4), .val (.int (0 : Int32)), .val (.int (1 : Int32)), .val (.int r0), .unset] [])) _
    refine XS.iconst X7.here hx rfl (hb hby at_55) ?_
    show Steps p.tables e below (T7.setTop (mkF m 56 #[.val (.int p1), .val (.int p2), .val (.int p3), .val (.long (p1.toInt64)), .second, .val (.long (p2.toInt64)), .second, .val (.int (1 : Int32)), .val (.ref b4), .val (.int (0 : Int32)), .val (.int (1 : Int32)), .val (.int r0), .unset] [(.int (0 : Int32))])) _
    refine XS.lconst X7.here hx rfl (hb hby at_56) ?_
    show Steps p.tables e below (T7.setTop (mkF m 57 #[.val (.int p1), .val (.int p2), .val (.int p3), .val (.long (p1.toInt64)), .second, .val (.long (p2.toInt64)), .second, .val (.int (1 : Int32)), .val (.ref b4), .val (.int (0 : Int32)), .val (.int (1 : Int32)), .val (.int r0), .unset] [(.long (0 : Int64)), (.int (0 : Int32))])) _
    refine XS.lload X7.here hx rfl (hb hby at_57) rfl ?_
    show Steps p.tables e below (T7.setTop (mkF m 59 #[.val (.int p1), .val (.int p2), .val (.int p3), .val (.long (p1.toInt64)), .second, .val (.long (p2.toInt64)), .second, .val (.int (1 : Int32)), .val (.ref b4), .val (.int (0 : Int32)), .val (.int (1 : Int32)), .val (.int r0), .unset] [(.long (p2.toInt64)), (.long (0 : Int64)), (.int (0 : Int32))])) _
    refine st8 _ ?_
    show Steps p.tables e below (T8.setTop (mkF m 62 #[.val (.int p1), .val (.int p2), .val (.int p3), .val (.long (p1.toInt64)), .second, .val (.long (p2.toInt64)), .second, .val (.int (1 : Int32)), .val (.ref b4), .val (.int (0 : Int32)), .val (.int (1 : Int32)), .val (.int r0), .unset] [(.int r0)])) _
    refine XS.istore X8.here hx rfl (hb hby at_62) rfl (l' := #[.val (.int p1), .val (.int p2), .val (.int p3), .val (.long (p1.toInt64)), .second, .val (.long (p2.toInt64)), .second, .val (.int (1 : Int32)), .val (.ref b4), .val (.int r0), .val (.int (1 : Int32)), .val (.int r0), .unset]) rfl ?_
    show Steps p.tables e below (T8.setTop (mkF m 64 #[.val (.int p1), .val (.int p2), .val (.int p3), .val (.long (p1.toInt64)), .second, .val (.long (p2.toInt64)), .second, .val (.int (1 : Int32)), .val (.ref b4), .val (.int r0), .val (.int (1 : Int32)), .val (.int r0), .unset] [])) _
    refine XS.iload X8.here hx rfl (hb hby at_64) rfl ?_
    show Steps p.tables e below (T8.setTop (mkF m 66 #[.val (.int p1), .val (.int p2), .val (.int p3), .val (.long (p1.toInt64)), .second, .val (.long (p2.toInt64)), .second, .val (.int (1 : Int32)), .val (.ref b4), .val (.int r0), .val (.int (1 : Int32)), .val (.int r0), .unset] [(.int r0)])) _
    refine XS.iload X8.here hx rfl (hb hby at_66) rfl ?_
    show Steps p.tables e below (T8.setTop (mkF m 68 #[.val (.int p1), .val (.int p2), .val (.int p3), .val (.long (p1.toInt64)), .second, .val (.long (p2.toInt64)), .second, .val (.int (1 : Int32)), .val (.ref b4), .val (.int r0), .val (.int (1 : Int32)), .val (.int r0), .unset] [(.int r0), (.int r0)])) _
    refine XS.icmpNo X8.here hx rfl (hb hby at_68) rfl (teq (rfl : r0 = r0)).2 ?_
    show Steps p.tables e below (T8.setTop (mkF m 71 #[.val (.int p1), .val (.int p2), .val (.int p3), .val (.long (p1.toInt64)), .second, .val (.long (p2.toInt64)), .second, .val (.int (1 : Int32)), .val (.ref b4), .val (.int r0), .val (.int (1 : Int32)), .val (.int r0), .unset] [])) _
    refine XS.iconst X8.here hx rfl (hb hby at_71) ?_
    show Steps p.tables e below (T8.setTop (mkF m 72 #[.val (.int p1), .val (.int p2), .val (.int p3), .val (.long (p1.toInt64)), .second, .val (.long (p2.toInt64)), .second, .val (.int (1 : Int32)), .val (.ref b4), .val (.int r0), .val (.int (1 : Int32)), .val (.int r0), .unset] [(.int (1 : Int32))])) _
    refine XS.goto X8.here hx rfl (pc0 := 72) (pc' := 76) rfl (hb hby at_72) (by decide) (by decide) ?_
    show Steps p.tables e below (T8.setTop (mkF m 76 #[.val (.int p1), .val (.int p2), .val (.int p3), .val (.long (p1.toInt64)), .second, .val (.long (p2.toInt64)), .second, .val (.int (1 : Int32)), .val (.ref b4), .val (.int r0), .val (.int (1 : Int32)), .val (.int r0), .unset] [(.int (1 : Int32))])) _
    refine XS.istore X8.here hx rfl (hb hby at_76) rfl (l' := #[.val (.int p1), .val (.int p2), .val (.int p3), .val (.long (p1.toInt64)), .second, .val (.long (p2.toInt64)), .second, .val (.int (1 : Int32)), .val (.ref b4), .val (.int r0), .val (.int (1 : Int32)), .val (.int r0), .unset]) rfl ?_
    show Steps p.tables e below (T8.setTop (mkF m 78 #[.val (.int p1), .val (.int p2), .val (.int p3), .val (.long (p1.toInt64)), .second, .val (.long (p2.toInt64)), .second, .val (.int (1 : Int32)), .val (.ref b4), .val (.int r0), .val (.int (1 : Int32)), .val (.int r0), .unset] [])) _
    refine XS.aload X8.here hx rfl (hb hby at_78) rfl rfl ?_
    show Steps p.tables e below (T8.setTop (mkF m 80 #[.val (.int p1), .val (.int p2), .val (.int p3), .val (.long (p1.toInt64)), .second, .val (.long (p2.toInt64)), .second, .val (.int (1 : Int32)), .val (.ref b4), .val (.int r0), .val (.int (1 : Int32)), .val (.int r0), .unset] [(.ref b4)])) _
    refine XS.iconst X8.here hx rfl (hb hby at_80) ?_
    show Steps p.tables e below (T8.setTop (mkF m 81 #[.val (.int p1), .val (.int p2), .val (.int p3), .val (.long (p1.toInt64)), .second, .val (.long (p2.toInt64)), .second, .val (.int (1 : Int32)), .val (.ref b4), .val (.int r0), .val (.int (1 : Int32)), .val (.int r0), .unset] [(.int (1 : Int32)), (.ref b4)])) _
    refine XS.lloadN X8.here hx rfl (hb hby at_81) rfl ?_
    show Steps p.tables e below (T8.setTop (mkF m 82 #[.val (.int p1), .val (.int p2), .val (.int p3), .val (.long (p1.toInt64)), .second, .val (.long (p2.toInt64)), .second, .val (.int (1 : Int32)), .val (.ref b4), .val (.int r0), .val (.int (1 : Int32)), .val (.int r0), .unset] [(.long (p1.toInt64)), (.int (1 : Int32)), (.ref b4)])) _
    refine st9.trans ?_
    show Steps p.tables e below (T9.setTop (mkF m 85 #[.val (.int p1), .val (.int p2), .val (.int p3), .val (.long (p1.toInt64)), .second, .val (.long (p2.toInt64)), .second, .val (.int (1 : Int32)), .val (.ref b4), .val (.int r0), .val (.int (1 : Int32)), .val (.int r0), .unset] [])) _
    refine XS.goto X9.here hx rfl (pc0 := 85) (pc' := 103) rfl (hb hby at_85) (by decide) (by decide) ?_
    show Steps p.tables e below (T9.setTop (mkF m 103 #[.val (.int p1), .val (.int p2), .val (.int p3), .val (.long (p1.toInt64)), .second, .val (.long (p2.toInt64)), .second, .val (.int (1 : Int32)), .val (.ref b4), .val (.int r0), .val (.int (1 : Int32)), .val (.int r0), .unset] [])) _
    refine XS.aload X9.here hx rfl (hb hby at_103) rfl rfl ?_
    show Steps p.tables e below (T9.setTop (mkF m 105 #[.val (.int p1), .val (.int p2), .val (.int p3), .val (.long (p1.toInt64)), .second, .val (.long (p2.toInt64)), .second, .val (.int (1 : Int32)), .val (.ref b4), .val (.int r0), .val (.int (1 : Int32)), .val (.int r0), .unset] [(.ref b4)])) _
    refine st10.trans ?_
    show Steps p.tables e below (T10.setTop (mkF m 108 #[.val (.int p1), .val (.int p2), .val (.int p3), .val (.long (p1.toInt64)), .second, .val (.long (p2.toInt64)), .second, .val (.int (1 : Int32)), .val (.ref b4), .val (.int r0), .val (.int (1 : Int32)), .val (.int r0), .unset] [(.int r1)])) _
    refine XS.istore X10.here hx rfl (hb hby at_108) rfl (l' := #[.val (.int p1), .val (.int p2), .val (.int p3), .val (.long (p1.toInt64)), .second, .val (.long (p2.toInt64)), .second, .val (.int (1 : Int32)), .val (.ref b4), .val (.int r0), .val (.int (1 : Int32)), .val (.int r1), .unset]) rfl ?_
    show Steps p.tables e below (T10.setTop (mkF m 110 #[.val (.int p1), .val (.int p2), .val (.int p3), .val (.long (p1.toInt64)), .second, .val (.long (p2.toInt64)), .second, .val (.int (1 : Int32)), .val (.ref b4), .val (.int r0), .val (.int (1 : Int32)), .val (.int r1), .unset] [])) _
    refine XS.iload X10.here hx rfl (hb hby at_110) rfl ?_
    show Steps p.tables e below (T10.setTop (mkF m 112 #[.val (.int p1), .val (.int p2), .val (.int p3), .val (.long (p1.toInt64)), .second, .val (.long (p2.toInt64)), .second, .val (.int (1 : Int32)), .val (.ref b4), .val (.int r0), .val (.int (1 : Int32)), .val (.int r1), .unset] [(.int r0)])) _
    refine XS.lloadN X10.here hx rfl (hb hby at_112) rfl ?_
    show Steps p.tables e below (T10.setTop (mkF m 113 #[.val (.int p1), .val (.int p2), .val (.int p3), .val (.long (p1.toInt64)), .second, .val (.long (p2.toInt64)), .second, .val (.int (1 : Int32)), .val (.ref b4), .val (.int r0), .val (.int (1 : Int32)), .val (.int r1), .unset] [(.long (p1.toInt64)), (.int r0)])) _
    refine XS.lload X10.here hx rfl (hb hby at_113) rfl ?_
    show Steps p.tables e below (T10.setTop (mkF m 115 #[.val (.int p1), .val (.int p2), .val (.int p3), .val (.long (p1.toInt64)), .second, .val (.long (p2.toInt64)), .second, .val (.int (1 : Int32)), .val (.ref b4), .val (.int r0), .val (.int (1 : Int32)), .val (.int r1), .unset] [(.long (p2.toInt64)), (.long (p1.toInt64)), (.int r0)])) _
    refine st11 _ ?_
    show Steps p.tables e below (T11.setTop (mkF m 118 #[.val (.int p1), .val (.int p2), .val (.int p3), .val (.long (p1.toInt64)), .second, .val (.long (p2.toInt64)), .second, .val (.int (1 : Int32)), .val (.ref b4), .val (.int r0), .val (.int (1 : Int32)), .val (.int r1), .unset] [(.int r1)])) _
    refine XS.istore X11.here hx rfl (hb hby at_118) rfl (l' := #[.val (.int p1), .val (.int p2), .val (.int p3), .val (.long (p1.toInt64)), .second, .val (.long (p2.toInt64)), .second, .val (.int (1 : Int32)), .val (.ref b4), .val (.int r1), .val (.int (1 : Int32)), .val (.int r1), .unset]) rfl ?_
    show Steps p.tables e below (T11.setTop (mkF m 120 #[.val (.int p1), .val (.int p2), .val (.int p3), .val (.long (p1.toInt64)), .second, .val (.long (p2.toInt64)), .second, .val (.int (1 : Int32)), .val (.ref b4), .val (.int r1), .val (.int (1 : Int32)), .val (.int r1), .unset] [])) _
    refine XS.iload X11.here hx rfl (hb hby at_120) rfl ?_
    show Steps p.tables e below (T11.setTop (mkF m 122 #[.val (.int p1), .val (.int p2), .val (.int p3), .val (.long (p1.toInt64)), .second, .val (.long (p2.toInt64)), .second, .val (.int (1 : Int32)), .val (.ref b4), .val (.int r1), .val (.int (1 : Int32)), .val (.int r1), .unset] [(.int (1 : Int32))])) _
    refine XS.ifNo X11.here hx rfl (hb hby at_122) rfl ((if0 _ _).trans (feq (by decide)).1) ?_
    show Steps p.tables e below (T11.setTop (mkF m 125 #[.val (.int p1), .val (.int p2), .val (.int p3), .val (.long (p1.toInt64)), .second, .val (.long (p2.toInt64)), .second, .val (.int (1 : Int32)), .val (.ref b4), .val (.int r1), .val (.int (1 : Int32)), .val (.int r1), .unset] [])) _
    refine XS.iload X11.here hx rfl (hb hby at_125) rfl ?_
    show Steps p.tables e below (T11.setTop (mkF m 127 #[.val (.int p1), .val (.int p2), .val (.int p3), .val (.long (p1.toInt64)), .second, .val (.long (p2.toInt64)), .second, .val (.int (1 : Int32)), .val (.ref b4), .val (.int r1), .val (.int (1 : Int32)), .val (.int r1), .unset] [(.int r1)])) _
    refine XS.iload X11.here hx rfl (hb hby at_127) rfl ?_
    show Steps p.tables e below (T11.setTop (mkF m 129 #[.val (.int p1), .val (.int p2), .val (.int p3), .val (.long (p1.toInt64)), .second, .val (.long (p2.toInt64)), .second, .val (.int (1 : Int32)), .val (.ref b4), .val (.int r1), .val (.int (1 : Int32)), .val (.int r1), .unset] [(.int r1), (.int r1)])) _
    refine XS.icmpNo X11.here hx rfl (hb hby at_129) rfl (teq (rfl : r1 = r1)).2 ?_
    show Steps p.tables e below (T11.setTop (mkF m 132 #[.val (.int p1), .val (.int p2), .val (.int p3), .val (.long (p1.toInt64)), .second, .val (.long (p2.toInt64)), .second, .val (.int (1 : Int32)), .val (.ref b4), .val (.int r1), .val (.int (1 : Int32)), .val (.int r1), .unset] [])) _
    refine XS.iconst X11.here hx rfl (hb hby at_132) ?_
    show Steps p.tables e below (T11.setTop (mkF m 133 #[.val (.int p1), .val (.int p2), .val (.int p3), .val (.long (p1.toInt64)), .second, .val (.long (p2.toInt64)), .second, .val (.int (1 : Int32)), .val (.ref b4), .val (.int r1), .val (.int (1 : Int32)), .val (.int r1), .unset] [(.int (1 : Int32))])) _
    refine XS.goto X11.here hx rfl (pc0 := 133) (pc' := 137) rfl (hb hby at_133) (by decide) (by decide) ?_
    show Steps p.tables e below (T11.setTop (mkF m 137 #[.val (.int p1), .val (.int p2), .val (.int p3), .val (.long (p1.toInt64)), .second, .val (.long (p2.toInt64)), .second, .val (.int (1 : Int32)), .val (.ref b4), .val (.int r1), .val (.int (1 : Int32)), .val (.int r1), .unset] [(.int (1 : Int32))])) _
    refine XS.istore X11.here hx rfl (hb hby at_137) rfl (l' := #[.val (.int p1), .val (.int p2), .val (.int p3), .val (.long (p1.toInt64)), .second, .val (.long (p2.toInt64)), .second, .val (.int (1 : Int32)), .val (.ref b4), .val (.int r1), .val (.int (1 : Int32)), .val (.int r1), .unset]) rfl ?_
    show Steps p.tables e below (T11.setTop (mkF m 139 #[.val (.int p1), .val (.int p2), .val (.int p3), .val (.long (p1.toInt64)), .second, .val (.long (p2.toInt64)), .second, .val (.int (1 : Int32)), .val (.ref b4), .val (.int r1), .val (.int (1 : Int32)), .val (.int r1), .unset] [])) _
    refine XS.aload X11.here hx rfl (hb hby at_139) rfl rfl ?_
    show Steps p.tables e below (T11.setTop (mkF m 141 #[.val (.int p1), .val (.int p2), .val (.int p3), .val (.long (p1.toInt64)), .second, .val (.long (p2.toInt64)), .second, .val (.int (1 : Int32)), .val (.ref b4), .val (.int r1), .val (.int (1 : Int32)), .val (.int r1), .unset] [(.ref b4)])) _
    refine st12.trans ?_
    show Steps p.tables e below (T12.setTop (mkF m 144 #[.val (.int p1), .val (.int p2), .val (.int p3), .val (.long (p1.toInt64)), .second, .val (.long (p2.toInt64)), .second, .val (.int (1 : Int32)), .val (.ref b4), .val (.int r1), .val (.int (1 : Int32)), .val (.int r1), .unset] [(.int r2)])) _
    refine XS.istore X12.here hx rfl (hb hby at_144) rfl (l' := #[.val (.int p1), .val (.int p2), .val (.int p3), .val (.long (p1.toInt64)), .second, .val (.long (p2.toInt64)), .second, .val (.int (1 : Int32)), .val (.ref b4), .val (.int r1), .val (.int (1 : Int32)), .val (.int r1), .val (.int r2)]) rfl ?_
    show Steps p.tables e below (T12.setTop (mkF m 146 #[.val (.int p1), .val (.int p2), .val (.int p3), .val (.long (p1.toInt64)), .second, .val (.long (p2.toInt64)), .second, .val (.int (1 : Int32)), .val (.ref b4), .val (.int r1), .val (.int (1 : Int32)), .val (.int r1), .val (.int r2)] [])) _
    refine XS.iload X12.here hx rfl (hb hby at_146) rfl ?_
    show Steps p.tables e below (T12.setTop (mkF m 148 #[.val (.int p1), .val (.int p2), .val (.int p3), .val (.long (p1.toInt64)), .second, .val (.long (p2.toInt64)), .second, .val (.int (1 : Int32)), .val (.ref b4), .val (.int r1), .val (.int (1 : Int32)), .val (.int r1), .val (.int r2)] [(.int r1)])) _
    refine XS.lloadN X12.here hx rfl (hb hby at_148) rfl ?_
    show Steps p.tables e below (T12.setTop (mkF m 149 #[.val (.int p1), .val (.int p2), .val (.int p3), .val (.long (p1.toInt64)), .second, .val (.long (p2.toInt64)), .second, .val (.int (1 : Int32)), .val (.ref b4), .val (.int r1), .val (.int (1 : Int32)), .val (.int r1), .val (.int r2)] [(.long (p1.toInt64)), (.int r1)])) _
    refine XS.lload X12.here hx rfl (hb hby at_149) rfl ?_
    show Steps p.tables e below (T12.setTop (mkF m 151 #[.val (.int p1), .val (.int p2), .val (.int p3), .val (.long (p1.toInt64)), .second, .val (.long (p2.toInt64)), .second, .val (.int (1 : Int32)), .val (.ref b4), .val (.int r1), .val (.int (1 : Int32)), .val (.int r1), .val (.int r2)] [(.long (p2.toInt64)), (.long (p1.toInt64)), (.int r1)])) _
    refine st13 _ ?_
    show Steps p.tables e below (T13.setTop (mkF m 154 #[.val (.int p1), .val (.int p2), .val (.int p3), .val (.long (p1.toInt64)), .second, .val (.long (p2.toInt64)), .second, .val (.int (1 : Int32)), .val (.ref b4), .val (.int r1), .val (.int (1 : Int32)), .val (.int r1), .val (.int r2)] [(.int r2)])) _
    refine XS.istore X13.here hx rfl (hb hby at_154) rfl (l' := #[.val (.int p1), .val (.int p2), .val (.int p3), .val (.long (p1.toInt64)), .second, .val (.long (p2.toInt64)), .second, .val (.int (1 : Int32)), .val (.ref b4), .val (.int r2), .val (.int (1 : Int32)), .val (.int r1), .val (.int r2)]) rfl ?_
    show Steps p.tables e below (T13.setTop (mkF m 156 #[.val (.int p1), .val (.int p2), .val (.int p3), .val (.long (p1.toInt64)), .second, .val (.long (p2.toInt64)), .second, .val (.int (1 : Int32)), .val (.ref b4), .val (.int r2), .val (.int (1 : Int32)), .val (.int r1), .val (.int r2)] [])) _
    refine XS.iload X13.here hx rfl (hb hby at_156) rfl ?_
    show Steps p.tables e below (T13.setTop (mkF m 158 #[.val (.int p1), .val (.int p2), .val (.int p3), .val (.long (p1.toInt64)), .second, .val (.long (p2.toInt64)), .second, .val (.int (1 : Int32)), .val (.ref b4), .val (.int r2), .val (.int (1 : Int32)), .val (.int r1), .val (.int r2)] [(.int (1 : Int32))])) _
    refine XS.ifNo X13.here hx rfl (hb hby at_158) rfl ((if0 _ _).trans (feq (by decide)).1) ?_
    show Steps p.tables e below (T13.setTop (mkF m 161 #[.val (.int p1), .val (.int p2), .val (.int p3), .val (.long (p1.toInt64)), .second, .val (.long (p2.toInt64)), .second, .val (.int (1 : Int32)), .val (.ref b4), .val (.int r2), .val (.int (1 : Int32)), .val (.int r1), .val (.int r2)] [])) _
    refine XS.iload X13.here hx rfl (hb hby at_161) rfl ?_
    show Steps p.tables e below (T13.setTop (mkF m 163 #[.val (.int p1), .val (.int p2), .val (.int p3), .val (.long (p1.toInt64)), .second, .val (.long (p2.toInt64)), .second, .val (.int (1 : Int32)), .val (.ref b4), .val (.int r2), .val (.int (1 : Int32)), .val (.int r1), .val (.int r2)] [(.int r2)])) _
    refine XS.iload X13.here hx rfl (hb hby at_163) rfl ?_
    show Steps p.tables e below (T13.setTop (mkF m 165 #[.val (.int p1), .val (.int p2), .val (.int p3), .val (.long (p1.toInt64)), .second, .val (.long (p2.toInt64)), .second, .val (.int (1 : Int32)), .val (.ref b4), .val (.int r2), .val (.int (1 : Int32)), .val (.int r1), .val (.int r2)] [(.int r2), (.int r2)])) _
    refine XS.icmpNo X13.here hx rfl (hb hby at_165) rfl (teq (rfl : r2 = r2)).2 ?_
    show Steps p.tables e below (T13.setTop (mkF m 168 #[.val (.int p1), .val (.int p2), .val (.int p3), .val (.long (p1.toInt64)), .second, .val (.long (p2.toInt64)), .second, .val (.int (1 : Int32)), .val (.ref b4), .val (.int r2), .val (.int (1 : Int32)), .val (.int r1), .val (.int r2)] [])) _
    refine XS.iconst X13.here hx rfl (hb hby at_168) ?_
    show Steps p.tables e below (T13.setTop (mkF m 169 #[.val (.int p1), .val (.int p2), .val (.int p3), .val (.long (p1.toInt64)), .second, .val (.long (p2.toInt64)), .second, .val (.int (1 : Int32)), .val (.ref b4), .val (.int r2), .val (.int (1 : Int32)), .val (.int r1), .val (.int r2)] [(.int (1 : Int32))])) _
    refine XS.goto X13.here hx rfl (pc0 := 169) (pc' := 173) rfl (hb hby at_169) (by decide) (by decide) ?_
    show Steps p.tables e below (T13.setTop (mkF m 173 #[.val (.int p1), .val (.int p2), .val (.int p3), .val (.long (p1.toInt64)), .second, .val (.long (p2.toInt64)), .second, .val (.int (1 : Int32)), .val (.ref b4), .val (.int r2), .val (.int (1 : Int32)), .val (.int r1), .val (.int r2)] [(.int (1 : Int32))])) _
    refine XS.istore X13.here hx rfl (hb hby at_173) rfl (l' := #[.val (.int p1), .val (.int p2), .val (.int p3), .val (.long (p1.toInt64)), .second, .val (.long (p2.toInt64)), .second, .val (.int (1 : Int32)), .val (.ref b4), .val (.int r2), .val (.int (1 : Int32)), .val (.int r1), .val (.int r2)]) rfl ?_
    show Steps p.tables e below (T13.setTop (mkF m 175 #[.val (.int p1), .val (.int p2), .val (.int p3), .val (.long (p1.toInt64)), .second, .val (.long (p2.toInt64)), .second, .val (.int (1 : Int32)), .val (.ref b4), .val (.int r2), .val (.int (1 : Int32)), .val (.int r1), .val (.int r2)] [])) _
    refine XS.iload X13.here hx rfl (hb hby at_175) rfl ?_
    show Steps p.tables e below (T13.setTop (mkF m 177 #[.val (.int p1), .val (.int p2), .val (.int p3), .val (.long (p1.toInt64)), .second, .val (.long (p2.toInt64)), .second, .val (.int (1 : Int32)), .val (.ref b4), .val (.int r2), .val (.int (1 : Int32)), .val (.int r1), .val (.int r2)] [(.int (1 : Int32))])) _
    exact retN X13 hx (t := .boolean) Bd.returns (by simp) (hb hby at_177) hr
  · show Q0y Z p1 p2 p3 _ n0 _ T13.heap _
    exact ⟨rfl, N13⟩
set_option maxRecDepth 65536 in
set_option maxHeartbeats 40000000 in
theorem comes_1 {Post : Tables → Env → Array Value → State → Outcome → State → Prop} (hpost : ∀ tb e args s v u, (limb_1_1.after args s (.returned v) u = true ∧ limb_1_2.after args s (.returned v) u = true ∧ True) → FrameEnd s (.returned v) u (Jvm.fieldLocs frame_1_writes args s ++ Jvm.arrayLocs frame_1_arrays args s ++ Jvm.staticLocs frame_1_statics s) 16 128 → Post tb e args s (.returned v) u) :
    ArmFor flags0 classFile x code maxLocals ret World_1 tables_1 room_1 Calls_1 rest_1 Pre_1 Post := by
  intro l hfl _ _ p e ha hc hk s m args below hf hA hF happ hP
  obtain ⟨hcalls, hrest, hpre⟩ := hP
  obtain ⟨-, -, -, hnamed, -, -, -, hat⟩ := (Spec.applies_iff hf).mp happ
  obtain ⟨hg, hn⟩ := and_e (Cond.before_iff.mp (show (Jvm.Cond.and given_1 narrow_1).before args s = true from hpre))
  obtain ⟨g12, g13⟩ := and_e hg
  obtain ⟨g14, g15⟩ := and_e g13
  obtain ⟨g16, g17⟩ := and_e g15
  obtain ⟨w0, w1, w2, rfl⟩ : ∃ w0 w1 w2 : Value, args = #[w0, w1, w2] := by
    have hs : args.size = 3 := by simpa [Cond.value, given_1] using g12
    obtain ⟨L⟩ := args
    match L, hs with
    | [w0, w1, w2], _ => exact ⟨w0, w1, w2, rfl⟩
  have hw := fun d (hd : d ∈ tables_1) => atoms_spec (ws := Jvm.Cond.code x code maxLocals ret :: tables_1) hat d (List.mem_cons_of_mem _ hd)
  have hfit : Fit s := fun {y c} hc i hi => by
    obtain ⟨ha, rfl⟩ := Array.getElem?_eq_some_iff.mp hc
    have q := List.all_eq_true.mp ((Array.all_eq_true_iff_forall_mem.mp hF) _ (Array.getElem_mem ha)) i (List.mem_range.mpr hi)
    simpa [Array.getElem?_eq_getElem hi] using q
  obtain ⟨i0, ei0⟩ := is_v g14
  obtain rfl : w0 = (.int i0) := Option.some.inj ei0
  obtain ⟨i1, ei1⟩ := is_v g16
  obtain rfl : w1 = (.int i1) := Option.some.inj ei1
  obtain ⟨i2, ei2⟩ := is_v g17
  obtain rfl : w2 = (.int i2) := Option.some.inj ei2
  have ev := own_init hn
  have S := Sta.start ev (Or.inr ⟨(hw _ (List.mem_of_getElem? (i := 2) rfl)), (hw _ (List.mem_of_getElem? (i := 27) rfl))⟩)
  by_cases c0 : (i2 &&& (1 : Int32)) = (0 : Int32)
  ·
    obtain ⟨n, o, h1, h2, h3, _, L, rfl, ⟨rfl, N⟩, hq⟩ := rm0n l s _ hw tables_1 i0 i1 i2 s.heap s.heap.size (Nat.le_refl _) c0 _ _ S (nx_step 0 i0 i1 (Or.inl rfl)) (nx_nx _ _ _) (nx_step _ i0 i1 (nx_bit _ _ _)) (nx_nx _ _ _) p e ha hc hk s m _ below hf ((Spec.applies_iff_loose hf).mp happ).1 ⟨rfl, State.Warmed39.refl s, rfl⟩ trivial
    exact ⟨n, _, h1, h2, h3, hpost _ _ _ _ _ _ ⟨Cond.after_iff.mpr rfl, Cond.after_iff.mpr (eq_i res_at (Term.int_eval (1)) rfl), trivial⟩ ⟨hq.1, hq.2.1, (hq.2.2.sift fun y hy => Or.inr (N y hy)).mono (by decide) (by decide)⟩⟩
  obtain ⟨n, o, h1, h2, h3, _, L, rfl, ⟨rfl, N⟩, hq⟩ := rm0y l s _ hw tables_1 i0 i1 i2 s.heap s.heap.size (Nat.le_refl _) c0 _ _ _ S (nx_step 0 0 i1 (Or.inl rfl)) (nx_nx _ _ _) (nx_step _ i0 i1 (nx_bit _ _ _)) (nx_nx _ _ _) (nx_step _ i0 i1 (nx_bit _ _ _)) (nx_nx _ _ _) p e ha hc hk s m _ below hf ((Spec.applies_iff_loose hf).mp happ).1 ⟨rfl, State.Warmed39.refl s, rfl⟩ trivial
  exact ⟨n, _, h1, h2, h3, hpost _ _ _ _ _ _ ⟨Cond.after_iff.mpr rfl, Cond.after_iff.mpr (eq_i res_at (Term.int_eval (1)) rfl), trivial⟩ ⟨hq.1, hq.2.1, (hq.2.2.sift fun y hy => Or.inr (N y hy)).mono (by decide) (by decide)⟩⟩
theorem main_1_1 : Claimed_1_1 := comes_1 fun _ _ _ _ _ _ h hF => ⟨h.1, hF⟩
theorem main_1_2 : Claimed_1_2 := comes_1 fun _ _ _ _ _ _ h hF => ⟨h.2.1, hF⟩
end Jvm.Pilot.@@N@@
namespace Jvm.Pilot.@@N@@
open Jvm Jvm.ClassFile Sem Op Lib Jvm.Free Jvm.Stand Jvm.Pilot.@@N@@.Jvm.D
/-! MADE BY PROGRAM (witnessworld.py) out of the Statement's table words and the real class files: 9 classes; the members and pool entries that the words name. The judged class is class 1, her method 2. -/
namespace start1
open Jvm.ClassFile
def u (s : String) : CpInfo := .utf8 (stringToUtf16 s)
/-- a pool by its gaps: so many unusable entries, then the entry; so many at the end -/
def gap : Nat → List CpInfo → List CpInfo
  | 0, r => r
  | n + 1, r => .unusable :: gap n r
def poolList (es : List (Nat × CpInfo)) (last : Nat) : List CpInfo := es.foldr (fun e r => gap e.1 (e.2 :: r)) (gap last [])
def pool (es : List (Nat × CpInfo)) (last : Nat) : Array CpInfo := ⟨poolList es last⟩
def fileOf (pool : Array CpInfo) (this : Nat) (attrs : Array Attribute := #[]) (ms : Array MethodInfo := #[]) (fl : Nat := 33) (sup : Nat := 0) (ifs : Array Nat := #[]) (fds : Array FieldInfo := #[]) : ClassFile where
  minorVersion := 0
  majorVersion := 65
  constantPool := pool
  accessFlags := fl
  thisClass := this
  superClass := sup
  interfaces := ifs
  fields := fds
  methods := ms
  attributes := attrs
def plain (name : String) (sup : Option ClassId) : Class where
  name := name
  kind := .ordinary
  loader := none
  accessFlags := 33
  super := sup
  interfaces := #[]
  cf := none
  fields := #[]
  methods := #[]
  instanceTypes := #[]
  staticTypes := #[]
  resolved := #[]
  callSites := []
  init := .initialized
  statics := none
  mirror := none

def pool0 : Array CpInfo := pool [(5, u "<init>"), (0, u "()V"), (1, .class_ 10), (1, u "java/lang/Object")] 113

def k0c0 : Code := { maxStack := 0, maxLocals := 1, code := object_method_1_code, exceptionTable := #[], attributes := #[] }
def k0m0 : Method := { name := "<init>", desc := "()V", sig := { parameters := [], returnType := none }, accessFlags := 1, code := some k0c0 }
/-- java/lang/Object -/
def k0 : Class := { plain "java/lang/Object" none with
  accessFlags := 33
  interfaces := #[]
  cf := some (fileOf pool0 8 #[] #[{ accessFlags := 1, nameIndex := 5, descriptorIndex := 6, attributes := #[] }] 33 0 #[] #[])
  fields := #[]
  methods := #[k0m0]
  instanceTypes := #[]
  staticTypes := #[]
  resolved := Array.replicate 124 none
  statics := none }

def pool1 : Array CpInfo := pool [(2, .class_ 4), (0, .nameAndType 5 6), (0, u "java/lang/Object"), (0, u "<init>"), (0, u "()V"), (0, .long 100000), (1, .long 8), (1, .long 7), (1, .class_ 14), (0, u "com/example/leasehold/leasehold/link/ReplyWaits"), (0, .methodref 13 3), (0, .methodref 13 17), (0, .nameAndType 18 19), (0, u "took"), (0, u "(ZJ)V"), (0, .methodref 13 21), (0, .nameAndType 22 23), (0, u "spinsNext"), (0, u "()Z"), (0, .methodref 25 26), (0, .class_ 27), (0, .nameAndType 28 29), (0, u "com/example/leasehold/leasehold/link/ReplyWaitsSpinsNextPinLaw"), (0, u "next"), (0, u "(ZJJ)Z"), (3, u "law"), (0, u "(III)Z")] 2

def k1m0 : Method := { name := "<init>", desc := "()V", sig := { parameters := [], returnType := none }, accessFlags := 1, code := none }
def k1c1 : Code := { maxStack := 6, maxLocals := 5, code := method_2_code, exceptionTable := #[], attributes := #[] }
def k1m1 : Method := { name := "next", desc := "(ZJJ)Z", sig := { parameters := [.boolean, .long, .long], returnType := some .boolean }, accessFlags := 10, code := some k1c1 }
def k1c2 : Code := { maxStack := 5, maxLocals := 13, code := code, exceptionTable := #[], attributes := #[] }
def k1m2 : Method := { name := "law", desc := "(III)Z", sig := { parameters := [.int, .int, .int], returnType := some .boolean }, accessFlags := 9, code := some k1c2 }
/-- com/example/leasehold/leasehold/link/ReplyWaitsSpinsNextPinLaw -/
def k1 : Class := { plain "com/example/leasehold/leasehold/link/ReplyWaitsSpinsNextPinLaw" (some 0) with
  accessFlags := 49
  interfaces := #[]
  cf := some (fileOf pool1 25 #[] #[{ accessFlags := 1, nameIndex := 5, descriptorIndex := 6, attributes := #[] }, { accessFlags := 10, nameIndex := 28, descriptorIndex := 29, attributes := #[] }, { accessFlags := 9, nameIndex := 33, descriptorIndex := 34, attributes := #[] }] 49 2 #[] #[])
  fields := #[]
  methods := #[k1m0, k1m1, k1m2]
  instanceTypes := #[]
  staticTypes := #[]
  resolved := Array.replicate 37 none
  statics := none }

def pool2 : Array CpInfo := pool [(1, .methodref 2 3), (0, .class_ 4), (0, .nameAndType 5 6), (0, u "java/lang/Object"), (0, u "<init>"), (0, u "()V"), (0, .fieldref 8 9), (0, .class_ 10), (0, .nameAndType 11 12), (0, u "com/example/leasehold/leasehold/link/ReplyWaits"), (0, u "blockedNanos"), (0, u "J"), (0, .fieldref 8 14), (0, .nameAndType 15 12), (0, u "SPIN_NANOS"), (0, .fieldref 8 17), (0, .nameAndType 18 19), (0, u "spinning"), (0, u "Z"), (0, .fieldref 8 21), (0, .nameAndType 22 12), (0, u "spunNanos"), (0, .fieldref 8 24), (0, .nameAndType 25 26), (0, u "sinceOther"), (0, u "I"), (0, .methodref 8 28), (0, .nameAndType 29 30), (0, u "average"), (0, u "(JJ)J"), (0, .long 2), (18, u "TRY_OTHER_EVERY"), (2, u "EIGHTH"), (3, u "spinsNext"), (0, u "()Z"), (1, u "took"), (0, u "(ZJ)V")] 3

def k2c0 : Code := { maxStack := 1, maxLocals := 1, code := prog_48_method_1_code, exceptionTable := #[], attributes := #[] }
def k2m0 : Method := { name := "<init>", desc := "()V", sig := { parameters := [], returnType := none }, accessFlags := 0, code := some k2c0 }
def k2c1 : Code := { maxStack := 7, maxLocals := 2, code := prog_48_method_2_code, exceptionTable := #[], attributes := #[] }
def k2m1 : Method := { name := "spinsNext", desc := "()Z", sig := { parameters := [], returnType := some .boolean }, accessFlags := 0, code := some k2c1 }
def k2c2 : Code := { maxStack := 5, maxLocals := 4, code := prog_48_method_3_code, exceptionTable := #[], attributes := #[] }
def k2m2 : Method := { name := "took", desc := "(ZJ)V", sig := { parameters := [.boolean, .long], returnType := none }, accessFlags := 0, code := some k2c2 }
def k2c3 : Code := { maxStack := 6, maxLocals := 6, code := prog_48_method_4_code, exceptionTable := #[], attributes := #[] }
def k2m3 : Method := { name := "average", desc := "(JJ)J", sig := { parameters := [.long, .long], returnType := some .long }, accessFlags := 10, code := some k2c3 }
/-- com/example/leasehold/leasehold/link/ReplyWaits -/
def k2 : Class := { plain "com/example/leasehold/leasehold/link/ReplyWaits" (some 0) with
  accessFlags := 48
  interfaces := #[]
  cf := some (fileOf pool2 8 #[] #[{ accessFlags := 0, nameIndex := 5, descriptorIndex := 6, attributes := #[] }, { accessFlags := 0, nameIndex := 57, descriptorIndex := 58, attributes := #[] }, { accessFlags := 0, nameIndex := 60, descriptorIndex := 61, attributes := #[] }, { accessFlags := 10, nameIndex := 29, descriptorIndex := 30, attributes := #[] }] 48 2 #[] #[{ accessFlags := 24, nameIndex := 15, descriptorIndex := 12, attributes := #[] }, { accessFlags := 24, nameIndex := 50, descriptorIndex := 26, attributes := #[] }, { accessFlags := 26, nameIndex := 53, descriptorIndex := 26, attributes := #[] }, { accessFlags := 2, nameIndex := 22, descriptorIndex := 12, attributes := #[] }, { accessFlags := 2, nameIndex := 11, descriptorIndex := 12, attributes := #[] }, { accessFlags := 2, nameIndex := 18, descriptorIndex := 19, attributes := #[] }, { accessFlags := 2, nameIndex := 25, descriptorIndex := 26, attributes := #[] }])
  fields := #[{ name := "SPIN_NANOS", type := .long, accessFlags := 24, slot := 0, constantValue := 0 }, { name := "TRY_OTHER_EVERY", type := .int, accessFlags := 24, slot := 1, constantValue := 0 }, { name := "EIGHTH", type := .int, accessFlags := 26, slot := 2, constantValue := 0 }, { name := "spunNanos", type := .long, accessFlags := 2, slot := 0, constantValue := 0 }, { name := "blockedNanos", type := .long, accessFlags := 2, slot := 1, constantValue := 0 }, { name := "spinning", type := .boolean, accessFlags := 2, slot := 2, constantValue := 0 }, { name := "sinceOther", type := .int, accessFlags := 2, slot := 3, constantValue := 0 }]
  methods := #[k2m0, k2m1, k2m2, k2m3]
  instanceTypes := #[.long, .long, .boolean, .int]
  staticTypes := #[.long, .int, .int]
  resolved := Array.replicate 65 none
  statics := some 0 }

def pool3 : Array CpInfo := pool [(1, u "java/lang/Cloneable"), (0, .class_ 1), (0, u "java/lang/Object"), (0, .class_ 3)] 3

/-- java/lang/Cloneable -/
def k3 : Class := { plain "java/lang/Cloneable" (some 0) with
  accessFlags := 1537
  interfaces := #[]
  cf := some (fileOf pool3 2 #[] #[] 1537 4 #[] #[])
  fields := #[]
  methods := #[]
  instanceTypes := #[]
  staticTypes := #[]
  resolved := Array.replicate 8 none
  statics := none }

def pool4 : Array CpInfo := pool [(1, u "java/io/Serializable"), (0, .class_ 1), (0, u "java/lang/Object"), (0, .class_ 3)] 3

/-- java/io/Serializable -/
def k4 : Class := { plain "java/io/Serializable" (some 0) with
  accessFlags := 1537
  interfaces := #[]
  cf := some (fileOf pool4 2 #[] #[] 1537 4 #[] #[])
  fields := #[]
  methods := #[]
  instanceTypes := #[]
  staticTypes := #[]
  resolved := Array.replicate 8 none
  statics := none }

/-- the primitive byte -/
def k5 : Class := { plain "byte" none with kind := .primitive 'B', accessFlags := 0x411 }
/-- [B -/
def k6 : Class := { plain "[B" (some 0) with kind := .array 5 .byte, interfaces := #[3, 4], accessFlags := 1041 }

/-- the primitive int -/
def k7 : Class := { plain "int" none with kind := .primitive 'I', accessFlags := 0x411 }
/-- [I -/
def k8 : Class := { plain "[I" (some 0) with kind := .array 7 .int, interfaces := #[3, 4], accessFlags := 1041 }

def heap : Heap := #[{ cls := 2, slots := #[.long 100000, .int 0, .int 0], vm := .statics 2 }]
def classes : Array Class := #[k0, k1, k2, k3, k4, k5, k6, k7, k8]
def interned : List (Array UInt16 × Addr) := []
def slotsUsed : Nat := 3
def theMethod : MethodId := ⟨1, 2⟩
def args0 : Array Value := #[.int 5, .int 7, .int 3]
def aboutOver (below : List Frame) : State where
  vm := { classes := classes, interned := interned.toArray }
  heap := heap
  slotsUsed := slotsUsed
  threads := #[{ frames := .invoking theMethod args0 :: below }]
def below0 : List Frame := [.native { method := ⟨0, 0⟩, args := #[] }]
def about1 : State := aboutOver below0
def p0 : Program := .bare "" "" ""
def e0 : Env := launch0.env 0 0 0
theorem w_frames : about1.frames = Frame.invoking theMethod args0 :: below0 := rfl
set_option maxRecDepth 65536 in
theorem w_args : argsFit about1.vm theMethod args0 = true := by decide +kernel
set_option maxRecDepth 65536 in
theorem w_heap : heapFits about1 = true := by decide +kernel
set_option maxRecDepth 65536 in
theorem w_runnable : about1.curStatus? = some .runnable := by decide +kernel
set_option maxRecDepth 65536 in
theorem w_alone : about1.alone = true := by decide +kernel
set_option maxRecDepth 65536 in
theorem w_named : about1.methodNamed? x = some theMethod := by decide +kernel
set_option maxRecDepth 65536 in
theorem w_hears : about1.hears theMethod below0 = true := by decide +kernel
set_option maxRecDepth 65536 in
theorem w_ripe : about1.ripe theMethod args0 below0 = true := by decide +kernel
theorem w_running : about1.status = .running := rfl
set_option maxRecDepth 65536 in
theorem w_room : about1.hasRoom e0.platform room_1 = true :=
  launch0.hasRoom_least _ room_1 (by decide +kernel) (by decide +kernel) (by decide +kernel) (by decide +kernel) (by decide +kernel) (by decide +kernel)
theorem allAtoms_all (ts : List Jvm.Cond) (a : Array Jvm.Value) (st : Jvm.State) : (allAtoms ts).before a st = ts.all (fun c => c.before a st) := by
  induction ts with
  | nil => rfl
  | cons c t ih =>
    show (Jvm.Cond.and c (allAtoms t)).before a st = _
    rw [Jvm.Cond.before_and, ih, List.all_cons]
def words1 : List Jvm.Cond := Jvm.Cond.code x code maxLocals ret :: tables_1
/-- a 'code' word, met by the world's own term for the bytes: nothing is compared byte by byte -/
theorem code_word {y : MethodName} {bytes : ByteArray} {mx : Nat} {rt : Option FieldType} {a : Array Value} {s : State} {m : MethodId} {meth : Method} {c : Code} (h1 : s.methodNamed? y = some m) (h2 : s.vm.method? m = some meth) (h3 : meth.code = some c) (h4 : c.code = bytes)
    (h5 : (c.maxLocals == mx && c.exceptionTable.isEmpty && decide (c.maxStack ≤ mostOperands) && decide (meth.sig.returnType = rt) && !meth.locks && decide (parseMethodDescriptor y.desc = some meth.sig)) = true) : (Jvm.Cond.code y bytes mx rt).before a s = true := by
  simp only [Bool.and_eq_true, beq_iff_eq, Bool.not_eq_true', decide_eq_true_eq] at h5
  obtain ⟨⟨⟨⟨⟨g1, g2⟩, g3⟩, g4⟩, g5⟩, g6⟩ := h5
  simp [Cond.before, Cond.holds, Cond.value, h1, h2, h3, h4, g1, g2, g3, g4, g5, g6]
def isCode : Jvm.Cond → Bool
  | .code _ _ _ _ => true
  | _ => false
theorem all_split {L : List Jvm.Cond} {P : Jvm.Cond → Bool} (h1 : L.all (fun c => isCode c || P c) = true) (h2 : ∀ c ∈ L.filter isCode, P c = true) : L.all P = true := by
  refine List.all_eq_true.mpr fun c hc => ?_
  have h := List.all_eq_true.mp h1 c hc
  rcases Bool.eq_false_or_eq_true (isCode c) with hi | hi
  · exact h2 c (List.mem_filter.mpr ⟨hc, hi⟩)
  · simpa [hi] using h
set_option maxRecDepth 65536 in
theorem w_c0 : (Jvm.Cond.code x code maxLocals ret).before args0 about1 = true := code_word (m := ⟨1, 2⟩) (meth := k1m2) (c := k1c2) (by decide +kernel) rfl rfl rfl (by decide +kernel)
set_option maxRecDepth 65536 in
theorem w_c1 : (Jvm.Cond.code ({ cls := "com/example/leasehold/leasehold/link/ReplyWaits", name := "<init>", desc := "()V" } : Jvm.MethodName) prog_48_method_1_code (1 : Nat) (Option.none : Option Jvm.ClassFile.FieldType)).before args0 about1 = true := code_word (m := ⟨2, 0⟩) (meth := k2m0) (c := k2c0) (by decide +kernel) rfl rfl rfl (by decide +kernel)
set_option maxRecDepth 65536 in
theorem w_c2 : (Jvm.Cond.code ({ cls := "java/lang/Object", name := "<init>", desc := "()V" } : Jvm.MethodName) object_method_1_code (1 : Nat) (Option.none : Option Jvm.ClassFile.FieldType)).before args0 about1 = true := code_word (m := ⟨0, 0⟩) (meth := k0m0) (c := k0c0) (by decide +kernel) rfl rfl rfl (by decide +kernel)
set_option maxRecDepth 65536 in
theorem w_c3 : (Jvm.Cond.code ({ cls := "com/example/leasehold/leasehold/link/ReplyWaits", name := "took", desc := "(ZJ)V" } : Jvm.MethodName) prog_48_method_3_code (4 : Nat) (Option.none : Option Jvm.ClassFile.FieldType)).before args0 about1 = true := code_word (m := ⟨2, 2⟩) (meth := k2m2) (c := k2c2) (by decide +kernel) rfl rfl rfl (by decide +kernel)
set_option maxRecDepth 65536 in
theorem w_c4 : (Jvm.Cond.code ({ cls := "com/example/leasehold/leasehold/link/ReplyWaits", name := "average", desc := "(JJ)J" } : Jvm.MethodName) prog_48_method_4_code (6 : Nat) (Option.some Jvm.ClassFile.FieldType.long)).before args0 about1 = true := code_word (m := ⟨2, 3⟩) (meth := k2m3) (c := k2c3) (by decide +kernel) rfl rfl rfl (by decide +kernel)
set_option maxRecDepth 65536 in
theorem w_c5 : (Jvm.Cond.code ({ cls := "com/example/leasehold/leasehold/link/ReplyWaits", name := "spinsNext", desc := "()Z" } : Jvm.MethodName) prog_48_method_2_code (2 : Nat) (Option.some Jvm.ClassFile.FieldType.boolean)).before args0 about1 = true := code_word (m := ⟨2, 1⟩) (meth := k2m1) (c := k2c1) (by decide +kernel) rfl rfl rfl (by decide +kernel)
set_option maxRecDepth 65536 in
theorem w_c6 : (Jvm.Cond.code ({ cls := "com/example/leasehold/leasehold/link/ReplyWaitsSpinsNextPinLaw", name := "next", desc := "(ZJJ)Z" } : Jvm.MethodName) method_2_code (5 : Nat) (Option.some Jvm.ClassFile.FieldType.boolean)).before args0 about1 = true := code_word (m := ⟨1, 1⟩) (meth := k1m1) (c := k1c1) (by decide +kernel) rfl rfl rfl (by decide +kernel)
def codes1 : List Jvm.Cond := [Jvm.Cond.code x code maxLocals ret, Jvm.Cond.code ({ cls := "com/example/leasehold/leasehold/link/ReplyWaits", name := "<init>", desc := "()V" } : Jvm.MethodName) prog_48_method_1_code (1 : Nat) (Option.none : Option Jvm.ClassFile.FieldType), Jvm.Cond.code ({ cls := "java/lang/Object", name := "<init>", desc := "()V" } : Jvm.MethodName) object_method_1_code (1 : Nat) (Option.none : Option Jvm.ClassFile.FieldType), Jvm.Cond.code ({ cls := "com/example/leasehold/leasehold/link/ReplyWaits", name := "took", desc := "(ZJ)V" } : Jvm.MethodName) prog_48_method_3_code (4 : Nat) (Option.none : Option Jvm.ClassFile.FieldType), Jvm.Cond.code ({ cls := "com/example/leasehold/leasehold/link/ReplyWaits", name := "average", desc := "(JJ)J" } : Jvm.MethodName) prog_48_method_4_code (6 : Nat) (Option.some Jvm.ClassFile.FieldType.long), Jvm.Cond.code ({ cls := "com/example/leasehold/leasehold/link/ReplyWaits", name := "spinsNext", desc := "()Z" } : Jvm.MethodName) prog_48_method_2_code (2 : Nat) (Option.some Jvm.ClassFile.FieldType.boolean), Jvm.Cond.code ({ cls := "com/example/leasehold/leasehold/link/ReplyWaitsSpinsNextPinLaw", name := "next", desc := "(ZJJ)Z" } : Jvm.MethodName) method_2_code (5 : Nat) (Option.some Jvm.ClassFile.FieldType.boolean)]
set_option maxRecDepth 65536 in
theorem codes_eq : words1.filter isCode = codes1 := rfl
theorem w_codes : ∀ c ∈ words1.filter isCode, c.before args0 about1 = true := by
  rw [codes_eq]
  intro c hc
  simp only [codes1, List.mem_cons, List.not_mem_nil, or_false] at hc
  rcases hc with rfl | rfl | rfl | rfl | rfl | rfl | rfl
  · exact w_c0
  · exact w_c1
  · exact w_c2
  · exact w_c3
  · exact w_c4
  · exact w_c5
  · exact w_c6
set_option maxRecDepth 65536 in
theorem w_t1 : (words1.take 24).all (fun c => isCode c || c.before args0 about1) = true := by decide +kernel
set_option maxRecDepth 65536 in
theorem w_t2 : (words1.drop 24).all (fun c => isCode c || c.before args0 about1) = true := by decide +kernel
theorem w_tables : (allAtoms (Jvm.Cond.code x code maxLocals ret :: tables_1)).before args0 about1 = true := by
  rw [allAtoms_all]
  show words1.all (fun c => c.before args0 about1) = true
  refine all_split ?_ w_codes
  rw [← List.take_append_drop 24 words1, List.all_append, w_t1, w_t2]
  rfl
set_option maxRecDepth 65536 in
theorem w_case : (Jvm.Cond.and given_1 narrow_1).before args0 about1 = true := by decide +kernel
theorem w_applies : (headSpec (Jvm.Cond.code x code maxLocals ret :: tables_1) room_1).applies x e0.platform about1 = true :=
  (Spec.applies_iff w_frames).mpr ⟨w_running, w_runnable, w_alone, w_named, w_hears, w_ripe, w_room, w_tables⟩
theorem atStart : AtStart classFile x code maxLocals ret World_1 tables_1 room_1 Calls_1 rest_1 Pre_1 launch0 p0 e0 about1 theMethod args0 below0 :=
  ⟨lists_1, trivial, launch0.admits_env _ _ _, launch0.least_env, fairChoices_fair.cas, fairChoices_fair.clock, w_frames, w_args, w_heap, w_applies, trivial, trivial, w_case⟩
end start1
theorem witness_1 : WitnessClaimed_1 := ⟨start1.p0, start1.e0, start1.about1, start1.theMethod, start1.args0, start1.below0, start1.atStart⟩
end Jvm.Pilot.@@N@@
