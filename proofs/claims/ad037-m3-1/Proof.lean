import JvmDerived
import JvmDerived.Pilot.@@N@@Statement
import JvmDerived.Pilot.@@N@@Code
set_option linter.unusedVariables false
set_option linter.unusedSimpArgs false
namespace Jvm.RoadKit
open Sem ClassFile Op Lib Jvm.Stand Jvm.Free Jvm.LawKit
section New
variable {p : Program} {l : Launch} {e : Env} {R : Room} {s : State} {m : MethodId} {args : Array Value} {below : List Frame} {meth : Method} {c : Code} {T : State} {locs : List Loc} {cells slots : Nat}
theorem retI (X : Stand p l e R s m args below meth c T locs cells slots) (hx : p.tables.exec = Jvm.exec) {pc : Nat} {Ls : Array Slot} {z : Int32} {rest : List Value} (hret : meth.sig.returnType = some .int) (hd : decode c.code pc = .ok (.ireturn, 1)) {fs : List Frame}
    (hl : ∀ (f : JFrame) (acts : List Action), f.method = m → f.locked = none → f.entered = [] → (doReturn e (T.setTop f) acts (some (.int z))).1 = T.setFrames fs) : Steps p.tables e below (T.setTop (mkF m pc Ls (.int z :: rest))) (T.setFrames fs) := by
  have hm' : T.vm.method? m = some meth := X.method'
  have hn : narrow .int (.int z) = .int z := rfl
  show Steps p.tables e below (T.setTop { method := m, pc := pc, locals := Ls, stack := _ :: rest, locked := none }) _
  jvm_step X.here [X.here.top, hx, hd, hm', hret, hn]
  first | (intro acts; rw [hl _ acts rfl rfl rfl]) | rw [hl _ _ rfl rfl rfl]
  exact Steps.refl _
end New
end Jvm.RoadKit
namespace Jvm.Pilot.@@N@@
open Jvm Jvm.ClassFile Sem Op Lib Jvm.Free Jvm.Stand Jvm.LawKit Jvm.RoadKit Bundle Jvm.Pilot.@@N@@.Jvm.D
theorem own_arK {Z : State} {h h' : Heap} {a : Addr} {c : Cell} {ty : FieldType} {ws : List Addr} (A : Arr Z h a c ty) (K : Keep h h' ws) : ∃ c' : Cell, Arr Z h' a c' ty ∧ c'.slots.size = c.slots.size := by
  obtain ⟨c', q, r1, r2, r3⟩ := K.2.2 a c A.1
  refine ⟨c', ⟨q, ?_, by rw [r2]; exact A.2.2⟩, r3⟩
  obtain ⟨s1, k, hk, hkind⟩ := A.2.1
  exact ⟨fun k => by rw [r2]; exact s1 k, k, by rw [r1]; exact hk, hkind⟩
def own_SR (Z : State) (h : Heap) (b : Addr) : Prop := Exa Z h b "com/example/hakari/hakari/SparseRegisters" ∧ ∃ (ba : Addr) (ca : Cell) (bb : Addr) (cb : Cell), Fld Z h b "com/example/hakari/hakari/SparseRegisters" "bytes" "[B" (.ref ba) ∧ Arr Z h ba ca .byte ∧ ca.slots.size = (8 : Int32).toNatClampNeg ∧ Fld Z h b "com/example/hakari/hakari/SparseRegisters" "blocks" "[C" (.ref bb) ∧ Arr Z h bb cb .char ∧ cb.slots.size = (3 : Int32).toNatClampNeg
theorem own_SRk {Z : State} {h h' : Heap} {b : Addr} {ws : List Addr} (S : own_SR Z h b) (K : Keep h h' ws) (q : b ∉ ws) : own_SR Z h' b := by
  obtain ⟨E, ba, ca, bb, cb, F1, A1, s1, F2, A2, s2⟩ := S
  obtain ⟨ca', A1', t1⟩ := own_arK A1 K
  obtain ⟨cb', A2', t2⟩ := own_arK A2 K
  exact ⟨E.keep K, ba, ca', bb, cb', F1.keep K q, A1', t1.trans s1, F2.keep K q, A2', t2.trans s2⟩
theorem own_lc (x : Int64) : lcmpW x x = 0 := (lw_eq x x).mpr rfl
theorem own_mask (p : Int32) : ¬ (p &&& (16383 : Int32)) < 0 ∧ (p &&& (16383 : Int32)) < (16384 : Int32) := by
  have a := c_mask p 16383 14 (by decide) (by decide)
  simp only [Int32.lt_iff_toInt_lt, show (0 : Int32).toInt = 0 from rfl, show (16384 : Int32).toInt = 16384 from by decide]
  rw [a]; omega
theorem d13_0 : decode prog_23_method_4_code 0 = .ok (.ldc2_w 17, 3) := by decide +kernel
theorem d13_3 : decode prog_23_method_4_code 3 = .ok (.lload_n 0, 1) := by decide +kernel
theorem d13_4 : decode prog_23_method_4_code 4 = .ok (.ladd, 1) := by decide +kernel
theorem d13_5 : decode prog_23_method_4_code 5 = .ok (.ldc2_w 19, 3) := by decide +kernel
theorem d13_8 : decode prog_23_method_4_code 8 = .ok (.ladd, 1) := by decide +kernel
theorem d13_9 : decode prog_23_method_4_code 9 = .ok (.lconst 1, 1) := by decide +kernel
theorem d13_10 : decode prog_23_method_4_code 10 = .ok (.lsub, 1) := by decide +kernel
theorem d13_11 : decode prog_23_method_4_code 11 = .ok (.ldc2_w 19, 3) := by decide +kernel
theorem d13_14 : decode prog_23_method_4_code 14 = .ok (.ldiv, 1) := by decide +kernel
theorem d13_15 : decode prog_23_method_4_code 15 = .ok (.ldc2_w 19, 3) := by decide +kernel
theorem d13_18 : decode prog_23_method_4_code 18 = .ok (.lmul, 1) := by decide +kernel
theorem d13_19 : decode prog_23_method_4_code 19 = .ok (.lreturn, 1) := by decide +kernel
theorem pn_13 : plainName "com/example/hakari/hakari/HeapSize" = true := by first | (simp [plainName, overriddenIn]; done) | decide +kernel
theorem ef_13 (m : MethodId) (x0 : Int64) : entryFrame m #[(.long x0)] 2 = mkF m 0 #[.val (.long x0), .second] [] := by first | (simp [entryFrame, mkF, argsToLocals, Value.category]; done) | rfl
def Q13 (Z : State) (q1 : Int64) (h0 : Heap) (n0 : Nat) (v : Option Value) (h : Heap) (L : List Loc) : Prop := v = some (.long ((((((16 : Int64) + q1) + (8 : Int64)) - (1 : Int64)) / (8 : Int64)) * (8 : Int64))) ∧ Fr n0 L ∧ h = h0
set_option maxRecDepth 65536 in
set_option maxHeartbeats 40000000 in
theorem rm13 (l : Launch) (Z : State) (a0 : Array Value) (hw : ∀ d ∈ tables_1, d.before a0 Z = true) (ws : List Jvm.Cond) (q1 : Int64) (h0 : Heap) (n0 : Nat) (Z0 : n0 ≤ h0.size) (hnz14 : ¬ ((8 : Int64) = (0 : Int64))) :
    MetFree l (⟨"com/example/hakari/hakari/HeapSize", "array", "(J)J"⟩ : MethodName) (head1 (Jvm.Cond.code (⟨"com/example/hakari/hakari/HeapSize", "array", "(J)J"⟩ : MethodName) prog_23_method_4_code 2 (some .long) :: ws) ({ frames := 0, cells := 0, slots := 0, locals := 0 } : Room)) (fun a U => a = #[(.long q1)] ∧ Z.Warmed39 U.vm ∧ U.heap = h0) (fun _ _ _ _ _ => True) (fun _ U o U' => ∃ v L, o = .returned v ∧ Q13 Z q1 h0 n0 v U'.heap L ∧ FrameEnd U o U' L ({ frames := 0, cells := 0, slots := 0, locals := 0 } : Room).cells ({ frames := 0, cells := 0, slots := 0, locals := 0 } : Room).slots) := by
  refine MetFree.of_bodySF (plainFor_of_name pn_13) hisR ?_
  intro p e s m args below meth c s₁ Bd hml0 hP hK
  obtain ⟨rfl, hZ, hh⟩ := hP
  have hx := Bd.exec
  have hby := Bd.bytes
  have hml : c.maxLocals = 2 := hml0
  have hown : s.vm.findClass "com/example/hakari/hakari/HeapSize" = some m.cls := findClass_of_methodNamed Bd.named
  have hnm := (name_of_methodNamed Bd.named Bd.method).1
  have X0 : Stand p l e ({ frames := 0, cells := 0, slots := 0, locals := 0 } : Room) s m #[(.long q1)] below meth c s₁ [] 0 0 := Stand.of_body Bd
  have e0 : s₁.heap = h0 := by rw [← hh, Bd.state]; rfl
  have N0 := Fr.nil n0
  have pre0 : ∀ t, Steps p.tables e below (s₁.setTop (mkF m 0 #[.val (.long q1), .second] [])) t → Steps p.tables e below (s₁.setTop (entryFrame m #[(.long q1)] 2)) t := fun t k => castTop (ef_13 m q1) k

  obtain ⟨fs, hr, hrun, hended, hW, hsame⟩ := X0.leave (v := some (.long ((((((16 : Int64) + q1) + (8 : Int64)) - (1 : Int64)) / (8 : Int64)) * (8 : Int64)))) (fun h => by rw [Bd.returns] at h; cases h)
  refine ⟨_, _, pre0 _ ?_, hrun, hended, _, _, rfl, ?_, ⟨_, rfl⟩, hW, hsame.mono (by decide) (by decide)⟩
  · show Steps p.tables e below (s₁.setTop (mkF m 0 #[.val (.long q1), .second] [])) _
    refine X0.ldc2Long hx hown (mvT hZ (hw _ (List.mem_of_getElem? (i := 92) rfl))) (g := (mkF m 0 #[.val (.long q1), .second] [])) rfl (hb hby d13_0) _ ?_
    show Steps p.tables e below (s₁.setTop (mkF m 3 #[.val (.long q1), .second] [(.long (16 : Int64))])) _
    refine XS.lloadN X0.here hx rfl (hb hby d13_3) rfl ?_
    show Steps p.tables e below (s₁.setTop (mkF m 4 #[.val (.long q1), .second] [(.long q1), (.long (16 : Int64))])) _
    refine XS.ladd X0.here hx rfl (hb hby d13_4) rfl ?_
    show Steps p.tables e below (s₁.setTop (mkF m 5 #[.val (.long q1), .second] [(.long ((16 : Int64) + q1))])) _
    refine X0.ldc2Long hx hown (mvT hZ (hw _ (List.mem_of_getElem? (i := 93) rfl))) (g := (mkF m 5 #[.val (.long q1), .second] [(.long ((16 : Int64) + q1))])) rfl (hb hby d13_5) _ ?_
    show Steps p.tables e below (s₁.setTop (mkF m 8 #[.val (.long q1), .second] [(.long (8 : Int64)), (.long ((16 : Int64) + q1))])) _
    refine XS.ladd X0.here hx rfl (hb hby d13_8) rfl ?_
    show Steps p.tables e below (s₁.setTop (mkF m 9 #[.val (.long q1), .second] [(.long (((16 : Int64) + q1) + (8 : Int64)))])) _
    refine XS.lconst X0.here hx rfl (hb hby d13_9) ?_
    show Steps p.tables e below (s₁.setTop (mkF m 10 #[.val (.long q1), .second] [(.long (1 : Int64)), (.long (((16 : Int64) + q1) + (8 : Int64)))])) _
    refine XS.lsub X0.here hx rfl (hb hby d13_10) rfl ?_
    show Steps p.tables e below (s₁.setTop (mkF m 11 #[.val (.long q1), .second] [(.long ((((16 : Int64) + q1) + (8 : Int64)) - (1 : Int64)))])) _
    refine X0.ldc2Long hx hown (mvT hZ (hw _ (List.mem_of_getElem? (i := 93) rfl))) (g := (mkF m 11 #[.val (.long q1), .second] [(.long ((((16 : Int64) + q1) + (8 : Int64)) - (1 : Int64)))])) rfl (hb hby d13_11) _ ?_
    show Steps p.tables e below (s₁.setTop (mkF m 14 #[.val (.long q1), .second] [(.long (8 : Int64)), (.long ((((16 : Int64) + q1) + (8 : Int64)) - (1 : Int64)))])) _
    refine XS.ldiv X0.here hx rfl (hb hby d13_14) rfl hnz14 ?_
    show Steps p.tables e below (s₁.setTop (mkF m 15 #[.val (.long q1), .second] [(.long (((((16 : Int64) + q1) + (8 : Int64)) - (1 : Int64)) / (8 : Int64)))])) _
    refine X0.ldc2Long hx hown (mvT hZ (hw _ (List.mem_of_getElem? (i := 93) rfl))) (g := (mkF m 15 #[.val (.long q1), .second] [(.long (((((16 : Int64) + q1) + (8 : Int64)) - (1 : Int64)) / (8 : Int64)))])) rfl (hb hby d13_15) _ ?_
    show Steps p.tables e below (s₁.setTop (mkF m 18 #[.val (.long q1), .second] [(.long (8 : Int64)), (.long (((((16 : Int64) + q1) + (8 : Int64)) - (1 : Int64)) / (8 : Int64)))])) _
    refine XS.lmul X0.here hx rfl (hb hby d13_18) rfl ?_
    show Steps p.tables e below (s₁.setTop (mkF m 19 #[.val (.long q1), .second] [(.long ((((((16 : Int64) + q1) + (8 : Int64)) - (1 : Int64)) / (8 : Int64)) * (8 : Int64)))])) _
    jvm_step X0.here [X0.here.top, hx, (hb hby d13_19), X0.method', Bd.returns, narrow]
    first | (intro acts; rw [hr _ acts rfl rfl rfl]) | rw [hr _ _ rfl rfl rfl]
    exact Steps.refl _
  · show Q13 Z q1 h0 n0 _ s₁.heap _
    rw [e0]
    exact ⟨rfl, N0, rfl⟩
theorem d12_0 : decode prog_23_method_2_code 0 = .ok (.lload_n 0, 1) := by decide +kernel
theorem d12_1 : decode prog_23_method_2_code 1 = .ok (.invokestatic 7, 3) := by decide +kernel
theorem d12_4 : decode prog_23_method_2_code 4 = .ok (.lreturn, 1) := by decide +kernel
theorem pn_12 : plainName "com/example/hakari/hakari/HeapSize" = true := by first | (simp [plainName, overriddenIn]; done) | decide +kernel
theorem pd_12_10 : parseMethodDescriptor "(J)J" = some ⟨[.long], some .long⟩ := by decide +kernel
theorem ef_12 (m : MethodId) (x0 : Int64) : entryFrame m #[(.long x0)] 2 = mkF m 0 #[.val (.long x0), .second] [] := by first | (simp [entryFrame, mkF, argsToLocals, Value.category]; done) | rfl
def Q12 (Z : State) (q1 : Int64) (h0 : Heap) (n0 : Nat) (v : Option Value) (h : Heap) (L : List Loc) : Prop := v = some (.long ((((((16 : Int64) + q1) + (8 : Int64)) - (1 : Int64)) / (8 : Int64)) * (8 : Int64))) ∧ Fr n0 L ∧ h = h0
set_option maxRecDepth 65536 in
set_option maxHeartbeats 40000000 in
theorem rm12 (l : Launch) (Z : State) (a0 : Array Value) (hw : ∀ d ∈ tables_1, d.before a0 Z = true) (ws : List Jvm.Cond) (q1 : Int64) (h0 : Heap) (n0 : Nat) (Z0 : n0 ≤ h0.size) :
    MetFree l (⟨"com/example/hakari/hakari/HeapSize", "byteArray", "(J)J"⟩ : MethodName) (head1 (Jvm.Cond.code (⟨"com/example/hakari/hakari/HeapSize", "byteArray", "(J)J"⟩ : MethodName) prog_23_method_2_code 2 (some .long) :: ws) ({ frames := 1, cells := 0, slots := 0, locals := 13 } : Room)) (fun a U => a = #[(.long q1)] ∧ Z.Warmed39 U.vm ∧ U.heap = h0) (fun _ _ _ _ _ => True) (fun _ U o U' => ∃ v L, o = .returned v ∧ Q12 Z q1 h0 n0 v U'.heap L ∧ FrameEnd U o U' L ({ frames := 1, cells := 0, slots := 0, locals := 13 } : Room).cells ({ frames := 1, cells := 0, slots := 0, locals := 13 } : Room).slots) := by
  refine MetFree.of_bodySF (plainFor_of_name pn_12) hisR ?_
  intro p e s m args below meth c s₁ Bd hml0 hP hK
  obtain ⟨rfl, hZ, hh⟩ := hP
  have hx := Bd.exec
  have hby := Bd.bytes
  have hml : c.maxLocals = 2 := hml0
  have hown : s.vm.findClass "com/example/hakari/hakari/HeapSize" = some m.cls := findClass_of_methodNamed Bd.named
  have hnm := (name_of_methodNamed Bd.named Bd.method).1
  have X0 : Stand p l e ({ frames := 1, cells := 0, slots := 0, locals := 13 } : Room) s m #[(.long q1)] below meth c s₁ [] 0 0 := Stand.of_body Bd
  have e0 : s₁.heap = h0 := by rw [← hh, Bd.state]; rfl
  have N0 := Fr.nil n0
  have pre0 : ∀ t, Steps p.tables e below (s₁.setTop (mkF m 0 #[.val (.long q1), .second] [])) t → Steps p.tables e below (s₁.setTop (entryFrame m #[(.long q1)] 2)) t := fun t k => castTop (ef_12 m q1) k
  obtain ⟨_, _, ⟨T2, L2, k2, n2⟩, -, X2, ⟨Lc2, hQ2, l2, y2, z2⟩, st2⟩ := Jvm.LawKit.callS X0 hx (y := (⟨"com/example/hakari/hakari/HeapSize", "array", "(J)J"⟩ : MethodName)) hown (mvT hZ (hw _ (List.mem_of_getElem? (i := 89) rfl))) (mvT hZ (hw _ (List.mem_of_getElem? (i := 90) rfl))) (mvT hZ (hw _ (List.mem_of_getElem? (i := 87) rfl))) (mvT hZ (hw _ (List.mem_of_getElem? (i := 91) rfl))) (by decide) (backOf (W := 0) (rm13 l Z a0 hw [] q1 h0 n0 Z0 (by decide)) hZ (hw _ (List.mem_of_getElem? (i := 91) rfl)) (hw _ (List.mem_of_getElem? (i := 87) rfl)) (by decide) (by decide)) (g := (mkF m 1 #[.val (.long q1), .second] [(.long q1)])) rfl (by rw [hml]; rfl) (argsL := [(.long q1)]) (rest := []) (lenOf pd_12_10 rfl) rfl (by show 2 * 0 + _ ≤ _; exact Nat.le_of_eq rfl) (hb hby d12_1) (fun _ _ => ⟨rfl, e0, (by decide : 0 + 0 ≤ _), (by decide : 0 + 0 ≤ _)⟩)
  dsimp only [Pt.U, Pt.locs, Pt.cells, Pt.slots] at X2 l2 y2 z2 st2 hQ2
  subst l2 y2 z2
  obtain ⟨rfl, N2q, w2⟩ := hQ2
  have N2 := Fr.app N0 N2q
  obtain ⟨fs, hr, hrun, hended, hW, hsame⟩ := X2.leave (v := some (.long ((((((16 : Int64) + q1) + (8 : Int64)) - (1 : Int64)) / (8 : Int64)) * (8 : Int64)))) (fun h => by rw [Bd.returns] at h; cases h)
  refine ⟨_, _, pre0 _ ?_, hrun, hended, _, _, rfl, ?_, ⟨_, rfl⟩, hW, hsame.mono (by decide) (by decide)⟩
  · show Steps p.tables e below (s₁.setTop (mkF m 0 #[.val (.long q1), .second] [])) _
    refine XS.lloadN X0.here hx rfl (hb hby d12_0) rfl ?_
    show Steps p.tables e below (s₁.setTop (mkF m 1 #[.val (.long q1), .second] [(.long q1)])) _
    refine st2 _ ?_
    show Steps p.tables e below (T2.setTop (mkF m 4 #[.val (.long q1), .second] [(.long ((((((16 : Int64) + q1) + (8 : Int64)) - (1 : Int64)) / (8 : Int64)) * (8 : Int64)))])) _
    jvm_step X2.here [X2.here.top, hx, (hb hby d12_4), X2.method', Bd.returns, narrow]
    first | (intro acts; rw [hr _ acts rfl rfl rfl]) | rw [hr _ _ rfl rfl rfl]
    exact Steps.refl _
  · show Q12 Z q1 h0 n0 _ T2.heap _
    exact ⟨rfl, N2, w2⟩
theorem d14_0 : decode prog_23_method_3_code 0 = .ok (.ldc2_w 15, 3) := by decide +kernel
theorem d14_3 : decode prog_23_method_3_code 3 = .ok (.lload_n 0, 1) := by decide +kernel
theorem d14_4 : decode prog_23_method_3_code 4 = .ok (.lmul, 1) := by decide +kernel
theorem d14_5 : decode prog_23_method_3_code 5 = .ok (.invokestatic 7, 3) := by decide +kernel
theorem d14_8 : decode prog_23_method_3_code 8 = .ok (.lreturn, 1) := by decide +kernel
theorem pn_14 : plainName "com/example/hakari/hakari/HeapSize" = true := by first | (simp [plainName, overriddenIn]; done) | decide +kernel
theorem pd_14_10 : parseMethodDescriptor "(J)J" = some ⟨[.long], some .long⟩ := by decide +kernel
theorem ef_14 (m : MethodId) (x0 : Int64) : entryFrame m #[(.long x0)] 2 = mkF m 0 #[.val (.long x0), .second] [] := by first | (simp [entryFrame, mkF, argsToLocals, Value.category]; done) | rfl
def Q14 (Z : State) (q1 : Int64) (h0 : Heap) (n0 : Nat) (v : Option Value) (h : Heap) (L : List Loc) : Prop := v = some (.long ((((((16 : Int64) + ((2 : Int64) * q1)) + (8 : Int64)) - (1 : Int64)) / (8 : Int64)) * (8 : Int64))) ∧ Fr n0 L ∧ h = h0
set_option maxRecDepth 65536 in
set_option maxHeartbeats 40000000 in
theorem rm14 (l : Launch) (Z : State) (a0 : Array Value) (hw : ∀ d ∈ tables_1, d.before a0 Z = true) (ws : List Jvm.Cond) (q1 : Int64) (h0 : Heap) (n0 : Nat) (Z0 : n0 ≤ h0.size) :
    MetFree l (⟨"com/example/hakari/hakari/HeapSize", "charArray", "(J)J"⟩ : MethodName) (head1 (Jvm.Cond.code (⟨"com/example/hakari/hakari/HeapSize", "charArray", "(J)J"⟩ : MethodName) prog_23_method_3_code 2 (some .long) :: ws) ({ frames := 1, cells := 0, slots := 0, locals := 13 } : Room)) (fun a U => a = #[(.long q1)] ∧ Z.Warmed39 U.vm ∧ U.heap = h0) (fun _ _ _ _ _ => True) (fun _ U o U' => ∃ v L, o = .returned v ∧ Q14 Z q1 h0 n0 v U'.heap L ∧ FrameEnd U o U' L ({ frames := 1, cells := 0, slots := 0, locals := 13 } : Room).cells ({ frames := 1, cells := 0, slots := 0, locals := 13 } : Room).slots) := by
  refine MetFree.of_bodySF (plainFor_of_name pn_14) hisR ?_
  intro p e s m args below meth c s₁ Bd hml0 hP hK
  obtain ⟨rfl, hZ, hh⟩ := hP
  have hx := Bd.exec
  have hby := Bd.bytes
  have hml : c.maxLocals = 2 := hml0
  have hown : s.vm.findClass "com/example/hakari/hakari/HeapSize" = some m.cls := findClass_of_methodNamed Bd.named
  have hnm := (name_of_methodNamed Bd.named Bd.method).1
  have X0 : Stand p l e ({ frames := 1, cells := 0, slots := 0, locals := 13 } : Room) s m #[(.long q1)] below meth c s₁ [] 0 0 := Stand.of_body Bd
  have e0 : s₁.heap = h0 := by rw [← hh, Bd.state]; rfl
  have N0 := Fr.nil n0
  have pre0 : ∀ t, Steps p.tables e below (s₁.setTop (mkF m 0 #[.val (.long q1), .second] [])) t → Steps p.tables e below (s₁.setTop (entryFrame m #[(.long q1)] 2)) t := fun t k => castTop (ef_14 m q1) k
  obtain ⟨_, _, ⟨T2, L2, k2, n2⟩, -, X2, ⟨Lc2, hQ2, l2, y2, z2⟩, st2⟩ := Jvm.LawKit.callS X0 hx (y := (⟨"com/example/hakari/hakari/HeapSize", "array", "(J)J"⟩ : MethodName)) hown (mvT hZ (hw _ (List.mem_of_getElem? (i := 89) rfl))) (mvT hZ (hw _ (List.mem_of_getElem? (i := 90) rfl))) (mvT hZ (hw _ (List.mem_of_getElem? (i := 87) rfl))) (mvT hZ (hw _ (List.mem_of_getElem? (i := 91) rfl))) (by decide) (backOf (W := 0) (rm13 l Z a0 hw [] ((2 : Int64) * q1) h0 n0 Z0 (by decide)) hZ (hw _ (List.mem_of_getElem? (i := 91) rfl)) (hw _ (List.mem_of_getElem? (i := 87) rfl)) (by decide) (by decide)) (g := (mkF m 5 #[.val (.long q1), .second] [(.long ((2 : Int64) * q1))])) rfl (by rw [hml]; rfl) (argsL := [(.long ((2 : Int64) * q1))]) (rest := []) (lenOf pd_14_10 rfl) rfl (by show 2 * 0 + _ ≤ _; exact Nat.le_of_eq rfl) (hb hby d14_5) (fun _ _ => ⟨rfl, e0, (by decide : 0 + 0 ≤ _), (by decide : 0 + 0 ≤ _)⟩)
  dsimp only [Pt.U, Pt.locs, Pt.cells, Pt.slots] at X2 l2 y2 z2 st2 hQ2
  subst l2 y2 z2
  obtain ⟨rfl, N2q, w2⟩ := hQ2
  have N2 := Fr.app N0 N2q
  obtain ⟨fs, hr, hrun, hended, hW, hsame⟩ := X2.leave (v := some (.long ((((((16 : Int64) + ((2 : Int64) * q1)) + (8 : Int64)) - (1 : Int64)) / (8 : Int64)) * (8 : Int64)))) (fun h => by rw [Bd.returns] at h; cases h)
  refine ⟨_, _, pre0 _ ?_, hrun, hended, _, _, rfl, ?_, ⟨_, rfl⟩, hW, hsame.mono (by decide) (by decide)⟩
  · show Steps p.tables e below (s₁.setTop (mkF m 0 #[.val (.long q1), .second] [])) _
    refine X0.ldc2Long hx hown (mvT hZ (hw _ (List.mem_of_getElem? (i := 97) rfl))) (g := (mkF m 0 #[.val (.long q1), .second] [])) rfl (hb hby d14_0) _ ?_
    show Steps p.tables e below (s₁.setTop (mkF m 3 #[.val (.long q1), .second] [(.long (2 : Int64))])) _
    refine XS.lloadN X0.here hx rfl (hb hby d14_3) rfl ?_
    show Steps p.tables e below (s₁.setTop (mkF m 4 #[.val (.long q1), .second] [(.long q1), (.long (2 : Int64))])) _
    refine XS.lmul X0.here hx rfl (hb hby d14_4) rfl ?_
    show Steps p.tables e below (s₁.setTop (mkF m 5 #[.val (.long q1), .second] [(.long ((2 : Int64) * q1))])) _
    refine st2 _ ?_
    show Steps p.tables e below (T2.setTop (mkF m 8 #[.val (.long q1), .second] [(.long ((((((16 : Int64) + ((2 : Int64) * q1)) + (8 : Int64)) - (1 : Int64)) / (8 : Int64)) * (8 : Int64)))])) _
    jvm_step X2.here [X2.here.top, hx, (hb hby d14_8), X2.method', Bd.returns, narrow]
    first | (intro acts; rw [hr _ acts rfl rfl rfl]) | rw [hr _ _ rfl rfl rfl]
    exact Steps.refl _
  · show Q14 Z q1 h0 n0 _ T2.heap _
    exact ⟨rfl, N2, w2⟩
theorem d8_0 : decode jdk_33_method_48_code 0 = .ok (.iload_n 0, 1) := by decide +kernel
theorem d8_1 : decode jdk_33_method_48_code 1 = .ok (.iconst (-1), 1) := by decide +kernel
theorem d8_2 : decode jdk_33_method_48_code 2 = .ok (.ixor, 1) := by decide +kernel
theorem d8_3 : decode jdk_33_method_48_code 3 = .ok (.iload_n 0, 1) := by decide +kernel
theorem d8_4 : decode jdk_33_method_48_code 4 = .ok (.iconst 1, 1) := by decide +kernel
theorem d8_5 : decode jdk_33_method_48_code 5 = .ok (.isub, 1) := by decide +kernel
theorem d8_6 : decode jdk_33_method_48_code 6 = .ok (.iand, 1) := by decide +kernel
theorem d8_7 : decode jdk_33_method_48_code 7 = .ok (.istore_n 0, 1) := by decide +kernel
theorem d8_8 : decode jdk_33_method_48_code 8 = .ok (.iload_n 0, 1) := by decide +kernel
theorem d8_9 : decode jdk_33_method_48_code 9 = .ok (.ifCond .gt 8, 3) := by decide +kernel
theorem d8_17 : decode jdk_33_method_48_code 17 = .ok (.iconst 1, 1) := by decide +kernel
theorem d8_18 : decode jdk_33_method_48_code 18 = .ok (.istore_n 1, 1) := by decide +kernel
theorem d8_19 : decode jdk_33_method_48_code 19 = .ok (.iload_n 0, 1) := by decide +kernel
theorem d8_20 : decode jdk_33_method_48_code 20 = .ok (.ldc_w 264, 3) := by decide +kernel
theorem d8_23 : decode jdk_33_method_48_code 23 = .ok (.if_icmp .le 11, 3) := by decide +kernel
theorem d8_34 : decode jdk_33_method_48_code 34 = .ok (.iload_n 0, 1) := by decide +kernel
theorem d8_35 : decode jdk_33_method_48_code 35 = .ok (.sipush 256, 3) := by decide +kernel
theorem d8_38 : decode jdk_33_method_48_code 38 = .ok (.if_icmp .le 11, 3) := by decide +kernel
theorem d8_41 : decode jdk_33_method_48_code 41 = .ok (.iinc 1 8, 3) := by decide +kernel
theorem d8_44 : decode jdk_33_method_48_code 44 = .ok (.iload_n 0, 1) := by decide +kernel
theorem d8_45 : decode jdk_33_method_48_code 45 = .ok (.bipush 8, 2) := by decide +kernel
theorem d8_47 : decode jdk_33_method_48_code 47 = .ok (.iushr, 1) := by decide +kernel
theorem d8_48 : decode jdk_33_method_48_code 48 = .ok (.istore_n 0, 1) := by decide +kernel
theorem d8_49 : decode jdk_33_method_48_code 49 = .ok (.iload_n 0, 1) := by decide +kernel
theorem d8_50 : decode jdk_33_method_48_code 50 = .ok (.bipush 16, 2) := by decide +kernel
theorem d8_52 : decode jdk_33_method_48_code 52 = .ok (.if_icmp .le 10, 3) := by decide +kernel
theorem d8_55 : decode jdk_33_method_48_code 55 = .ok (.iinc 1 4, 3) := by decide +kernel
theorem d8_58 : decode jdk_33_method_48_code 58 = .ok (.iload_n 0, 1) := by decide +kernel
theorem d8_59 : decode jdk_33_method_48_code 59 = .ok (.iconst 4, 1) := by decide +kernel
theorem d8_60 : decode jdk_33_method_48_code 60 = .ok (.iushr, 1) := by decide +kernel
theorem d8_61 : decode jdk_33_method_48_code 61 = .ok (.istore_n 0, 1) := by decide +kernel
theorem d8_62 : decode jdk_33_method_48_code 62 = .ok (.iload_n 0, 1) := by decide +kernel
theorem d8_63 : decode jdk_33_method_48_code 63 = .ok (.iconst 4, 1) := by decide +kernel
theorem d8_64 : decode jdk_33_method_48_code 64 = .ok (.if_icmp .le 10, 3) := by decide +kernel
theorem d8_74 : decode jdk_33_method_48_code 74 = .ok (.iload_n 1, 1) := by decide +kernel
theorem d8_75 : decode jdk_33_method_48_code 75 = .ok (.iload_n 0, 1) := by decide +kernel
theorem d8_76 : decode jdk_33_method_48_code 76 = .ok (.iconst 1, 1) := by decide +kernel
theorem d8_77 : decode jdk_33_method_48_code 77 = .ok (.iushr, 1) := by decide +kernel
theorem d8_78 : decode jdk_33_method_48_code 78 = .ok (.iadd, 1) := by decide +kernel
theorem d8_79 : decode jdk_33_method_48_code 79 = .ok (.ireturn, 1) := by decide +kernel
theorem pn_8 : plainName "java/lang/Integer" = true := by first | (simp [plainName, overriddenIn]; done) | decide +kernel
theorem ef_8 (m : MethodId) (x0 : Int32) : entryFrame m #[(.int x0)] 2 = mkF m 0 #[.val (.int x0), .unset] [] := by first | (simp [entryFrame, mkF, argsToLocals, Value.category]; done) | rfl
def Q8 (Z : State) (p1 : Int32) (h0 : Heap) (n0 : Nat) (v : Option Value) (h : Heap) (L : List Loc) : Prop := v = some (.int ((((1 : Int32) + (8 : Int32)) + (4 : Int32)) + ((((((((p1 ^^^ (-1 : Int32)) &&& (p1 - (1 : Int32))).toUInt32 >>> ((8 : Int32) &&& 31).toUInt32).toInt32).toUInt32 >>> ((4 : Int32) &&& 31).toUInt32).toInt32).toUInt32 >>> ((1 : Int32) &&& 31).toUInt32).toInt32))) ∧ Fr n0 L ∧ h = h0
set_option maxRecDepth 65536 in
set_option maxHeartbeats 40000000 in
theorem rm8 (l : Launch) (Z : State) (a0 : Array Value) (hw : ∀ d ∈ tables_1, d.before a0 Z = true) (ws : List Jvm.Cond) (p1 : Int32) (h0 : Heap) (n0 : Nat) (Z0 : n0 ≤ h0.size) (hc9 : (0 : Int32) < ((p1 ^^^ (-1 : Int32)) &&& (p1 - (1 : Int32)))) (hc23 : ¬ ((65536 : Int32) < ((p1 ^^^ (-1 : Int32)) &&& (p1 - (1 : Int32))))) (hc38 : (256 : Int32) < ((p1 ^^^ (-1 : Int32)) &&& (p1 - (1 : Int32)))) (hc52 : (16 : Int32) < ((((p1 ^^^ (-1 : Int32)) &&& (p1 - (1 : Int32))).toUInt32 >>> ((8 : Int32) &&& 31).toUInt32).toInt32)) (hc64 : ¬ ((4 : Int32) < ((((((p1 ^^^ (-1 : Int32)) &&& (p1 - (1 : Int32))).toUInt32 >>> ((8 : Int32) &&& 31).toUInt32).toInt32).toUInt32 >>> ((4 : Int32) &&& 31).toUInt32).toInt32))) :
    MetFree l (⟨"java/lang/Integer", "numberOfTrailingZeros", "(I)I"⟩ : MethodName) (head1 (Jvm.Cond.code (⟨"java/lang/Integer", "numberOfTrailingZeros", "(I)I"⟩ : MethodName) jdk_33_method_48_code 2 (some .int) :: ws) ({ frames := 0, cells := 0, slots := 0, locals := 0 } : Room)) (fun a U => a = #[(.int p1)] ∧ Z.Warmed39 U.vm ∧ U.heap = h0) (fun _ _ _ _ _ => True) (fun _ U o U' => ∃ v L, o = .returned v ∧ Q8 Z p1 h0 n0 v U'.heap L ∧ FrameEnd U o U' L ({ frames := 0, cells := 0, slots := 0, locals := 0 } : Room).cells ({ frames := 0, cells := 0, slots := 0, locals := 0 } : Room).slots) := by
  refine MetFree.of_bodySF (plainFor_of_name pn_8) hisR ?_
  intro p e s m args below meth c s₁ Bd hml0 hP hK
  obtain ⟨rfl, hZ, hh⟩ := hP
  have hx := Bd.exec
  have hby := Bd.bytes
  have hml : c.maxLocals = 2 := hml0
  have hown : s.vm.findClass "java/lang/Integer" = some m.cls := findClass_of_methodNamed Bd.named
  have hnm := (name_of_methodNamed Bd.named Bd.method).1
  have X0 : Stand p l e ({ frames := 0, cells := 0, slots := 0, locals := 0 } : Room) s m #[(.int p1)] below meth c s₁ [] 0 0 := Stand.of_body Bd
  have e0 : s₁.heap = h0 := by rw [← hh, Bd.state]; rfl
  have N0 := Fr.nil n0
  have pre0 : ∀ t, Steps p.tables e below (s₁.setTop (mkF m 0 #[.val (.int p1), .unset] [])) t → Steps p.tables e below (s₁.setTop (entryFrame m #[(.int p1)] 2)) t := fun t k => castTop (ef_8 m p1) k

  obtain ⟨fs, hr, hrun, hended, hW, hsame⟩ := X0.leave (v := some (.int ((((1 : Int32) + (8 : Int32)) + (4 : Int32)) + ((((((((p1 ^^^ (-1 : Int32)) &&& (p1 - (1 : Int32))).toUInt32 >>> ((8 : Int32) &&& 31).toUInt32).toInt32).toUInt32 >>> ((4 : Int32) &&& 31).toUInt32).toInt32).toUInt32 >>> ((1 : Int32) &&& 31).toUInt32).toInt32)))) (fun h => by rw [Bd.returns] at h; cases h)
  refine ⟨_, _, pre0 _ ?_, hrun, hended, _, _, rfl, ?_, ⟨_, rfl⟩, hW, hsame.mono (by decide) (by decide)⟩
  · show Steps p.tables e below (s₁.setTop (mkF m 0 #[.val (.int p1), .unset] [])) _
    refine XS.iloadN X0.here hx rfl (hb hby d8_0) rfl ?_
    show Steps p.tables e below (s₁.setTop (mkF m 1 #[.val (.int p1), .unset] [(.int p1)])) _
    refine XS.iconst X0.here hx rfl (hb hby d8_1) ?_
    show Steps p.tables e below (s₁.setTop (mkF m 2 #[.val (.int p1), .unset] [(.int (-1 : Int32)), (.int p1)])) _
    refine XS.ixor X0.here hx rfl (hb hby d8_2) rfl ?_
    show Steps p.tables e below (s₁.setTop (mkF m 3 #[.val (.int p1), .unset] [(.int (p1 ^^^ (-1 : Int32)))])) _
    refine XS.iloadN X0.here hx rfl (hb hby d8_3) rfl ?_
    show Steps p.tables e below (s₁.setTop (mkF m 4 #[.val (.int p1), .unset] [(.int p1), (.int (p1 ^^^ (-1 : Int32)))])) _
    refine XS.iconst X0.here hx rfl (hb hby d8_4) ?_
    show Steps p.tables e below (s₁.setTop (mkF m 5 #[.val (.int p1), .unset] [(.int (1 : Int32)), (.int p1), (.int (p1 ^^^ (-1 : Int32)))])) _
    refine XS.isub X0.here hx rfl (hb hby d8_5) rfl ?_
    show Steps p.tables e below (s₁.setTop (mkF m 6 #[.val (.int p1), .unset] [(.int (p1 - (1 : Int32))), (.int (p1 ^^^ (-1 : Int32)))])) _
    refine XS.iand X0.here hx rfl (hb hby d8_6) rfl ?_
    show Steps p.tables e below (s₁.setTop (mkF m 7 #[.val (.int p1), .unset] [(.int ((p1 ^^^ (-1 : Int32)) &&& (p1 - (1 : Int32))))])) _
    refine XS.istoreN X0.here hx rfl (hb hby d8_7) rfl (l' := #[.val (.int ((p1 ^^^ (-1 : Int32)) &&& (p1 - (1 : Int32)))), .unset]) rfl ?_
    show Steps p.tables e below (s₁.setTop (mkF m 8 #[.val (.int ((p1 ^^^ (-1 : Int32)) &&& (p1 - (1 : Int32)))), .unset] [])) _
    refine XS.iloadN X0.here hx rfl (hb hby d8_8) rfl ?_
    show Steps p.tables e below (s₁.setTop (mkF m 9 #[.val (.int ((p1 ^^^ (-1 : Int32)) &&& (p1 - (1 : Int32)))), .unset] [(.int ((p1 ^^^ (-1 : Int32)) &&& (p1 - (1 : Int32))))])) _
    refine XS.ifYes X0.here hx rfl (pc0 := 9) (pc' := 17) rfl (hb hby d8_9) rfl ((if0 _ _).trans (tlt hc9).2.2.1) (by decide) (by decide) ?_
    show Steps p.tables e below (s₁.setTop (mkF m 17 #[.val (.int ((p1 ^^^ (-1 : Int32)) &&& (p1 - (1 : Int32)))), .unset] [])) _
    refine XS.iconst X0.here hx rfl (hb hby d8_17) ?_
    show Steps p.tables e below (s₁.setTop (mkF m 18 #[.val (.int ((p1 ^^^ (-1 : Int32)) &&& (p1 - (1 : Int32)))), .unset] [(.int (1 : Int32))])) _
    refine XS.istoreN X0.here hx rfl (hb hby d8_18) rfl (l' := #[.val (.int ((p1 ^^^ (-1 : Int32)) &&& (p1 - (1 : Int32)))), .val (.int (1 : Int32))]) rfl ?_
    show Steps p.tables e below (s₁.setTop (mkF m 19 #[.val (.int ((p1 ^^^ (-1 : Int32)) &&& (p1 - (1 : Int32)))), .val (.int (1 : Int32))] [])) _
    refine XS.iloadN X0.here hx rfl (hb hby d8_19) rfl ?_
    show Steps p.tables e below (s₁.setTop (mkF m 20 #[.val (.int ((p1 ^^^ (-1 : Int32)) &&& (p1 - (1 : Int32)))), .val (.int (1 : Int32))] [(.int ((p1 ^^^ (-1 : Int32)) &&& (p1 - (1 : Int32))))])) _
    refine X0.ldcwInt hx hown (mvT hZ (hw _ (List.mem_of_getElem? (i := 57) rfl))) (g := (mkF m 20 #[.val (.int ((p1 ^^^ (-1 : Int32)) &&& (p1 - (1 : Int32)))), .val (.int (1 : Int32))] [(.int ((p1 ^^^ (-1 : Int32)) &&& (p1 - (1 : Int32))))])) rfl (hb hby d8_20) _ ?_
    show Steps p.tables e below (s₁.setTop (mkF m 23 #[.val (.int ((p1 ^^^ (-1 : Int32)) &&& (p1 - (1 : Int32)))), .val (.int (1 : Int32))] [(.int (65536 : Int32)), (.int ((p1 ^^^ (-1 : Int32)) &&& (p1 - (1 : Int32))))])) _
    refine XS.icmpYes X0.here hx rfl (pc0 := 23) (pc' := 34) rfl (hb hby d8_23) rfl (flt hc23).2.2.2 (by decide) (by decide) ?_
    show Steps p.tables e below (s₁.setTop (mkF m 34 #[.val (.int ((p1 ^^^ (-1 : Int32)) &&& (p1 - (1 : Int32)))), .val (.int (1 : Int32))] [])) _
    refine XS.iloadN X0.here hx rfl (hb hby d8_34) rfl ?_
    show Steps p.tables e below (s₁.setTop (mkF m 35 #[.val (.int ((p1 ^^^ (-1 : Int32)) &&& (p1 - (1 : Int32)))), .val (.int (1 : Int32))] [(.int ((p1 ^^^ (-1 : Int32)) &&& (p1 - (1 : Int32))))])) _
    refine XS.sipush X0.here hx rfl (hb hby d8_35) ?_
    show Steps p.tables e below (s₁.setTop (mkF m 38 #[.val (.int ((p1 ^^^ (-1 : Int32)) &&& (p1 - (1 : Int32)))), .val (.int (1 : Int32))] [(.int (256 : Int32)), (.int ((p1 ^^^ (-1 : Int32)) &&& (p1 - (1 : Int32))))])) _
    refine XS.icmpNo X0.here hx rfl (hb hby d8_38) rfl (tlt hc38).2.2.2 ?_
    show Steps p.tables e below (s₁.setTop (mkF m 41 #[.val (.int ((p1 ^^^ (-1 : Int32)) &&& (p1 - (1 : Int32)))), .val (.int (1 : Int32))] [])) _
    refine XS.iinc X0.here hx rfl (hb hby d8_41) rfl (l' := #[.val (.int ((p1 ^^^ (-1 : Int32)) &&& (p1 - (1 : Int32)))), .val (.int ((1 : Int32) + (8 : Int32)))]) rfl ?_
    show Steps p.tables e below (s₁.setTop (mkF m 44 #[.val (.int ((p1 ^^^ (-1 : Int32)) &&& (p1 - (1 : Int32)))), .val (.int ((1 : Int32) + (8 : Int32)))] [])) _
    refine XS.iloadN X0.here hx rfl (hb hby d8_44) rfl ?_
    show Steps p.tables e below (s₁.setTop (mkF m 45 #[.val (.int ((p1 ^^^ (-1 : Int32)) &&& (p1 - (1 : Int32)))), .val (.int ((1 : Int32) + (8 : Int32)))] [(.int ((p1 ^^^ (-1 : Int32)) &&& (p1 - (1 : Int32))))])) _
    refine XS.bipush X0.here hx rfl (hb hby d8_45) ?_
    show Steps p.tables e below (s₁.setTop (mkF m 47 #[.val (.int ((p1 ^^^ (-1 : Int32)) &&& (p1 - (1 : Int32)))), .val (.int ((1 : Int32) + (8 : Int32)))] [(.int (8 : Int32)), (.int ((p1 ^^^ (-1 : Int32)) &&& (p1 - (1 : Int32))))])) _
    refine XS.iushr X0.here hx rfl (hb hby d8_47) rfl ?_
    show Steps p.tables e below (s₁.setTop (mkF m 48 #[.val (.int ((p1 ^^^ (-1 : Int32)) &&& (p1 - (1 : Int32)))), .val (.int ((1 : Int32) + (8 : Int32)))] [(.int ((((p1 ^^^ (-1 : Int32)) &&& (p1 - (1 : Int32))).toUInt32 >>> ((8 : Int32) &&& 31).toUInt32).toInt32))])) _
    refine XS.istoreN X0.here hx rfl (hb hby d8_48) rfl (l' := #[.val (.int ((((p1 ^^^ (-1 : Int32)) &&& (p1 - (1 : Int32))).toUInt32 >>> ((8 : Int32) &&& 31).toUInt32).toInt32)), .val (.int ((1 : Int32) + (8 : Int32)))]) rfl ?_
    show Steps p.tables e below (s₁.setTop (mkF m 49 #[.val (.int ((((p1 ^^^ (-1 : Int32)) &&& (p1 - (1 : Int32))).toUInt32 >>> ((8 : Int32) &&& 31).toUInt32).toInt32)), .val (.int ((1 : Int32) + (8 : Int32)))] [])) _
    refine XS.iloadN X0.here hx rfl (hb hby d8_49) rfl ?_
    show Steps p.tables e below (s₁.setTop (mkF m 50 #[.val (.int ((((p1 ^^^ (-1 : Int32)) &&& (p1 - (1 : Int32))).toUInt32 >>> ((8 : Int32) &&& 31).toUInt32).toInt32)), .val (.int ((1 : Int32) + (8 : Int32)))] [(.int ((((p1 ^^^ (-1 : Int32)) &&& (p1 - (1 : Int32))).toUInt32 >>> ((8 : Int32) &&& 31).toUInt32).toInt32))])) _
    refine XS.bipush X0.here hx rfl (hb hby d8_50) ?_
    show Steps p.tables e below (s₁.setTop (mkF m 52 #[.val (.int ((((p1 ^^^ (-1 : Int32)) &&& (p1 - (1 : Int32))).toUInt32 >>> ((8 : Int32) &&& 31).toUInt32).toInt32)), .val (.int ((1 : Int32) + (8 : Int32)))] [(.int (16 : Int32)), (.int ((((p1 ^^^ (-1 : Int32)) &&& (p1 - (1 : Int32))).toUInt32 >>> ((8 : Int32) &&& 31).toUInt32).toInt32))])) _
    refine XS.icmpNo X0.here hx rfl (hb hby d8_52) rfl (tlt hc52).2.2.2 ?_
    show Steps p.tables e below (s₁.setTop (mkF m 55 #[.val (.int ((((p1 ^^^ (-1 : Int32)) &&& (p1 - (1 : Int32))).toUInt32 >>> ((8 : Int32) &&& 31).toUInt32).toInt32)), .val (.int ((1 : Int32) + (8 : Int32)))] [])) _
    refine XS.iinc X0.here hx rfl (hb hby d8_55) rfl (l' := #[.val (.int ((((p1 ^^^ (-1 : Int32)) &&& (p1 - (1 : Int32))).toUInt32 >>> ((8 : Int32) &&& 31).toUInt32).toInt32)), .val (.int (((1 : Int32) + (8 : Int32)) + (4 : Int32)))]) rfl ?_
    show Steps p.tables e below (s₁.setTop (mkF m 58 #[.val (.int ((((p1 ^^^ (-1 : Int32)) &&& (p1 - (1 : Int32))).toUInt32 >>> ((8 : Int32) &&& 31).toUInt32).toInt32)), .val (.int (((1 : Int32) + (8 : Int32)) + (4 : Int32)))] [])) _
    refine XS.iloadN X0.here hx rfl (hb hby d8_58) rfl ?_
    show Steps p.tables e below (s₁.setTop (mkF m 59 #[.val (.int ((((p1 ^^^ (-1 : Int32)) &&& (p1 - (1 : Int32))).toUInt32 >>> ((8 : Int32) &&& 31).toUInt32).toInt32)), .val (.int (((1 : Int32) + (8 : Int32)) + (4 : Int32)))] [(.int ((((p1 ^^^ (-1 : Int32)) &&& (p1 - (1 : Int32))).toUInt32 >>> ((8 : Int32) &&& 31).toUInt32).toInt32))])) _
    refine XS.iconst X0.here hx rfl (hb hby d8_59) ?_
    show Steps p.tables e below (s₁.setTop (mkF m 60 #[.val (.int ((((p1 ^^^ (-1 : Int32)) &&& (p1 - (1 : Int32))).toUInt32 >>> ((8 : Int32) &&& 31).toUInt32).toInt32)), .val (.int (((1 : Int32) + (8 : Int32)) + (4 : Int32)))] [(.int (4 : Int32)), (.int ((((p1 ^^^ (-1 : Int32)) &&& (p1 - (1 : Int32))).toUInt32 >>> ((8 : Int32) &&& 31).toUInt32).toInt32))])) _
    refine XS.iushr X0.here hx rfl (hb hby d8_60) rfl ?_
    show Steps p.tables e below (s₁.setTop (mkF m 61 #[.val (.int ((((p1 ^^^ (-1 : Int32)) &&& (p1 - (1 : Int32))).toUInt32 >>> ((8 : Int32) &&& 31).toUInt32).toInt32)), .val (.int (((1 : Int32) + (8 : Int32)) + (4 : Int32)))] [(.int ((((((p1 ^^^ (-1 : Int32)) &&& (p1 - (1 : Int32))).toUInt32 >>> ((8 : Int32) &&& 31).toUInt32).toInt32).toUInt32 >>> ((4 : Int32) &&& 31).toUInt32).toInt32))])) _
    refine XS.istoreN X0.here hx rfl (hb hby d8_61) rfl (l' := #[.val (.int ((((((p1 ^^^ (-1 : Int32)) &&& (p1 - (1 : Int32))).toUInt32 >>> ((8 : Int32) &&& 31).toUInt32).toInt32).toUInt32 >>> ((4 : Int32) &&& 31).toUInt32).toInt32)), .val (.int (((1 : Int32) + (8 : Int32)) + (4 : Int32)))]) rfl ?_
    show Steps p.tables e below (s₁.setTop (mkF m 62 #[.val (.int ((((((p1 ^^^ (-1 : Int32)) &&& (p1 - (1 : Int32))).toUInt32 >>> ((8 : Int32) &&& 31).toUInt32).toInt32).toUInt32 >>> ((4 : Int32) &&& 31).toUInt32).toInt32)), .val (.int (((1 : Int32) + (8 : Int32)) + (4 : Int32)))] [])) _
    refine XS.iloadN X0.here hx rfl (hb hby d8_62) rfl ?_
    show Steps p.tables e below (s₁.setTop (mkF m 63 #[.val (.int ((((((p1 ^^^ (-1 : Int32)) &&& (p1 - (1 : Int32))).toUInt32 >>> ((8 : Int32) &&& 31).toUInt32).toInt32).toUInt32 >>> ((4 : Int32) &&& 31).toUInt32).toInt32)), .val (.int (((1 : Int32) + (8 : Int32)) + (4 : Int32)))] [(.int ((((((p1 ^^^ (-1 : Int32)) &&& (p1 - (1 : Int32))).toUInt32 >>> ((8 : Int32) &&& 31).toUInt32).toInt32).toUInt32 >>> ((4 : Int32) &&& 31).toUInt32).toInt32))])) _
    refine XS.iconst X0.here hx rfl (hb hby d8_63) ?_
    show Steps p.tables e below (s₁.setTop (mkF m 64 #[.val (.int ((((((p1 ^^^ (-1 : Int32)) &&& (p1 - (1 : Int32))).toUInt32 >>> ((8 : Int32) &&& 31).toUInt32).toInt32).toUInt32 >>> ((4 : Int32) &&& 31).toUInt32).toInt32)), .val (.int (((1 : Int32) + (8 : Int32)) + (4 : Int32)))] [(.int (4 : Int32)), (.int ((((((p1 ^^^ (-1 : Int32)) &&& (p1 - (1 : Int32))).toUInt32 >>> ((8 : Int32) &&& 31).toUInt32).toInt32).toUInt32 >>> ((4 : Int32) &&& 31).toUInt32).toInt32))])) _
    refine XS.icmpYes X0.here hx rfl (pc0 := 64) (pc' := 74) rfl (hb hby d8_64) rfl (flt hc64).2.2.2 (by decide) (by decide) ?_
    show Steps p.tables e below (s₁.setTop (mkF m 74 #[.val (.int ((((((p1 ^^^ (-1 : Int32)) &&& (p1 - (1 : Int32))).toUInt32 >>> ((8 : Int32) &&& 31).toUInt32).toInt32).toUInt32 >>> ((4 : Int32) &&& 31).toUInt32).toInt32)), .val (.int (((1 : Int32) + (8 : Int32)) + (4 : Int32)))] [])) _
    refine XS.iloadN X0.here hx rfl (hb hby d8_74) rfl ?_
    show Steps p.tables e below (s₁.setTop (mkF m 75 #[.val (.int ((((((p1 ^^^ (-1 : Int32)) &&& (p1 - (1 : Int32))).toUInt32 >>> ((8 : Int32) &&& 31).toUInt32).toInt32).toUInt32 >>> ((4 : Int32) &&& 31).toUInt32).toInt32)), .val (.int (((1 : Int32) + (8 : Int32)) + (4 : Int32)))] [(.int (((1 : Int32) + (8 : Int32)) + (4 : Int32)))])) _
    refine XS.iloadN X0.here hx rfl (hb hby d8_75) rfl ?_
    show Steps p.tables e below (s₁.setTop (mkF m 76 #[.val (.int ((((((p1 ^^^ (-1 : Int32)) &&& (p1 - (1 : Int32))).toUInt32 >>> ((8 : Int32) &&& 31).toUInt32).toInt32).toUInt32 >>> ((4 : Int32) &&& 31).toUInt32).toInt32)), .val (.int (((1 : Int32) + (8 : Int32)) + (4 : Int32)))] [(.int ((((((p1 ^^^ (-1 : Int32)) &&& (p1 - (1 : Int32))).toUInt32 >>> ((8 : Int32) &&& 31).toUInt32).toInt32).toUInt32 >>> ((4 : Int32) &&& 31).toUInt32).toInt32)), (.int (((1 : Int32) + (8 : Int32)) + (4 : Int32)))])) _
    refine XS.iconst X0.here hx rfl (hb hby d8_76) ?_
    show Steps p.tables e below (s₁.setTop (mkF m 77 #[.val (.int ((((((p1 ^^^ (-1 : Int32)) &&& (p1 - (1 : Int32))).toUInt32 >>> ((8 : Int32) &&& 31).toUInt32).toInt32).toUInt32 >>> ((4 : Int32) &&& 31).toUInt32).toInt32)), .val (.int (((1 : Int32) + (8 : Int32)) + (4 : Int32)))] [(.int (1 : Int32)), (.int ((((((p1 ^^^ (-1 : Int32)) &&& (p1 - (1 : Int32))).toUInt32 >>> ((8 : Int32) &&& 31).toUInt32).toInt32).toUInt32 >>> ((4 : Int32) &&& 31).toUInt32).toInt32)), (.int (((1 : Int32) + (8 : Int32)) + (4 : Int32)))])) _
    refine XS.iushr X0.here hx rfl (hb hby d8_77) rfl ?_
    show Steps p.tables e below (s₁.setTop (mkF m 78 #[.val (.int ((((((p1 ^^^ (-1 : Int32)) &&& (p1 - (1 : Int32))).toUInt32 >>> ((8 : Int32) &&& 31).toUInt32).toInt32).toUInt32 >>> ((4 : Int32) &&& 31).toUInt32).toInt32)), .val (.int (((1 : Int32) + (8 : Int32)) + (4 : Int32)))] [(.int ((((((((p1 ^^^ (-1 : Int32)) &&& (p1 - (1 : Int32))).toUInt32 >>> ((8 : Int32) &&& 31).toUInt32).toInt32).toUInt32 >>> ((4 : Int32) &&& 31).toUInt32).toInt32).toUInt32 >>> ((1 : Int32) &&& 31).toUInt32).toInt32)), (.int (((1 : Int32) + (8 : Int32)) + (4 : Int32)))])) _
    refine XS.iadd X0.here hx rfl (hb hby d8_78) rfl ?_
    show Steps p.tables e below (s₁.setTop (mkF m 79 #[.val (.int ((((((p1 ^^^ (-1 : Int32)) &&& (p1 - (1 : Int32))).toUInt32 >>> ((8 : Int32) &&& 31).toUInt32).toInt32).toUInt32 >>> ((4 : Int32) &&& 31).toUInt32).toInt32)), .val (.int (((1 : Int32) + (8 : Int32)) + (4 : Int32)))] [(.int ((((1 : Int32) + (8 : Int32)) + (4 : Int32)) + ((((((((p1 ^^^ (-1 : Int32)) &&& (p1 - (1 : Int32))).toUInt32 >>> ((8 : Int32) &&& 31).toUInt32).toInt32).toUInt32 >>> ((4 : Int32) &&& 31).toUInt32).toInt32).toUInt32 >>> ((1 : Int32) &&& 31).toUInt32).toInt32)))])) _
    exact retI X0 hx Bd.returns (hb hby d8_79) hr
  · show Q8 Z p1 h0 n0 _ s₁.heap _
    rw [e0]
    exact ⟨rfl, N0, rfl⟩
theorem d6_0 : decode prog_41_method_8_code 0 = .ok (.iload_n 3, 1) := by decide +kernel
theorem d6_1 : decode prog_41_method_8_code 1 = .ok (.ifCond .ne 5, 3) := by decide +kernel
theorem d6_6 : decode prog_41_method_8_code 6 = .ok (.iload_n 2, 1) := by decide +kernel
theorem d6_7 : decode prog_41_method_8_code 7 = .ok (.ifCond .ne 9, 3) := by decide +kernel
theorem d6_10 : decode prog_41_method_8_code 10 = .ok (.iload_n 3, 1) := by decide +kernel
theorem d6_11 : decode prog_41_method_8_code 11 = .ok (.bipush 64, 2) := by decide +kernel
theorem d6_13 : decode prog_41_method_8_code 13 = .ok (.if_icmp .gt 38, 3) := by decide +kernel
theorem d6_51 : decode prog_41_method_8_code 51 = .ok (.aload_n 0, 1) := by decide +kernel
theorem d6_52 : decode prog_41_method_8_code 52 = .ok (.ifnull 29, 3) := by decide +kernel
theorem d6_55 : decode prog_41_method_8_code 55 = .ok (.aload_n 0, 1) := by decide +kernel
theorem d6_56 : decode prog_41_method_8_code 56 = .ok (.iload_n 1, 1) := by decide +kernel
theorem d6_57 : decode prog_41_method_8_code 57 = .ok (.bipush 64, 2) := by decide +kernel
theorem d6_59 : decode prog_41_method_8_code 59 = .ok (.iload_n 3, 1) := by decide +kernel
theorem d6_60 : decode prog_41_method_8_code 60 = .ok (.iconst 1, 1) := by decide +kernel
theorem d6_61 : decode prog_41_method_8_code 61 = .ok (.isub, 1) := by decide +kernel
theorem d6_62 : decode prog_41_method_8_code 62 = .ok (.bipush 8, 2) := by decide +kernel
theorem d6_64 : decode prog_41_method_8_code 64 = .ok (.iushr, 1) := by decide +kernel
theorem d6_65 : decode prog_41_method_8_code 65 = .ok (.ior, 1) := by decide +kernel
theorem d6_66 : decode prog_41_method_8_code 66 = .ok (.i2b, 1) := by decide +kernel
theorem d6_67 : decode prog_41_method_8_code 67 = .ok (.bastore, 1) := by decide +kernel
theorem d6_68 : decode prog_41_method_8_code 68 = .ok (.aload_n 0, 1) := by decide +kernel
theorem d6_69 : decode prog_41_method_8_code 69 = .ok (.iload_n 1, 1) := by decide +kernel
theorem d6_70 : decode prog_41_method_8_code 70 = .ok (.iconst 1, 1) := by decide +kernel
theorem d6_71 : decode prog_41_method_8_code 71 = .ok (.iadd, 1) := by decide +kernel
theorem d6_72 : decode prog_41_method_8_code 72 = .ok (.iload_n 3, 1) := by decide +kernel
theorem d6_73 : decode prog_41_method_8_code 73 = .ok (.iconst 1, 1) := by decide +kernel
theorem d6_74 : decode prog_41_method_8_code 74 = .ok (.isub, 1) := by decide +kernel
theorem d6_75 : decode prog_41_method_8_code 75 = .ok (.sipush 255, 3) := by decide +kernel
theorem d6_78 : decode prog_41_method_8_code 78 = .ok (.iand, 1) := by decide +kernel
theorem d6_79 : decode prog_41_method_8_code 79 = .ok (.i2b, 1) := by decide +kernel
theorem d6_80 : decode prog_41_method_8_code 80 = .ok (.bastore, 1) := by decide +kernel
theorem d6_81 : decode prog_41_method_8_code 81 = .ok (.iload_n 1, 1) := by decide +kernel
theorem d6_82 : decode prog_41_method_8_code 82 = .ok (.iconst 2, 1) := by decide +kernel
theorem d6_83 : decode prog_41_method_8_code 83 = .ok (.iadd, 1) := by decide +kernel
theorem d6_84 : decode prog_41_method_8_code 84 = .ok (.ireturn, 1) := by decide +kernel
theorem pn_6 : plainName "com/example/hakari/hakari/SparseRegisters" = true := by first | (simp [plainName, overriddenIn]; done) | decide +kernel
theorem ef_6 (m : MethodId) (x0 : Addr) (x1 : Int32) (x2 : Int32) (x3 : Int32) : entryFrame m #[(.ref x0), (.int x1), (.int x2), (.int x3)] 4 = mkF m 0 #[.val (.ref x0), .val (.int x1), .val (.int x2), .val (.int x3)] [] := by first | (simp [entryFrame, mkF, argsToLocals, Value.category]; done) | rfl
def Q6 (Z : State) (a1 : Addr) (p2 : Int32) (p3 : Int32) (p4 : Int32) (cl_a1 : Cell) (h0 : Heap) (n0 : Nat) (v : Option Value) (h : Heap) (L : List Loc) : Prop := v = some (.int (p2 + (2 : Int32))) ∧ Fr n0 L ∧ Keep h0 h [a1]
set_option maxRecDepth 65536 in
set_option maxHeartbeats 40000000 in
theorem rm6 (l : Launch) (Z : State) (a0 : Array Value) (hw : ∀ d ∈ tables_1, d.before a0 Z = true) (ws : List Jvm.Cond) (a1 : Addr) (p2 : Int32) (p3 : Int32) (p4 : Int32) (cl_a1 : Cell) (h0 : Heap) (n0 : Nat) (Z0 : n0 ≤ h0.size) (Ar_a1 : Arr Z h0 a1 cl_a1 .byte) (hin67 : ¬ (p2 < 0 ∨ cl_a1.slots.size ≤ (p2).toNatClampNeg)) (g_a1 : n0 ≤ a1) (hin80 : ¬ ((p2 + (1 : Int32)) < 0 ∨ cl_a1.slots.size ≤ ((p2 + (1 : Int32))).toNatClampNeg)) (hc1 : ¬ (p4 = (0 : Int32))) (hc7 : p3 = (0 : Int32)) (hc13 : (64 : Int32) < p4) :
    MetFree l (⟨"com/example/hakari/hakari/SparseRegisters", "putOpcode", "([BIII)I"⟩ : MethodName) (head1 (Jvm.Cond.code (⟨"com/example/hakari/hakari/SparseRegisters", "putOpcode", "([BIII)I"⟩ : MethodName) prog_41_method_8_code 4 (some .int) :: ws) ({ frames := 0, cells := 0, slots := 0, locals := 0 } : Room)) (fun a U => a = #[(.ref a1), (.int p2), (.int p3), (.int p4)] ∧ Z.Warmed39 U.vm ∧ U.heap = h0) (fun _ _ _ _ _ => True) (fun _ U o U' => ∃ v L, o = .returned v ∧ Q6 Z a1 p2 p3 p4 cl_a1 h0 n0 v U'.heap L ∧ FrameEnd U o U' L ({ frames := 0, cells := 0, slots := 0, locals := 0 } : Room).cells ({ frames := 0, cells := 0, slots := 0, locals := 0 } : Room).slots) := by
  refine MetFree.of_bodySF (plainFor_of_name pn_6) hisR ?_
  intro p e s m args below meth c s₁ Bd hml0 hP hK
  obtain ⟨rfl, hZ, hh⟩ := hP
  have hx := Bd.exec
  have hby := Bd.bytes
  have hml : c.maxLocals = 4 := hml0
  have hown : s.vm.findClass "com/example/hakari/hakari/SparseRegisters" = some m.cls := findClass_of_methodNamed Bd.named
  have hnm := (name_of_methodNamed Bd.named Bd.method).1
  have X0 : Stand p l e ({ frames := 0, cells := 0, slots := 0, locals := 0 } : Room) s m #[(.ref a1), (.int p2), (.int p3), (.int p4)] below meth c s₁ [] 0 0 := Stand.of_body Bd
  have e0 : s₁.heap = h0 := by rw [← hh, Bd.state]; rfl
  have N0 := Fr.nil n0
  have pre0 : ∀ t, Steps p.tables e below (s₁.setTop (mkF m 0 #[.val (.ref a1), .val (.int p2), .val (.int p3), .val (.int p4)] [])) t → Steps p.tables e below (s₁.setTop (entryFrame m #[(.ref a1), (.int p2), (.int p3), (.int p4)] 4)) t := fun t k => castTop (ef_6 m a1 p2 p3 p4) k
  obtain ⟨T5, h5, X5, e5, W5, st5⟩ := stB X0 hx hZ e0 Ar_a1 (j := p2) hin67 (g := (mkF m 67 #[.val (.ref a1), .val (.int p2), .val (.int p3), .val (.int p4)] [(.int (((64 : Int32) ||| (((p4 - (1 : Int32)).toUInt32 >>> ((8 : Int32) &&& 31).toUInt32).toInt32)).toInt8.toInt32)), (.int p2), (.ref a1)])) rfl rfl (hb hby d6_67)
  have N5 := Fr.snoc X5 N0 g_a1
  have K5 : Keep h0 h5 [a1] := (Keep.refl h0 [a1]).wr W5 (Or.inl (List.mem_of_getElem? (i := 0) rfl))
  obtain ⟨T6, h6, X6, e6, W6, st6⟩ := stB X5 hx hZ e5 (Ar_a1.same W5) (j := (p2 + (1 : Int32))) (by rw [sz_set]; exact hin80) (g := (mkF m 80 #[.val (.ref a1), .val (.int p2), .val (.int p3), .val (.int p4)] [(.int (((p4 - (1 : Int32)) &&& (255 : Int32)).toInt8.toInt32)), (.int (p2 + (1 : Int32))), (.ref a1)])) rfl rfl (hb hby d6_80)
  have N6 := Fr.snoc X6 N5 g_a1
  have K6 : Keep h0 h6 [a1] := K5.wr W6 (Or.inl (List.mem_of_getElem? (i := 0) rfl))
  obtain ⟨fs, hr, hrun, hended, hW, hsame⟩ := X6.leave (v := some (.int (p2 + (2 : Int32)))) (fun h => by rw [Bd.returns] at h; cases h)
  refine ⟨_, _, pre0 _ ?_, hrun, hended, _, _, rfl, ?_, ⟨_, rfl⟩, hW, hsame.mono (by decide) (by decide)⟩
  · show Steps p.tables e below (s₁.setTop (mkF m 0 #[.val (.ref a1), .val (.int p2), .val (.int p3), .val (.int p4)] [])) _
    refine XS.iloadN X0.here hx rfl (hb hby d6_0) rfl ?_
    show Steps p.tables e below (s₁.setTop (mkF m 1 #[.val (.ref a1), .val (.int p2), .val (.int p3), .val (.int p4)] [(.int p4)])) _
    refine XS.ifYes X0.here hx rfl (pc0 := 1) (pc' := 6) rfl (hb hby d6_1) rfl ((if0 _ _).trans (feq hc1).2) (by decide) (by decide) ?_
    show Steps p.tables e below (s₁.setTop (mkF m 6 #[.val (.ref a1), .val (.int p2), .val (.int p3), .val (.int p4)] [])) _
    refine XS.iloadN X0.here hx rfl (hb hby d6_6) rfl ?_
    show Steps p.tables e below (s₁.setTop (mkF m 7 #[.val (.ref a1), .val (.int p2), .val (.int p3), .val (.int p4)] [(.int p3)])) _
    refine XS.ifNo X0.here hx rfl (hb hby d6_7) rfl ((if0 _ _).trans (teq hc7).2) ?_
    show Steps p.tables e below (s₁.setTop (mkF m 10 #[.val (.ref a1), .val (.int p2), .val (.int p3), .val (.int p4)] [])) _
    refine XS.iloadN X0.here hx rfl (hb hby d6_10) rfl ?_
    show Steps p.tables e below (s₁.setTop (mkF m 11 #[.val (.ref a1), .val (.int p2), .val (.int p3), .val (.int p4)] [(.int p4)])) _
    refine XS.bipush X0.here hx rfl (hb hby d6_11) ?_
    show Steps p.tables e below (s₁.setTop (mkF m 13 #[.val (.ref a1), .val (.int p2), .val (.int p3), .val (.int p4)] [(.int (64 : Int32)), (.int p4)])) _
    refine XS.icmpYes X0.here hx rfl (pc0 := 13) (pc' := 51) rfl (hb hby d6_13) rfl (tlt hc13).2.2.1 (by decide) (by decide) ?_
    show Steps p.tables e below (s₁.setTop (mkF m 51 #[.val (.ref a1), .val (.int p2), .val (.int p3), .val (.int p4)] [])) _
    refine XS.aloadN X0.here hx rfl (hb hby d6_51) rfl rfl ?_
    show Steps p.tables e below (s₁.setTop (mkF m 52 #[.val (.ref a1), .val (.int p2), .val (.int p3), .val (.int p4)] [(.ref a1)])) _
    refine XS.ifnullNo X0.here hx rfl (hb hby d6_52) rfl ?_
    show Steps p.tables e below (s₁.setTop (mkF m 55 #[.val (.ref a1), .val (.int p2), .val (.int p3), .val (.int p4)] [])) _
    refine XS.aloadN X0.here hx rfl (hb hby d6_55) rfl rfl ?_
    show Steps p.tables e below (s₁.setTop (mkF m 56 #[.val (.ref a1), .val (.int p2), .val (.int p3), .val (.int p4)] [(.ref a1)])) _
    refine XS.iloadN X0.here hx rfl (hb hby d6_56) rfl ?_
    show Steps p.tables e below (s₁.setTop (mkF m 57 #[.val (.ref a1), .val (.int p2), .val (.int p3), .val (.int p4)] [(.int p2), (.ref a1)])) _
    refine XS.bipush X0.here hx rfl (hb hby d6_57) ?_
    show Steps p.tables e below (s₁.setTop (mkF m 59 #[.val (.ref a1), .val (.int p2), .val (.int p3), .val (.int p4)] [(.int (64 : Int32)), (.int p2), (.ref a1)])) _
    refine XS.iloadN X0.here hx rfl (hb hby d6_59) rfl ?_
    show Steps p.tables e below (s₁.setTop (mkF m 60 #[.val (.ref a1), .val (.int p2), .val (.int p3), .val (.int p4)] [(.int p4), (.int (64 : Int32)), (.int p2), (.ref a1)])) _
    refine XS.iconst X0.here hx rfl (hb hby d6_60) ?_
    show Steps p.tables e below (s₁.setTop (mkF m 61 #[.val (.ref a1), .val (.int p2), .val (.int p3), .val (.int p4)] [(.int (1 : Int32)), (.int p4), (.int (64 : Int32)), (.int p2), (.ref a1)])) _
    refine XS.isub X0.here hx rfl (hb hby d6_61) rfl ?_
    show Steps p.tables e below (s₁.setTop (mkF m 62 #[.val (.ref a1), .val (.int p2), .val (.int p3), .val (.int p4)] [(.int (p4 - (1 : Int32))), (.int (64 : Int32)), (.int p2), (.ref a1)])) _
    refine XS.bipush X0.here hx rfl (hb hby d6_62) ?_
    show Steps p.tables e below (s₁.setTop (mkF m 64 #[.val (.ref a1), .val (.int p2), .val (.int p3), .val (.int p4)] [(.int (8 : Int32)), (.int (p4 - (1 : Int32))), (.int (64 : Int32)), (.int p2), (.ref a1)])) _
    refine XS.iushr X0.here hx rfl (hb hby d6_64) rfl ?_
    show Steps p.tables e below (s₁.setTop (mkF m 65 #[.val (.ref a1), .val (.int p2), .val (.int p3), .val (.int p4)] [(.int (((p4 - (1 : Int32)).toUInt32 >>> ((8 : Int32) &&& 31).toUInt32).toInt32)), (.int (64 : Int32)), (.int p2), (.ref a1)])) _
    refine XS.ior X0.here hx rfl (hb hby d6_65) rfl ?_
    show Steps p.tables e below (s₁.setTop (mkF m 66 #[.val (.ref a1), .val (.int p2), .val (.int p3), .val (.int p4)] [(.int ((64 : Int32) ||| (((p4 - (1 : Int32)).toUInt32 >>> ((8 : Int32) &&& 31).toUInt32).toInt32))), (.int p2), (.ref a1)])) _
    refine XS.i2b X0.here hx rfl (hb hby d6_66) rfl ?_
    show Steps p.tables e below (s₁.setTop (mkF m 67 #[.val (.ref a1), .val (.int p2), .val (.int p3), .val (.int p4)] [(.int (((64 : Int32) ||| (((p4 - (1 : Int32)).toUInt32 >>> ((8 : Int32) &&& 31).toUInt32).toInt32)).toInt8.toInt32)), (.int p2), (.ref a1)])) _
    refine st5 _ ?_
    show Steps p.tables e below (T5.setTop (mkF m 68 #[.val (.ref a1), .val (.int p2), .val (.int p3), .val (.int p4)] [])) _
    refine XS.aloadN X5.here hx rfl (hb hby d6_68) rfl rfl ?_
    show Steps p.tables e below (T5.setTop (mkF m 69 #[.val (.ref a1), .val (.int p2), .val (.int p3), .val (.int p4)] [(.ref a1)])) _
    refine XS.iloadN X5.here hx rfl (hb hby d6_69) rfl ?_
    show Steps p.tables e below (T5.setTop (mkF m 70 #[.val (.ref a1), .val (.int p2), .val (.int p3), .val (.int p4)] [(.int p2), (.ref a1)])) _
    refine XS.iconst X5.here hx rfl (hb hby d6_70) ?_
    show Steps p.tables e below (T5.setTop (mkF m 71 #[.val (.ref a1), .val (.int p2), .val (.int p3), .val (.int p4)] [(.int (1 : Int32)), (.int p2), (.ref a1)])) _
    refine XS.iadd X5.here hx rfl (hb hby d6_71) rfl ?_
    show Steps p.tables e below (T5.setTop (mkF m 72 #[.val (.ref a1), .val (.int p2), .val (.int p3), .val (.int p4)] [(.int (p2 + (1 : Int32))), (.ref a1)])) _
    refine XS.iloadN X5.here hx rfl (hb hby d6_72) rfl ?_
    show Steps p.tables e below (T5.setTop (mkF m 73 #[.val (.ref a1), .val (.int p2), .val (.int p3), .val (.int p4)] [(.int p4), (.int (p2 + (1 : Int32))), (.ref a1)])) _
    refine XS.iconst X5.here hx rfl (hb hby d6_73) ?_
    show Steps p.tables e below (T5.setTop (mkF m 74 #[.val (.ref a1), .val (.int p2), .val (.int p3), .val (.int p4)] [(.int (1 : Int32)), (.int p4), (.int (p2 + (1 : Int32))), (.ref a1)])) _
    refine XS.isub X5.here hx rfl (hb hby d6_74) rfl ?_
    show Steps p.tables e below (T5.setTop (mkF m 75 #[.val (.ref a1), .val (.int p2), .val (.int p3), .val (.int p4)] [(.int (p4 - (1 : Int32))), (.int (p2 + (1 : Int32))), (.ref a1)])) _
    refine XS.sipush X5.here hx rfl (hb hby d6_75) ?_
    show Steps p.tables e below (T5.setTop (mkF m 78 #[.val (.ref a1), .val (.int p2), .val (.int p3), .val (.int p4)] [(.int (255 : Int32)), (.int (p4 - (1 : Int32))), (.int (p2 + (1 : Int32))), (.ref a1)])) _
    refine XS.iand X5.here hx rfl (hb hby d6_78) rfl ?_
    show Steps p.tables e below (T5.setTop (mkF m 79 #[.val (.ref a1), .val (.int p2), .val (.int p3), .val (.int p4)] [(.int ((p4 - (1 : Int32)) &&& (255 : Int32))), (.int (p2 + (1 : Int32))), (.ref a1)])) _
    refine XS.i2b X5.here hx rfl (hb hby d6_79) rfl ?_
    show Steps p.tables e below (T5.setTop (mkF m 80 #[.val (.ref a1), .val (.int p2), .val (.int p3), .val (.int p4)] [(.int (((p4 - (1 : Int32)) &&& (255 : Int32)).toInt8.toInt32)), (.int (p2 + (1 : Int32))), (.ref a1)])) _
    refine st6 _ ?_
    show Steps p.tables e below (T6.setTop (mkF m 81 #[.val (.ref a1), .val (.int p2), .val (.int p3), .val (.int p4)] [])) _
    refine XS.iloadN X6.here hx rfl (hb hby d6_81) rfl ?_
    show Steps p.tables e below (T6.setTop (mkF m 82 #[.val (.ref a1), .val (.int p2), .val (.int p3), .val (.int p4)] [(.int p2)])) _
    refine XS.iconst X6.here hx rfl (hb hby d6_82) ?_
    show Steps p.tables e below (T6.setTop (mkF m 83 #[.val (.ref a1), .val (.int p2), .val (.int p3), .val (.int p4)] [(.int (2 : Int32)), (.int p2)])) _
    refine XS.iadd X6.here hx rfl (hb hby d6_83) rfl ?_
    show Steps p.tables e below (T6.setTop (mkF m 84 #[.val (.ref a1), .val (.int p2), .val (.int p3), .val (.int p4)] [(.int (p2 + (2 : Int32)))])) _
    exact retI X6 hx Bd.returns (hb hby d6_84) hr
  · show Q6 Z a1 p2 p3 p4 cl_a1 h0 n0 _ T6.heap _
    rw [e6]
    exact ⟨rfl, N6, K6⟩
theorem d2_0 : decode prog_45_method_1_code 0 = .ok (.aload_n 0, 1) := by decide +kernel
theorem d2_1 : decode prog_45_method_1_code 1 = .ok (.invokespecial 3, 3) := by decide +kernel
theorem d2_4 : decode prog_45_method_1_code 4 = .ok (.aload_n 0, 1) := by decide +kernel
theorem d2_5 : decode prog_45_method_1_code 5 = .ok (.aload_n 1, 1) := by decide +kernel
theorem d2_6 : decode prog_45_method_1_code 6 = .ok (.putfield 9, 3) := by decide +kernel
theorem d2_9 : decode prog_45_method_1_code 9 = .ok (.aload_n 0, 1) := by decide +kernel
theorem d2_10 : decode prog_45_method_1_code 10 = .ok (.iload_n 2, 1) := by decide +kernel
theorem d2_11 : decode prog_45_method_1_code 11 = .ok (.putfield 15, 3) := by decide +kernel
theorem d2_14 : decode prog_45_method_1_code 14 = .ok (.return_, 1) := by decide +kernel
theorem pn_2 : plainName "com/example/hakari/hakari/SparseRegisters$Writer" = true := by first | (simp [plainName, overriddenIn]; done) | decide +kernel
theorem ef_2 (m : MethodId) (x0 : Addr) (x1 : Addr) (x2 : Int32) : entryFrame m #[(.ref x0), (.ref x1), (.int x2)] 3 = mkF m 0 #[.val (.ref x0), .val (.ref x1), .val (.int x2)] [] := by first | (simp [entryFrame, mkF, argsToLocals, Value.category]; done) | rfl
def Q2 (Z : State) (a1 : Addr) (a2 : Addr) (p3 : Int32) (u_bytes_a1 : Value) (u_position_a1 : Value) (u_rv u_rc : Value) (h0 : Heap) (n0 : Nat) (v : Option Value) (h : Heap) (L : List Loc) : Prop := v = none ∧ Fr n0 L ∧ Keep h0 h [a1] ∧ Exa Z h a1 "com/example/hakari/hakari/SparseRegisters$Writer" ∧ Fld Z h a1 "com/example/hakari/hakari/SparseRegisters$Writer" "bytes" "[B" (.ref a2) ∧ Fld Z h a1 "com/example/hakari/hakari/SparseRegisters$Writer" "position" "I" (.int p3) ∧ Fld Z h a1 "com/example/hakari/hakari/SparseRegisters$Writer" "runValue" "I" u_rv ∧ Fld Z h a1 "com/example/hakari/hakari/SparseRegisters$Writer" "runCount" "I" u_rc
set_option maxRecDepth 65536 in
set_option maxHeartbeats 40000000 in
theorem rm2 (l : Launch) (Z : State) (a0 : Array Value) (hw : ∀ d ∈ tables_1, d.before a0 Z = true) (ws : List Jvm.Cond) (a1 : Addr) (a2 : Addr) (p3 : Int32) (u_bytes_a1 : Value) (u_position_a1 : Value) (u_rv u_rc : Value) (h0 : Heap) (n0 : Nat) (Z0 : n0 ≤ h0.size) (E_a1 : Exa Z h0 a1 "com/example/hakari/hakari/SparseRegisters$Writer") (F_bytes_a1 : Fld Z h0 a1 "com/example/hakari/hakari/SparseRegisters$Writer" "bytes" "[B" u_bytes_a1) (g_a1 : n0 ≤ a1) (F_position_a1 : Fld Z h0 a1 "com/example/hakari/hakari/SparseRegisters$Writer" "position" "I" u_position_a1) (F_rv : Fld Z h0 a1 "com/example/hakari/hakari/SparseRegisters$Writer" "runValue" "I" u_rv) (F_rc : Fld Z h0 a1 "com/example/hakari/hakari/SparseRegisters$Writer" "runCount" "I" u_rc) :
    MetFree l (⟨"com/example/hakari/hakari/SparseRegisters$Writer", "<init>", "([BI)V"⟩ : MethodName) (head1 (Jvm.Cond.code (⟨"com/example/hakari/hakari/SparseRegisters$Writer", "<init>", "([BI)V"⟩ : MethodName) prog_45_method_1_code 3 none :: ws) ({ frames := 1, cells := 0, slots := 0, locals := 12 } : Room)) (fun a U => a = #[(.ref a1), (.ref a2), (.int p3)] ∧ Z.Warmed39 U.vm ∧ U.heap = h0) (fun _ _ _ _ _ => True) (fun _ U o U' => ∃ v L, o = .returned v ∧ Q2 Z a1 a2 p3 u_bytes_a1 u_position_a1 u_rv u_rc h0 n0 v U'.heap L ∧ FrameEnd U o U' L ({ frames := 1, cells := 0, slots := 0, locals := 12 } : Room).cells ({ frames := 1, cells := 0, slots := 0, locals := 12 } : Room).slots) := by
  refine MetFree.of_bodySF (plainFor_of_name pn_2) hisR ?_
  intro p e s m args below meth c s₁ Bd hml0 hP hK
  obtain ⟨rfl, hZ, hh⟩ := hP
  have hx := Bd.exec
  have hby := Bd.bytes
  have hml : c.maxLocals = 3 := hml0
  have hown : s.vm.findClass "com/example/hakari/hakari/SparseRegisters$Writer" = some m.cls := findClass_of_methodNamed Bd.named
  have hnm := (name_of_methodNamed Bd.named Bd.method).1
  have X0 : Stand p l e ({ frames := 1, cells := 0, slots := 0, locals := 12 } : Room) s m #[(.ref a1), (.ref a2), (.int p3)] below meth c s₁ [] 0 0 := Stand.of_body Bd
  have e0 : s₁.heap = h0 := by rw [← hh, Bd.state]; rfl
  have N0 := Fr.nil n0
  have pre0 : ∀ t, Steps p.tables e below (s₁.setTop (mkF m 0 #[.val (.ref a1), .val (.ref a2), .val (.int p3)] [])) t → Steps p.tables e below (s₁.setTop (entryFrame m #[(.ref a1), (.ref a2), (.int p3)] 3)) t := fun t k => castTop (ef_2 m a1 a2 p3) k
  obtain ⟨T4, X4, e4, st4⟩ := initO X0 hx hZ hown (hw _ (List.mem_of_getElem? (i := 14) rfl)) (hw _ (List.mem_of_getElem? (i := 15) rfl)) (hw _ (List.mem_of_getElem? (i := 16) rfl)) e0 (g := (mkF m 1 #[.val (.ref a1), .val (.ref a2), .val (.int p3)] [(.ref a1)])) rfl (by rw [hml]; rfl) rfl (hb hby d2_1) (by decide) (W := 0) (by show 2 * 0 + _ ≤ _; exact Nat.le_of_eq rfl) (by decide)
  obtain ⟨T5, h5, X5, e5, W5, st5⟩ := putF X4 hx hZ hown (host := "") (Or.inl (hw _ (List.mem_of_getElem? (i := 17) rfl))) Via.refl e4 F_bytes_a1 E_a1 (Or.inr ⟨(hw _ (List.mem_of_getElem? (i := 18) rfl)), rfl, hnm⟩) (hw _ (List.mem_of_getElem? (i := 9) rfl)) (ty := (.array .byte)) (by decide) rfl rfl (g := (mkF m 6 #[.val (.ref a1), .val (.ref a2), .val (.int p3)] [(.ref a2), (.ref a1)])) rfl rfl (hb hby d2_6)
  have Fw5 := F_bytes_a1.same W5
  have K5 : Keep h0 h5 [a1] := (Keep.refl h0 [a1]).wr W5 (Or.inl (List.mem_of_getElem? (i := 0) rfl))
  have N5 := Fr.snoc X5 N0 g_a1
  obtain ⟨T6, h6, X6, e6, W6, st6⟩ := putF X5 hx hZ hown (host := "") (Or.inl (hw _ (List.mem_of_getElem? (i := 19) rfl))) Via.refl e5 (F_position_a1.other W5 (Or.inr (slot_ne (Or.inl (hw _ (List.mem_of_getElem? (i := 20) rfl))) (Or.inr (hw _ (List.mem_of_getElem? (i := 18) rfl))) (by decide) (t := .int) (t' := (.array .byte)) (by decide) (by decide)))) (E_a1.wr W5) (Or.inl (hw _ (List.mem_of_getElem? (i := 20) rfl))) (hw _ (List.mem_of_getElem? (i := 9) rfl)) (ty := .int) (by decide) rfl rfl (g := (mkF m 11 #[.val (.ref a1), .val (.ref a2), .val (.int p3)] [(.int p3), (.ref a1)])) rfl rfl (hb hby d2_11)
  have Fw6 := (F_position_a1.other W5 (Or.inr (slot_ne (Or.inl (hw _ (List.mem_of_getElem? (i := 20) rfl))) (Or.inr (hw _ (List.mem_of_getElem? (i := 18) rfl))) (by decide) (t := .int) (t' := (.array .byte)) (by decide) (by decide)))).same W6
  have K6 : Keep h0 h6 [a1] := K5.wr W6 (Or.inl (List.mem_of_getElem? (i := 0) rfl))
  have N6 := Fr.snoc X6 N5 g_a1
  obtain ⟨fs, hr, hrun, hended, hW, hsame⟩ := X6.leave (v := none) (fun _ => rfl)
  refine ⟨_, _, pre0 _ ?_, hrun, hended, _, _, rfl, ?_, ⟨_, rfl⟩, hW, hsame.mono (by decide) (by decide)⟩
  · show Steps p.tables e below (s₁.setTop (mkF m 0 #[.val (.ref a1), .val (.ref a2), .val (.int p3)] [])) _
    refine XS.aloadN X0.here hx rfl (hb hby d2_0) rfl rfl ?_
    show Steps p.tables e below (s₁.setTop (mkF m 1 #[.val (.ref a1), .val (.ref a2), .val (.int p3)] [(.ref a1)])) _
    refine st4 _ ?_
    show Steps p.tables e below (T4.setTop (mkF m 4 #[.val (.ref a1), .val (.ref a2), .val (.int p3)] [])) _
    refine XS.aloadN X4.here hx rfl (hb hby d2_4) rfl rfl ?_
    show Steps p.tables e below (T4.setTop (mkF m 5 #[.val (.ref a1), .val (.ref a2), .val (.int p3)] [(.ref a1)])) _
    refine XS.aloadN X4.here hx rfl (hb hby d2_5) rfl rfl ?_
    show Steps p.tables e below (T4.setTop (mkF m 6 #[.val (.ref a1), .val (.ref a2), .val (.int p3)] [(.ref a2), (.ref a1)])) _
    refine st5 _ ?_
    show Steps p.tables e below (T5.setTop (mkF m 9 #[.val (.ref a1), .val (.ref a2), .val (.int p3)] [])) _
    refine XS.aloadN X5.here hx rfl (hb hby d2_9) rfl rfl ?_
    show Steps p.tables e below (T5.setTop (mkF m 10 #[.val (.ref a1), .val (.ref a2), .val (.int p3)] [(.ref a1)])) _
    refine XS.iloadN X5.here hx rfl (hb hby d2_10) rfl ?_
    show Steps p.tables e below (T5.setTop (mkF m 11 #[.val (.ref a1), .val (.ref a2), .val (.int p3)] [(.int p3), (.ref a1)])) _
    refine st6 _ ?_
    show Steps p.tables e below (T6.setTop (mkF m 14 #[.val (.ref a1), .val (.ref a2), .val (.int p3)] [])) _
    exact X6.returnOut hx Bd.returns (hb hby d2_14) hr
  · show Q2 Z a1 a2 p3 u_bytes_a1 u_position_a1 u_rv u_rc h0 n0 _ T6.heap _
    rw [e6]
    exact ⟨rfl, N6, K6, ((E_a1.wr W5).wr W6), (Fw5.other W6 (Or.inr (slot_ne (Or.inr (hw _ (List.mem_of_getElem? (i := 18) rfl))) (Or.inl (hw _ (List.mem_of_getElem? (i := 20) rfl))) (by decide) (t := (.array .byte)) (t' := .int) (by decide) (by decide)))), Fw6, (F_rv.other W5 (Or.inr (slot_ne (Or.inl (hw _ (List.mem_of_getElem? (i := 27) rfl))) (Or.inr (hw _ (List.mem_of_getElem? (i := 18) rfl))) (by decide) (t := .int) (t' := (.array .byte)) (by decide) (by decide)))).other W6 (Or.inr (slot_ne (Or.inl (hw _ (List.mem_of_getElem? (i := 27) rfl))) (Or.inl (hw _ (List.mem_of_getElem? (i := 20) rfl))) (by decide) (t := .int) (t' := .int) (by decide) (by decide))), (F_rc.other W5 (Or.inr (slot_ne (Or.inl (hw _ (List.mem_of_getElem? (i := 29) rfl))) (Or.inr (hw _ (List.mem_of_getElem? (i := 18) rfl))) (by decide) (t := .int) (t' := (.array .byte)) (by decide) (by decide)))).other W6 (Or.inr (slot_ne (Or.inl (hw _ (List.mem_of_getElem? (i := 29) rfl))) (Or.inl (hw _ (List.mem_of_getElem? (i := 20) rfl))) (by decide) (t := .int) (t' := .int) (by decide) (by decide)))⟩
theorem d4_0 : decode prog_45_method_2_code 0 = .ok (.iload_n 2, 1) := by decide +kernel
theorem d4_1 : decode prog_45_method_2_code 1 = .ok (.ifCond .ne 4, 3) := by decide +kernel
theorem d4_5 : decode prog_45_method_2_code 5 = .ok (.iload_n 1, 1) := by decide +kernel
theorem d4_6 : decode prog_45_method_2_code 6 = .ok (.aload_n 0, 1) := by decide +kernel
theorem d4_7 : decode prog_45_method_2_code 7 = .ok (.getfield 19, 3) := by decide +kernel
theorem d4_10 : decode prog_45_method_2_code 10 = .ok (.if_icmp .eq 13, 3) := by decide +kernel
theorem d4_23 : decode prog_45_method_2_code 23 = .ok (.aload_n 0, 1) := by decide +kernel
theorem d4_24 : decode prog_45_method_2_code 24 = .ok (.dup, 1) := by decide +kernel
theorem d4_25 : decode prog_45_method_2_code 25 = .ok (.getfield 26, 3) := by decide +kernel
theorem d4_28 : decode prog_45_method_2_code 28 = .ok (.iload_n 2, 1) := by decide +kernel
theorem d4_29 : decode prog_45_method_2_code 29 = .ok (.iadd, 1) := by decide +kernel
theorem d4_30 : decode prog_45_method_2_code 30 = .ok (.putfield 26, 3) := by decide +kernel
theorem d4_33 : decode prog_45_method_2_code 33 = .ok (.return_, 1) := by decide +kernel
theorem pn_4 : plainName "com/example/hakari/hakari/SparseRegisters$Writer" = true := by first | (simp [plainName, overriddenIn]; done) | decide +kernel
theorem ef_4 (m : MethodId) (x0 : Addr) (x1 : Int32) (x2 : Int32) : entryFrame m #[(.ref x0), (.int x1), (.int x2)] 3 = mkF m 0 #[.val (.ref x0), .val (.int x1), .val (.int x2)] [] := by first | (simp [entryFrame, mkF, argsToLocals, Value.category]; done) | rfl
def Q4 (Z : State) (a1 : Addr) (p2 : Int32) (p3 : Int32) (w4 : Int32) (w6 : Int32) (u_by u_po : Value) (h0 : Heap) (n0 : Nat) (v : Option Value) (h : Heap) (L : List Loc) : Prop := v = none ∧ Fr n0 L ∧ Keep h0 h [a1] ∧ Exa Z h a1 "com/example/hakari/hakari/SparseRegisters$Writer" ∧ Fld Z h a1 "com/example/hakari/hakari/SparseRegisters$Writer" "runCount" "I" (.int (w6 + p3)) ∧ Fld Z h a1 "com/example/hakari/hakari/SparseRegisters$Writer" "bytes" "[B" u_by ∧ Fld Z h a1 "com/example/hakari/hakari/SparseRegisters$Writer" "position" "I" u_po ∧ Fld Z h a1 "com/example/hakari/hakari/SparseRegisters$Writer" "runValue" "I" (.int w4)
set_option maxRecDepth 65536 in
set_option maxHeartbeats 40000000 in
theorem rm4 (l : Launch) (Z : State) (a0 : Array Value) (hw : ∀ d ∈ tables_1, d.before a0 Z = true) (ws : List Jvm.Cond) (a1 : Addr) (p2 : Int32) (p3 : Int32) (w4 : Int32) (w6 : Int32) (u_by u_po : Value) (h0 : Heap) (n0 : Nat) (Z0 : n0 ≤ h0.size) (F_runValue_a1 : Fld Z h0 a1 "com/example/hakari/hakari/SparseRegisters$Writer" "runValue" "I" (.int w4)) (F_runCount_a1 : Fld Z h0 a1 "com/example/hakari/hakari/SparseRegisters$Writer" "runCount" "I" (.int w6)) (E_a1 : Exa Z h0 a1 "com/example/hakari/hakari/SparseRegisters$Writer") (g_a1 : n0 ≤ a1) (F_by : Fld Z h0 a1 "com/example/hakari/hakari/SparseRegisters$Writer" "bytes" "[B" u_by) (F_po : Fld Z h0 a1 "com/example/hakari/hakari/SparseRegisters$Writer" "position" "I" u_po) (hc1 : ¬ (p3 = (0 : Int32))) (hc10 : p2 = w4) :
    MetFree l (⟨"com/example/hakari/hakari/SparseRegisters$Writer", "run", "(II)V"⟩ : MethodName) (head1 (Jvm.Cond.code (⟨"com/example/hakari/hakari/SparseRegisters$Writer", "run", "(II)V"⟩ : MethodName) prog_45_method_2_code 3 none :: ws) ({ frames := 0, cells := 0, slots := 0, locals := 0 } : Room)) (fun a U => a = #[(.ref a1), (.int p2), (.int p3)] ∧ Z.Warmed39 U.vm ∧ U.heap = h0) (fun _ _ _ _ _ => True) (fun _ U o U' => ∃ v L, o = .returned v ∧ Q4 Z a1 p2 p3 w4 w6 u_by u_po h0 n0 v U'.heap L ∧ FrameEnd U o U' L ({ frames := 0, cells := 0, slots := 0, locals := 0 } : Room).cells ({ frames := 0, cells := 0, slots := 0, locals := 0 } : Room).slots) := by
  refine MetFree.of_bodySF (plainFor_of_name pn_4) hisR ?_
  intro p e s m args below meth c s₁ Bd hml0 hP hK
  obtain ⟨rfl, hZ, hh⟩ := hP
  have hx := Bd.exec
  have hby := Bd.bytes
  have hml : c.maxLocals = 3 := hml0
  have hown : s.vm.findClass "com/example/hakari/hakari/SparseRegisters$Writer" = some m.cls := findClass_of_methodNamed Bd.named
  have hnm := (name_of_methodNamed Bd.named Bd.method).1
  have X0 : Stand p l e ({ frames := 0, cells := 0, slots := 0, locals := 0 } : Room) s m #[(.ref a1), (.int p2), (.int p3)] below meth c s₁ [] 0 0 := Stand.of_body Bd
  have e0 : s₁.heap = h0 := by rw [← hh, Bd.state]; rfl
  have N0 := Fr.nil n0
  have pre0 : ∀ t, Steps p.tables e below (s₁.setTop (mkF m 0 #[.val (.ref a1), .val (.int p2), .val (.int p3)] [])) t → Steps p.tables e below (s₁.setTop (entryFrame m #[(.ref a1), (.int p2), (.int p3)] 3)) t := fun t k => castTop (ef_4 m a1 p2 p3) k
  obtain ⟨T5, X5, e5, st5⟩ := getF X0 hx hZ hown (host := "") (Or.inl (hw _ (List.mem_of_getElem? (i := 26) rfl))) Via.refl e0 F_runValue_a1 (g := (mkF m 7 #[.val (.ref a1), .val (.int p2), .val (.int p3)] [(.ref a1), (.int p2)])) rfl rfl (hb hby d4_7)
  obtain ⟨T7, X7, e7, st7⟩ := getF X5 hx hZ hown (host := "") (Or.inl (hw _ (List.mem_of_getElem? (i := 28) rfl))) Via.refl e5 F_runCount_a1 (g := (mkF m 25 #[.val (.ref a1), .val (.int p2), .val (.int p3)] [(.ref a1), (.ref a1)])) rfl rfl (hb hby d4_25)
  obtain ⟨T8, h8, X8, e8, W8, st8⟩ := putF X7 hx hZ hown (host := "") (Or.inl (hw _ (List.mem_of_getElem? (i := 28) rfl))) Via.refl e7 F_runCount_a1 E_a1 (Or.inl (hw _ (List.mem_of_getElem? (i := 29) rfl))) (hw _ (List.mem_of_getElem? (i := 9) rfl)) (ty := .int) (by decide) rfl rfl (g := (mkF m 30 #[.val (.ref a1), .val (.int p2), .val (.int p3)] [(.int (w6 + p3)), (.ref a1)])) rfl rfl (hb hby d4_30)
  have Fw8 := F_runCount_a1.same W8
  have K8 : Keep h0 h8 [a1] := (Keep.refl h0 [a1]).wr W8 (Or.inl (List.mem_of_getElem? (i := 0) rfl))
  have N8 := Fr.snoc X8 N0 g_a1
  obtain ⟨fs, hr, hrun, hended, hW, hsame⟩ := X8.leave (v := none) (fun _ => rfl)
  refine ⟨_, _, pre0 _ ?_, hrun, hended, _, _, rfl, ?_, ⟨_, rfl⟩, hW, hsame.mono (by decide) (by decide)⟩
  · show Steps p.tables e below (s₁.setTop (mkF m 0 #[.val (.ref a1), .val (.int p2), .val (.int p3)] [])) _
    refine XS.iloadN X0.here hx rfl (hb hby d4_0) rfl ?_
    show Steps p.tables e below (s₁.setTop (mkF m 1 #[.val (.ref a1), .val (.int p2), .val (.int p3)] [(.int p3)])) _
    refine XS.ifYes X0.here hx rfl (pc0 := 1) (pc' := 5) rfl (hb hby d4_1) rfl ((if0 _ _).trans (feq hc1).2) (by decide) (by decide) ?_
    show Steps p.tables e below (s₁.setTop (mkF m 5 #[.val (.ref a1), .val (.int p2), .val (.int p3)] [])) _
    refine XS.iloadN X0.here hx rfl (hb hby d4_5) rfl ?_
    show Steps p.tables e below (s₁.setTop (mkF m 6 #[.val (.ref a1), .val (.int p2), .val (.int p3)] [(.int p2)])) _
    refine XS.aloadN X0.here hx rfl (hb hby d4_6) rfl rfl ?_
    show Steps p.tables e below (s₁.setTop (mkF m 7 #[.val (.ref a1), .val (.int p2), .val (.int p3)] [(.ref a1), (.int p2)])) _
    refine st5 _ ?_
    show Steps p.tables e below (T5.setTop (mkF m 10 #[.val (.ref a1), .val (.int p2), .val (.int p3)] [(.int w4), (.int p2)])) _
    refine XS.icmpYes X5.here hx rfl (pc0 := 10) (pc' := 23) rfl (hb hby d4_10) rfl (teq hc10).1 (by decide) (by decide) ?_
    show Steps p.tables e below (T5.setTop (mkF m 23 #[.val (.ref a1), .val (.int p2), .val (.int p3)] [])) _
    refine XS.aloadN X5.here hx rfl (hb hby d4_23) rfl rfl ?_
    show Steps p.tables e below (T5.setTop (mkF m 24 #[.val (.ref a1), .val (.int p2), .val (.int p3)] [(.ref a1)])) _
    refine XS.dup X5.here hx rfl (hb hby d4_24) rfl rfl ?_
    show Steps p.tables e below (T5.setTop (mkF m 25 #[.val (.ref a1), .val (.int p2), .val (.int p3)] [(.ref a1), (.ref a1)])) _
    refine st7 _ ?_
    show Steps p.tables e below (T7.setTop (mkF m 28 #[.val (.ref a1), .val (.int p2), .val (.int p3)] [(.int w6), (.ref a1)])) _
    refine XS.iloadN X7.here hx rfl (hb hby d4_28) rfl ?_
    show Steps p.tables e below (T7.setTop (mkF m 29 #[.val (.ref a1), .val (.int p2), .val (.int p3)] [(.int p3), (.int w6), (.ref a1)])) _
    refine XS.iadd X7.here hx rfl (hb hby d4_29) rfl ?_
    show Steps p.tables e below (T7.setTop (mkF m 30 #[.val (.ref a1), .val (.int p2), .val (.int p3)] [(.int (w6 + p3)), (.ref a1)])) _
    refine st8 _ ?_
    show Steps p.tables e below (T8.setTop (mkF m 33 #[.val (.ref a1), .val (.int p2), .val (.int p3)] [])) _
    exact X8.returnOut hx Bd.returns (hb hby d4_33) hr
  · show Q4 Z a1 p2 p3 w4 w6 u_by u_po h0 n0 _ T8.heap _
    rw [e8]
    exact ⟨rfl, N8, K8, (E_a1.wr W8), Fw8, F_by.other W8 (Or.inr (slot_ne (Or.inr (hw _ (List.mem_of_getElem? (i := 18) rfl))) (Or.inl (hw _ (List.mem_of_getElem? (i := 29) rfl))) (by decide) (t := (.array .byte)) (t' := .int) (by decide) (by decide))), F_po.other W8 (Or.inr (slot_ne (Or.inl (hw _ (List.mem_of_getElem? (i := 20) rfl))) (Or.inl (hw _ (List.mem_of_getElem? (i := 29) rfl))) (by decide) (t := .int) (t' := .int) (by decide) (by decide))), F_runValue_a1.other W8 (Or.inr (slot_ne (Or.inl (hw _ (List.mem_of_getElem? (i := 27) rfl))) (Or.inl (hw _ (List.mem_of_getElem? (i := 29) rfl))) (by decide) (t := .int) (t' := .int) (by decide) (by decide)))⟩
theorem d5_0 : decode prog_45_method_3_code 0 = .ok (.aload_n 0, 1) := by decide +kernel
theorem d5_1 : decode prog_45_method_3_code 1 = .ok (.getfield 26, 3) := by decide +kernel
theorem d5_4 : decode prog_45_method_3_code 4 = .ok (.ifCond .ne 8, 3) := by decide +kernel
theorem d5_12 : decode prog_45_method_3_code 12 = .ok (.aload_n 0, 1) := by decide +kernel
theorem d5_13 : decode prog_45_method_3_code 13 = .ok (.getfield 19, 3) := by decide +kernel
theorem d5_16 : decode prog_45_method_3_code 16 = .ok (.ifCond .ne 26, 3) := by decide +kernel
theorem d5_19 : decode prog_45_method_3_code 19 = .ok (.aload_n 0, 1) := by decide +kernel
theorem d5_20 : decode prog_45_method_3_code 20 = .ok (.aload_n 0, 1) := by decide +kernel
theorem d5_21 : decode prog_45_method_3_code 21 = .ok (.getfield 9, 3) := by decide +kernel
theorem d5_24 : decode prog_45_method_3_code 24 = .ok (.aload_n 0, 1) := by decide +kernel
theorem d5_25 : decode prog_45_method_3_code 25 = .ok (.getfield 15, 3) := by decide +kernel
theorem d5_28 : decode prog_45_method_3_code 28 = .ok (.iconst 0, 1) := by decide +kernel
theorem d5_29 : decode prog_45_method_3_code 29 = .ok (.aload_n 0, 1) := by decide +kernel
theorem d5_30 : decode prog_45_method_3_code 30 = .ok (.getfield 26, 3) := by decide +kernel
theorem d5_33 : decode prog_45_method_3_code 33 = .ok (.invokestatic 29, 3) := by decide +kernel
theorem d5_36 : decode prog_45_method_3_code 36 = .ok (.putfield 15, 3) := by decide +kernel
theorem d5_39 : decode prog_45_method_3_code 39 = .ok (.goto 42, 3) := by decide +kernel
theorem d5_81 : decode prog_45_method_3_code 81 = .ok (.aload_n 0, 1) := by decide +kernel
theorem d5_82 : decode prog_45_method_3_code 82 = .ok (.iconst 0, 1) := by decide +kernel
theorem d5_83 : decode prog_45_method_3_code 83 = .ok (.putfield 26, 3) := by decide +kernel
theorem d5_86 : decode prog_45_method_3_code 86 = .ok (.aload_n 0, 1) := by decide +kernel
theorem d5_87 : decode prog_45_method_3_code 87 = .ok (.getfield 15, 3) := by decide +kernel
theorem d5_90 : decode prog_45_method_3_code 90 = .ok (.ireturn, 1) := by decide +kernel
theorem pn_5 : plainName "com/example/hakari/hakari/SparseRegisters$Writer" = true := by first | (simp [plainName, overriddenIn]; done) | decide +kernel
theorem pd_5_5 : parseMethodDescriptor "([BIII)I" = some ⟨[(.array .byte), .int, .int, .int], some .int⟩ := by decide +kernel
theorem ef_5 (m : MethodId) (x0 : Addr) : entryFrame m #[(.ref x0)] 2 = mkF m 0 #[.val (.ref x0), .unset] [] := by first | (simp [entryFrame, mkF, argsToLocals, Value.category]; done) | rfl
def Q5 (Z : State) (a1 : Addr) (w2 : Int32) (w4 : Int32) (w6 : Addr) (w8 : Int32) (cl_w6 : Cell) (h0 : Heap) (n0 : Nat) (v : Option Value) (h : Heap) (L : List Loc) : Prop := v = some (.int (w8 + (2 : Int32))) ∧ Fr n0 L ∧ Keep h0 h [a1, w6]
set_option maxRecDepth 65536 in
set_option maxHeartbeats 40000000 in
theorem rm5 (l : Launch) (Z : State) (a0 : Array Value) (hw : ∀ d ∈ tables_1, d.before a0 Z = true) (ws : List Jvm.Cond) (a1 : Addr) (w2 : Int32) (w4 : Int32) (w6 : Addr) (w8 : Int32) (cl_w6 : Cell) (h0 : Heap) (n0 : Nat) (Z0 : n0 ≤ h0.size) (F_runCount_a1 : Fld Z h0 a1 "com/example/hakari/hakari/SparseRegisters$Writer" "runCount" "I" (.int w2)) (F_runValue_a1 : Fld Z h0 a1 "com/example/hakari/hakari/SparseRegisters$Writer" "runValue" "I" (.int w4)) (F_bytes_a1 : Fld Z h0 a1 "com/example/hakari/hakari/SparseRegisters$Writer" "bytes" "[B" (.ref w6)) (F_position_a1 : Fld Z h0 a1 "com/example/hakari/hakari/SparseRegisters$Writer" "position" "I" (.int w8)) (E_a1 : Exa Z h0 a1 "com/example/hakari/hakari/SparseRegisters$Writer") (g_a1 : n0 ≤ a1) (Ar_w6 : Arr Z h0 w6 cl_w6 .byte) (hin67 : ¬ (w8 < 0 ∨ cl_w6.slots.size ≤ (w8).toNatClampNeg)) (hin80 : ¬ ((w8 + (1 : Int32)) < 0 ∨ cl_w6.slots.size ≤ ((w8 + (1 : Int32))).toNatClampNeg)) (g_w6 : n0 ≤ w6) (hne : a1 ≠ w6) (hgt : (64 : Int32) < w2) (hc4 : ¬ (w2 = (0 : Int32))) (hc16 : w4 = (0 : Int32)) :
    MetFree l (⟨"com/example/hakari/hakari/SparseRegisters$Writer", "finish", "()I"⟩ : MethodName) (head1 (Jvm.Cond.code (⟨"com/example/hakari/hakari/SparseRegisters$Writer", "finish", "()I"⟩ : MethodName) prog_45_method_3_code 2 (some .int) :: ws) ({ frames := 1, cells := 0, slots := 0, locals := 16 } : Room)) (fun a U => a = #[(.ref a1)] ∧ Z.Warmed39 U.vm ∧ U.heap = h0) (fun _ _ _ _ _ => True) (fun _ U o U' => ∃ v L, o = .returned v ∧ Q5 Z a1 w2 w4 w6 w8 cl_w6 h0 n0 v U'.heap L ∧ FrameEnd U o U' L ({ frames := 1, cells := 0, slots := 0, locals := 16 } : Room).cells ({ frames := 1, cells := 0, slots := 0, locals := 16 } : Room).slots) := by
  refine MetFree.of_bodySF (plainFor_of_name pn_5) hisR ?_
  intro p e s m args below meth c s₁ Bd hml0 hP hK
  obtain ⟨rfl, hZ, hh⟩ := hP
  have hx := Bd.exec
  have hby := Bd.bytes
  have hml : c.maxLocals = 2 := hml0
  have hown : s.vm.findClass "com/example/hakari/hakari/SparseRegisters$Writer" = some m.cls := findClass_of_methodNamed Bd.named
  have hnm := (name_of_methodNamed Bd.named Bd.method).1
  have X0 : Stand p l e ({ frames := 1, cells := 0, slots := 0, locals := 16 } : Room) s m #[(.ref a1)] below meth c s₁ [] 0 0 := Stand.of_body Bd
  have e0 : s₁.heap = h0 := by rw [← hh, Bd.state]; rfl
  have N0 := Fr.nil n0
  have pre0 : ∀ t, Steps p.tables e below (s₁.setTop (mkF m 0 #[.val (.ref a1), .unset] [])) t → Steps p.tables e below (s₁.setTop (entryFrame m #[(.ref a1)] 2)) t := fun t k => castTop (ef_5 m a1) k
  obtain ⟨T3, X3, e3, st3⟩ := getF X0 hx hZ hown (host := "") (Or.inl (hw _ (List.mem_of_getElem? (i := 28) rfl))) Via.refl e0 F_runCount_a1 (g := (mkF m 1 #[.val (.ref a1), .unset] [(.ref a1)])) rfl rfl (hb hby d5_1)
  obtain ⟨T5, X5, e5, st5⟩ := getF X3 hx hZ hown (host := "") (Or.inl (hw _ (List.mem_of_getElem? (i := 26) rfl))) Via.refl e3 F_runValue_a1 (g := (mkF m 13 #[.val (.ref a1), .unset] [(.ref a1)])) rfl rfl (hb hby d5_13)
  obtain ⟨T7, X7, e7, st7⟩ := getF X5 hx hZ hown (host := "") (Or.inl (hw _ (List.mem_of_getElem? (i := 17) rfl))) Via.refl e5 F_bytes_a1 (g := (mkF m 21 #[.val (.ref a1), .unset] [(.ref a1), (.ref a1)])) rfl rfl (hb hby d5_21)
  obtain ⟨T9, X9, e9, st9⟩ := getF X7 hx hZ hown (host := "") (Or.inl (hw _ (List.mem_of_getElem? (i := 19) rfl))) Via.refl e7 F_position_a1 (g := (mkF m 25 #[.val (.ref a1), .unset] [(.ref a1), (.ref w6), (.ref a1)])) rfl rfl (hb hby d5_25)
  obtain ⟨T10, X10, e10, st10⟩ := getF X9 hx hZ hown (host := "") (Or.inl (hw _ (List.mem_of_getElem? (i := 28) rfl))) Via.refl e9 F_runCount_a1 (g := (mkF m 30 #[.val (.ref a1), .unset] [(.ref a1), (.int (0 : Int32)), (.int w8), (.ref w6), (.ref a1)])) rfl rfl (hb hby d5_30)
  obtain ⟨_, _, ⟨T11, L11, k11, n11⟩, -, X11, ⟨Lc11, hQ11, l11, y11, z11⟩, st11⟩ := callSN X10 hx (host := "com/example/hakari/hakari/SparseRegisters") (y := (⟨"com/example/hakari/hakari/SparseRegisters", "putOpcode", "([BIII)I"⟩ : MethodName)) hown (Jvm.Cond.methodLinkNest_wide hZ (hw _ (List.mem_of_getElem? (i := 37) rfl)) :) (mvT hZ (hw _ (List.mem_of_getElem? (i := 38) rfl))) (mvT hZ (hw _ (List.mem_of_getElem? (i := 5) rfl))) (mvT hZ (hw _ (List.mem_of_getElem? (i := 39) rfl))) (by decide) (backOf (W := 1) (rm6 l Z a0 hw [] w6 w8 (0 : Int32) w2 cl_w6 h0 n0 Z0 Ar_w6 hin67 g_w6 hin80 hc4 rfl hgt) hZ (hw _ (List.mem_of_getElem? (i := 39) rfl)) (hw _ (List.mem_of_getElem? (i := 5) rfl)) (by decide) (by decide)) (g := (mkF m 33 #[.val (.ref a1), .unset] [(.int w2), (.int (0 : Int32)), (.int w8), (.ref w6), (.ref a1)])) rfl (by rw [hml]; rfl) (argsL := [(.ref w6), (.int w8), (.int (0 : Int32)), (.int w2)]) (rest := [(.ref a1)]) (lenOf pd_5_5 rfl) rfl (by show 2 * 0 + _ ≤ _; exact Nat.le_of_eq rfl) (hb hby d5_33) (fun _ _ => ⟨rfl, e10, (by decide : 0 + 0 ≤ _), (by decide : 0 + 0 ≤ _)⟩)
  dsimp only [Pt.U, Pt.locs, Pt.cells, Pt.slots] at X11 l11 y11 z11 st11 hQ11
  subst l11 y11 z11
  obtain ⟨rfl, N11q, K11q⟩ := hQ11
  have K11 : Keep h0 T11.heap [a1, w6] := ⟨K11q.1, fun x c q r => K11q.2.1 x c q (fun z => r (List.mem_cons_of_mem _ z)), K11q.2.2⟩
  have N11 := Fr.app N0 N11q
  obtain ⟨T12, h12, X12, e12, W12, st12⟩ := putF X11 hx hZ hown (host := "") (Or.inl (hw _ (List.mem_of_getElem? (i := 19) rfl))) Via.refl rfl (F_position_a1.keep K11q (ninS hne nin0)) (E_a1.keep K11q) (Or.inl (hw _ (List.mem_of_getElem? (i := 20) rfl))) (hw _ (List.mem_of_getElem? (i := 9) rfl)) (ty := .int) (by decide) rfl rfl (g := (mkF m 36 #[.val (.ref a1), .unset] [(.int (w8 + (2 : Int32))), (.ref a1)])) rfl rfl (hb hby d5_36)
  have Fw12 := (F_position_a1.keep K11q (ninS hne nin0)).same W12
  have K12 : Keep h0 h12 [a1, w6] := K11.wr W12 (Or.inl (List.mem_of_getElem? (i := 0) rfl))
  have N12 := Fr.snoc X12 N11 g_a1
  obtain ⟨T13, h13, X13, e13, W13, st13⟩ := putF X12 hx hZ hown (host := "") (Or.inl (hw _ (List.mem_of_getElem? (i := 28) rfl))) Via.refl e12 ((F_runCount_a1.keep K11q (ninS hne nin0)).other W12 (Or.inr (slot_ne (Or.inl (hw _ (List.mem_of_getElem? (i := 29) rfl))) (Or.inl (hw _ (List.mem_of_getElem? (i := 20) rfl))) (by decide) (t := .int) (t' := .int) (by decide) (by decide)))) ((E_a1.keep K11q).wr W12) (Or.inl (hw _ (List.mem_of_getElem? (i := 29) rfl))) (hw _ (List.mem_of_getElem? (i := 9) rfl)) (ty := .int) (by decide) rfl rfl (g := (mkF m 83 #[.val (.ref a1), .unset] [(.int (0 : Int32)), (.ref a1)])) rfl rfl (hb hby d5_83)
  have Fw13 := ((F_runCount_a1.keep K11q (ninS hne nin0)).other W12 (Or.inr (slot_ne (Or.inl (hw _ (List.mem_of_getElem? (i := 29) rfl))) (Or.inl (hw _ (List.mem_of_getElem? (i := 20) rfl))) (by decide) (t := .int) (t' := .int) (by decide) (by decide)))).same W13
  have K13 : Keep h0 h13 [a1, w6] := K12.wr W13 (Or.inl (List.mem_of_getElem? (i := 0) rfl))
  have N13 := Fr.snoc X13 N12 g_a1
  obtain ⟨T14, X14, e14, st14⟩ := getF X13 hx hZ hown (host := "") (Or.inl (hw _ (List.mem_of_getElem? (i := 19) rfl))) Via.refl e13 (Fw12.other W13 (Or.inr (slot_ne (Or.inl (hw _ (List.mem_of_getElem? (i := 20) rfl))) (Or.inl (hw _ (List.mem_of_getElem? (i := 29) rfl))) (by decide) (t := .int) (t' := .int) (by decide) (by decide)))) (g := (mkF m 87 #[.val (.ref a1), .unset] [(.ref a1)])) rfl rfl (hb hby d5_87)
  obtain ⟨fs, hr, hrun, hended, hW, hsame⟩ := X14.leave (v := some (.int (w8 + (2 : Int32)))) (fun h => by rw [Bd.returns] at h; cases h)
  refine ⟨_, _, pre0 _ ?_, hrun, hended, _, _, rfl, ?_, ⟨_, rfl⟩, hW, hsame.mono (by decide) (by decide)⟩
  · show Steps p.tables e below (s₁.setTop (mkF m 0 #[.val (.ref a1), .unset] [])) _
    refine XS.aloadN X0.here hx rfl (hb hby d5_0) rfl rfl ?_
    show Steps p.tables e below (s₁.setTop (mkF m 1 #[.val (.ref a1), .unset] [(.ref a1)])) _
    refine st3 _ ?_
    show Steps p.tables e below (T3.setTop (mkF m 4 #[.val (.ref a1), .unset] [(.int w2)])) _
    refine XS.ifYes X3.here hx rfl (pc0 := 4) (pc' := 12) rfl (hb hby d5_4) rfl ((if0 _ _).trans (feq hc4).2) (by decide) (by decide) ?_
    show Steps p.tables e below (T3.setTop (mkF m 12 #[.val (.ref a1), .unset] [])) _
    refine XS.aloadN X3.here hx rfl (hb hby d5_12) rfl rfl ?_
    show Steps p.tables e below (T3.setTop (mkF m 13 #[.val (.ref a1), .unset] [(.ref a1)])) _
    refine st5 _ ?_
    show Steps p.tables e below (T5.setTop (mkF m 16 #[.val (.ref a1), .unset] [(.int w4)])) _
    refine XS.ifNo X5.here hx rfl (hb hby d5_16) rfl ((if0 _ _).trans (teq hc16).2) ?_
    show Steps p.tables e below (T5.setTop (mkF m 19 #[.val (.ref a1), .unset] [])) _
    refine XS.aloadN X5.here hx rfl (hb hby d5_19) rfl rfl ?_
    show Steps p.tables e below (T5.setTop (mkF m 20 #[.val (.ref a1), .unset] [(.ref a1)])) _
    refine XS.aloadN X5.here hx rfl (hb hby d5_20) rfl rfl ?_
    show Steps p.tables e below (T5.setTop (mkF m 21 #[.val (.ref a1), .unset] [(.ref a1), (.ref a1)])) _
    refine st7 _ ?_
    show Steps p.tables e below (T7.setTop (mkF m 24 #[.val (.ref a1), .unset] [(.ref w6), (.ref a1)])) _
    refine XS.aloadN X7.here hx rfl (hb hby d5_24) rfl rfl ?_
    show Steps p.tables e below (T7.setTop (mkF m 25 #[.val (.ref a1), .unset] [(.ref a1), (.ref w6), (.ref a1)])) _
    refine st9 _ ?_
    show Steps p.tables e below (T9.setTop (mkF m 28 #[.val (.ref a1), .unset] [(.int w8), (.ref w6), (.ref a1)])) _
    refine XS.iconst X9.here hx rfl (hb hby d5_28) ?_
    show Steps p.tables e below (T9.setTop (mkF m 29 #[.val (.ref a1), .unset] [(.int (0 : Int32)), (.int w8), (.ref w6), (.ref a1)])) _
    refine XS.aloadN X9.here hx rfl (hb hby d5_29) rfl rfl ?_
    show Steps p.tables e below (T9.setTop (mkF m 30 #[.val (.ref a1), .unset] [(.ref a1), (.int (0 : Int32)), (.int w8), (.ref w6), (.ref a1)])) _
    refine st10 _ ?_
    show Steps p.tables e below (T10.setTop (mkF m 33 #[.val (.ref a1), .unset] [(.int w2), (.int (0 : Int32)), (.int w8), (.ref w6), (.ref a1)])) _
    refine st11.trans ?_
    show Steps p.tables e below (T11.setTop (mkF m 36 #[.val (.ref a1), .unset] [(.int (w8 + (2 : Int32))), (.ref a1)])) _
    refine st12 _ ?_
    show Steps p.tables e below (T12.setTop (mkF m 39 #[.val (.ref a1), .unset] [])) _
    refine XS.goto X12.here hx rfl (pc0 := 39) (pc' := 81) rfl (hb hby d5_39) (by decide) (by decide) ?_
    show Steps p.tables e below (T12.setTop (mkF m 81 #[.val (.ref a1), .unset] [])) _
    refine XS.aloadN X12.here hx rfl (hb hby d5_81) rfl rfl ?_
    show Steps p.tables e below (T12.setTop (mkF m 82 #[.val (.ref a1), .unset] [(.ref a1)])) _
    refine XS.iconst X12.here hx rfl (hb hby d5_82) ?_
    show Steps p.tables e below (T12.setTop (mkF m 83 #[.val (.ref a1), .unset] [(.int (0 : Int32)), (.ref a1)])) _
    refine st13 _ ?_
    show Steps p.tables e below (T13.setTop (mkF m 86 #[.val (.ref a1), .unset] [])) _
    refine XS.aloadN X13.here hx rfl (hb hby d5_86) rfl rfl ?_
    show Steps p.tables e below (T13.setTop (mkF m 87 #[.val (.ref a1), .unset] [(.ref a1)])) _
    refine st14 _ ?_
    show Steps p.tables e below (T14.setTop (mkF m 90 #[.val (.ref a1), .unset] [(.int (w8 + (2 : Int32)))])) _
    exact retI X14 hx Bd.returns (hb hby d5_90) hr
  · show Q5 Z a1 w2 w4 w6 w8 cl_w6 h0 n0 _ T14.heap _
    rw [e14]
    exact ⟨rfl, N13, K13⟩
theorem d7_0 : decode prog_41_method_1_code 0 = .ok (.aload_n 0, 1) := by decide +kernel
theorem d7_1 : decode prog_41_method_1_code 1 = .ok (.invokespecial 1, 3) := by decide +kernel
theorem d7_4 : decode prog_41_method_1_code 4 = .ok (.aload_n 0, 1) := by decide +kernel
theorem d7_5 : decode prog_41_method_1_code 5 = .ok (.aload_n 1, 1) := by decide +kernel
theorem d7_6 : decode prog_41_method_1_code 6 = .ok (.putfield 7, 3) := by decide +kernel
theorem d7_9 : decode prog_41_method_1_code 9 = .ok (.aload_n 0, 1) := by decide +kernel
theorem d7_10 : decode prog_41_method_1_code 10 = .ok (.iload_n 2, 1) := by decide +kernel
theorem d7_11 : decode prog_41_method_1_code 11 = .ok (.putfield 13, 3) := by decide +kernel
theorem d7_14 : decode prog_41_method_1_code 14 = .ok (.aload_n 0, 1) := by decide +kernel
theorem d7_15 : decode prog_41_method_1_code 15 = .ok (.iload_n 3, 1) := by decide +kernel
theorem d7_16 : decode prog_41_method_1_code 16 = .ok (.putfield 17, 3) := by decide +kernel
theorem d7_19 : decode prog_41_method_1_code 19 = .ok (.aload_n 0, 1) := by decide +kernel
theorem d7_20 : decode prog_41_method_1_code 20 = .ok (.iconst 3, 1) := by decide +kernel
theorem d7_21 : decode prog_41_method_1_code 21 = .ok (.newarray .char, 2) := by decide +kernel
theorem d7_23 : decode prog_41_method_1_code 23 = .ok (.dup, 1) := by decide +kernel
theorem d7_24 : decode prog_41_method_1_code 24 = .ok (.iconst 0, 1) := by decide +kernel
theorem d7_25 : decode prog_41_method_1_code 25 = .ok (.iconst 0, 1) := by decide +kernel
theorem d7_26 : decode prog_41_method_1_code 26 = .ok (.castore, 1) := by decide +kernel
theorem d7_27 : decode prog_41_method_1_code 27 = .ok (.dup, 1) := by decide +kernel
theorem d7_28 : decode prog_41_method_1_code 28 = .ok (.iconst 1, 1) := by decide +kernel
theorem d7_29 : decode prog_41_method_1_code 29 = .ok (.iload_n 2, 1) := by decide +kernel
theorem d7_30 : decode prog_41_method_1_code 30 = .ok (.i2c, 1) := by decide +kernel
theorem d7_31 : decode prog_41_method_1_code 31 = .ok (.castore, 1) := by decide +kernel
theorem d7_32 : decode prog_41_method_1_code 32 = .ok (.dup, 1) := by decide +kernel
theorem d7_33 : decode prog_41_method_1_code 33 = .ok (.iconst 2, 1) := by decide +kernel
theorem d7_34 : decode prog_41_method_1_code 34 = .ok (.iconst 0, 1) := by decide +kernel
theorem d7_35 : decode prog_41_method_1_code 35 = .ok (.castore, 1) := by decide +kernel
theorem d7_36 : decode prog_41_method_1_code 36 = .ok (.putfield 21, 3) := by decide +kernel
theorem d7_39 : decode prog_41_method_1_code 39 = .ok (.aload_n 0, 1) := by decide +kernel
theorem d7_40 : decode prog_41_method_1_code 40 = .ok (.sipush 16384, 3) := by decide +kernel
theorem d7_43 : decode prog_41_method_1_code 43 = .ok (.invokestatic 27, 3) := by decide +kernel
theorem d7_46 : decode prog_41_method_1_code 46 = .ok (.putfield 33, 3) := by decide +kernel
theorem d7_49 : decode prog_41_method_1_code 49 = .ok (.return_, 1) := by decide +kernel
theorem pn_7 : plainName "com/example/hakari/hakari/SparseRegisters" = true := by first | (simp [plainName, overriddenIn]; done) | decide +kernel
theorem pd_7_7 : parseMethodDescriptor "(I)I" = some ⟨[.int], some .int⟩ := by decide +kernel
theorem ef_7 (m : MethodId) (x0 : Addr) (x1 : Addr) (x2 : Int32) (x3 : Int32) : entryFrame m #[(.ref x0), (.ref x1), (.int x2), (.int x3)] 4 = mkF m 0 #[.val (.ref x0), .val (.ref x1), .val (.int x2), .val (.int x3)] [] := by first | (simp [entryFrame, mkF, argsToLocals, Value.category]; done) | rfl
def Q7 (Z : State) (a1 : Addr) (a2 : Addr) (p3 : Int32) (p4 : Int32) (u_bytes_a1 : Value) (u_length_a1 : Value) (u_shortest_a1 : Value) (u_blocks_a1 : Value) (u_blockBits_a1 : Value) (h0 : Heap) (n0 : Nat) (v : Option Value) (h : Heap) (L : List Loc) : Prop := v = none ∧ Fr n0 L ∧ Keep h0 h [a1] ∧ Exa Z h a1 "com/example/hakari/hakari/SparseRegisters" ∧ Fld Z h a1 "com/example/hakari/hakari/SparseRegisters" "bytes" "[B" (.ref a2) ∧ ∃ (b : Addr) (c : Cell), Fld Z h a1 "com/example/hakari/hakari/SparseRegisters" "blocks" "[C" (.ref b) ∧ Arr Z h b c .char ∧ c.slots.size = (3 : Int32).toNatClampNeg
set_option maxRecDepth 65536 in
set_option maxHeartbeats 40000000 in
theorem rm7 (l : Launch) (Z : State) (a0 : Array Value) (hw : ∀ d ∈ tables_1, d.before a0 Z = true) (ws : List Jvm.Cond) (a1 : Addr) (a2 : Addr) (p3 : Int32) (p4 : Int32) (u_bytes_a1 : Value) (u_length_a1 : Value) (u_shortest_a1 : Value) (u_blocks_a1 : Value) (u_blockBits_a1 : Value) (h0 : Heap) (n0 : Nat) (Z0 : n0 ≤ h0.size) (E_a1 : Exa Z h0 a1 "com/example/hakari/hakari/SparseRegisters") (F_bytes_a1 : Fld Z h0 a1 "com/example/hakari/hakari/SparseRegisters" "bytes" "[B" u_bytes_a1) (g_a1 : n0 ≤ a1) (F_length_a1 : Fld Z h0 a1 "com/example/hakari/hakari/SparseRegisters" "length" "I" u_length_a1) (F_shortest_a1 : Fld Z h0 a1 "com/example/hakari/hakari/SparseRegisters" "shortest" "Z" u_shortest_a1) (F_blocks_a1 : Fld Z h0 a1 "com/example/hakari/hakari/SparseRegisters" "blocks" "[C" u_blocks_a1) (F_blockBits_a1 : Fld Z h0 a1 "com/example/hakari/hakari/SparseRegisters" "blockBits" "I" u_blockBits_a1) :
    MetFree l (⟨"com/example/hakari/hakari/SparseRegisters", "<init>", "([BIZ)V"⟩ : MethodName) (head1 (Jvm.Cond.code (⟨"com/example/hakari/hakari/SparseRegisters", "<init>", "([BIZ)V"⟩ : MethodName) prog_41_method_1_code 4 none :: ws) ({ frames := 1, cells := 1, slots := 3, locals := 14 } : Room)) (fun a U => a = #[(.ref a1), (.ref a2), (.int p3), (.int p4)] ∧ Z.Warmed39 U.vm ∧ U.heap = h0) (fun _ _ _ _ _ => True) (fun _ U o U' => ∃ v L, o = .returned v ∧ Q7 Z a1 a2 p3 p4 u_bytes_a1 u_length_a1 u_shortest_a1 u_blocks_a1 u_blockBits_a1 h0 n0 v U'.heap L ∧ FrameEnd U o U' L ({ frames := 1, cells := 1, slots := 3, locals := 14 } : Room).cells ({ frames := 1, cells := 1, slots := 3, locals := 14 } : Room).slots) := by
  refine MetFree.of_bodySF (plainFor_of_name pn_7) hisR ?_
  intro p e s m args below meth c s₁ Bd hml0 hP hK
  obtain ⟨rfl, hZ, hh⟩ := hP
  have hx := Bd.exec
  have hby := Bd.bytes
  have hml : c.maxLocals = 4 := hml0
  have hown : s.vm.findClass "com/example/hakari/hakari/SparseRegisters" = some m.cls := findClass_of_methodNamed Bd.named
  have hnm := (name_of_methodNamed Bd.named Bd.method).1
  have X0 : Stand p l e ({ frames := 1, cells := 1, slots := 3, locals := 14 } : Room) s m #[(.ref a1), (.ref a2), (.int p3), (.int p4)] below meth c s₁ [] 0 0 := Stand.of_body Bd
  have e0 : s₁.heap = h0 := by rw [← hh, Bd.state]; rfl
  have N0 := Fr.nil n0
  have pre0 : ∀ t, Steps p.tables e below (s₁.setTop (mkF m 0 #[.val (.ref a1), .val (.ref a2), .val (.int p3), .val (.int p4)] [])) t → Steps p.tables e below (s₁.setTop (entryFrame m #[(.ref a1), (.ref a2), (.int p3), (.int p4)] 4)) t := fun t k => castTop (ef_7 m a1 a2 p3 p4) k
  obtain ⟨T5, X5, e5, st5⟩ := initO X0 hx hZ hown (hw _ (List.mem_of_getElem? (i := 43) rfl)) (hw _ (List.mem_of_getElem? (i := 15) rfl)) (hw _ (List.mem_of_getElem? (i := 16) rfl)) e0 (g := (mkF m 1 #[.val (.ref a1), .val (.ref a2), .val (.int p3), .val (.int p4)] [(.ref a1)])) rfl (by rw [hml]; rfl) rfl (hb hby d7_1) (by decide) (W := 0) (by show 2 * 0 + _ ≤ _; exact Nat.le_of_eq rfl) (by decide)
  obtain ⟨T6, h6, X6, e6, W6, st6⟩ := putF X5 hx hZ hown (host := "") (Or.inl (hw _ (List.mem_of_getElem? (i := 44) rfl))) Via.refl e5 F_bytes_a1 E_a1 (Or.inl (hw _ (List.mem_of_getElem? (i := 45) rfl))) (hw _ (List.mem_of_getElem? (i := 31) rfl)) (ty := (.array .byte)) (by decide) rfl rfl (g := (mkF m 6 #[.val (.ref a1), .val (.ref a2), .val (.int p3), .val (.int p4)] [(.ref a2), (.ref a1)])) rfl rfl (hb hby d7_6)
  have Fw6 := F_bytes_a1.same W6
  have K6 : Keep h0 h6 [a1] := (Keep.refl h0 [a1]).wr W6 (Or.inl (List.mem_of_getElem? (i := 0) rfl))
  have N6 := Fr.snoc X6 N0 g_a1
  obtain ⟨T7, h7, X7, e7, W7, st7⟩ := putF X6 hx hZ hown (host := "") (Or.inl (hw _ (List.mem_of_getElem? (i := 46) rfl))) Via.refl e6 (F_length_a1.other W6 (Or.inr (slot_ne (Or.inl (hw _ (List.mem_of_getElem? (i := 47) rfl))) (Or.inl (hw _ (List.mem_of_getElem? (i := 45) rfl))) (by decide) (t := .int) (t' := (.array .byte)) (by decide) (by decide)))) (E_a1.wr W6) (Or.inl (hw _ (List.mem_of_getElem? (i := 47) rfl))) (hw _ (List.mem_of_getElem? (i := 31) rfl)) (ty := .int) (by decide) rfl rfl (g := (mkF m 11 #[.val (.ref a1), .val (.ref a2), .val (.int p3), .val (.int p4)] [(.int p3), (.ref a1)])) rfl rfl (hb hby d7_11)
  have Fw7 := (F_length_a1.other W6 (Or.inr (slot_ne (Or.inl (hw _ (List.mem_of_getElem? (i := 47) rfl))) (Or.inl (hw _ (List.mem_of_getElem? (i := 45) rfl))) (by decide) (t := .int) (t' := (.array .byte)) (by decide) (by decide)))).same W7
  have K7 : Keep h0 h7 [a1] := K6.wr W7 (Or.inl (List.mem_of_getElem? (i := 0) rfl))
  have N7 := Fr.snoc X7 N6 g_a1
  obtain ⟨T8, h8, X8, e8, W8, st8⟩ := putFN X7 hx hZ hown (hw _ (List.mem_of_getElem? (i := 48) rfl)) Via.refl e7 ((F_shortest_a1.other W6 (Or.inr (slot_ne (Or.inr (hw _ (List.mem_of_getElem? (i := 49) rfl))) (Or.inl (hw _ (List.mem_of_getElem? (i := 45) rfl))) (by decide) (t := .boolean) (t' := (.array .byte)) (by decide) (by decide)))).other W7 (Or.inr (slot_ne (Or.inr (hw _ (List.mem_of_getElem? (i := 49) rfl))) (Or.inl (hw _ (List.mem_of_getElem? (i := 47) rfl))) (by decide) (t := .boolean) (t' := .int) (by decide) (by decide)))) ((E_a1.wr W6).wr W7) (Or.inr ⟨(hw _ (List.mem_of_getElem? (i := 49) rfl)), rfl, hnm⟩) (hw _ (List.mem_of_getElem? (i := 31) rfl)) (ty := .boolean) (v' := (.int (nar .boolean p4))) (by decide) rfl (fits_nar_bool _) (g := (mkF m 16 #[.val (.ref a1), .val (.ref a2), .val (.int p3), .val (.int p4)] [(.int p4), (.ref a1)])) rfl rfl (hb hby d7_16)
  have Fw8 := ((F_shortest_a1.other W6 (Or.inr (slot_ne (Or.inr (hw _ (List.mem_of_getElem? (i := 49) rfl))) (Or.inl (hw _ (List.mem_of_getElem? (i := 45) rfl))) (by decide) (t := .boolean) (t' := (.array .byte)) (by decide) (by decide)))).other W7 (Or.inr (slot_ne (Or.inr (hw _ (List.mem_of_getElem? (i := 49) rfl))) (Or.inl (hw _ (List.mem_of_getElem? (i := 47) rfl))) (by decide) (t := .boolean) (t' := .int) (by decide) (by decide)))).same W8
  have K8 : Keep h0 h8 [a1] := K7.wr W8 (Or.inl (List.mem_of_getElem? (i := 0) rfl))
  have N8 := Fr.snoc X8 N7 g_a1
  obtain ⟨T9, h9, k9, X9, e9, E9, A9, st9⟩ := newP X8 hx hZ (hw _ (List.mem_of_getElem? (i := 50) rfl)) e8 (g := (mkF m 21 #[.val (.ref a1), .val (.ref a2), .val (.int p3), .val (.int p4)] [(.int (3 : Int32)), (.ref a1)])) rfl (hb hby d7_21) rfl (by decide) (cap := 3) (by decide) (by decide) (by decide) (by decide)
  obtain ⟨b9, g9⟩ : ∃ z, z = h8.size := ⟨_, rfl⟩
  rw [← g9] at A9 st9
  have V_b9 : Arv Z h9 b9 k9 .char (3 : Int32) [(.int (0 : Int32)), (.int (0 : Int32)), (.int (0 : Int32))] (.int (0 : Int32)) := (Arv.new A9 (by decide)).pad (pad_rep [] (.int (0 : Int32)) 3)
  have g_b9 : n0 ≤ b9 := Nat.le_trans (Nat.le_trans (Nat.le_trans (Nat.le_trans Z0 (Keep.of_wr W6).1) (Keep.of_wr W7).1) (Keep.of_wr W8).1) (Nat.le_of_eq g9.symm)
  have sz_b9 : h0.size ≤ b9 := (Nat.le_trans K8.1 (Nat.le_of_eq g9.symm))
  have K9 : Keep h0 h9 [a1] := K8.ext E9
  obtain ⟨cl_b9_26, Ar_b9, q_b9, S_b9, N_b9, H_b9, G_b9⟩ := V_b9
  have hin26 : ¬ ((0 : Int32) < 0 ∨ cl_b9_26.slots.size ≤ ((0 : Int32)).toNatClampNeg) := inb_of S_b9 ⟨by decide, by decide⟩
  obtain ⟨T10, h10, X10, e10, W10, st10⟩ := stC X9 hx hZ e9 Ar_b9 (j := (0 : Int32)) hin26 (g := (mkF m 26 #[.val (.ref a1), .val (.ref a2), .val (.int p3), .val (.int p4)] [(.int (0 : Int32)), (.int (0 : Int32)), (.ref b9), (.ref b9), (.ref a1)])) rfl rfl (hb hby d7_26)
  have V_b9_10 := Arv.set Ar_b9 q_b9 S_b9 N_b9 H_b9 G_b9 (fits_nar_char _) W10 0 rfl (Nat.le_of_ble_eq_true rfl)
  have K10 : Keep h0 h10 [a1] := K9.wr W10 (Or.inr sz_b9)
  have N10 := Fr.snoc X10 N8 g_b9
  obtain ⟨cl_b9_31, Ar_b9, q_b9, S_b9, N_b9, H_b9, G_b9⟩ := V_b9_10
  have hin31 : ¬ ((1 : Int32) < 0 ∨ cl_b9_31.slots.size ≤ ((1 : Int32)).toNatClampNeg) := inb_of S_b9 ⟨by decide, by decide⟩
  obtain ⟨T11, h11, X11, e11, W11, st11⟩ := stC X10 hx hZ e10 Ar_b9 (j := (1 : Int32)) hin31 (g := (mkF m 31 #[.val (.ref a1), .val (.ref a2), .val (.int p3), .val (.int p4)] [(.int (p3.toUInt32.toUInt16.toUInt32.toInt32)), (.int (1 : Int32)), (.ref b9), (.ref b9), (.ref a1)])) rfl rfl (hb hby d7_31)
  have V_b9_11 := Arv.set Ar_b9 q_b9 S_b9 N_b9 H_b9 G_b9 (fits_nar_char _) W11 1 rfl (Nat.le_of_ble_eq_true rfl)
  have K11 : Keep h0 h11 [a1] := K10.wr W11 (Or.inr sz_b9)
  have N11 := Fr.snoc X11 N10 g_b9
  obtain ⟨cl_b9_35, Ar_b9, q_b9, S_b9, N_b9, H_b9, G_b9⟩ := V_b9_11
  have hin35 : ¬ ((2 : Int32) < 0 ∨ cl_b9_35.slots.size ≤ ((2 : Int32)).toNatClampNeg) := inb_of S_b9 ⟨by decide, by decide⟩
  obtain ⟨T12, h12, X12, e12, W12, st12⟩ := stC X11 hx hZ e11 Ar_b9 (j := (2 : Int32)) hin35 (g := (mkF m 35 #[.val (.ref a1), .val (.ref a2), .val (.int p3), .val (.int p4)] [(.int (0 : Int32)), (.int (2 : Int32)), (.ref b9), (.ref b9), (.ref a1)])) rfl rfl (hb hby d7_35)
  have V_b9_12 := Arv.set Ar_b9 q_b9 S_b9 N_b9 H_b9 G_b9 (fits_nar_char _) W12 2 rfl (Nat.le_of_ble_eq_true rfl)
  have K12 : Keep h0 h12 [a1] := K11.wr W12 (Or.inr sz_b9)
  have N12 := Fr.snoc X12 N11 g_b9
  obtain ⟨T13, h13, X13, e13, W13, st13⟩ := putF X12 hx hZ hown (host := "") (Or.inl (hw _ (List.mem_of_getElem? (i := 51) rfl))) Via.refl e12 (((((((F_blocks_a1.other W6 (Or.inr (slot_ne (Or.inl (hw _ (List.mem_of_getElem? (i := 52) rfl))) (Or.inl (hw _ (List.mem_of_getElem? (i := 45) rfl))) (by decide) (t := (.array .char)) (t' := (.array .byte)) (by decide) (by decide)))).other W7 (Or.inr (slot_ne (Or.inl (hw _ (List.mem_of_getElem? (i := 52) rfl))) (Or.inl (hw _ (List.mem_of_getElem? (i := 47) rfl))) (by decide) (t := (.array .char)) (t' := .int) (by decide) (by decide)))).other W8 (Or.inr (slot_ne (Or.inl (hw _ (List.mem_of_getElem? (i := 52) rfl))) (Or.inr (hw _ (List.mem_of_getElem? (i := 49) rfl))) (by decide) (t := (.array .char)) (t' := .boolean) (by decide) (by decide)))).ext E9).other W10 (Or.inl (Nat.ne_of_lt (Nat.lt_of_lt_of_le (((E_a1.wr W6).wr W7).wr W8).lt (Nat.le_of_eq g9.symm))))).other W11 (Or.inl (Nat.ne_of_lt (Nat.lt_of_lt_of_le (((E_a1.wr W6).wr W7).wr W8).lt (Nat.le_of_eq g9.symm))))).other W12 (Or.inl (Nat.ne_of_lt (Nat.lt_of_lt_of_le (((E_a1.wr W6).wr W7).wr W8).lt (Nat.le_of_eq g9.symm))))) (((((((E_a1.wr W6).wr W7).wr W8).ext E9).wr W10).wr W11).wr W12) (Or.inl (hw _ (List.mem_of_getElem? (i := 52) rfl))) (hw _ (List.mem_of_getElem? (i := 31) rfl)) (ty := (.array .char)) (by decide) rfl rfl (g := (mkF m 36 #[.val (.ref a1), .val (.ref a2), .val (.int p3), .val (.int p4)] [(.ref b9), (.ref a1)])) rfl rfl (hb hby d7_36)
  have Fw13 := (((((((F_blocks_a1.other W6 (Or.inr (slot_ne (Or.inl (hw _ (List.mem_of_getElem? (i := 52) rfl))) (Or.inl (hw _ (List.mem_of_getElem? (i := 45) rfl))) (by decide) (t := (.array .char)) (t' := (.array .byte)) (by decide) (by decide)))).other W7 (Or.inr (slot_ne (Or.inl (hw _ (List.mem_of_getElem? (i := 52) rfl))) (Or.inl (hw _ (List.mem_of_getElem? (i := 47) rfl))) (by decide) (t := (.array .char)) (t' := .int) (by decide) (by decide)))).other W8 (Or.inr (slot_ne (Or.inl (hw _ (List.mem_of_getElem? (i := 52) rfl))) (Or.inr (hw _ (List.mem_of_getElem? (i := 49) rfl))) (by decide) (t := (.array .char)) (t' := .boolean) (by decide) (by decide)))).ext E9).other W10 (Or.inl (Nat.ne_of_lt (Nat.lt_of_lt_of_le (((E_a1.wr W6).wr W7).wr W8).lt (Nat.le_of_eq g9.symm))))).other W11 (Or.inl (Nat.ne_of_lt (Nat.lt_of_lt_of_le (((E_a1.wr W6).wr W7).wr W8).lt (Nat.le_of_eq g9.symm))))).other W12 (Or.inl (Nat.ne_of_lt (Nat.lt_of_lt_of_le (((E_a1.wr W6).wr W7).wr W8).lt (Nat.le_of_eq g9.symm))))).same W13
  have K13 : Keep h0 h13 [a1] := K12.wr W13 (Or.inl (List.mem_of_getElem? (i := 0) rfl))
  have N13 := Fr.snoc X13 N12 g_a1
  obtain ⟨_, _, ⟨T14, L14, k14, n14⟩, -, X14, ⟨Lc14, hQ14, l14, y14, z14⟩, st14⟩ := Jvm.LawKit.callS X13 hx (y := (⟨"java/lang/Integer", "numberOfTrailingZeros", "(I)I"⟩ : MethodName)) hown (mvT hZ (hw _ (List.mem_of_getElem? (i := 53) rfl))) (mvT hZ (hw _ (List.mem_of_getElem? (i := 54) rfl))) (mvT hZ (hw _ (List.mem_of_getElem? (i := 55) rfl))) (mvT hZ (hw _ (List.mem_of_getElem? (i := 56) rfl))) (by decide) (backOf (W := 1) (rm8 l Z a0 hw [] (16384 : Int32) h13 n0 (Nat.le_trans Z0 K13.1) (by decide) (by decide) (by decide) (by decide) (by decide)) hZ (hw _ (List.mem_of_getElem? (i := 56) rfl)) (hw _ (List.mem_of_getElem? (i := 55) rfl)) (by decide) (by decide)) (g := (mkF m 43 #[.val (.ref a1), .val (.ref a2), .val (.int p3), .val (.int p4)] [(.int (16384 : Int32)), (.ref a1)])) rfl (by rw [hml]; rfl) (argsL := [(.int (16384 : Int32))]) (rest := [(.ref a1)]) (lenOf pd_7_7 rfl) rfl (by show 2 * 0 + _ ≤ _; exact Nat.le_of_eq rfl) (hb hby d7_43) (fun _ _ => ⟨rfl, e13, (by decide : 1 + 0 ≤ _), (by decide : 3 + 0 ≤ _)⟩)
  dsimp only [Pt.U, Pt.locs, Pt.cells, Pt.slots] at X14 l14 y14 z14 st14 hQ14
  subst l14 y14 z14
  obtain ⟨rfl, N14q, w14⟩ := hQ14
  have Kc14 : Keep h13 T14.heap [] := by rw [w14]; exact Keep.refl _ _
  have N14 := Fr.app N13 N14q
  obtain ⟨T15, h15, X15, e15, W15, st15⟩ := putF X14 hx hZ hown (host := "") (Or.inl (hw _ (List.mem_of_getElem? (i := 58) rfl))) Via.refl rfl (((((((((F_blockBits_a1.other W6 (Or.inr (slot_ne (Or.inl (hw _ (List.mem_of_getElem? (i := 59) rfl))) (Or.inl (hw _ (List.mem_of_getElem? (i := 45) rfl))) (by decide) (t := .int) (t' := (.array .byte)) (by decide) (by decide)))).other W7 (Or.inr (slot_ne (Or.inl (hw _ (List.mem_of_getElem? (i := 59) rfl))) (Or.inl (hw _ (List.mem_of_getElem? (i := 47) rfl))) (by decide) (t := .int) (t' := .int) (by decide) (by decide)))).other W8 (Or.inr (slot_ne (Or.inl (hw _ (List.mem_of_getElem? (i := 59) rfl))) (Or.inr (hw _ (List.mem_of_getElem? (i := 49) rfl))) (by decide) (t := .int) (t' := .boolean) (by decide) (by decide)))).ext E9).other W10 (Or.inl (Nat.ne_of_lt (Nat.lt_of_lt_of_le (((E_a1.wr W6).wr W7).wr W8).lt (Nat.le_of_eq g9.symm))))).other W11 (Or.inl (Nat.ne_of_lt (Nat.lt_of_lt_of_le (((E_a1.wr W6).wr W7).wr W8).lt (Nat.le_of_eq g9.symm))))).other W12 (Or.inl (Nat.ne_of_lt (Nat.lt_of_lt_of_le (((E_a1.wr W6).wr W7).wr W8).lt (Nat.le_of_eq g9.symm))))).other W13 (Or.inr (slot_ne (Or.inl (hw _ (List.mem_of_getElem? (i := 59) rfl))) (Or.inl (hw _ (List.mem_of_getElem? (i := 52) rfl))) (by decide) (t := .int) (t' := (.array .char)) (by decide) (by decide)))).keep Kc14 nin0) (((((((((E_a1.wr W6).wr W7).wr W8).ext E9).wr W10).wr W11).wr W12).wr W13).keep Kc14) (Or.inl (hw _ (List.mem_of_getElem? (i := 59) rfl))) (hw _ (List.mem_of_getElem? (i := 31) rfl)) (ty := .int) (by decide) rfl rfl (g := (mkF m 46 #[.val (.ref a1), .val (.ref a2), .val (.int p3), .val (.int p4)] [(.int ((((1 : Int32) + (8 : Int32)) + (4 : Int32)) + (((((((((16384 : Int32) ^^^ (-1 : Int32)) &&& ((16384 : Int32) - (1 : Int32))).toUInt32 >>> ((8 : Int32) &&& 31).toUInt32).toInt32).toUInt32 >>> ((4 : Int32) &&& 31).toUInt32).toInt32).toUInt32 >>> ((1 : Int32) &&& 31).toUInt32).toInt32))), (.ref a1)])) rfl rfl (hb hby d7_46)
  have Fw15 := (((((((((F_blockBits_a1.other W6 (Or.inr (slot_ne (Or.inl (hw _ (List.mem_of_getElem? (i := 59) rfl))) (Or.inl (hw _ (List.mem_of_getElem? (i := 45) rfl))) (by decide) (t := .int) (t' := (.array .byte)) (by decide) (by decide)))).other W7 (Or.inr (slot_ne (Or.inl (hw _ (List.mem_of_getElem? (i := 59) rfl))) (Or.inl (hw _ (List.mem_of_getElem? (i := 47) rfl))) (by decide) (t := .int) (t' := .int) (by decide) (by decide)))).other W8 (Or.inr (slot_ne (Or.inl (hw _ (List.mem_of_getElem? (i := 59) rfl))) (Or.inr (hw _ (List.mem_of_getElem? (i := 49) rfl))) (by decide) (t := .int) (t' := .boolean) (by decide) (by decide)))).ext E9).other W10 (Or.inl (Nat.ne_of_lt (Nat.lt_of_lt_of_le (((E_a1.wr W6).wr W7).wr W8).lt (Nat.le_of_eq g9.symm))))).other W11 (Or.inl (Nat.ne_of_lt (Nat.lt_of_lt_of_le (((E_a1.wr W6).wr W7).wr W8).lt (Nat.le_of_eq g9.symm))))).other W12 (Or.inl (Nat.ne_of_lt (Nat.lt_of_lt_of_le (((E_a1.wr W6).wr W7).wr W8).lt (Nat.le_of_eq g9.symm))))).other W13 (Or.inr (slot_ne (Or.inl (hw _ (List.mem_of_getElem? (i := 59) rfl))) (Or.inl (hw _ (List.mem_of_getElem? (i := 52) rfl))) (by decide) (t := .int) (t' := (.array .char)) (by decide) (by decide)))).keep Kc14 nin0).same W15
  have K15 : Keep h0 h15 [a1] := (K13.trans Kc14 all0).wr W15 (Or.inl (List.mem_of_getElem? (i := 0) rfl))
  have N15 := Fr.snoc X15 N14 g_a1
  obtain ⟨fs, hr, hrun, hended, hW, hsame⟩ := X15.leave (v := none) (fun _ => rfl)
  refine ⟨_, _, pre0 _ ?_, hrun, hended, _, _, rfl, ?_, ⟨_, rfl⟩, hW, hsame.mono (by decide) (by decide)⟩
  · show Steps p.tables e below (s₁.setTop (mkF m 0 #[.val (.ref a1), .val (.ref a2), .val (.int p3), .val (.int p4)] [])) _
    refine XS.aloadN X0.here hx rfl (hb hby d7_0) rfl rfl ?_
    show Steps p.tables e below (s₁.setTop (mkF m 1 #[.val (.ref a1), .val (.ref a2), .val (.int p3), .val (.int p4)] [(.ref a1)])) _
    refine st5 _ ?_
    show Steps p.tables e below (T5.setTop (mkF m 4 #[.val (.ref a1), .val (.ref a2), .val (.int p3), .val (.int p4)] [])) _
    refine XS.aloadN X5.here hx rfl (hb hby d7_4) rfl rfl ?_
    show Steps p.tables e below (T5.setTop (mkF m 5 #[.val (.ref a1), .val (.ref a2), .val (.int p3), .val (.int p4)] [(.ref a1)])) _
    refine XS.aloadN X5.here hx rfl (hb hby d7_5) rfl rfl ?_
    show Steps p.tables e below (T5.setTop (mkF m 6 #[.val (.ref a1), .val (.ref a2), .val (.int p3), .val (.int p4)] [(.ref a2), (.ref a1)])) _
    refine st6 _ ?_
    show Steps p.tables e below (T6.setTop (mkF m 9 #[.val (.ref a1), .val (.ref a2), .val (.int p3), .val (.int p4)] [])) _
    refine XS.aloadN X6.here hx rfl (hb hby d7_9) rfl rfl ?_
    show Steps p.tables e below (T6.setTop (mkF m 10 #[.val (.ref a1), .val (.ref a2), .val (.int p3), .val (.int p4)] [(.ref a1)])) _
    refine XS.iloadN X6.here hx rfl (hb hby d7_10) rfl ?_
    show Steps p.tables e below (T6.setTop (mkF m 11 #[.val (.ref a1), .val (.ref a2), .val (.int p3), .val (.int p4)] [(.int p3), (.ref a1)])) _
    refine st7 _ ?_
    show Steps p.tables e below (T7.setTop (mkF m 14 #[.val (.ref a1), .val (.ref a2), .val (.int p3), .val (.int p4)] [])) _
    refine XS.aloadN X7.here hx rfl (hb hby d7_14) rfl rfl ?_
    show Steps p.tables e below (T7.setTop (mkF m 15 #[.val (.ref a1), .val (.ref a2), .val (.int p3), .val (.int p4)] [(.ref a1)])) _
    refine XS.iloadN X7.here hx rfl (hb hby d7_15) rfl ?_
    show Steps p.tables e below (T7.setTop (mkF m 16 #[.val (.ref a1), .val (.ref a2), .val (.int p3), .val (.int p4)] [(.int p4), (.ref a1)])) _
    refine st8 _ ?_
    show Steps p.tables e below (T8.setTop (mkF m 19 #[.val (.ref a1), .val (.ref a2), .val (.int p3), .val (.int p4)] [])) _
    refine XS.aloadN X8.here hx rfl (hb hby d7_19) rfl rfl ?_
    show Steps p.tables e below (T8.setTop (mkF m 20 #[.val (.ref a1), .val (.ref a2), .val (.int p3), .val (.int p4)] [(.ref a1)])) _
    refine XS.iconst X8.here hx rfl (hb hby d7_20) ?_
    show Steps p.tables e below (T8.setTop (mkF m 21 #[.val (.ref a1), .val (.ref a2), .val (.int p3), .val (.int p4)] [(.int (3 : Int32)), (.ref a1)])) _
    refine st9 _ ?_
    show Steps p.tables e below (T9.setTop (mkF m 23 #[.val (.ref a1), .val (.ref a2), .val (.int p3), .val (.int p4)] [(.ref b9), (.ref a1)])) _
    refine XS.dup X9.here hx rfl (hb hby d7_23) rfl rfl ?_
    show Steps p.tables e below (T9.setTop (mkF m 24 #[.val (.ref a1), .val (.ref a2), .val (.int p3), .val (.int p4)] [(.ref b9), (.ref b9), (.ref a1)])) _
    refine XS.iconst X9.here hx rfl (hb hby d7_24) ?_
    show Steps p.tables e below (T9.setTop (mkF m 25 #[.val (.ref a1), .val (.ref a2), .val (.int p3), .val (.int p4)] [(.int (0 : Int32)), (.ref b9), (.ref b9), (.ref a1)])) _
    refine XS.iconst X9.here hx rfl (hb hby d7_25) ?_
    show Steps p.tables e below (T9.setTop (mkF m 26 #[.val (.ref a1), .val (.ref a2), .val (.int p3), .val (.int p4)] [(.int (0 : Int32)), (.int (0 : Int32)), (.ref b9), (.ref b9), (.ref a1)])) _
    refine st10 _ ?_
    show Steps p.tables e below (T10.setTop (mkF m 27 #[.val (.ref a1), .val (.ref a2), .val (.int p3), .val (.int p4)] [(.ref b9), (.ref a1)])) _
    refine XS.dup X10.here hx rfl (hb hby d7_27) rfl rfl ?_
    show Steps p.tables e below (T10.setTop (mkF m 28 #[.val (.ref a1), .val (.ref a2), .val (.int p3), .val (.int p4)] [(.ref b9), (.ref b9), (.ref a1)])) _
    refine XS.iconst X10.here hx rfl (hb hby d7_28) ?_
    show Steps p.tables e below (T10.setTop (mkF m 29 #[.val (.ref a1), .val (.ref a2), .val (.int p3), .val (.int p4)] [(.int (1 : Int32)), (.ref b9), (.ref b9), (.ref a1)])) _
    refine XS.iloadN X10.here hx rfl (hb hby d7_29) rfl ?_
    show Steps p.tables e below (T10.setTop (mkF m 30 #[.val (.ref a1), .val (.ref a2), .val (.int p3), .val (.int p4)] [(.int p3), (.int (1 : Int32)), (.ref b9), (.ref b9), (.ref a1)])) _
    refine XS.i2c X10.here hx rfl (hb hby d7_30) rfl ?_
    show Steps p.tables e below (T10.setTop (mkF m 31 #[.val (.ref a1), .val (.ref a2), .val (.int p3), .val (.int p4)] [(.int (p3.toUInt32.toUInt16.toUInt32.toInt32)), (.int (1 : Int32)), (.ref b9), (.ref b9), (.ref a1)])) _
    refine st11 _ ?_
    show Steps p.tables e below (T11.setTop (mkF m 32 #[.val (.ref a1), .val (.ref a2), .val (.int p3), .val (.int p4)] [(.ref b9), (.ref a1)])) _
    refine XS.dup X11.here hx rfl (hb hby d7_32) rfl rfl ?_
    show Steps p.tables e below (T11.setTop (mkF m 33 #[.val (.ref a1), .val (.ref a2), .val (.int p3), .val (.int p4)] [(.ref b9), (.ref b9), (.ref a1)])) _
    refine XS.iconst X11.here hx rfl (hb hby d7_33) ?_
    show Steps p.tables e below (T11.setTop (mkF m 34 #[.val (.ref a1), .val (.ref a2), .val (.int p3), .val (.int p4)] [(.int (2 : Int32)), (.ref b9), (.ref b9), (.ref a1)])) _
    refine XS.iconst X11.here hx rfl (hb hby d7_34) ?_
    show Steps p.tables e below (T11.setTop (mkF m 35 #[.val (.ref a1), .val (.ref a2), .val (.int p3), .val (.int p4)] [(.int (0 : Int32)), (.int (2 : Int32)), (.ref b9), (.ref b9), (.ref a1)])) _
    refine st12 _ ?_
    show Steps p.tables e below (T12.setTop (mkF m 36 #[.val (.ref a1), .val (.ref a2), .val (.int p3), .val (.int p4)] [(.ref b9), (.ref a1)])) _
    refine st13 _ ?_
    show Steps p.tables e below (T13.setTop (mkF m 39 #[.val (.ref a1), .val (.ref a2), .val (.int p3), .val (.int p4)] [])) _
    refine XS.aloadN X13.here hx rfl (hb hby d7_39) rfl rfl ?_
    show Steps p.tables e below (T13.setTop (mkF m 40 #[.val (.ref a1), .val (.ref a2), .val (.int p3), .val (.int p4)] [(.ref a1)])) _
    refine XS.sipush X13.here hx rfl (hb hby d7_40) ?_
    show Steps p.tables e below (T13.setTop (mkF m 43 #[.val (.ref a1), .val (.ref a2), .val (.int p3), .val (.int p4)] [(.int (16384 : Int32)), (.ref a1)])) _
    refine st14 _ ?_
    show Steps p.tables e below (T14.setTop (mkF m 46 #[.val (.ref a1), .val (.ref a2), .val (.int p3), .val (.int p4)] [(.int ((((1 : Int32) + (8 : Int32)) + (4 : Int32)) + (((((((((16384 : Int32) ^^^ (-1 : Int32)) &&& ((16384 : Int32) - (1 : Int32))).toUInt32 >>> ((8 : Int32) &&& 31).toUInt32).toInt32).toUInt32 >>> ((4 : Int32) &&& 31).toUInt32).toInt32).toUInt32 >>> ((1 : Int32) &&& 31).toUInt32).toInt32))), (.ref a1)])) _
    refine st15 _ ?_
    show Steps p.tables e below (T15.setTop (mkF m 49 #[.val (.ref a1), .val (.ref a2), .val (.int p3), .val (.int p4)] [])) _
    exact X15.returnOut hx Bd.returns (hb hby d7_49) hr
  · show Q7 Z a1 a2 p3 p4 u_bytes_a1 u_length_a1 u_shortest_a1 u_blocks_a1 u_blockBits_a1 h0 n0 _ T15.heap _
    rw [e15]
    obtain ⟨cz, Az, -, Sz, -, -, -⟩ := V_b9_12
    obtain ⟨cy, Ay, Sy⟩ := own_arK (Az.other W13 (Ne.symm (Nat.ne_of_lt (Nat.lt_of_lt_of_le (((E_a1.wr W6).wr W7).wr W8).lt (Nat.le_of_eq g9.symm))))) Kc14
    have hb9 : b9 ≠ a1 := Ne.symm (Nat.ne_of_lt (Nat.lt_of_lt_of_le (((E_a1.wr W6).wr W7).wr W8).lt (Nat.le_of_eq g9.symm)))
    exact ⟨rfl, N15, K15, (((((((((E_a1.wr W6).wr W7).wr W8).ext E9).wr W10).wr W11).wr W12).wr W13).keep Kc14).wr W15, (((((((((Fw6.other W7 (Or.inr (slot_ne (Or.inl (hw _ (List.mem_of_getElem? (i := 45) rfl))) (Or.inl (hw _ (List.mem_of_getElem? (i := 47) rfl))) (by decide) (t := (.array .byte)) (t' := .int) (by decide) (by decide)))).other W8 (Or.inr (slot_ne (Or.inl (hw _ (List.mem_of_getElem? (i := 45) rfl))) (Or.inr (hw _ (List.mem_of_getElem? (i := 49) rfl))) (by decide) (t := (.array .byte)) (t' := .boolean) (by decide) (by decide)))).ext E9).other W10 (Or.inl (Nat.ne_of_lt (Nat.lt_of_lt_of_le (((E_a1.wr W6).wr W7).wr W8).lt (Nat.le_of_eq g9.symm))))).other W11 (Or.inl (Nat.ne_of_lt (Nat.lt_of_lt_of_le (((E_a1.wr W6).wr W7).wr W8).lt (Nat.le_of_eq g9.symm))))).other W12 (Or.inl (Nat.ne_of_lt (Nat.lt_of_lt_of_le (((E_a1.wr W6).wr W7).wr W8).lt (Nat.le_of_eq g9.symm))))).other W13 (Or.inr (slot_ne (Or.inl (hw _ (List.mem_of_getElem? (i := 45) rfl))) (Or.inl (hw _ (List.mem_of_getElem? (i := 52) rfl))) (by decide) (t := (.array .byte)) (t' := (.array .char)) (by decide) (by decide)))).keep Kc14 nin0).other W15 (Or.inr (slot_ne (Or.inl (hw _ (List.mem_of_getElem? (i := 45) rfl))) (Or.inl (hw _ (List.mem_of_getElem? (i := 59) rfl))) (by decide) (t := (.array .byte)) (t' := .int) (by decide) (by decide)))), b9, cy, ((Fw13.keep Kc14 nin0).other W15 (Or.inr (slot_ne (Or.inl (hw _ (List.mem_of_getElem? (i := 52) rfl))) (Or.inl (hw _ (List.mem_of_getElem? (i := 59) rfl))) (by decide) (t := (.array .char)) (t' := .int) (by decide) (by decide)))), Ay.other W15 hb9, Sy.trans Sz⟩
theorem d1_0 : decode prog_41_method_2_code 0 = .ok (.bipush 8, 2) := by decide +kernel
theorem d1_2 : decode prog_41_method_2_code 2 = .ok (.newarray .byte, 2) := by decide +kernel
theorem d1_4 : decode prog_41_method_2_code 4 = .ok (.astore_n 0, 1) := by decide +kernel
theorem d1_5 : decode prog_41_method_2_code 5 = .ok (.new 36, 3) := by decide +kernel
theorem d1_8 : decode prog_41_method_2_code 8 = .ok (.dup, 1) := by decide +kernel
theorem d1_9 : decode prog_41_method_2_code 9 = .ok (.aload_n 0, 1) := by decide +kernel
theorem d1_10 : decode prog_41_method_2_code 10 = .ok (.iconst 0, 1) := by decide +kernel
theorem d1_11 : decode prog_41_method_2_code 11 = .ok (.invokespecial 38, 3) := by decide +kernel
theorem d1_14 : decode prog_41_method_2_code 14 = .ok (.astore_n 1, 1) := by decide +kernel
theorem d1_15 : decode prog_41_method_2_code 15 = .ok (.aload_n 1, 1) := by decide +kernel
theorem d1_16 : decode prog_41_method_2_code 16 = .ok (.iconst 0, 1) := by decide +kernel
theorem d1_17 : decode prog_41_method_2_code 17 = .ok (.sipush 16384, 3) := by decide +kernel
theorem d1_20 : decode prog_41_method_2_code 20 = .ok (.invokevirtual 41, 3) := by decide +kernel
theorem d1_23 : decode prog_41_method_2_code 23 = .ok (.new 8, 3) := by decide +kernel
theorem d1_26 : decode prog_41_method_2_code 26 = .ok (.dup, 1) := by decide +kernel
theorem d1_27 : decode prog_41_method_2_code 27 = .ok (.aload_n 0, 1) := by decide +kernel
theorem d1_28 : decode prog_41_method_2_code 28 = .ok (.aload_n 1, 1) := by decide +kernel
theorem d1_29 : decode prog_41_method_2_code 29 = .ok (.invokevirtual 45, 3) := by decide +kernel
theorem d1_32 : decode prog_41_method_2_code 32 = .ok (.iconst 1, 1) := by decide +kernel
theorem d1_33 : decode prog_41_method_2_code 33 = .ok (.invokespecial 49, 3) := by decide +kernel
theorem d1_36 : decode prog_41_method_2_code 36 = .ok (.areturn, 1) := by decide +kernel
theorem pn_1 : plainName "com/example/hakari/hakari/SparseRegisters" = true := by first | (simp [plainName, overriddenIn]; done) | decide +kernel
theorem pd_1_1 : parseMethodDescriptor "([BI)V" = some ⟨[(.array .byte), .int], none⟩ := by decide +kernel
theorem pd_1_3 : parseMethodDescriptor "(II)V" = some ⟨[.int, .int], none⟩ := by decide +kernel
theorem pd_1_4 : parseMethodDescriptor "()I" = some ⟨[], some .int⟩ := by decide +kernel
theorem pd_1_6 : parseMethodDescriptor "([BIZ)V" = some ⟨[(.array .byte), .int, .boolean], none⟩ := by decide +kernel
theorem ef_1 (m : MethodId)  : entryFrame m #[] 2 = mkF m 0 #[.unset, .unset] [] := by first | (simp [entryFrame, mkF, argsToLocals, Value.category]; done) | rfl
def Q1 (Z : State)  (h0 : Heap) (n0 : Nat) (v : Option Value) (h : Heap) (L : List Loc) : Prop := ∃ b : Addr, v = some (.ref b) ∧ Fr n0 L ∧ Keep h0 h [] ∧ h0.size ≤ b ∧ own_SR Z h b
set_option maxRecDepth 65536 in
set_option maxHeartbeats 40000000 in
theorem rm1 (l : Launch) (Z : State) (a0 : Array Value) (hw : ∀ d ∈ tables_1, d.before a0 Z = true) (ws : List Jvm.Cond)  (h0 : Heap) (n0 : Nat) (Z0 : n0 ≤ h0.size) :
    MetFree l (⟨"com/example/hakari/hakari/SparseRegisters", "empty", "()Lcom/example/hakari/hakari/SparseRegisters;"⟩ : MethodName) (head1 (Jvm.Cond.code (⟨"com/example/hakari/hakari/SparseRegisters", "empty", "()Lcom/example/hakari/hakari/SparseRegisters;"⟩ : MethodName) prog_41_method_2_code 2 (some (.object "com/example/hakari/hakari/SparseRegisters")) :: ws) ({ frames := 2, cells := 4, slots := 20, locals := 32 } : Room)) (fun a U => a = #[] ∧ Z.Warmed39 U.vm ∧ U.heap = h0) (fun _ _ _ _ _ => True) (fun _ U o U' => ∃ v L, o = .returned v ∧ Q1 Z  h0 n0 v U'.heap L ∧ FrameEnd U o U' L ({ frames := 2, cells := 4, slots := 20, locals := 32 } : Room).cells ({ frames := 2, cells := 4, slots := 20, locals := 32 } : Room).slots) := by
  refine MetFree.of_bodySF (plainFor_of_name pn_1) hisR ?_
  intro p e s m args below meth c s₁ Bd hml0 hP hK
  obtain ⟨rfl, hZ, hh⟩ := hP
  have hx := Bd.exec
  have hby := Bd.bytes
  have hml : c.maxLocals = 2 := hml0
  have hown : s.vm.findClass "com/example/hakari/hakari/SparseRegisters" = some m.cls := findClass_of_methodNamed Bd.named
  have hnm := (name_of_methodNamed Bd.named Bd.method).1
  have X0 : Stand p l e ({ frames := 2, cells := 4, slots := 20, locals := 32 } : Room) s m #[] below meth c s₁ [] 0 0 := Stand.of_body Bd
  have e0 : s₁.heap = h0 := by rw [← hh, Bd.state]; rfl
  have N0 := Fr.nil n0
  have pre0 : ∀ t, Steps p.tables e below (s₁.setTop (mkF m 0 #[.unset, .unset] [])) t → Steps p.tables e below (s₁.setTop (entryFrame m #[] 2)) t := fun t k => castTop (ef_1 m ) k
  obtain ⟨T1, h1, k1, X1, e1, E1, A1, st1⟩ := newP X0 hx hZ (hw _ (List.mem_of_getElem? (i := 7) rfl)) e0 (g := (mkF m 2 #[.unset, .unset] [(.int (8 : Int32))])) rfl (hb hby d1_2) rfl (by decide) (cap := 8) (by decide) (by decide) (by decide) (by decide)
  obtain ⟨b1, g1⟩ : ∃ z, z = h0.size := ⟨_, rfl⟩
  rw [← g1] at A1 st1
  have V_b1 : Arv Z h1 b1 k1 .byte (8 : Int32) [(.int (0 : Int32)), (.int (0 : Int32)), (.int (0 : Int32)), (.int (0 : Int32)), (.int (0 : Int32)), (.int (0 : Int32)), (.int (0 : Int32)), (.int (0 : Int32))] (.int (0 : Int32)) := (Arv.new A1 (by decide)).pad (pad_rep [] (.int (0 : Int32)) 8)
  have g_b1 : n0 ≤ b1 := Nat.le_trans Z0 (Nat.le_of_eq g1.symm)
  have sz_b1 : h0.size ≤ b1 := (Nat.le_trans (Keep.refl h0 []).1 (Nat.le_of_eq g1.symm))
  have K1 : Keep h0 h1 [] := (Keep.refl h0 []).ext E1
  obtain ⟨T2, h2, X2, e2, E2, A2, D2, -, st2⟩ := newO X1 hx hZ hown (hw _ (List.mem_of_getElem? (i := 8) rfl)) (hw _ (List.mem_of_getElem? (i := 9) rfl)) (hw _ (List.mem_of_getElem? (i := 10) rfl)) e1 (g := (mkF m 5 #[.val (.ref b1), .unset] [])) rfl (hb hby d1_5) (by decide) (by decide)
  obtain ⟨b2, g2⟩ : ∃ z, z = h1.size := ⟨_, rfl⟩
  rw [← g2] at A2 D2 st2
  have F_bytes_b2 : Fld Z h2 b2 "com/example/hakari/hakari/SparseRegisters$Writer" "bytes" "[B" .null := D2 (Or.inr (hw _ (List.mem_of_getElem? (i := 18) rfl))) (ty := (.array .byte)) (by decide)
  have F_position_b2 : Fld Z h2 b2 "com/example/hakari/hakari/SparseRegisters$Writer" "position" "I" (.int (0 : Int32)) := D2 (Or.inl (hw _ (List.mem_of_getElem? (i := 20) rfl))) (ty := .int) (by decide)
  have F_runValue_b2 : Fld Z h2 b2 "com/example/hakari/hakari/SparseRegisters$Writer" "runValue" "I" (.int (0 : Int32)) := D2 (Or.inl (hw _ (List.mem_of_getElem? (i := 27) rfl))) (ty := .int) (by decide)
  have F_runCount_b2 : Fld Z h2 b2 "com/example/hakari/hakari/SparseRegisters$Writer" "runCount" "I" (.int (0 : Int32)) := D2 (Or.inl (hw _ (List.mem_of_getElem? (i := 29) rfl))) (ty := .int) (by decide)
  have E_b2 := A2
  have g_b2 : n0 ≤ b2 := Nat.le_trans (Nat.le_trans Z0 E1.1) (Nat.le_of_eq g2.symm)
  have sz_b2 : h0.size ≤ b2 := (Nat.le_trans K1.1 (Nat.le_of_eq g2.symm))
  have K2 : Keep h0 h2 [] := K1.ext E2
  obtain ⟨_, _, ⟨T3, L3, k3, n3⟩, -, X3, ⟨Lc3, hQ3, l3, y3, z3⟩, st3⟩ := X2.specialBack hx (y := (⟨"com/example/hakari/hakari/SparseRegisters$Writer", "<init>", "([BI)V"⟩ : MethodName)) rfl hown (mvT hZ (hw _ (List.mem_of_getElem? (i := 11) rfl))) (mvT hZ (hw _ (List.mem_of_getElem? (i := 12) rfl))) (mvT hZ (hw _ (List.mem_of_getElem? (i := 13) rfl))) (by decide) (backOf (W := 1) (rm2 l Z a0 hw [] b2 b1 (0 : Int32) _ _ _ _ h2 n0 (Nat.le_trans Z0 K2.1) E_b2 F_bytes_b2 g_b2 F_position_b2 F_runValue_b2 F_runCount_b2) hZ (hw _ (List.mem_of_getElem? (i := 13) rfl)) (hw _ (List.mem_of_getElem? (i := 10) rfl)) (by decide) (by decide)) (g := (mkF m 11 #[.val (.ref b1), .unset] [(.int (0 : Int32)), (.ref b1), (.ref b2), (.ref b2)])) rfl (by rw [hml]; rfl) (Steps.refl _) (a := b2) (argsL := [(.ref b1), (.int (0 : Int32))]) (rest := [(.ref b2)]) (lenOf pd_1_1 rfl) rfl (by show 2 * 0 + _ ≤ _; exact Nat.le_of_eq rfl) (hb hby d1_11) (fun _ _ => ⟨rfl, e2, (by decide : 2 + 0 ≤ _), (by decide : 12 + 0 ≤ _)⟩)
  dsimp only [Pt.U, Pt.locs, Pt.cells, Pt.slots] at X3 l3 y3 z3 st3 hQ3
  subst l3 y3 z3
  obtain ⟨rfl, N3q, K3q, x3, Fby3, Fpo3, Frv3, Frc3⟩ := hQ3
  have K3 : Keep h0 T3.heap [] := K2.trans K3q (allS (Or.inr sz_b2) all0)
  have N3 := Fr.app N0 N3q
  obtain ⟨cq4, kq4, q4a, q4b, q4c⟩ := isOf hZ rfl (E_b2.keep K3q)
  obtain ⟨_, _, ⟨T4, L4, k4, n4⟩, -, X4, ⟨Lc4, hQ4, l4, y4, z4⟩, st4⟩ := X3.virtualBack hx (y := (⟨"com/example/hakari/hakari/SparseRegisters$Writer", "run", "(II)V"⟩ : MethodName)) (z := (⟨"com/example/hakari/hakari/SparseRegisters$Writer", "run", "(II)V"⟩ : MethodName)) hown (mvT hZ (hw _ (List.mem_of_getElem? (i := 21) rfl))) (mvT hZ (hw _ (List.mem_of_getElem? (i := 22) rfl))) (notFace_of_selects (args := #[]) (mvT hZ (hw _ (List.mem_of_getElem? (i := 24) rfl)))) (mvT hZ (hw _ (List.mem_of_getElem? (i := 24) rfl))) (mvT hZ (hw _ (List.mem_of_getElem? (i := 23) rfl))) (by decide) (backOf (W := 0) (rm4 l Z a0 hw [] b2 (0 : Int32) (16384 : Int32) (0 : Int32) (0 : Int32) _ _ T3.heap n0 (Nat.le_trans Z0 K3.1) Frv3 Frc3 x3 g_b2 Fby3 Fpo3 (by decide) rfl) hZ (hw _ (List.mem_of_getElem? (i := 25) rfl)) (hw _ (List.mem_of_getElem? (i := 10) rfl)) (by decide) (by decide)) q4a q4c (g := (mkF m 20 #[.val (.ref b1), .val (.ref b2)] [(.int (16384 : Int32)), (.int (0 : Int32)), (.ref b2)])) rfl (by rw [hml]; rfl) (Steps.refl _) (argsL := [(.int (0 : Int32)), (.int (16384 : Int32))]) (rest := []) (lenOf pd_1_3 rfl) rfl (by show 2 * 0 + _ ≤ _; exact Nat.le_of_eq rfl) (hb hby d1_20) (fun _ _ => ⟨rfl, rfl, (by decide : 2 + 0 ≤ _), (by decide : 12 + 0 ≤ _)⟩)
  dsimp only [Pt.U, Pt.locs, Pt.cells, Pt.slots] at X4 l4 y4 z4 st4 hQ4
  subst l4 y4 z4
  obtain ⟨rfl, N4q, K4q, x4, Frc4, Fby4, Fpo4, Frv4⟩ := hQ4
  have K4 : Keep h0 T4.heap [] := K3.trans K4q (allS (Or.inr sz_b2) all0)
  obtain ⟨ca0, Aa0, -, Sa0, -, -, -⟩ := V_b1
  obtain ⟨ca3, Aa3, Sa3⟩ := own_arK (Aa0.ext E2) K3q
  obtain ⟨ca4, Aa4, Sa4⟩ := own_arK Aa3 K4q
  have S4 : ca4.slots.size = (8 : Int32).toNatClampNeg := (Sa4.trans Sa3).trans Sa0
  have n21 : b2 ≠ b1 := Ne.symm (Nat.ne_of_lt (Nat.lt_of_lt_of_le Aa0.lt (Nat.le_of_eq g2.symm)))
  have N4 := Fr.app N3 N4q
  obtain ⟨T5, h5, X5, e5, E5, A5, D5, -, st5⟩ := newO X4 hx hZ hown (hw _ (List.mem_of_getElem? (i := 30) rfl)) (hw _ (List.mem_of_getElem? (i := 31) rfl)) (hw _ (List.mem_of_getElem? (i := 5) rfl)) rfl (g := (mkF m 23 #[.val (.ref b1), .val (.ref b2)] [])) rfl (hb hby d1_23) (by decide) (by decide)
  obtain ⟨b5, g5⟩ : ∃ z, z = T4.heap.size := ⟨_, rfl⟩
  rw [← g5] at A5 D5 st5
  have F_bytes_b5 : Fld Z h5 b5 "com/example/hakari/hakari/SparseRegisters" "bytes" "[B" .null := D5 (Or.inl (hw _ (List.mem_of_getElem? (i := 45) rfl))) (ty := (.array .byte)) (by decide)
  have F_length_b5 : Fld Z h5 b5 "com/example/hakari/hakari/SparseRegisters" "length" "I" (.int (0 : Int32)) := D5 (Or.inl (hw _ (List.mem_of_getElem? (i := 47) rfl))) (ty := .int) (by decide)
  have F_shortest_b5 : Fld Z h5 b5 "com/example/hakari/hakari/SparseRegisters" "shortest" "Z" (.int (0 : Int32)) := D5 (Or.inr (hw _ (List.mem_of_getElem? (i := 49) rfl))) (ty := .boolean) (by decide)
  have F_blocks_b5 : Fld Z h5 b5 "com/example/hakari/hakari/SparseRegisters" "blocks" "[C" .null := D5 (Or.inl (hw _ (List.mem_of_getElem? (i := 52) rfl))) (ty := (.array .char)) (by decide)
  have F_blockBits_b5 : Fld Z h5 b5 "com/example/hakari/hakari/SparseRegisters" "blockBits" "I" (.int (0 : Int32)) := D5 (Or.inl (hw _ (List.mem_of_getElem? (i := 59) rfl))) (ty := .int) (by decide)
  have E_b5 := A5
  have g_b5 : n0 ≤ b5 := Nat.le_trans (Nat.le_trans (Nat.le_trans (Nat.le_trans (Nat.le_trans Z0 E1.1) E2.1) K3q.1) K4q.1) (Nat.le_of_eq g5.symm)
  have sz_b5 : h0.size ≤ b5 := (Nat.le_trans K4.1 (Nat.le_of_eq g5.symm))
  have K5 : Keep h0 h5 [] := K4.ext E5
  obtain ⟨cq6, kq6, q6a, q6b, q6c⟩ := isOf hZ e5 (((E_b2.keep K3q).keep K4q).ext E5)
  obtain ⟨_, _, ⟨T6, L6, k6, n6⟩, -, X6, ⟨Lc6, hQ6, l6, y6, z6⟩, st6⟩ := X5.virtualBack hx (y := (⟨"com/example/hakari/hakari/SparseRegisters$Writer", "finish", "()I"⟩ : MethodName)) (z := (⟨"com/example/hakari/hakari/SparseRegisters$Writer", "finish", "()I"⟩ : MethodName)) hown (mvT hZ (hw _ (List.mem_of_getElem? (i := 32) rfl))) (mvT hZ (hw _ (List.mem_of_getElem? (i := 33) rfl))) (notFace_of_selects (args := #[]) (mvT hZ (hw _ (List.mem_of_getElem? (i := 35) rfl)))) (mvT hZ (hw _ (List.mem_of_getElem? (i := 35) rfl))) (mvT hZ (hw _ (List.mem_of_getElem? (i := 34) rfl))) (by decide) (backOf (W := 3) (rm5 l Z a0 hw [] b2 ((0 : Int32) + (16384 : Int32)) (0 : Int32) b1 (0 : Int32) ca4 h5 n0 (Nat.le_trans Z0 K5.1) (Frc4.ext E5) (Frv4.ext E5) (Fby4.ext E5) (Fpo4.ext E5) (x4.ext E5) g_b2 (Aa4.ext E5) (inb_of S4 ⟨by decide, by decide⟩) (inb_of S4 ⟨by decide, by decide⟩) g_b1 n21 (by decide) (by decide) rfl) hZ (hw _ (List.mem_of_getElem? (i := 36) rfl)) (hw _ (List.mem_of_getElem? (i := 10) rfl)) (by decide) (by decide)) q6a q6c (g := (mkF m 29 #[.val (.ref b1), .val (.ref b2)] [(.ref b2), (.ref b1), (.ref b5), (.ref b5)])) rfl (by rw [hml]; rfl) (Steps.refl _) (argsL := []) (rest := [(.ref b1), (.ref b5), (.ref b5)]) (lenOf pd_1_4 rfl) rfl (by show 2 * 0 + _ ≤ _; exact Nat.le_of_eq rfl) (hb hby d1_29) (fun _ _ => ⟨rfl, e5, (by decide : 3 + 0 ≤ _), (by decide : 17 + 0 ≤ _)⟩)
  dsimp only [Pt.U, Pt.locs, Pt.cells, Pt.slots] at X6 l6 y6 z6 st6 hQ6
  subst l6 y6 z6
  obtain ⟨rfl, N6q, K6q⟩ := hQ6
  have K6 : Keep h0 T6.heap [] := K5.trans K6q (allS (Or.inr sz_b2) (allS (Or.inr sz_b1) all0))
  have n52 : b5 ≠ b2 := Ne.symm (Nat.ne_of_lt (Nat.lt_of_lt_of_le x4.lt (Nat.le_of_eq g5.symm)))
  have n51 : b5 ≠ b1 := Ne.symm (Nat.ne_of_lt (Nat.lt_of_lt_of_le Aa4.lt (Nat.le_of_eq g5.symm)))
  have ni : b5 ∉ [b2, b1] := ninS n52 (ninS n51 nin0)
  obtain ⟨ca6, Aa6, Sa6⟩ := own_arK (Aa4.ext E5) K6q
  have N6 := Fr.app N4 N6q
  obtain ⟨_, _, ⟨T7, L7, k7, n7⟩, -, X7, ⟨Lc7, hQ7, l7, y7, z7⟩, st7⟩ := X6.specialBack hx (y := (⟨"com/example/hakari/hakari/SparseRegisters", "<init>", "([BIZ)V"⟩ : MethodName)) rfl hown (mvT hZ (hw _ (List.mem_of_getElem? (i := 40) rfl))) (mvT hZ (hw _ (List.mem_of_getElem? (i := 41) rfl))) (mvT hZ (hw _ (List.mem_of_getElem? (i := 42) rfl))) (by decide) (backOf (W := 1) (rm7 l Z a0 hw [] b5 b1 ((0 : Int32) + (2 : Int32)) (1 : Int32) _ _ _ _ _ T6.heap n0 (Nat.le_trans Z0 K6.1) (E_b5.keep K6q) (F_bytes_b5.keep K6q ni) g_b5 (F_length_b5.keep K6q ni) (F_shortest_b5.keep K6q ni) (F_blocks_b5.keep K6q ni) (F_blockBits_b5.keep K6q ni)) hZ (hw _ (List.mem_of_getElem? (i := 42) rfl)) (hw _ (List.mem_of_getElem? (i := 5) rfl)) (by decide) (by decide)) (g := (mkF m 33 #[.val (.ref b1), .val (.ref b2)] [(.int (1 : Int32)), (.int ((0 : Int32) + (2 : Int32))), (.ref b1), (.ref b5), (.ref b5)])) rfl (by rw [hml]; rfl) (Steps.refl _) (a := b5) (argsL := [(.ref b1), (.int ((0 : Int32) + (2 : Int32))), (.int (1 : Int32))]) (rest := [(.ref b5)]) (lenOf pd_1_6 rfl) rfl (by show 2 * 0 + _ ≤ _; exact Nat.le_of_eq rfl) (hb hby d1_33) (fun _ _ => ⟨rfl, rfl, (by decide : 3 + 1 ≤ _), (by decide : 17 + 3 ≤ _)⟩)
  dsimp only [Pt.U, Pt.locs, Pt.cells, Pt.slots] at X7 l7 y7 z7 st7 hQ7
  subst l7 y7 z7
  obtain ⟨rfl, N7q, K7q, x7, Fby7, bb7, cb7, Fbl7, Ab7, Sb7⟩ := hQ7
  have K7 : Keep h0 T7.heap [] := K6.trans K7q (allS (Or.inr sz_b5) all0)
  obtain ⟨ca7, Aa7, Sa7⟩ := own_arK Aa6 K7q
  have N7 := Fr.app N6 N7q
  obtain ⟨fs, hr, hrun, hended, hW, hsame⟩ := X7.leave (v := some (.ref b5)) (fun h => by rw [Bd.returns] at h; cases h)
  refine ⟨_, _, pre0 _ ?_, hrun, hended, _, _, rfl, ?_, ⟨_, rfl⟩, hW, hsame.mono (by decide) (by decide)⟩
  · show Steps p.tables e below (s₁.setTop (mkF m 0 #[.unset, .unset] [])) _
    refine XS.bipush X0.here hx rfl (hb hby d1_0) ?_
    show Steps p.tables e below (s₁.setTop (mkF m 2 #[.unset, .unset] [(.int (8 : Int32))])) _
    refine st1 _ ?_
    show Steps p.tables e below (T1.setTop (mkF m 4 #[.unset, .unset] [(.ref b1)])) _
    refine XS.astoreN X1.here hx rfl (hb hby d1_4) rfl rfl (l' := #[.val (.ref b1), .unset]) rfl ?_
    show Steps p.tables e below (T1.setTop (mkF m 5 #[.val (.ref b1), .unset] [])) _
    refine st2 _ ?_
    show Steps p.tables e below (T2.setTop (mkF m 8 #[.val (.ref b1), .unset] [(.ref b2)])) _
    refine XS.dup X2.here hx rfl (hb hby d1_8) rfl rfl ?_
    show Steps p.tables e below (T2.setTop (mkF m 9 #[.val (.ref b1), .unset] [(.ref b2), (.ref b2)])) _
    refine XS.aloadN X2.here hx rfl (hb hby d1_9) rfl rfl ?_
    show Steps p.tables e below (T2.setTop (mkF m 10 #[.val (.ref b1), .unset] [(.ref b1), (.ref b2), (.ref b2)])) _
    refine XS.iconst X2.here hx rfl (hb hby d1_10) ?_
    show Steps p.tables e below (T2.setTop (mkF m 11 #[.val (.ref b1), .unset] [(.int (0 : Int32)), (.ref b1), (.ref b2), (.ref b2)])) _
    refine st3.trans ?_
    show Steps p.tables e below (T3.setTop (mkF m 14 #[.val (.ref b1), .unset] [(.ref b2)])) _
    refine XS.astoreN X3.here hx rfl (hb hby d1_14) rfl rfl (l' := #[.val (.ref b1), .val (.ref b2)]) rfl ?_
    show Steps p.tables e below (T3.setTop (mkF m 15 #[.val (.ref b1), .val (.ref b2)] [])) _
    refine XS.aloadN X3.here hx rfl (hb hby d1_15) rfl rfl ?_
    show Steps p.tables e below (T3.setTop (mkF m 16 #[.val (.ref b1), .val (.ref b2)] [(.ref b2)])) _
    refine XS.iconst X3.here hx rfl (hb hby d1_16) ?_
    show Steps p.tables e below (T3.setTop (mkF m 17 #[.val (.ref b1), .val (.ref b2)] [(.int (0 : Int32)), (.ref b2)])) _
    refine XS.sipush X3.here hx rfl (hb hby d1_17) ?_
    show Steps p.tables e below (T3.setTop (mkF m 20 #[.val (.ref b1), .val (.ref b2)] [(.int (16384 : Int32)), (.int (0 : Int32)), (.ref b2)])) _
    refine st4.trans ?_
    show Steps p.tables e below (T4.setTop (mkF m 23 #[.val (.ref b1), .val (.ref b2)] [])) _
    refine st5 _ ?_
    show Steps p.tables e below (T5.setTop (mkF m 26 #[.val (.ref b1), .val (.ref b2)] [(.ref b5)])) _
    refine XS.dup X5.here hx rfl (hb hby d1_26) rfl rfl ?_
    show Steps p.tables e below (T5.setTop (mkF m 27 #[.val (.ref b1), .val (.ref b2)] [(.ref b5), (.ref b5)])) _
    refine XS.aloadN X5.here hx rfl (hb hby d1_27) rfl rfl ?_
    show Steps p.tables e below (T5.setTop (mkF m 28 #[.val (.ref b1), .val (.ref b2)] [(.ref b1), (.ref b5), (.ref b5)])) _
    refine XS.aloadN X5.here hx rfl (hb hby d1_28) rfl rfl ?_
    show Steps p.tables e below (T5.setTop (mkF m 29 #[.val (.ref b1), .val (.ref b2)] [(.ref b2), (.ref b1), (.ref b5), (.ref b5)])) _
    refine st6.trans ?_
    show Steps p.tables e below (T6.setTop (mkF m 32 #[.val (.ref b1), .val (.ref b2)] [(.int ((0 : Int32) + (2 : Int32))), (.ref b1), (.ref b5), (.ref b5)])) _
    refine XS.iconst X6.here hx rfl (hb hby d1_32) ?_
    show Steps p.tables e below (T6.setTop (mkF m 33 #[.val (.ref b1), .val (.ref b2)] [(.int (1 : Int32)), (.int ((0 : Int32) + (2 : Int32))), (.ref b1), (.ref b5), (.ref b5)])) _
    refine st7.trans ?_
    show Steps p.tables e below (T7.setTop (mkF m 36 #[.val (.ref b1), .val (.ref b2)] [(.ref b5)])) _
    jvm_step X7.here [X7.here.top, hx, (hb hby d1_36), X7.method', Bd.returns, Value.isRef, FieldType.isReference]
    first | (intro acts; rw [hr _ acts rfl rfl rfl]) | rw [hr _ _ rfl rfl rfl]
    exact Steps.refl _
  · show Q1 Z  h0 n0 _ T7.heap _
    exact ⟨b5, rfl, N7, K7, sz_b5, x7, b1, ca7, bb7, cb7, Fby7, Aa7, ((Sa7.trans Sa6).trans S4), Fbl7, Ab7, Sb7⟩
theorem d9_0 : decode prog_8_method_3_code 0 = .ok (.aload_n 0, 1) := by decide +kernel
theorem d9_1 : decode prog_8_method_3_code 1 = .ok (.invokespecial 17, 3) := by decide +kernel
theorem d9_4 : decode prog_8_method_3_code 4 = .ok (.aload_n 0, 1) := by decide +kernel
theorem d9_5 : decode prog_8_method_3_code 5 = .ok (.aload_n 1, 1) := by decide +kernel
theorem d9_6 : decode prog_8_method_3_code 6 = .ok (.putfield 43, 3) := by decide +kernel
theorem d9_9 : decode prog_8_method_3_code 9 = .ok (.aload_n 0, 1) := by decide +kernel
theorem d9_10 : decode prog_8_method_3_code 10 = .ok (.iload_n 2, 1) := by decide +kernel
theorem d9_11 : decode prog_8_method_3_code 11 = .ok (.putfield 35, 3) := by decide +kernel
theorem d9_14 : decode prog_8_method_3_code 14 = .ok (.aload_n 0, 1) := by decide +kernel
theorem d9_15 : decode prog_8_method_3_code 15 = .ok (.lload_n 3, 1) := by decide +kernel
theorem d9_16 : decode prog_8_method_3_code 16 = .ok (.putfield 39, 3) := by decide +kernel
theorem d9_19 : decode prog_8_method_3_code 19 = .ok (.return_, 1) := by decide +kernel
theorem pn_9 : plainName "com/example/hakari/hakari/Counter" = true := by first | (simp [plainName, overriddenIn]; done) | decide +kernel
theorem ef_9 (m : MethodId) (x0 : Addr) (x1 : Addr) (x2 : Int32) (x3 : Int64) : entryFrame m #[(.ref x0), (.ref x1), (.int x2), (.long x3)] 5 = mkF m 0 #[.val (.ref x0), .val (.ref x1), .val (.int x2), .val (.long x3), .second] [] := by first | (simp [entryFrame, mkF, argsToLocals, Value.category]; done) | rfl
def Q9 (Z : State) (a1 : Addr) (a2 : Addr) (p3 : Int32) (q4 : Int64) (u_sparse_a1 : Value) (u_unused_a1 : Value) (u_cachedCount_a1 : Value) (u_dn : Value) (h0 : Heap) (n0 : Nat) (v : Option Value) (h : Heap) (L : List Loc) : Prop := v = none ∧ Fr n0 L ∧ Keep h0 h [a1] ∧ Exa Z h a1 "com/example/hakari/hakari/Counter" ∧ Fld Z h a1 "com/example/hakari/hakari/Counter" "sparse" "Lcom/example/hakari/hakari/SparseRegisters;" (.ref a2) ∧ Fld Z h a1 "com/example/hakari/hakari/Counter" "unused" "I" (.int p3) ∧ Fld Z h a1 "com/example/hakari/hakari/Counter" "cachedCount" "J" (.long q4) ∧ Fld Z h a1 "com/example/hakari/hakari/Counter" "dense" "[B" u_dn
set_option maxRecDepth 65536 in
set_option maxHeartbeats 40000000 in
theorem rm9 (l : Launch) (Z : State) (a0 : Array Value) (hw : ∀ d ∈ tables_1, d.before a0 Z = true) (ws : List Jvm.Cond) (a1 : Addr) (a2 : Addr) (p3 : Int32) (q4 : Int64) (u_sparse_a1 : Value) (u_unused_a1 : Value) (u_cachedCount_a1 : Value) (u_dn : Value) (h0 : Heap) (n0 : Nat) (Z0 : n0 ≤ h0.size) (E_a1 : Exa Z h0 a1 "com/example/hakari/hakari/Counter") (F_sparse_a1 : Fld Z h0 a1 "com/example/hakari/hakari/Counter" "sparse" "Lcom/example/hakari/hakari/SparseRegisters;" u_sparse_a1) (g_a1 : n0 ≤ a1) (F_unused_a1 : Fld Z h0 a1 "com/example/hakari/hakari/Counter" "unused" "I" u_unused_a1) (F_cachedCount_a1 : Fld Z h0 a1 "com/example/hakari/hakari/Counter" "cachedCount" "J" u_cachedCount_a1) (F_dn : Fld Z h0 a1 "com/example/hakari/hakari/Counter" "dense" "[B" u_dn) :
    MetFree l (⟨"com/example/hakari/hakari/Counter", "<init>", "(Lcom/example/hakari/hakari/SparseRegisters;IJ)V"⟩ : MethodName) (head1 (Jvm.Cond.code (⟨"com/example/hakari/hakari/Counter", "<init>", "(Lcom/example/hakari/hakari/SparseRegisters;IJ)V"⟩ : MethodName) prog_8_method_3_code 5 none :: ws) ({ frames := 1, cells := 0, slots := 0, locals := 12 } : Room)) (fun a U => a = #[(.ref a1), (.ref a2), (.int p3), (.long q4)] ∧ Z.Warmed39 U.vm ∧ U.heap = h0) (fun _ _ _ _ _ => True) (fun _ U o U' => ∃ v L, o = .returned v ∧ Q9 Z a1 a2 p3 q4 u_sparse_a1 u_unused_a1 u_cachedCount_a1 u_dn h0 n0 v U'.heap L ∧ FrameEnd U o U' L ({ frames := 1, cells := 0, slots := 0, locals := 12 } : Room).cells ({ frames := 1, cells := 0, slots := 0, locals := 12 } : Room).slots) := by
  refine MetFree.of_bodySF (plainFor_of_name pn_9) hisR ?_
  intro p e s m args below meth c s₁ Bd hml0 hP hK
  obtain ⟨rfl, hZ, hh⟩ := hP
  have hx := Bd.exec
  have hby := Bd.bytes
  have hml : c.maxLocals = 5 := hml0
  have hown : s.vm.findClass "com/example/hakari/hakari/Counter" = some m.cls := findClass_of_methodNamed Bd.named
  have hnm := (name_of_methodNamed Bd.named Bd.method).1
  have X0 : Stand p l e ({ frames := 1, cells := 0, slots := 0, locals := 12 } : Room) s m #[(.ref a1), (.ref a2), (.int p3), (.long q4)] below meth c s₁ [] 0 0 := Stand.of_body Bd
  have e0 : s₁.heap = h0 := by rw [← hh, Bd.state]; rfl
  have N0 := Fr.nil n0
  have pre0 : ∀ t, Steps p.tables e below (s₁.setTop (mkF m 0 #[.val (.ref a1), .val (.ref a2), .val (.int p3), .val (.long q4), .second] [])) t → Steps p.tables e below (s₁.setTop (entryFrame m #[(.ref a1), (.ref a2), (.int p3), (.long q4)] 5)) t := fun t k => castTop (ef_9 m a1 a2 p3 q4) k
  obtain ⟨T5, X5, e5, st5⟩ := initO X0 hx hZ hown (hw _ (List.mem_of_getElem? (i := 63) rfl)) (hw _ (List.mem_of_getElem? (i := 15) rfl)) (hw _ (List.mem_of_getElem? (i := 16) rfl)) e0 (g := (mkF m 1 #[.val (.ref a1), .val (.ref a2), .val (.int p3), .val (.long q4), .second] [(.ref a1)])) rfl (by rw [hml]; rfl) rfl (hb hby d9_1) (by decide) (W := 0) (by show 2 * 0 + _ ≤ _; exact Nat.le_of_eq rfl) (by decide)
  obtain ⟨T6, h6, X6, e6, W6, st6⟩ := putF X5 hx hZ hown (host := "") (Or.inl (hw _ (List.mem_of_getElem? (i := 64) rfl))) Via.refl e5 F_sparse_a1 E_a1 (Or.inl (hw _ (List.mem_of_getElem? (i := 65) rfl))) (hw _ (List.mem_of_getElem? (i := 1) rfl)) (ty := (.object "com/example/hakari/hakari/SparseRegisters")) (by decide) rfl rfl (g := (mkF m 6 #[.val (.ref a1), .val (.ref a2), .val (.int p3), .val (.long q4), .second] [(.ref a2), (.ref a1)])) rfl rfl (hb hby d9_6)
  have Fw6 := F_sparse_a1.same W6
  have K6 : Keep h0 h6 [a1] := (Keep.refl h0 [a1]).wr W6 (Or.inl (List.mem_of_getElem? (i := 0) rfl))
  have N6 := Fr.snoc X6 N0 g_a1
  obtain ⟨T7, h7, X7, e7, W7, st7⟩ := putF X6 hx hZ hown (host := "") (Or.inl (hw _ (List.mem_of_getElem? (i := 66) rfl))) Via.refl e6 (F_unused_a1.other W6 (Or.inr (slot_ne (Or.inr (hw _ (List.mem_of_getElem? (i := 67) rfl))) (Or.inl (hw _ (List.mem_of_getElem? (i := 65) rfl))) (by decide) (t := .int) (t' := (.object "com/example/hakari/hakari/SparseRegisters")) (by decide) (by decide)))) (E_a1.wr W6) (Or.inr ⟨(hw _ (List.mem_of_getElem? (i := 67) rfl)), rfl, hnm⟩) (hw _ (List.mem_of_getElem? (i := 1) rfl)) (ty := .int) (by decide) rfl rfl (g := (mkF m 11 #[.val (.ref a1), .val (.ref a2), .val (.int p3), .val (.long q4), .second] [(.int p3), (.ref a1)])) rfl rfl (hb hby d9_11)
  have Fw7 := (F_unused_a1.other W6 (Or.inr (slot_ne (Or.inr (hw _ (List.mem_of_getElem? (i := 67) rfl))) (Or.inl (hw _ (List.mem_of_getElem? (i := 65) rfl))) (by decide) (t := .int) (t' := (.object "com/example/hakari/hakari/SparseRegisters")) (by decide) (by decide)))).same W7
  have K7 : Keep h0 h7 [a1] := K6.wr W7 (Or.inl (List.mem_of_getElem? (i := 0) rfl))
  have N7 := Fr.snoc X7 N6 g_a1
  obtain ⟨T8, h8, X8, e8, W8, st8⟩ := putF X7 hx hZ hown (host := "") (Or.inl (hw _ (List.mem_of_getElem? (i := 68) rfl))) Via.refl e7 ((F_cachedCount_a1.other W6 (Or.inr (slot_ne (Or.inl (hw _ (List.mem_of_getElem? (i := 69) rfl))) (Or.inl (hw _ (List.mem_of_getElem? (i := 65) rfl))) (by decide) (t := .long) (t' := (.object "com/example/hakari/hakari/SparseRegisters")) (by decide) (by decide)))).other W7 (Or.inr (slot_ne (Or.inl (hw _ (List.mem_of_getElem? (i := 69) rfl))) (Or.inr (hw _ (List.mem_of_getElem? (i := 67) rfl))) (by decide) (t := .long) (t' := .int) (by decide) (by decide)))) ((E_a1.wr W6).wr W7) (Or.inl (hw _ (List.mem_of_getElem? (i := 69) rfl))) (hw _ (List.mem_of_getElem? (i := 1) rfl)) (ty := .long) (by decide) rfl rfl (g := (mkF m 16 #[.val (.ref a1), .val (.ref a2), .val (.int p3), .val (.long q4), .second] [(.long q4), (.ref a1)])) rfl rfl (hb hby d9_16)
  have Fw8 := ((F_cachedCount_a1.other W6 (Or.inr (slot_ne (Or.inl (hw _ (List.mem_of_getElem? (i := 69) rfl))) (Or.inl (hw _ (List.mem_of_getElem? (i := 65) rfl))) (by decide) (t := .long) (t' := (.object "com/example/hakari/hakari/SparseRegisters")) (by decide) (by decide)))).other W7 (Or.inr (slot_ne (Or.inl (hw _ (List.mem_of_getElem? (i := 69) rfl))) (Or.inr (hw _ (List.mem_of_getElem? (i := 67) rfl))) (by decide) (t := .long) (t' := .int) (by decide) (by decide)))).same W8
  have K8 : Keep h0 h8 [a1] := K7.wr W8 (Or.inl (List.mem_of_getElem? (i := 0) rfl))
  have N8 := Fr.snoc X8 N7 g_a1
  obtain ⟨fs, hr, hrun, hended, hW, hsame⟩ := X8.leave (v := none) (fun _ => rfl)
  refine ⟨_, _, pre0 _ ?_, hrun, hended, _, _, rfl, ?_, ⟨_, rfl⟩, hW, hsame.mono (by decide) (by decide)⟩
  · show Steps p.tables e below (s₁.setTop (mkF m 0 #[.val (.ref a1), .val (.ref a2), .val (.int p3), .val (.long q4), .second] [])) _
    refine XS.aloadN X0.here hx rfl (hb hby d9_0) rfl rfl ?_
    show Steps p.tables e below (s₁.setTop (mkF m 1 #[.val (.ref a1), .val (.ref a2), .val (.int p3), .val (.long q4), .second] [(.ref a1)])) _
    refine st5 _ ?_
    show Steps p.tables e below (T5.setTop (mkF m 4 #[.val (.ref a1), .val (.ref a2), .val (.int p3), .val (.long q4), .second] [])) _
    refine XS.aloadN X5.here hx rfl (hb hby d9_4) rfl rfl ?_
    show Steps p.tables e below (T5.setTop (mkF m 5 #[.val (.ref a1), .val (.ref a2), .val (.int p3), .val (.long q4), .second] [(.ref a1)])) _
    refine XS.aloadN X5.here hx rfl (hb hby d9_5) rfl rfl ?_
    show Steps p.tables e below (T5.setTop (mkF m 6 #[.val (.ref a1), .val (.ref a2), .val (.int p3), .val (.long q4), .second] [(.ref a2), (.ref a1)])) _
    refine st6 _ ?_
    show Steps p.tables e below (T6.setTop (mkF m 9 #[.val (.ref a1), .val (.ref a2), .val (.int p3), .val (.long q4), .second] [])) _
    refine XS.aloadN X6.here hx rfl (hb hby d9_9) rfl rfl ?_
    show Steps p.tables e below (T6.setTop (mkF m 10 #[.val (.ref a1), .val (.ref a2), .val (.int p3), .val (.long q4), .second] [(.ref a1)])) _
    refine XS.iloadN X6.here hx rfl (hb hby d9_10) rfl ?_
    show Steps p.tables e below (T6.setTop (mkF m 11 #[.val (.ref a1), .val (.ref a2), .val (.int p3), .val (.long q4), .second] [(.int p3), (.ref a1)])) _
    refine st7 _ ?_
    show Steps p.tables e below (T7.setTop (mkF m 14 #[.val (.ref a1), .val (.ref a2), .val (.int p3), .val (.long q4), .second] [])) _
    refine XS.aloadN X7.here hx rfl (hb hby d9_14) rfl rfl ?_
    show Steps p.tables e below (T7.setTop (mkF m 15 #[.val (.ref a1), .val (.ref a2), .val (.int p3), .val (.long q4), .second] [(.ref a1)])) _
    refine XS.lloadN X7.here hx rfl (hb hby d9_15) rfl ?_
    show Steps p.tables e below (T7.setTop (mkF m 16 #[.val (.ref a1), .val (.ref a2), .val (.int p3), .val (.long q4), .second] [(.long q4), (.ref a1)])) _
    refine st8 _ ?_
    show Steps p.tables e below (T8.setTop (mkF m 19 #[.val (.ref a1), .val (.ref a2), .val (.int p3), .val (.long q4), .second] [])) _
    exact X8.returnOut hx Bd.returns (hb hby d9_19) hr
  · show Q9 Z a1 a2 p3 q4 u_sparse_a1 u_unused_a1 u_cachedCount_a1 u_dn h0 n0 _ T8.heap _
    rw [e8]
    exact ⟨rfl, N8, K8, (((E_a1.wr W6).wr W7).wr W8), ((Fw6.other W7 (Or.inr (slot_ne (Or.inl (hw _ (List.mem_of_getElem? (i := 65) rfl))) (Or.inr (hw _ (List.mem_of_getElem? (i := 67) rfl))) (by decide) (t := (.object "com/example/hakari/hakari/SparseRegisters")) (t' := .int) (by decide) (by decide)))).other W8 (Or.inr (slot_ne (Or.inl (hw _ (List.mem_of_getElem? (i := 65) rfl))) (Or.inl (hw _ (List.mem_of_getElem? (i := 69) rfl))) (by decide) (t := (.object "com/example/hakari/hakari/SparseRegisters")) (t' := .long) (by decide) (by decide)))), (Fw7.other W8 (Or.inr (slot_ne (Or.inr (hw _ (List.mem_of_getElem? (i := 67) rfl))) (Or.inl (hw _ (List.mem_of_getElem? (i := 69) rfl))) (by decide) (t := .int) (t' := .long) (by decide) (by decide)))), Fw8, (((F_dn.other W6 (Or.inr (slot_ne (Or.inl (hw _ (List.mem_of_getElem? (i := 78) rfl))) (Or.inl (hw _ (List.mem_of_getElem? (i := 65) rfl))) (by decide) (t := (.array .byte)) (t' := (.object "com/example/hakari/hakari/SparseRegisters")) (by decide) (by decide)))).other W7 (Or.inr (slot_ne (Or.inl (hw _ (List.mem_of_getElem? (i := 78) rfl))) (Or.inr (hw _ (List.mem_of_getElem? (i := 67) rfl))) (by decide) (t := (.array .byte)) (t' := .int) (by decide) (by decide)))).other W8 (Or.inr (slot_ne (Or.inl (hw _ (List.mem_of_getElem? (i := 78) rfl))) (Or.inl (hw _ (List.mem_of_getElem? (i := 69) rfl))) (by decide) (t := (.array .byte)) (t' := .long) (by decide) (by decide))))⟩
theorem d16_0 : decode prog_8_method_1_code 0 = .ok (.aload_n 0, 1) := by decide +kernel
theorem d16_1 : decode prog_8_method_1_code 1 = .ok (.invokestatic 5, 3) := by decide +kernel
theorem d16_4 : decode prog_8_method_1_code 4 = .ok (.iconst 0, 1) := by decide +kernel
theorem d16_5 : decode prog_8_method_1_code 5 = .ok (.ldc2_w 11, 3) := by decide +kernel
theorem d16_8 : decode prog_8_method_1_code 8 = .ok (.invokespecial 13, 3) := by decide +kernel
theorem d16_11 : decode prog_8_method_1_code 11 = .ok (.return_, 1) := by decide +kernel
theorem pn_16 : plainName "com/example/hakari/hakari/Counter" = true := by first | (simp [plainName, overriddenIn]; done) | decide +kernel
theorem pd_16_0 : parseMethodDescriptor "()Lcom/example/hakari/hakari/SparseRegisters;" = some ⟨[], some (.object "com/example/hakari/hakari/SparseRegisters")⟩ := by decide +kernel
theorem pd_16_8 : parseMethodDescriptor "(Lcom/example/hakari/hakari/SparseRegisters;IJ)V" = some ⟨[(.object "com/example/hakari/hakari/SparseRegisters"), .int, .long], none⟩ := by decide +kernel
theorem ef_16 (m : MethodId) (x0 : Addr) : entryFrame m #[(.ref x0)] 1 = mkF m 0 #[.val (.ref x0)] [] := by first | (simp [entryFrame, mkF, argsToLocals, Value.category]; done) | rfl
def Q16 (Z : State) (a1 : Addr) (u1 u2 u3 : Value) (h0 : Heap) (n0 : Nat) (v : Option Value) (h : Heap) (L : List Loc) : Prop := v = none ∧ Fr n0 L ∧ Keep h0 h [a1] ∧ Exa Z h a1 "com/example/hakari/hakari/Counter" ∧ Fld Z h a1 "com/example/hakari/hakari/Counter" "dense" "[B" .null ∧ ∃ b : Addr, Fld Z h a1 "com/example/hakari/hakari/Counter" "sparse" "Lcom/example/hakari/hakari/SparseRegisters;" (.ref b) ∧ own_SR Z h b
set_option maxRecDepth 65536 in
set_option maxHeartbeats 40000000 in
theorem rm16 (l : Launch) (Z : State) (a0 : Array Value) (hw : ∀ d ∈ tables_1, d.before a0 Z = true) (ws : List Jvm.Cond) (a1 : Addr) (u1 u2 u3 : Value) (h0 : Heap) (n0 : Nat) (Z0 : n0 ≤ h0.size) (E_a1 : Exa Z h0 a1 "com/example/hakari/hakari/Counter") (F_sparse_a1 : Fld Z h0 a1 "com/example/hakari/hakari/Counter" "sparse" "Lcom/example/hakari/hakari/SparseRegisters;" u1) (g_a1 : n0 ≤ a1) (F_unused_a1 : Fld Z h0 a1 "com/example/hakari/hakari/Counter" "unused" "I" u2) (F_cachedCount_a1 : Fld Z h0 a1 "com/example/hakari/hakari/Counter" "cachedCount" "J" u3) (F_dense_a1 : Fld Z h0 a1 "com/example/hakari/hakari/Counter" "dense" "[B" .null) :
    MetFree l (⟨"com/example/hakari/hakari/Counter", "<init>", "()V"⟩ : MethodName) (head1 (Jvm.Cond.code (⟨"com/example/hakari/hakari/Counter", "<init>", "()V"⟩ : MethodName) prog_8_method_1_code 1 none :: ws) ({ frames := 3, cells := 4, slots := 20, locals := 46 } : Room)) (fun a U => a = #[(.ref a1)] ∧ Z.Warmed39 U.vm ∧ U.heap = h0) (fun _ _ _ _ _ => True) (fun _ U o U' => ∃ v L, o = .returned v ∧ Q16 Z a1 u1 u2 u3 h0 n0 v U'.heap L ∧ FrameEnd U o U' L ({ frames := 3, cells := 4, slots := 20, locals := 46 } : Room).cells ({ frames := 3, cells := 4, slots := 20, locals := 46 } : Room).slots) := by
  refine MetFree.of_bodySF (plainFor_of_name pn_16) hisR ?_
  intro p e s m args below meth c s₁ Bd hml0 hP hK
  obtain ⟨rfl, hZ, hh⟩ := hP
  have hx := Bd.exec
  have hby := Bd.bytes
  have hml : c.maxLocals = 1 := hml0
  have hown : s.vm.findClass "com/example/hakari/hakari/Counter" = some m.cls := findClass_of_methodNamed Bd.named
  have hnm := (name_of_methodNamed Bd.named Bd.method).1
  have X0 : Stand p l e ({ frames := 3, cells := 4, slots := 20, locals := 46 } : Room) s m #[(.ref a1)] below meth c s₁ [] 0 0 := Stand.of_body Bd
  have e0 : s₁.heap = h0 := by rw [← hh, Bd.state]; rfl
  have N0 := Fr.nil n0
  have pre0 : ∀ t, Steps p.tables e below (s₁.setTop (mkF m 0 #[.val (.ref a1)] [])) t → Steps p.tables e below (s₁.setTop (entryFrame m #[(.ref a1)] 1)) t := fun t k => castTop (ef_16 m a1) k
  obtain ⟨_, _, ⟨T2, L2, k2, n2⟩, -, X2, ⟨Lc2, hQ2, l2, y2, z2⟩, st2⟩ := Jvm.LawKit.callS X0 hx (y := (⟨"com/example/hakari/hakari/SparseRegisters", "empty", "()Lcom/example/hakari/hakari/SparseRegisters;"⟩ : MethodName)) hown (mvT hZ (hw _ (List.mem_of_getElem? (i := 106) rfl))) (mvT hZ (hw _ (List.mem_of_getElem? (i := 4) rfl))) (mvT hZ (hw _ (List.mem_of_getElem? (i := 5) rfl))) (mvT hZ (hw _ (List.mem_of_getElem? (i := 6) rfl))) (by decide) (backOf (W := 1) (rm1 l Z a0 hw []  h0 n0 Z0) hZ (hw _ (List.mem_of_getElem? (i := 6) rfl)) (hw _ (List.mem_of_getElem? (i := 5) rfl)) (by decide) (by decide)) (g := (mkF m 1 #[.val (.ref a1)] [(.ref a1)])) rfl (by rw [hml]; rfl) (argsL := []) (rest := [(.ref a1)]) (lenOf pd_16_0 rfl) rfl (by show 2 * 0 + _ ≤ _; exact Nat.le_of_eq rfl) (hb hby d16_1) (fun _ _ => ⟨rfl, e0, (by decide : 0 + 4 ≤ _), (by decide : 0 + 20 ≤ _)⟩)
  dsimp only [Pt.U, Pt.locs, Pt.cells, Pt.slots] at X2 l2 y2 z2 st2 hQ2
  subst l2 y2 z2
  obtain ⟨b2, rfl, N2q, K2, sb2, S2⟩ := hQ2
  have N2 := Fr.app N0 N2q
  obtain ⟨_, _, ⟨T3, L3, k3, n3⟩, -, X3, ⟨Lc3, hQ3, l3, y3, z3⟩, st3⟩ := X2.specialBack hx (y := (⟨"com/example/hakari/hakari/Counter", "<init>", "(Lcom/example/hakari/hakari/SparseRegisters;IJ)V"⟩ : MethodName)) rfl hown (mvT hZ (hw _ (List.mem_of_getElem? (i := 108) rfl))) (mvT hZ (hw _ (List.mem_of_getElem? (i := 61) rfl))) (mvT hZ (hw _ (List.mem_of_getElem? (i := 62) rfl))) (by decide) (backOf (W := 0) (rm9 l Z a0 hw [] a1 b2 (0 : Int32) (-9223372036854775808 : Int64) _ _ _ _ T2.heap n0 (Nat.le_trans Z0 K2.1) (E_a1.keep K2) (F_sparse_a1.keep K2 nin0) g_a1 (F_unused_a1.keep K2 nin0) (F_cachedCount_a1.keep K2 nin0) (F_dense_a1.keep K2 nin0)) hZ (hw _ (List.mem_of_getElem? (i := 62) rfl)) (hw _ (List.mem_of_getElem? (i := 2) rfl)) (by decide) (by decide)) (g := (mkF m 8 #[.val (.ref a1)] [(.long (-9223372036854775808 : Int64)), (.int (0 : Int32)), (.ref b2), (.ref a1)])) rfl (by rw [hml]; rfl) (Steps.refl _) (a := a1) (argsL := [(.ref b2), (.int (0 : Int32)), (.long (-9223372036854775808 : Int64))]) (rest := []) (lenOf pd_16_8 rfl) rfl (by show 2 * 0 + _ ≤ _; exact Nat.le_of_eq rfl) (hb hby d16_8) (fun _ _ => ⟨rfl, rfl, (by decide : 0 + 4 ≤ _), (by decide : 0 + 20 ≤ _)⟩)
  dsimp only [Pt.U, Pt.locs, Pt.cells, Pt.slots] at X3 l3 y3 z3 st3 hQ3
  subst l3 y3 z3
  obtain ⟨rfl, N3q, K3, x3, Fs3, -, -, Fd3⟩ := hQ3
  have N3 := Fr.app N2 N3q
  obtain ⟨fs, hr, hrun, hended, hW, hsame⟩ := X3.leave (v := none) (fun _ => rfl)
  refine ⟨_, _, pre0 _ ?_, hrun, hended, _, _, rfl, ?_, ⟨_, rfl⟩, hW, hsame.mono (by decide) (by decide)⟩
  · show Steps p.tables e below (s₁.setTop (mkF m 0 #[.val (.ref a1)] [])) _
    refine XS.aloadN X0.here hx rfl (hb hby d16_0) rfl rfl ?_
    show Steps p.tables e below (s₁.setTop (mkF m 1 #[.val (.ref a1)] [(.ref a1)])) _
    refine st2 _ ?_
    show Steps p.tables e below (T2.setTop (mkF m 4 #[.val (.ref a1)] [(.ref b2), (.ref a1)])) _
    refine XS.iconst X2.here hx rfl (hb hby d16_4) ?_
    show Steps p.tables e below (T2.setTop (mkF m 5 #[.val (.ref a1)] [(.int (0 : Int32)), (.ref b2), (.ref a1)])) _
    refine X2.ldc2Long hx hown (mvT hZ (hw _ (List.mem_of_getElem? (i := 107) rfl))) (g := (mkF m 5 #[.val (.ref a1)] [(.int (0 : Int32)), (.ref b2), (.ref a1)])) rfl (hb hby d16_5) _ ?_
    show Steps p.tables e below (T2.setTop (mkF m 8 #[.val (.ref a1)] [(.long (-9223372036854775808 : Int64)), (.int (0 : Int32)), (.ref b2), (.ref a1)])) _
    refine st3.trans ?_
    show Steps p.tables e below (T3.setTop (mkF m 11 #[.val (.ref a1)] [])) _
    exact X3.returnOut hx Bd.returns (hb hby d16_11) hr
  · show Q16 Z a1 u1 u2 u3 h0 n0 _ T3.heap _
    exact ⟨rfl, N3, ((Keep.refl h0 [a1]).trans K2 all0).trans K3 (allS (Or.inl (List.mem_of_getElem? (i := 0) rfl)) all0), x3, Fd3, b2, Fs3, own_SRk S2 K3 (ninS (Ne.symm (Nat.ne_of_lt (Nat.lt_of_lt_of_le E_a1.lt sb2))) nin0)⟩
theorem d15_0 : decode prog_8_method_2_code 0 = .ok (.aload_n 0, 1) := by decide +kernel
theorem d15_1 : decode prog_8_method_2_code 1 = .ok (.invokespecial 17, 3) := by decide +kernel
theorem d15_4 : decode prog_8_method_2_code 4 = .ok (.aload_n 1, 1) := by decide +kernel
theorem d15_5 : decode prog_8_method_2_code 5 = .ok (.arraylength, 1) := by decide +kernel
theorem d15_6 : decode prog_8_method_2_code 6 = .ok (.sipush 16384, 3) := by decide +kernel
theorem d15_9 : decode prog_8_method_2_code 9 = .ok (.if_icmp .eq 18, 3) := by decide +kernel
theorem d15_27 : decode prog_8_method_2_code 27 = .ok (.aload_n 0, 1) := by decide +kernel
theorem d15_28 : decode prog_8_method_2_code 28 = .ok (.aload_n 1, 1) := by decide +kernel
theorem d15_29 : decode prog_8_method_2_code 29 = .ok (.putfield 31, 3) := by decide +kernel
theorem d15_32 : decode prog_8_method_2_code 32 = .ok (.aload_n 0, 1) := by decide +kernel
theorem d15_33 : decode prog_8_method_2_code 33 = .ok (.iload_n 2, 1) := by decide +kernel
theorem d15_34 : decode prog_8_method_2_code 34 = .ok (.putfield 35, 3) := by decide +kernel
theorem d15_37 : decode prog_8_method_2_code 37 = .ok (.aload_n 0, 1) := by decide +kernel
theorem d15_38 : decode prog_8_method_2_code 38 = .ok (.lload_n 3, 1) := by decide +kernel
theorem d15_39 : decode prog_8_method_2_code 39 = .ok (.putfield 39, 3) := by decide +kernel
theorem d15_42 : decode prog_8_method_2_code 42 = .ok (.return_, 1) := by decide +kernel
theorem pn_15 : plainName "com/example/hakari/hakari/Counter" = true := by first | (simp [plainName, overriddenIn]; done) | decide +kernel
theorem ef_15 (m : MethodId) (x0 : Addr) (x1 : Addr) (x2 : Int32) (x3 : Int64) : entryFrame m #[(.ref x0), (.ref x1), (.int x2), (.long x3)] 5 = mkF m 0 #[.val (.ref x0), .val (.ref x1), .val (.int x2), .val (.long x3), .second] [] := by first | (simp [entryFrame, mkF, argsToLocals, Value.category]; done) | rfl
def Q15 (Z : State) (a1 : Addr) (a2 : Addr) (p3 : Int32) (q4 : Int64) (cl_a2 : Cell) (z_a2 : Int32) (u_dense_a1 : Value) (u_unused_a1 : Value) (u_cachedCount_a1 : Value) (h0 : Heap) (n0 : Nat) (v : Option Value) (h : Heap) (L : List Loc) : Prop := v = none ∧ Fr n0 L ∧ Keep h0 h [a1] ∧ Exa Z h a1 "com/example/hakari/hakari/Counter" ∧ Fld Z h a1 "com/example/hakari/hakari/Counter" "dense" "[B" (.ref a2) ∧ Fld Z h a1 "com/example/hakari/hakari/Counter" "unused" "I" (.int p3) ∧ Fld Z h a1 "com/example/hakari/hakari/Counter" "cachedCount" "J" (.long q4)
set_option maxRecDepth 65536 in
set_option maxHeartbeats 40000000 in
theorem rm15 (l : Launch) (Z : State) (a0 : Array Value) (hw : ∀ d ∈ tables_1, d.before a0 Z = true) (ws : List Jvm.Cond) (a1 : Addr) (a2 : Addr) (p3 : Int32) (q4 : Int64) (cl_a2 : Cell) (z_a2 : Int32) (u_dense_a1 : Value) (u_unused_a1 : Value) (u_cachedCount_a1 : Value) (h0 : Heap) (n0 : Nat) (Z0 : n0 ≤ h0.size) (Ar_a2 : Arr Z h0 a2 cl_a2 .byte) (S_a2 : cl_a2.slots.size = z_a2.toNatClampNeg) (N_a2 : ¬ z_a2 < 0) (E_a1 : Exa Z h0 a1 "com/example/hakari/hakari/Counter") (F_dense_a1 : Fld Z h0 a1 "com/example/hakari/hakari/Counter" "dense" "[B" u_dense_a1) (g_a1 : n0 ≤ a1) (F_unused_a1 : Fld Z h0 a1 "com/example/hakari/hakari/Counter" "unused" "I" u_unused_a1) (F_cachedCount_a1 : Fld Z h0 a1 "com/example/hakari/hakari/Counter" "cachedCount" "J" u_cachedCount_a1) (hc9 : z_a2 = (16384 : Int32)) :
    MetFree l (⟨"com/example/hakari/hakari/Counter", "<init>", "([BIJ)V"⟩ : MethodName) (head1 (Jvm.Cond.code (⟨"com/example/hakari/hakari/Counter", "<init>", "([BIJ)V"⟩ : MethodName) prog_8_method_2_code 5 none :: ws) ({ frames := 1, cells := 0, slots := 0, locals := 12 } : Room)) (fun a U => a = #[(.ref a1), (.ref a2), (.int p3), (.long q4)] ∧ Z.Warmed39 U.vm ∧ U.heap = h0) (fun _ _ _ _ _ => True) (fun _ U o U' => ∃ v L, o = .returned v ∧ Q15 Z a1 a2 p3 q4 cl_a2 z_a2 u_dense_a1 u_unused_a1 u_cachedCount_a1 h0 n0 v U'.heap L ∧ FrameEnd U o U' L ({ frames := 1, cells := 0, slots := 0, locals := 12 } : Room).cells ({ frames := 1, cells := 0, slots := 0, locals := 12 } : Room).slots) := by
  refine MetFree.of_bodySF (plainFor_of_name pn_15) hisR ?_
  intro p e s m args below meth c s₁ Bd hml0 hP hK
  obtain ⟨rfl, hZ, hh⟩ := hP
  have hx := Bd.exec
  have hby := Bd.bytes
  have hml : c.maxLocals = 5 := hml0
  have hown : s.vm.findClass "com/example/hakari/hakari/Counter" = some m.cls := findClass_of_methodNamed Bd.named
  have hnm := (name_of_methodNamed Bd.named Bd.method).1
  have X0 : Stand p l e ({ frames := 1, cells := 0, slots := 0, locals := 12 } : Room) s m #[(.ref a1), (.ref a2), (.int p3), (.long q4)] below meth c s₁ [] 0 0 := Stand.of_body Bd
  have e0 : s₁.heap = h0 := by rw [← hh, Bd.state]; rfl
  have N0 := Fr.nil n0
  have pre0 : ∀ t, Steps p.tables e below (s₁.setTop (mkF m 0 #[.val (.ref a1), .val (.ref a2), .val (.int p3), .val (.long q4), .second] [])) t → Steps p.tables e below (s₁.setTop (entryFrame m #[(.ref a1), (.ref a2), (.int p3), (.long q4)] 5)) t := fun t k => castTop (ef_15 m a1 a2 p3 q4) k
  obtain ⟨T5, X5, e5, st5⟩ := initO X0 hx hZ hown (hw _ (List.mem_of_getElem? (i := 63) rfl)) (hw _ (List.mem_of_getElem? (i := 15) rfl)) (hw _ (List.mem_of_getElem? (i := 16) rfl)) e0 (g := (mkF m 1 #[.val (.ref a1), .val (.ref a2), .val (.int p3), .val (.long q4), .second] [(.ref a1)])) rfl (by rw [hml]; rfl) rfl (hb hby d15_1) (by decide) (W := 0) (by show 2 * 0 + _ ≤ _; exact Nat.le_of_eq rfl) (by decide)
  obtain ⟨T6, h6, X6, e6, W6, st6⟩ := putF X5 hx hZ hown (host := "") (Or.inl (hw _ (List.mem_of_getElem? (i := 77) rfl))) Via.refl e5 F_dense_a1 E_a1 (Or.inl (hw _ (List.mem_of_getElem? (i := 78) rfl))) (hw _ (List.mem_of_getElem? (i := 1) rfl)) (ty := (.array .byte)) (by decide) rfl rfl (g := (mkF m 29 #[.val (.ref a1), .val (.ref a2), .val (.int p3), .val (.long q4), .second] [(.ref a2), (.ref a1)])) rfl rfl (hb hby d15_29)
  have Fw6 := F_dense_a1.same W6
  have K6 : Keep h0 h6 [a1] := (Keep.refl h0 [a1]).wr W6 (Or.inl (List.mem_of_getElem? (i := 0) rfl))
  have N6 := Fr.snoc X6 N0 g_a1
  obtain ⟨T7, h7, X7, e7, W7, st7⟩ := putF X6 hx hZ hown (host := "") (Or.inl (hw _ (List.mem_of_getElem? (i := 66) rfl))) Via.refl e6 (F_unused_a1.other W6 (Or.inr (slot_ne (Or.inr (hw _ (List.mem_of_getElem? (i := 67) rfl))) (Or.inl (hw _ (List.mem_of_getElem? (i := 78) rfl))) (by decide) (t := .int) (t' := (.array .byte)) (by decide) (by decide)))) (E_a1.wr W6) (Or.inr ⟨(hw _ (List.mem_of_getElem? (i := 67) rfl)), rfl, hnm⟩) (hw _ (List.mem_of_getElem? (i := 1) rfl)) (ty := .int) (by decide) rfl rfl (g := (mkF m 34 #[.val (.ref a1), .val (.ref a2), .val (.int p3), .val (.long q4), .second] [(.int p3), (.ref a1)])) rfl rfl (hb hby d15_34)
  have Fw7 := (F_unused_a1.other W6 (Or.inr (slot_ne (Or.inr (hw _ (List.mem_of_getElem? (i := 67) rfl))) (Or.inl (hw _ (List.mem_of_getElem? (i := 78) rfl))) (by decide) (t := .int) (t' := (.array .byte)) (by decide) (by decide)))).same W7
  have K7 : Keep h0 h7 [a1] := K6.wr W7 (Or.inl (List.mem_of_getElem? (i := 0) rfl))
  have N7 := Fr.snoc X7 N6 g_a1
  obtain ⟨T8, h8, X8, e8, W8, st8⟩ := putF X7 hx hZ hown (host := "") (Or.inl (hw _ (List.mem_of_getElem? (i := 68) rfl))) Via.refl e7 ((F_cachedCount_a1.other W6 (Or.inr (slot_ne (Or.inl (hw _ (List.mem_of_getElem? (i := 69) rfl))) (Or.inl (hw _ (List.mem_of_getElem? (i := 78) rfl))) (by decide) (t := .long) (t' := (.array .byte)) (by decide) (by decide)))).other W7 (Or.inr (slot_ne (Or.inl (hw _ (List.mem_of_getElem? (i := 69) rfl))) (Or.inr (hw _ (List.mem_of_getElem? (i := 67) rfl))) (by decide) (t := .long) (t' := .int) (by decide) (by decide)))) ((E_a1.wr W6).wr W7) (Or.inl (hw _ (List.mem_of_getElem? (i := 69) rfl))) (hw _ (List.mem_of_getElem? (i := 1) rfl)) (ty := .long) (by decide) rfl rfl (g := (mkF m 39 #[.val (.ref a1), .val (.ref a2), .val (.int p3), .val (.long q4), .second] [(.long q4), (.ref a1)])) rfl rfl (hb hby d15_39)
  have Fw8 := ((F_cachedCount_a1.other W6 (Or.inr (slot_ne (Or.inl (hw _ (List.mem_of_getElem? (i := 69) rfl))) (Or.inl (hw _ (List.mem_of_getElem? (i := 78) rfl))) (by decide) (t := .long) (t' := (.array .byte)) (by decide) (by decide)))).other W7 (Or.inr (slot_ne (Or.inl (hw _ (List.mem_of_getElem? (i := 69) rfl))) (Or.inr (hw _ (List.mem_of_getElem? (i := 67) rfl))) (by decide) (t := .long) (t' := .int) (by decide) (by decide)))).same W8
  have K8 : Keep h0 h8 [a1] := K7.wr W8 (Or.inl (List.mem_of_getElem? (i := 0) rfl))
  have N8 := Fr.snoc X8 N7 g_a1
  obtain ⟨fs, hr, hrun, hended, hW, hsame⟩ := X8.leave (v := none) (fun _ => rfl)
  refine ⟨_, _, pre0 _ ?_, hrun, hended, _, _, rfl, ?_, ⟨_, rfl⟩, hW, hsame.mono (by decide) (by decide)⟩
  · show Steps p.tables e below (s₁.setTop (mkF m 0 #[.val (.ref a1), .val (.ref a2), .val (.int p3), .val (.long q4), .second] [])) _
    refine XS.aloadN X0.here hx rfl (hb hby d15_0) rfl rfl ?_
    show Steps p.tables e below (s₁.setTop (mkF m 1 #[.val (.ref a1), .val (.ref a2), .val (.int p3), .val (.long q4), .second] [(.ref a1)])) _
    refine st5 _ ?_
    show Steps p.tables e below (T5.setTop (mkF m 4 #[.val (.ref a1), .val (.ref a2), .val (.int p3), .val (.long q4), .second] [])) _
    refine XS.aloadN X5.here hx rfl (hb hby d15_4) rfl rfl ?_
    show Steps p.tables e below (T5.setTop (mkF m 5 #[.val (.ref a1), .val (.ref a2), .val (.int p3), .val (.long q4), .second] [(.ref a2)])) _
    refine X5.arraylength hx (by rw [e5]; exact Ar_a2.1) (State.isArrayOf_alike hZ.alike Ar_a2.2.1) (g := (mkF m 5 #[.val (.ref a1), .val (.ref a2), .val (.int p3), .val (.long q4), .second] [(.ref a2)])) rfl rfl (hb hby d15_5) _ ?_
    rw [len_of S_a2 N_a2]
    show Steps p.tables e below (T5.setTop (mkF m 6 #[.val (.ref a1), .val (.ref a2), .val (.int p3), .val (.long q4), .second] [(.int z_a2)])) _
    refine XS.sipush X5.here hx rfl (hb hby d15_6) ?_
    show Steps p.tables e below (T5.setTop (mkF m 9 #[.val (.ref a1), .val (.ref a2), .val (.int p3), .val (.long q4), .second] [(.int (16384 : Int32)), (.int z_a2)])) _
    refine XS.icmpYes X5.here hx rfl (pc0 := 9) (pc' := 27) rfl (hb hby d15_9) rfl (teq hc9).1 (by decide) (by decide) ?_
    show Steps p.tables e below (T5.setTop (mkF m 27 #[.val (.ref a1), .val (.ref a2), .val (.int p3), .val (.long q4), .second] [])) _
    refine XS.aloadN X5.here hx rfl (hb hby d15_27) rfl rfl ?_
    show Steps p.tables e below (T5.setTop (mkF m 28 #[.val (.ref a1), .val (.ref a2), .val (.int p3), .val (.long q4), .second] [(.ref a1)])) _
    refine XS.aloadN X5.here hx rfl (hb hby d15_28) rfl rfl ?_
    show Steps p.tables e below (T5.setTop (mkF m 29 #[.val (.ref a1), .val (.ref a2), .val (.int p3), .val (.long q4), .second] [(.ref a2), (.ref a1)])) _
    refine st6 _ ?_
    show Steps p.tables e below (T6.setTop (mkF m 32 #[.val (.ref a1), .val (.ref a2), .val (.int p3), .val (.long q4), .second] [])) _
    refine XS.aloadN X6.here hx rfl (hb hby d15_32) rfl rfl ?_
    show Steps p.tables e below (T6.setTop (mkF m 33 #[.val (.ref a1), .val (.ref a2), .val (.int p3), .val (.long q4), .second] [(.ref a1)])) _
    refine XS.iloadN X6.here hx rfl (hb hby d15_33) rfl ?_
    show Steps p.tables e below (T6.setTop (mkF m 34 #[.val (.ref a1), .val (.ref a2), .val (.int p3), .val (.long q4), .second] [(.int p3), (.ref a1)])) _
    refine st7 _ ?_
    show Steps p.tables e below (T7.setTop (mkF m 37 #[.val (.ref a1), .val (.ref a2), .val (.int p3), .val (.long q4), .second] [])) _
    refine XS.aloadN X7.here hx rfl (hb hby d15_37) rfl rfl ?_
    show Steps p.tables e below (T7.setTop (mkF m 38 #[.val (.ref a1), .val (.ref a2), .val (.int p3), .val (.long q4), .second] [(.ref a1)])) _
    refine XS.lloadN X7.here hx rfl (hb hby d15_38) rfl ?_
    show Steps p.tables e below (T7.setTop (mkF m 39 #[.val (.ref a1), .val (.ref a2), .val (.int p3), .val (.long q4), .second] [(.long q4), (.ref a1)])) _
    refine st8 _ ?_
    show Steps p.tables e below (T8.setTop (mkF m 42 #[.val (.ref a1), .val (.ref a2), .val (.int p3), .val (.long q4), .second] [])) _
    exact X8.returnOut hx Bd.returns (hb hby d15_42) hr
  · show Q15 Z a1 a2 p3 q4 cl_a2 z_a2 u_dense_a1 u_unused_a1 u_cachedCount_a1 h0 n0 _ T8.heap _
    rw [e8]
    exact ⟨rfl, N8, K8, (((E_a1.wr W6).wr W7).wr W8), ((Fw6.other W7 (Or.inr (slot_ne (Or.inl (hw _ (List.mem_of_getElem? (i := 78) rfl))) (Or.inr (hw _ (List.mem_of_getElem? (i := 67) rfl))) (by decide) (t := (.array .byte)) (t' := .int) (by decide) (by decide)))).other W8 (Or.inr (slot_ne (Or.inl (hw _ (List.mem_of_getElem? (i := 78) rfl))) (Or.inl (hw _ (List.mem_of_getElem? (i := 69) rfl))) (by decide) (t := (.array .byte)) (t' := .long) (by decide) (by decide)))), (Fw7.other W8 (Or.inr (slot_ne (Or.inr (hw _ (List.mem_of_getElem? (i := 67) rfl))) (Or.inl (hw _ (List.mem_of_getElem? (i := 69) rfl))) (by decide) (t := .int) (t' := .long) (by decide) (by decide)))), Fw8⟩
theorem d11_0 : decode prog_41_method_34_code 0 = .ok (.ldc2_w 243, 3) := by decide +kernel
theorem d11_3 : decode prog_41_method_34_code 3 = .ok (.aload_n 0, 1) := by decide +kernel
theorem d11_4 : decode prog_41_method_34_code 4 = .ok (.getfield 7, 3) := by decide +kernel
theorem d11_7 : decode prog_41_method_34_code 7 = .ok (.arraylength, 1) := by decide +kernel
theorem d11_8 : decode prog_41_method_34_code 8 = .ok (.i2l, 1) := by decide +kernel
theorem d11_9 : decode prog_41_method_34_code 9 = .ok (.invokestatic 245, 3) := by decide +kernel
theorem d11_12 : decode prog_41_method_34_code 12 = .ok (.ladd, 1) := by decide +kernel
theorem d11_13 : decode prog_41_method_34_code 13 = .ok (.aload_n 0, 1) := by decide +kernel
theorem d11_14 : decode prog_41_method_34_code 14 = .ok (.getfield 21, 3) := by decide +kernel
theorem d11_17 : decode prog_41_method_34_code 17 = .ok (.arraylength, 1) := by decide +kernel
theorem d11_18 : decode prog_41_method_34_code 18 = .ok (.i2l, 1) := by decide +kernel
theorem d11_19 : decode prog_41_method_34_code 19 = .ok (.invokestatic 251, 3) := by decide +kernel
theorem d11_22 : decode prog_41_method_34_code 22 = .ok (.ladd, 1) := by decide +kernel
theorem d11_23 : decode prog_41_method_34_code 23 = .ok (.lreturn, 1) := by decide +kernel
theorem pn_11 : plainName "com/example/hakari/hakari/SparseRegisters" = true := by first | (simp [plainName, overriddenIn]; done) | decide +kernel
theorem pd_11_10 : parseMethodDescriptor "(J)J" = some ⟨[.long], some .long⟩ := by decide +kernel
theorem ef_11 (m : MethodId) (x0 : Addr) : entryFrame m #[(.ref x0)] 1 = mkF m 0 #[.val (.ref x0)] [] := by first | (simp [entryFrame, mkF, argsToLocals, Value.category]; done) | rfl
def Q11 (Z : State) (a1 : Addr) (w2 : Addr) (cl_w2 : Cell) (z_w2 : Int32) (w5 : Addr) (cl_w5 : Cell) (z_w5 : Int32) (h0 : Heap) (n0 : Nat) (v : Option Value) (h : Heap) (L : List Loc) : Prop := v = some (.long (((48 : Int64) + ((((((16 : Int64) + (z_w2.toInt64)) + (8 : Int64)) - (1 : Int64)) / (8 : Int64)) * (8 : Int64))) + ((((((16 : Int64) + ((2 : Int64) * (z_w5.toInt64))) + (8 : Int64)) - (1 : Int64)) / (8 : Int64)) * (8 : Int64)))) ∧ Fr n0 L ∧ h = h0
set_option maxRecDepth 65536 in
set_option maxHeartbeats 40000000 in
theorem rm11 (l : Launch) (Z : State) (a0 : Array Value) (hw : ∀ d ∈ tables_1, d.before a0 Z = true) (ws : List Jvm.Cond) (a1 : Addr) (w2 : Addr) (cl_w2 : Cell) (z_w2 : Int32) (w5 : Addr) (cl_w5 : Cell) (z_w5 : Int32) (h0 : Heap) (n0 : Nat) (Z0 : n0 ≤ h0.size) (F_bytes_a1 : Fld Z h0 a1 "com/example/hakari/hakari/SparseRegisters" "bytes" "[B" (.ref w2)) (Ar_w2 : Arr Z h0 w2 cl_w2 .byte) (S_w2 : cl_w2.slots.size = z_w2.toNatClampNeg) (N_w2 : ¬ z_w2 < 0) (F_blocks_a1 : Fld Z h0 a1 "com/example/hakari/hakari/SparseRegisters" "blocks" "[C" (.ref w5)) (Ar_w5 : Arr Z h0 w5 cl_w5 .char) (S_w5 : cl_w5.slots.size = z_w5.toNatClampNeg) (N_w5 : ¬ z_w5 < 0) :
    MetFree l (⟨"com/example/hakari/hakari/SparseRegisters", "heapBytes", "()J"⟩ : MethodName) (head1 (Jvm.Cond.code (⟨"com/example/hakari/hakari/SparseRegisters", "heapBytes", "()J"⟩ : MethodName) prog_41_method_34_code 1 (some .long) :: ws) ({ frames := 2, cells := 0, slots := 0, locals := 28 } : Room)) (fun a U => a = #[(.ref a1)] ∧ Z.Warmed39 U.vm ∧ U.heap = h0) (fun _ _ _ _ _ => True) (fun _ U o U' => ∃ v L, o = .returned v ∧ Q11 Z a1 w2 cl_w2 z_w2 w5 cl_w5 z_w5 h0 n0 v U'.heap L ∧ FrameEnd U o U' L ({ frames := 2, cells := 0, slots := 0, locals := 28 } : Room).cells ({ frames := 2, cells := 0, slots := 0, locals := 28 } : Room).slots) := by
  refine MetFree.of_bodySF (plainFor_of_name pn_11) hisR ?_
  intro p e s m args below meth c s₁ Bd hml0 hP hK
  obtain ⟨rfl, hZ, hh⟩ := hP
  have hx := Bd.exec
  have hby := Bd.bytes
  have hml : c.maxLocals = 1 := hml0
  have hown : s.vm.findClass "com/example/hakari/hakari/SparseRegisters" = some m.cls := findClass_of_methodNamed Bd.named
  have hnm := (name_of_methodNamed Bd.named Bd.method).1
  have X0 : Stand p l e ({ frames := 2, cells := 0, slots := 0, locals := 28 } : Room) s m #[(.ref a1)] below meth c s₁ [] 0 0 := Stand.of_body Bd
  have e0 : s₁.heap = h0 := by rw [← hh, Bd.state]; rfl
  have N0 := Fr.nil n0
  have pre0 : ∀ t, Steps p.tables e below (s₁.setTop (mkF m 0 #[.val (.ref a1)] [])) t → Steps p.tables e below (s₁.setTop (entryFrame m #[(.ref a1)] 1)) t := fun t k => castTop (ef_11 m a1) k
  obtain ⟨T3, X3, e3, st3⟩ := getF X0 hx hZ hown (host := "") (Or.inl (hw _ (List.mem_of_getElem? (i := 44) rfl))) Via.refl e0 F_bytes_a1 (g := (mkF m 4 #[.val (.ref a1)] [(.ref a1), (.long (48 : Int64))])) rfl rfl (hb hby d11_4)
  obtain ⟨_, _, ⟨T4, L4, k4, n4⟩, -, X4, ⟨Lc4, hQ4, l4, y4, z4⟩, st4⟩ := Jvm.LawKit.callS X3 hx (y := (⟨"com/example/hakari/hakari/HeapSize", "byteArray", "(J)J"⟩ : MethodName)) hown (mvT hZ (hw _ (List.mem_of_getElem? (i := 85) rfl))) (mvT hZ (hw _ (List.mem_of_getElem? (i := 86) rfl))) (mvT hZ (hw _ (List.mem_of_getElem? (i := 87) rfl))) (mvT hZ (hw _ (List.mem_of_getElem? (i := 88) rfl))) (by decide) (backOf (W := 2) (rm12 l Z a0 hw [] (z_w2.toInt64) h0 n0 Z0) hZ (hw _ (List.mem_of_getElem? (i := 88) rfl)) (hw _ (List.mem_of_getElem? (i := 87) rfl)) (by decide) (by decide)) (g := (mkF m 9 #[.val (.ref a1)] [(.long (z_w2.toInt64)), (.long (48 : Int64))])) rfl (by rw [hml]; rfl) (argsL := [(.long (z_w2.toInt64))]) (rest := [(.long (48 : Int64))]) (lenOf pd_11_10 rfl) rfl (by show 2 * 0 + _ ≤ _; exact Nat.le_of_eq rfl) (hb hby d11_9) (fun _ _ => ⟨rfl, e3, (by decide : 0 + 0 ≤ _), (by decide : 0 + 0 ≤ _)⟩)
  dsimp only [Pt.U, Pt.locs, Pt.cells, Pt.slots] at X4 l4 y4 z4 st4 hQ4
  subst l4 y4 z4
  obtain ⟨rfl, N4q, w4⟩ := hQ4
  have Kc4 : Keep h0 T4.heap [] := by rw [w4]; exact Keep.refl _ _
  have Ar_w5 : Arr Z T4.heap w5 cl_w5 .char := by rw [w4]; exact Ar_w5
  have N4 := Fr.app N0 N4q
  obtain ⟨T6, X6, e6, st6⟩ := getF X4 hx hZ hown (host := "") (Or.inl (hw _ (List.mem_of_getElem? (i := 51) rfl))) Via.refl rfl (F_blocks_a1.keep Kc4 nin0) (g := (mkF m 14 #[.val (.ref a1)] [(.ref a1), (.long ((48 : Int64) + ((((((16 : Int64) + (z_w2.toInt64)) + (8 : Int64)) - (1 : Int64)) / (8 : Int64)) * (8 : Int64))))])) rfl rfl (hb hby d11_14)
  obtain ⟨_, _, ⟨T7, L7, k7, n7⟩, -, X7, ⟨Lc7, hQ7, l7, y7, z7⟩, st7⟩ := Jvm.LawKit.callS X6 hx (y := (⟨"com/example/hakari/hakari/HeapSize", "charArray", "(J)J"⟩ : MethodName)) hown (mvT hZ (hw _ (List.mem_of_getElem? (i := 94) rfl))) (mvT hZ (hw _ (List.mem_of_getElem? (i := 95) rfl))) (mvT hZ (hw _ (List.mem_of_getElem? (i := 87) rfl))) (mvT hZ (hw _ (List.mem_of_getElem? (i := 96) rfl))) (by decide) (backOf (W := 2) (rm14 l Z a0 hw [] (z_w5.toInt64) T4.heap n0 (by rw [w4]; exact Z0)) hZ (hw _ (List.mem_of_getElem? (i := 96) rfl)) (hw _ (List.mem_of_getElem? (i := 87) rfl)) (by decide) (by decide)) (g := (mkF m 19 #[.val (.ref a1)] [(.long (z_w5.toInt64)), (.long ((48 : Int64) + ((((((16 : Int64) + (z_w2.toInt64)) + (8 : Int64)) - (1 : Int64)) / (8 : Int64)) * (8 : Int64))))])) rfl (by rw [hml]; rfl) (argsL := [(.long (z_w5.toInt64))]) (rest := [(.long ((48 : Int64) + ((((((16 : Int64) + (z_w2.toInt64)) + (8 : Int64)) - (1 : Int64)) / (8 : Int64)) * (8 : Int64))))]) (lenOf pd_11_10 rfl) rfl (by show 2 * 0 + _ ≤ _; exact Nat.le_of_eq rfl) (hb hby d11_19) (fun _ _ => ⟨rfl, e6, (by decide : 0 + 0 ≤ _), (by decide : 0 + 0 ≤ _)⟩)
  dsimp only [Pt.U, Pt.locs, Pt.cells, Pt.slots] at X7 l7 y7 z7 st7 hQ7
  subst l7 y7 z7
  obtain ⟨rfl, N7q, w7⟩ := hQ7
  have N7 := Fr.app N4 N7q
  obtain ⟨fs, hr, hrun, hended, hW, hsame⟩ := X7.leave (v := some (.long (((48 : Int64) + ((((((16 : Int64) + (z_w2.toInt64)) + (8 : Int64)) - (1 : Int64)) / (8 : Int64)) * (8 : Int64))) + ((((((16 : Int64) + ((2 : Int64) * (z_w5.toInt64))) + (8 : Int64)) - (1 : Int64)) / (8 : Int64)) * (8 : Int64))))) (fun h => by rw [Bd.returns] at h; cases h)
  refine ⟨_, _, pre0 _ ?_, hrun, hended, _, _, rfl, ?_, ⟨_, rfl⟩, hW, hsame.mono (by decide) (by decide)⟩
  · show Steps p.tables e below (s₁.setTop (mkF m 0 #[.val (.ref a1)] [])) _
    refine X0.ldc2Long hx hown (mvT hZ (hw _ (List.mem_of_getElem? (i := 84) rfl))) (g := (mkF m 0 #[.val (.ref a1)] [])) rfl (hb hby d11_0) _ ?_
    show Steps p.tables e below (s₁.setTop (mkF m 3 #[.val (.ref a1)] [(.long (48 : Int64))])) _
    refine XS.aloadN X0.here hx rfl (hb hby d11_3) rfl rfl ?_
    show Steps p.tables e below (s₁.setTop (mkF m 4 #[.val (.ref a1)] [(.ref a1), (.long (48 : Int64))])) _
    refine st3 _ ?_
    show Steps p.tables e below (T3.setTop (mkF m 7 #[.val (.ref a1)] [(.ref w2), (.long (48 : Int64))])) _
    refine X3.arraylength hx (by rw [e3]; exact Ar_w2.1) (State.isArrayOf_alike hZ.alike Ar_w2.2.1) (g := (mkF m 7 #[.val (.ref a1)] [(.ref w2), (.long (48 : Int64))])) rfl rfl (hb hby d11_7) _ ?_
    rw [len_of S_w2 N_w2]
    show Steps p.tables e below (T3.setTop (mkF m 8 #[.val (.ref a1)] [(.int z_w2), (.long (48 : Int64))])) _
    refine XS.i2l X3.here hx rfl (hb hby d11_8) rfl ?_
    show Steps p.tables e below (T3.setTop (mkF m 9 #[.val (.ref a1)] [(.long (z_w2.toInt64)), (.long (48 : Int64))])) _
    refine st4 _ ?_
    show Steps p.tables e below (T4.setTop (mkF m 12 #[.val (.ref a1)] [(.long ((((((16 : Int64) + (z_w2.toInt64)) + (8 : Int64)) - (1 : Int64)) / (8 : Int64)) * (8 : Int64))), (.long (48 : Int64))])) _
    refine XS.ladd X4.here hx rfl (hb hby d11_12) rfl ?_
    show Steps p.tables e below (T4.setTop (mkF m 13 #[.val (.ref a1)] [(.long ((48 : Int64) + ((((((16 : Int64) + (z_w2.toInt64)) + (8 : Int64)) - (1 : Int64)) / (8 : Int64)) * (8 : Int64))))])) _
    refine XS.aloadN X4.here hx rfl (hb hby d11_13) rfl rfl ?_
    show Steps p.tables e below (T4.setTop (mkF m 14 #[.val (.ref a1)] [(.ref a1), (.long ((48 : Int64) + ((((((16 : Int64) + (z_w2.toInt64)) + (8 : Int64)) - (1 : Int64)) / (8 : Int64)) * (8 : Int64))))])) _
    refine st6 _ ?_
    show Steps p.tables e below (T6.setTop (mkF m 17 #[.val (.ref a1)] [(.ref w5), (.long ((48 : Int64) + ((((((16 : Int64) + (z_w2.toInt64)) + (8 : Int64)) - (1 : Int64)) / (8 : Int64)) * (8 : Int64))))])) _
    refine X6.arraylength hx (by rw [e6]; exact Ar_w5.1) (State.isArrayOf_alike hZ.alike Ar_w5.2.1) (g := (mkF m 17 #[.val (.ref a1)] [(.ref w5), (.long ((48 : Int64) + ((((((16 : Int64) + (z_w2.toInt64)) + (8 : Int64)) - (1 : Int64)) / (8 : Int64)) * (8 : Int64))))])) rfl rfl (hb hby d11_17) _ ?_
    rw [len_of S_w5 N_w5]
    show Steps p.tables e below (T6.setTop (mkF m 18 #[.val (.ref a1)] [(.int z_w5), (.long ((48 : Int64) + ((((((16 : Int64) + (z_w2.toInt64)) + (8 : Int64)) - (1 : Int64)) / (8 : Int64)) * (8 : Int64))))])) _
    refine XS.i2l X6.here hx rfl (hb hby d11_18) rfl ?_
    show Steps p.tables e below (T6.setTop (mkF m 19 #[.val (.ref a1)] [(.long (z_w5.toInt64)), (.long ((48 : Int64) + ((((((16 : Int64) + (z_w2.toInt64)) + (8 : Int64)) - (1 : Int64)) / (8 : Int64)) * (8 : Int64))))])) _
    refine st7 _ ?_
    show Steps p.tables e below (T7.setTop (mkF m 22 #[.val (.ref a1)] [(.long ((((((16 : Int64) + ((2 : Int64) * (z_w5.toInt64))) + (8 : Int64)) - (1 : Int64)) / (8 : Int64)) * (8 : Int64))), (.long ((48 : Int64) + ((((((16 : Int64) + (z_w2.toInt64)) + (8 : Int64)) - (1 : Int64)) / (8 : Int64)) * (8 : Int64))))])) _
    refine XS.ladd X7.here hx rfl (hb hby d11_22) rfl ?_
    show Steps p.tables e below (T7.setTop (mkF m 23 #[.val (.ref a1)] [(.long (((48 : Int64) + ((((((16 : Int64) + (z_w2.toInt64)) + (8 : Int64)) - (1 : Int64)) / (8 : Int64)) * (8 : Int64))) + ((((((16 : Int64) + ((2 : Int64) * (z_w5.toInt64))) + (8 : Int64)) - (1 : Int64)) / (8 : Int64)) * (8 : Int64))))])) _
    jvm_step X7.here [X7.here.top, hx, (hb hby d11_23), X7.method', Bd.returns, narrow]
    first | (intro acts; rw [hr _ acts rfl rfl rfl]) | rw [hr _ _ rfl rfl rfl]
    exact Steps.refl _
  · show Q11 Z a1 w2 cl_w2 z_w2 w5 cl_w5 z_w5 h0 n0 _ T7.heap _
    exact ⟨rfl, N7, w7.trans w4⟩
theorem d10_0 : decode prog_8_method_13_code 0 = .ok (.ldc2_w 163, 3) := by decide +kernel
theorem d10_3 : decode prog_8_method_13_code 3 = .ok (.aload_n 0, 1) := by decide +kernel
theorem d10_4 : decode prog_8_method_13_code 4 = .ok (.getfield 31, 3) := by decide +kernel
theorem d10_7 : decode prog_8_method_13_code 7 = .ok (.ifnull 15, 3) := by decide +kernel
theorem d10_10 : decode prog_8_method_13_code 10 = .ok (.aload_n 0, 1) := by decide +kernel
theorem d10_11 : decode prog_8_method_13_code 11 = .ok (.getfield 31, 3) := by decide +kernel
theorem d10_14 : decode prog_8_method_13_code 14 = .ok (.arraylength, 1) := by decide +kernel
theorem d10_15 : decode prog_8_method_13_code 15 = .ok (.i2l, 1) := by decide +kernel
theorem d10_16 : decode prog_8_method_13_code 16 = .ok (.invokestatic 165, 3) := by decide +kernel
theorem d10_19 : decode prog_8_method_13_code 19 = .ok (.goto 10, 3) := by decide +kernel
theorem d10_29 : decode prog_8_method_13_code 29 = .ok (.ladd, 1) := by decide +kernel
theorem d10_30 : decode prog_8_method_13_code 30 = .ok (.lreturn, 1) := by decide +kernel
theorem pn_10 : plainName "com/example/hakari/hakari/Counter" = true := by first | (simp [plainName, overriddenIn]; done) | decide +kernel
theorem pd_10_10 : parseMethodDescriptor "(J)J" = some ⟨[.long], some .long⟩ := by decide +kernel
theorem ef_10 (m : MethodId) (x0 : Addr) : entryFrame m #[(.ref x0)] 1 = mkF m 0 #[.val (.ref x0)] [] := by first | (simp [entryFrame, mkF, argsToLocals, Value.category]; done) | rfl
def Q10 (Z : State) (a1 : Addr) (w2 : Addr) (cl_w2 : Cell) (z_w2 : Int32) (h0 : Heap) (n0 : Nat) (v : Option Value) (h : Heap) (L : List Loc) : Prop := v = some (.long ((48 : Int64) + ((((((16 : Int64) + (z_w2.toInt64)) + (8 : Int64)) - (1 : Int64)) / (8 : Int64)) * (8 : Int64)))) ∧ Fr n0 L ∧ h = h0
set_option maxRecDepth 65536 in
set_option maxHeartbeats 40000000 in
theorem rm10 (l : Launch) (Z : State) (a0 : Array Value) (hw : ∀ d ∈ tables_1, d.before a0 Z = true) (ws : List Jvm.Cond) (a1 : Addr) (w2 : Addr) (cl_w2 : Cell) (z_w2 : Int32) (h0 : Heap) (n0 : Nat) (Z0 : n0 ≤ h0.size) (F_dense_a1 : Fld Z h0 a1 "com/example/hakari/hakari/Counter" "dense" "[B" (.ref w2)) (Ar_w2 : Arr Z h0 w2 cl_w2 .byte) (S_w2 : cl_w2.slots.size = z_w2.toNatClampNeg) (N_w2 : ¬ z_w2 < 0) :
    MetFree l (⟨"com/example/hakari/hakari/Counter", "heapBytes", "()J"⟩ : MethodName) (head1 (Jvm.Cond.code (⟨"com/example/hakari/hakari/Counter", "heapBytes", "()J"⟩ : MethodName) prog_8_method_13_code 1 (some .long) :: ws) ({ frames := 2, cells := 0, slots := 0, locals := 28 } : Room)) (fun a U => a = #[(.ref a1)] ∧ Z.Warmed39 U.vm ∧ U.heap = h0) (fun _ _ _ _ _ => True) (fun _ U o U' => ∃ v L, o = .returned v ∧ Q10 Z a1 w2 cl_w2 z_w2 h0 n0 v U'.heap L ∧ FrameEnd U o U' L ({ frames := 2, cells := 0, slots := 0, locals := 28 } : Room).cells ({ frames := 2, cells := 0, slots := 0, locals := 28 } : Room).slots) := by
  refine MetFree.of_bodySF (plainFor_of_name pn_10) hisR ?_
  intro p e s m args below meth c s₁ Bd hml0 hP hK
  obtain ⟨rfl, hZ, hh⟩ := hP
  have hx := Bd.exec
  have hby := Bd.bytes
  have hml : c.maxLocals = 1 := hml0
  have hown : s.vm.findClass "com/example/hakari/hakari/Counter" = some m.cls := findClass_of_methodNamed Bd.named
  have hnm := (name_of_methodNamed Bd.named Bd.method).1
  have X0 : Stand p l e ({ frames := 2, cells := 0, slots := 0, locals := 28 } : Room) s m #[(.ref a1)] below meth c s₁ [] 0 0 := Stand.of_body Bd
  have e0 : s₁.heap = h0 := by rw [← hh, Bd.state]; rfl
  have N0 := Fr.nil n0
  have pre0 : ∀ t, Steps p.tables e below (s₁.setTop (mkF m 0 #[.val (.ref a1)] [])) t → Steps p.tables e below (s₁.setTop (entryFrame m #[(.ref a1)] 1)) t := fun t k => castTop (ef_10 m a1) k
  obtain ⟨T3, X3, e3, st3⟩ := getF X0 hx hZ hown (host := "") (Or.inl (hw _ (List.mem_of_getElem? (i := 77) rfl))) Via.refl e0 F_dense_a1 (g := (mkF m 4 #[.val (.ref a1)] [(.ref a1), (.long (48 : Int64))])) rfl rfl (hb hby d10_4)
  obtain ⟨T4, X4, e4, st4⟩ := getF X3 hx hZ hown (host := "") (Or.inl (hw _ (List.mem_of_getElem? (i := 77) rfl))) Via.refl e3 F_dense_a1 (g := (mkF m 11 #[.val (.ref a1)] [(.ref a1), (.long (48 : Int64))])) rfl rfl (hb hby d10_11)
  obtain ⟨_, _, ⟨T5, L5, k5, n5⟩, -, X5, ⟨Lc5, hQ5, l5, y5, z5⟩, st5⟩ := Jvm.LawKit.callS X4 hx (y := (⟨"com/example/hakari/hakari/HeapSize", "byteArray", "(J)J"⟩ : MethodName)) hown (mvT hZ (hw _ (List.mem_of_getElem? (i := 102) rfl))) (mvT hZ (hw _ (List.mem_of_getElem? (i := 86) rfl))) (mvT hZ (hw _ (List.mem_of_getElem? (i := 87) rfl))) (mvT hZ (hw _ (List.mem_of_getElem? (i := 88) rfl))) (by decide) (backOf (W := 2) (rm12 l Z a0 hw [] (z_w2.toInt64) h0 n0 Z0) hZ (hw _ (List.mem_of_getElem? (i := 88) rfl)) (hw _ (List.mem_of_getElem? (i := 87) rfl)) (by decide) (by decide)) (g := (mkF m 16 #[.val (.ref a1)] [(.long (z_w2.toInt64)), (.long (48 : Int64))])) rfl (by rw [hml]; rfl) (argsL := [(.long (z_w2.toInt64))]) (rest := [(.long (48 : Int64))]) (lenOf pd_10_10 rfl) rfl (by show 2 * 0 + _ ≤ _; exact Nat.le_of_eq rfl) (hb hby d10_16) (fun _ _ => ⟨rfl, e4, (by decide : 0 + 0 ≤ _), (by decide : 0 + 0 ≤ _)⟩)
  dsimp only [Pt.U, Pt.locs, Pt.cells, Pt.slots] at X5 l5 y5 z5 st5 hQ5
  subst l5 y5 z5
  obtain ⟨rfl, N5q, w5⟩ := hQ5
  have N5 := Fr.app N0 N5q
  obtain ⟨fs, hr, hrun, hended, hW, hsame⟩ := X5.leave (v := some (.long ((48 : Int64) + ((((((16 : Int64) + (z_w2.toInt64)) + (8 : Int64)) - (1 : Int64)) / (8 : Int64)) * (8 : Int64))))) (fun h => by rw [Bd.returns] at h; cases h)
  refine ⟨_, _, pre0 _ ?_, hrun, hended, _, _, rfl, ?_, ⟨_, rfl⟩, hW, hsame.mono (by decide) (by decide)⟩
  · show Steps p.tables e below (s₁.setTop (mkF m 0 #[.val (.ref a1)] [])) _
    refine X0.ldc2Long hx hown (mvT hZ (hw _ (List.mem_of_getElem? (i := 76) rfl))) (g := (mkF m 0 #[.val (.ref a1)] [])) rfl (hb hby d10_0) _ ?_
    show Steps p.tables e below (s₁.setTop (mkF m 3 #[.val (.ref a1)] [(.long (48 : Int64))])) _
    refine XS.aloadN X0.here hx rfl (hb hby d10_3) rfl rfl ?_
    show Steps p.tables e below (s₁.setTop (mkF m 4 #[.val (.ref a1)] [(.ref a1), (.long (48 : Int64))])) _
    refine st3 _ ?_
    show Steps p.tables e below (T3.setTop (mkF m 7 #[.val (.ref a1)] [(.ref w2), (.long (48 : Int64))])) _
    refine XS.ifnullNo X3.here hx rfl (hb hby d10_7) rfl ?_
    show Steps p.tables e below (T3.setTop (mkF m 10 #[.val (.ref a1)] [(.long (48 : Int64))])) _
    refine XS.aloadN X3.here hx rfl (hb hby d10_10) rfl rfl ?_
    show Steps p.tables e below (T3.setTop (mkF m 11 #[.val (.ref a1)] [(.ref a1), (.long (48 : Int64))])) _
    refine st4 _ ?_
    show Steps p.tables e below (T4.setTop (mkF m 14 #[.val (.ref a1)] [(.ref w2), (.long (48 : Int64))])) _
    refine X4.arraylength hx (by rw [e4]; exact Ar_w2.1) (State.isArrayOf_alike hZ.alike Ar_w2.2.1) (g := (mkF m 14 #[.val (.ref a1)] [(.ref w2), (.long (48 : Int64))])) rfl rfl (hb hby d10_14) _ ?_
    rw [len_of S_w2 N_w2]
    show Steps p.tables e below (T4.setTop (mkF m 15 #[.val (.ref a1)] [(.int z_w2), (.long (48 : Int64))])) _
    refine XS.i2l X4.here hx rfl (hb hby d10_15) rfl ?_
    show Steps p.tables e below (T4.setTop (mkF m 16 #[.val (.ref a1)] [(.long (z_w2.toInt64)), (.long (48 : Int64))])) _
    refine st5 _ ?_
    show Steps p.tables e below (T5.setTop (mkF m 19 #[.val (.ref a1)] [(.long ((((((16 : Int64) + (z_w2.toInt64)) + (8 : Int64)) - (1 : Int64)) / (8 : Int64)) * (8 : Int64))), (.long (48 : Int64))])) _
    refine XS.goto X5.here hx rfl (pc0 := 19) (pc' := 29) rfl (hb hby d10_19) (by decide) (by decide) ?_
    show Steps p.tables e below (T5.setTop (mkF m 29 #[.val (.ref a1)] [(.long ((((((16 : Int64) + (z_w2.toInt64)) + (8 : Int64)) - (1 : Int64)) / (8 : Int64)) * (8 : Int64))), (.long (48 : Int64))])) _
    refine XS.ladd X5.here hx rfl (hb hby d10_29) rfl ?_
    show Steps p.tables e below (T5.setTop (mkF m 30 #[.val (.ref a1)] [(.long ((48 : Int64) + ((((((16 : Int64) + (z_w2.toInt64)) + (8 : Int64)) - (1 : Int64)) / (8 : Int64)) * (8 : Int64))))])) _
    jvm_step X5.here [X5.here.top, hx, (hb hby d10_30), X5.method', Bd.returns, narrow]
    first | (intro acts; rw [hr _ acts rfl rfl rfl]) | rw [hr _ _ rfl rfl rfl]
    exact Steps.refl _
  · show Q10 Z a1 w2 cl_w2 z_w2 h0 n0 _ T5.heap _
    exact ⟨rfl, N5, w5⟩
theorem d10_22 : decode prog_8_method_13_code 22 = .ok (.aload_n 0, 1) := by decide +kernel
theorem d10_23 : decode prog_8_method_13_code 23 = .ok (.getfield 43, 3) := by decide +kernel
theorem d10_26 : decode prog_8_method_13_code 26 = .ok (.invokevirtual 171, 3) := by decide +kernel
theorem pd_10_9 : parseMethodDescriptor "()J" = some ⟨[], some .long⟩ := by decide +kernel
def Q10n (Z : State) (a1 : Addr) (w5 : Addr) (h0 : Heap) (n0 : Nat) (v : Option Value) (h : Heap) (L : List Loc) : Prop := v = some (.long ((48 : Int64) + (((48 : Int64) + ((((((16 : Int64) + ((8 : Int32).toInt64)) + (8 : Int64)) - (1 : Int64)) / (8 : Int64)) * (8 : Int64))) + ((((((16 : Int64) + ((2 : Int64) * ((3 : Int32).toInt64))) + (8 : Int64)) - (1 : Int64)) / (8 : Int64)) * (8 : Int64))))) ∧ Fr n0 L ∧ h = h0
set_option maxRecDepth 65536 in
set_option maxHeartbeats 40000000 in
theorem rm10n (l : Launch) (Z : State) (a0 : Array Value) (hw : ∀ d ∈ tables_1, d.before a0 Z = true) (ws : List Jvm.Cond) (a1 : Addr) (w5 : Addr) (h0 : Heap) (n0 : Nat) (Z0 : n0 ≤ h0.size) (F_dense_a1 : Fld Z h0 a1 "com/example/hakari/hakari/Counter" "dense" "[B" .null) (F_sparse_a1 : Fld Z h0 a1 "com/example/hakari/hakari/Counter" "sparse" "Lcom/example/hakari/hakari/SparseRegisters;" (.ref w5)) (S5 : own_SR Z h0 w5) :
    MetFree l (⟨"com/example/hakari/hakari/Counter", "heapBytes", "()J"⟩ : MethodName) (head1 (Jvm.Cond.code (⟨"com/example/hakari/hakari/Counter", "heapBytes", "()J"⟩ : MethodName) prog_8_method_13_code 1 (some .long) :: ws) ({ frames := 3, cells := 0, slots := 0, locals := 42 } : Room)) (fun a U => a = #[(.ref a1)] ∧ Z.Warmed39 U.vm ∧ U.heap = h0) (fun _ _ _ _ _ => True) (fun _ U o U' => ∃ v L, o = .returned v ∧ Q10n Z a1 w5 h0 n0 v U'.heap L ∧ FrameEnd U o U' L ({ frames := 3, cells := 0, slots := 0, locals := 42 } : Room).cells ({ frames := 3, cells := 0, slots := 0, locals := 42 } : Room).slots) := by
  refine MetFree.of_bodySF (plainFor_of_name pn_10) hisR ?_
  intro p e s m args below meth c s₁ Bd hml0 hP hK
  obtain ⟨rfl, hZ, hh⟩ := hP
  have hx := Bd.exec
  have hby := Bd.bytes
  have hml : c.maxLocals = 1 := hml0
  have hown : s.vm.findClass "com/example/hakari/hakari/Counter" = some m.cls := findClass_of_methodNamed Bd.named
  have hnm := (name_of_methodNamed Bd.named Bd.method).1
  have X0 : Stand p l e ({ frames := 3, cells := 0, slots := 0, locals := 42 } : Room) s m #[(.ref a1)] below meth c s₁ [] 0 0 := Stand.of_body Bd
  have e0 : s₁.heap = h0 := by rw [← hh, Bd.state]; rfl
  have N0 := Fr.nil n0
  have pre0 : ∀ t, Steps p.tables e below (s₁.setTop (mkF m 0 #[.val (.ref a1)] [])) t → Steps p.tables e below (s₁.setTop (entryFrame m #[(.ref a1)] 1)) t := fun t k => castTop (ef_10 m a1) k
  obtain ⟨x5, ba, ca, bb, cb, Fa, Aa, Sa, Fb, Ab, Sb⟩ := S5
  obtain ⟨T3, X3, e3, st3⟩ := getF X0 hx hZ hown (host := "") (Or.inl (hw _ (List.mem_of_getElem? (i := 77) rfl))) Via.refl e0 F_dense_a1 (g := (mkF m 4 #[.val (.ref a1)] [(.ref a1), (.long (48 : Int64))])) rfl rfl (hb hby d10_4)
  obtain ⟨T4, X4, e4, st4⟩ := getF X3 hx hZ hown (host := "") (Or.inl (hw _ (List.mem_of_getElem? (i := 64) rfl))) Via.refl e3 F_sparse_a1 (g := (mkF m 23 #[.val (.ref a1)] [(.ref a1), (.long (48 : Int64))])) rfl rfl (hb hby d10_23)
  obtain ⟨cq5, kq5, q5a, q5b, q5c⟩ := isOf hZ e4 x5
  obtain ⟨_, _, ⟨T5, L5, k5, n5⟩, -, X5, ⟨Lc5, hQ5, l5, y5, z5⟩, st5⟩ := X4.virtualBack hx (y := (⟨"com/example/hakari/hakari/SparseRegisters", "heapBytes", "()J"⟩ : MethodName)) (z := (⟨"com/example/hakari/hakari/SparseRegisters", "heapBytes", "()J"⟩ : MethodName)) hown (mvT hZ (hw _ (List.mem_of_getElem? (i := 79) rfl))) (mvT hZ (hw _ (List.mem_of_getElem? (i := 80) rfl))) (notFace_of_selects (args := #[]) (mvT hZ (hw _ (List.mem_of_getElem? (i := 82) rfl)))) (mvT hZ (hw _ (List.mem_of_getElem? (i := 82) rfl))) (mvT hZ (hw _ (List.mem_of_getElem? (i := 81) rfl))) (by decide) (backOf (W := 2) (rm11 l Z a0 hw [] w5 ba ca (8 : Int32) bb cb (3 : Int32) h0 n0 Z0 Fa Aa Sa (by decide) Fb Ab Sb (by decide)) hZ (hw _ (List.mem_of_getElem? (i := 83) rfl)) (hw _ (List.mem_of_getElem? (i := 5) rfl)) (by decide) (by decide)) q5a q5c (g := (mkF m 26 #[.val (.ref a1)] [(.ref w5), (.long (48 : Int64))])) rfl (by rw [hml]; rfl) (Steps.refl _) (argsL := []) (rest := [(.long (48 : Int64))]) (lenOf pd_10_9 rfl) rfl (by show 2 * 0 + _ ≤ _; exact Nat.le_of_eq rfl) (hb hby d10_26) (fun _ _ => ⟨rfl, e4, (by decide : 0 + 0 ≤ _), (by decide : 0 + 0 ≤ _)⟩)
  dsimp only [Pt.U, Pt.locs, Pt.cells, Pt.slots] at X5 l5 y5 z5 st5 hQ5
  subst l5 y5 z5
  obtain ⟨rfl, N5q, w5e⟩ := hQ5
  have N5 := Fr.app N0 N5q
  obtain ⟨fs, hr, hrun, hended, hW, hsame⟩ := X5.leave (v := some (.long ((48 : Int64) + (((48 : Int64) + ((((((16 : Int64) + ((8 : Int32).toInt64)) + (8 : Int64)) - (1 : Int64)) / (8 : Int64)) * (8 : Int64))) + ((((((16 : Int64) + ((2 : Int64) * ((3 : Int32).toInt64))) + (8 : Int64)) - (1 : Int64)) / (8 : Int64)) * (8 : Int64)))))) (fun h => by rw [Bd.returns] at h; cases h)
  refine ⟨_, _, pre0 _ ?_, hrun, hended, _, _, rfl, ?_, ⟨_, rfl⟩, hW, hsame.mono (by decide) (by decide)⟩
  · show Steps p.tables e below (s₁.setTop (mkF m 0 #[.val (.ref a1)] [])) _
    refine X0.ldc2Long hx hown (mvT hZ (hw _ (List.mem_of_getElem? (i := 76) rfl))) (g := (mkF m 0 #[.val (.ref a1)] [])) rfl (hb hby d10_0) _ ?_
    show Steps p.tables e below (s₁.setTop (mkF m 3 #[.val (.ref a1)] [(.long (48 : Int64))])) _
    refine XS.aloadN X0.here hx rfl (hb hby d10_3) rfl rfl ?_
    show Steps p.tables e below (s₁.setTop (mkF m 4 #[.val (.ref a1)] [(.ref a1), (.long (48 : Int64))])) _
    refine st3 _ ?_
    show Steps p.tables e below (T3.setTop (mkF m 7 #[.val (.ref a1)] [.null, (.long (48 : Int64))])) _
    refine XS.ifnullYes X3.here hx rfl (pc0 := 7) (pc' := 22) rfl (hb hby d10_7) rfl (by decide) (by decide) ?_
    show Steps p.tables e below (T3.setTop (mkF m 22 #[.val (.ref a1)] [(.long (48 : Int64))])) _
    refine XS.aloadN X3.here hx rfl (hb hby d10_22) rfl rfl ?_
    show Steps p.tables e below (T3.setTop (mkF m 23 #[.val (.ref a1)] [(.ref a1), (.long (48 : Int64))])) _
    refine st4 _ ?_
    show Steps p.tables e below (T4.setTop (mkF m 26 #[.val (.ref a1)] [(.ref w5), (.long (48 : Int64))])) _
    refine st5.trans ?_
    show Steps p.tables e below (T5.setTop (mkF m 29 #[.val (.ref a1)] [(.long (((48 : Int64) + ((((((16 : Int64) + ((8 : Int32).toInt64)) + (8 : Int64)) - (1 : Int64)) / (8 : Int64)) * (8 : Int64))) + ((((((16 : Int64) + ((2 : Int64) * ((3 : Int32).toInt64))) + (8 : Int64)) - (1 : Int64)) / (8 : Int64)) * (8 : Int64)))), (.long (48 : Int64))])) _
    refine XS.ladd X5.here hx rfl (hb hby d10_29) rfl ?_
    show Steps p.tables e below (T5.setTop (mkF m 30 #[.val (.ref a1)] [(.long ((48 : Int64) + (((48 : Int64) + ((((((16 : Int64) + ((8 : Int32).toInt64)) + (8 : Int64)) - (1 : Int64)) / (8 : Int64)) * (8 : Int64))) + ((((((16 : Int64) + ((2 : Int64) * ((3 : Int32).toInt64))) + (8 : Int64)) - (1 : Int64)) / (8 : Int64)) * (8 : Int64)))))])) _
    have key : ∀ (V : Int64), (∀ (f : JFrame) (acts : List Action), f.method = m → f.locked = none → f.entered = [] → (doReturn e (T5.setTop f) acts (some (.long V))).1 = T5.setFrames fs) → Steps p.tables e below (T5.setTop (mkF m 30 #[.val (.ref a1)] [(.long V)])) (T5.setFrames fs) := by
      intro V hl
      jvm_step X5.here [X5.here.top, hx, (hb hby d10_30), X5.method', Bd.returns, narrow]
      first | (intro acts; rw [hl _ acts rfl rfl rfl]) | rw [hl _ _ rfl rfl rfl]
      exact Steps.refl _
    exact key _ hr
  · show Q10n Z a1 w5 h0 n0 _ T5.heap _
    exact ⟨rfl, N5, w5e⟩
theorem own_144 : lcmpW ((48 : Int64) + (((48 : Int64) + ((((((16 : Int64) + ((8 : Int32).toInt64)) + (8 : Int64)) - (1 : Int64)) / (8 : Int64)) * (8 : Int64))) + ((((((16 : Int64) + ((2 : Int64) * ((3 : Int32).toInt64))) + (8 : Int64)) - (1 : Int64)) / (8 : Int64)) * (8 : Int64)))) (144 : Int64) = (0 : Int32) := by decide +kernel
theorem own_16448 : lcmpW ((48 : Int64) + ((((((16 : Int64) + ((16384 : Int32).toInt64)) + (8 : Int64)) - (1 : Int64)) / (8 : Int64)) * (8 : Int64))) (16448 : Int64) = (0 : Int32) := by decide +kernel
def Q0 (Z : State) (p1 : Int32) (p2 : Int32) (q3 : Int64) (p4 : Int32) (p5 : Int32) (h0 : Heap) (n0 : Nat) (v : Option Value) (h : Heap) (L : List Loc) : Prop := v = some (.int (1 : Int32)) ∧ Fr n0 L
theorem pn_0 : plainName "com/example/hakari/hakari/CounterHeapBytesPinLaw" = true := by first | (simp [plainName, overriddenIn]; done) | decide +kernel
theorem pd_0_0 : parseMethodDescriptor "()Lcom/example/hakari/hakari/SparseRegisters;" = some ⟨[], some (.object "com/example/hakari/hakari/SparseRegisters")⟩ := by decide +kernel
theorem pd_0_8 : parseMethodDescriptor "(Lcom/example/hakari/hakari/SparseRegisters;IJ)V" = some ⟨[(.object "com/example/hakari/hakari/SparseRegisters"), .int, .long], none⟩ := by decide +kernel
theorem pd_0_9 : parseMethodDescriptor "()J" = some ⟨[], some .long⟩ := by decide +kernel
theorem ef_0 (m : MethodId) (x0 : Int32) (x1 : Int32) (x2 : Int64) (x3 : Int32) (x4 : Int32) : entryFrame m #[(.int x0), (.int x1), (.long x2), (.int x3), (.int x4)] maxLocals = mkF m 0 #[.val (.int x0), .val (.int x1), .val (.long x2), .second, .val (.int x3), .val (.int x4), .unset, .unset, .unset, .unset, .unset, .unset, .unset, .unset, .unset] [] := by first | (simp [entryFrame, mkF, argsToLocals, Value.category, maxLocals]; done) | rfl

set_option maxRecDepth 65536 in
set_option maxHeartbeats 40000000 in
theorem rm0_ttttff (l : Launch) (Z : State) (a0 : Array Value) (hw : ∀ d ∈ tables_1, d.before a0 Z = true) (ws : List Jvm.Cond) (p1 : Int32) (p2 : Int32) (q3 : Int64) (p4 : Int32) (p5 : Int32) (h0 : Heap) (n0 : Nat) (Z0 : n0 ≤ h0.size) (hc3 : (p1 &&& (1 : Int32)) = (0 : Int32)) (hc16 : (p1 &&& (2 : Int32)) = (0 : Int32)) :
    MetFree l x (head1 (Jvm.Cond.code x code maxLocals ret :: ws) room_1) (fun a U => a = #[(.int p1), (.int p2), (.long q3), (.int p4), (.int p5)] ∧ Z.Warmed39 U.vm ∧ U.heap = h0) (fun _ _ _ _ _ => True) (fun _ U o U' => ∃ v L, o = .returned v ∧ Q0 Z p1 p2 q3 p4 p5 h0 n0 v U'.heap L ∧ FrameEnd U o U' L room_1.cells room_1.slots) := by
  refine MetFree.of_bodySF (plainFor_of_name pn_0) hisR ?_
  intro p e s m args below meth c s₁ Bd hml0 hP hK
  obtain ⟨rfl, hZ, hh⟩ := hP
  have hx := Bd.exec
  have hby := Bd.bytes
  have hml : c.maxLocals = 15 := hml0
  have hown : s.vm.findClass "com/example/hakari/hakari/CounterHeapBytesPinLaw" = some m.cls := findClass_of_methodNamed Bd.named
  have hnm := (name_of_methodNamed Bd.named Bd.method).1
  have X0 : Stand p l e room_1 s m #[(.int p1), (.int p2), (.long q3), (.int p4), (.int p5)] below meth c s₁ [] 0 0 := Stand.of_body Bd
  have e0 : s₁.heap = h0 := by rw [← hh, Bd.state]; rfl
  have N0 := Fr.nil n0
  have pre0 : ∀ t, Steps p.tables e below (s₁.setTop (mkF m 0 #[.val (.int p1), .val (.int p2), .val (.long q3), .second, .val (.int p4), .val (.int p5), .unset, .unset, .unset, .unset, .unset, .unset, .unset, .unset, .unset] [])) t → Steps p.tables e below (s₁.setTop (entryFrame m #[(.int p1), (.int p2), (.long q3), (.int p4), (.int p5)] maxLocals)) t := fun t k => castTop (ef_0 m p1 p2 q3 p4 p5) k
  obtain ⟨T6, h6, X6, e6, E6, A6, D6, -, st6⟩ := newO X0 hx hZ hown (hw _ (List.mem_of_getElem? (i := 0) rfl)) (hw _ (List.mem_of_getElem? (i := 1) rfl)) (hw _ (List.mem_of_getElem? (i := 2) rfl)) e0 (g := (mkF m 96 #[.val (.int p1), .val (.int p2), .val (.long q3), .second, .val (.int p4), .val (.int p5), .val (.int (0 : Int32)), .val (.int (0 : Int32)), .unset, .unset, .unset, .unset, .unset, .unset, .unset] [])) rfl (hb hby at_96) (by decide) (by decide)
  obtain ⟨b6, g6⟩ : ∃ z, z = h0.size := ⟨_, rfl⟩
  rw [← g6] at A6 D6 st6
  have F_sparse_b6 : Fld Z h6 b6 "com/example/hakari/hakari/Counter" "sparse" "Lcom/example/hakari/hakari/SparseRegisters;" .null := D6 (Or.inl (hw _ (List.mem_of_getElem? (i := 65) rfl))) (ty := (.object "com/example/hakari/hakari/SparseRegisters")) (by decide)
  have F_unused_b6 : Fld Z h6 b6 "com/example/hakari/hakari/Counter" "unused" "I" (.int (0 : Int32)) := D6 (Or.inr (hw _ (List.mem_of_getElem? (i := 67) rfl))) (ty := .int) (by decide)
  have F_cachedCount_b6 : Fld Z h6 b6 "com/example/hakari/hakari/Counter" "cachedCount" "J" (.long (0 : Int64)) := D6 (Or.inl (hw _ (List.mem_of_getElem? (i := 69) rfl))) (ty := .long) (by decide)
  have F_dense_b6 : Fld Z h6 b6 "com/example/hakari/hakari/Counter" "dense" "[B" .null := D6 (Or.inl (hw _ (List.mem_of_getElem? (i := 78) rfl))) (ty := (.array .byte)) (by decide)
  have E_b6 := A6
  have g_b6 : n0 ≤ b6 := Nat.le_trans Z0 (Nat.le_of_eq g6.symm)
  have sz_b6 : h0.size ≤ b6 := (Nat.le_trans (Keep.refl h0 []).1 (Nat.le_of_eq g6.symm))
  have K6 : Keep h0 h6 [] := (Keep.refl h0 []).ext E6
  obtain ⟨_, _, ⟨T7, L7, k7, n7⟩, -, X7, ⟨Lc7, hQ7, l7, y7, z7⟩, st7⟩ := Jvm.LawKit.callS X6 hx (y := (⟨"com/example/hakari/hakari/SparseRegisters", "empty", "()Lcom/example/hakari/hakari/SparseRegisters;"⟩ : MethodName)) hown (mvT hZ (hw _ (List.mem_of_getElem? (i := 3) rfl))) (mvT hZ (hw _ (List.mem_of_getElem? (i := 4) rfl))) (mvT hZ (hw _ (List.mem_of_getElem? (i := 5) rfl))) (mvT hZ (hw _ (List.mem_of_getElem? (i := 6) rfl))) (by decide) (backOf (W := 2) (rm1 l Z a0 hw []  h6 n0 (Nat.le_trans Z0 K6.1)) hZ (hw _ (List.mem_of_getElem? (i := 6) rfl)) (hw _ (List.mem_of_getElem? (i := 5) rfl)) (by decide) (by decide)) (g := (mkF m 100 #[.val (.int p1), .val (.int p2), .val (.long q3), .second, .val (.int p4), .val (.int p5), .val (.int (0 : Int32)), .val (.int (0 : Int32)), .unset, .unset, .unset, .unset, .unset, .unset, .unset] [(.ref b6), (.ref b6)])) rfl (by rw [hml]; rfl) (argsL := []) (rest := [(.ref b6), (.ref b6)]) (lenOf pd_0_0 rfl) rfl (by show 2 * 0 + _ ≤ _; exact Nat.le_of_eq rfl) (hb hby at_100) (fun _ _ => ⟨rfl, e6, (by decide : 1 + 4 ≤ _), (by decide : 4 + 20 ≤ _)⟩)
  dsimp only [Pt.U, Pt.locs, Pt.cells, Pt.slots] at X7 l7 y7 z7 st7 hQ7
  subst l7 y7 z7
  obtain ⟨b7, rfl, N7q, K7q, sb7, S7⟩ := hQ7
  have N7 := Fr.app N0 N7q
  obtain ⟨_, _, ⟨T8, L8, k8, n8⟩, -, X8, ⟨Lc8, hQ8, l8, y8, z8⟩, st8⟩ := X7.specialBack hx (y := (⟨"com/example/hakari/hakari/Counter", "<init>", "(Lcom/example/hakari/hakari/SparseRegisters;IJ)V"⟩ : MethodName)) rfl hown (mvT hZ (hw _ (List.mem_of_getElem? (i := 60) rfl))) (mvT hZ (hw _ (List.mem_of_getElem? (i := 61) rfl))) (mvT hZ (hw _ (List.mem_of_getElem? (i := 62) rfl))) (by decide) (backOf (W := 1) (rm9 l Z a0 hw [] b6 b7 p2 q3 _ _ _ _ T7.heap n0 (Nat.le_trans (Nat.le_trans Z0 K6.1) K7q.1) (E_b6.keep K7q) (F_sparse_b6.keep K7q nin0) g_b6 (F_unused_b6.keep K7q nin0) (F_cachedCount_b6.keep K7q nin0) (F_dense_b6.keep K7q nin0)) hZ (hw _ (List.mem_of_getElem? (i := 62) rfl)) (hw _ (List.mem_of_getElem? (i := 2) rfl)) (by decide) (by decide)) (g := (mkF m 105 #[.val (.int p1), .val (.int p2), .val (.long q3), .second, .val (.int p4), .val (.int p5), .val (.int (0 : Int32)), .val (.int (0 : Int32)), .unset, .unset, .unset, .unset, .unset, .unset, .unset] [(.long q3), (.int p2), (.ref b7), (.ref b6), (.ref b6)])) rfl (by rw [hml]; rfl) (Steps.refl _) (a := b6) (argsL := [(.ref b7), (.int p2), (.long q3)]) (rest := [(.ref b6)]) (lenOf pd_0_8 rfl) rfl (by show 2 * 0 + _ ≤ _; exact Nat.le_of_eq rfl) (hb hby at_105) (fun _ _ => ⟨rfl, rfl, (by decide : 1 + 4 ≤ _), (by decide : 4 + 20 ≤ _)⟩)
  dsimp only [Pt.U, Pt.locs, Pt.cells, Pt.slots] at X8 l8 y8 z8 st8 hQ8
  subst l8 y8 z8
  obtain ⟨rfl, N8q, K8q, x8, Fs8, -, -, Fd8⟩ := hQ8
  have S8 := own_SRk S7 K8q (ninS (Ne.symm (Nat.ne_of_lt (Nat.lt_of_lt_of_le E_b6.lt sb7))) nin0)
  have z8 : n0 ≤ T8.heap.size := Nat.le_trans (Nat.le_trans (Nat.le_trans Z0 K6.1) K7q.1) K8q.1
  have N8 := Fr.app N7 N8q
  obtain ⟨cq9, kq9, q9a, q9b, q9c⟩ := isOf hZ rfl x8
  obtain ⟨_, _, ⟨T9, L9, k9, n9⟩, -, X9, ⟨Lc9, hQ9, l9, y9, z9⟩, st9⟩ := X8.virtualBack hx (y := (⟨"com/example/hakari/hakari/Counter", "heapBytes", "()J"⟩ : MethodName)) (z := (⟨"com/example/hakari/hakari/Counter", "heapBytes", "()J"⟩ : MethodName)) hown (mvT hZ (hw _ (List.mem_of_getElem? (i := 71) rfl))) (mvT hZ (hw _ (List.mem_of_getElem? (i := 72) rfl))) (notFace_of_selects (args := #[]) (mvT hZ (hw _ (List.mem_of_getElem? (i := 74) rfl)))) (mvT hZ (hw _ (List.mem_of_getElem? (i := 74) rfl))) (mvT hZ (hw _ (List.mem_of_getElem? (i := 73) rfl))) (by decide) (backOf (W := 0) (rm10n l Z a0 hw [] b6 b7 T8.heap n0 z8 Fd8 Fs8 S8) hZ (hw _ (List.mem_of_getElem? (i := 75) rfl)) (hw _ (List.mem_of_getElem? (i := 2) rfl)) (by decide) (by decide)) q9a q9c (g := (mkF m 117 #[.val (.int p1), .val (.int p2), .val (.long q3), .second, .val (.int p4), .val (.int p5), .val (.int (0 : Int32)), .val (.int (0 : Int32)), .val (.ref b6), .val (.long (144 : Int64)), .second, .unset, .unset, .unset, .unset] [(.ref b6)])) rfl (by rw [hml]; rfl) (Steps.refl _) (argsL := []) (rest := []) (lenOf pd_0_9 rfl) rfl (by show 2 * 0 + _ ≤ _; exact Nat.le_of_eq rfl) (hb hby at_117) (fun _ _ => ⟨rfl, rfl, (by decide : 1 + 4 ≤ _), (by decide : 4 + 20 ≤ _)⟩)
  dsimp only [Pt.U, Pt.locs, Pt.cells, Pt.slots] at X9 l9 y9 z9 st9 hQ9
  subst l9 y9 z9
  obtain ⟨rfl, N9q, w9⟩ := hQ9
  have z9 : n0 ≤ T9.heap.size := by rw [w9]; exact z8
  have x9 : Exa Z T9.heap b6 "com/example/hakari/hakari/Counter" := by rw [w9]; exact x8
  have Fd9 : Fld Z T9.heap b6 "com/example/hakari/hakari/Counter" "dense" "[B" .null := by rw [w9]; exact Fd8
  have Fs9 : Fld Z T9.heap b6 "com/example/hakari/hakari/Counter" "sparse" "Lcom/example/hakari/hakari/SparseRegisters;" (.ref b7) := by rw [w9]; exact Fs8
  have S9 : own_SR Z T9.heap b7 := by rw [w9]; exact S8
  have N9 := Fr.app N8 N9q
  obtain ⟨cq10, kq10, q10a, q10b, q10c⟩ := isOf hZ rfl x9
  obtain ⟨_, _, ⟨T10, L10, k10, n10⟩, -, X10, ⟨Lc10, hQ10, l10, y10, z10⟩, st10⟩ := X9.virtualBack hx (y := (⟨"com/example/hakari/hakari/Counter", "heapBytes", "()J"⟩ : MethodName)) (z := (⟨"com/example/hakari/hakari/Counter", "heapBytes", "()J"⟩ : MethodName)) hown (mvT hZ (hw _ (List.mem_of_getElem? (i := 71) rfl))) (mvT hZ (hw _ (List.mem_of_getElem? (i := 72) rfl))) (notFace_of_selects (args := #[]) (mvT hZ (hw _ (List.mem_of_getElem? (i := 74) rfl)))) (mvT hZ (hw _ (List.mem_of_getElem? (i := 74) rfl))) (mvT hZ (hw _ (List.mem_of_getElem? (i := 73) rfl))) (by decide) (backOf (W := 0) (rm10n l Z a0 hw [] b6 b7 T9.heap n0 z9 Fd9 Fs9 S9) hZ (hw _ (List.mem_of_getElem? (i := 75) rfl)) (hw _ (List.mem_of_getElem? (i := 2) rfl)) (by decide) (by decide)) q10a q10c (g := (mkF m 124 #[.val (.int p1), .val (.int p2), .val (.long q3), .second, .val (.int p4), .val (.int p5), .val (.int (0 : Int32)), .val (.int (0 : Int32)), .val (.ref b6), .val (.long (144 : Int64)), .second, .val (.long ((48 : Int64) + (((48 : Int64) + ((((((16 : Int64) + ((8 : Int32).toInt64)) + (8 : Int64)) - (1 : Int64)) / (8 : Int64)) * (8 : Int64))) + ((((((16 : Int64) + ((2 : Int64) * ((3 : Int32).toInt64))) + (8 : Int64)) - (1 : Int64)) / (8 : Int64)) * (8 : Int64))))), .second, .unset, .unset] [(.ref b6)])) rfl (by rw [hml]; rfl) (Steps.refl _) (argsL := []) (rest := []) (lenOf pd_0_9 rfl) rfl (by show 2 * 0 + _ ≤ _; exact Nat.le_of_eq rfl) (hb hby at_124) (fun _ _ => ⟨rfl, rfl, (by decide : 1 + 4 ≤ _), (by decide : 4 + 20 ≤ _)⟩)
  dsimp only [Pt.U, Pt.locs, Pt.cells, Pt.slots] at X10 l10 y10 z10 st10 hQ10
  subst l10 y10 z10
  obtain ⟨rfl, N10q, w10⟩ := hQ10
  have z10 : n0 ≤ T10.heap.size := by rw [w10]; exact z9
  have x10 : Exa Z T10.heap b6 "com/example/hakari/hakari/Counter" := by rw [w10]; exact x9
  have Fd10 : Fld Z T10.heap b6 "com/example/hakari/hakari/Counter" "dense" "[B" .null := by rw [w10]; exact Fd9
  have Fs10 : Fld Z T10.heap b6 "com/example/hakari/hakari/Counter" "sparse" "Lcom/example/hakari/hakari/SparseRegisters;" (.ref b7) := by rw [w10]; exact Fs9
  have S10 : own_SR Z T10.heap b7 := by rw [w10]; exact S9
  have N10 := Fr.app N9 N10q
  obtain ⟨fs, hr, hrun, hended, hW, hsame⟩ := X10.leave (v := some (.int (1 : Int32))) (fun h => by rw [Bd.returns] at h; cases h)
  refine ⟨_, _, pre0 _ ?_, hrun, hended, _, _, rfl, ?_, ⟨_, rfl⟩, hW, hsame.mono (by decide) (by decide)⟩
  · show Steps p.tables e below (s₁.setTop (mkF m 0 #[.val (.int p1), .val (.int p2), .val (.long q3), .second, .val (.int p4), .val (.int p5), .unset, .unset, .unset, .unset, .unset, .unset, .unset, .unset, .unset] [])) _
    refine XS.iloadN X0.here hx rfl (hb hby at_0) rfl ?_
    show Steps p.tables e below (s₁.setTop (mkF m 1 #[.val (.int p1), .val (.int p2), .val (.long q3), .second, .val (.int p4), .val (.int p5), .unset, .unset, .unset, .unset, .unset, .unset, .unset, .unset, .unset] [(.int p1)])) _
    refine XS.iconst X0.here hx rfl (hb hby at_1) ?_
    show Steps p.tables e below (s₁.setTop (mkF m 2 #[.val (.int p1), .val (.int p2), .val (.long q3), .second, .val (.int p4), .val (.int p5), .unset, .unset, .unset, .unset, .unset, .unset, .unset, .unset, .unset] [(.int (1 : Int32)), (.int p1)])) _
    refine XS.iand X0.here hx rfl (hb hby at_2) rfl ?_
    show Steps p.tables e below (s₁.setTop (mkF m 3 #[.val (.int p1), .val (.int p2), .val (.long q3), .second, .val (.int p4), .val (.int p5), .unset, .unset, .unset, .unset, .unset, .unset, .unset, .unset, .unset] [(.int (p1 &&& (1 : Int32)))])) _
    refine XS.ifYes X0.here hx rfl (pc0 := 3) (pc' := 10) rfl (hb hby at_3) rfl ((if0 _ _).trans (teq hc3).1) (by decide) (by decide) ?_
    show Steps p.tables e below (s₁.setTop (mkF m 10 #[.val (.int p1), .val (.int p2), .val (.long q3), .second, .val (.int p4), .val (.int p5), .unset, .unset, .unset, .unset, .unset, .unset, .unset, .unset, .unset] [])) _
    refine XS.iconst X0.here hx rfl (hb hby at_10) ?_
    show Steps p.tables e below (s₁.setTop (mkF m 11 #[.val (.int p1), .val (.int p2), .val (.long q3), .second, .val (.int p4), .val (.int p5), .unset, .unset, .unset, .unset, .unset, .unset, .unset, .unset, .unset] [(.int (0 : Int32))])) _
    refine XS.istore X0.here hx rfl (hb hby at_11) rfl (l' := #[.val (.int p1), .val (.int p2), .val (.long q3), .second, .val (.int p4), .val (.int p5), .val (.int (0 : Int32)), .unset, .unset, .unset, .unset, .unset, .unset, .unset, .unset]) rfl ?_
    show Steps p.tables e below (s₁.setTop (mkF m 13 #[.val (.int p1), .val (.int p2), .val (.long q3), .second, .val (.int p4), .val (.int p5), .val (.int (0 : Int32)), .unset, .unset, .unset, .unset, .unset, .unset, .unset, .unset] [])) _
    refine XS.iloadN X0.here hx rfl (hb hby at_13) rfl ?_
    show Steps p.tables e below (s₁.setTop (mkF m 14 #[.val (.int p1), .val (.int p2), .val (.long q3), .second, .val (.int p4), .val (.int p5), .val (.int (0 : Int32)), .unset, .unset, .unset, .unset, .unset, .unset, .unset, .unset] [(.int p1)])) _
    refine XS.iconst X0.here hx rfl (hb hby at_14) ?_
    show Steps p.tables e below (s₁.setTop (mkF m 15 #[.val (.int p1), .val (.int p2), .val (.long q3), .second, .val (.int p4), .val (.int p5), .val (.int (0 : Int32)), .unset, .unset, .unset, .unset, .unset, .unset, .unset, .unset] [(.int (2 : Int32)), (.int p1)])) _
    refine XS.iand X0.here hx rfl (hb hby at_15) rfl ?_
    show Steps p.tables e below (s₁.setTop (mkF m 16 #[.val (.int p1), .val (.int p2), .val (.long q3), .second, .val (.int p4), .val (.int p5), .val (.int (0 : Int32)), .unset, .unset, .unset, .unset, .unset, .unset, .unset, .unset] [(.int (p1 &&& (2 : Int32)))])) _
    refine XS.ifYes X0.here hx rfl (pc0 := 16) (pc' := 23) rfl (hb hby at_16) rfl ((if0 _ _).trans (teq hc16).1) (by decide) (by decide) ?_
    show Steps p.tables e below (s₁.setTop (mkF m 23 #[.val (.int p1), .val (.int p2), .val (.long q3), .second, .val (.int p4), .val (.int p5), .val (.int (0 : Int32)), .unset, .unset, .unset, .unset, .unset, .unset, .unset, .unset] [])) _
    refine XS.iconst X0.here hx rfl (hb hby at_23) ?_
    show Steps p.tables e below (s₁.setTop (mkF m 24 #[.val (.int p1), .val (.int p2), .val (.long q3), .second, .val (.int p4), .val (.int p5), .val (.int (0 : Int32)), .unset, .unset, .unset, .unset, .unset, .unset, .unset, .unset] [(.int (0 : Int32))])) _
    refine XS.istore X0.here hx rfl (hb hby at_24) rfl (l' := #[.val (.int p1), .val (.int p2), .val (.long q3), .second, .val (.int p4), .val (.int p5), .val (.int (0 : Int32)), .val (.int (0 : Int32)), .unset, .unset, .unset, .unset, .unset, .unset, .unset]) rfl ?_
    show Steps p.tables e below (s₁.setTop (mkF m 26 #[.val (.int p1), .val (.int p2), .val (.long q3), .second, .val (.int p4), .val (.int p5), .val (.int (0 : Int32)), .val (.int (0 : Int32)), .unset, .unset, .unset, .unset, .unset, .unset, .unset] [])) _
    refine XS.iload X0.here hx rfl (hb hby at_26) rfl ?_
    show Steps p.tables e below (s₁.setTop (mkF m 28 #[.val (.int p1), .val (.int p2), .val (.long q3), .second, .val (.int p4), .val (.int p5), .val (.int (0 : Int32)), .val (.int (0 : Int32)), .unset, .unset, .unset, .unset, .unset, .unset, .unset] [(.int (0 : Int32))])) _
    refine XS.ifYes X0.here hx rfl (pc0 := 28) (pc' := 74) rfl (hb hby at_28) rfl ((if0 _ _).trans (teq (rfl : (0 : Int32) = (0 : Int32))).1) (by decide) (by decide) ?_
    show Steps p.tables e below (s₁.setTop (mkF m 74 #[.val (.int p1), .val (.int p2), .val (.long q3), .second, .val (.int p4), .val (.int p5), .val (.int (0 : Int32)), .val (.int (0 : Int32)), .unset, .unset, .unset, .unset, .unset, .unset, .unset] [])) _
    refine XS.iload X0.here hx rfl (hb hby at_74) rfl ?_
    show Steps p.tables e below (s₁.setTop (mkF m 76 #[.val (.int p1), .val (.int p2), .val (.long q3), .second, .val (.int p4), .val (.int p5), .val (.int (0 : Int32)), .val (.int (0 : Int32)), .unset, .unset, .unset, .unset, .unset, .unset, .unset] [(.int (0 : Int32))])) _
    refine XS.ifYes X0.here hx rfl (pc0 := 76) (pc' := 96) rfl (hb hby at_76) rfl ((if0 _ _).trans (teq (rfl : (0 : Int32) = (0 : Int32))).1) (by decide) (by decide) ?_
    show Steps p.tables e below (s₁.setTop (mkF m 96 #[.val (.int p1), .val (.int p2), .val (.long q3), .second, .val (.int p4), .val (.int p5), .val (.int (0 : Int32)), .val (.int (0 : Int32)), .unset, .unset, .unset, .unset, .unset, .unset, .unset] [])) _
    refine st6 _ ?_
    show Steps p.tables e below (T6.setTop (mkF m 99 #[.val (.int p1), .val (.int p2), .val (.long q3), .second, .val (.int p4), .val (.int p5), .val (.int (0 : Int32)), .val (.int (0 : Int32)), .unset, .unset, .unset, .unset, .unset, .unset, .unset] [(.ref b6)])) _
    refine XS.dup X6.here hx rfl (hb hby at_99) rfl rfl ?_
    show Steps p.tables e below (T6.setTop (mkF m 100 #[.val (.int p1), .val (.int p2), .val (.long q3), .second, .val (.int p4), .val (.int p5), .val (.int (0 : Int32)), .val (.int (0 : Int32)), .unset, .unset, .unset, .unset, .unset, .unset, .unset] [(.ref b6), (.ref b6)])) _
    refine st7 _ ?_
    show Steps p.tables e below (T7.setTop (mkF m 103 #[.val (.int p1), .val (.int p2), .val (.long q3), .second, .val (.int p4), .val (.int p5), .val (.int (0 : Int32)), .val (.int (0 : Int32)), .unset, .unset, .unset, .unset, .unset, .unset, .unset] [(.ref b7), (.ref b6), (.ref b6)])) _
    refine XS.iloadN X7.here hx rfl (hb hby at_103) rfl ?_
    show Steps p.tables e below (T7.setTop (mkF m 104 #[.val (.int p1), .val (.int p2), .val (.long q3), .second, .val (.int p4), .val (.int p5), .val (.int (0 : Int32)), .val (.int (0 : Int32)), .unset, .unset, .unset, .unset, .unset, .unset, .unset] [(.int p2), (.ref b7), (.ref b6), (.ref b6)])) _
    refine XS.lloadN X7.here hx rfl (hb hby at_104) rfl ?_
    show Steps p.tables e below (T7.setTop (mkF m 105 #[.val (.int p1), .val (.int p2), .val (.long q3), .second, .val (.int p4), .val (.int p5), .val (.int (0 : Int32)), .val (.int (0 : Int32)), .unset, .unset, .unset, .unset, .unset, .unset, .unset] [(.long q3), (.int p2), (.ref b7), (.ref b6), (.ref b6)])) _
    refine st8.trans ?_
    show Steps p.tables e below (T8.setTop (mkF m 108 #[.val (.int p1), .val (.int p2), .val (.long q3), .second, .val (.int p4), .val (.int p5), .val (.int (0 : Int32)), .val (.int (0 : Int32)), .unset, .unset, .unset, .unset, .unset, .unset, .unset] [(.ref b6)])) _
    refine XS.astore X8.here hx rfl (hb hby at_108) rfl rfl (l' := #[.val (.int p1), .val (.int p2), .val (.long q3), .second, .val (.int p4), .val (.int p5), .val (.int (0 : Int32)), .val (.int (0 : Int32)), .val (.ref b6), .unset, .unset, .unset, .unset, .unset, .unset]) rfl ?_
    show Steps p.tables e below (T8.setTop (mkF m 110 #[.val (.int p1), .val (.int p2), .val (.long q3), .second, .val (.int p4), .val (.int p5), .val (.int (0 : Int32)), .val (.int (0 : Int32)), .val (.ref b6), .unset, .unset, .unset, .unset, .unset, .unset] [])) _
    refine X8.ldc2Long hx hown (mvT hZ (hw _ (List.mem_of_getElem? (i := 70) rfl))) (g := (mkF m 110 #[.val (.int p1), .val (.int p2), .val (.long q3), .second, .val (.int p4), .val (.int p5), .val (.int (0 : Int32)), .val (.int (0 : Int32)), .val (.ref b6), .unset, .unset, .unset, .unset, .unset, .unset] [])) rfl (hb hby at_110) _ ?_
    show Steps p.tables e below (T8.setTop (mkF m 113 #[.val (.int p1), .val (.int p2), .val (.long q3), .second, .val (.int p4), .val (.int p5), .val (.int (0 : Int32)), .val (.int (0 : Int32)), .val (.ref b6), .unset, .unset, .unset, .unset, .unset, .unset] [(.long (144 : Int64))])) _
    refine XS.lstore X8.here hx rfl (hb hby at_113) rfl (l' := #[.val (.int p1), .val (.int p2), .val (.long q3), .second, .val (.int p4), .val (.int p5), .val (.int (0 : Int32)), .val (.int (0 : Int32)), .val (.ref b6), .val (.long (144 : Int64)), .second, .unset, .unset, .unset, .unset]) rfl ?_
    show Steps p.tables e below (T8.setTop (mkF m 115 #[.val (.int p1), .val (.int p2), .val (.long q3), .second, .val (.int p4), .val (.int p5), .val (.int (0 : Int32)), .val (.int (0 : Int32)), .val (.ref b6), .val (.long (144 : Int64)), .second, .unset, .unset, .unset, .unset] [])) _
    refine XS.aload X8.here hx rfl (hb hby at_115) rfl rfl ?_
    show Steps p.tables e below (T8.setTop (mkF m 117 #[.val (.int p1), .val (.int p2), .val (.long q3), .second, .val (.int p4), .val (.int p5), .val (.int (0 : Int32)), .val (.int (0 : Int32)), .val (.ref b6), .val (.long (144 : Int64)), .second, .unset, .unset, .unset, .unset] [(.ref b6)])) _
    refine st9.trans ?_
    show Steps p.tables e below (T9.setTop (mkF m 120 #[.val (.int p1), .val (.int p2), .val (.long q3), .second, .val (.int p4), .val (.int p5), .val (.int (0 : Int32)), .val (.int (0 : Int32)), .val (.ref b6), .val (.long (144 : Int64)), .second, .unset, .unset, .unset, .unset] [(.long ((48 : Int64) + (((48 : Int64) + ((((((16 : Int64) + ((8 : Int32).toInt64)) + (8 : Int64)) - (1 : Int64)) / (8 : Int64)) * (8 : Int64))) + ((((((16 : Int64) + ((2 : Int64) * ((3 : Int32).toInt64))) + (8 : Int64)) - (1 : Int64)) / (8 : Int64)) * (8 : Int64)))))])) _
    refine XS.lstore X9.here hx rfl (hb hby at_120) rfl (l' := #[.val (.int p1), .val (.int p2), .val (.long q3), .second, .val (.int p4), .val (.int p5), .val (.int (0 : Int32)), .val (.int (0 : Int32)), .val (.ref b6), .val (.long (144 : Int64)), .second, .val (.long ((48 : Int64) + (((48 : Int64) + ((((((16 : Int64) + ((8 : Int32).toInt64)) + (8 : Int64)) - (1 : Int64)) / (8 : Int64)) * (8 : Int64))) + ((((((16 : Int64) + ((2 : Int64) * ((3 : Int32).toInt64))) + (8 : Int64)) - (1 : Int64)) / (8 : Int64)) * (8 : Int64))))), .second, .unset, .unset]) rfl ?_
    show Steps p.tables e below (T9.setTop (mkF m 122 #[.val (.int p1), .val (.int p2), .val (.long q3), .second, .val (.int p4), .val (.int p5), .val (.int (0 : Int32)), .val (.int (0 : Int32)), .val (.ref b6), .val (.long (144 : Int64)), .second, .val (.long ((48 : Int64) + (((48 : Int64) + ((((((16 : Int64) + ((8 : Int32).toInt64)) + (8 : Int64)) - (1 : Int64)) / (8 : Int64)) * (8 : Int64))) + ((((((16 : Int64) + ((2 : Int64) * ((3 : Int32).toInt64))) + (8 : Int64)) - (1 : Int64)) / (8 : Int64)) * (8 : Int64))))), .second, .unset, .unset] [])) _
    refine XS.aload X9.here hx rfl (hb hby at_122) rfl rfl ?_
    show Steps p.tables e below (T9.setTop (mkF m 124 #[.val (.int p1), .val (.int p2), .val (.long q3), .second, .val (.int p4), .val (.int p5), .val (.int (0 : Int32)), .val (.int (0 : Int32)), .val (.ref b6), .val (.long (144 : Int64)), .second, .val (.long ((48 : Int64) + (((48 : Int64) + ((((((16 : Int64) + ((8 : Int32).toInt64)) + (8 : Int64)) - (1 : Int64)) / (8 : Int64)) * (8 : Int64))) + ((((((16 : Int64) + ((2 : Int64) * ((3 : Int32).toInt64))) + (8 : Int64)) - (1 : Int64)) / (8 : Int64)) * (8 : Int64))))), .second, .unset, .unset] [(.ref b6)])) _
    refine st10.trans ?_
    show Steps p.tables e below (T10.setTop (mkF m 127 #[.val (.int p1), .val (.int p2), .val (.long q3), .second, .val (.int p4), .val (.int p5), .val (.int (0 : Int32)), .val (.int (0 : Int32)), .val (.ref b6), .val (.long (144 : Int64)), .second, .val (.long ((48 : Int64) + (((48 : Int64) + ((((((16 : Int64) + ((8 : Int32).toInt64)) + (8 : Int64)) - (1 : Int64)) / (8 : Int64)) * (8 : Int64))) + ((((((16 : Int64) + ((2 : Int64) * ((3 : Int32).toInt64))) + (8 : Int64)) - (1 : Int64)) / (8 : Int64)) * (8 : Int64))))), .second, .unset, .unset] [(.long ((48 : Int64) + (((48 : Int64) + ((((((16 : Int64) + ((8 : Int32).toInt64)) + (8 : Int64)) - (1 : Int64)) / (8 : Int64)) * (8 : Int64))) + ((((((16 : Int64) + ((2 : Int64) * ((3 : Int32).toInt64))) + (8 : Int64)) - (1 : Int64)) / (8 : Int64)) * (8 : Int64)))))])) _
    refine XS.lstore X10.here hx rfl (hb hby at_127) rfl (l' := #[.val (.int p1), .val (.int p2), .val (.long q3), .second, .val (.int p4), .val (.int p5), .val (.int (0 : Int32)), .val (.int (0 : Int32)), .val (.ref b6), .val (.long (144 : Int64)), .second, .val (.long ((48 : Int64) + (((48 : Int64) + ((((((16 : Int64) + ((8 : Int32).toInt64)) + (8 : Int64)) - (1 : Int64)) / (8 : Int64)) * (8 : Int64))) + ((((((16 : Int64) + ((2 : Int64) * ((3 : Int32).toInt64))) + (8 : Int64)) - (1 : Int64)) / (8 : Int64)) * (8 : Int64))))), .second, .val (.long ((48 : Int64) + (((48 : Int64) + ((((((16 : Int64) + ((8 : Int32).toInt64)) + (8 : Int64)) - (1 : Int64)) / (8 : Int64)) * (8 : Int64))) + ((((((16 : Int64) + ((2 : Int64) * ((3 : Int32).toInt64))) + (8 : Int64)) - (1 : Int64)) / (8 : Int64)) * (8 : Int64))))), .second]) rfl ?_
    show Steps p.tables e below (T10.setTop (mkF m 129 #[.val (.int p1), .val (.int p2), .val (.long q3), .second, .val (.int p4), .val (.int p5), .val (.int (0 : Int32)), .val (.int (0 : Int32)), .val (.ref b6), .val (.long (144 : Int64)), .second, .val (.long ((48 : Int64) + (((48 : Int64) + ((((((16 : Int64) + ((8 : Int32).toInt64)) + (8 : Int64)) - (1 : Int64)) / (8 : Int64)) * (8 : Int64))) + ((((((16 : Int64) + ((2 : Int64) * ((3 : Int32).toInt64))) + (8 : Int64)) - (1 : Int64)) / (8 : Int64)) * (8 : Int64))))), .second, .val (.long ((48 : Int64) + (((48 : Int64) + ((((((16 : Int64) + ((8 : Int32).toInt64)) + (8 : Int64)) - (1 : Int64)) / (8 : Int64)) * (8 : Int64))) + ((((((16 : Int64) + ((2 : Int64) * ((3 : Int32).toInt64))) + (8 : Int64)) - (1 : Int64)) / (8 : Int64)) * (8 : Int64))))), .second] [])) _
    refine XS.lload X10.here hx rfl (hb hby at_129) rfl ?_
    show Steps p.tables e below (T10.setTop (mkF m 131 #[.val (.int p1), .val (.int p2), .val (.long q3), .second, .val (.int p4), .val (.int p5), .val (.int (0 : Int32)), .val (.int (0 : Int32)), .val (.ref b6), .val (.long (144 : Int64)), .second, .val (.long ((48 : Int64) + (((48 : Int64) + ((((((16 : Int64) + ((8 : Int32).toInt64)) + (8 : Int64)) - (1 : Int64)) / (8 : Int64)) * (8 : Int64))) + ((((((16 : Int64) + ((2 : Int64) * ((3 : Int32).toInt64))) + (8 : Int64)) - (1 : Int64)) / (8 : Int64)) * (8 : Int64))))), .second, .val (.long ((48 : Int64) + (((48 : Int64) + ((((((16 : Int64) + ((8 : Int32).toInt64)) + (8 : Int64)) - (1 : Int64)) / (8 : Int64)) * (8 : Int64))) + ((((((16 : Int64) + ((2 : Int64) * ((3 : Int32).toInt64))) + (8 : Int64)) - (1 : Int64)) / (8 : Int64)) * (8 : Int64))))), .second] [(.long ((48 : Int64) + (((48 : Int64) + ((((((16 : Int64) + ((8 : Int32).toInt64)) + (8 : Int64)) - (1 : Int64)) / (8 : Int64)) * (8 : Int64))) + ((((((16 : Int64) + ((2 : Int64) * ((3 : Int32).toInt64))) + (8 : Int64)) - (1 : Int64)) / (8 : Int64)) * (8 : Int64)))))])) _
    refine XS.lload X10.here hx rfl (hb hby at_131) rfl ?_
    show Steps p.tables e below (T10.setTop (mkF m 133 #[.val (.int p1), .val (.int p2), .val (.long q3), .second, .val (.int p4), .val (.int p5), .val (.int (0 : Int32)), .val (.int (0 : Int32)), .val (.ref b6), .val (.long (144 : Int64)), .second, .val (.long ((48 : Int64) + (((48 : Int64) + ((((((16 : Int64) + ((8 : Int32).toInt64)) + (8 : Int64)) - (1 : Int64)) / (8 : Int64)) * (8 : Int64))) + ((((((16 : Int64) + ((2 : Int64) * ((3 : Int32).toInt64))) + (8 : Int64)) - (1 : Int64)) / (8 : Int64)) * (8 : Int64))))), .second, .val (.long ((48 : Int64) + (((48 : Int64) + ((((((16 : Int64) + ((8 : Int32).toInt64)) + (8 : Int64)) - (1 : Int64)) / (8 : Int64)) * (8 : Int64))) + ((((((16 : Int64) + ((2 : Int64) * ((3 : Int32).toInt64))) + (8 : Int64)) - (1 : Int64)) / (8 : Int64)) * (8 : Int64))))), .second] [(.long (144 : Int64)), (.long ((48 : Int64) + (((48 : Int64) + ((((((16 : Int64) + ((8 : Int32).toInt64)) + (8 : Int64)) - (1 : Int64)) / (8 : Int64)) * (8 : Int64))) + ((((((16 : Int64) + ((2 : Int64) * ((3 : Int32).toInt64))) + (8 : Int64)) - (1 : Int64)) / (8 : Int64)) * (8 : Int64)))))])) _
    refine XS.lcmp X10.here hx rfl (hb hby at_133) rfl ?_
    show Steps p.tables e below (T10.setTop (mkF m 134 #[.val (.int p1), .val (.int p2), .val (.long q3), .second, .val (.int p4), .val (.int p5), .val (.int (0 : Int32)), .val (.int (0 : Int32)), .val (.ref b6), .val (.long (144 : Int64)), .second, .val (.long ((48 : Int64) + (((48 : Int64) + ((((((16 : Int64) + ((8 : Int32).toInt64)) + (8 : Int64)) - (1 : Int64)) / (8 : Int64)) * (8 : Int64))) + ((((((16 : Int64) + ((2 : Int64) * ((3 : Int32).toInt64))) + (8 : Int64)) - (1 : Int64)) / (8 : Int64)) * (8 : Int64))))), .second, .val (.long ((48 : Int64) + (((48 : Int64) + ((((((16 : Int64) + ((8 : Int32).toInt64)) + (8 : Int64)) - (1 : Int64)) / (8 : Int64)) * (8 : Int64))) + ((((((16 : Int64) + ((2 : Int64) * ((3 : Int32).toInt64))) + (8 : Int64)) - (1 : Int64)) / (8 : Int64)) * (8 : Int64))))), .second] [(.int (lcmpW ((48 : Int64) + (((48 : Int64) + ((((((16 : Int64) + ((8 : Int32).toInt64)) + (8 : Int64)) - (1 : Int64)) / (8 : Int64)) * (8 : Int64))) + ((((((16 : Int64) + ((2 : Int64) * ((3 : Int32).toInt64))) + (8 : Int64)) - (1 : Int64)) / (8 : Int64)) * (8 : Int64)))) (144 : Int64)))])) _
    refine XS.ifNo X10.here hx rfl (hb hby at_134) rfl ((if0 _ _).trans (teq (own_144 : (lcmpW ((48 : Int64) + (((48 : Int64) + ((((((16 : Int64) + ((8 : Int32).toInt64)) + (8 : Int64)) - (1 : Int64)) / (8 : Int64)) * (8 : Int64))) + ((((((16 : Int64) + ((2 : Int64) * ((3 : Int32).toInt64))) + (8 : Int64)) - (1 : Int64)) / (8 : Int64)) * (8 : Int64)))) (144 : Int64)) = (0 : Int32))).2) ?_
    show Steps p.tables e below (T10.setTop (mkF m 137 #[.val (.int p1), .val (.int p2), .val (.long q3), .second, .val (.int p4), .val (.int p5), .val (.int (0 : Int32)), .val (.int (0 : Int32)), .val (.ref b6), .val (.long (144 : Int64)), .second, .val (.long ((48 : Int64) + (((48 : Int64) + ((((((16 : Int64) + ((8 : Int32).toInt64)) + (8 : Int64)) - (1 : Int64)) / (8 : Int64)) * (8 : Int64))) + ((((((16 : Int64) + ((2 : Int64) * ((3 : Int32).toInt64))) + (8 : Int64)) - (1 : Int64)) / (8 : Int64)) * (8 : Int64))))), .second, .val (.long ((48 : Int64) + (((48 : Int64) + ((((((16 : Int64) + ((8 : Int32).toInt64)) + (8 : Int64)) - (1 : Int64)) / (8 : Int64)) * (8 : Int64))) + ((((((16 : Int64) + ((2 : Int64) * ((3 : Int32).toInt64))) + (8 : Int64)) - (1 : Int64)) / (8 : Int64)) * (8 : Int64))))), .second] [])) _
    refine XS.lload X10.here hx rfl (hb hby at_137) rfl ?_
    show Steps p.tables e below (T10.setTop (mkF m 139 #[.val (.int p1), .val (.int p2), .val (.long q3), .second, .val (.int p4), .val (.int p5), .val (.int (0 : Int32)), .val (.int (0 : Int32)), .val (.ref b6), .val (.long (144 : Int64)), .second, .val (.long ((48 : Int64) + (((48 : Int64) + ((((((16 : Int64) + ((8 : Int32).toInt64)) + (8 : Int64)) - (1 : Int64)) / (8 : Int64)) * (8 : Int64))) + ((((((16 : Int64) + ((2 : Int64) * ((3 : Int32).toInt64))) + (8 : Int64)) - (1 : Int64)) / (8 : Int64)) * (8 : Int64))))), .second, .val (.long ((48 : Int64) + (((48 : Int64) + ((((((16 : Int64) + ((8 : Int32).toInt64)) + (8 : Int64)) - (1 : Int64)) / (8 : Int64)) * (8 : Int64))) + ((((((16 : Int64) + ((2 : Int64) * ((3 : Int32).toInt64))) + (8 : Int64)) - (1 : Int64)) / (8 : Int64)) * (8 : Int64))))), .second] [(.long ((48 : Int64) + (((48 : Int64) + ((((((16 : Int64) + ((8 : Int32).toInt64)) + (8 : Int64)) - (1 : Int64)) / (8 : Int64)) * (8 : Int64))) + ((((((16 : Int64) + ((2 : Int64) * ((3 : Int32).toInt64))) + (8 : Int64)) - (1 : Int64)) / (8 : Int64)) * (8 : Int64)))))])) _
    refine XS.lload X10.here hx rfl (hb hby at_139) rfl ?_
    show Steps p.tables e below (T10.setTop (mkF m 141 #[.val (.int p1), .val (.int p2), .val (.long q3), .second, .val (.int p4), .val (.int p5), .val (.int (0 : Int32)), .val (.int (0 : Int32)), .val (.ref b6), .val (.long (144 : Int64)), .second, .val (.long ((48 : Int64) + (((48 : Int64) + ((((((16 : Int64) + ((8 : Int32).toInt64)) + (8 : Int64)) - (1 : Int64)) / (8 : Int64)) * (8 : Int64))) + ((((((16 : Int64) + ((2 : Int64) * ((3 : Int32).toInt64))) + (8 : Int64)) - (1 : Int64)) / (8 : Int64)) * (8 : Int64))))), .second, .val (.long ((48 : Int64) + (((48 : Int64) + ((((((16 : Int64) + ((8 : Int32).toInt64)) + (8 : Int64)) - (1 : Int64)) / (8 : Int64)) * (8 : Int64))) + ((((((16 : Int64) + ((2 : Int64) * ((3 : Int32).toInt64))) + (8 : Int64)) - (1 : Int64)) / (8 : Int64)) * (8 : Int64))))), .second] [(.long ((48 : Int64) + (((48 : Int64) + ((((((16 : Int64) + ((8 : Int32).toInt64)) + (8 : Int64)) - (1 : Int64)) / (8 : Int64)) * (8 : Int64))) + ((((((16 : Int64) + ((2 : Int64) * ((3 : Int32).toInt64))) + (8 : Int64)) - (1 : Int64)) / (8 : Int64)) * (8 : Int64))))), (.long ((48 : Int64) + (((48 : Int64) + ((((((16 : Int64) + ((8 : Int32).toInt64)) + (8 : Int64)) - (1 : Int64)) / (8 : Int64)) * (8 : Int64))) + ((((((16 : Int64) + ((2 : Int64) * ((3 : Int32).toInt64))) + (8 : Int64)) - (1 : Int64)) / (8 : Int64)) * (8 : Int64)))))])) _
    refine XS.lcmp X10.here hx rfl (hb hby at_141) rfl ?_
    show Steps p.tables e below (T10.setTop (mkF m 142 #[.val (.int p1), .val (.int p2), .val (.long q3), .second, .val (.int p4), .val (.int p5), .val (.int (0 : Int32)), .val (.int (0 : Int32)), .val (.ref b6), .val (.long (144 : Int64)), .second, .val (.long ((48 : Int64) + (((48 : Int64) + ((((((16 : Int64) + ((8 : Int32).toInt64)) + (8 : Int64)) - (1 : Int64)) / (8 : Int64)) * (8 : Int64))) + ((((((16 : Int64) + ((2 : Int64) * ((3 : Int32).toInt64))) + (8 : Int64)) - (1 : Int64)) / (8 : Int64)) * (8 : Int64))))), .second, .val (.long ((48 : Int64) + (((48 : Int64) + ((((((16 : Int64) + ((8 : Int32).toInt64)) + (8 : Int64)) - (1 : Int64)) / (8 : Int64)) * (8 : Int64))) + ((((((16 : Int64) + ((2 : Int64) * ((3 : Int32).toInt64))) + (8 : Int64)) - (1 : Int64)) / (8 : Int64)) * (8 : Int64))))), .second] [(.int (lcmpW ((48 : Int64) + (((48 : Int64) + ((((((16 : Int64) + ((8 : Int32).toInt64)) + (8 : Int64)) - (1 : Int64)) / (8 : Int64)) * (8 : Int64))) + ((((((16 : Int64) + ((2 : Int64) * ((3 : Int32).toInt64))) + (8 : Int64)) - (1 : Int64)) / (8 : Int64)) * (8 : Int64)))) ((48 : Int64) + (((48 : Int64) + ((((((16 : Int64) + ((8 : Int32).toInt64)) + (8 : Int64)) - (1 : Int64)) / (8 : Int64)) * (8 : Int64))) + ((((((16 : Int64) + ((2 : Int64) * ((3 : Int32).toInt64))) + (8 : Int64)) - (1 : Int64)) / (8 : Int64)) * (8 : Int64))))))])) _
    refine XS.ifNo X10.here hx rfl (hb hby at_142) rfl ((if0 _ _).trans (teq (own_lc _ : (lcmpW ((48 : Int64) + (((48 : Int64) + ((((((16 : Int64) + ((8 : Int32).toInt64)) + (8 : Int64)) - (1 : Int64)) / (8 : Int64)) * (8 : Int64))) + ((((((16 : Int64) + ((2 : Int64) * ((3 : Int32).toInt64))) + (8 : Int64)) - (1 : Int64)) / (8 : Int64)) * (8 : Int64)))) ((48 : Int64) + (((48 : Int64) + ((((((16 : Int64) + ((8 : Int32).toInt64)) + (8 : Int64)) - (1 : Int64)) / (8 : Int64)) * (8 : Int64))) + ((((((16 : Int64) + ((2 : Int64) * ((3 : Int32).toInt64))) + (8 : Int64)) - (1 : Int64)) / (8 : Int64)) * (8 : Int64))))) = (0 : Int32))).2) ?_
    show Steps p.tables e below (T10.setTop (mkF m 145 #[.val (.int p1), .val (.int p2), .val (.long q3), .second, .val (.int p4), .val (.int p5), .val (.int (0 : Int32)), .val (.int (0 : Int32)), .val (.ref b6), .val (.long (144 : Int64)), .second, .val (.long ((48 : Int64) + (((48 : Int64) + ((((((16 : Int64) + ((8 : Int32).toInt64)) + (8 : Int64)) - (1 : Int64)) / (8 : Int64)) * (8 : Int64))) + ((((((16 : Int64) + ((2 : Int64) * ((3 : Int32).toInt64))) + (8 : Int64)) - (1 : Int64)) / (8 : Int64)) * (8 : Int64))))), .second, .val (.long ((48 : Int64) + (((48 : Int64) + ((((((16 : Int64) + ((8 : Int32).toInt64)) + (8 : Int64)) - (1 : Int64)) / (8 : Int64)) * (8 : Int64))) + ((((((16 : Int64) + ((2 : Int64) * ((3 : Int32).toInt64))) + (8 : Int64)) - (1 : Int64)) / (8 : Int64)) * (8 : Int64))))), .second] [])) _
    refine XS.iconst X10.here hx rfl (hb hby at_145) ?_
    show Steps p.tables e below (T10.setTop (mkF m 146 #[.val (.int p1), .val (.int p2), .val (.long q3), .second, .val (.int p4), .val (.int p5), .val (.int (0 : Int32)), .val (.int (0 : Int32)), .val (.ref b6), .val (.long (144 : Int64)), .second, .val (.long ((48 : Int64) + (((48 : Int64) + ((((((16 : Int64) + ((8 : Int32).toInt64)) + (8 : Int64)) - (1 : Int64)) / (8 : Int64)) * (8 : Int64))) + ((((((16 : Int64) + ((2 : Int64) * ((3 : Int32).toInt64))) + (8 : Int64)) - (1 : Int64)) / (8 : Int64)) * (8 : Int64))))), .second, .val (.long ((48 : Int64) + (((48 : Int64) + ((((((16 : Int64) + ((8 : Int32).toInt64)) + (8 : Int64)) - (1 : Int64)) / (8 : Int64)) * (8 : Int64))) + ((((((16 : Int64) + ((2 : Int64) * ((3 : Int32).toInt64))) + (8 : Int64)) - (1 : Int64)) / (8 : Int64)) * (8 : Int64))))), .second] [(.int (1 : Int32))])) _
    refine XS.goto X10.here hx rfl (pc0 := 146) (pc' := 150) rfl (hb hby at_146) (by decide) (by decide) ?_
    show Steps p.tables e below (T10.setTop (mkF m 150 #[.val (.int p1), .val (.int p2), .val (.long q3), .second, .val (.int p4), .val (.int p5), .val (.int (0 : Int32)), .val (.int (0 : Int32)), .val (.ref b6), .val (.long (144 : Int64)), .second, .val (.long ((48 : Int64) + (((48 : Int64) + ((((((16 : Int64) + ((8 : Int32).toInt64)) + (8 : Int64)) - (1 : Int64)) / (8 : Int64)) * (8 : Int64))) + ((((((16 : Int64) + ((2 : Int64) * ((3 : Int32).toInt64))) + (8 : Int64)) - (1 : Int64)) / (8 : Int64)) * (8 : Int64))))), .second, .val (.long ((48 : Int64) + (((48 : Int64) + ((((((16 : Int64) + ((8 : Int32).toInt64)) + (8 : Int64)) - (1 : Int64)) / (8 : Int64)) * (8 : Int64))) + ((((((16 : Int64) + ((2 : Int64) * ((3 : Int32).toInt64))) + (8 : Int64)) - (1 : Int64)) / (8 : Int64)) * (8 : Int64))))), .second] [(.int (1 : Int32))])) _
    exact retN X10 hx (t := .boolean) Bd.returns (by simp) (hb hby at_150) hr
  · show Q0 Z p1 p2 q3 p4 p5 h0 n0 _ T10.heap _
    exact ⟨rfl, N10⟩
theorem pd_0_2 : parseMethodDescriptor "()V" = some ⟨[], none⟩ := by decide +kernel

set_option maxRecDepth 65536 in
set_option maxHeartbeats 40000000 in
theorem rm0_tftfff (l : Launch) (Z : State) (a0 : Array Value) (hw : ∀ d ∈ tables_1, d.before a0 Z = true) (ws : List Jvm.Cond) (p1 : Int32) (p2 : Int32) (q3 : Int64) (p4 : Int32) (p5 : Int32) (h0 : Heap) (n0 : Nat) (Z0 : n0 ≤ h0.size) (hc3 : (p1 &&& (1 : Int32)) = (0 : Int32)) (hc16 : ¬ ((p1 &&& (2 : Int32)) = (0 : Int32))) (hc76 : ¬ ((1 : Int32) = (0 : Int32))) :
    MetFree l x (head1 (Jvm.Cond.code x code maxLocals ret :: ws) room_1) (fun a U => a = #[(.int p1), (.int p2), (.long q3), (.int p4), (.int p5)] ∧ Z.Warmed39 U.vm ∧ U.heap = h0) (fun _ _ _ _ _ => True) (fun _ U o U' => ∃ v L, o = .returned v ∧ Q0 Z p1 p2 q3 p4 p5 h0 n0 v U'.heap L ∧ FrameEnd U o U' L room_1.cells room_1.slots) := by
  refine MetFree.of_bodySF (plainFor_of_name pn_0) hisR ?_
  intro p e s m args below meth c s₁ Bd hml0 hP hK
  obtain ⟨rfl, hZ, hh⟩ := hP
  have hx := Bd.exec
  have hby := Bd.bytes
  have hml : c.maxLocals = 15 := hml0
  have hown : s.vm.findClass "com/example/hakari/hakari/CounterHeapBytesPinLaw" = some m.cls := findClass_of_methodNamed Bd.named
  have hnm := (name_of_methodNamed Bd.named Bd.method).1
  have X0 : Stand p l e room_1 s m #[(.int p1), (.int p2), (.long q3), (.int p4), (.int p5)] below meth c s₁ [] 0 0 := Stand.of_body Bd
  have e0 : s₁.heap = h0 := by rw [← hh, Bd.state]; rfl
  have N0 := Fr.nil n0
  have pre0 : ∀ t, Steps p.tables e below (s₁.setTop (mkF m 0 #[.val (.int p1), .val (.int p2), .val (.long q3), .second, .val (.int p4), .val (.int p5), .unset, .unset, .unset, .unset, .unset, .unset, .unset, .unset, .unset] [])) t → Steps p.tables e below (s₁.setTop (entryFrame m #[(.int p1), (.int p2), (.long q3), (.int p4), (.int p5)] maxLocals)) t := fun t k => castTop (ef_0 m p1 p2 q3 p4 p5) k
  obtain ⟨T6, h6, X6, e6, E6, A6, D6, -, st6⟩ := newO X0 hx hZ hown (hw _ (List.mem_of_getElem? (i := 0) rfl)) (hw _ (List.mem_of_getElem? (i := 1) rfl)) (hw _ (List.mem_of_getElem? (i := 2) rfl)) e0 (g := (mkF m 79 #[.val (.int p1), .val (.int p2), .val (.long q3), .second, .val (.int p4), .val (.int p5), .val (.int (0 : Int32)), .val (.int (1 : Int32)), .unset, .unset, .unset, .unset, .unset, .unset, .unset] [])) rfl (hb hby at_79) (by decide) (by decide)
  obtain ⟨b6, g6⟩ : ∃ z, z = h0.size := ⟨_, rfl⟩
  rw [← g6] at A6 D6 st6
  have F_sparse_b6 : Fld Z h6 b6 "com/example/hakari/hakari/Counter" "sparse" "Lcom/example/hakari/hakari/SparseRegisters;" .null := D6 (Or.inl (hw _ (List.mem_of_getElem? (i := 65) rfl))) (ty := (.object "com/example/hakari/hakari/SparseRegisters")) (by decide)
  have F_unused_b6 : Fld Z h6 b6 "com/example/hakari/hakari/Counter" "unused" "I" (.int (0 : Int32)) := D6 (Or.inr (hw _ (List.mem_of_getElem? (i := 67) rfl))) (ty := .int) (by decide)
  have F_cachedCount_b6 : Fld Z h6 b6 "com/example/hakari/hakari/Counter" "cachedCount" "J" (.long (0 : Int64)) := D6 (Or.inl (hw _ (List.mem_of_getElem? (i := 69) rfl))) (ty := .long) (by decide)
  have F_dense_b6 : Fld Z h6 b6 "com/example/hakari/hakari/Counter" "dense" "[B" .null := D6 (Or.inl (hw _ (List.mem_of_getElem? (i := 78) rfl))) (ty := (.array .byte)) (by decide)
  have E_b6 := A6
  have g_b6 : n0 ≤ b6 := Nat.le_trans Z0 (Nat.le_of_eq g6.symm)
  have sz_b6 : h0.size ≤ b6 := (Nat.le_trans (Keep.refl h0 []).1 (Nat.le_of_eq g6.symm))
  have K6 : Keep h0 h6 [] := (Keep.refl h0 []).ext E6
  obtain ⟨_, _, ⟨T7, L7, k7, n7⟩, -, X7, ⟨Lc7, hQ7, l7, y7, z7⟩, st7⟩ := X6.specialBack hx (y := (⟨"com/example/hakari/hakari/Counter", "<init>", "()V"⟩ : MethodName)) rfl hown (mvT hZ (hw _ (List.mem_of_getElem? (i := 103) rfl))) (mvT hZ (hw _ (List.mem_of_getElem? (i := 104) rfl))) (mvT hZ (hw _ (List.mem_of_getElem? (i := 105) rfl))) (by decide) (backOf (W := 1) (rm16 l Z a0 hw [] b6 _ _ _ h6 n0 (Nat.le_trans Z0 K6.1) E_b6 F_sparse_b6 g_b6 F_unused_b6 F_cachedCount_b6 F_dense_b6) hZ (hw _ (List.mem_of_getElem? (i := 105) rfl)) (hw _ (List.mem_of_getElem? (i := 2) rfl)) (by decide) (by decide)) (g := (mkF m 83 #[.val (.int p1), .val (.int p2), .val (.long q3), .second, .val (.int p4), .val (.int p5), .val (.int (0 : Int32)), .val (.int (1 : Int32)), .unset, .unset, .unset, .unset, .unset, .unset, .unset] [(.ref b6), (.ref b6)])) rfl (by rw [hml]; rfl) (Steps.refl _) (a := b6) (argsL := []) (rest := [(.ref b6)]) (lenOf pd_0_2 rfl) rfl (by show 2 * 0 + _ ≤ _; exact Nat.le_of_eq rfl) (hb hby at_83) (fun _ _ => ⟨rfl, e6, (by decide : 1 + 4 ≤ _), (by decide : 4 + 20 ≤ _)⟩)
  dsimp only [Pt.U, Pt.locs, Pt.cells, Pt.slots] at X7 l7 y7 z7 st7 hQ7
  subst l7 y7 z7
  obtain ⟨rfl, N7q, K7q, x7, Fd7, bs, Fs7, S7⟩ := hQ7
  have z7 : n0 ≤ T7.heap.size := Nat.le_trans (Nat.le_trans Z0 K6.1) K7q.1
  have N7 := Fr.app N0 N7q
  obtain ⟨cq8, kq8, q8a, q8b, q8c⟩ := isOf hZ rfl x7
  obtain ⟨_, _, ⟨T8, L8, k8, n8⟩, -, X8, ⟨Lc8, hQ8, l8, y8, z8⟩, st8⟩ := X7.virtualBack hx (y := (⟨"com/example/hakari/hakari/Counter", "heapBytes", "()J"⟩ : MethodName)) (z := (⟨"com/example/hakari/hakari/Counter", "heapBytes", "()J"⟩ : MethodName)) hown (mvT hZ (hw _ (List.mem_of_getElem? (i := 71) rfl))) (mvT hZ (hw _ (List.mem_of_getElem? (i := 72) rfl))) (notFace_of_selects (args := #[]) (mvT hZ (hw _ (List.mem_of_getElem? (i := 74) rfl)))) (mvT hZ (hw _ (List.mem_of_getElem? (i := 74) rfl))) (mvT hZ (hw _ (List.mem_of_getElem? (i := 73) rfl))) (by decide) (backOf (W := 0) (rm10n l Z a0 hw [] b6 bs T7.heap n0 z7 Fd7 Fs7 S7) hZ (hw _ (List.mem_of_getElem? (i := 75) rfl)) (hw _ (List.mem_of_getElem? (i := 2) rfl)) (by decide) (by decide)) q8a q8c (g := (mkF m 117 #[.val (.int p1), .val (.int p2), .val (.long q3), .second, .val (.int p4), .val (.int p5), .val (.int (0 : Int32)), .val (.int (1 : Int32)), .val (.ref b6), .val (.long (144 : Int64)), .second, .unset, .unset, .unset, .unset] [(.ref b6)])) rfl (by rw [hml]; rfl) (Steps.refl _) (argsL := []) (rest := []) (lenOf pd_0_9 rfl) rfl (by show 2 * 0 + _ ≤ _; exact Nat.le_of_eq rfl) (hb hby at_117) (fun _ _ => ⟨rfl, rfl, (by decide : 1 + 4 ≤ _), (by decide : 4 + 20 ≤ _)⟩)
  dsimp only [Pt.U, Pt.locs, Pt.cells, Pt.slots] at X8 l8 y8 z8 st8 hQ8
  subst l8 y8 z8
  obtain ⟨rfl, N8q, w8⟩ := hQ8
  have z8 : n0 ≤ T8.heap.size := by rw [w8]; exact z7
  have x8 : Exa Z T8.heap b6 "com/example/hakari/hakari/Counter" := by rw [w8]; exact x7
  have Fd8 : Fld Z T8.heap b6 "com/example/hakari/hakari/Counter" "dense" "[B" .null := by rw [w8]; exact Fd7
  have Fs8 : Fld Z T8.heap b6 "com/example/hakari/hakari/Counter" "sparse" "Lcom/example/hakari/hakari/SparseRegisters;" (.ref bs) := by rw [w8]; exact Fs7
  have S8 : own_SR Z T8.heap bs := by rw [w8]; exact S7
  have N8 := Fr.app N7 N8q
  obtain ⟨cq9, kq9, q9a, q9b, q9c⟩ := isOf hZ rfl x8
  obtain ⟨_, _, ⟨T9, L9, k9, n9⟩, -, X9, ⟨Lc9, hQ9, l9, y9, z9⟩, st9⟩ := X8.virtualBack hx (y := (⟨"com/example/hakari/hakari/Counter", "heapBytes", "()J"⟩ : MethodName)) (z := (⟨"com/example/hakari/hakari/Counter", "heapBytes", "()J"⟩ : MethodName)) hown (mvT hZ (hw _ (List.mem_of_getElem? (i := 71) rfl))) (mvT hZ (hw _ (List.mem_of_getElem? (i := 72) rfl))) (notFace_of_selects (args := #[]) (mvT hZ (hw _ (List.mem_of_getElem? (i := 74) rfl)))) (mvT hZ (hw _ (List.mem_of_getElem? (i := 74) rfl))) (mvT hZ (hw _ (List.mem_of_getElem? (i := 73) rfl))) (by decide) (backOf (W := 0) (rm10n l Z a0 hw [] b6 bs T8.heap n0 z8 Fd8 Fs8 S8) hZ (hw _ (List.mem_of_getElem? (i := 75) rfl)) (hw _ (List.mem_of_getElem? (i := 2) rfl)) (by decide) (by decide)) q9a q9c (g := (mkF m 124 #[.val (.int p1), .val (.int p2), .val (.long q3), .second, .val (.int p4), .val (.int p5), .val (.int (0 : Int32)), .val (.int (1 : Int32)), .val (.ref b6), .val (.long (144 : Int64)), .second, .val (.long ((48 : Int64) + (((48 : Int64) + ((((((16 : Int64) + ((8 : Int32).toInt64)) + (8 : Int64)) - (1 : Int64)) / (8 : Int64)) * (8 : Int64))) + ((((((16 : Int64) + ((2 : Int64) * ((3 : Int32).toInt64))) + (8 : Int64)) - (1 : Int64)) / (8 : Int64)) * (8 : Int64))))), .second, .unset, .unset] [(.ref b6)])) rfl (by rw [hml]; rfl) (Steps.refl _) (argsL := []) (rest := []) (lenOf pd_0_9 rfl) rfl (by show 2 * 0 + _ ≤ _; exact Nat.le_of_eq rfl) (hb hby at_124) (fun _ _ => ⟨rfl, rfl, (by decide : 1 + 4 ≤ _), (by decide : 4 + 20 ≤ _)⟩)
  dsimp only [Pt.U, Pt.locs, Pt.cells, Pt.slots] at X9 l9 y9 z9 st9 hQ9
  subst l9 y9 z9
  obtain ⟨rfl, N9q, w9⟩ := hQ9
  have z9 : n0 ≤ T9.heap.size := by rw [w9]; exact z8
  have x9 : Exa Z T9.heap b6 "com/example/hakari/hakari/Counter" := by rw [w9]; exact x8
  have Fd9 : Fld Z T9.heap b6 "com/example/hakari/hakari/Counter" "dense" "[B" .null := by rw [w9]; exact Fd8
  have Fs9 : Fld Z T9.heap b6 "com/example/hakari/hakari/Counter" "sparse" "Lcom/example/hakari/hakari/SparseRegisters;" (.ref bs) := by rw [w9]; exact Fs8
  have S9 : own_SR Z T9.heap bs := by rw [w9]; exact S8
  have N9 := Fr.app N8 N9q
  obtain ⟨fs, hr, hrun, hended, hW, hsame⟩ := X9.leave (v := some (.int (1 : Int32))) (fun h => by rw [Bd.returns] at h; cases h)
  refine ⟨_, _, pre0 _ ?_, hrun, hended, _, _, rfl, ?_, ⟨_, rfl⟩, hW, hsame.mono (by decide) (by decide)⟩
  · show Steps p.tables e below (s₁.setTop (mkF m 0 #[.val (.int p1), .val (.int p2), .val (.long q3), .second, .val (.int p4), .val (.int p5), .unset, .unset, .unset, .unset, .unset, .unset, .unset, .unset, .unset] [])) _
    refine XS.iloadN X0.here hx rfl (hb hby at_0) rfl ?_
    show Steps p.tables e below (s₁.setTop (mkF m 1 #[.val (.int p1), .val (.int p2), .val (.long q3), .second, .val (.int p4), .val (.int p5), .unset, .unset, .unset, .unset, .unset, .unset, .unset, .unset, .unset] [(.int p1)])) _
    refine XS.iconst X0.here hx rfl (hb hby at_1) ?_
    show Steps p.tables e below (s₁.setTop (mkF m 2 #[.val (.int p1), .val (.int p2), .val (.long q3), .second, .val (.int p4), .val (.int p5), .unset, .unset, .unset, .unset, .unset, .unset, .unset, .unset, .unset] [(.int (1 : Int32)), (.int p1)])) _
    refine XS.iand X0.here hx rfl (hb hby at_2) rfl ?_
    show Steps p.tables e below (s₁.setTop (mkF m 3 #[.val (.int p1), .val (.int p2), .val (.long q3), .second, .val (.int p4), .val (.int p5), .unset, .unset, .unset, .unset, .unset, .unset, .unset, .unset, .unset] [(.int (p1 &&& (1 : Int32)))])) _
    refine XS.ifYes X0.here hx rfl (pc0 := 3) (pc' := 10) rfl (hb hby at_3) rfl ((if0 _ _).trans (teq hc3).1) (by decide) (by decide) ?_
    show Steps p.tables e below (s₁.setTop (mkF m 10 #[.val (.int p1), .val (.int p2), .val (.long q3), .second, .val (.int p4), .val (.int p5), .unset, .unset, .unset, .unset, .unset, .unset, .unset, .unset, .unset] [])) _
    refine XS.iconst X0.here hx rfl (hb hby at_10) ?_
    show Steps p.tables e below (s₁.setTop (mkF m 11 #[.val (.int p1), .val (.int p2), .val (.long q3), .second, .val (.int p4), .val (.int p5), .unset, .unset, .unset, .unset, .unset, .unset, .unset, .unset, .unset] [(.int (0 : Int32))])) _
    refine XS.istore X0.here hx rfl (hb hby at_11) rfl (l' := #[.val (.int p1), .val (.int p2), .val (.long q3), .second, .val (.int p4), .val (.int p5), .val (.int (0 : Int32)), .unset, .unset, .unset, .unset, .unset, .unset, .unset, .unset]) rfl ?_
    show Steps p.tables e below (s₁.setTop (mkF m 13 #[.val (.int p1), .val (.int p2), .val (.long q3), .second, .val (.int p4), .val (.int p5), .val (.int (0 : Int32)), .unset, .unset, .unset, .unset, .unset, .unset, .unset, .unset] [])) _
    refine XS.iloadN X0.here hx rfl (hb hby at_13) rfl ?_
    show Steps p.tables e below (s₁.setTop (mkF m 14 #[.val (.int p1), .val (.int p2), .val (.long q3), .second, .val (.int p4), .val (.int p5), .val (.int (0 : Int32)), .unset, .unset, .unset, .unset, .unset, .unset, .unset, .unset] [(.int p1)])) _
    refine XS.iconst X0.here hx rfl (hb hby at_14) ?_
    show Steps p.tables e below (s₁.setTop (mkF m 15 #[.val (.int p1), .val (.int p2), .val (.long q3), .second, .val (.int p4), .val (.int p5), .val (.int (0 : Int32)), .unset, .unset, .unset, .unset, .unset, .unset, .unset, .unset] [(.int (2 : Int32)), (.int p1)])) _
    refine XS.iand X0.here hx rfl (hb hby at_15) rfl ?_
    show Steps p.tables e below (s₁.setTop (mkF m 16 #[.val (.int p1), .val (.int p2), .val (.long q3), .second, .val (.int p4), .val (.int p5), .val (.int (0 : Int32)), .unset, .unset, .unset, .unset, .unset, .unset, .unset, .unset] [(.int (p1 &&& (2 : Int32)))])) _
    refine XS.ifNo X0.here hx rfl (hb hby at_16) rfl ((if0 _ _).trans (feq hc16).1) ?_
    show Steps p.tables e below (s₁.setTop (mkF m 19 #[.val (.int p1), .val (.int p2), .val (.long q3), .second, .val (.int p4), .val (.int p5), .val (.int (0 : Int32)), .unset, .unset, .unset, .unset, .unset, .unset, .unset, .unset] [])) _
    refine XS.iconst X0.here hx rfl (hb hby at_19) ?_
    show Steps p.tables e below (s₁.setTop (mkF m 20 #[.val (.int p1), .val (.int p2), .val (.long q3), .second, .val (.int p4), .val (.int p5), .val (.int (0 : Int32)), .unset, .unset, .unset, .unset, .unset, .unset, .unset, .unset] [(.int (1 : Int32))])) _
    refine XS.goto X0.here hx rfl (pc0 := 20) (pc' := 24) rfl (hb hby at_20) (by decide) (by decide) ?_
    show Steps p.tables e below (s₁.setTop (mkF m 24 #[.val (.int p1), .val (.int p2), .val (.long q3), .second, .val (.int p4), .val (.int p5), .val (.int (0 : Int32)), .unset, .unset, .unset, .unset, .unset, .unset, .unset, .unset] [(.int (1 : Int32))])) _
    refine XS.istore X0.here hx rfl (hb hby at_24) rfl (l' := #[.val (.int p1), .val (.int p2), .val (.long q3), .second, .val (.int p4), .val (.int p5), .val (.int (0 : Int32)), .val (.int (1 : Int32)), .unset, .unset, .unset, .unset, .unset, .unset, .unset]) rfl ?_
    show Steps p.tables e below (s₁.setTop (mkF m 26 #[.val (.int p1), .val (.int p2), .val (.long q3), .second, .val (.int p4), .val (.int p5), .val (.int (0 : Int32)), .val (.int (1 : Int32)), .unset, .unset, .unset, .unset, .unset, .unset, .unset] [])) _
    refine XS.iload X0.here hx rfl (hb hby at_26) rfl ?_
    show Steps p.tables e below (s₁.setTop (mkF m 28 #[.val (.int p1), .val (.int p2), .val (.long q3), .second, .val (.int p4), .val (.int p5), .val (.int (0 : Int32)), .val (.int (1 : Int32)), .unset, .unset, .unset, .unset, .unset, .unset, .unset] [(.int (0 : Int32))])) _
    refine XS.ifYes X0.here hx rfl (pc0 := 28) (pc' := 74) rfl (hb hby at_28) rfl ((if0 _ _).trans (teq (rfl : (0 : Int32) = (0 : Int32))).1) (by decide) (by decide) ?_
    show Steps p.tables e below (s₁.setTop (mkF m 74 #[.val (.int p1), .val (.int p2), .val (.long q3), .second, .val (.int p4), .val (.int p5), .val (.int (0 : Int32)), .val (.int (1 : Int32)), .unset, .unset, .unset, .unset, .unset, .unset, .unset] [])) _
    refine XS.iload X0.here hx rfl (hb hby at_74) rfl ?_
    show Steps p.tables e below (s₁.setTop (mkF m 76 #[.val (.int p1), .val (.int p2), .val (.long q3), .second, .val (.int p4), .val (.int p5), .val (.int (0 : Int32)), .val (.int (1 : Int32)), .unset, .unset, .unset, .unset, .unset, .unset, .unset] [(.int (1 : Int32))])) _
    refine XS.ifNo X0.here hx rfl (hb hby at_76) rfl ((if0 _ _).trans (feq hc76).1) ?_
    show Steps p.tables e below (s₁.setTop (mkF m 79 #[.val (.int p1), .val (.int p2), .val (.long q3), .second, .val (.int p4), .val (.int p5), .val (.int (0 : Int32)), .val (.int (1 : Int32)), .unset, .unset, .unset, .unset, .unset, .unset, .unset] [])) _
    refine st6 _ ?_
    show Steps p.tables e below (T6.setTop (mkF m 82 #[.val (.int p1), .val (.int p2), .val (.long q3), .second, .val (.int p4), .val (.int p5), .val (.int (0 : Int32)), .val (.int (1 : Int32)), .unset, .unset, .unset, .unset, .unset, .unset, .unset] [(.ref b6)])) _
    refine XS.dup X6.here hx rfl (hb hby at_82) rfl rfl ?_
    show Steps p.tables e below (T6.setTop (mkF m 83 #[.val (.int p1), .val (.int p2), .val (.long q3), .second, .val (.int p4), .val (.int p5), .val (.int (0 : Int32)), .val (.int (1 : Int32)), .unset, .unset, .unset, .unset, .unset, .unset, .unset] [(.ref b6), (.ref b6)])) _
    refine st7.trans ?_
    show Steps p.tables e below (T7.setTop (mkF m 86 #[.val (.int p1), .val (.int p2), .val (.long q3), .second, .val (.int p4), .val (.int p5), .val (.int (0 : Int32)), .val (.int (1 : Int32)), .unset, .unset, .unset, .unset, .unset, .unset, .unset] [(.ref b6)])) _
    refine XS.astore X7.here hx rfl (hb hby at_86) rfl rfl (l' := #[.val (.int p1), .val (.int p2), .val (.long q3), .second, .val (.int p4), .val (.int p5), .val (.int (0 : Int32)), .val (.int (1 : Int32)), .val (.ref b6), .unset, .unset, .unset, .unset, .unset, .unset]) rfl ?_
    show Steps p.tables e below (T7.setTop (mkF m 88 #[.val (.int p1), .val (.int p2), .val (.long q3), .second, .val (.int p4), .val (.int p5), .val (.int (0 : Int32)), .val (.int (1 : Int32)), .val (.ref b6), .unset, .unset, .unset, .unset, .unset, .unset] [])) _
    refine X7.ldc2Long hx hown (mvT hZ (hw _ (List.mem_of_getElem? (i := 70) rfl))) (g := (mkF m 88 #[.val (.int p1), .val (.int p2), .val (.long q3), .second, .val (.int p4), .val (.int p5), .val (.int (0 : Int32)), .val (.int (1 : Int32)), .val (.ref b6), .unset, .unset, .unset, .unset, .unset, .unset] [])) rfl (hb hby at_88) _ ?_
    show Steps p.tables e below (T7.setTop (mkF m 91 #[.val (.int p1), .val (.int p2), .val (.long q3), .second, .val (.int p4), .val (.int p5), .val (.int (0 : Int32)), .val (.int (1 : Int32)), .val (.ref b6), .unset, .unset, .unset, .unset, .unset, .unset] [(.long (144 : Int64))])) _
    refine XS.lstore X7.here hx rfl (hb hby at_91) rfl (l' := #[.val (.int p1), .val (.int p2), .val (.long q3), .second, .val (.int p4), .val (.int p5), .val (.int (0 : Int32)), .val (.int (1 : Int32)), .val (.ref b6), .val (.long (144 : Int64)), .second, .unset, .unset, .unset, .unset]) rfl ?_
    show Steps p.tables e below (T7.setTop (mkF m 93 #[.val (.int p1), .val (.int p2), .val (.long q3), .second, .val (.int p4), .val (.int p5), .val (.int (0 : Int32)), .val (.int (1 : Int32)), .val (.ref b6), .val (.long (144 : Int64)), .second, .unset, .unset, .unset, .unset] [])) _
    refine XS.goto X7.here hx rfl (pc0 := 93) (pc' := 115) rfl (hb hby at_93) (by decide) (by decide) ?_
    show Steps p.tables e below (T7.setTop (mkF m 115 #[.val (.int p1), .val (.int p2), .val (.long q3), .second, .val (.int p4), .val (.int p5), .val (.int (0 : Int32)), .val (.int (1 : Int32)), .val (.ref b6), .val (.long (144 : Int64)), .second, .unset, .unset, .unset, .unset] [])) _
    refine XS.aload X7.here hx rfl (hb hby at_115) rfl rfl ?_
    show Steps p.tables e below (T7.setTop (mkF m 117 #[.val (.int p1), .val (.int p2), .val (.long q3), .second, .val (.int p4), .val (.int p5), .val (.int (0 : Int32)), .val (.int (1 : Int32)), .val (.ref b6), .val (.long (144 : Int64)), .second, .unset, .unset, .unset, .unset] [(.ref b6)])) _
    refine st8.trans ?_
    show Steps p.tables e below (T8.setTop (mkF m 120 #[.val (.int p1), .val (.int p2), .val (.long q3), .second, .val (.int p4), .val (.int p5), .val (.int (0 : Int32)), .val (.int (1 : Int32)), .val (.ref b6), .val (.long (144 : Int64)), .second, .unset, .unset, .unset, .unset] [(.long ((48 : Int64) + (((48 : Int64) + ((((((16 : Int64) + ((8 : Int32).toInt64)) + (8 : Int64)) - (1 : Int64)) / (8 : Int64)) * (8 : Int64))) + ((((((16 : Int64) + ((2 : Int64) * ((3 : Int32).toInt64))) + (8 : Int64)) - (1 : Int64)) / (8 : Int64)) * (8 : Int64)))))])) _
    refine XS.lstore X8.here hx rfl (hb hby at_120) rfl (l' := #[.val (.int p1), .val (.int p2), .val (.long q3), .second, .val (.int p4), .val (.int p5), .val (.int (0 : Int32)), .val (.int (1 : Int32)), .val (.ref b6), .val (.long (144 : Int64)), .second, .val (.long ((48 : Int64) + (((48 : Int64) + ((((((16 : Int64) + ((8 : Int32).toInt64)) + (8 : Int64)) - (1 : Int64)) / (8 : Int64)) * (8 : Int64))) + ((((((16 : Int64) + ((2 : Int64) * ((3 : Int32).toInt64))) + (8 : Int64)) - (1 : Int64)) / (8 : Int64)) * (8 : Int64))))), .second, .unset, .unset]) rfl ?_
    show Steps p.tables e below (T8.setTop (mkF m 122 #[.val (.int p1), .val (.int p2), .val (.long q3), .second, .val (.int p4), .val (.int p5), .val (.int (0 : Int32)), .val (.int (1 : Int32)), .val (.ref b6), .val (.long (144 : Int64)), .second, .val (.long ((48 : Int64) + (((48 : Int64) + ((((((16 : Int64) + ((8 : Int32).toInt64)) + (8 : Int64)) - (1 : Int64)) / (8 : Int64)) * (8 : Int64))) + ((((((16 : Int64) + ((2 : Int64) * ((3 : Int32).toInt64))) + (8 : Int64)) - (1 : Int64)) / (8 : Int64)) * (8 : Int64))))), .second, .unset, .unset] [])) _
    refine XS.aload X8.here hx rfl (hb hby at_122) rfl rfl ?_
    show Steps p.tables e below (T8.setTop (mkF m 124 #[.val (.int p1), .val (.int p2), .val (.long q3), .second, .val (.int p4), .val (.int p5), .val (.int (0 : Int32)), .val (.int (1 : Int32)), .val (.ref b6), .val (.long (144 : Int64)), .second, .val (.long ((48 : Int64) + (((48 : Int64) + ((((((16 : Int64) + ((8 : Int32).toInt64)) + (8 : Int64)) - (1 : Int64)) / (8 : Int64)) * (8 : Int64))) + ((((((16 : Int64) + ((2 : Int64) * ((3 : Int32).toInt64))) + (8 : Int64)) - (1 : Int64)) / (8 : Int64)) * (8 : Int64))))), .second, .unset, .unset] [(.ref b6)])) _
    refine st9.trans ?_
    show Steps p.tables e below (T9.setTop (mkF m 127 #[.val (.int p1), .val (.int p2), .val (.long q3), .second, .val (.int p4), .val (.int p5), .val (.int (0 : Int32)), .val (.int (1 : Int32)), .val (.ref b6), .val (.long (144 : Int64)), .second, .val (.long ((48 : Int64) + (((48 : Int64) + ((((((16 : Int64) + ((8 : Int32).toInt64)) + (8 : Int64)) - (1 : Int64)) / (8 : Int64)) * (8 : Int64))) + ((((((16 : Int64) + ((2 : Int64) * ((3 : Int32).toInt64))) + (8 : Int64)) - (1 : Int64)) / (8 : Int64)) * (8 : Int64))))), .second, .unset, .unset] [(.long ((48 : Int64) + (((48 : Int64) + ((((((16 : Int64) + ((8 : Int32).toInt64)) + (8 : Int64)) - (1 : Int64)) / (8 : Int64)) * (8 : Int64))) + ((((((16 : Int64) + ((2 : Int64) * ((3 : Int32).toInt64))) + (8 : Int64)) - (1 : Int64)) / (8 : Int64)) * (8 : Int64)))))])) _
    refine XS.lstore X9.here hx rfl (hb hby at_127) rfl (l' := #[.val (.int p1), .val (.int p2), .val (.long q3), .second, .val (.int p4), .val (.int p5), .val (.int (0 : Int32)), .val (.int (1 : Int32)), .val (.ref b6), .val (.long (144 : Int64)), .second, .val (.long ((48 : Int64) + (((48 : Int64) + ((((((16 : Int64) + ((8 : Int32).toInt64)) + (8 : Int64)) - (1 : Int64)) / (8 : Int64)) * (8 : Int64))) + ((((((16 : Int64) + ((2 : Int64) * ((3 : Int32).toInt64))) + (8 : Int64)) - (1 : Int64)) / (8 : Int64)) * (8 : Int64))))), .second, .val (.long ((48 : Int64) + (((48 : Int64) + ((((((16 : Int64) + ((8 : Int32).toInt64)) + (8 : Int64)) - (1 : Int64)) / (8 : Int64)) * (8 : Int64))) + ((((((16 : Int64) + ((2 : Int64) * ((3 : Int32).toInt64))) + (8 : Int64)) - (1 : Int64)) / (8 : Int64)) * (8 : Int64))))), .second]) rfl ?_
    show Steps p.tables e below (T9.setTop (mkF m 129 #[.val (.int p1), .val (.int p2), .val (.long q3), .second, .val (.int p4), .val (.int p5), .val (.int (0 : Int32)), .val (.int (1 : Int32)), .val (.ref b6), .val (.long (144 : Int64)), .second, .val (.long ((48 : Int64) + (((48 : Int64) + ((((((16 : Int64) + ((8 : Int32).toInt64)) + (8 : Int64)) - (1 : Int64)) / (8 : Int64)) * (8 : Int64))) + ((((((16 : Int64) + ((2 : Int64) * ((3 : Int32).toInt64))) + (8 : Int64)) - (1 : Int64)) / (8 : Int64)) * (8 : Int64))))), .second, .val (.long ((48 : Int64) + (((48 : Int64) + ((((((16 : Int64) + ((8 : Int32).toInt64)) + (8 : Int64)) - (1 : Int64)) / (8 : Int64)) * (8 : Int64))) + ((((((16 : Int64) + ((2 : Int64) * ((3 : Int32).toInt64))) + (8 : Int64)) - (1 : Int64)) / (8 : Int64)) * (8 : Int64))))), .second] [])) _
    refine XS.lload X9.here hx rfl (hb hby at_129) rfl ?_
    show Steps p.tables e below (T9.setTop (mkF m 131 #[.val (.int p1), .val (.int p2), .val (.long q3), .second, .val (.int p4), .val (.int p5), .val (.int (0 : Int32)), .val (.int (1 : Int32)), .val (.ref b6), .val (.long (144 : Int64)), .second, .val (.long ((48 : Int64) + (((48 : Int64) + ((((((16 : Int64) + ((8 : Int32).toInt64)) + (8 : Int64)) - (1 : Int64)) / (8 : Int64)) * (8 : Int64))) + ((((((16 : Int64) + ((2 : Int64) * ((3 : Int32).toInt64))) + (8 : Int64)) - (1 : Int64)) / (8 : Int64)) * (8 : Int64))))), .second, .val (.long ((48 : Int64) + (((48 : Int64) + ((((((16 : Int64) + ((8 : Int32).toInt64)) + (8 : Int64)) - (1 : Int64)) / (8 : Int64)) * (8 : Int64))) + ((((((16 : Int64) + ((2 : Int64) * ((3 : Int32).toInt64))) + (8 : Int64)) - (1 : Int64)) / (8 : Int64)) * (8 : Int64))))), .second] [(.long ((48 : Int64) + (((48 : Int64) + ((((((16 : Int64) + ((8 : Int32).toInt64)) + (8 : Int64)) - (1 : Int64)) / (8 : Int64)) * (8 : Int64))) + ((((((16 : Int64) + ((2 : Int64) * ((3 : Int32).toInt64))) + (8 : Int64)) - (1 : Int64)) / (8 : Int64)) * (8 : Int64)))))])) _
    refine XS.lload X9.here hx rfl (hb hby at_131) rfl ?_
    show Steps p.tables e below (T9.setTop (mkF m 133 #[.val (.int p1), .val (.int p2), .val (.long q3), .second, .val (.int p4), .val (.int p5), .val (.int (0 : Int32)), .val (.int (1 : Int32)), .val (.ref b6), .val (.long (144 : Int64)), .second, .val (.long ((48 : Int64) + (((48 : Int64) + ((((((16 : Int64) + ((8 : Int32).toInt64)) + (8 : Int64)) - (1 : Int64)) / (8 : Int64)) * (8 : Int64))) + ((((((16 : Int64) + ((2 : Int64) * ((3 : Int32).toInt64))) + (8 : Int64)) - (1 : Int64)) / (8 : Int64)) * (8 : Int64))))), .second, .val (.long ((48 : Int64) + (((48 : Int64) + ((((((16 : Int64) + ((8 : Int32).toInt64)) + (8 : Int64)) - (1 : Int64)) / (8 : Int64)) * (8 : Int64))) + ((((((16 : Int64) + ((2 : Int64) * ((3 : Int32).toInt64))) + (8 : Int64)) - (1 : Int64)) / (8 : Int64)) * (8 : Int64))))), .second] [(.long (144 : Int64)), (.long ((48 : Int64) + (((48 : Int64) + ((((((16 : Int64) + ((8 : Int32).toInt64)) + (8 : Int64)) - (1 : Int64)) / (8 : Int64)) * (8 : Int64))) + ((((((16 : Int64) + ((2 : Int64) * ((3 : Int32).toInt64))) + (8 : Int64)) - (1 : Int64)) / (8 : Int64)) * (8 : Int64)))))])) _
    refine XS.lcmp X9.here hx rfl (hb hby at_133) rfl ?_
    show Steps p.tables e below (T9.setTop (mkF m 134 #[.val (.int p1), .val (.int p2), .val (.long q3), .second, .val (.int p4), .val (.int p5), .val (.int (0 : Int32)), .val (.int (1 : Int32)), .val (.ref b6), .val (.long (144 : Int64)), .second, .val (.long ((48 : Int64) + (((48 : Int64) + ((((((16 : Int64) + ((8 : Int32).toInt64)) + (8 : Int64)) - (1 : Int64)) / (8 : Int64)) * (8 : Int64))) + ((((((16 : Int64) + ((2 : Int64) * ((3 : Int32).toInt64))) + (8 : Int64)) - (1 : Int64)) / (8 : Int64)) * (8 : Int64))))), .second, .val (.long ((48 : Int64) + (((48 : Int64) + ((((((16 : Int64) + ((8 : Int32).toInt64)) + (8 : Int64)) - (1 : Int64)) / (8 : Int64)) * (8 : Int64))) + ((((((16 : Int64) + ((2 : Int64) * ((3 : Int32).toInt64))) + (8 : Int64)) - (1 : Int64)) / (8 : Int64)) * (8 : Int64))))), .second] [(.int (lcmpW ((48 : Int64) + (((48 : Int64) + ((((((16 : Int64) + ((8 : Int32).toInt64)) + (8 : Int64)) - (1 : Int64)) / (8 : Int64)) * (8 : Int64))) + ((((((16 : Int64) + ((2 : Int64) * ((3 : Int32).toInt64))) + (8 : Int64)) - (1 : Int64)) / (8 : Int64)) * (8 : Int64)))) (144 : Int64)))])) _
    refine XS.ifNo X9.here hx rfl (hb hby at_134) rfl ((if0 _ _).trans (teq (own_144 : (lcmpW ((48 : Int64) + (((48 : Int64) + ((((((16 : Int64) + ((8 : Int32).toInt64)) + (8 : Int64)) - (1 : Int64)) / (8 : Int64)) * (8 : Int64))) + ((((((16 : Int64) + ((2 : Int64) * ((3 : Int32).toInt64))) + (8 : Int64)) - (1 : Int64)) / (8 : Int64)) * (8 : Int64)))) (144 : Int64)) = (0 : Int32))).2) ?_
    show Steps p.tables e below (T9.setTop (mkF m 137 #[.val (.int p1), .val (.int p2), .val (.long q3), .second, .val (.int p4), .val (.int p5), .val (.int (0 : Int32)), .val (.int (1 : Int32)), .val (.ref b6), .val (.long (144 : Int64)), .second, .val (.long ((48 : Int64) + (((48 : Int64) + ((((((16 : Int64) + ((8 : Int32).toInt64)) + (8 : Int64)) - (1 : Int64)) / (8 : Int64)) * (8 : Int64))) + ((((((16 : Int64) + ((2 : Int64) * ((3 : Int32).toInt64))) + (8 : Int64)) - (1 : Int64)) / (8 : Int64)) * (8 : Int64))))), .second, .val (.long ((48 : Int64) + (((48 : Int64) + ((((((16 : Int64) + ((8 : Int32).toInt64)) + (8 : Int64)) - (1 : Int64)) / (8 : Int64)) * (8 : Int64))) + ((((((16 : Int64) + ((2 : Int64) * ((3 : Int32).toInt64))) + (8 : Int64)) - (1 : Int64)) / (8 : Int64)) * (8 : Int64))))), .second] [])) _
    refine XS.lload X9.here hx rfl (hb hby at_137) rfl ?_
    show Steps p.tables e below (T9.setTop (mkF m 139 #[.val (.int p1), .val (.int p2), .val (.long q3), .second, .val (.int p4), .val (.int p5), .val (.int (0 : Int32)), .val (.int (1 : Int32)), .val (.ref b6), .val (.long (144 : Int64)), .second, .val (.long ((48 : Int64) + (((48 : Int64) + ((((((16 : Int64) + ((8 : Int32).toInt64)) + (8 : Int64)) - (1 : Int64)) / (8 : Int64)) * (8 : Int64))) + ((((((16 : Int64) + ((2 : Int64) * ((3 : Int32).toInt64))) + (8 : Int64)) - (1 : Int64)) / (8 : Int64)) * (8 : Int64))))), .second, .val (.long ((48 : Int64) + (((48 : Int64) + ((((((16 : Int64) + ((8 : Int32).toInt64)) + (8 : Int64)) - (1 : Int64)) / (8 : Int64)) * (8 : Int64))) + ((((((16 : Int64) + ((2 : Int64) * ((3 : Int32).toInt64))) + (8 : Int64)) - (1 : Int64)) / (8 : Int64)) * (8 : Int64))))), .second] [(.long ((48 : Int64) + (((48 : Int64) + ((((((16 : Int64) + ((8 : Int32).toInt64)) + (8 : Int64)) - (1 : Int64)) / (8 : Int64)) * (8 : Int64))) + ((((((16 : Int64) + ((2 : Int64) * ((3 : Int32).toInt64))) + (8 : Int64)) - (1 : Int64)) / (8 : Int64)) * (8 : Int64)))))])) _
    refine XS.lload X9.here hx rfl (hb hby at_139) rfl ?_
    show Steps p.tables e below (T9.setTop (mkF m 141 #[.val (.int p1), .val (.int p2), .val (.long q3), .second, .val (.int p4), .val (.int p5), .val (.int (0 : Int32)), .val (.int (1 : Int32)), .val (.ref b6), .val (.long (144 : Int64)), .second, .val (.long ((48 : Int64) + (((48 : Int64) + ((((((16 : Int64) + ((8 : Int32).toInt64)) + (8 : Int64)) - (1 : Int64)) / (8 : Int64)) * (8 : Int64))) + ((((((16 : Int64) + ((2 : Int64) * ((3 : Int32).toInt64))) + (8 : Int64)) - (1 : Int64)) / (8 : Int64)) * (8 : Int64))))), .second, .val (.long ((48 : Int64) + (((48 : Int64) + ((((((16 : Int64) + ((8 : Int32).toInt64)) + (8 : Int64)) - (1 : Int64)) / (8 : Int64)) * (8 : Int64))) + ((((((16 : Int64) + ((2 : Int64) * ((3 : Int32).toInt64))) + (8 : Int64)) - (1 : Int64)) / (8 : Int64)) * (8 : Int64))))), .second] [(.long ((48 : Int64) + (((48 : Int64) + ((((((16 : Int64) + ((8 : Int32).toInt64)) + (8 : Int64)) - (1 : Int64)) / (8 : Int64)) * (8 : Int64))) + ((((((16 : Int64) + ((2 : Int64) * ((3 : Int32).toInt64))) + (8 : Int64)) - (1 : Int64)) / (8 : Int64)) * (8 : Int64))))), (.long ((48 : Int64) + (((48 : Int64) + ((((((16 : Int64) + ((8 : Int32).toInt64)) + (8 : Int64)) - (1 : Int64)) / (8 : Int64)) * (8 : Int64))) + ((((((16 : Int64) + ((2 : Int64) * ((3 : Int32).toInt64))) + (8 : Int64)) - (1 : Int64)) / (8 : Int64)) * (8 : Int64)))))])) _
    refine XS.lcmp X9.here hx rfl (hb hby at_141) rfl ?_
    show Steps p.tables e below (T9.setTop (mkF m 142 #[.val (.int p1), .val (.int p2), .val (.long q3), .second, .val (.int p4), .val (.int p5), .val (.int (0 : Int32)), .val (.int (1 : Int32)), .val (.ref b6), .val (.long (144 : Int64)), .second, .val (.long ((48 : Int64) + (((48 : Int64) + ((((((16 : Int64) + ((8 : Int32).toInt64)) + (8 : Int64)) - (1 : Int64)) / (8 : Int64)) * (8 : Int64))) + ((((((16 : Int64) + ((2 : Int64) * ((3 : Int32).toInt64))) + (8 : Int64)) - (1 : Int64)) / (8 : Int64)) * (8 : Int64))))), .second, .val (.long ((48 : Int64) + (((48 : Int64) + ((((((16 : Int64) + ((8 : Int32).toInt64)) + (8 : Int64)) - (1 : Int64)) / (8 : Int64)) * (8 : Int64))) + ((((((16 : Int64) + ((2 : Int64) * ((3 : Int32).toInt64))) + (8 : Int64)) - (1 : Int64)) / (8 : Int64)) * (8 : Int64))))), .second] [(.int (lcmpW ((48 : Int64) + (((48 : Int64) + ((((((16 : Int64) + ((8 : Int32).toInt64)) + (8 : Int64)) - (1 : Int64)) / (8 : Int64)) * (8 : Int64))) + ((((((16 : Int64) + ((2 : Int64) * ((3 : Int32).toInt64))) + (8 : Int64)) - (1 : Int64)) / (8 : Int64)) * (8 : Int64)))) ((48 : Int64) + (((48 : Int64) + ((((((16 : Int64) + ((8 : Int32).toInt64)) + (8 : Int64)) - (1 : Int64)) / (8 : Int64)) * (8 : Int64))) + ((((((16 : Int64) + ((2 : Int64) * ((3 : Int32).toInt64))) + (8 : Int64)) - (1 : Int64)) / (8 : Int64)) * (8 : Int64))))))])) _
    refine XS.ifNo X9.here hx rfl (hb hby at_142) rfl ((if0 _ _).trans (teq (own_lc _ : (lcmpW ((48 : Int64) + (((48 : Int64) + ((((((16 : Int64) + ((8 : Int32).toInt64)) + (8 : Int64)) - (1 : Int64)) / (8 : Int64)) * (8 : Int64))) + ((((((16 : Int64) + ((2 : Int64) * ((3 : Int32).toInt64))) + (8 : Int64)) - (1 : Int64)) / (8 : Int64)) * (8 : Int64)))) ((48 : Int64) + (((48 : Int64) + ((((((16 : Int64) + ((8 : Int32).toInt64)) + (8 : Int64)) - (1 : Int64)) / (8 : Int64)) * (8 : Int64))) + ((((((16 : Int64) + ((2 : Int64) * ((3 : Int32).toInt64))) + (8 : Int64)) - (1 : Int64)) / (8 : Int64)) * (8 : Int64))))) = (0 : Int32))).2) ?_
    show Steps p.tables e below (T9.setTop (mkF m 145 #[.val (.int p1), .val (.int p2), .val (.long q3), .second, .val (.int p4), .val (.int p5), .val (.int (0 : Int32)), .val (.int (1 : Int32)), .val (.ref b6), .val (.long (144 : Int64)), .second, .val (.long ((48 : Int64) + (((48 : Int64) + ((((((16 : Int64) + ((8 : Int32).toInt64)) + (8 : Int64)) - (1 : Int64)) / (8 : Int64)) * (8 : Int64))) + ((((((16 : Int64) + ((2 : Int64) * ((3 : Int32).toInt64))) + (8 : Int64)) - (1 : Int64)) / (8 : Int64)) * (8 : Int64))))), .second, .val (.long ((48 : Int64) + (((48 : Int64) + ((((((16 : Int64) + ((8 : Int32).toInt64)) + (8 : Int64)) - (1 : Int64)) / (8 : Int64)) * (8 : Int64))) + ((((((16 : Int64) + ((2 : Int64) * ((3 : Int32).toInt64))) + (8 : Int64)) - (1 : Int64)) / (8 : Int64)) * (8 : Int64))))), .second] [])) _
    refine XS.iconst X9.here hx rfl (hb hby at_145) ?_
    show Steps p.tables e below (T9.setTop (mkF m 146 #[.val (.int p1), .val (.int p2), .val (.long q3), .second, .val (.int p4), .val (.int p5), .val (.int (0 : Int32)), .val (.int (1 : Int32)), .val (.ref b6), .val (.long (144 : Int64)), .second, .val (.long ((48 : Int64) + (((48 : Int64) + ((((((16 : Int64) + ((8 : Int32).toInt64)) + (8 : Int64)) - (1 : Int64)) / (8 : Int64)) * (8 : Int64))) + ((((((16 : Int64) + ((2 : Int64) * ((3 : Int32).toInt64))) + (8 : Int64)) - (1 : Int64)) / (8 : Int64)) * (8 : Int64))))), .second, .val (.long ((48 : Int64) + (((48 : Int64) + ((((((16 : Int64) + ((8 : Int32).toInt64)) + (8 : Int64)) - (1 : Int64)) / (8 : Int64)) * (8 : Int64))) + ((((((16 : Int64) + ((2 : Int64) * ((3 : Int32).toInt64))) + (8 : Int64)) - (1 : Int64)) / (8 : Int64)) * (8 : Int64))))), .second] [(.int (1 : Int32))])) _
    refine XS.goto X9.here hx rfl (pc0 := 146) (pc' := 150) rfl (hb hby at_146) (by decide) (by decide) ?_
    show Steps p.tables e below (T9.setTop (mkF m 150 #[.val (.int p1), .val (.int p2), .val (.long q3), .second, .val (.int p4), .val (.int p5), .val (.int (0 : Int32)), .val (.int (1 : Int32)), .val (.ref b6), .val (.long (144 : Int64)), .second, .val (.long ((48 : Int64) + (((48 : Int64) + ((((((16 : Int64) + ((8 : Int32).toInt64)) + (8 : Int64)) - (1 : Int64)) / (8 : Int64)) * (8 : Int64))) + ((((((16 : Int64) + ((2 : Int64) * ((3 : Int32).toInt64))) + (8 : Int64)) - (1 : Int64)) / (8 : Int64)) * (8 : Int64))))), .second, .val (.long ((48 : Int64) + (((48 : Int64) + ((((((16 : Int64) + ((8 : Int32).toInt64)) + (8 : Int64)) - (1 : Int64)) / (8 : Int64)) * (8 : Int64))) + ((((((16 : Int64) + ((2 : Int64) * ((3 : Int32).toInt64))) + (8 : Int64)) - (1 : Int64)) / (8 : Int64)) * (8 : Int64))))), .second] [(.int (1 : Int32))])) _
    exact retN X9 hx (t := .boolean) Bd.returns (by simp) (hb hby at_150) hr
  · show Q0 Z p1 p2 q3 p4 p5 h0 n0 _ T9.heap _
    exact ⟨rfl, N9⟩
theorem pd_0_11 : parseMethodDescriptor "([BIJ)V" = some ⟨[(.array .byte), .int, .long], none⟩ := by decide +kernel

set_option maxRecDepth 65536 in
set_option maxHeartbeats 40000000 in
theorem rm0_ftfff (l : Launch) (Z : State) (a0 : Array Value) (hw : ∀ d ∈ tables_1, d.before a0 Z = true) (ws : List Jvm.Cond) (p1 : Int32) (p2 : Int32) (q3 : Int64) (p4 : Int32) (p5 : Int32) (h0 : Heap) (n0 : Nat) (Z0 : n0 ≤ h0.size) (hc3 : ¬ ((p1 &&& (1 : Int32)) = (0 : Int32))) (hc16 : (p1 &&& (2 : Int32)) = (0 : Int32)) (hc28 : ¬ ((1 : Int32) = (0 : Int32))) :
    MetFree l x (head1 (Jvm.Cond.code x code maxLocals ret :: ws) room_1) (fun a U => a = #[(.int p1), (.int p2), (.long q3), (.int p4), (.int p5)] ∧ Z.Warmed39 U.vm ∧ U.heap = h0) (fun _ _ _ _ _ => True) (fun _ U o U' => ∃ v L, o = .returned v ∧ Q0 Z p1 p2 q3 p4 p5 h0 n0 v U'.heap L ∧ FrameEnd U o U' L room_1.cells room_1.slots) := by
  refine MetFree.of_bodySF (plainFor_of_name pn_0) hisR ?_
  intro p e s m args below meth c s₁ Bd hml0 hP hK
  obtain ⟨rfl, hZ, hh⟩ := hP
  have hx := Bd.exec
  have hby := Bd.bytes
  have hml : c.maxLocals = 15 := hml0
  have hown : s.vm.findClass "com/example/hakari/hakari/CounterHeapBytesPinLaw" = some m.cls := findClass_of_methodNamed Bd.named
  have hnm := (name_of_methodNamed Bd.named Bd.method).1
  have X0 : Stand p l e room_1 s m #[(.int p1), (.int p2), (.long q3), (.int p4), (.int p5)] below meth c s₁ [] 0 0 := Stand.of_body Bd
  have e0 : s₁.heap = h0 := by rw [← hh, Bd.state]; rfl
  have N0 := Fr.nil n0
  have pre0 : ∀ t, Steps p.tables e below (s₁.setTop (mkF m 0 #[.val (.int p1), .val (.int p2), .val (.long q3), .second, .val (.int p4), .val (.int p5), .unset, .unset, .unset, .unset, .unset, .unset, .unset, .unset, .unset] [])) t → Steps p.tables e below (s₁.setTop (entryFrame m #[(.int p1), (.int p2), (.long q3), (.int p4), (.int p5)] maxLocals)) t := fun t k => castTop (ef_0 m p1 p2 q3 p4 p5) k
  obtain ⟨T6, h6, k6, X6, e6, E6, A6, st6⟩ := newP X0 hx hZ (hw _ (List.mem_of_getElem? (i := 7) rfl)) e0 (g := (mkF m 34 #[.val (.int p1), .val (.int p2), .val (.long q3), .second, .val (.int p4), .val (.int p5), .val (.int (1 : Int32)), .val (.int (0 : Int32)), .unset, .unset, .unset, .unset, .unset, .unset, .unset] [(.int (16384 : Int32))])) rfl (hb hby at_34) rfl (by decide) (cap := 16384) (by decide) (by decide) (by decide) (by decide)
  obtain ⟨b6, g6⟩ : ∃ z, z = h0.size := ⟨_, rfl⟩
  rw [← g6] at A6 st6
  have V_b6 := Arv.new A6 (by decide)
  have g_b6 : n0 ≤ b6 := Nat.le_trans Z0 (Nat.le_of_eq g6.symm)
  have sz_b6 : h0.size ≤ b6 := (Nat.le_trans (Keep.refl h0 []).1 (Nat.le_of_eq g6.symm))
  have K6 : Keep h0 h6 [] := (Keep.refl h0 []).ext E6
  obtain ⟨cl_b6_52, Ar_b6, q_b6, S_b6, N_b6, H_b6, G_b6⟩ := V_b6
  have hin52 : ¬ ((p4 &&& (16383 : Int32)) < 0 ∨ cl_b6_52.slots.size ≤ ((p4 &&& (16383 : Int32))).toNatClampNeg) := inb_of S_b6 (own_mask p4)
  obtain ⟨T7, h7, X7, e7, W7, st7⟩ := stB X6 hx hZ e6 Ar_b6 (j := (p4 &&& (16383 : Int32))) hin52 (g := (mkF m 52 #[.val (.int p1), .val (.int p2), .val (.long q3), .second, .val (.int p4), .val (.int p5), .val (.int (1 : Int32)), .val (.int (0 : Int32)), .unset, .unset, .unset, .val (.ref b6), .unset, .unset, .unset] [(.int ((p5 &&& (63 : Int32)).toInt8.toInt32)), (.int (p4 &&& (16383 : Int32))), (.ref b6)])) rfl rfl (hb hby at_52)
  have Aq7 := Ar_b6.same W7
  have K7 : Keep h0 h7 [] := K6.wr W7 (Or.inr sz_b6)
  have N7 := Fr.snoc X7 N0 g_b6
  obtain ⟨T8, h8, X8, e8, E8, A8, D8, -, st8⟩ := newO X7 hx hZ hown (hw _ (List.mem_of_getElem? (i := 0) rfl)) (hw _ (List.mem_of_getElem? (i := 1) rfl)) (hw _ (List.mem_of_getElem? (i := 2) rfl)) e7 (g := (mkF m 53 #[.val (.int p1), .val (.int p2), .val (.long q3), .second, .val (.int p4), .val (.int p5), .val (.int (1 : Int32)), .val (.int (0 : Int32)), .unset, .unset, .unset, .val (.ref b6), .unset, .unset, .unset] [])) rfl (hb hby at_53) (by decide) (by decide)
  obtain ⟨b8, g8⟩ : ∃ z, z = h7.size := ⟨_, rfl⟩
  rw [← g8] at A8 D8 st8
  have F_sparse_b8 : Fld Z h8 b8 "com/example/hakari/hakari/Counter" "sparse" "Lcom/example/hakari/hakari/SparseRegisters;" .null := D8 (Or.inl (hw _ (List.mem_of_getElem? (i := 65) rfl))) (ty := (.object "com/example/hakari/hakari/SparseRegisters")) (by decide)
  have F_unused_b8 : Fld Z h8 b8 "com/example/hakari/hakari/Counter" "unused" "I" (.int (0 : Int32)) := D8 (Or.inr (hw _ (List.mem_of_getElem? (i := 67) rfl))) (ty := .int) (by decide)
  have F_cachedCount_b8 : Fld Z h8 b8 "com/example/hakari/hakari/Counter" "cachedCount" "J" (.long (0 : Int64)) := D8 (Or.inl (hw _ (List.mem_of_getElem? (i := 69) rfl))) (ty := .long) (by decide)
  have F_dense_b8 : Fld Z h8 b8 "com/example/hakari/hakari/Counter" "dense" "[B" .null := D8 (Or.inl (hw _ (List.mem_of_getElem? (i := 78) rfl))) (ty := (.array .byte)) (by decide)
  have E_b8 := A8
  have g_b8 : n0 ≤ b8 := Nat.le_trans (Nat.le_trans (Nat.le_trans Z0 E6.1) (Keep.of_wr W7).1) (Nat.le_of_eq g8.symm)
  have sz_b8 : h0.size ≤ b8 := (Nat.le_trans K7.1 (Nat.le_of_eq g8.symm))
  have K8 : Keep h0 h8 [] := K7.ext E8
  obtain ⟨_, _, ⟨T9, L9, k9, n9⟩, -, X9, ⟨Lc9, hQ9, l9, y9, z9⟩, st9⟩ := X8.specialBack hx (y := (⟨"com/example/hakari/hakari/Counter", "<init>", "([BIJ)V"⟩ : MethodName)) rfl hown (mvT hZ (hw _ (List.mem_of_getElem? (i := 98) rfl))) (mvT hZ (hw _ (List.mem_of_getElem? (i := 99) rfl))) (mvT hZ (hw _ (List.mem_of_getElem? (i := 100) rfl))) (by decide) (backOf (W := 1) (rm15 l Z a0 hw [] b8 b6 p2 q3 _ (16384 : Int32) _ _ _ h8 n0 (Nat.le_trans Z0 K8.1) (Aq7.ext E8) (by rw [sz_set]; exact S_b6) (by decide) E_b8 F_dense_b8 g_b8 F_unused_b8 F_cachedCount_b8 rfl) hZ (hw _ (List.mem_of_getElem? (i := 100) rfl)) (hw _ (List.mem_of_getElem? (i := 2) rfl)) (by decide) (by decide)) (g := (mkF m 61 #[.val (.int p1), .val (.int p2), .val (.long q3), .second, .val (.int p4), .val (.int p5), .val (.int (1 : Int32)), .val (.int (0 : Int32)), .unset, .unset, .unset, .val (.ref b6), .unset, .unset, .unset] [(.long q3), (.int p2), (.ref b6), (.ref b8), (.ref b8)])) rfl (by rw [hml]; rfl) (Steps.refl _) (a := b8) (argsL := [(.ref b6), (.int p2), (.long q3)]) (rest := [(.ref b8)]) (lenOf pd_0_11 rfl) rfl (by show 2 * 0 + _ ≤ _; exact Nat.le_of_eq rfl) (hb hby at_61) (fun _ _ => ⟨rfl, e8, (by decide : 2 + 0 ≤ _), (by decide : 16388 + 0 ≤ _)⟩)
  dsimp only [Pt.U, Pt.locs, Pt.cells, Pt.slots] at X9 l9 y9 z9 st9 hQ9
  subst l9 y9 z9
  obtain ⟨rfl, N9q, K9q, x9, Fd9, -, -⟩ := hQ9
  obtain ⟨ca9, A9q, S9q⟩ := own_arK (Aq7.ext E8) K9q
  have S9 : ca9.slots.size = (16384 : Int32).toNatClampNeg := S9q.trans (by rw [sz_set]; exact S_b6)
  have z9 : n0 ≤ T9.heap.size := Nat.le_trans (Nat.le_trans Z0 K8.1) K9q.1
  have N9 := Fr.app N7 N9q
  obtain ⟨cq10, kq10, q10a, q10b, q10c⟩ := isOf hZ rfl x9
  obtain ⟨_, _, ⟨T10, L10, k10, n10⟩, -, X10, ⟨Lc10, hQ10, l10, y10, z10⟩, st10⟩ := X9.virtualBack hx (y := (⟨"com/example/hakari/hakari/Counter", "heapBytes", "()J"⟩ : MethodName)) (z := (⟨"com/example/hakari/hakari/Counter", "heapBytes", "()J"⟩ : MethodName)) hown (mvT hZ (hw _ (List.mem_of_getElem? (i := 71) rfl))) (mvT hZ (hw _ (List.mem_of_getElem? (i := 72) rfl))) (notFace_of_selects (args := #[]) (mvT hZ (hw _ (List.mem_of_getElem? (i := 74) rfl)))) (mvT hZ (hw _ (List.mem_of_getElem? (i := 74) rfl))) (mvT hZ (hw _ (List.mem_of_getElem? (i := 73) rfl))) (by decide) (backOf (W := 0) (rm10 l Z a0 hw [] b8 b6 ca9 (16384 : Int32) T9.heap n0 z9 Fd9 A9q S9 (by decide)) hZ (hw _ (List.mem_of_getElem? (i := 75) rfl)) (hw _ (List.mem_of_getElem? (i := 2) rfl)) (by decide) (by decide)) q10a q10c (g := (mkF m 117 #[.val (.int p1), .val (.int p2), .val (.long q3), .second, .val (.int p4), .val (.int p5), .val (.int (1 : Int32)), .val (.int (0 : Int32)), .val (.ref b8), .val (.long (16448 : Int64)), .second, .val (.ref b6), .unset, .unset, .unset] [(.ref b8)])) rfl (by rw [hml]; rfl) (Steps.refl _) (argsL := []) (rest := []) (lenOf pd_0_9 rfl) rfl (by show 2 * 0 + _ ≤ _; exact Nat.le_of_eq rfl) (hb hby at_117) (fun _ _ => ⟨rfl, rfl, (by decide : 2 + 0 ≤ _), (by decide : 16388 + 0 ≤ _)⟩)
  dsimp only [Pt.U, Pt.locs, Pt.cells, Pt.slots] at X10 l10 y10 z10 st10 hQ10
  subst l10 y10 z10
  obtain ⟨rfl, N10q, w10⟩ := hQ10
  have z10 : n0 ≤ T10.heap.size := by rw [w10]; exact z9
  have x10 : Exa Z T10.heap b8 "com/example/hakari/hakari/Counter" := by rw [w10]; exact x9
  have Fd10 : Fld Z T10.heap b8 "com/example/hakari/hakari/Counter" "dense" "[B" (.ref b6) := by rw [w10]; exact Fd9
  have A10q : Arr Z T10.heap b6 ca9 .byte := by rw [w10]; exact A9q
  have N10 := Fr.app N9 N10q
  obtain ⟨cq11, kq11, q11a, q11b, q11c⟩ := isOf hZ rfl x10
  obtain ⟨_, _, ⟨T11, L11, k11, n11⟩, -, X11, ⟨Lc11, hQ11, l11, y11, z11⟩, st11⟩ := X10.virtualBack hx (y := (⟨"com/example/hakari/hakari/Counter", "heapBytes", "()J"⟩ : MethodName)) (z := (⟨"com/example/hakari/hakari/Counter", "heapBytes", "()J"⟩ : MethodName)) hown (mvT hZ (hw _ (List.mem_of_getElem? (i := 71) rfl))) (mvT hZ (hw _ (List.mem_of_getElem? (i := 72) rfl))) (notFace_of_selects (args := #[]) (mvT hZ (hw _ (List.mem_of_getElem? (i := 74) rfl)))) (mvT hZ (hw _ (List.mem_of_getElem? (i := 74) rfl))) (mvT hZ (hw _ (List.mem_of_getElem? (i := 73) rfl))) (by decide) (backOf (W := 0) (rm10 l Z a0 hw [] b8 b6 ca9 (16384 : Int32) T10.heap n0 z10 Fd10 A10q S9 (by decide)) hZ (hw _ (List.mem_of_getElem? (i := 75) rfl)) (hw _ (List.mem_of_getElem? (i := 2) rfl)) (by decide) (by decide)) q11a q11c (g := (mkF m 124 #[.val (.int p1), .val (.int p2), .val (.long q3), .second, .val (.int p4), .val (.int p5), .val (.int (1 : Int32)), .val (.int (0 : Int32)), .val (.ref b8), .val (.long (16448 : Int64)), .second, .val (.long ((48 : Int64) + ((((((16 : Int64) + ((16384 : Int32).toInt64)) + (8 : Int64)) - (1 : Int64)) / (8 : Int64)) * (8 : Int64)))), .second, .unset, .unset] [(.ref b8)])) rfl (by rw [hml]; rfl) (Steps.refl _) (argsL := []) (rest := []) (lenOf pd_0_9 rfl) rfl (by show 2 * 0 + _ ≤ _; exact Nat.le_of_eq rfl) (hb hby at_124) (fun _ _ => ⟨rfl, rfl, (by decide : 2 + 0 ≤ _), (by decide : 16388 + 0 ≤ _)⟩)
  dsimp only [Pt.U, Pt.locs, Pt.cells, Pt.slots] at X11 l11 y11 z11 st11 hQ11
  subst l11 y11 z11
  obtain ⟨rfl, N11q, w11⟩ := hQ11
  have z11 : n0 ≤ T11.heap.size := by rw [w11]; exact z10
  have x11 : Exa Z T11.heap b8 "com/example/hakari/hakari/Counter" := by rw [w11]; exact x10
  have Fd11 : Fld Z T11.heap b8 "com/example/hakari/hakari/Counter" "dense" "[B" (.ref b6) := by rw [w11]; exact Fd10
  have A11q : Arr Z T11.heap b6 ca9 .byte := by rw [w11]; exact A10q
  have N11 := Fr.app N10 N11q
  obtain ⟨fs, hr, hrun, hended, hW, hsame⟩ := X11.leave (v := some (.int (1 : Int32))) (fun h => by rw [Bd.returns] at h; cases h)
  refine ⟨_, _, pre0 _ ?_, hrun, hended, _, _, rfl, ?_, ⟨_, rfl⟩, hW, hsame.mono (by decide) (by decide)⟩
  · show Steps p.tables e below (s₁.setTop (mkF m 0 #[.val (.int p1), .val (.int p2), .val (.long q3), .second, .val (.int p4), .val (.int p5), .unset, .unset, .unset, .unset, .unset, .unset, .unset, .unset, .unset] [])) _
    refine XS.iloadN X0.here hx rfl (hb hby at_0) rfl ?_
    show Steps p.tables e below (s₁.setTop (mkF m 1 #[.val (.int p1), .val (.int p2), .val (.long q3), .second, .val (.int p4), .val (.int p5), .unset, .unset, .unset, .unset, .unset, .unset, .unset, .unset, .unset] [(.int p1)])) _
    refine XS.iconst X0.here hx rfl (hb hby at_1) ?_
    show Steps p.tables e below (s₁.setTop (mkF m 2 #[.val (.int p1), .val (.int p2), .val (.long q3), .second, .val (.int p4), .val (.int p5), .unset, .unset, .unset, .unset, .unset, .unset, .unset, .unset, .unset] [(.int (1 : Int32)), (.int p1)])) _
    refine XS.iand X0.here hx rfl (hb hby at_2) rfl ?_
    show Steps p.tables e below (s₁.setTop (mkF m 3 #[.val (.int p1), .val (.int p2), .val (.long q3), .second, .val (.int p4), .val (.int p5), .unset, .unset, .unset, .unset, .unset, .unset, .unset, .unset, .unset] [(.int (p1 &&& (1 : Int32)))])) _
    refine XS.ifNo X0.here hx rfl (hb hby at_3) rfl ((if0 _ _).trans (feq hc3).1) ?_
    show Steps p.tables e below (s₁.setTop (mkF m 6 #[.val (.int p1), .val (.int p2), .val (.long q3), .second, .val (.int p4), .val (.int p5), .unset, .unset, .unset, .unset, .unset, .unset, .unset, .unset, .unset] [])) _
    refine XS.iconst X0.here hx rfl (hb hby at_6) ?_
    show Steps p.tables e below (s₁.setTop (mkF m 7 #[.val (.int p1), .val (.int p2), .val (.long q3), .second, .val (.int p4), .val (.int p5), .unset, .unset, .unset, .unset, .unset, .unset, .unset, .unset, .unset] [(.int (1 : Int32))])) _
    refine XS.goto X0.here hx rfl (pc0 := 7) (pc' := 11) rfl (hb hby at_7) (by decide) (by decide) ?_
    show Steps p.tables e below (s₁.setTop (mkF m 11 #[.val (.int p1), .val (.int p2), .val (.long q3), .second, .val (.int p4), .val (.int p5), .unset, .unset, .unset, .unset, .unset, .unset, .unset, .unset, .unset] [(.int (1 : Int32))])) _
    refine XS.istore X0.here hx rfl (hb hby at_11) rfl (l' := #[.val (.int p1), .val (.int p2), .val (.long q3), .second, .val (.int p4), .val (.int p5), .val (.int (1 : Int32)), .unset, .unset, .unset, .unset, .unset, .unset, .unset, .unset]) rfl ?_
    show Steps p.tables e below (s₁.setTop (mkF m 13 #[.val (.int p1), .val (.int p2), .val (.long q3), .second, .val (.int p4), .val (.int p5), .val (.int (1 : Int32)), .unset, .unset, .unset, .unset, .unset, .unset, .unset, .unset] [])) _
    refine XS.iloadN X0.here hx rfl (hb hby at_13) rfl ?_
    show Steps p.tables e below (s₁.setTop (mkF m 14 #[.val (.int p1), .val (.int p2), .val (.long q3), .second, .val (.int p4), .val (.int p5), .val (.int (1 : Int32)), .unset, .unset, .unset, .unset, .unset, .unset, .unset, .unset] [(.int p1)])) _
    refine XS.iconst X0.here hx rfl (hb hby at_14) ?_
    show Steps p.tables e below (s₁.setTop (mkF m 15 #[.val (.int p1), .val (.int p2), .val (.long q3), .second, .val (.int p4), .val (.int p5), .val (.int (1 : Int32)), .unset, .unset, .unset, .unset, .unset, .unset, .unset, .unset] [(.int (2 : Int32)), (.int p1)])) _
    refine XS.iand X0.here hx rfl (hb hby at_15) rfl ?_
    show Steps p.tables e below (s₁.setTop (mkF m 16 #[.val (.int p1), .val (.int p2), .val (.long q3), .second, .val (.int p4), .val (.int p5), .val (.int (1 : Int32)), .unset, .unset, .unset, .unset, .unset, .unset, .unset, .unset] [(.int (p1 &&& (2 : Int32)))])) _
    refine XS.ifYes X0.here hx rfl (pc0 := 16) (pc' := 23) rfl (hb hby at_16) rfl ((if0 _ _).trans (teq hc16).1) (by decide) (by decide) ?_
    show Steps p.tables e below (s₁.setTop (mkF m 23 #[.val (.int p1), .val (.int p2), .val (.long q3), .second, .val (.int p4), .val (.int p5), .val (.int (1 : Int32)), .unset, .unset, .unset, .unset, .unset, .unset, .unset, .unset] [])) _
    refine XS.iconst X0.here hx rfl (hb hby at_23) ?_
    show Steps p.tables e below (s₁.setTop (mkF m 24 #[.val (.int p1), .val (.int p2), .val (.long q3), .second, .val (.int p4), .val (.int p5), .val (.int (1 : Int32)), .unset, .unset, .unset, .unset, .unset, .unset, .unset, .unset] [(.int (0 : Int32))])) _
    refine XS.istore X0.here hx rfl (hb hby at_24) rfl (l' := #[.val (.int p1), .val (.int p2), .val (.long q3), .second, .val (.int p4), .val (.int p5), .val (.int (1 : Int32)), .val (.int (0 : Int32)), .unset, .unset, .unset, .unset, .unset, .unset, .unset]) rfl ?_
    show Steps p.tables e below (s₁.setTop (mkF m 26 #[.val (.int p1), .val (.int p2), .val (.long q3), .second, .val (.int p4), .val (.int p5), .val (.int (1 : Int32)), .val (.int (0 : Int32)), .unset, .unset, .unset, .unset, .unset, .unset, .unset] [])) _
    refine XS.iload X0.here hx rfl (hb hby at_26) rfl ?_
    show Steps p.tables e below (s₁.setTop (mkF m 28 #[.val (.int p1), .val (.int p2), .val (.long q3), .second, .val (.int p4), .val (.int p5), .val (.int (1 : Int32)), .val (.int (0 : Int32)), .unset, .unset, .unset, .unset, .unset, .unset, .unset] [(.int (1 : Int32))])) _
    refine XS.ifNo X0.here hx rfl (hb hby at_28) rfl ((if0 _ _).trans (feq hc28).1) ?_
    show Steps p.tables e below (s₁.setTop (mkF m 31 #[.val (.int p1), .val (.int p2), .val (.long q3), .second, .val (.int p4), .val (.int p5), .val (.int (1 : Int32)), .val (.int (0 : Int32)), .unset, .unset, .unset, .unset, .unset, .unset, .unset] [])) _
    refine XS.sipush X0.here hx rfl (hb hby at_31) ?_
    show Steps p.tables e below (s₁.setTop (mkF m 34 #[.val (.int p1), .val (.int p2), .val (.long q3), .second, .val (.int p4), .val (.int p5), .val (.int (1 : Int32)), .val (.int (0 : Int32)), .unset, .unset, .unset, .unset, .unset, .unset, .unset] [(.int (16384 : Int32))])) _
    refine st6 _ ?_
    show Steps p.tables e below (T6.setTop (mkF m 36 #[.val (.int p1), .val (.int p2), .val (.long q3), .second, .val (.int p4), .val (.int p5), .val (.int (1 : Int32)), .val (.int (0 : Int32)), .unset, .unset, .unset, .unset, .unset, .unset, .unset] [(.ref b6)])) _
    refine XS.astore X6.here hx rfl (hb hby at_36) rfl rfl (l' := #[.val (.int p1), .val (.int p2), .val (.long q3), .second, .val (.int p4), .val (.int p5), .val (.int (1 : Int32)), .val (.int (0 : Int32)), .unset, .unset, .unset, .val (.ref b6), .unset, .unset, .unset]) rfl ?_
    show Steps p.tables e below (T6.setTop (mkF m 38 #[.val (.int p1), .val (.int p2), .val (.long q3), .second, .val (.int p4), .val (.int p5), .val (.int (1 : Int32)), .val (.int (0 : Int32)), .unset, .unset, .unset, .val (.ref b6), .unset, .unset, .unset] [])) _
    refine XS.aload X6.here hx rfl (hb hby at_38) rfl rfl ?_
    show Steps p.tables e below (T6.setTop (mkF m 40 #[.val (.int p1), .val (.int p2), .val (.long q3), .second, .val (.int p4), .val (.int p5), .val (.int (1 : Int32)), .val (.int (0 : Int32)), .unset, .unset, .unset, .val (.ref b6), .unset, .unset, .unset] [(.ref b6)])) _
    refine XS.iload X6.here hx rfl (hb hby at_40) rfl ?_
    show Steps p.tables e below (T6.setTop (mkF m 42 #[.val (.int p1), .val (.int p2), .val (.long q3), .second, .val (.int p4), .val (.int p5), .val (.int (1 : Int32)), .val (.int (0 : Int32)), .unset, .unset, .unset, .val (.ref b6), .unset, .unset, .unset] [(.int p4), (.ref b6)])) _
    refine XS.sipush X6.here hx rfl (hb hby at_42) ?_
    show Steps p.tables e below (T6.setTop (mkF m 45 #[.val (.int p1), .val (.int p2), .val (.long q3), .second, .val (.int p4), .val (.int p5), .val (.int (1 : Int32)), .val (.int (0 : Int32)), .unset, .unset, .unset, .val (.ref b6), .unset, .unset, .unset] [(.int (16383 : Int32)), (.int p4), (.ref b6)])) _
    refine XS.iand X6.here hx rfl (hb hby at_45) rfl ?_
    show Steps p.tables e below (T6.setTop (mkF m 46 #[.val (.int p1), .val (.int p2), .val (.long q3), .second, .val (.int p4), .val (.int p5), .val (.int (1 : Int32)), .val (.int (0 : Int32)), .unset, .unset, .unset, .val (.ref b6), .unset, .unset, .unset] [(.int (p4 &&& (16383 : Int32))), (.ref b6)])) _
    refine XS.iload X6.here hx rfl (hb hby at_46) rfl ?_
    show Steps p.tables e below (T6.setTop (mkF m 48 #[.val (.int p1), .val (.int p2), .val (.long q3), .second, .val (.int p4), .val (.int p5), .val (.int (1 : Int32)), .val (.int (0 : Int32)), .unset, .unset, .unset, .val (.ref b6), .unset, .unset, .unset] [(.int p5), (.int (p4 &&& (16383 : Int32))), (.ref b6)])) _
    refine XS.bipush X6.here hx rfl (hb hby at_48) ?_
    show Steps p.tables e below (T6.setTop (mkF m 50 #[.val (.int p1), .val (.int p2), .val (.long q3), .second, .val (.int p4), .val (.int p5), .val (.int (1 : Int32)), .val (.int (0 : Int32)), .unset, .unset, .unset, .val (.ref b6), .unset, .unset, .unset] [(.int (63 : Int32)), (.int p5), (.int (p4 &&& (16383 : Int32))), (.ref b6)])) _
    refine XS.iand X6.here hx rfl (hb hby at_50) rfl ?_
    show Steps p.tables e below (T6.setTop (mkF m 51 #[.val (.int p1), .val (.int p2), .val (.long q3), .second, .val (.int p4), .val (.int p5), .val (.int (1 : Int32)), .val (.int (0 : Int32)), .unset, .unset, .unset, .val (.ref b6), .unset, .unset, .unset] [(.int (p5 &&& (63 : Int32))), (.int (p4 &&& (16383 : Int32))), (.ref b6)])) _
    refine XS.i2b X6.here hx rfl (hb hby at_51) rfl ?_
    show Steps p.tables e below (T6.setTop (mkF m 52 #[.val (.int p1), .val (.int p2), .val (.long q3), .second, .val (.int p4), .val (.int p5), .val (.int (1 : Int32)), .val (.int (0 : Int32)), .unset, .unset, .unset, .val (.ref b6), .unset, .unset, .unset] [(.int ((p5 &&& (63 : Int32)).toInt8.toInt32)), (.int (p4 &&& (16383 : Int32))), (.ref b6)])) _
    refine st7 _ ?_
    show Steps p.tables e below (T7.setTop (mkF m 53 #[.val (.int p1), .val (.int p2), .val (.long q3), .second, .val (.int p4), .val (.int p5), .val (.int (1 : Int32)), .val (.int (0 : Int32)), .unset, .unset, .unset, .val (.ref b6), .unset, .unset, .unset] [])) _
    refine st8 _ ?_
    show Steps p.tables e below (T8.setTop (mkF m 56 #[.val (.int p1), .val (.int p2), .val (.long q3), .second, .val (.int p4), .val (.int p5), .val (.int (1 : Int32)), .val (.int (0 : Int32)), .unset, .unset, .unset, .val (.ref b6), .unset, .unset, .unset] [(.ref b8)])) _
    refine XS.dup X8.here hx rfl (hb hby at_56) rfl rfl ?_
    show Steps p.tables e below (T8.setTop (mkF m 57 #[.val (.int p1), .val (.int p2), .val (.long q3), .second, .val (.int p4), .val (.int p5), .val (.int (1 : Int32)), .val (.int (0 : Int32)), .unset, .unset, .unset, .val (.ref b6), .unset, .unset, .unset] [(.ref b8), (.ref b8)])) _
    refine XS.aload X8.here hx rfl (hb hby at_57) rfl rfl ?_
    show Steps p.tables e below (T8.setTop (mkF m 59 #[.val (.int p1), .val (.int p2), .val (.long q3), .second, .val (.int p4), .val (.int p5), .val (.int (1 : Int32)), .val (.int (0 : Int32)), .unset, .unset, .unset, .val (.ref b6), .unset, .unset, .unset] [(.ref b6), (.ref b8), (.ref b8)])) _
    refine XS.iloadN X8.here hx rfl (hb hby at_59) rfl ?_
    show Steps p.tables e below (T8.setTop (mkF m 60 #[.val (.int p1), .val (.int p2), .val (.long q3), .second, .val (.int p4), .val (.int p5), .val (.int (1 : Int32)), .val (.int (0 : Int32)), .unset, .unset, .unset, .val (.ref b6), .unset, .unset, .unset] [(.int p2), (.ref b6), (.ref b8), (.ref b8)])) _
    refine XS.lloadN X8.here hx rfl (hb hby at_60) rfl ?_
    show Steps p.tables e below (T8.setTop (mkF m 61 #[.val (.int p1), .val (.int p2), .val (.long q3), .second, .val (.int p4), .val (.int p5), .val (.int (1 : Int32)), .val (.int (0 : Int32)), .unset, .unset, .unset, .val (.ref b6), .unset, .unset, .unset] [(.long q3), (.int p2), (.ref b6), (.ref b8), (.ref b8)])) _
    refine st9.trans ?_
    show Steps p.tables e below (T9.setTop (mkF m 64 #[.val (.int p1), .val (.int p2), .val (.long q3), .second, .val (.int p4), .val (.int p5), .val (.int (1 : Int32)), .val (.int (0 : Int32)), .unset, .unset, .unset, .val (.ref b6), .unset, .unset, .unset] [(.ref b8)])) _
    refine XS.astore X9.here hx rfl (hb hby at_64) rfl rfl (l' := #[.val (.int p1), .val (.int p2), .val (.long q3), .second, .val (.int p4), .val (.int p5), .val (.int (1 : Int32)), .val (.int (0 : Int32)), .val (.ref b8), .unset, .unset, .val (.ref b6), .unset, .unset, .unset]) rfl ?_
    show Steps p.tables e below (T9.setTop (mkF m 66 #[.val (.int p1), .val (.int p2), .val (.long q3), .second, .val (.int p4), .val (.int p5), .val (.int (1 : Int32)), .val (.int (0 : Int32)), .val (.ref b8), .unset, .unset, .val (.ref b6), .unset, .unset, .unset] [])) _
    refine X9.ldc2Long hx hown (mvT hZ (hw _ (List.mem_of_getElem? (i := 101) rfl))) (g := (mkF m 66 #[.val (.int p1), .val (.int p2), .val (.long q3), .second, .val (.int p4), .val (.int p5), .val (.int (1 : Int32)), .val (.int (0 : Int32)), .val (.ref b8), .unset, .unset, .val (.ref b6), .unset, .unset, .unset] [])) rfl (hb hby at_66) _ ?_
    show Steps p.tables e below (T9.setTop (mkF m 69 #[.val (.int p1), .val (.int p2), .val (.long q3), .second, .val (.int p4), .val (.int p5), .val (.int (1 : Int32)), .val (.int (0 : Int32)), .val (.ref b8), .unset, .unset, .val (.ref b6), .unset, .unset, .unset] [(.long (16448 : Int64))])) _
    refine XS.lstore X9.here hx rfl (hb hby at_69) rfl (l' := #[.val (.int p1), .val (.int p2), .val (.long q3), .second, .val (.int p4), .val (.int p5), .val (.int (1 : Int32)), .val (.int (0 : Int32)), .val (.ref b8), .val (.long (16448 : Int64)), .second, .val (.ref b6), .unset, .unset, .unset]) rfl ?_
    show Steps p.tables e below (T9.setTop (mkF m 71 #[.val (.int p1), .val (.int p2), .val (.long q3), .second, .val (.int p4), .val (.int p5), .val (.int (1 : Int32)), .val (.int (0 : Int32)), .val (.ref b8), .val (.long (16448 : Int64)), .second, .val (.ref b6), .unset, .unset, .unset] [])) _
    refine XS.goto X9.here hx rfl (pc0 := 71) (pc' := 115) rfl (hb hby at_71) (by decide) (by decide) ?_
    show Steps p.tables e below (T9.setTop (mkF m 115 #[.val (.int p1), .val (.int p2), .val (.long q3), .second, .val (.int p4), .val (.int p5), .val (.int (1 : Int32)), .val (.int (0 : Int32)), .val (.ref b8), .val (.long (16448 : Int64)), .second, .val (.ref b6), .unset, .unset, .unset] [])) _
    refine XS.aload X9.here hx rfl (hb hby at_115) rfl rfl ?_
    show Steps p.tables e below (T9.setTop (mkF m 117 #[.val (.int p1), .val (.int p2), .val (.long q3), .second, .val (.int p4), .val (.int p5), .val (.int (1 : Int32)), .val (.int (0 : Int32)), .val (.ref b8), .val (.long (16448 : Int64)), .second, .val (.ref b6), .unset, .unset, .unset] [(.ref b8)])) _
    refine st10.trans ?_
    show Steps p.tables e below (T10.setTop (mkF m 120 #[.val (.int p1), .val (.int p2), .val (.long q3), .second, .val (.int p4), .val (.int p5), .val (.int (1 : Int32)), .val (.int (0 : Int32)), .val (.ref b8), .val (.long (16448 : Int64)), .second, .val (.ref b6), .unset, .unset, .unset] [(.long ((48 : Int64) + ((((((16 : Int64) + ((16384 : Int32).toInt64)) + (8 : Int64)) - (1 : Int64)) / (8 : Int64)) * (8 : Int64))))])) _
    refine XS.lstore X10.here hx rfl (hb hby at_120) rfl (l' := #[.val (.int p1), .val (.int p2), .val (.long q3), .second, .val (.int p4), .val (.int p5), .val (.int (1 : Int32)), .val (.int (0 : Int32)), .val (.ref b8), .val (.long (16448 : Int64)), .second, .val (.long ((48 : Int64) + ((((((16 : Int64) + ((16384 : Int32).toInt64)) + (8 : Int64)) - (1 : Int64)) / (8 : Int64)) * (8 : Int64)))), .second, .unset, .unset]) rfl ?_
    show Steps p.tables e below (T10.setTop (mkF m 122 #[.val (.int p1), .val (.int p2), .val (.long q3), .second, .val (.int p4), .val (.int p5), .val (.int (1 : Int32)), .val (.int (0 : Int32)), .val (.ref b8), .val (.long (16448 : Int64)), .second, .val (.long ((48 : Int64) + ((((((16 : Int64) + ((16384 : Int32).toInt64)) + (8 : Int64)) - (1 : Int64)) / (8 : Int64)) * (8 : Int64)))), .second, .unset, .unset] [])) _
    refine XS.aload X10.here hx rfl (hb hby at_122) rfl rfl ?_
    show Steps p.tables e below (T10.setTop (mkF m 124 #[.val (.int p1), .val (.int p2), .val (.long q3), .second, .val (.int p4), .val (.int p5), .val (.int (1 : Int32)), .val (.int (0 : Int32)), .val (.ref b8), .val (.long (16448 : Int64)), .second, .val (.long ((48 : Int64) + ((((((16 : Int64) + ((16384 : Int32).toInt64)) + (8 : Int64)) - (1 : Int64)) / (8 : Int64)) * (8 : Int64)))), .second, .unset, .unset] [(.ref b8)])) _
    refine st11.trans ?_
    show Steps p.tables e below (T11.setTop (mkF m 127 #[.val (.int p1), .val (.int p2), .val (.long q3), .second, .val (.int p4), .val (.int p5), .val (.int (1 : Int32)), .val (.int (0 : Int32)), .val (.ref b8), .val (.long (16448 : Int64)), .second, .val (.long ((48 : Int64) + ((((((16 : Int64) + ((16384 : Int32).toInt64)) + (8 : Int64)) - (1 : Int64)) / (8 : Int64)) * (8 : Int64)))), .second, .unset, .unset] [(.long ((48 : Int64) + ((((((16 : Int64) + ((16384 : Int32).toInt64)) + (8 : Int64)) - (1 : Int64)) / (8 : Int64)) * (8 : Int64))))])) _
    refine XS.lstore X11.here hx rfl (hb hby at_127) rfl (l' := #[.val (.int p1), .val (.int p2), .val (.long q3), .second, .val (.int p4), .val (.int p5), .val (.int (1 : Int32)), .val (.int (0 : Int32)), .val (.ref b8), .val (.long (16448 : Int64)), .second, .val (.long ((48 : Int64) + ((((((16 : Int64) + ((16384 : Int32).toInt64)) + (8 : Int64)) - (1 : Int64)) / (8 : Int64)) * (8 : Int64)))), .second, .val (.long ((48 : Int64) + ((((((16 : Int64) + ((16384 : Int32).toInt64)) + (8 : Int64)) - (1 : Int64)) / (8 : Int64)) * (8 : Int64)))), .second]) rfl ?_
    show Steps p.tables e below (T11.setTop (mkF m 129 #[.val (.int p1), .val (.int p2), .val (.long q3), .second, .val (.int p4), .val (.int p5), .val (.int (1 : Int32)), .val (.int (0 : Int32)), .val (.ref b8), .val (.long (16448 : Int64)), .second, .val (.long ((48 : Int64) + ((((((16 : Int64) + ((16384 : Int32).toInt64)) + (8 : Int64)) - (1 : Int64)) / (8 : Int64)) * (8 : Int64)))), .second, .val (.long ((48 : Int64) + ((((((16 : Int64) + ((16384 : Int32).toInt64)) + (8 : Int64)) - (1 : Int64)) / (8 : Int64)) * (8 : Int64)))), .second] [])) _
    refine XS.lload X11.here hx rfl (hb hby at_129) rfl ?_
    show Steps p.tables e below (T11.setTop (mkF m 131 #[.val (.int p1), .val (.int p2), .val (.long q3), .second, .val (.int p4), .val (.int p5), .val (.int (1 : Int32)), .val (.int (0 : Int32)), .val (.ref b8), .val (.long (16448 : Int64)), .second, .val (.long ((48 : Int64) + ((((((16 : Int64) + ((16384 : Int32).toInt64)) + (8 : Int64)) - (1 : Int64)) / (8 : Int64)) * (8 : Int64)))), .second, .val (.long ((48 : Int64) + ((((((16 : Int64) + ((16384 : Int32).toInt64)) + (8 : Int64)) - (1 : Int64)) / (8 : Int64)) * (8 : Int64)))), .second] [(.long ((48 : Int64) + ((((((16 : Int64) + ((16384 : Int32).toInt64)) + (8 : Int64)) - (1 : Int64)) / (8 : Int64)) * (8 : Int64))))])) _
    refine XS.lload X11.here hx rfl (hb hby at_131) rfl ?_
    show Steps p.tables e below (T11.setTop (mkF m 133 #[.val (.int p1), .val (.int p2), .val (.long q3), .second, .val (.int p4), .val (.int p5), .val (.int (1 : Int32)), .val (.int (0 : Int32)), .val (.ref b8), .val (.long (16448 : Int64)), .second, .val (.long ((48 : Int64) + ((((((16 : Int64) + ((16384 : Int32).toInt64)) + (8 : Int64)) - (1 : Int64)) / (8 : Int64)) * (8 : Int64)))), .second, .val (.long ((48 : Int64) + ((((((16 : Int64) + ((16384 : Int32).toInt64)) + (8 : Int64)) - (1 : Int64)) / (8 : Int64)) * (8 : Int64)))), .second] [(.long (16448 : Int64)), (.long ((48 : Int64) + ((((((16 : Int64) + ((16384 : Int32).toInt64)) + (8 : Int64)) - (1 : Int64)) / (8 : Int64)) * (8 : Int64))))])) _
    refine XS.lcmp X11.here hx rfl (hb hby at_133) rfl ?_
    show Steps p.tables e below (T11.setTop (mkF m 134 #[.val (.int p1), .val (.int p2), .val (.long q3), .second, .val (.int p4), .val (.int p5), .val (.int (1 : Int32)), .val (.int (0 : Int32)), .val (.ref b8), .val (.long (16448 : Int64)), .second, .val (.long ((48 : Int64) + ((((((16 : Int64) + ((16384 : Int32).toInt64)) + (8 : Int64)) - (1 : Int64)) / (8 : Int64)) * (8 : Int64)))), .second, .val (.long ((48 : Int64) + ((((((16 : Int64) + ((16384 : Int32).toInt64)) + (8 : Int64)) - (1 : Int64)) / (8 : Int64)) * (8 : Int64)))), .second] [(.int (lcmpW ((48 : Int64) + ((((((16 : Int64) + ((16384 : Int32).toInt64)) + (8 : Int64)) - (1 : Int64)) / (8 : Int64)) * (8 : Int64))) (16448 : Int64)))])) _
    refine XS.ifNo X11.here hx rfl (hb hby at_134) rfl ((if0 _ _).trans (teq (own_16448 : (lcmpW ((48 : Int64) + ((((((16 : Int64) + ((16384 : Int32).toInt64)) + (8 : Int64)) - (1 : Int64)) / (8 : Int64)) * (8 : Int64))) (16448 : Int64)) = (0 : Int32))).2) ?_
    show Steps p.tables e below (T11.setTop (mkF m 137 #[.val (.int p1), .val (.int p2), .val (.long q3), .second, .val (.int p4), .val (.int p5), .val (.int (1 : Int32)), .val (.int (0 : Int32)), .val (.ref b8), .val (.long (16448 : Int64)), .second, .val (.long ((48 : Int64) + ((((((16 : Int64) + ((16384 : Int32).toInt64)) + (8 : Int64)) - (1 : Int64)) / (8 : Int64)) * (8 : Int64)))), .second, .val (.long ((48 : Int64) + ((((((16 : Int64) + ((16384 : Int32).toInt64)) + (8 : Int64)) - (1 : Int64)) / (8 : Int64)) * (8 : Int64)))), .second] [])) _
    refine XS.lload X11.here hx rfl (hb hby at_137) rfl ?_
    show Steps p.tables e below (T11.setTop (mkF m 139 #[.val (.int p1), .val (.int p2), .val (.long q3), .second, .val (.int p4), .val (.int p5), .val (.int (1 : Int32)), .val (.int (0 : Int32)), .val (.ref b8), .val (.long (16448 : Int64)), .second, .val (.long ((48 : Int64) + ((((((16 : Int64) + ((16384 : Int32).toInt64)) + (8 : Int64)) - (1 : Int64)) / (8 : Int64)) * (8 : Int64)))), .second, .val (.long ((48 : Int64) + ((((((16 : Int64) + ((16384 : Int32).toInt64)) + (8 : Int64)) - (1 : Int64)) / (8 : Int64)) * (8 : Int64)))), .second] [(.long ((48 : Int64) + ((((((16 : Int64) + ((16384 : Int32).toInt64)) + (8 : Int64)) - (1 : Int64)) / (8 : Int64)) * (8 : Int64))))])) _
    refine XS.lload X11.here hx rfl (hb hby at_139) rfl ?_
    show Steps p.tables e below (T11.setTop (mkF m 141 #[.val (.int p1), .val (.int p2), .val (.long q3), .second, .val (.int p4), .val (.int p5), .val (.int (1 : Int32)), .val (.int (0 : Int32)), .val (.ref b8), .val (.long (16448 : Int64)), .second, .val (.long ((48 : Int64) + ((((((16 : Int64) + ((16384 : Int32).toInt64)) + (8 : Int64)) - (1 : Int64)) / (8 : Int64)) * (8 : Int64)))), .second, .val (.long ((48 : Int64) + ((((((16 : Int64) + ((16384 : Int32).toInt64)) + (8 : Int64)) - (1 : Int64)) / (8 : Int64)) * (8 : Int64)))), .second] [(.long ((48 : Int64) + ((((((16 : Int64) + ((16384 : Int32).toInt64)) + (8 : Int64)) - (1 : Int64)) / (8 : Int64)) * (8 : Int64)))), (.long ((48 : Int64) + ((((((16 : Int64) + ((16384 : Int32).toInt64)) + (8 : Int64)) - (1 : Int64)) / (8 : Int64)) * (8 : Int64))))])) _
    refine XS.lcmp X11.here hx rfl (hb hby at_141) rfl ?_
    show Steps p.tables e below (T11.setTop (mkF m 142 #[.val (.int p1), .val (.int p2), .val (.long q3), .second, .val (.int p4), .val (.int p5), .val (.int (1 : Int32)), .val (.int (0 : Int32)), .val (.ref b8), .val (.long (16448 : Int64)), .second, .val (.long ((48 : Int64) + ((((((16 : Int64) + ((16384 : Int32).toInt64)) + (8 : Int64)) - (1 : Int64)) / (8 : Int64)) * (8 : Int64)))), .second, .val (.long ((48 : Int64) + ((((((16 : Int64) + ((16384 : Int32).toInt64)) + (8 : Int64)) - (1 : Int64)) / (8 : Int64)) * (8 : Int64)))), .second] [(.int (lcmpW ((48 : Int64) + ((((((16 : Int64) + ((16384 : Int32).toInt64)) + (8 : Int64)) - (1 : Int64)) / (8 : Int64)) * (8 : Int64))) ((48 : Int64) + ((((((16 : Int64) + ((16384 : Int32).toInt64)) + (8 : Int64)) - (1 : Int64)) / (8 : Int64)) * (8 : Int64)))))])) _
    refine XS.ifNo X11.here hx rfl (hb hby at_142) rfl ((if0 _ _).trans (teq (own_lc _ : (lcmpW ((48 : Int64) + ((((((16 : Int64) + ((16384 : Int32).toInt64)) + (8 : Int64)) - (1 : Int64)) / (8 : Int64)) * (8 : Int64))) ((48 : Int64) + ((((((16 : Int64) + ((16384 : Int32).toInt64)) + (8 : Int64)) - (1 : Int64)) / (8 : Int64)) * (8 : Int64)))) = (0 : Int32))).2) ?_
    show Steps p.tables e below (T11.setTop (mkF m 145 #[.val (.int p1), .val (.int p2), .val (.long q3), .second, .val (.int p4), .val (.int p5), .val (.int (1 : Int32)), .val (.int (0 : Int32)), .val (.ref b8), .val (.long (16448 : Int64)), .second, .val (.long ((48 : Int64) + ((((((16 : Int64) + ((16384 : Int32).toInt64)) + (8 : Int64)) - (1 : Int64)) / (8 : Int64)) * (8 : Int64)))), .second, .val (.long ((48 : Int64) + ((((((16 : Int64) + ((16384 : Int32).toInt64)) + (8 : Int64)) - (1 : Int64)) / (8 : Int64)) * (8 : Int64)))), .second] [])) _
    refine XS.iconst X11.here hx rfl (hb hby at_145) ?_
    show Steps p.tables e below (T11.setTop (mkF m 146 #[.val (.int p1), .val (.int p2), .val (.long q3), .second, .val (.int p4), .val (.int p5), .val (.int (1 : Int32)), .val (.int (0 : Int32)), .val (.ref b8), .val (.long (16448 : Int64)), .second, .val (.long ((48 : Int64) + ((((((16 : Int64) + ((16384 : Int32).toInt64)) + (8 : Int64)) - (1 : Int64)) / (8 : Int64)) * (8 : Int64)))), .second, .val (.long ((48 : Int64) + ((((((16 : Int64) + ((16384 : Int32).toInt64)) + (8 : Int64)) - (1 : Int64)) / (8 : Int64)) * (8 : Int64)))), .second] [(.int (1 : Int32))])) _
    refine XS.goto X11.here hx rfl (pc0 := 146) (pc' := 150) rfl (hb hby at_146) (by decide) (by decide) ?_
    show Steps p.tables e below (T11.setTop (mkF m 150 #[.val (.int p1), .val (.int p2), .val (.long q3), .second, .val (.int p4), .val (.int p5), .val (.int (1 : Int32)), .val (.int (0 : Int32)), .val (.ref b8), .val (.long (16448 : Int64)), .second, .val (.long ((48 : Int64) + ((((((16 : Int64) + ((16384 : Int32).toInt64)) + (8 : Int64)) - (1 : Int64)) / (8 : Int64)) * (8 : Int64)))), .second, .val (.long ((48 : Int64) + ((((((16 : Int64) + ((16384 : Int32).toInt64)) + (8 : Int64)) - (1 : Int64)) / (8 : Int64)) * (8 : Int64)))), .second] [(.int (1 : Int32))])) _
    exact retN X11 hx (t := .boolean) Bd.returns (by simp) (hb hby at_150) hr
  · show Q0 Z p1 p2 q3 p4 p5 h0 n0 _ T11.heap _
    exact ⟨rfl, N11⟩

set_option maxRecDepth 65536 in
set_option maxHeartbeats 40000000 in
theorem rm0_fffff (l : Launch) (Z : State) (a0 : Array Value) (hw : ∀ d ∈ tables_1, d.before a0 Z = true) (ws : List Jvm.Cond) (p1 : Int32) (p2 : Int32) (q3 : Int64) (p4 : Int32) (p5 : Int32) (h0 : Heap) (n0 : Nat) (Z0 : n0 ≤ h0.size) (hc3 : ¬ ((p1 &&& (1 : Int32)) = (0 : Int32))) (hc16 : ¬ ((p1 &&& (2 : Int32)) = (0 : Int32))) (hc28 : ¬ ((1 : Int32) = (0 : Int32))) :
    MetFree l x (head1 (Jvm.Cond.code x code maxLocals ret :: ws) room_1) (fun a U => a = #[(.int p1), (.int p2), (.long q3), (.int p4), (.int p5)] ∧ Z.Warmed39 U.vm ∧ U.heap = h0) (fun _ _ _ _ _ => True) (fun _ U o U' => ∃ v L, o = .returned v ∧ Q0 Z p1 p2 q3 p4 p5 h0 n0 v U'.heap L ∧ FrameEnd U o U' L room_1.cells room_1.slots) := by
  refine MetFree.of_bodySF (plainFor_of_name pn_0) hisR ?_
  intro p e s m args below meth c s₁ Bd hml0 hP hK
  obtain ⟨rfl, hZ, hh⟩ := hP
  have hx := Bd.exec
  have hby := Bd.bytes
  have hml : c.maxLocals = 15 := hml0
  have hown : s.vm.findClass "com/example/hakari/hakari/CounterHeapBytesPinLaw" = some m.cls := findClass_of_methodNamed Bd.named
  have hnm := (name_of_methodNamed Bd.named Bd.method).1
  have X0 : Stand p l e room_1 s m #[(.int p1), (.int p2), (.long q3), (.int p4), (.int p5)] below meth c s₁ [] 0 0 := Stand.of_body Bd
  have e0 : s₁.heap = h0 := by rw [← hh, Bd.state]; rfl
  have N0 := Fr.nil n0
  have pre0 : ∀ t, Steps p.tables e below (s₁.setTop (mkF m 0 #[.val (.int p1), .val (.int p2), .val (.long q3), .second, .val (.int p4), .val (.int p5), .unset, .unset, .unset, .unset, .unset, .unset, .unset, .unset, .unset] [])) t → Steps p.tables e below (s₁.setTop (entryFrame m #[(.int p1), (.int p2), (.long q3), (.int p4), (.int p5)] maxLocals)) t := fun t k => castTop (ef_0 m p1 p2 q3 p4 p5) k
  obtain ⟨T6, h6, k6, X6, e6, E6, A6, st6⟩ := newP X0 hx hZ (hw _ (List.mem_of_getElem? (i := 7) rfl)) e0 (g := (mkF m 34 #[.val (.int p1), .val (.int p2), .val (.long q3), .second, .val (.int p4), .val (.int p5), .val (.int (1 : Int32)), .val (.int (1 : Int32)), .unset, .unset, .unset, .unset, .unset, .unset, .unset] [(.int (16384 : Int32))])) rfl (hb hby at_34) rfl (by decide) (cap := 16384) (by decide) (by decide) (by decide) (by decide)
  obtain ⟨b6, g6⟩ : ∃ z, z = h0.size := ⟨_, rfl⟩
  rw [← g6] at A6 st6
  have V_b6 := Arv.new A6 (by decide)
  have g_b6 : n0 ≤ b6 := Nat.le_trans Z0 (Nat.le_of_eq g6.symm)
  have sz_b6 : h0.size ≤ b6 := (Nat.le_trans (Keep.refl h0 []).1 (Nat.le_of_eq g6.symm))
  have K6 : Keep h0 h6 [] := (Keep.refl h0 []).ext E6
  obtain ⟨cl_b6_52, Ar_b6, q_b6, S_b6, N_b6, H_b6, G_b6⟩ := V_b6
  have hin52 : ¬ ((p4 &&& (16383 : Int32)) < 0 ∨ cl_b6_52.slots.size ≤ ((p4 &&& (16383 : Int32))).toNatClampNeg) := inb_of S_b6 (own_mask p4)
  obtain ⟨T7, h7, X7, e7, W7, st7⟩ := stB X6 hx hZ e6 Ar_b6 (j := (p4 &&& (16383 : Int32))) hin52 (g := (mkF m 52 #[.val (.int p1), .val (.int p2), .val (.long q3), .second, .val (.int p4), .val (.int p5), .val (.int (1 : Int32)), .val (.int (1 : Int32)), .unset, .unset, .unset, .val (.ref b6), .unset, .unset, .unset] [(.int ((p5 &&& (63 : Int32)).toInt8.toInt32)), (.int (p4 &&& (16383 : Int32))), (.ref b6)])) rfl rfl (hb hby at_52)
  have Aq7 := Ar_b6.same W7
  have K7 : Keep h0 h7 [] := K6.wr W7 (Or.inr sz_b6)
  have N7 := Fr.snoc X7 N0 g_b6
  obtain ⟨T8, h8, X8, e8, E8, A8, D8, -, st8⟩ := newO X7 hx hZ hown (hw _ (List.mem_of_getElem? (i := 0) rfl)) (hw _ (List.mem_of_getElem? (i := 1) rfl)) (hw _ (List.mem_of_getElem? (i := 2) rfl)) e7 (g := (mkF m 53 #[.val (.int p1), .val (.int p2), .val (.long q3), .second, .val (.int p4), .val (.int p5), .val (.int (1 : Int32)), .val (.int (1 : Int32)), .unset, .unset, .unset, .val (.ref b6), .unset, .unset, .unset] [])) rfl (hb hby at_53) (by decide) (by decide)
  obtain ⟨b8, g8⟩ : ∃ z, z = h7.size := ⟨_, rfl⟩
  rw [← g8] at A8 D8 st8
  have F_sparse_b8 : Fld Z h8 b8 "com/example/hakari/hakari/Counter" "sparse" "Lcom/example/hakari/hakari/SparseRegisters;" .null := D8 (Or.inl (hw _ (List.mem_of_getElem? (i := 65) rfl))) (ty := (.object "com/example/hakari/hakari/SparseRegisters")) (by decide)
  have F_unused_b8 : Fld Z h8 b8 "com/example/hakari/hakari/Counter" "unused" "I" (.int (0 : Int32)) := D8 (Or.inr (hw _ (List.mem_of_getElem? (i := 67) rfl))) (ty := .int) (by decide)
  have F_cachedCount_b8 : Fld Z h8 b8 "com/example/hakari/hakari/Counter" "cachedCount" "J" (.long (0 : Int64)) := D8 (Or.inl (hw _ (List.mem_of_getElem? (i := 69) rfl))) (ty := .long) (by decide)
  have F_dense_b8 : Fld Z h8 b8 "com/example/hakari/hakari/Counter" "dense" "[B" .null := D8 (Or.inl (hw _ (List.mem_of_getElem? (i := 78) rfl))) (ty := (.array .byte)) (by decide)
  have E_b8 := A8
  have g_b8 : n0 ≤ b8 := Nat.le_trans (Nat.le_trans (Nat.le_trans Z0 E6.1) (Keep.of_wr W7).1) (Nat.le_of_eq g8.symm)
  have sz_b8 : h0.size ≤ b8 := (Nat.le_trans K7.1 (Nat.le_of_eq g8.symm))
  have K8 : Keep h0 h8 [] := K7.ext E8
  obtain ⟨_, _, ⟨T9, L9, k9, n9⟩, -, X9, ⟨Lc9, hQ9, l9, y9, z9⟩, st9⟩ := X8.specialBack hx (y := (⟨"com/example/hakari/hakari/Counter", "<init>", "([BIJ)V"⟩ : MethodName)) rfl hown (mvT hZ (hw _ (List.mem_of_getElem? (i := 98) rfl))) (mvT hZ (hw _ (List.mem_of_getElem? (i := 99) rfl))) (mvT hZ (hw _ (List.mem_of_getElem? (i := 100) rfl))) (by decide) (backOf (W := 1) (rm15 l Z a0 hw [] b8 b6 p2 q3 _ (16384 : Int32) _ _ _ h8 n0 (Nat.le_trans Z0 K8.1) (Aq7.ext E8) (by rw [sz_set]; exact S_b6) (by decide) E_b8 F_dense_b8 g_b8 F_unused_b8 F_cachedCount_b8 rfl) hZ (hw _ (List.mem_of_getElem? (i := 100) rfl)) (hw _ (List.mem_of_getElem? (i := 2) rfl)) (by decide) (by decide)) (g := (mkF m 61 #[.val (.int p1), .val (.int p2), .val (.long q3), .second, .val (.int p4), .val (.int p5), .val (.int (1 : Int32)), .val (.int (1 : Int32)), .unset, .unset, .unset, .val (.ref b6), .unset, .unset, .unset] [(.long q3), (.int p2), (.ref b6), (.ref b8), (.ref b8)])) rfl (by rw [hml]; rfl) (Steps.refl _) (a := b8) (argsL := [(.ref b6), (.int p2), (.long q3)]) (rest := [(.ref b8)]) (lenOf pd_0_11 rfl) rfl (by show 2 * 0 + _ ≤ _; exact Nat.le_of_eq rfl) (hb hby at_61) (fun _ _ => ⟨rfl, e8, (by decide : 2 + 0 ≤ _), (by decide : 16388 + 0 ≤ _)⟩)
  dsimp only [Pt.U, Pt.locs, Pt.cells, Pt.slots] at X9 l9 y9 z9 st9 hQ9
  subst l9 y9 z9
  obtain ⟨rfl, N9q, K9q, x9, Fd9, -, -⟩ := hQ9
  obtain ⟨ca9, A9q, S9q⟩ := own_arK (Aq7.ext E8) K9q
  have S9 : ca9.slots.size = (16384 : Int32).toNatClampNeg := S9q.trans (by rw [sz_set]; exact S_b6)
  have z9 : n0 ≤ T9.heap.size := Nat.le_trans (Nat.le_trans Z0 K8.1) K9q.1
  have N9 := Fr.app N7 N9q
  obtain ⟨cq10, kq10, q10a, q10b, q10c⟩ := isOf hZ rfl x9
  obtain ⟨_, _, ⟨T10, L10, k10, n10⟩, -, X10, ⟨Lc10, hQ10, l10, y10, z10⟩, st10⟩ := X9.virtualBack hx (y := (⟨"com/example/hakari/hakari/Counter", "heapBytes", "()J"⟩ : MethodName)) (z := (⟨"com/example/hakari/hakari/Counter", "heapBytes", "()J"⟩ : MethodName)) hown (mvT hZ (hw _ (List.mem_of_getElem? (i := 71) rfl))) (mvT hZ (hw _ (List.mem_of_getElem? (i := 72) rfl))) (notFace_of_selects (args := #[]) (mvT hZ (hw _ (List.mem_of_getElem? (i := 74) rfl)))) (mvT hZ (hw _ (List.mem_of_getElem? (i := 74) rfl))) (mvT hZ (hw _ (List.mem_of_getElem? (i := 73) rfl))) (by decide) (backOf (W := 0) (rm10 l Z a0 hw [] b8 b6 ca9 (16384 : Int32) T9.heap n0 z9 Fd9 A9q S9 (by decide)) hZ (hw _ (List.mem_of_getElem? (i := 75) rfl)) (hw _ (List.mem_of_getElem? (i := 2) rfl)) (by decide) (by decide)) q10a q10c (g := (mkF m 117 #[.val (.int p1), .val (.int p2), .val (.long q3), .second, .val (.int p4), .val (.int p5), .val (.int (1 : Int32)), .val (.int (1 : Int32)), .val (.ref b8), .val (.long (16448 : Int64)), .second, .val (.ref b6), .unset, .unset, .unset] [(.ref b8)])) rfl (by rw [hml]; rfl) (Steps.refl _) (argsL := []) (rest := []) (lenOf pd_0_9 rfl) rfl (by show 2 * 0 + _ ≤ _; exact Nat.le_of_eq rfl) (hb hby at_117) (fun _ _ => ⟨rfl, rfl, (by decide : 2 + 0 ≤ _), (by decide : 16388 + 0 ≤ _)⟩)
  dsimp only [Pt.U, Pt.locs, Pt.cells, Pt.slots] at X10 l10 y10 z10 st10 hQ10
  subst l10 y10 z10
  obtain ⟨rfl, N10q, w10⟩ := hQ10
  have z10 : n0 ≤ T10.heap.size := by rw [w10]; exact z9
  have x10 : Exa Z T10.heap b8 "com/example/hakari/hakari/Counter" := by rw [w10]; exact x9
  have Fd10 : Fld Z T10.heap b8 "com/example/hakari/hakari/Counter" "dense" "[B" (.ref b6) := by rw [w10]; exact Fd9
  have A10q : Arr Z T10.heap b6 ca9 .byte := by rw [w10]; exact A9q
  have N10 := Fr.app N9 N10q
  obtain ⟨cq11, kq11, q11a, q11b, q11c⟩ := isOf hZ rfl x10
  obtain ⟨_, _, ⟨T11, L11, k11, n11⟩, -, X11, ⟨Lc11, hQ11, l11, y11, z11⟩, st11⟩ := X10.virtualBack hx (y := (⟨"com/example/hakari/hakari/Counter", "heapBytes", "()J"⟩ : MethodName)) (z := (⟨"com/example/hakari/hakari/Counter", "heapBytes", "()J"⟩ : MethodName)) hown (mvT hZ (hw _ (List.mem_of_getElem? (i := 71) rfl))) (mvT hZ (hw _ (List.mem_of_getElem? (i := 72) rfl))) (notFace_of_selects (args := #[]) (mvT hZ (hw _ (List.mem_of_getElem? (i := 74) rfl)))) (mvT hZ (hw _ (List.mem_of_getElem? (i := 74) rfl))) (mvT hZ (hw _ (List.mem_of_getElem? (i := 73) rfl))) (by decide) (backOf (W := 0) (rm10 l Z a0 hw [] b8 b6 ca9 (16384 : Int32) T10.heap n0 z10 Fd10 A10q S9 (by decide)) hZ (hw _ (List.mem_of_getElem? (i := 75) rfl)) (hw _ (List.mem_of_getElem? (i := 2) rfl)) (by decide) (by decide)) q11a q11c (g := (mkF m 124 #[.val (.int p1), .val (.int p2), .val (.long q3), .second, .val (.int p4), .val (.int p5), .val (.int (1 : Int32)), .val (.int (1 : Int32)), .val (.ref b8), .val (.long (16448 : Int64)), .second, .val (.long ((48 : Int64) + ((((((16 : Int64) + ((16384 : Int32).toInt64)) + (8 : Int64)) - (1 : Int64)) / (8 : Int64)) * (8 : Int64)))), .second, .unset, .unset] [(.ref b8)])) rfl (by rw [hml]; rfl) (Steps.refl _) (argsL := []) (rest := []) (lenOf pd_0_9 rfl) rfl (by show 2 * 0 + _ ≤ _; exact Nat.le_of_eq rfl) (hb hby at_124) (fun _ _ => ⟨rfl, rfl, (by decide : 2 + 0 ≤ _), (by decide : 16388 + 0 ≤ _)⟩)
  dsimp only [Pt.U, Pt.locs, Pt.cells, Pt.slots] at X11 l11 y11 z11 st11 hQ11
  subst l11 y11 z11
  obtain ⟨rfl, N11q, w11⟩ := hQ11
  have z11 : n0 ≤ T11.heap.size := by rw [w11]; exact z10
  have x11 : Exa Z T11.heap b8 "com/example/hakari/hakari/Counter" := by rw [w11]; exact x10
  have Fd11 : Fld Z T11.heap b8 "com/example/hakari/hakari/Counter" "dense" "[B" (.ref b6) := by rw [w11]; exact Fd10
  have A11q : Arr Z T11.heap b6 ca9 .byte := by rw [w11]; exact A10q
  have N11 := Fr.app N10 N11q
  obtain ⟨fs, hr, hrun, hended, hW, hsame⟩ := X11.leave (v := some (.int (1 : Int32))) (fun h => by rw [Bd.returns] at h; cases h)
  refine ⟨_, _, pre0 _ ?_, hrun, hended, _, _, rfl, ?_, ⟨_, rfl⟩, hW, hsame.mono (by decide) (by decide)⟩
  · show Steps p.tables e below (s₁.setTop (mkF m 0 #[.val (.int p1), .val (.int p2), .val (.long q3), .second, .val (.int p4), .val (.int p5), .unset, .unset, .unset, .unset, .unset, .unset, .unset, .unset, .unset] [])) _
    refine XS.iloadN X0.here hx rfl (hb hby at_0) rfl ?_
    show Steps p.tables e below (s₁.setTop (mkF m 1 #[.val (.int p1), .val (.int p2), .val (.long q3), .second, .val (.int p4), .val (.int p5), .unset, .unset, .unset, .unset, .unset, .unset, .unset, .unset, .unset] [(.int p1)])) _
    refine XS.iconst X0.here hx rfl (hb hby at_1) ?_
    show Steps p.tables e below (s₁.setTop (mkF m 2 #[.val (.int p1), .val (.int p2), .val (.long q3), .second, .val (.int p4), .val (.int p5), .unset, .unset, .unset, .unset, .unset, .unset, .unset, .unset, .unset] [(.int (1 : Int32)), (.int p1)])) _
    refine XS.iand X0.here hx rfl (hb hby at_2) rfl ?_
    show Steps p.tables e below (s₁.setTop (mkF m 3 #[.val (.int p1), .val (.int p2), .val (.long q3), .second, .val (.int p4), .val (.int p5), .unset, .unset, .unset, .unset, .unset, .unset, .unset, .unset, .unset] [(.int (p1 &&& (1 : Int32)))])) _
    refine XS.ifNo X0.here hx rfl (hb hby at_3) rfl ((if0 _ _).trans (feq hc3).1) ?_
    show Steps p.tables e below (s₁.setTop (mkF m 6 #[.val (.int p1), .val (.int p2), .val (.long q3), .second, .val (.int p4), .val (.int p5), .unset, .unset, .unset, .unset, .unset, .unset, .unset, .unset, .unset] [])) _
    refine XS.iconst X0.here hx rfl (hb hby at_6) ?_
    show Steps p.tables e below (s₁.setTop (mkF m 7 #[.val (.int p1), .val (.int p2), .val (.long q3), .second, .val (.int p4), .val (.int p5), .unset, .unset, .unset, .unset, .unset, .unset, .unset, .unset, .unset] [(.int (1 : Int32))])) _
    refine XS.goto X0.here hx rfl (pc0 := 7) (pc' := 11) rfl (hb hby at_7) (by decide) (by decide) ?_
    show Steps p.tables e below (s₁.setTop (mkF m 11 #[.val (.int p1), .val (.int p2), .val (.long q3), .second, .val (.int p4), .val (.int p5), .unset, .unset, .unset, .unset, .unset, .unset, .unset, .unset, .unset] [(.int (1 : Int32))])) _
    refine XS.istore X0.here hx rfl (hb hby at_11) rfl (l' := #[.val (.int p1), .val (.int p2), .val (.long q3), .second, .val (.int p4), .val (.int p5), .val (.int (1 : Int32)), .unset, .unset, .unset, .unset, .unset, .unset, .unset, .unset]) rfl ?_
    show Steps p.tables e below (s₁.setTop (mkF m 13 #[.val (.int p1), .val (.int p2), .val (.long q3), .second, .val (.int p4), .val (.int p5), .val (.int (1 : Int32)), .unset, .unset, .unset, .unset, .unset, .unset, .unset, .unset] [])) _
    refine XS.iloadN X0.here hx rfl (hb hby at_13) rfl ?_
    show Steps p.tables e below (s₁.setTop (mkF m 14 #[.val (.int p1), .val (.int p2), .val (.long q3), .second, .val (.int p4), .val (.int p5), .val (.int (1 : Int32)), .unset, .unset, .unset, .unset, .unset, .unset, .unset, .unset] [(.int p1)])) _
    refine XS.iconst X0.here hx rfl (hb hby at_14) ?_
    show Steps p.tables e below (s₁.setTop (mkF m 15 #[.val (.int p1), .val (.int p2), .val (.long q3), .second, .val (.int p4), .val (.int p5), .val (.int (1 : Int32)), .unset, .unset, .unset, .unset, .unset, .unset, .unset, .unset] [(.int (2 : Int32)), (.int p1)])) _
    refine XS.iand X0.here hx rfl (hb hby at_15) rfl ?_
    show Steps p.tables e below (s₁.setTop (mkF m 16 #[.val (.int p1), .val (.int p2), .val (.long q3), .second, .val (.int p4), .val (.int p5), .val (.int (1 : Int32)), .unset, .unset, .unset, .unset, .unset, .unset, .unset, .unset] [(.int (p1 &&& (2 : Int32)))])) _
    refine XS.ifNo X0.here hx rfl (hb hby at_16) rfl ((if0 _ _).trans (feq hc16).1) ?_
    show Steps p.tables e below (s₁.setTop (mkF m 19 #[.val (.int p1), .val (.int p2), .val (.long q3), .second, .val (.int p4), .val (.int p5), .val (.int (1 : Int32)), .unset, .unset, .unset, .unset, .unset, .unset, .unset, .unset] [])) _
    refine XS.iconst X0.here hx rfl (hb hby at_19) ?_
    show Steps p.tables e below (s₁.setTop (mkF m 20 #[.val (.int p1), .val (.int p2), .val (.long q3), .second, .val (.int p4), .val (.int p5), .val (.int (1 : Int32)), .unset, .unset, .unset, .unset, .unset, .unset, .unset, .unset] [(.int (1 : Int32))])) _
    refine XS.goto X0.here hx rfl (pc0 := 20) (pc' := 24) rfl (hb hby at_20) (by decide) (by decide) ?_
    show Steps p.tables e below (s₁.setTop (mkF m 24 #[.val (.int p1), .val (.int p2), .val (.long q3), .second, .val (.int p4), .val (.int p5), .val (.int (1 : Int32)), .unset, .unset, .unset, .unset, .unset, .unset, .unset, .unset] [(.int (1 : Int32))])) _
    refine XS.istore X0.here hx rfl (hb hby at_24) rfl (l' := #[.val (.int p1), .val (.int p2), .val (.long q3), .second, .val (.int p4), .val (.int p5), .val (.int (1 : Int32)), .val (.int (1 : Int32)), .unset, .unset, .unset, .unset, .unset, .unset, .unset]) rfl ?_
    show Steps p.tables e below (s₁.setTop (mkF m 26 #[.val (.int p1), .val (.int p2), .val (.long q3), .second, .val (.int p4), .val (.int p5), .val (.int (1 : Int32)), .val (.int (1 : Int32)), .unset, .unset, .unset, .unset, .unset, .unset, .unset] [])) _
    refine XS.iload X0.here hx rfl (hb hby at_26) rfl ?_
    show Steps p.tables e below (s₁.setTop (mkF m 28 #[.val (.int p1), .val (.int p2), .val (.long q3), .second, .val (.int p4), .val (.int p5), .val (.int (1 : Int32)), .val (.int (1 : Int32)), .unset, .unset, .unset, .unset, .unset, .unset, .unset] [(.int (1 : Int32))])) _
    refine XS.ifNo X0.here hx rfl (hb hby at_28) rfl ((if0 _ _).trans (feq hc28).1) ?_
    show Steps p.tables e below (s₁.setTop (mkF m 31 #[.val (.int p1), .val (.int p2), .val (.long q3), .second, .val (.int p4), .val (.int p5), .val (.int (1 : Int32)), .val (.int (1 : Int32)), .unset, .unset, .unset, .unset, .unset, .unset, .unset] [])) _
    refine XS.sipush X0.here hx rfl (hb hby at_31) ?_
    show Steps p.tables e below (s₁.setTop (mkF m 34 #[.val (.int p1), .val (.int p2), .val (.long q3), .second, .val (.int p4), .val (.int p5), .val (.int (1 : Int32)), .val (.int (1 : Int32)), .unset, .unset, .unset, .unset, .unset, .unset, .unset] [(.int (16384 : Int32))])) _
    refine st6 _ ?_
    show Steps p.tables e below (T6.setTop (mkF m 36 #[.val (.int p1), .val (.int p2), .val (.long q3), .second, .val (.int p4), .val (.int p5), .val (.int (1 : Int32)), .val (.int (1 : Int32)), .unset, .unset, .unset, .unset, .unset, .unset, .unset] [(.ref b6)])) _
    refine XS.astore X6.here hx rfl (hb hby at_36) rfl rfl (l' := #[.val (.int p1), .val (.int p2), .val (.long q3), .second, .val (.int p4), .val (.int p5), .val (.int (1 : Int32)), .val (.int (1 : Int32)), .unset, .unset, .unset, .val (.ref b6), .unset, .unset, .unset]) rfl ?_
    show Steps p.tables e below (T6.setTop (mkF m 38 #[.val (.int p1), .val (.int p2), .val (.long q3), .second, .val (.int p4), .val (.int p5), .val (.int (1 : Int32)), .val (.int (1 : Int32)), .unset, .unset, .unset, .val (.ref b6), .unset, .unset, .unset] [])) _
    refine XS.aload X6.here hx rfl (hb hby at_38) rfl rfl ?_
    show Steps p.tables e below (T6.setTop (mkF m 40 #[.val (.int p1), .val (.int p2), .val (.long q3), .second, .val (.int p4), .val (.int p5), .val (.int (1 : Int32)), .val (.int (1 : Int32)), .unset, .unset, .unset, .val (.ref b6), .unset, .unset, .unset] [(.ref b6)])) _
    refine XS.iload X6.here hx rfl (hb hby at_40) rfl ?_
    show Steps p.tables e below (T6.setTop (mkF m 42 #[.val (.int p1), .val (.int p2), .val (.long q3), .second, .val (.int p4), .val (.int p5), .val (.int (1 : Int32)), .val (.int (1 : Int32)), .unset, .unset, .unset, .val (.ref b6), .unset, .unset, .unset] [(.int p4), (.ref b6)])) _
    refine XS.sipush X6.here hx rfl (hb hby at_42) ?_
    show Steps p.tables e below (T6.setTop (mkF m 45 #[.val (.int p1), .val (.int p2), .val (.long q3), .second, .val (.int p4), .val (.int p5), .val (.int (1 : Int32)), .val (.int (1 : Int32)), .unset, .unset, .unset, .val (.ref b6), .unset, .unset, .unset] [(.int (16383 : Int32)), (.int p4), (.ref b6)])) _
    refine XS.iand X6.here hx rfl (hb hby at_45) rfl ?_
    show Steps p.tables e below (T6.setTop (mkF m 46 #[.val (.int p1), .val (.int p2), .val (.long q3), .second, .val (.int p4), .val (.int p5), .val (.int (1 : Int32)), .val (.int (1 : Int32)), .unset, .unset, .unset, .val (.ref b6), .unset, .unset, .unset] [(.int (p4 &&& (16383 : Int32))), (.ref b6)])) _
    refine XS.iload X6.here hx rfl (hb hby at_46) rfl ?_
    show Steps p.tables e below (T6.setTop (mkF m 48 #[.val (.int p1), .val (.int p2), .val (.long q3), .second, .val (.int p4), .val (.int p5), .val (.int (1 : Int32)), .val (.int (1 : Int32)), .unset, .unset, .unset, .val (.ref b6), .unset, .unset, .unset] [(.int p5), (.int (p4 &&& (16383 : Int32))), (.ref b6)])) _
    refine XS.bipush X6.here hx rfl (hb hby at_48) ?_
    show Steps p.tables e below (T6.setTop (mkF m 50 #[.val (.int p1), .val (.int p2), .val (.long q3), .second, .val (.int p4), .val (.int p5), .val (.int (1 : Int32)), .val (.int (1 : Int32)), .unset, .unset, .unset, .val (.ref b6), .unset, .unset, .unset] [(.int (63 : Int32)), (.int p5), (.int (p4 &&& (16383 : Int32))), (.ref b6)])) _
    refine XS.iand X6.here hx rfl (hb hby at_50) rfl ?_
    show Steps p.tables e below (T6.setTop (mkF m 51 #[.val (.int p1), .val (.int p2), .val (.long q3), .second, .val (.int p4), .val (.int p5), .val (.int (1 : Int32)), .val (.int (1 : Int32)), .unset, .unset, .unset, .val (.ref b6), .unset, .unset, .unset] [(.int (p5 &&& (63 : Int32))), (.int (p4 &&& (16383 : Int32))), (.ref b6)])) _
    refine XS.i2b X6.here hx rfl (hb hby at_51) rfl ?_
    show Steps p.tables e below (T6.setTop (mkF m 52 #[.val (.int p1), .val (.int p2), .val (.long q3), .second, .val (.int p4), .val (.int p5), .val (.int (1 : Int32)), .val (.int (1 : Int32)), .unset, .unset, .unset, .val (.ref b6), .unset, .unset, .unset] [(.int ((p5 &&& (63 : Int32)).toInt8.toInt32)), (.int (p4 &&& (16383 : Int32))), (.ref b6)])) _
    refine st7 _ ?_
    show Steps p.tables e below (T7.setTop (mkF m 53 #[.val (.int p1), .val (.int p2), .val (.long q3), .second, .val (.int p4), .val (.int p5), .val (.int (1 : Int32)), .val (.int (1 : Int32)), .unset, .unset, .unset, .val (.ref b6), .unset, .unset, .unset] [])) _
    refine st8 _ ?_
    show Steps p.tables e below (T8.setTop (mkF m 56 #[.val (.int p1), .val (.int p2), .val (.long q3), .second, .val (.int p4), .val (.int p5), .val (.int (1 : Int32)), .val (.int (1 : Int32)), .unset, .unset, .unset, .val (.ref b6), .unset, .unset, .unset] [(.ref b8)])) _
    refine XS.dup X8.here hx rfl (hb hby at_56) rfl rfl ?_
    show Steps p.tables e below (T8.setTop (mkF m 57 #[.val (.int p1), .val (.int p2), .val (.long q3), .second, .val (.int p4), .val (.int p5), .val (.int (1 : Int32)), .val (.int (1 : Int32)), .unset, .unset, .unset, .val (.ref b6), .unset, .unset, .unset] [(.ref b8), (.ref b8)])) _
    refine XS.aload X8.here hx rfl (hb hby at_57) rfl rfl ?_
    show Steps p.tables e below (T8.setTop (mkF m 59 #[.val (.int p1), .val (.int p2), .val (.long q3), .second, .val (.int p4), .val (.int p5), .val (.int (1 : Int32)), .val (.int (1 : Int32)), .unset, .unset, .unset, .val (.ref b6), .unset, .unset, .unset] [(.ref b6), (.ref b8), (.ref b8)])) _
    refine XS.iloadN X8.here hx rfl (hb hby at_59) rfl ?_
    show Steps p.tables e below (T8.setTop (mkF m 60 #[.val (.int p1), .val (.int p2), .val (.long q3), .second, .val (.int p4), .val (.int p5), .val (.int (1 : Int32)), .val (.int (1 : Int32)), .unset, .unset, .unset, .val (.ref b6), .unset, .unset, .unset] [(.int p2), (.ref b6), (.ref b8), (.ref b8)])) _
    refine XS.lloadN X8.here hx rfl (hb hby at_60) rfl ?_
    show Steps p.tables e below (T8.setTop (mkF m 61 #[.val (.int p1), .val (.int p2), .val (.long q3), .second, .val (.int p4), .val (.int p5), .val (.int (1 : Int32)), .val (.int (1 : Int32)), .unset, .unset, .unset, .val (.ref b6), .unset, .unset, .unset] [(.long q3), (.int p2), (.ref b6), (.ref b8), (.ref b8)])) _
    refine st9.trans ?_
    show Steps p.tables e below (T9.setTop (mkF m 64 #[.val (.int p1), .val (.int p2), .val (.long q3), .second, .val (.int p4), .val (.int p5), .val (.int (1 : Int32)), .val (.int (1 : Int32)), .unset, .unset, .unset, .val (.ref b6), .unset, .unset, .unset] [(.ref b8)])) _
    refine XS.astore X9.here hx rfl (hb hby at_64) rfl rfl (l' := #[.val (.int p1), .val (.int p2), .val (.long q3), .second, .val (.int p4), .val (.int p5), .val (.int (1 : Int32)), .val (.int (1 : Int32)), .val (.ref b8), .unset, .unset, .val (.ref b6), .unset, .unset, .unset]) rfl ?_
    show Steps p.tables e below (T9.setTop (mkF m 66 #[.val (.int p1), .val (.int p2), .val (.long q3), .second, .val (.int p4), .val (.int p5), .val (.int (1 : Int32)), .val (.int (1 : Int32)), .val (.ref b8), .unset, .unset, .val (.ref b6), .unset, .unset, .unset] [])) _
    refine X9.ldc2Long hx hown (mvT hZ (hw _ (List.mem_of_getElem? (i := 101) rfl))) (g := (mkF m 66 #[.val (.int p1), .val (.int p2), .val (.long q3), .second, .val (.int p4), .val (.int p5), .val (.int (1 : Int32)), .val (.int (1 : Int32)), .val (.ref b8), .unset, .unset, .val (.ref b6), .unset, .unset, .unset] [])) rfl (hb hby at_66) _ ?_
    show Steps p.tables e below (T9.setTop (mkF m 69 #[.val (.int p1), .val (.int p2), .val (.long q3), .second, .val (.int p4), .val (.int p5), .val (.int (1 : Int32)), .val (.int (1 : Int32)), .val (.ref b8), .unset, .unset, .val (.ref b6), .unset, .unset, .unset] [(.long (16448 : Int64))])) _
    refine XS.lstore X9.here hx rfl (hb hby at_69) rfl (l' := #[.val (.int p1), .val (.int p2), .val (.long q3), .second, .val (.int p4), .val (.int p5), .val (.int (1 : Int32)), .val (.int (1 : Int32)), .val (.ref b8), .val (.long (16448 : Int64)), .second, .val (.ref b6), .unset, .unset, .unset]) rfl ?_
    show Steps p.tables e below (T9.setTop (mkF m 71 #[.val (.int p1), .val (.int p2), .val (.long q3), .second, .val (.int p4), .val (.int p5), .val (.int (1 : Int32)), .val (.int (1 : Int32)), .val (.ref b8), .val (.long (16448 : Int64)), .second, .val (.ref b6), .unset, .unset, .unset] [])) _
    refine XS.goto X9.here hx rfl (pc0 := 71) (pc' := 115) rfl (hb hby at_71) (by decide) (by decide) ?_
    show Steps p.tables e below (T9.setTop (mkF m 115 #[.val (.int p1), .val (.int p2), .val (.long q3), .second, .val (.int p4), .val (.int p5), .val (.int (1 : Int32)), .val (.int (1 : Int32)), .val (.ref b8), .val (.long (16448 : Int64)), .second, .val (.ref b6), .unset, .unset, .unset] [])) _
    refine XS.aload X9.here hx rfl (hb hby at_115) rfl rfl ?_
    show Steps p.tables e below (T9.setTop (mkF m 117 #[.val (.int p1), .val (.int p2), .val (.long q3), .second, .val (.int p4), .val (.int p5), .val (.int (1 : Int32)), .val (.int (1 : Int32)), .val (.ref b8), .val (.long (16448 : Int64)), .second, .val (.ref b6), .unset, .unset, .unset] [(.ref b8)])) _
    refine st10.trans ?_
    show Steps p.tables e below (T10.setTop (mkF m 120 #[.val (.int p1), .val (.int p2), .val (.long q3), .second, .val (.int p4), .val (.int p5), .val (.int (1 : Int32)), .val (.int (1 : Int32)), .val (.ref b8), .val (.long (16448 : Int64)), .second, .val (.ref b6), .unset, .unset, .unset] [(.long ((48 : Int64) + ((((((16 : Int64) + ((16384 : Int32).toInt64)) + (8 : Int64)) - (1 : Int64)) / (8 : Int64)) * (8 : Int64))))])) _
    refine XS.lstore X10.here hx rfl (hb hby at_120) rfl (l' := #[.val (.int p1), .val (.int p2), .val (.long q3), .second, .val (.int p4), .val (.int p5), .val (.int (1 : Int32)), .val (.int (1 : Int32)), .val (.ref b8), .val (.long (16448 : Int64)), .second, .val (.long ((48 : Int64) + ((((((16 : Int64) + ((16384 : Int32).toInt64)) + (8 : Int64)) - (1 : Int64)) / (8 : Int64)) * (8 : Int64)))), .second, .unset, .unset]) rfl ?_
    show Steps p.tables e below (T10.setTop (mkF m 122 #[.val (.int p1), .val (.int p2), .val (.long q3), .second, .val (.int p4), .val (.int p5), .val (.int (1 : Int32)), .val (.int (1 : Int32)), .val (.ref b8), .val (.long (16448 : Int64)), .second, .val (.long ((48 : Int64) + ((((((16 : Int64) + ((16384 : Int32).toInt64)) + (8 : Int64)) - (1 : Int64)) / (8 : Int64)) * (8 : Int64)))), .second, .unset, .unset] [])) _
    refine XS.aload X10.here hx rfl (hb hby at_122) rfl rfl ?_
    show Steps p.tables e below (T10.setTop (mkF m 124 #[.val (.int p1), .val (.int p2), .val (.long q3), .second, .val (.int p4), .val (.int p5), .val (.int (1 : Int32)), .val (.int (1 : Int32)), .val (.ref b8), .val (.long (16448 : Int64)), .second, .val (.long ((48 : Int64) + ((((((16 : Int64) + ((16384 : Int32).toInt64)) + (8 : Int64)) - (1 : Int64)) / (8 : Int64)) * (8 : Int64)))), .second, .unset, .unset] [(.ref b8)])) _
    refine st11.trans ?_
    show Steps p.tables e below (T11.setTop (mkF m 127 #[.val (.int p1), .val (.int p2), .val (.long q3), .second, .val (.int p4), .val (.int p5), .val (.int (1 : Int32)), .val (.int (1 : Int32)), .val (.ref b8), .val (.long (16448 : Int64)), .second, .val (.long ((48 : Int64) + ((((((16 : Int64) + ((16384 : Int32).toInt64)) + (8 : Int64)) - (1 : Int64)) / (8 : Int64)) * (8 : Int64)))), .second, .unset, .unset] [(.long ((48 : Int64) + ((((((16 : Int64) + ((16384 : Int32).toInt64)) + (8 : Int64)) - (1 : Int64)) / (8 : Int64)) * (8 : Int64))))])) _
    refine XS.lstore X11.here hx rfl (hb hby at_127) rfl (l' := #[.val (.int p1), .val (.int p2), .val (.long q3), .second, .val (.int p4), .val (.int p5), .val (.int (1 : Int32)), .val (.int (1 : Int32)), .val (.ref b8), .val (.long (16448 : Int64)), .second, .val (.long ((48 : Int64) + ((((((16 : Int64) + ((16384 : Int32).toInt64)) + (8 : Int64)) - (1 : Int64)) / (8 : Int64)) * (8 : Int64)))), .second, .val (.long ((48 : Int64) + ((((((16 : Int64) + ((16384 : Int32).toInt64)) + (8 : Int64)) - (1 : Int64)) / (8 : Int64)) * (8 : Int64)))), .second]) rfl ?_
    show Steps p.tables e below (T11.setTop (mkF m 129 #[.val (.int p1), .val (.int p2), .val (.long q3), .second, .val (.int p4), .val (.int p5), .val (.int (1 : Int32)), .val (.int (1 : Int32)), .val (.ref b8), .val (.long (16448 : Int64)), .second, .val (.long ((48 : Int64) + ((((((16 : Int64) + ((16384 : Int32).toInt64)) + (8 : Int64)) - (1 : Int64)) / (8 : Int64)) * (8 : Int64)))), .second, .val (.long ((48 : Int64) + ((((((16 : Int64) + ((16384 : Int32).toInt64)) + (8 : Int64)) - (1 : Int64)) / (8 : Int64)) * (8 : Int64)))), .second] [])) _
    refine XS.lload X11.here hx rfl (hb hby at_129) rfl ?_
    show Steps p.tables e below (T11.setTop (mkF m 131 #[.val (.int p1), .val (.int p2), .val (.long q3), .second, .val (.int p4), .val (.int p5), .val (.int (1 : Int32)), .val (.int (1 : Int32)), .val (.ref b8), .val (.long (16448 : Int64)), .second, .val (.long ((48 : Int64) + ((((((16 : Int64) + ((16384 : Int32).toInt64)) + (8 : Int64)) - (1 : Int64)) / (8 : Int64)) * (8 : Int64)))), .second, .val (.long ((48 : Int64) + ((((((16 : Int64) + ((16384 : Int32).toInt64)) + (8 : Int64)) - (1 : Int64)) / (8 : Int64)) * (8 : Int64)))), .second] [(.long ((48 : Int64) + ((((((16 : Int64) + ((16384 : Int32).toInt64)) + (8 : Int64)) - (1 : Int64)) / (8 : Int64)) * (8 : Int64))))])) _
    refine XS.lload X11.here hx rfl (hb hby at_131) rfl ?_
    show Steps p.tables e below (T11.setTop (mkF m 133 #[.val (.int p1), .val (.int p2), .val (.long q3), .second, .val (.int p4), .val (.int p5), .val (.int (1 : Int32)), .val (.int (1 : Int32)), .val (.ref b8), .val (.long (16448 : Int64)), .second, .val (.long ((48 : Int64) + ((((((16 : Int64) + ((16384 : Int32).toInt64)) + (8 : Int64)) - (1 : Int64)) / (8 : Int64)) * (8 : Int64)))), .second, .val (.long ((48 : Int64) + ((((((16 : Int64) + ((16384 : Int32).toInt64)) + (8 : Int64)) - (1 : Int64)) / (8 : Int64)) * (8 : Int64)))), .second] [(.long (16448 : Int64)), (.long ((48 : Int64) + ((((((16 : Int64) + ((16384 : Int32).toInt64)) + (8 : Int64)) - (1 : Int64)) / (8 : Int64)) * (8 : Int64))))])) _
    refine XS.lcmp X11.here hx rfl (hb hby at_133) rfl ?_
    show Steps p.tables e below (T11.setTop (mkF m 134 #[.val (.int p1), .val (.int p2), .val (.long q3), .second, .val (.int p4), .val (.int p5), .val (.int (1 : Int32)), .val (.int (1 : Int32)), .val (.ref b8), .val (.long (16448 : Int64)), .second, .val (.long ((48 : Int64) + ((((((16 : Int64) + ((16384 : Int32).toInt64)) + (8 : Int64)) - (1 : Int64)) / (8 : Int64)) * (8 : Int64)))), .second, .val (.long ((48 : Int64) + ((((((16 : Int64) + ((16384 : Int32).toInt64)) + (8 : Int64)) - (1 : Int64)) / (8 : Int64)) * (8 : Int64)))), .second] [(.int (lcmpW ((48 : Int64) + ((((((16 : Int64) + ((16384 : Int32).toInt64)) + (8 : Int64)) - (1 : Int64)) / (8 : Int64)) * (8 : Int64))) (16448 : Int64)))])) _
    refine XS.ifNo X11.here hx rfl (hb hby at_134) rfl ((if0 _ _).trans (teq (own_16448 : (lcmpW ((48 : Int64) + ((((((16 : Int64) + ((16384 : Int32).toInt64)) + (8 : Int64)) - (1 : Int64)) / (8 : Int64)) * (8 : Int64))) (16448 : Int64)) = (0 : Int32))).2) ?_
    show Steps p.tables e below (T11.setTop (mkF m 137 #[.val (.int p1), .val (.int p2), .val (.long q3), .second, .val (.int p4), .val (.int p5), .val (.int (1 : Int32)), .val (.int (1 : Int32)), .val (.ref b8), .val (.long (16448 : Int64)), .second, .val (.long ((48 : Int64) + ((((((16 : Int64) + ((16384 : Int32).toInt64)) + (8 : Int64)) - (1 : Int64)) / (8 : Int64)) * (8 : Int64)))), .second, .val (.long ((48 : Int64) + ((((((16 : Int64) + ((16384 : Int32).toInt64)) + (8 : Int64)) - (1 : Int64)) / (8 : Int64)) * (8 : Int64)))), .second] [])) _
    refine XS.lload X11.here hx rfl (hb hby at_137) rfl ?_
    show Steps p.tables e below (T11.setTop (mkF m 139 #[.val (.int p1), .val (.int p2), .val (.long q3), .second, .val (.int p4), .val (.int p5), .val (.int (1 : Int32)), .val (.int (1 : Int32)), .val (.ref b8), .val (.long (16448 : Int64)), .second, .val (.long ((48 : Int64) + ((((((16 : Int64) + ((16384 : Int32).toInt64)) + (8 : Int64)) - (1 : Int64)) / (8 : Int64)) * (8 : Int64)))), .second, .val (.long ((48 : Int64) + ((((((16 : Int64) + ((16384 : Int32).toInt64)) + (8 : Int64)) - (1 : Int64)) / (8 : Int64)) * (8 : Int64)))), .second] [(.long ((48 : Int64) + ((((((16 : Int64) + ((16384 : Int32).toInt64)) + (8 : Int64)) - (1 : Int64)) / (8 : Int64)) * (8 : Int64))))])) _
    refine XS.lload X11.here hx rfl (hb hby at_139) rfl ?_
    show Steps p.tables e below (T11.setTop (mkF m 141 #[.val (.int p1), .val (.int p2), .val (.long q3), .second, .val (.int p4), .val (.int p5), .val (.int (1 : Int32)), .val (.int (1 : Int32)), .val (.ref b8), .val (.long (16448 : Int64)), .second, .val (.long ((48 : Int64) + ((((((16 : Int64) + ((16384 : Int32).toInt64)) + (8 : Int64)) - (1 : Int64)) / (8 : Int64)) * (8 : Int64)))), .second, .val (.long ((48 : Int64) + ((((((16 : Int64) + ((16384 : Int32).toInt64)) + (8 : Int64)) - (1 : Int64)) / (8 : Int64)) * (8 : Int64)))), .second] [(.long ((48 : Int64) + ((((((16 : Int64) + ((16384 : Int32).toInt64)) + (8 : Int64)) - (1 : Int64)) / (8 : Int64)) * (8 : Int64)))), (.long ((48 : Int64) + ((((((16 : Int64) + ((16384 : Int32).toInt64)) + (8 : Int64)) - (1 : Int64)) / (8 : Int64)) * (8 : Int64))))])) _
    refine XS.lcmp X11.here hx rfl (hb hby at_141) rfl ?_
    show Steps p.tables e below (T11.setTop (mkF m 142 #[.val (.int p1), .val (.int p2), .val (.long q3), .second, .val (.int p4), .val (.int p5), .val (.int (1 : Int32)), .val (.int (1 : Int32)), .val (.ref b8), .val (.long (16448 : Int64)), .second, .val (.long ((48 : Int64) + ((((((16 : Int64) + ((16384 : Int32).toInt64)) + (8 : Int64)) - (1 : Int64)) / (8 : Int64)) * (8 : Int64)))), .second, .val (.long ((48 : Int64) + ((((((16 : Int64) + ((16384 : Int32).toInt64)) + (8 : Int64)) - (1 : Int64)) / (8 : Int64)) * (8 : Int64)))), .second] [(.int (lcmpW ((48 : Int64) + ((((((16 : Int64) + ((16384 : Int32).toInt64)) + (8 : Int64)) - (1 : Int64)) / (8 : Int64)) * (8 : Int64))) ((48 : Int64) + ((((((16 : Int64) + ((16384 : Int32).toInt64)) + (8 : Int64)) - (1 : Int64)) / (8 : Int64)) * (8 : Int64)))))])) _
    refine XS.ifNo X11.here hx rfl (hb hby at_142) rfl ((if0 _ _).trans (teq (own_lc _ : (lcmpW ((48 : Int64) + ((((((16 : Int64) + ((16384 : Int32).toInt64)) + (8 : Int64)) - (1 : Int64)) / (8 : Int64)) * (8 : Int64))) ((48 : Int64) + ((((((16 : Int64) + ((16384 : Int32).toInt64)) + (8 : Int64)) - (1 : Int64)) / (8 : Int64)) * (8 : Int64)))) = (0 : Int32))).2) ?_
    show Steps p.tables e below (T11.setTop (mkF m 145 #[.val (.int p1), .val (.int p2), .val (.long q3), .second, .val (.int p4), .val (.int p5), .val (.int (1 : Int32)), .val (.int (1 : Int32)), .val (.ref b8), .val (.long (16448 : Int64)), .second, .val (.long ((48 : Int64) + ((((((16 : Int64) + ((16384 : Int32).toInt64)) + (8 : Int64)) - (1 : Int64)) / (8 : Int64)) * (8 : Int64)))), .second, .val (.long ((48 : Int64) + ((((((16 : Int64) + ((16384 : Int32).toInt64)) + (8 : Int64)) - (1 : Int64)) / (8 : Int64)) * (8 : Int64)))), .second] [])) _
    refine XS.iconst X11.here hx rfl (hb hby at_145) ?_
    show Steps p.tables e below (T11.setTop (mkF m 146 #[.val (.int p1), .val (.int p2), .val (.long q3), .second, .val (.int p4), .val (.int p5), .val (.int (1 : Int32)), .val (.int (1 : Int32)), .val (.ref b8), .val (.long (16448 : Int64)), .second, .val (.long ((48 : Int64) + ((((((16 : Int64) + ((16384 : Int32).toInt64)) + (8 : Int64)) - (1 : Int64)) / (8 : Int64)) * (8 : Int64)))), .second, .val (.long ((48 : Int64) + ((((((16 : Int64) + ((16384 : Int32).toInt64)) + (8 : Int64)) - (1 : Int64)) / (8 : Int64)) * (8 : Int64)))), .second] [(.int (1 : Int32))])) _
    refine XS.goto X11.here hx rfl (pc0 := 146) (pc' := 150) rfl (hb hby at_146) (by decide) (by decide) ?_
    show Steps p.tables e below (T11.setTop (mkF m 150 #[.val (.int p1), .val (.int p2), .val (.long q3), .second, .val (.int p4), .val (.int p5), .val (.int (1 : Int32)), .val (.int (1 : Int32)), .val (.ref b8), .val (.long (16448 : Int64)), .second, .val (.long ((48 : Int64) + ((((((16 : Int64) + ((16384 : Int32).toInt64)) + (8 : Int64)) - (1 : Int64)) / (8 : Int64)) * (8 : Int64)))), .second, .val (.long ((48 : Int64) + ((((((16 : Int64) + ((16384 : Int32).toInt64)) + (8 : Int64)) - (1 : Int64)) / (8 : Int64)) * (8 : Int64)))), .second] [(.int (1 : Int32))])) _
    exact retN X11 hx (t := .boolean) Bd.returns (by simp) (hb hby at_150) hr
  · show Q0 Z p1 p2 q3 p4 p5 h0 n0 _ T11.heap _
    exact ⟨rfl, N11⟩
theorem rm0 (l : Launch) (Z : State) (a0 : Array Value) (hw : ∀ d ∈ tables_1, d.before a0 Z = true) (ws : List Jvm.Cond) (p1 : Int32) (p2 : Int32) (q3 : Int64) (p4 : Int32) (p5 : Int32) (h0 : Heap) (n0 : Nat) (Z0 : n0 ≤ h0.size)   :
    MetFree l x (head1 (Jvm.Cond.code x code maxLocals ret :: ws) room_1) (fun a U => a = #[(.int p1), (.int p2), (.long q3), (.int p4), (.int p5)] ∧ Z.Warmed39 U.vm ∧ U.heap = h0) (fun _ _ _ _ _ => True) (fun _ U o U' => ∃ v L, o = .returned v ∧ Q0 Z p1 p2 q3 p4 p5 h0 n0 v U'.heap L ∧ FrameEnd U o U' L room_1.cells room_1.slots) := by
  by_cases hc3 : (p1 &&& (1 : Int32)) = (0 : Int32)
  · by_cases hc16 : (p1 &&& (2 : Int32)) = (0 : Int32)
    · exact rm0_ttttff l Z a0 hw ws p1 p2 q3 p4 p5 h0 n0 Z0 hc3 hc16
    · exact rm0_tftfff l Z a0 hw ws p1 p2 q3 p4 p5 h0 n0 Z0 hc3 hc16 (by decide)
  · by_cases hc16 : (p1 &&& (2 : Int32)) = (0 : Int32)
    · exact rm0_ftfff l Z a0 hw ws p1 p2 q3 p4 p5 h0 n0 Z0 hc3 hc16 (by decide)
    · exact rm0_fffff l Z a0 hw ws p1 p2 q3 p4 p5 h0 n0 Z0 hc3 hc16 (by decide)
set_option maxRecDepth 65536 in
set_option maxHeartbeats 40000000 in
theorem comes_1 {Post : Tables → Env → Array Value → State → Outcome → State → Prop} (hpost : ∀ tb e args s v u, (limb_1_1.after args s (.returned v) u = true ∧ limb_1_2.after args s (.returned v) u = true ∧ True) → FrameEnd s (.returned v) u (Jvm.fieldLocs frame_1_writes args s ++ Jvm.arrayLocs frame_1_arrays args s ++ Jvm.staticLocs frame_1_statics s) 24 32896 → Post tb e args s (.returned v) u) :
    ArmFor flags0 classFile x code maxLocals ret World_1 tables_1 room_1 Calls_1 rest_1 Pre_1 Post := by
  intro l hfl _ _ p e ha hc hk s m args below hf hA hF happ hP
  obtain ⟨hcalls, hrest, hpre⟩ := hP
  obtain ⟨-, -, -, hnamed, -, -, -, hat⟩ := (Spec.applies_iff hf).mp happ
  obtain ⟨hg, hn⟩ := and_e (Cond.before_iff.mp (show (Jvm.Cond.and given_1 narrow_1).before args s = true from hpre))
  obtain ⟨g11, g12⟩ := and_e hg
  obtain ⟨g13, g14⟩ := and_e g12
  obtain ⟨g15, g16⟩ := and_e g14
  obtain ⟨g17, g18⟩ := and_e g16
  obtain ⟨g19, g20⟩ := and_e g18
  obtain ⟨w0, w1, w2, w3, w4, rfl⟩ : ∃ w0 w1 w2 w3 w4 : Value, args = #[w0, w1, w2, w3, w4] := by
    have hs : args.size = 5 := by simpa [Cond.value, given_1] using g11
    obtain ⟨L⟩ := args
    match L, hs with
    | [w0, w1, w2, w3, w4], _ => exact ⟨w0, w1, w2, w3, w4, rfl⟩
  have hw := fun d (hd : d ∈ tables_1) => atoms_spec (ws := Jvm.Cond.code x code maxLocals ret :: tables_1) hat d (List.mem_cons_of_mem _ hd)
  have hfit : Fit s := fun {y c} hc i hi => by
    obtain ⟨ha, rfl⟩ := Array.getElem?_eq_some_iff.mp hc
    have q := List.all_eq_true.mp ((Array.all_eq_true_iff_forall_mem.mp hF) _ (Array.getElem_mem ha)) i (List.mem_range.mpr hi)
    simpa [Array.getElem?_eq_getElem hi] using q
  obtain ⟨i0, ei0⟩ := is_v g13
  obtain rfl : w0 = (.int i0) := Option.some.inj ei0
  obtain ⟨i1, ei1⟩ := is_v g15
  obtain rfl : w1 = (.int i1) := Option.some.inj ei1
  obtain ⟨i2, ei2⟩ := isL_v g17
  obtain rfl : w2 = (.long i2) := Option.some.inj ei2
  obtain ⟨i3, ei3⟩ := is_v g19
  obtain rfl : w3 = (.int i3) := Option.some.inj ei3
  obtain ⟨i4, ei4⟩ := is_v g20
  obtain rfl : w4 = (.int i4) := Option.some.inj ei4
  obtain ⟨n, o, h1, h2, h3, _, L, rfl, ⟨rfl, N⟩, hq⟩ := rm0 l s _ hw tables_1 i0 i1 i2 i3 i4 s.heap s.heap.size (Nat.le_refl _) p e ha hc hk s m _ below hf ((Spec.applies_iff_loose hf).mp happ).1 ⟨rfl, State.Warmed39.refl s, rfl⟩ trivial
  refine ⟨n, _, h1, h2, h3, hpost _ _ _ _ _ _ ⟨Cond.after_iff.mpr rfl, Cond.after_iff.mpr (eq_i res_at (Term.int_eval (1)) rfl), trivial⟩ ⟨hq.1, hq.2.1, (hq.2.2.sift fun y hy => Or.inr (N y hy)).mono (by decide) (by decide)⟩⟩
theorem main_1_1 : Claimed_1_1 := comes_1 fun _ _ _ _ _ _ h hF => ⟨h.1, hF⟩
theorem main_1_2 : Claimed_1_2 := comes_1 fun _ _ _ _ _ _ h hF => ⟨h.2.1, hF⟩
end Jvm.Pilot.@@N@@
namespace Jvm.Pilot.@@N@@
open Jvm Jvm.ClassFile Sem Op Lib Jvm.Free Jvm.Stand Jvm.Pilot.@@N@@.Jvm.D
/-! MADE BY PROGRAM (witnessworld.py) out of the Statement's table words and the real class files: 19 classes; the members and pool entries that the words name. The judged class is class 1, her method 1. -/
namespace start1
open Jvm.ClassFile
def u (s : String) : CpInfo := .utf8 (stringToUtf16 s)
/-- a pool by its gaps: so many unusable entries, then the entry; so many at the end -/
def gap : Nat → List CpInfo → List CpInfo
  | 0, r => r
  | n + 1, r => .unusable :: gap n r
def poolList (es : List (Nat × CpInfo)) (last : Nat) : List CpInfo := es.foldr (fun e r => gap e.1 (e.2 :: r)) (gap last [])
def pool (es : List (Nat × CpInfo)) (last : Nat) : Array CpInfo := ⟨poolList es last⟩
def fileOf (pool : Array CpInfo) (this : Nat) (attrs : Array Attribute := #[]) (ms : Array MethodInfo := #[]) (fl : Nat := 33) (sup : Nat := 0) (ifs : Array Nat := #[]) (fds : Array FieldInfo := #[]) : ClassFile where
  minorVersion := 0
  majorVersion := 65
  constantPool := pool
  accessFlags := fl
  thisClass := this
  superClass := sup
  interfaces := ifs
  fields := fds
  methods := ms
  attributes := attrs
def plain (name : String) (sup : Option ClassId) : Class where
  name := name
  kind := .ordinary
  loader := none
  accessFlags := 33
  super := sup
  interfaces := #[]
  cf := none
  fields := #[]
  methods := #[]
  instanceTypes := #[]
  staticTypes := #[]
  resolved := #[]
  callSites := []
  init := .initialized
  statics := none
  mirror := none

def pool0 : Array CpInfo := pool [(5, u "<init>"), (0, u "()V"), (1, .class_ 10), (1, u "java/lang/Object")] 113

def k0c0 : Code := { maxStack := 0, maxLocals := 1, code := object_method_1_code, exceptionTable := #[], attributes := #[] }
def k0m0 : Method := { name := "<init>", desc := "()V", sig := { parameters := [], returnType := none }, accessFlags := 1, code := some k0c0 }
/-- java/lang/Object -/
def k0 : Class := { plain "java/lang/Object" none with
  accessFlags := 33
  interfaces := #[]
  cf := some (fileOf pool0 8 #[] #[{ accessFlags := 1, nameIndex := 5, descriptorIndex := 6, attributes := #[] }] 33 0 #[] #[])
  fields := #[]
  methods := #[k0m0]
  instanceTypes := #[]
  staticTypes := #[]
  resolved := Array.replicate 124 none
  statics := none }

def pool1 : Array CpInfo := pool [(2, .class_ 4), (0, .nameAndType 5 6), (0, u "java/lang/Object"), (0, u "<init>"), (0, u "()V"), (0, .class_ 8), (0, u "com/example/hakari/hakari/Counter"), (0, .methodref 7 10), (0, .nameAndType 5 11), (0, u "([BIJ)V"), (0, .long 16448), (1, .methodref 7 3), (0, .long 144), (1, .methodref 18 19), (0, .class_ 20), (0, .nameAndType 21 22), (0, u "com/example/hakari/hakari/SparseRegisters"), (0, u "empty"), (0, u "()Lcom/example/hakari/hakari/SparseRegisters;"), (0, .methodref 7 24), (0, .nameAndType 5 25), (0, u "(Lcom/example/hakari/hakari/SparseRegisters;IJ)V"), (0, .methodref 7 27), (0, .nameAndType 28 29), (0, u "heapBytes"), (0, u "()J"), (0, .class_ 31), (0, u "com/example/hakari/hakari/CounterHeapBytesPinLaw"), (2, u "law"), (0, u "(IIJII)Z")] 3

def k1m0 : Method := { name := "<init>", desc := "()V", sig := { parameters := [], returnType := none }, accessFlags := 1, code := none }
def k1c1 : Code := { maxStack := 6, maxLocals := 15, code := code, exceptionTable := #[], attributes := #[] }
def k1m1 : Method := { name := "law", desc := "(IIJII)Z", sig := { parameters := [.int, .int, .long, .int, .int], returnType := some .boolean }, accessFlags := 9, code := some k1c1 }
/-- com/example/hakari/hakari/CounterHeapBytesPinLaw -/
def k1 : Class := { plain "com/example/hakari/hakari/CounterHeapBytesPinLaw" (some 0) with
  accessFlags := 49
  interfaces := #[]
  cf := some (fileOf pool1 30 #[] #[{ accessFlags := 1, nameIndex := 5, descriptorIndex := 6, attributes := #[] }, { accessFlags := 9, nameIndex := 34, descriptorIndex := 35, attributes := #[] }] 49 2 #[] #[])
  fields := #[]
  methods := #[k1m0, k1m1]
  instanceTypes := #[]
  staticTypes := #[]
  resolved := Array.replicate 39 none
  statics := none }

def pool2 : Array CpInfo := pool [(1, .class_ 2), (0, u "com/example/hakari/hakari/Counter"), (2, .methodref 6 7), (0, .class_ 8), (0, .nameAndType 9 10), (0, u "com/example/hakari/hakari/SparseRegisters"), (0, u "empty"), (0, u "()Lcom/example/hakari/hakari/SparseRegisters;"), (0, .long 9223372036854775808), (1, .methodref 1 14), (0, .nameAndType 15 16), (0, u "<init>"), (0, u "(Lcom/example/hakari/hakari/SparseRegisters;IJ)V"), (0, .methodref 18 19), (0, .class_ 20), (0, .nameAndType 15 21), (0, u "java/lang/Object"), (0, u "()V"), (9, .fieldref 1 32), (0, .nameAndType 33 34), (0, u "dense"), (0, u "[B"), (0, .fieldref 1 36), (0, .nameAndType 37 38), (0, u "unused"), (0, u "I"), (0, .fieldref 1 40), (0, .nameAndType 41 42), (0, u "cachedCount"), (0, u "J"), (0, .fieldref 1 44), (0, .nameAndType 45 46), (0, u "sparse"), (0, u "Lcom/example/hakari/hakari/SparseRegisters;"), (79, .class_ 127), (0, u "com/example/hakari/hakari/Counter$Merge"), (34, u "()J"), (0, .long 48), (1, .methodref 166 167), (0, .class_ 168), (0, .nameAndType 169 170), (0, u "com/example/hakari/hakari/HeapSize"), (0, u "byteArray"), (0, u "(J)J"), (0, .methodref 6 172), (0, .nameAndType 173 162), (0, u "heapBytes"), (20, u "DENSE_HEAP_BYTES"), (0, u "INDEX_BITS"), (2, u "REGISTER_COUNT"), (1, u "MAX_RANK"), (1, u "MAX_VALUE"), (1, u "STALE"), (0, u "INDEX_MASK"), (0, u "RANK_STOP"), (0, u "SPARSE_MAX_CODE"), (1, u "OBJECT_BYTES"), (3, u "([BIJ)V")] 36

def k2c0 : Code := { maxStack := 5, maxLocals := 1, code := prog_8_method_1_code, exceptionTable := #[], attributes := #[] }
def k2m0 : Method := { name := "<init>", desc := "()V", sig := { parameters := [], returnType := none }, accessFlags := 1, code := some k2c0 }
def k2c1 : Code := { maxStack := 3, maxLocals := 5, code := prog_8_method_2_code, exceptionTable := #[], attributes := #[] }
def k2m1 : Method := { name := "<init>", desc := "([BIJ)V", sig := { parameters := [(.array .byte), .int, .long], returnType := none }, accessFlags := 0, code := some k2c1 }
def k2c2 : Code := { maxStack := 3, maxLocals := 5, code := prog_8_method_3_code, exceptionTable := #[], attributes := #[] }
def k2m2 : Method := { name := "<init>", desc := "(Lcom/example/hakari/hakari/SparseRegisters;IJ)V", sig := { parameters := [(.object "com/example/hakari/hakari/SparseRegisters"), .int, .long], returnType := none }, accessFlags := 0, code := some k2c2 }
def k2c3 : Code := { maxStack := 4, maxLocals := 1, code := prog_8_method_13_code, exceptionTable := #[], attributes := #[] }
def k2m3 : Method := { name := "heapBytes", desc := "()J", sig := { parameters := [], returnType := some .long }, accessFlags := 0, code := some k2c3 }
/-- com/example/hakari/hakari/Counter -/
def k2 : Class := { plain "com/example/hakari/hakari/Counter" (some 0) with
  accessFlags := 33
  interfaces := #[]
  cf := some (fileOf pool2 1 #[.nestMembers #[126]] #[{ accessFlags := 1, nameIndex := 15, descriptorIndex := 21, attributes := #[] }, { accessFlags := 0, nameIndex := 15, descriptorIndex := 213, attributes := #[] }, { accessFlags := 0, nameIndex := 15, descriptorIndex := 16, attributes := #[] }, { accessFlags := 0, nameIndex := 173, descriptorIndex := 162, attributes := #[] }] 33 18 #[] #[{ accessFlags := 26, nameIndex := 195, descriptorIndex := 38, attributes := #[] }, { accessFlags := 24, nameIndex := 198, descriptorIndex := 38, attributes := #[] }, { accessFlags := 24, nameIndex := 200, descriptorIndex := 38, attributes := #[] }, { accessFlags := 24, nameIndex := 202, descriptorIndex := 38, attributes := #[] }, { accessFlags := 26, nameIndex := 204, descriptorIndex := 42, attributes := #[] }, { accessFlags := 26, nameIndex := 205, descriptorIndex := 42, attributes := #[] }, { accessFlags := 26, nameIndex := 206, descriptorIndex := 42, attributes := #[] }, { accessFlags := 26, nameIndex := 207, descriptorIndex := 38, attributes := #[] }, { accessFlags := 26, nameIndex := 209, descriptorIndex := 38, attributes := #[] }, { accessFlags := 24, nameIndex := 194, descriptorIndex := 42, attributes := #[] }, { accessFlags := 2, nameIndex := 33, descriptorIndex := 34, attributes := #[] }, { accessFlags := 2, nameIndex := 45, descriptorIndex := 46, attributes := #[] }, { accessFlags := 18, nameIndex := 37, descriptorIndex := 38, attributes := #[] }, { accessFlags := 2, nameIndex := 41, descriptorIndex := 42, attributes := #[] }])
  fields := #[{ name := "INDEX_BITS", type := .int, accessFlags := 26, slot := 0, constantValue := 0 }, { name := "REGISTER_COUNT", type := .int, accessFlags := 24, slot := 1, constantValue := 0 }, { name := "MAX_RANK", type := .int, accessFlags := 24, slot := 2, constantValue := 0 }, { name := "MAX_VALUE", type := .int, accessFlags := 24, slot := 3, constantValue := 0 }, { name := "STALE", type := .long, accessFlags := 26, slot := 4, constantValue := 0 }, { name := "INDEX_MASK", type := .long, accessFlags := 26, slot := 5, constantValue := 0 }, { name := "RANK_STOP", type := .long, accessFlags := 26, slot := 6, constantValue := 0 }, { name := "SPARSE_MAX_CODE", type := .int, accessFlags := 26, slot := 7, constantValue := 0 }, { name := "OBJECT_BYTES", type := .int, accessFlags := 26, slot := 8, constantValue := 0 }, { name := "DENSE_HEAP_BYTES", type := .long, accessFlags := 24, slot := 9, constantValue := 0 }, { name := "dense", type := (.array .byte), accessFlags := 2, slot := 0, constantValue := 0 }, { name := "sparse", type := (.object "com/example/hakari/hakari/SparseRegisters"), accessFlags := 2, slot := 1, constantValue := 0 }, { name := "unused", type := .int, accessFlags := 18, slot := 2, constantValue := 0 }, { name := "cachedCount", type := .long, accessFlags := 2, slot := 3, constantValue := 0 }]
  methods := #[k2m0, k2m1, k2m2, k2m3]
  instanceTypes := #[(.array .byte), (.object "com/example/hakari/hakari/SparseRegisters"), .int, .long]
  staticTypes := #[.int, .int, .int, .int, .long, .long, .long, .int, .int, .long]
  resolved := Array.replicate 250 none
  statics := none }

def pool3 : Array CpInfo := pool [(1, .methodref 2 3), (0, .class_ 4), (0, .nameAndType 5 6), (0, u "java/lang/Object"), (0, u "<init>"), (0, u "()V"), (0, .fieldref 8 9), (0, .class_ 10), (0, .nameAndType 11 12), (0, u "com/example/hakari/hakari/SparseRegisters"), (0, u "bytes"), (0, u "[B"), (0, .fieldref 8 14), (0, .nameAndType 15 16), (0, u "length"), (0, u "I"), (0, .fieldref 8 18), (0, .nameAndType 19 20), (0, u "shortest"), (0, u "Z"), (0, .fieldref 8 22), (0, .nameAndType 23 24), (0, u "blocks"), (0, u "[C"), (2, .methodref 28 29), (0, .class_ 30), (0, .nameAndType 31 32), (0, u "java/lang/Integer"), (0, u "numberOfTrailingZeros"), (0, u "(I)I"), (0, .fieldref 8 34), (0, .nameAndType 35 16), (0, u "blockBits"), (0, .class_ 37), (0, u "com/example/hakari/hakari/SparseRegisters$Writer"), (0, .methodref 36 39), (0, .nameAndType 5 40), (0, u "([BI)V"), (0, .methodref 36 42), (0, .nameAndType 43 44), (0, u "run"), (0, u "(II)V"), (0, .methodref 36 46), (0, .nameAndType 47 48), (0, u "finish"), (0, u "()I"), (0, .methodref 8 50), (0, .nameAndType 5 51), (0, u "([BIZ)V"), (0, .class_ 53), (0, u "com/example/hakari/hakari/SparseRegisters$Cursor"), (40, u "empty"), (6, .class_ 103), (1, u "com/example/hakari/hakari/SparseRegisters$Raise"), (45, u "putOpcode"), (0, u "([BIII)I"), (23, .class_ 175), (0, u "com/example/hakari/hakari/SparseRegisters$Runs"), (67, .long 48), (1, .methodref 246 247), (0, .class_ 248), (0, .nameAndType 249 250), (0, u "com/example/hakari/hakari/HeapSize"), (0, u "byteArray"), (0, u "(J)J"), (0, .methodref 246 252), (0, .nameAndType 253 250), (0, u "charArray"), (0, u "MAX_VALUE"), (2, u "ZERO_RUN"), (1, u "VAL_RUN"), (1, u "XZERO"), (0, u "VAL"), (1, u "EMPTY_ROOM"), (1, u "BLOCK_BYTES"), (1, u "GROWTH"), (1, u "MAX_BLOCKS"), (0, u "ROOM"), (0, u "NEAR"), (0, u "START"), (1, u "LENGTH"), (1, u "FIRST"), (0, u "ENTRY"), (1, u "OBJECT_BYTES"), (3, u "()Lcom/example/hakari/hakari/SparseRegisters;"), (15, u "heapBytes"), (0, u "()J")] 23

def k3c0 : Code := { maxStack := 5, maxLocals := 4, code := prog_41_method_1_code, exceptionTable := #[], attributes := #[] }
def k3m0 : Method := { name := "<init>", desc := "([BIZ)V", sig := { parameters := [(.array .byte), .int, .boolean], returnType := none }, accessFlags := 2, code := some k3c0 }
def k3c1 : Code := { maxStack := 5, maxLocals := 2, code := prog_41_method_2_code, exceptionTable := #[], attributes := #[] }
def k3m1 : Method := { name := "empty", desc := "()Lcom/example/hakari/hakari/SparseRegisters;", sig := { parameters := [], returnType := some (.object "com/example/hakari/hakari/SparseRegisters") }, accessFlags := 8, code := some k3c1 }
def k3c2 : Code := { maxStack := 5, maxLocals := 4, code := prog_41_method_8_code, exceptionTable := #[], attributes := #[] }
def k3m2 : Method := { name := "putOpcode", desc := "([BIII)I", sig := { parameters := [(.array .byte), .int, .int, .int], returnType := some .int }, accessFlags := 10, code := some k3c2 }
def k3c3 : Code := { maxStack := 4, maxLocals := 1, code := prog_41_method_34_code, exceptionTable := #[], attributes := #[] }
def k3m3 : Method := { name := "heapBytes", desc := "()J", sig := { parameters := [], returnType := some .long }, accessFlags := 0, code := some k3c3 }
/-- com/example/hakari/hakari/SparseRegisters -/
def k3 : Class := { plain "com/example/hakari/hakari/SparseRegisters" (some 0) with
  accessFlags := 32
  interfaces := #[]
  cf := some (fileOf pool3 8 #[.nestMembers #[36, 174, 52, 101]] #[{ accessFlags := 2, nameIndex := 5, descriptorIndex := 51, attributes := #[] }, { accessFlags := 8, nameIndex := 94, descriptorIndex := 284, attributes := #[] }, { accessFlags := 10, nameIndex := 149, descriptorIndex := 150, attributes := #[] }, { accessFlags := 0, nameIndex := 300, descriptorIndex := 301, attributes := #[] }] 32 2 #[] #[{ accessFlags := 24, nameIndex := 254, descriptorIndex := 16, attributes := #[] }, { accessFlags := 26, nameIndex := 257, descriptorIndex := 16, attributes := #[] }, { accessFlags := 26, nameIndex := 259, descriptorIndex := 16, attributes := #[] }, { accessFlags := 26, nameIndex := 261, descriptorIndex := 16, attributes := #[] }, { accessFlags := 26, nameIndex := 262, descriptorIndex := 16, attributes := #[] }, { accessFlags := 26, nameIndex := 264, descriptorIndex := 16, attributes := #[] }, { accessFlags := 26, nameIndex := 266, descriptorIndex := 16, attributes := #[] }, { accessFlags := 26, nameIndex := 268, descriptorIndex := 16, attributes := #[] }, { accessFlags := 26, nameIndex := 270, descriptorIndex := 16, attributes := #[] }, { accessFlags := 26, nameIndex := 271, descriptorIndex := 16, attributes := #[] }, { accessFlags := 26, nameIndex := 272, descriptorIndex := 16, attributes := #[] }, { accessFlags := 26, nameIndex := 273, descriptorIndex := 16, attributes := #[] }, { accessFlags := 26, nameIndex := 275, descriptorIndex := 16, attributes := #[] }, { accessFlags := 26, nameIndex := 277, descriptorIndex := 16, attributes := #[] }, { accessFlags := 26, nameIndex := 278, descriptorIndex := 16, attributes := #[] }, { accessFlags := 26, nameIndex := 280, descriptorIndex := 16, attributes := #[] }, { accessFlags := 2, nameIndex := 11, descriptorIndex := 12, attributes := #[] }, { accessFlags := 2, nameIndex := 15, descriptorIndex := 16, attributes := #[] }, { accessFlags := 2, nameIndex := 23, descriptorIndex := 24, attributes := #[] }, { accessFlags := 2, nameIndex := 35, descriptorIndex := 16, attributes := #[] }, { accessFlags := 18, nameIndex := 19, descriptorIndex := 20, attributes := #[] }])
  fields := #[{ name := "MAX_VALUE", type := .int, accessFlags := 24, slot := 0, constantValue := 0 }, { name := "ZERO_RUN", type := .int, accessFlags := 26, slot := 1, constantValue := 0 }, { name := "VAL_RUN", type := .int, accessFlags := 26, slot := 2, constantValue := 0 }, { name := "XZERO", type := .int, accessFlags := 26, slot := 3, constantValue := 0 }, { name := "VAL", type := .int, accessFlags := 26, slot := 4, constantValue := 0 }, { name := "EMPTY_ROOM", type := .int, accessFlags := 26, slot := 5, constantValue := 0 }, { name := "BLOCK_BYTES", type := .int, accessFlags := 26, slot := 6, constantValue := 0 }, { name := "GROWTH", type := .int, accessFlags := 26, slot := 7, constantValue := 0 }, { name := "MAX_BLOCKS", type := .int, accessFlags := 26, slot := 8, constantValue := 0 }, { name := "ROOM", type := .int, accessFlags := 26, slot := 9, constantValue := 0 }, { name := "NEAR", type := .int, accessFlags := 26, slot := 10, constantValue := 0 }, { name := "START", type := .int, accessFlags := 26, slot := 11, constantValue := 0 }, { name := "LENGTH", type := .int, accessFlags := 26, slot := 12, constantValue := 0 }, { name := "FIRST", type := .int, accessFlags := 26, slot := 13, constantValue := 0 }, { name := "ENTRY", type := .int, accessFlags := 26, slot := 14, constantValue := 0 }, { name := "OBJECT_BYTES", type := .int, accessFlags := 26, slot := 15, constantValue := 0 }, { name := "bytes", type := (.array .byte), accessFlags := 2, slot := 0, constantValue := 0 }, { name := "length", type := .int, accessFlags := 2, slot := 1, constantValue := 0 }, { name := "blocks", type := (.array .char), accessFlags := 2, slot := 2, constantValue := 0 }, { name := "blockBits", type := .int, accessFlags := 2, slot := 3, constantValue := 0 }, { name := "shortest", type := .boolean, accessFlags := 18, slot := 4, constantValue := 0 }]
  methods := #[k3m0, k3m1, k3m2, k3m3]
  instanceTypes := #[(.array .byte), .int, (.array .char), .int, .boolean]
  staticTypes := #[.int, .int, .int, .int, .int, .int, .int, .int, .int, .int, .int, .int, .int, .int, .int, .int]
  resolved := Array.replicate 325 none
  statics := none }

def pool4 : Array CpInfo := pool [(1, .class_ 2), (0, u "com/example/hakari/hakari/SparseRegisters"), (0, .methodref 4 5), (0, .class_ 6), (0, .nameAndType 7 8), (0, u "java/lang/Object"), (0, u "<init>"), (0, u "()V"), (0, .fieldref 10 11), (0, .class_ 12), (0, .nameAndType 13 14), (0, u "com/example/hakari/hakari/SparseRegisters$Writer"), (0, u "bytes"), (0, u "[B"), (0, .fieldref 10 16), (0, .nameAndType 17 18), (0, u "position"), (0, u "I"), (0, .fieldref 10 20), (0, .nameAndType 21 18), (0, u "runValue"), (0, .methodref 10 23), (0, .nameAndType 24 25), (0, u "finish"), (0, u "()I"), (0, .fieldref 10 27), (0, .nameAndType 28 18), (0, u "runCount"), (0, .methodref 1 30), (0, .nameAndType 31 32), (0, u "putOpcode"), (0, u "([BIII)I"), (6, u "([BI)V"), (2, u "run"), (0, u "(II)V")] 6

def k4c0 : Code := { maxStack := 2, maxLocals := 3, code := prog_45_method_1_code, exceptionTable := #[], attributes := #[] }
def k4m0 : Method := { name := "<init>", desc := "([BI)V", sig := { parameters := [(.array .byte), .int], returnType := none }, accessFlags := 0, code := some k4c0 }
def k4c1 : Code := { maxStack := 3, maxLocals := 3, code := prog_45_method_2_code, exceptionTable := #[], attributes := #[] }
def k4m1 : Method := { name := "run", desc := "(II)V", sig := { parameters := [.int, .int], returnType := none }, accessFlags := 0, code := some k4c1 }
def k4c2 : Code := { maxStack := 6, maxLocals := 2, code := prog_45_method_3_code, exceptionTable := #[], attributes := #[] }
def k4m2 : Method := { name := "finish", desc := "()I", sig := { parameters := [], returnType := some .int }, accessFlags := 0, code := some k4c2 }
/-- com/example/hakari/hakari/SparseRegisters$Writer -/
def k4 : Class := { plain "com/example/hakari/hakari/SparseRegisters$Writer" (some 0) with
  accessFlags := 32
  interfaces := #[]
  cf := some (fileOf pool4 10 #[.nestHost 1] #[{ accessFlags := 0, nameIndex := 7, descriptorIndex := 39, attributes := #[] }, { accessFlags := 0, nameIndex := 42, descriptorIndex := 43, attributes := #[] }, { accessFlags := 0, nameIndex := 24, descriptorIndex := 25, attributes := #[] }] 32 4 #[] #[{ accessFlags := 18, nameIndex := 13, descriptorIndex := 14, attributes := #[] }, { accessFlags := 2, nameIndex := 17, descriptorIndex := 18, attributes := #[] }, { accessFlags := 2, nameIndex := 21, descriptorIndex := 18, attributes := #[] }, { accessFlags := 2, nameIndex := 28, descriptorIndex := 18, attributes := #[] }])
  fields := #[{ name := "bytes", type := (.array .byte), accessFlags := 18, slot := 0, constantValue := 0 }, { name := "position", type := .int, accessFlags := 2, slot := 1, constantValue := 0 }, { name := "runValue", type := .int, accessFlags := 2, slot := 2, constantValue := 0 }, { name := "runCount", type := .int, accessFlags := 2, slot := 3, constantValue := 0 }]
  methods := #[k4m0, k4m1, k4m2]
  instanceTypes := #[(.array .byte), .int, .int, .int]
  staticTypes := #[]
  resolved := Array.replicate 50 none
  statics := none }

def pool5 : Array CpInfo := pool [(1, .class_ 2), (0, u "java/io/Serializable"), (0, .class_ 4), (0, u "java/lang/Object")] 2

/-- java/io/Serializable -/
def k5 : Class := { plain "java/io/Serializable" (some 0) with
  accessFlags := 1537
  interfaces := #[]
  cf := some (fileOf pool5 1 #[] #[] 1537 3 #[] #[])
  fields := #[]
  methods := #[]
  instanceTypes := #[]
  staticTypes := #[]
  resolved := Array.replicate 7 none
  statics := none }

def pool6 : Array CpInfo := pool [(2, .class_ 4), (1, u "java/lang/Object"), (0, u "<init>"), (0, u "()V"), (1, .class_ 10), (1, u "java/lang/Number"), (2, .class_ 14), (0, u "java/io/Serializable"), (0, u "serialVersionUID"), (0, u "J")] 20

def k6m0 : Method := { name := "<init>", desc := "()V", sig := { parameters := [], returnType := none }, accessFlags := 1, code := none }
/-- java/lang/Number -/
def k6 : Class := { plain "java/lang/Number" (some 0) with
  accessFlags := 1057
  interfaces := #[5]
  cf := some (fileOf pool6 8 #[] #[{ accessFlags := 1, nameIndex := 5, descriptorIndex := 6, attributes := #[] }] 1057 2 #[13] #[{ accessFlags := 26, nameIndex := 15, descriptorIndex := 16, attributes := #[] }])
  fields := #[{ name := "serialVersionUID", type := .long, accessFlags := 26, slot := 0, constantValue := 0 }]
  methods := #[k6m0]
  instanceTypes := #[]
  staticTypes := #[.long]
  resolved := Array.replicate 37 none
  statics := none }

def pool7 : Array CpInfo := pool [(1, .class_ 2), (0, u "java/lang/Comparable"), (0, .class_ 4), (0, u "java/lang/Object")] 7

/-- java/lang/Comparable -/
def k7 : Class := { plain "java/lang/Comparable" (some 0) with
  accessFlags := 1537
  interfaces := #[]
  cf := some (fileOf pool7 1 #[] #[] 1537 3 #[] #[])
  fields := #[]
  methods := #[]
  instanceTypes := #[]
  staticTypes := #[]
  resolved := Array.replicate 12 none
  statics := none }

def pool8 : Array CpInfo := pool [(1, .class_ 2), (0, u "java/lang/constant/Constable"), (0, .class_ 4), (0, u "java/lang/Object")] 6

/-- java/lang/constant/Constable -/
def k8 : Class := { plain "java/lang/constant/Constable" (some 0) with
  accessFlags := 1537
  interfaces := #[]
  cf := some (fileOf pool8 1 #[] #[] 1537 3 #[] #[])
  fields := #[]
  methods := #[]
  instanceTypes := #[]
  staticTypes := #[]
  resolved := Array.replicate 11 none
  statics := none }

def pool9 : Array CpInfo := pool [(1, .class_ 2), (0, u "java/lang/constant/ConstantDesc"), (0, .class_ 4), (0, u "java/lang/Object")] 32

/-- java/lang/constant/ConstantDesc -/
def k9 : Class := { plain "java/lang/constant/ConstantDesc" (some 0) with
  accessFlags := 1537
  interfaces := #[]
  cf := some (fileOf pool9 1 #[] #[] 1537 3 #[] #[])
  fields := #[]
  methods := #[]
  instanceTypes := #[]
  staticTypes := #[]
  resolved := Array.replicate 37 none
  statics := none }

def pool10 : Array CpInfo := pool [(1, .class_ 2), (0, u "java/lang/Integer"), (16, u "digits"), (0, u "[C"), (33, u "(I)I"), (30, u "DigitOnes"), (0, u "[B"), (2, u "DigitTens"), (99, .class_ 190), (0, u "java/lang/Integer$IntegerCache"), (3, u "I"), (8, .class_ 204), (0, u "java/lang/Number"), (2, u "value"), (56, .integer 65536), (37, u "TYPE"), (0, u "Ljava/lang/Class;"), (0, .class_ 305), (0, u "java/lang/Comparable"), (0, .class_ 307), (0, u "java/lang/constant/Constable"), (0, .class_ 309), (0, u "java/lang/constant/ConstantDesc"), (0, u "MIN_VALUE"), (1, u "MAX_VALUE"), (3, u "SIZE"), (1, u "BYTES"), (1, u "serialVersionUID"), (0, u "J"), (84, u "numberOfTrailingZeros")] 46

def k10c0 : Code := { maxStack := 3, maxLocals := 2, code := jdk_33_method_48_code, exceptionTable := #[], attributes := #[] }
def k10m0 : Method := { name := "numberOfTrailingZeros", desc := "(I)I", sig := { parameters := [.int], returnType := some .int }, accessFlags := 9, code := some k10c0 }
/-- java/lang/Integer -/
def k10 : Class := { plain "java/lang/Integer" (some 6) with
  accessFlags := 49
  interfaces := #[7, 8, 9]
  cf := some (fileOf pool10 1 #[.nestMembers #[189]] #[{ accessFlags := 9, nameIndex := 406, descriptorIndex := 54, attributes := #[] }] 49 203 #[304, 306, 308] #[{ accessFlags := 25, nameIndex := 310, descriptorIndex := 194, attributes := #[] }, { accessFlags := 25, nameIndex := 312, descriptorIndex := 194, attributes := #[] }, { accessFlags := 25, nameIndex := 302, descriptorIndex := 303, attributes := #[] }, { accessFlags := 24, nameIndex := 19, descriptorIndex := 20, attributes := #[] }, { accessFlags := 24, nameIndex := 89, descriptorIndex := 86, attributes := #[] }, { accessFlags := 24, nameIndex := 85, descriptorIndex := 86, attributes := #[] }, { accessFlags := 18, nameIndex := 207, descriptorIndex := 194, attributes := #[] }, { accessFlags := 25, nameIndex := 316, descriptorIndex := 194, attributes := #[] }, { accessFlags := 25, nameIndex := 318, descriptorIndex := 194, attributes := #[] }, { accessFlags := 26, nameIndex := 320, descriptorIndex := 321, attributes := #[] }])
  fields := #[{ name := "MIN_VALUE", type := .int, accessFlags := 25, slot := 0, constantValue := 0 }, { name := "MAX_VALUE", type := .int, accessFlags := 25, slot := 1, constantValue := 0 }, { name := "TYPE", type := (.object "java/lang/Class"), accessFlags := 25, slot := 2, constantValue := 0 }, { name := "digits", type := (.array .char), accessFlags := 24, slot := 3, constantValue := 0 }, { name := "DigitTens", type := (.array .byte), accessFlags := 24, slot := 4, constantValue := 0 }, { name := "DigitOnes", type := (.array .byte), accessFlags := 24, slot := 5, constantValue := 0 }, { name := "value", type := .int, accessFlags := 18, slot := 0, constantValue := 0 }, { name := "SIZE", type := .int, accessFlags := 25, slot := 6, constantValue := 0 }, { name := "BYTES", type := .int, accessFlags := 25, slot := 7, constantValue := 0 }, { name := "serialVersionUID", type := .long, accessFlags := 26, slot := 8, constantValue := 0 }]
  methods := #[k10m0]
  instanceTypes := #[.int]
  staticTypes := #[.int, .int, (.object "java/lang/Class"), (.array .char), (.array .byte), (.array .byte), .int, .int, .long]
  resolved := Array.replicate 453 none
  statics := none }

def pool11 : Array CpInfo := pool [(2, .class_ 4), (1, u "java/lang/Object"), (0, u "<init>"), (0, u "()V"), (0, .methodref 8 9), (0, .class_ 10), (0, .nameAndType 11 12), (0, u "com/example/hakari/hakari/HeapSize"), (0, u "array"), (0, u "(J)J"), (2, .long 2), (1, .long 16), (1, .long 8), (1, u "REFERENCE"), (0, u "I"), (2, u "ARRAY_HEADER"), (1, u "ALIGNMENT"), (2, u "byteArray"), (0, u "charArray")] 2

def k11m0 : Method := { name := "<init>", desc := "()V", sig := { parameters := [], returnType := none }, accessFlags := 2, code := none }
def k11c1 : Code := { maxStack := 2, maxLocals := 2, code := prog_23_method_2_code, exceptionTable := #[], attributes := #[] }
def k11m1 : Method := { name := "byteArray", desc := "(J)J", sig := { parameters := [.long], returnType := some .long }, accessFlags := 8, code := some k11c1 }
def k11c2 : Code := { maxStack := 4, maxLocals := 2, code := prog_23_method_3_code, exceptionTable := #[], attributes := #[] }
def k11m2 : Method := { name := "charArray", desc := "(J)J", sig := { parameters := [.long], returnType := some .long }, accessFlags := 8, code := some k11c2 }
def k11c3 : Code := { maxStack := 4, maxLocals := 2, code := prog_23_method_4_code, exceptionTable := #[], attributes := #[] }
def k11m3 : Method := { name := "array", desc := "(J)J", sig := { parameters := [.long], returnType := some .long }, accessFlags := 10, code := some k11c3 }
/-- com/example/hakari/hakari/HeapSize -/
def k11 : Class := { plain "com/example/hakari/hakari/HeapSize" (some 0) with
  accessFlags := 32
  interfaces := #[]
  cf := some (fileOf pool11 8 #[] #[{ accessFlags := 2, nameIndex := 5, descriptorIndex := 6, attributes := #[] }, { accessFlags := 8, nameIndex := 30, descriptorIndex := 12, attributes := #[] }, { accessFlags := 8, nameIndex := 31, descriptorIndex := 12, attributes := #[] }, { accessFlags := 10, nameIndex := 11, descriptorIndex := 12, attributes := #[] }] 32 2 #[] #[{ accessFlags := 24, nameIndex := 21, descriptorIndex := 22, attributes := #[] }, { accessFlags := 26, nameIndex := 25, descriptorIndex := 22, attributes := #[] }, { accessFlags := 26, nameIndex := 27, descriptorIndex := 22, attributes := #[] }])
  fields := #[{ name := "REFERENCE", type := .int, accessFlags := 24, slot := 0, constantValue := 0 }, { name := "ARRAY_HEADER", type := .int, accessFlags := 26, slot := 1, constantValue := 0 }, { name := "ALIGNMENT", type := .int, accessFlags := 26, slot := 2, constantValue := 0 }]
  methods := #[k11m0, k11m1, k11m2, k11m3]
  instanceTypes := #[]
  staticTypes := #[.int, .int, .int]
  resolved := Array.replicate 34 none
  statics := none }

def pool12 : Array CpInfo := pool [(1, u "java/lang/Cloneable"), (0, .class_ 1), (0, u "java/lang/Object"), (0, .class_ 3)] 3

/-- java/lang/Cloneable -/
def k12 : Class := { plain "java/lang/Cloneable" (some 0) with
  accessFlags := 1537
  interfaces := #[]
  cf := some (fileOf pool12 2 #[] #[] 1537 4 #[] #[])
  fields := #[]
  methods := #[]
  instanceTypes := #[]
  staticTypes := #[]
  resolved := Array.replicate 8 none
  statics := none }

/-- the primitive byte -/
def k13 : Class := { plain "byte" none with kind := .primitive 'B', accessFlags := 0x411 }
/-- [B -/
def k14 : Class := { plain "[B" (some 0) with kind := .array 13 .byte, interfaces := #[12, 5], accessFlags := 1041 }

/-- the primitive char -/
def k15 : Class := { plain "char" none with kind := .primitive 'C', accessFlags := 0x411 }
/-- [C -/
def k16 : Class := { plain "[C" (some 0) with kind := .array 15 .char, interfaces := #[12, 5], accessFlags := 1041 }

/-- the primitive int -/
def k17 : Class := { plain "int" none with kind := .primitive 'I', accessFlags := 0x411 }
/-- [I -/
def k18 : Class := { plain "[I" (some 0) with kind := .array 17 .int, interfaces := #[12, 5], accessFlags := 1041 }

def heap : Heap := #[]
def classes : Array Class := #[k0, k1, k2, k3, k4, k5, k6, k7, k8, k9, k10, k11, k12, k13, k14, k15, k16, k17, k18]
def interned : List (Array UInt16 × Addr) := []
def slotsUsed : Nat := 0
def theMethod : MethodId := ⟨1, 1⟩
def args0 : Array Value := #[.int 1, .int 2, .long 3, .int 4, .int 5]
def aboutOver (below : List Frame) : State where
  vm := { classes := classes, interned := interned.toArray }
  heap := heap
  slotsUsed := slotsUsed
  threads := #[{ frames := .invoking theMethod args0 :: below }]
def below0 : List Frame := [.native { method := ⟨0, 0⟩, args := #[] }]
def about1 : State := aboutOver below0
def p0 : Program := .bare "" "" ""
def e0 : Env := launch0.env 0 0 0
theorem w_frames : about1.frames = Frame.invoking theMethod args0 :: below0 := rfl
set_option maxRecDepth 65536 in
theorem w_args : argsFit about1.vm theMethod args0 = true := by decide +kernel
set_option maxRecDepth 65536 in
theorem w_heap : heapFits about1 = true := by decide +kernel
set_option maxRecDepth 65536 in
theorem w_runnable : about1.curStatus? = some .runnable := by decide +kernel
set_option maxRecDepth 65536 in
theorem w_alone : about1.alone = true := by decide +kernel
set_option maxRecDepth 65536 in
theorem w_named : about1.methodNamed? x = some theMethod := by decide +kernel
set_option maxRecDepth 65536 in
theorem w_hears : about1.hears theMethod below0 = true := by decide +kernel
set_option maxRecDepth 65536 in
theorem w_ripe : about1.ripe theMethod args0 below0 = true := by decide +kernel
theorem w_running : about1.status = .running := rfl
set_option maxRecDepth 65536 in
theorem w_room : about1.hasRoom e0.platform room_1 = true :=
  launch0.hasRoom_least _ room_1 (by decide +kernel) (by decide +kernel) (by decide +kernel) (by decide +kernel) (by decide +kernel) (by decide +kernel)
theorem allAtoms_all (ts : List Jvm.Cond) (a : Array Jvm.Value) (st : Jvm.State) : (allAtoms ts).before a st = ts.all (fun c => c.before a st) := by
  induction ts with
  | nil => rfl
  | cons c t ih =>
    show (Jvm.Cond.and c (allAtoms t)).before a st = _
    rw [Jvm.Cond.before_and, ih, List.all_cons]
def words1 : List Jvm.Cond := Jvm.Cond.code x code maxLocals ret :: tables_1
/-- a 'code' word, met by the world's own term for the bytes: nothing is compared byte by byte -/
theorem code_word {y : MethodName} {bytes : ByteArray} {mx : Nat} {rt : Option FieldType} {a : Array Value} {s : State} {m : MethodId} {meth : Method} {c : Code} (h1 : s.methodNamed? y = some m) (h2 : s.vm.method? m = some meth) (h3 : meth.code = some c) (h4 : c.code = bytes)
    (h5 : (c.maxLocals == mx && c.exceptionTable.isEmpty && decide (c.maxStack ≤ mostOperands) && decide (meth.sig.returnType = rt) && !meth.locks && decide (parseMethodDescriptor y.desc = some meth.sig)) = true) : (Jvm.Cond.code y bytes mx rt).before a s = true := by
  simp only [Bool.and_eq_true, beq_iff_eq, Bool.not_eq_true', decide_eq_true_eq] at h5
  obtain ⟨⟨⟨⟨⟨g1, g2⟩, g3⟩, g4⟩, g5⟩, g6⟩ := h5
  simp [Cond.before, Cond.holds, Cond.value, h1, h2, h3, h4, g1, g2, g3, g4, g5, g6]
def isCode : Jvm.Cond → Bool
  | .code _ _ _ _ => true
  | _ => false
theorem all_split {L : List Jvm.Cond} {P : Jvm.Cond → Bool} (h1 : L.all (fun c => isCode c || P c) = true) (h2 : ∀ c ∈ L.filter isCode, P c = true) : L.all P = true := by
  refine List.all_eq_true.mpr fun c hc => ?_
  have h := List.all_eq_true.mp h1 c hc
  rcases Bool.eq_false_or_eq_true (isCode c) with hi | hi
  · exact h2 c (List.mem_filter.mpr ⟨hc, hi⟩)
  · simpa [hi] using h
set_option maxRecDepth 65536 in
theorem w_c0 : (Jvm.Cond.code x code maxLocals ret).before args0 about1 = true := code_word (m := ⟨1, 1⟩) (meth := k1m1) (c := k1c1) (by decide +kernel) rfl rfl rfl (by decide +kernel)
set_option maxRecDepth 65536 in
theorem w_c1 : (Jvm.Cond.code ({ cls := "com/example/hakari/hakari/SparseRegisters", name := "empty", desc := "()Lcom/example/hakari/hakari/SparseRegisters;" } : Jvm.MethodName) prog_41_method_2_code (2 : Nat) (Option.some (Jvm.ClassFile.FieldType.object "com/example/hakari/hakari/SparseRegisters"))).before args0 about1 = true := code_word (m := ⟨3, 1⟩) (meth := k3m1) (c := k3c1) (by decide +kernel) rfl rfl rfl (by decide +kernel)
set_option maxRecDepth 65536 in
theorem w_c2 : (Jvm.Cond.code ({ cls := "com/example/hakari/hakari/SparseRegisters$Writer", name := "<init>", desc := "([BI)V" } : Jvm.MethodName) prog_45_method_1_code (3 : Nat) (Option.none : Option Jvm.ClassFile.FieldType)).before args0 about1 = true := code_word (m := ⟨4, 0⟩) (meth := k4m0) (c := k4c0) (by decide +kernel) rfl rfl rfl (by decide +kernel)
set_option maxRecDepth 65536 in
theorem w_c3 : (Jvm.Cond.code ({ cls := "java/lang/Object", name := "<init>", desc := "()V" } : Jvm.MethodName) object_method_1_code (1 : Nat) (Option.none : Option Jvm.ClassFile.FieldType)).before args0 about1 = true := code_word (m := ⟨0, 0⟩) (meth := k0m0) (c := k0c0) (by decide +kernel) rfl rfl rfl (by decide +kernel)
set_option maxRecDepth 65536 in
theorem w_c4 : (Jvm.Cond.code ({ cls := "com/example/hakari/hakari/SparseRegisters$Writer", name := "run", desc := "(II)V" } : Jvm.MethodName) prog_45_method_2_code (3 : Nat) (Option.none : Option Jvm.ClassFile.FieldType)).before args0 about1 = true := code_word (m := ⟨4, 1⟩) (meth := k4m1) (c := k4c1) (by decide +kernel) rfl rfl rfl (by decide +kernel)
set_option maxRecDepth 65536 in
theorem w_c5 : (Jvm.Cond.code ({ cls := "com/example/hakari/hakari/SparseRegisters$Writer", name := "finish", desc := "()I" } : Jvm.MethodName) prog_45_method_3_code (2 : Nat) (Option.some Jvm.ClassFile.FieldType.int)).before args0 about1 = true := code_word (m := ⟨4, 2⟩) (meth := k4m2) (c := k4c2) (by decide +kernel) rfl rfl rfl (by decide +kernel)
set_option maxRecDepth 65536 in
theorem w_c6 : (Jvm.Cond.code ({ cls := "com/example/hakari/hakari/SparseRegisters", name := "putOpcode", desc := "([BIII)I" } : Jvm.MethodName) prog_41_method_8_code (4 : Nat) (Option.some Jvm.ClassFile.FieldType.int)).before args0 about1 = true := code_word (m := ⟨3, 2⟩) (meth := k3m2) (c := k3c2) (by decide +kernel) rfl rfl rfl (by decide +kernel)
set_option maxRecDepth 65536 in
theorem w_c7 : (Jvm.Cond.code ({ cls := "com/example/hakari/hakari/SparseRegisters", name := "<init>", desc := "([BIZ)V" } : Jvm.MethodName) prog_41_method_1_code (4 : Nat) (Option.none : Option Jvm.ClassFile.FieldType)).before args0 about1 = true := code_word (m := ⟨3, 0⟩) (meth := k3m0) (c := k3c0) (by decide +kernel) rfl rfl rfl (by decide +kernel)
set_option maxRecDepth 65536 in
theorem w_c8 : (Jvm.Cond.code ({ cls := "java/lang/Integer", name := "numberOfTrailingZeros", desc := "(I)I" } : Jvm.MethodName) jdk_33_method_48_code (2 : Nat) (Option.some Jvm.ClassFile.FieldType.int)).before args0 about1 = true := code_word (m := ⟨10, 0⟩) (meth := k10m0) (c := k10c0) (by decide +kernel) rfl rfl rfl (by decide +kernel)
set_option maxRecDepth 65536 in
theorem w_c9 : (Jvm.Cond.code ({ cls := "com/example/hakari/hakari/Counter", name := "<init>", desc := "(Lcom/example/hakari/hakari/SparseRegisters;IJ)V" } : Jvm.MethodName) prog_8_method_3_code (5 : Nat) (Option.none : Option Jvm.ClassFile.FieldType)).before args0 about1 = true := code_word (m := ⟨2, 2⟩) (meth := k2m2) (c := k2c2) (by decide +kernel) rfl rfl rfl (by decide +kernel)
set_option maxRecDepth 65536 in
theorem w_c10 : (Jvm.Cond.code ({ cls := "com/example/hakari/hakari/Counter", name := "heapBytes", desc := "()J" } : Jvm.MethodName) prog_8_method_13_code (1 : Nat) (Option.some Jvm.ClassFile.FieldType.long)).before args0 about1 = true := code_word (m := ⟨2, 3⟩) (meth := k2m3) (c := k2c3) (by decide +kernel) rfl rfl rfl (by decide +kernel)
set_option maxRecDepth 65536 in
theorem w_c11 : (Jvm.Cond.code ({ cls := "com/example/hakari/hakari/SparseRegisters", name := "heapBytes", desc := "()J" } : Jvm.MethodName) prog_41_method_34_code (1 : Nat) (Option.some Jvm.ClassFile.FieldType.long)).before args0 about1 = true := code_word (m := ⟨3, 3⟩) (meth := k3m3) (c := k3c3) (by decide +kernel) rfl rfl rfl (by decide +kernel)
set_option maxRecDepth 65536 in
theorem w_c12 : (Jvm.Cond.code ({ cls := "com/example/hakari/hakari/HeapSize", name := "byteArray", desc := "(J)J" } : Jvm.MethodName) prog_23_method_2_code (2 : Nat) (Option.some Jvm.ClassFile.FieldType.long)).before args0 about1 = true := code_word (m := ⟨11, 1⟩) (meth := k11m1) (c := k11c1) (by decide +kernel) rfl rfl rfl (by decide +kernel)
set_option maxRecDepth 65536 in
theorem w_c13 : (Jvm.Cond.code ({ cls := "com/example/hakari/hakari/HeapSize", name := "array", desc := "(J)J" } : Jvm.MethodName) prog_23_method_4_code (2 : Nat) (Option.some Jvm.ClassFile.FieldType.long)).before args0 about1 = true := code_word (m := ⟨11, 3⟩) (meth := k11m3) (c := k11c3) (by decide +kernel) rfl rfl rfl (by decide +kernel)
set_option maxRecDepth 65536 in
theorem w_c14 : (Jvm.Cond.code ({ cls := "com/example/hakari/hakari/HeapSize", name := "charArray", desc := "(J)J" } : Jvm.MethodName) prog_23_method_3_code (2 : Nat) (Option.some Jvm.ClassFile.FieldType.long)).before args0 about1 = true := code_word (m := ⟨11, 2⟩) (meth := k11m2) (c := k11c2) (by decide +kernel) rfl rfl rfl (by decide +kernel)
set_option maxRecDepth 65536 in
theorem w_c15 : (Jvm.Cond.code ({ cls := "com/example/hakari/hakari/Counter", name := "<init>", desc := "([BIJ)V" } : Jvm.MethodName) prog_8_method_2_code (5 : Nat) (Option.none : Option Jvm.ClassFile.FieldType)).before args0 about1 = true := code_word (m := ⟨2, 1⟩) (meth := k2m1) (c := k2c1) (by decide +kernel) rfl rfl rfl (by decide +kernel)
set_option maxRecDepth 65536 in
theorem w_c16 : (Jvm.Cond.code ({ cls := "com/example/hakari/hakari/Counter", name := "<init>", desc := "()V" } : Jvm.MethodName) prog_8_method_1_code (1 : Nat) (Option.none : Option Jvm.ClassFile.FieldType)).before args0 about1 = true := code_word (m := ⟨2, 0⟩) (meth := k2m0) (c := k2c0) (by decide +kernel) rfl rfl rfl (by decide +kernel)
def codes1 : List Jvm.Cond := [Jvm.Cond.code x code maxLocals ret, Jvm.Cond.code ({ cls := "com/example/hakari/hakari/SparseRegisters", name := "empty", desc := "()Lcom/example/hakari/hakari/SparseRegisters;" } : Jvm.MethodName) prog_41_method_2_code (2 : Nat) (Option.some (Jvm.ClassFile.FieldType.object "com/example/hakari/hakari/SparseRegisters")), Jvm.Cond.code ({ cls := "com/example/hakari/hakari/SparseRegisters$Writer", name := "<init>", desc := "([BI)V" } : Jvm.MethodName) prog_45_method_1_code (3 : Nat) (Option.none : Option Jvm.ClassFile.FieldType), Jvm.Cond.code ({ cls := "java/lang/Object", name := "<init>", desc := "()V" } : Jvm.MethodName) object_method_1_code (1 : Nat) (Option.none : Option Jvm.ClassFile.FieldType), Jvm.Cond.code ({ cls := "com/example/hakari/hakari/SparseRegisters$Writer", name := "run", desc := "(II)V" } : Jvm.MethodName) prog_45_method_2_code (3 : Nat) (Option.none : Option Jvm.ClassFile.FieldType), Jvm.Cond.code ({ cls := "com/example/hakari/hakari/SparseRegisters$Writer", name := "finish", desc := "()I" } : Jvm.MethodName) prog_45_method_3_code (2 : Nat) (Option.some Jvm.ClassFile.FieldType.int), Jvm.Cond.code ({ cls := "com/example/hakari/hakari/SparseRegisters", name := "putOpcode", desc := "([BIII)I" } : Jvm.MethodName) prog_41_method_8_code (4 : Nat) (Option.some Jvm.ClassFile.FieldType.int), Jvm.Cond.code ({ cls := "com/example/hakari/hakari/SparseRegisters", name := "<init>", desc := "([BIZ)V" } : Jvm.MethodName) prog_41_method_1_code (4 : Nat) (Option.none : Option Jvm.ClassFile.FieldType), Jvm.Cond.code ({ cls := "java/lang/Integer", name := "numberOfTrailingZeros", desc := "(I)I" } : Jvm.MethodName) jdk_33_method_48_code (2 : Nat) (Option.some Jvm.ClassFile.FieldType.int), Jvm.Cond.code ({ cls := "com/example/hakari/hakari/Counter", name := "<init>", desc := "(Lcom/example/hakari/hakari/SparseRegisters;IJ)V" } : Jvm.MethodName) prog_8_method_3_code (5 : Nat) (Option.none : Option Jvm.ClassFile.FieldType), Jvm.Cond.code ({ cls := "com/example/hakari/hakari/Counter", name := "heapBytes", desc := "()J" } : Jvm.MethodName) prog_8_method_13_code (1 : Nat) (Option.some Jvm.ClassFile.FieldType.long), Jvm.Cond.code ({ cls := "com/example/hakari/hakari/SparseRegisters", name := "heapBytes", desc := "()J" } : Jvm.MethodName) prog_41_method_34_code (1 : Nat) (Option.some Jvm.ClassFile.FieldType.long), Jvm.Cond.code ({ cls := "com/example/hakari/hakari/HeapSize", name := "byteArray", desc := "(J)J" } : Jvm.MethodName) prog_23_method_2_code (2 : Nat) (Option.some Jvm.ClassFile.FieldType.long), Jvm.Cond.code ({ cls := "com/example/hakari/hakari/HeapSize", name := "array", desc := "(J)J" } : Jvm.MethodName) prog_23_method_4_code (2 : Nat) (Option.some Jvm.ClassFile.FieldType.long), Jvm.Cond.code ({ cls := "com/example/hakari/hakari/HeapSize", name := "charArray", desc := "(J)J" } : Jvm.MethodName) prog_23_method_3_code (2 : Nat) (Option.some Jvm.ClassFile.FieldType.long), Jvm.Cond.code ({ cls := "com/example/hakari/hakari/Counter", name := "<init>", desc := "([BIJ)V" } : Jvm.MethodName) prog_8_method_2_code (5 : Nat) (Option.none : Option Jvm.ClassFile.FieldType), Jvm.Cond.code ({ cls := "com/example/hakari/hakari/Counter", name := "<init>", desc := "()V" } : Jvm.MethodName) prog_8_method_1_code (1 : Nat) (Option.none : Option Jvm.ClassFile.FieldType)]
set_option maxRecDepth 65536 in
theorem codes_eq : words1.filter isCode = codes1 := rfl
theorem w_codes : ∀ c ∈ words1.filter isCode, c.before args0 about1 = true := by
  rw [codes_eq]
  intro c hc
  simp only [codes1, List.mem_cons, List.not_mem_nil, or_false] at hc
  rcases hc with rfl | rfl | rfl | rfl | rfl | rfl | rfl | rfl | rfl | rfl | rfl | rfl | rfl | rfl | rfl | rfl | rfl
  · exact w_c0
  · exact w_c1
  · exact w_c2
  · exact w_c3
  · exact w_c4
  · exact w_c5
  · exact w_c6
  · exact w_c7
  · exact w_c8
  · exact w_c9
  · exact w_c10
  · exact w_c11
  · exact w_c12
  · exact w_c13
  · exact w_c14
  · exact w_c15
  · exact w_c16
set_option maxRecDepth 65536 in
theorem w_t1 : (words1.take 24).all (fun c => isCode c || c.before args0 about1) = true := by decide +kernel
set_option maxRecDepth 65536 in
theorem w_t2 : ((words1.drop 24).take 24).all (fun c => isCode c || c.before args0 about1) = true := by decide +kernel
set_option maxRecDepth 65536 in
theorem w_t3 : (((words1.drop 24).drop 24).take 24).all (fun c => isCode c || c.before args0 about1) = true := by decide +kernel
set_option maxRecDepth 65536 in
theorem w_t4 : ((((words1.drop 24).drop 24).drop 24).take 24).all (fun c => isCode c || c.before args0 about1) = true := by decide +kernel
set_option maxRecDepth 65536 in
theorem w_t5 : ((((words1.drop 24).drop 24).drop 24).drop 24).all (fun c => isCode c || c.before args0 about1) = true := by decide +kernel
theorem w_tables : (allAtoms (Jvm.Cond.code x code maxLocals ret :: tables_1)).before args0 about1 = true := by
  rw [allAtoms_all]
  show words1.all (fun c => c.before args0 about1) = true
  refine all_split ?_ w_codes
  rw [← List.take_append_drop 24 words1, List.all_append, w_t1, ← List.take_append_drop 24 (words1.drop 24), List.all_append, w_t2, ← List.take_append_drop 24 ((words1.drop 24).drop 24), List.all_append, w_t3, ← List.take_append_drop 24 (((words1.drop 24).drop 24).drop 24), List.all_append, w_t4, w_t5]
  rfl
set_option maxRecDepth 65536 in
theorem w_case : (Jvm.Cond.and given_1 narrow_1).before args0 about1 = true := by decide +kernel
theorem w_applies : (headSpec (Jvm.Cond.code x code maxLocals ret :: tables_1) room_1).applies x e0.platform about1 = true :=
  (Spec.applies_iff w_frames).mpr ⟨w_running, w_runnable, w_alone, w_named, w_hears, w_ripe, w_room, w_tables⟩
theorem atStart : AtStart classFile x code maxLocals ret World_1 tables_1 room_1 Calls_1 rest_1 Pre_1 launch0 p0 e0 about1 theMethod args0 below0 :=
  ⟨lists_1, trivial, launch0.admits_env _ _ _, launch0.least_env, fairChoices_fair.cas, fairChoices_fair.clock, w_frames, w_args, w_heap, w_applies, trivial, trivial, w_case⟩
end start1
theorem witness_1 : WitnessClaimed_1 := ⟨start1.p0, start1.e0, start1.about1, start1.theMethod, start1.args0, start1.below0, start1.atStart⟩
end Jvm.Pilot.@@N@@
