import JvmDerived
import JvmDerived.Pilot.@@N@@Statement
import JvmDerived.Pilot.@@N@@Code
set_option linter.unusedVariables false
set_option linter.unusedSimpArgs false
namespace Jvm.RoadKit
open Sem ClassFile Op Lib Jvm.Stand Jvm.Free Jvm.LawKit
section New
variable {p : Program} {l : Launch} {e : Env} {R : Room} {s : State} {m : MethodId} {args : Array Value} {below : List Frame} {meth : Method} {c : Code} {T : State} {locs : List Loc} {cells slots : Nat}
theorem retI (X : Stand p l e R s m args below meth c T locs cells slots) (hx : p.tables.exec = Jvm.exec) {pc : Nat} {Ls : Array Slot} {z : Int32} {rest : List Value} (hret : meth.sig.returnType = some .int) (hd : decode c.code pc = .ok (.ireturn, 1)) {fs : List Frame}
    (hl : ∀ (f : JFrame) (acts : List Action), f.method = m → f.locked = none → f.entered = [] → (doReturn e (T.setTop f) acts (some (.int z))).1 = T.setFrames fs) : Steps p.tables e below (T.setTop (mkF m pc Ls (.int z :: rest))) (T.setFrames fs) := by
  have hm' : T.vm.method? m = some meth := X.method'
  have hn : narrow .int (.int z) = .int z := rfl
  show Steps p.tables e below (T.setTop { method := m, pc := pc, locals := Ls, stack := _ :: rest, locked := none }) _
  jvm_step X.here [X.here.top, hx, hd, hm', hret, hn]
  first | (intro acts; rw [hl _ acts rfl rfl rfl]) | rw [hl _ _ rfl rfl rfl]
  exact Steps.refl _
end New
end Jvm.RoadKit
namespace Jvm.Pilot.@@N@@
open Jvm Jvm.ClassFile Sem Op Lib Jvm.Free Jvm.Stand Jvm.LawKit Jvm.RoadKit Bundle Jvm.Pilot.@@N@@.Jvm.D
def val1 (p1 : Int32) (p2 : Int32) : Int32 := (if (p1 &&& (233471 : Int32)) = p2 then (1 : Int32) else (0 : Int32))
def Q1 (Z : State) (p1 : Int32) (p2 : Int32) (h0 : Heap) (n0 : Nat) (v : Option Value) (h : Heap) (L : List Loc) : Prop := v = some (.int (val1 p1 p2)) ∧ Fr n0 L ∧ h = h0
theorem d1_0 : decode prog_53_method_13_code 0 = .ok (.iload_n 0, 1) := by decide +kernel
theorem d1_1 : decode prog_53_method_13_code 1 = .ok (.ldc 59, 2) := by decide +kernel
theorem d1_3 : decode prog_53_method_13_code 3 = .ok (.iand, 1) := by decide +kernel
theorem d1_4 : decode prog_53_method_13_code 4 = .ok (.iload_n 1, 1) := by decide +kernel
theorem d1_5 : decode prog_53_method_13_code 5 = .ok (.if_icmp .ne 7, 3) := by decide +kernel
theorem d1_12 : decode prog_53_method_13_code 12 = .ok (.iconst 0, 1) := by decide +kernel
theorem d1_13 : decode prog_53_method_13_code 13 = .ok (.ireturn, 1) := by decide +kernel
theorem pn_1 : plainName "touchmove/position/PackedMove" = true := by first | (simp [plainName, overriddenIn]; done) | decide +kernel
theorem ef_1 (m : MethodId) (x0 : Int32) (x1 : Int32) : entryFrame m #[(.int x0), (.int x1)] 2 = mkF m 0 #[.val (.int x0), .val (.int x1)] [] := by first | (simp [entryFrame, mkF, argsToLocals, Value.category]; done) | rfl

set_option maxRecDepth 65536 in
set_option maxHeartbeats 40000000 in
theorem rm1_t (l : Launch) (Z : State) (a0 : Array Value) (hw : ∀ d ∈ tables_1, d.before a0 Z = true) (ws : List Jvm.Cond) (p1 : Int32) (p2 : Int32) (h0 : Heap) (n0 : Nat) (Z0 : n0 ≤ h0.size) (hc5 : ¬ ((p1 &&& (233471 : Int32)) = p2)) :
    MetFree l (⟨"touchmove/position/PackedMove", "is", "(II)Z"⟩ : MethodName) (head1 (Jvm.Cond.code (⟨"touchmove/position/PackedMove", "is", "(II)Z"⟩ : MethodName) prog_53_method_13_code 2 (some .boolean) :: ws) ({ frames := 0, cells := 0, slots := 0, locals := 0 } : Room)) (fun a U => a = #[(.int p1), (.int p2)] ∧ Z.Warmed39 U.vm ∧ U.heap = h0) (fun _ _ _ _ _ => True) (fun _ U o U' => ∃ v L, o = .returned v ∧ Q1 Z p1 p2 h0 n0 v U'.heap L ∧ FrameEnd U o U' L ({ frames := 0, cells := 0, slots := 0, locals := 0 } : Room).cells ({ frames := 0, cells := 0, slots := 0, locals := 0 } : Room).slots) := by
  refine MetFree.of_bodySF (plainFor_of_name pn_1) hisR ?_
  intro p e s m args below meth c s₁ Bd hml0 hP hK
  obtain ⟨rfl, hZ, hh⟩ := hP
  have hx := Bd.exec
  have hby := Bd.bytes
  have hml : c.maxLocals = 2 := hml0
  have hown : s.vm.findClass "touchmove/position/PackedMove" = some m.cls := findClass_of_methodNamed Bd.named
  have hnm := (name_of_methodNamed Bd.named Bd.method).1
  have X0 : Stand p l e ({ frames := 0, cells := 0, slots := 0, locals := 0 } : Room) s m #[(.int p1), (.int p2)] below meth c s₁ [] 0 0 := Stand.of_body Bd
  have e0 : s₁.heap = h0 := by rw [← hh, Bd.state]; rfl
  have N0 := Fr.nil n0
  have pre0 : ∀ t, Steps p.tables e below (s₁.setTop (mkF m 0 #[.val (.int p1), .val (.int p2)] [])) t → Steps p.tables e below (s₁.setTop (entryFrame m #[(.int p1), (.int p2)] 2)) t := fun t k => castTop (ef_1 m p1 p2) k

  obtain ⟨fs, hr, hrun, hended, hW, hsame⟩ := X0.leave (v := some (.int (0 : Int32))) (fun h => by rw [Bd.returns] at h; cases h)
  refine ⟨_, _, pre0 _ ?_, hrun, hended, _, _, rfl, ?_, ⟨_, rfl⟩, hW, hsame.mono (by decide) (by decide)⟩
  · show Steps p.tables e below (s₁.setTop (mkF m 0 #[.val (.int p1), .val (.int p2)] [])) _
    refine XS.iloadN X0.here hx rfl (hb hby d1_0) rfl ?_
    show Steps p.tables e below (s₁.setTop (mkF m 1 #[.val (.int p1), .val (.int p2)] [(.int p1)])) _
    refine X0.ldcInt hx hown (mvT hZ (hw _ (List.mem_of_getElem? (i := 4) rfl))) (g := (mkF m 1 #[.val (.int p1), .val (.int p2)] [(.int p1)])) rfl (hb hby d1_1) _ ?_
    show Steps p.tables e below (s₁.setTop (mkF m 3 #[.val (.int p1), .val (.int p2)] [(.int (233471 : Int32)), (.int p1)])) _
    refine XS.iand X0.here hx rfl (hb hby d1_3) rfl ?_
    show Steps p.tables e below (s₁.setTop (mkF m 4 #[.val (.int p1), .val (.int p2)] [(.int (p1 &&& (233471 : Int32)))])) _
    refine XS.iloadN X0.here hx rfl (hb hby d1_4) rfl ?_
    show Steps p.tables e below (s₁.setTop (mkF m 5 #[.val (.int p1), .val (.int p2)] [(.int p2), (.int (p1 &&& (233471 : Int32)))])) _
    refine XS.icmpYes X0.here hx rfl (pc0 := 5) (pc' := 12) rfl (hb hby d1_5) rfl (feq hc5).2 (by decide) (by decide) ?_
    show Steps p.tables e below (s₁.setTop (mkF m 12 #[.val (.int p1), .val (.int p2)] [])) _
    refine XS.iconst X0.here hx rfl (hb hby d1_12) ?_
    show Steps p.tables e below (s₁.setTop (mkF m 13 #[.val (.int p1), .val (.int p2)] [(.int (0 : Int32))])) _
    exact retN X0 hx (t := .boolean) Bd.returns (by simp) (hb hby d1_13) hr
  · show Q1 Z p1 p2 h0 n0 _ s₁.heap _
    rw [e0]
    exact ⟨by rw [show val1 p1 p2 = (0 : Int32) from by unfold val1; rw [if_neg hc5]], N0, rfl⟩
theorem d1_8 : decode prog_53_method_13_code 8 = .ok (.iconst 1, 1) := by decide +kernel
theorem d1_9 : decode prog_53_method_13_code 9 = .ok (.goto 4, 3) := by decide +kernel

set_option maxRecDepth 65536 in
set_option maxHeartbeats 40000000 in
theorem rm1_f (l : Launch) (Z : State) (a0 : Array Value) (hw : ∀ d ∈ tables_1, d.before a0 Z = true) (ws : List Jvm.Cond) (p1 : Int32) (p2 : Int32) (h0 : Heap) (n0 : Nat) (Z0 : n0 ≤ h0.size) (hc5 : (p1 &&& (233471 : Int32)) = p2) :
    MetFree l (⟨"touchmove/position/PackedMove", "is", "(II)Z"⟩ : MethodName) (head1 (Jvm.Cond.code (⟨"touchmove/position/PackedMove", "is", "(II)Z"⟩ : MethodName) prog_53_method_13_code 2 (some .boolean) :: ws) ({ frames := 0, cells := 0, slots := 0, locals := 0 } : Room)) (fun a U => a = #[(.int p1), (.int p2)] ∧ Z.Warmed39 U.vm ∧ U.heap = h0) (fun _ _ _ _ _ => True) (fun _ U o U' => ∃ v L, o = .returned v ∧ Q1 Z p1 p2 h0 n0 v U'.heap L ∧ FrameEnd U o U' L ({ frames := 0, cells := 0, slots := 0, locals := 0 } : Room).cells ({ frames := 0, cells := 0, slots := 0, locals := 0 } : Room).slots) := by
  refine MetFree.of_bodySF (plainFor_of_name pn_1) hisR ?_
  intro p e s m args below meth c s₁ Bd hml0 hP hK
  obtain ⟨rfl, hZ, hh⟩ := hP
  have hx := Bd.exec
  have hby := Bd.bytes
  have hml : c.maxLocals = 2 := hml0
  have hown : s.vm.findClass "touchmove/position/PackedMove" = some m.cls := findClass_of_methodNamed Bd.named
  have hnm := (name_of_methodNamed Bd.named Bd.method).1
  have X0 : Stand p l e ({ frames := 0, cells := 0, slots := 0, locals := 0 } : Room) s m #[(.int p1), (.int p2)] below meth c s₁ [] 0 0 := Stand.of_body Bd
  have e0 : s₁.heap = h0 := by rw [← hh, Bd.state]; rfl
  have N0 := Fr.nil n0
  have pre0 : ∀ t, Steps p.tables e below (s₁.setTop (mkF m 0 #[.val (.int p1), .val (.int p2)] [])) t → Steps p.tables e below (s₁.setTop (entryFrame m #[(.int p1), (.int p2)] 2)) t := fun t k => castTop (ef_1 m p1 p2) k

  obtain ⟨fs, hr, hrun, hended, hW, hsame⟩ := X0.leave (v := some (.int (1 : Int32))) (fun h => by rw [Bd.returns] at h; cases h)
  refine ⟨_, _, pre0 _ ?_, hrun, hended, _, _, rfl, ?_, ⟨_, rfl⟩, hW, hsame.mono (by decide) (by decide)⟩
  · show Steps p.tables e below (s₁.setTop (mkF m 0 #[.val (.int p1), .val (.int p2)] [])) _
    refine XS.iloadN X0.here hx rfl (hb hby d1_0) rfl ?_
    show Steps p.tables e below (s₁.setTop (mkF m 1 #[.val (.int p1), .val (.int p2)] [(.int p1)])) _
    refine X0.ldcInt hx hown (mvT hZ (hw _ (List.mem_of_getElem? (i := 4) rfl))) (g := (mkF m 1 #[.val (.int p1), .val (.int p2)] [(.int p1)])) rfl (hb hby d1_1) _ ?_
    show Steps p.tables e below (s₁.setTop (mkF m 3 #[.val (.int p1), .val (.int p2)] [(.int (233471 : Int32)), (.int p1)])) _
    refine XS.iand X0.here hx rfl (hb hby d1_3) rfl ?_
    show Steps p.tables e below (s₁.setTop (mkF m 4 #[.val (.int p1), .val (.int p2)] [(.int (p1 &&& (233471 : Int32)))])) _
    refine XS.iloadN X0.here hx rfl (hb hby d1_4) rfl ?_
    show Steps p.tables e below (s₁.setTop (mkF m 5 #[.val (.int p1), .val (.int p2)] [(.int p2), (.int (p1 &&& (233471 : Int32)))])) _
    refine XS.icmpNo X0.here hx rfl (hb hby d1_5) rfl (teq hc5).2 ?_
    show Steps p.tables e below (s₁.setTop (mkF m 8 #[.val (.int p1), .val (.int p2)] [])) _
    refine XS.iconst X0.here hx rfl (hb hby d1_8) ?_
    show Steps p.tables e below (s₁.setTop (mkF m 9 #[.val (.int p1), .val (.int p2)] [(.int (1 : Int32))])) _
    refine XS.goto X0.here hx rfl (pc0 := 9) (pc' := 13) rfl (hb hby d1_9) (by decide) (by decide) ?_
    show Steps p.tables e below (s₁.setTop (mkF m 13 #[.val (.int p1), .val (.int p2)] [(.int (1 : Int32))])) _
    exact retN X0 hx (t := .boolean) Bd.returns (by simp) (hb hby d1_13) hr
  · show Q1 Z p1 p2 h0 n0 _ s₁.heap _
    rw [e0]
    exact ⟨by rw [show val1 p1 p2 = (1 : Int32) from by unfold val1; rw [if_pos hc5]], N0, rfl⟩
theorem rm1 (l : Launch) (Z : State) (a0 : Array Value) (hw : ∀ d ∈ tables_1, d.before a0 Z = true) (ws : List Jvm.Cond) (p1 : Int32) (p2 : Int32) (h0 : Heap) (n0 : Nat) (Z0 : n0 ≤ h0.size) :
    MetFree l (⟨"touchmove/position/PackedMove", "is", "(II)Z"⟩ : MethodName) (head1 (Jvm.Cond.code (⟨"touchmove/position/PackedMove", "is", "(II)Z"⟩ : MethodName) prog_53_method_13_code 2 (some .boolean) :: ws) ({ frames := 0, cells := 0, slots := 0, locals := 0 } : Room)) (fun a U => a = #[(.int p1), (.int p2)] ∧ Z.Warmed39 U.vm ∧ U.heap = h0) (fun _ _ _ _ _ => True) (fun _ U o U' => ∃ v L, o = .returned v ∧ Q1 Z p1 p2 h0 n0 v U'.heap L ∧ FrameEnd U o U' L ({ frames := 0, cells := 0, slots := 0, locals := 0 } : Room).cells ({ frames := 0, cells := 0, slots := 0, locals := 0 } : Room).slots) := by
  by_cases hc5 : (p1 &&& (233471 : Int32)) = p2
  · exact rm1_f l Z a0 hw ws p1 p2 h0 n0 Z0 hc5
  · exact rm1_t l Z a0 hw ws p1 p2 h0 n0 Z0 hc5
theorem own_nand (n : Nat) : n &&& 233471 = n % 4096 + n / 32768 % 8 * 32768 := by
  have h1 : (233471 : Nat) = 7 <<< 15 ||| 4095 := by decide
  have h2 : n &&& (7 <<< 15) = (n / 32768 % 8) <<< 15 := by
    have a : n / 32768 % 8 = (n >>> 15) &&& 7 := by rw [Nat.shiftRight_eq_div_pow]; exact (Nat.and_two_pow_sub_one_eq_mod _ 3).symm
    rw [a]; apply Nat.eq_of_testBit_eq; intro i
    simp only [Nat.testBit_and, Nat.testBit_shiftLeft, Nat.testBit_shiftRight]
    by_cases h : 15 ≤ i
    · simp [h, show 15 + (i - 15) = i by omega]
    · simp [h]
  have h3 : n &&& 4095 = n % 4096 := Nat.and_two_pow_sub_one_eq_mod n 12
  have h4 : n % 4096 < 2 ^ 15 := by omega
  rw [h1, Nat.and_or_distrib_left, h2, h3, ← Nat.shiftLeft_add_eq_or_of_lt h4, Nat.shiftLeft_eq]; omega
theorem own_uns (x : Int32) : x.toInt % 4294967296 = (x.toBitVec.toNat : Int) := by
  have e : x.toInt = x.toBitVec.toInt := rfl
  rw [e, BitVec.toInt_eq_toNat_cond]
  have := x.toBitVec.isLt
  split <;> omega
theorem own_and (p : Int32) : (p &&& (233471 : Int32)).toInt = p.toInt % 4294967296 % 4096 + p.toInt % 4294967296 / 32768 % 8 * 32768 := by
  have k : (p &&& (233471 : Int32)).toBitVec.toNat = p.toBitVec.toNat &&& 233471 := by
    rw [Int32.toBitVec_and, BitVec.toNat_and]; rfl
  rw [own_nand] at k
  have e2 : (p &&& (233471 : Int32)).toInt = (p &&& (233471 : Int32)).toBitVec.toInt := rfl
  rw [e2, BitVec.toInt_eq_toNat_cond, if_pos (by omega), k, own_uns]; omega
theorem own_iff (p k : Int32) : (p &&& (233471 : Int32)) = k ↔ (((k.toUInt32 >>> ((18 : Int32) &&& 31).toUInt32).toInt32) = (0 : Int32) ∧ (((k.toUInt32 >>> ((12 : Int32) &&& 31).toUInt32).toInt32) &&& (7 : Int32)) = (0 : Int32) ∧ (p &&& (63 : Int32)) = (k &&& (63 : Int32)) ∧ (((p.toUInt32 >>> ((6 : Int32) &&& 31).toUInt32).toInt32) &&& (63 : Int32)) = (((k.toUInt32 >>> ((6 : Int32) &&& 31).toUInt32).toInt32) &&& (63 : Int32)) ∧ (((p.toUInt32 >>> ((15 : Int32) &&& 31).toUInt32).toInt32) &&& (7 : Int32)) = (((k.toUInt32 >>> ((15 : Int32) &&& 31).toUInt32).toInt32) &&& (7 : Int32))) := by
  simp only [← Int32.toInt_inj]
  rw [own_and, c_iushr k 18 18 (by decide) (by decide), c_mask _ 7 3 (by decide) (by decide), c_mask _ 63 6 (by decide) (by decide), c_mask _ 63 6 (by decide) (by decide), c_mask _ 63 6 (by decide) (by decide), c_mask _ 63 6 (by decide) (by decide), c_mask _ 7 3 (by decide) (by decide), c_mask _ 7 3 (by decide) (by decide), c_iushr k 12 12 (by decide) (by decide), c_iushr p 6 6 (by decide) (by decide), c_iushr k 6 6 (by decide) (by decide), c_iushr p 15 15 (by decide) (by decide), c_iushr k 15 15 (by decide) (by decide)]
  have := rng32 k
  have := rng32 p
  simp only [show (0 : Int32).toInt = 0 from rfl, show (2 ^ 18 : Nat) = 262144 from rfl, show (2 ^ 12 : Nat) = 4096 from rfl, show (2 ^ 3 : Nat) = 8 from rfl, show (2 ^ 6 : Nat) = 64 from rfl, show (2 ^ 15 : Nat) = 32768 from rfl]
  constructor
  · intro h; omega
  · intro h; omega
def own_b (p1 : Int32) : Int32 := (((p1 &&& (63 : Int32)) ||| ((((p1.toUInt32 >>> ((6 : Int32) &&& 31).toUInt32).toInt32) &&& (63 : Int32)) <<< ((6 : Int32) &&& 31))) ||| ((((p1.toUInt32 >>> ((15 : Int32) &&& 31).toUInt32).toInt32) &&& (7 : Int32)) <<< ((15 : Int32) &&& 31)))
def own_x (p1 p2 : Int32) : Int32 := (own_b p1 ^^^ ((1 : Int32) <<< ((p2 &&& (31 : Int32)) &&& 31)))
def Q0 (Z : State) (p1 : Int32) (p2 : Int32) (p3 : Int32) (h0 : Heap) (n0 : Nat) (v : Option Value) (h : Heap) (L : List Loc) : Prop := v = some (.int (1 : Int32)) ∧ Fr n0 L
theorem pn_0 : plainName "touchmove/position/PackedMoveIsPinLaw" = true := by first | (simp [plainName, overriddenIn]; done) | decide +kernel
theorem pd_0_0 : parseMethodDescriptor "(II)Z" = some ⟨[.int, .int], some .boolean⟩ := by decide +kernel
theorem ef_0 (m : MethodId) (x0 : Int32) (x1 : Int32) (x2 : Int32) : entryFrame m #[(.int x0), (.int x1), (.int x2)] maxLocals = mkF m 0 #[.val (.int x0), .val (.int x1), .val (.int x2), .unset, .unset, .unset, .unset] [] := by first | (simp [entryFrame, mkF, argsToLocals, Value.category, maxLocals]; done) | rfl

set_option maxRecDepth 65536 in
set_option maxHeartbeats 40000000 in
theorem rm0_ttttf (l : Launch) (Z : State) (a0 : Array Value) (hw : ∀ d ∈ tables_1, d.before a0 Z = true) (ws : List Jvm.Cond) (p1 : Int32) (p2 : Int32) (p3 : Int32) (h0 : Heap) (n0 : Nat) (Z0 : n0 ≤ h0.size) (hc34 : ¬ ((p3 &&& (3 : Int32)) = (0 : Int32))) (hc46 : ¬ ((p3 &&& (3 : Int32)) = (1 : Int32))) (hc58 : ¬ ((p3 &&& (3 : Int32)) = (2 : Int32))) (hc82 : ¬ (((p1.toUInt32 >>> ((18 : Int32) &&& 31).toUInt32).toInt32) = (0 : Int32))) :
    MetFree l x (head1 (Jvm.Cond.code x code maxLocals ret :: ws) room_1) (fun a U => a = #[(.int p1), (.int p2), (.int p3)] ∧ Z.Warmed39 U.vm ∧ U.heap = h0) (fun _ _ _ _ _ => True) (fun _ U o U' => ∃ v L, o = .returned v ∧ Q0 Z p1 p2 p3 h0 n0 v U'.heap L ∧ FrameEnd U o U' L room_1.cells room_1.slots) := by
  refine MetFree.of_bodySF (plainFor_of_name pn_0) hisR ?_
  intro p e s m args below meth c s₁ Bd hml0 hP hK
  obtain ⟨rfl, hZ, hh⟩ := hP
  have hx := Bd.exec
  have hby := Bd.bytes
  have hml : c.maxLocals = 7 := hml0
  have hown : s.vm.findClass "touchmove/position/PackedMoveIsPinLaw" = some m.cls := findClass_of_methodNamed Bd.named
  have hnm := (name_of_methodNamed Bd.named Bd.method).1
  have X0 : Stand p l e room_1 s m #[(.int p1), (.int p2), (.int p3)] below meth c s₁ [] 0 0 := Stand.of_body Bd
  have e0 : s₁.heap = h0 := by rw [← hh, Bd.state]; rfl
  have N0 := Fr.nil n0
  have pre0 : ∀ t, Steps p.tables e below (s₁.setTop (mkF m 0 #[.val (.int p1), .val (.int p2), .val (.int p3), .unset, .unset, .unset, .unset] [])) t → Steps p.tables e below (s₁.setTop (entryFrame m #[(.int p1), (.int p2), (.int p3)] maxLocals)) t := fun t k => castTop (ef_0 m p1 p2 p3) k
  obtain ⟨_, _, ⟨T4, L4, k4, n4⟩, -, X4, ⟨Lc4, hQ4, l4, y4, z4⟩, st4⟩ := Jvm.LawKit.callS X0 hx (y := (⟨"touchmove/position/PackedMove", "is", "(II)Z"⟩ : MethodName)) hown (mvT hZ (hw _ (List.mem_of_getElem? (i := 0) rfl))) (mvT hZ (hw _ (List.mem_of_getElem? (i := 1) rfl))) (mvT hZ (hw _ (List.mem_of_getElem? (i := 2) rfl))) (mvT hZ (hw _ (List.mem_of_getElem? (i := 3) rfl))) (by decide) (backOf (W := 0) (rm1 l Z a0 hw [] p1 p1 h0 n0 Z0) hZ (hw _ (List.mem_of_getElem? (i := 3) rfl)) (hw _ (List.mem_of_getElem? (i := 2) rfl)) (by decide) (by decide)) (g := (mkF m 154 #[.val (.int p1), .val (.int p2), .val (.int p3), .val (.int (own_b p1)), .val (.int (p3 &&& (3 : Int32))), .val (.int p1), .val (.int (0 : Int32))] [(.int p1), (.int p1)])) rfl (by rw [hml]; rfl) (argsL := [(.int p1), (.int p1)]) (rest := []) (lenOf pd_0_0 rfl) rfl (by show 2 * 0 + _ ≤ _; exact Nat.le_of_eq rfl) (hb hby at_154) (fun _ _ => ⟨rfl, e0, (by decide : 0 + 0 ≤ _), (by decide : 0 + 0 ≤ _)⟩)
  dsimp only [Pt.U, Pt.locs, Pt.cells, Pt.slots] at X4 l4 y4 z4 st4 hQ4
  subst l4 y4 z4
  obtain ⟨rfl, N4q, w4⟩ := hQ4
  have N4 := Fr.app N0 N4q
  obtain ⟨fs, hr, hrun, hended, hW, hsame⟩ := X4.leave (v := some (.int (1 : Int32))) (fun h => by rw [Bd.returns] at h; cases h)
  refine ⟨_, _, pre0 _ ?_, hrun, hended, _, _, rfl, ?_, ⟨_, rfl⟩, hW, hsame.mono (by decide) (by decide)⟩
  · show Steps p.tables e below (s₁.setTop (mkF m 0 #[.val (.int p1), .val (.int p2), .val (.int p3), .unset, .unset, .unset, .unset] [])) _
    refine XS.iloadN X0.here hx rfl (hb hby at_0) rfl ?_
    show Steps p.tables e below (s₁.setTop (mkF m 1 #[.val (.int p1), .val (.int p2), .val (.int p3), .unset, .unset, .unset, .unset] [(.int p1)])) _
    refine XS.bipush X0.here hx rfl (hb hby at_1) ?_
    show Steps p.tables e below (s₁.setTop (mkF m 3 #[.val (.int p1), .val (.int p2), .val (.int p3), .unset, .unset, .unset, .unset] [(.int (63 : Int32)), (.int p1)])) _
    refine XS.iand X0.here hx rfl (hb hby at_3) rfl ?_
    show Steps p.tables e below (s₁.setTop (mkF m 4 #[.val (.int p1), .val (.int p2), .val (.int p3), .unset, .unset, .unset, .unset] [(.int (p1 &&& (63 : Int32)))])) _
    refine XS.iloadN X0.here hx rfl (hb hby at_4) rfl ?_
    show Steps p.tables e below (s₁.setTop (mkF m 5 #[.val (.int p1), .val (.int p2), .val (.int p3), .unset, .unset, .unset, .unset] [(.int p1), (.int (p1 &&& (63 : Int32)))])) _
    refine XS.bipush X0.here hx rfl (hb hby at_5) ?_
    show Steps p.tables e below (s₁.setTop (mkF m 7 #[.val (.int p1), .val (.int p2), .val (.int p3), .unset, .unset, .unset, .unset] [(.int (6 : Int32)), (.int p1), (.int (p1 &&& (63 : Int32)))])) _
    refine XS.iushr X0.here hx rfl (hb hby at_7) rfl ?_
    show Steps p.tables e below (s₁.setTop (mkF m 8 #[.val (.int p1), .val (.int p2), .val (.int p3), .unset, .unset, .unset, .unset] [(.int ((p1.toUInt32 >>> ((6 : Int32) &&& 31).toUInt32).toInt32)), (.int (p1 &&& (63 : Int32)))])) _
    refine XS.bipush X0.here hx rfl (hb hby at_8) ?_
    show Steps p.tables e below (s₁.setTop (mkF m 10 #[.val (.int p1), .val (.int p2), .val (.int p3), .unset, .unset, .unset, .unset] [(.int (63 : Int32)), (.int ((p1.toUInt32 >>> ((6 : Int32) &&& 31).toUInt32).toInt32)), (.int (p1 &&& (63 : Int32)))])) _
    refine XS.iand X0.here hx rfl (hb hby at_10) rfl ?_
    show Steps p.tables e below (s₁.setTop (mkF m 11 #[.val (.int p1), .val (.int p2), .val (.int p3), .unset, .unset, .unset, .unset] [(.int (((p1.toUInt32 >>> ((6 : Int32) &&& 31).toUInt32).toInt32) &&& (63 : Int32))), (.int (p1 &&& (63 : Int32)))])) _
    refine XS.bipush X0.here hx rfl (hb hby at_11) ?_
    show Steps p.tables e below (s₁.setTop (mkF m 13 #[.val (.int p1), .val (.int p2), .val (.int p3), .unset, .unset, .unset, .unset] [(.int (6 : Int32)), (.int (((p1.toUInt32 >>> ((6 : Int32) &&& 31).toUInt32).toInt32) &&& (63 : Int32))), (.int (p1 &&& (63 : Int32)))])) _
    refine XS.ishl X0.here hx rfl (hb hby at_13) rfl ?_
    show Steps p.tables e below (s₁.setTop (mkF m 14 #[.val (.int p1), .val (.int p2), .val (.int p3), .unset, .unset, .unset, .unset] [(.int ((((p1.toUInt32 >>> ((6 : Int32) &&& 31).toUInt32).toInt32) &&& (63 : Int32)) <<< ((6 : Int32) &&& 31))), (.int (p1 &&& (63 : Int32)))])) _
    refine XS.ior X0.here hx rfl (hb hby at_14) rfl ?_
    show Steps p.tables e below (s₁.setTop (mkF m 15 #[.val (.int p1), .val (.int p2), .val (.int p3), .unset, .unset, .unset, .unset] [(.int ((p1 &&& (63 : Int32)) ||| ((((p1.toUInt32 >>> ((6 : Int32) &&& 31).toUInt32).toInt32) &&& (63 : Int32)) <<< ((6 : Int32) &&& 31))))])) _
    refine XS.iloadN X0.here hx rfl (hb hby at_15) rfl ?_
    show Steps p.tables e below (s₁.setTop (mkF m 16 #[.val (.int p1), .val (.int p2), .val (.int p3), .unset, .unset, .unset, .unset] [(.int p1), (.int ((p1 &&& (63 : Int32)) ||| ((((p1.toUInt32 >>> ((6 : Int32) &&& 31).toUInt32).toInt32) &&& (63 : Int32)) <<< ((6 : Int32) &&& 31))))])) _
    refine XS.bipush X0.here hx rfl (hb hby at_16) ?_
    show Steps p.tables e below (s₁.setTop (mkF m 18 #[.val (.int p1), .val (.int p2), .val (.int p3), .unset, .unset, .unset, .unset] [(.int (15 : Int32)), (.int p1), (.int ((p1 &&& (63 : Int32)) ||| ((((p1.toUInt32 >>> ((6 : Int32) &&& 31).toUInt32).toInt32) &&& (63 : Int32)) <<< ((6 : Int32) &&& 31))))])) _
    refine XS.iushr X0.here hx rfl (hb hby at_18) rfl ?_
    show Steps p.tables e below (s₁.setTop (mkF m 19 #[.val (.int p1), .val (.int p2), .val (.int p3), .unset, .unset, .unset, .unset] [(.int ((p1.toUInt32 >>> ((15 : Int32) &&& 31).toUInt32).toInt32)), (.int ((p1 &&& (63 : Int32)) ||| ((((p1.toUInt32 >>> ((6 : Int32) &&& 31).toUInt32).toInt32) &&& (63 : Int32)) <<< ((6 : Int32) &&& 31))))])) _
    refine XS.bipush X0.here hx rfl (hb hby at_19) ?_
    show Steps p.tables e below (s₁.setTop (mkF m 21 #[.val (.int p1), .val (.int p2), .val (.int p3), .unset, .unset, .unset, .unset] [(.int (7 : Int32)), (.int ((p1.toUInt32 >>> ((15 : Int32) &&& 31).toUInt32).toInt32)), (.int ((p1 &&& (63 : Int32)) ||| ((((p1.toUInt32 >>> ((6 : Int32) &&& 31).toUInt32).toInt32) &&& (63 : Int32)) <<< ((6 : Int32) &&& 31))))])) _
    refine XS.iand X0.here hx rfl (hb hby at_21) rfl ?_
    show Steps p.tables e below (s₁.setTop (mkF m 22 #[.val (.int p1), .val (.int p2), .val (.int p3), .unset, .unset, .unset, .unset] [(.int (((p1.toUInt32 >>> ((15 : Int32) &&& 31).toUInt32).toInt32) &&& (7 : Int32))), (.int ((p1 &&& (63 : Int32)) ||| ((((p1.toUInt32 >>> ((6 : Int32) &&& 31).toUInt32).toInt32) &&& (63 : Int32)) <<< ((6 : Int32) &&& 31))))])) _
    refine XS.bipush X0.here hx rfl (hb hby at_22) ?_
    show Steps p.tables e below (s₁.setTop (mkF m 24 #[.val (.int p1), .val (.int p2), .val (.int p3), .unset, .unset, .unset, .unset] [(.int (15 : Int32)), (.int (((p1.toUInt32 >>> ((15 : Int32) &&& 31).toUInt32).toInt32) &&& (7 : Int32))), (.int ((p1 &&& (63 : Int32)) ||| ((((p1.toUInt32 >>> ((6 : Int32) &&& 31).toUInt32).toInt32) &&& (63 : Int32)) <<< ((6 : Int32) &&& 31))))])) _
    refine XS.ishl X0.here hx rfl (hb hby at_24) rfl ?_
    show Steps p.tables e below (s₁.setTop (mkF m 25 #[.val (.int p1), .val (.int p2), .val (.int p3), .unset, .unset, .unset, .unset] [(.int ((((p1.toUInt32 >>> ((15 : Int32) &&& 31).toUInt32).toInt32) &&& (7 : Int32)) <<< ((15 : Int32) &&& 31))), (.int ((p1 &&& (63 : Int32)) ||| ((((p1.toUInt32 >>> ((6 : Int32) &&& 31).toUInt32).toInt32) &&& (63 : Int32)) <<< ((6 : Int32) &&& 31))))])) _
    refine XS.ior X0.here hx rfl (hb hby at_25) rfl ?_
    show Steps p.tables e below (s₁.setTop (mkF m 26 #[.val (.int p1), .val (.int p2), .val (.int p3), .unset, .unset, .unset, .unset] [(.int (own_b p1))])) _
    refine XS.istoreN X0.here hx rfl (hb hby at_26) rfl (l' := #[.val (.int p1), .val (.int p2), .val (.int p3), .val (.int (own_b p1)), .unset, .unset, .unset]) rfl ?_
    show Steps p.tables e below (s₁.setTop (mkF m 27 #[.val (.int p1), .val (.int p2), .val (.int p3), .val (.int (own_b p1)), .unset, .unset, .unset] [])) _
    refine XS.iloadN X0.here hx rfl (hb hby at_27) rfl ?_
    show Steps p.tables e below (s₁.setTop (mkF m 28 #[.val (.int p1), .val (.int p2), .val (.int p3), .val (.int (own_b p1)), .unset, .unset, .unset] [(.int p3)])) _
    refine XS.iconst X0.here hx rfl (hb hby at_28) ?_
    show Steps p.tables e below (s₁.setTop (mkF m 29 #[.val (.int p1), .val (.int p2), .val (.int p3), .val (.int (own_b p1)), .unset, .unset, .unset] [(.int (3 : Int32)), (.int p3)])) _
    refine XS.iand X0.here hx rfl (hb hby at_29) rfl ?_
    show Steps p.tables e below (s₁.setTop (mkF m 30 #[.val (.int p1), .val (.int p2), .val (.int p3), .val (.int (own_b p1)), .unset, .unset, .unset] [(.int (p3 &&& (3 : Int32)))])) _
    refine XS.istore X0.here hx rfl (hb hby at_30) rfl (l' := #[.val (.int p1), .val (.int p2), .val (.int p3), .val (.int (own_b p1)), .val (.int (p3 &&& (3 : Int32))), .unset, .unset]) rfl ?_
    show Steps p.tables e below (s₁.setTop (mkF m 32 #[.val (.int p1), .val (.int p2), .val (.int p3), .val (.int (own_b p1)), .val (.int (p3 &&& (3 : Int32))), .unset, .unset] [])) _
    refine XS.iload X0.here hx rfl (hb hby at_32) rfl ?_
    show Steps p.tables e below (s₁.setTop (mkF m 34 #[.val (.int p1), .val (.int p2), .val (.int p3), .val (.int (own_b p1)), .val (.int (p3 &&& (3 : Int32))), .unset, .unset] [(.int (p3 &&& (3 : Int32)))])) _
    refine XS.ifYes X0.here hx rfl (pc0 := 34) (pc' := 43) rfl (hb hby at_34) rfl ((if0 _ _).trans (feq hc34).2) (by decide) (by decide) ?_
    show Steps p.tables e below (s₁.setTop (mkF m 43 #[.val (.int p1), .val (.int p2), .val (.int p3), .val (.int (own_b p1)), .val (.int (p3 &&& (3 : Int32))), .unset, .unset] [])) _
    refine XS.iload X0.here hx rfl (hb hby at_43) rfl ?_
    show Steps p.tables e below (s₁.setTop (mkF m 45 #[.val (.int p1), .val (.int p2), .val (.int p3), .val (.int (own_b p1)), .val (.int (p3 &&& (3 : Int32))), .unset, .unset] [(.int (p3 &&& (3 : Int32)))])) _
    refine XS.iconst X0.here hx rfl (hb hby at_45) ?_
    show Steps p.tables e below (s₁.setTop (mkF m 46 #[.val (.int p1), .val (.int p2), .val (.int p3), .val (.int (own_b p1)), .val (.int (p3 &&& (3 : Int32))), .unset, .unset] [(.int (1 : Int32)), (.int (p3 &&& (3 : Int32)))])) _
    refine XS.icmpYes X0.here hx rfl (pc0 := 46) (pc' := 55) rfl (hb hby at_46) rfl (feq hc46).2 (by decide) (by decide) ?_
    show Steps p.tables e below (s₁.setTop (mkF m 55 #[.val (.int p1), .val (.int p2), .val (.int p3), .val (.int (own_b p1)), .val (.int (p3 &&& (3 : Int32))), .unset, .unset] [])) _
    refine XS.iload X0.here hx rfl (hb hby at_55) rfl ?_
    show Steps p.tables e below (s₁.setTop (mkF m 57 #[.val (.int p1), .val (.int p2), .val (.int p3), .val (.int (own_b p1)), .val (.int (p3 &&& (3 : Int32))), .unset, .unset] [(.int (p3 &&& (3 : Int32)))])) _
    refine XS.iconst X0.here hx rfl (hb hby at_57) ?_
    show Steps p.tables e below (s₁.setTop (mkF m 58 #[.val (.int p1), .val (.int p2), .val (.int p3), .val (.int (own_b p1)), .val (.int (p3 &&& (3 : Int32))), .unset, .unset] [(.int (2 : Int32)), (.int (p3 &&& (3 : Int32)))])) _
    refine XS.icmpYes X0.here hx rfl (pc0 := 58) (pc' := 74) rfl (hb hby at_58) rfl (feq hc58).2 (by decide) (by decide) ?_
    show Steps p.tables e below (s₁.setTop (mkF m 74 #[.val (.int p1), .val (.int p2), .val (.int p3), .val (.int (own_b p1)), .val (.int (p3 &&& (3 : Int32))), .unset, .unset] [])) _
    refine XS.iloadN X0.here hx rfl (hb hby at_74) rfl ?_
    show Steps p.tables e below (s₁.setTop (mkF m 75 #[.val (.int p1), .val (.int p2), .val (.int p3), .val (.int (own_b p1)), .val (.int (p3 &&& (3 : Int32))), .unset, .unset] [(.int p1)])) _
    refine XS.istore X0.here hx rfl (hb hby at_75) rfl (l' := #[.val (.int p1), .val (.int p2), .val (.int p3), .val (.int (own_b p1)), .val (.int (p3 &&& (3 : Int32))), .val (.int p1), .unset]) rfl ?_
    show Steps p.tables e below (s₁.setTop (mkF m 77 #[.val (.int p1), .val (.int p2), .val (.int p3), .val (.int (own_b p1)), .val (.int (p3 &&& (3 : Int32))), .val (.int p1), .unset] [])) _
    refine XS.iload X0.here hx rfl (hb hby at_77) rfl ?_
    show Steps p.tables e below (s₁.setTop (mkF m 79 #[.val (.int p1), .val (.int p2), .val (.int p3), .val (.int (own_b p1)), .val (.int (p3 &&& (3 : Int32))), .val (.int p1), .unset] [(.int p1)])) _
    refine XS.bipush X0.here hx rfl (hb hby at_79) ?_
    show Steps p.tables e below (s₁.setTop (mkF m 81 #[.val (.int p1), .val (.int p2), .val (.int p3), .val (.int (own_b p1)), .val (.int (p3 &&& (3 : Int32))), .val (.int p1), .unset] [(.int (18 : Int32)), (.int p1)])) _
    refine XS.iushr X0.here hx rfl (hb hby at_81) rfl ?_
    show Steps p.tables e below (s₁.setTop (mkF m 82 #[.val (.int p1), .val (.int p2), .val (.int p3), .val (.int (own_b p1)), .val (.int (p3 &&& (3 : Int32))), .val (.int p1), .unset] [(.int ((p1.toUInt32 >>> ((18 : Int32) &&& 31).toUInt32).toInt32))])) _
    refine XS.ifYes X0.here hx rfl (pc0 := 82) (pc' := 148) rfl (hb hby at_82) rfl ((if0 _ _).trans (feq hc82).2) (by decide) (by decide) ?_
    show Steps p.tables e below (s₁.setTop (mkF m 148 #[.val (.int p1), .val (.int p2), .val (.int p3), .val (.int (own_b p1)), .val (.int (p3 &&& (3 : Int32))), .val (.int p1), .unset] [])) _
    refine XS.iconst X0.here hx rfl (hb hby at_148) ?_
    show Steps p.tables e below (s₁.setTop (mkF m 149 #[.val (.int p1), .val (.int p2), .val (.int p3), .val (.int (own_b p1)), .val (.int (p3 &&& (3 : Int32))), .val (.int p1), .unset] [(.int (0 : Int32))])) _
    refine XS.istore X0.here hx rfl (hb hby at_149) rfl (l' := #[.val (.int p1), .val (.int p2), .val (.int p3), .val (.int (own_b p1)), .val (.int (p3 &&& (3 : Int32))), .val (.int p1), .val (.int (0 : Int32))]) rfl ?_
    show Steps p.tables e below (s₁.setTop (mkF m 151 #[.val (.int p1), .val (.int p2), .val (.int p3), .val (.int (own_b p1)), .val (.int (p3 &&& (3 : Int32))), .val (.int p1), .val (.int (0 : Int32))] [])) _
    refine XS.iloadN X0.here hx rfl (hb hby at_151) rfl ?_
    show Steps p.tables e below (s₁.setTop (mkF m 152 #[.val (.int p1), .val (.int p2), .val (.int p3), .val (.int (own_b p1)), .val (.int (p3 &&& (3 : Int32))), .val (.int p1), .val (.int (0 : Int32))] [(.int p1)])) _
    refine XS.iload X0.here hx rfl (hb hby at_152) rfl ?_
    show Steps p.tables e below (s₁.setTop (mkF m 154 #[.val (.int p1), .val (.int p2), .val (.int p3), .val (.int (own_b p1)), .val (.int (p3 &&& (3 : Int32))), .val (.int p1), .val (.int (0 : Int32))] [(.int p1), (.int p1)])) _
    refine st4 _ ?_
    show Steps p.tables e below (T4.setTop (mkF m 157 #[.val (.int p1), .val (.int p2), .val (.int p3), .val (.int (own_b p1)), .val (.int (p3 &&& (3 : Int32))), .val (.int p1), .val (.int (0 : Int32))] [(.int (val1 p1 p1))])) _
    refine XS.iload X4.here hx rfl (hb hby at_157) rfl ?_
    show Steps p.tables e below (T4.setTop (mkF m 159 #[.val (.int p1), .val (.int p2), .val (.int p3), .val (.int (own_b p1)), .val (.int (p3 &&& (3 : Int32))), .val (.int p1), .val (.int (0 : Int32))] [(.int (0 : Int32)), (.int (val1 p1 p1))])) _
    refine XS.icmpNo X4.here hx rfl (hb hby at_159) rfl (teq (by unfold val1; rw [if_neg (fun q => hc82 ((own_iff _ _).mp q).1)] : (val1 p1 p1) = (0 : Int32))).2 ?_
    show Steps p.tables e below (T4.setTop (mkF m 162 #[.val (.int p1), .val (.int p2), .val (.int p3), .val (.int (own_b p1)), .val (.int (p3 &&& (3 : Int32))), .val (.int p1), .val (.int (0 : Int32))] [])) _
    refine XS.iconst X4.here hx rfl (hb hby at_162) ?_
    show Steps p.tables e below (T4.setTop (mkF m 163 #[.val (.int p1), .val (.int p2), .val (.int p3), .val (.int (own_b p1)), .val (.int (p3 &&& (3 : Int32))), .val (.int p1), .val (.int (0 : Int32))] [(.int (1 : Int32))])) _
    refine XS.goto X4.here hx rfl (pc0 := 163) (pc' := 167) rfl (hb hby at_163) (by decide) (by decide) ?_
    show Steps p.tables e below (T4.setTop (mkF m 167 #[.val (.int p1), .val (.int p2), .val (.int p3), .val (.int (own_b p1)), .val (.int (p3 &&& (3 : Int32))), .val (.int p1), .val (.int (0 : Int32))] [(.int (1 : Int32))])) _
    exact retN X4 hx (t := .boolean) Bd.returns (by simp) (hb hby at_167) hr
  · show Q0 Z p1 p2 p3 h0 n0 _ T4.heap _
    exact ⟨rfl, N4⟩

set_option maxRecDepth 65536 in
set_option maxHeartbeats 40000000 in
theorem rm0_tttftf (l : Launch) (Z : State) (a0 : Array Value) (hw : ∀ d ∈ tables_1, d.before a0 Z = true) (ws : List Jvm.Cond) (p1 : Int32) (p2 : Int32) (p3 : Int32) (h0 : Heap) (n0 : Nat) (Z0 : n0 ≤ h0.size) (hc34 : ¬ ((p3 &&& (3 : Int32)) = (0 : Int32))) (hc46 : ¬ ((p3 &&& (3 : Int32)) = (1 : Int32))) (hc58 : ¬ ((p3 &&& (3 : Int32)) = (2 : Int32))) (hc82 : ((p1.toUInt32 >>> ((18 : Int32) &&& 31).toUInt32).toInt32) = (0 : Int32)) (hc93 : ¬ ((((p1.toUInt32 >>> ((12 : Int32) &&& 31).toUInt32).toInt32) &&& (7 : Int32)) = (0 : Int32))) :
    MetFree l x (head1 (Jvm.Cond.code x code maxLocals ret :: ws) room_1) (fun a U => a = #[(.int p1), (.int p2), (.int p3)] ∧ Z.Warmed39 U.vm ∧ U.heap = h0) (fun _ _ _ _ _ => True) (fun _ U o U' => ∃ v L, o = .returned v ∧ Q0 Z p1 p2 p3 h0 n0 v U'.heap L ∧ FrameEnd U o U' L room_1.cells room_1.slots) := by
  refine MetFree.of_bodySF (plainFor_of_name pn_0) hisR ?_
  intro p e s m args below meth c s₁ Bd hml0 hP hK
  obtain ⟨rfl, hZ, hh⟩ := hP
  have hx := Bd.exec
  have hby := Bd.bytes
  have hml : c.maxLocals = 7 := hml0
  have hown : s.vm.findClass "touchmove/position/PackedMoveIsPinLaw" = some m.cls := findClass_of_methodNamed Bd.named
  have hnm := (name_of_methodNamed Bd.named Bd.method).1
  have X0 : Stand p l e room_1 s m #[(.int p1), (.int p2), (.int p3)] below meth c s₁ [] 0 0 := Stand.of_body Bd
  have e0 : s₁.heap = h0 := by rw [← hh, Bd.state]; rfl
  have N0 := Fr.nil n0
  have pre0 : ∀ t, Steps p.tables e below (s₁.setTop (mkF m 0 #[.val (.int p1), .val (.int p2), .val (.int p3), .unset, .unset, .unset, .unset] [])) t → Steps p.tables e below (s₁.setTop (entryFrame m #[(.int p1), (.int p2), (.int p3)] maxLocals)) t := fun t k => castTop (ef_0 m p1 p2 p3) k
  obtain ⟨_, _, ⟨T4, L4, k4, n4⟩, -, X4, ⟨Lc4, hQ4, l4, y4, z4⟩, st4⟩ := Jvm.LawKit.callS X0 hx (y := (⟨"touchmove/position/PackedMove", "is", "(II)Z"⟩ : MethodName)) hown (mvT hZ (hw _ (List.mem_of_getElem? (i := 0) rfl))) (mvT hZ (hw _ (List.mem_of_getElem? (i := 1) rfl))) (mvT hZ (hw _ (List.mem_of_getElem? (i := 2) rfl))) (mvT hZ (hw _ (List.mem_of_getElem? (i := 3) rfl))) (by decide) (backOf (W := 0) (rm1 l Z a0 hw [] p1 p1 h0 n0 Z0) hZ (hw _ (List.mem_of_getElem? (i := 3) rfl)) (hw _ (List.mem_of_getElem? (i := 2) rfl)) (by decide) (by decide)) (g := (mkF m 154 #[.val (.int p1), .val (.int p2), .val (.int p3), .val (.int (own_b p1)), .val (.int (p3 &&& (3 : Int32))), .val (.int p1), .val (.int (0 : Int32))] [(.int p1), (.int p1)])) rfl (by rw [hml]; rfl) (argsL := [(.int p1), (.int p1)]) (rest := []) (lenOf pd_0_0 rfl) rfl (by show 2 * 0 + _ ≤ _; exact Nat.le_of_eq rfl) (hb hby at_154) (fun _ _ => ⟨rfl, e0, (by decide : 0 + 0 ≤ _), (by decide : 0 + 0 ≤ _)⟩)
  dsimp only [Pt.U, Pt.locs, Pt.cells, Pt.slots] at X4 l4 y4 z4 st4 hQ4
  subst l4 y4 z4
  obtain ⟨rfl, N4q, w4⟩ := hQ4
  have N4 := Fr.app N0 N4q
  obtain ⟨fs, hr, hrun, hended, hW, hsame⟩ := X4.leave (v := some (.int (1 : Int32))) (fun h => by rw [Bd.returns] at h; cases h)
  refine ⟨_, _, pre0 _ ?_, hrun, hended, _, _, rfl, ?_, ⟨_, rfl⟩, hW, hsame.mono (by decide) (by decide)⟩
  · show Steps p.tables e below (s₁.setTop (mkF m 0 #[.val (.int p1), .val (.int p2), .val (.int p3), .unset, .unset, .unset, .unset] [])) _
    refine XS.iloadN X0.here hx rfl (hb hby at_0) rfl ?_
    show Steps p.tables e below (s₁.setTop (mkF m 1 #[.val (.int p1), .val (.int p2), .val (.int p3), .unset, .unset, .unset, .unset] [(.int p1)])) _
    refine XS.bipush X0.here hx rfl (hb hby at_1) ?_
    show Steps p.tables e below (s₁.setTop (mkF m 3 #[.val (.int p1), .val (.int p2), .val (.int p3), .unset, .unset, .unset, .unset] [(.int (63 : Int32)), (.int p1)])) _
    refine XS.iand X0.here hx rfl (hb hby at_3) rfl ?_
    show Steps p.tables e below (s₁.setTop (mkF m 4 #[.val (.int p1), .val (.int p2), .val (.int p3), .unset, .unset, .unset, .unset] [(.int (p1 &&& (63 : Int32)))])) _
    refine XS.iloadN X0.here hx rfl (hb hby at_4) rfl ?_
    show Steps p.tables e below (s₁.setTop (mkF m 5 #[.val (.int p1), .val (.int p2), .val (.int p3), .unset, .unset, .unset, .unset] [(.int p1), (.int (p1 &&& (63 : Int32)))])) _
    refine XS.bipush X0.here hx rfl (hb hby at_5) ?_
    show Steps p.tables e below (s₁.setTop (mkF m 7 #[.val (.int p1), .val (.int p2), .val (.int p3), .unset, .unset, .unset, .unset] [(.int (6 : Int32)), (.int p1), (.int (p1 &&& (63 : Int32)))])) _
    refine XS.iushr X0.here hx rfl (hb hby at_7) rfl ?_
    show Steps p.tables e below (s₁.setTop (mkF m 8 #[.val (.int p1), .val (.int p2), .val (.int p3), .unset, .unset, .unset, .unset] [(.int ((p1.toUInt32 >>> ((6 : Int32) &&& 31).toUInt32).toInt32)), (.int (p1 &&& (63 : Int32)))])) _
    refine XS.bipush X0.here hx rfl (hb hby at_8) ?_
    show Steps p.tables e below (s₁.setTop (mkF m 10 #[.val (.int p1), .val (.int p2), .val (.int p3), .unset, .unset, .unset, .unset] [(.int (63 : Int32)), (.int ((p1.toUInt32 >>> ((6 : Int32) &&& 31).toUInt32).toInt32)), (.int (p1 &&& (63 : Int32)))])) _
    refine XS.iand X0.here hx rfl (hb hby at_10) rfl ?_
    show Steps p.tables e below (s₁.setTop (mkF m 11 #[.val (.int p1), .val (.int p2), .val (.int p3), .unset, .unset, .unset, .unset] [(.int (((p1.toUInt32 >>> ((6 : Int32) &&& 31).toUInt32).toInt32) &&& (63 : Int32))), (.int (p1 &&& (63 : Int32)))])) _
    refine XS.bipush X0.here hx rfl (hb hby at_11) ?_
    show Steps p.tables e below (s₁.setTop (mkF m 13 #[.val (.int p1), .val (.int p2), .val (.int p3), .unset, .unset, .unset, .unset] [(.int (6 : Int32)), (.int (((p1.toUInt32 >>> ((6 : Int32) &&& 31).toUInt32).toInt32) &&& (63 : Int32))), (.int (p1 &&& (63 : Int32)))])) _
    refine XS.ishl X0.here hx rfl (hb hby at_13) rfl ?_
    show Steps p.tables e below (s₁.setTop (mkF m 14 #[.val (.int p1), .val (.int p2), .val (.int p3), .unset, .unset, .unset, .unset] [(.int ((((p1.toUInt32 >>> ((6 : Int32) &&& 31).toUInt32).toInt32) &&& (63 : Int32)) <<< ((6 : Int32) &&& 31))), (.int (p1 &&& (63 : Int32)))])) _
    refine XS.ior X0.here hx rfl (hb hby at_14) rfl ?_
    show Steps p.tables e below (s₁.setTop (mkF m 15 #[.val (.int p1), .val (.int p2), .val (.int p3), .unset, .unset, .unset, .unset] [(.int ((p1 &&& (63 : Int32)) ||| ((((p1.toUInt32 >>> ((6 : Int32) &&& 31).toUInt32).toInt32) &&& (63 : Int32)) <<< ((6 : Int32) &&& 31))))])) _
    refine XS.iloadN X0.here hx rfl (hb hby at_15) rfl ?_
    show Steps p.tables e below (s₁.setTop (mkF m 16 #[.val (.int p1), .val (.int p2), .val (.int p3), .unset, .unset, .unset, .unset] [(.int p1), (.int ((p1 &&& (63 : Int32)) ||| ((((p1.toUInt32 >>> ((6 : Int32) &&& 31).toUInt32).toInt32) &&& (63 : Int32)) <<< ((6 : Int32) &&& 31))))])) _
    refine XS.bipush X0.here hx rfl (hb hby at_16) ?_
    show Steps p.tables e below (s₁.setTop (mkF m 18 #[.val (.int p1), .val (.int p2), .val (.int p3), .unset, .unset, .unset, .unset] [(.int (15 : Int32)), (.int p1), (.int ((p1 &&& (63 : Int32)) ||| ((((p1.toUInt32 >>> ((6 : Int32) &&& 31).toUInt32).toInt32) &&& (63 : Int32)) <<< ((6 : Int32) &&& 31))))])) _
    refine XS.iushr X0.here hx rfl (hb hby at_18) rfl ?_
    show Steps p.tables e below (s₁.setTop (mkF m 19 #[.val (.int p1), .val (.int p2), .val (.int p3), .unset, .unset, .unset, .unset] [(.int ((p1.toUInt32 >>> ((15 : Int32) &&& 31).toUInt32).toInt32)), (.int ((p1 &&& (63 : Int32)) ||| ((((p1.toUInt32 >>> ((6 : Int32) &&& 31).toUInt32).toInt32) &&& (63 : Int32)) <<< ((6 : Int32) &&& 31))))])) _
    refine XS.bipush X0.here hx rfl (hb hby at_19) ?_
    show Steps p.tables e below (s₁.setTop (mkF m 21 #[.val (.int p1), .val (.int p2), .val (.int p3), .unset, .unset, .unset, .unset] [(.int (7 : Int32)), (.int ((p1.toUInt32 >>> ((15 : Int32) &&& 31).toUInt32).toInt32)), (.int ((p1 &&& (63 : Int32)) ||| ((((p1.toUInt32 >>> ((6 : Int32) &&& 31).toUInt32).toInt32) &&& (63 : Int32)) <<< ((6 : Int32) &&& 31))))])) _
    refine XS.iand X0.here hx rfl (hb hby at_21) rfl ?_
    show Steps p.tables e below (s₁.setTop (mkF m 22 #[.val (.int p1), .val (.int p2), .val (.int p3), .unset, .unset, .unset, .unset] [(.int (((p1.toUInt32 >>> ((15 : Int32) &&& 31).toUInt32).toInt32) &&& (7 : Int32))), (.int ((p1 &&& (63 : Int32)) ||| ((((p1.toUInt32 >>> ((6 : Int32) &&& 31).toUInt32).toInt32) &&& (63 : Int32)) <<< ((6 : Int32) &&& 31))))])) _
    refine XS.bipush X0.here hx rfl (hb hby at_22) ?_
    show Steps p.tables e below (s₁.setTop (mkF m 24 #[.val (.int p1), .val (.int p2), .val (.int p3), .unset, .unset, .unset, .unset] [(.int (15 : Int32)), (.int (((p1.toUInt32 >>> ((15 : Int32) &&& 31).toUInt32).toInt32) &&& (7 : Int32))), (.int ((p1 &&& (63 : Int32)) ||| ((((p1.toUInt32 >>> ((6 : Int32) &&& 31).toUInt32).toInt32) &&& (63 : Int32)) <<< ((6 : Int32) &&& 31))))])) _
    refine XS.ishl X0.here hx rfl (hb hby at_24) rfl ?_
    show Steps p.tables e below (s₁.setTop (mkF m 25 #[.val (.int p1), .val (.int p2), .val (.int p3), .unset, .unset, .unset, .unset] [(.int ((((p1.toUInt32 >>> ((15 : Int32) &&& 31).toUInt32).toInt32) &&& (7 : Int32)) <<< ((15 : Int32) &&& 31))), (.int ((p1 &&& (63 : Int32)) ||| ((((p1.toUInt32 >>> ((6 : Int32) &&& 31).toUInt32).toInt32) &&& (63 : Int32)) <<< ((6 : Int32) &&& 31))))])) _
    refine XS.ior X0.here hx rfl (hb hby at_25) rfl ?_
    show Steps p.tables e below (s₁.setTop (mkF m 26 #[.val (.int p1), .val (.int p2), .val (.int p3), .unset, .unset, .unset, .unset] [(.int (own_b p1))])) _
    refine XS.istoreN X0.here hx rfl (hb hby at_26) rfl (l' := #[.val (.int p1), .val (.int p2), .val (.int p3), .val (.int (own_b p1)), .unset, .unset, .unset]) rfl ?_
    show Steps p.tables e below (s₁.setTop (mkF m 27 #[.val (.int p1), .val (.int p2), .val (.int p3), .val (.int (own_b p1)), .unset, .unset, .unset] [])) _
    refine XS.iloadN X0.here hx rfl (hb hby at_27) rfl ?_
    show Steps p.tables e below (s₁.setTop (mkF m 28 #[.val (.int p1), .val (.int p2), .val (.int p3), .val (.int (own_b p1)), .unset, .unset, .unset] [(.int p3)])) _
    refine XS.iconst X0.here hx rfl (hb hby at_28) ?_
    show Steps p.tables e below (s₁.setTop (mkF m 29 #[.val (.int p1), .val (.int p2), .val (.int p3), .val (.int (own_b p1)), .unset, .unset, .unset] [(.int (3 : Int32)), (.int p3)])) _
    refine XS.iand X0.here hx rfl (hb hby at_29) rfl ?_
    show Steps p.tables e below (s₁.setTop (mkF m 30 #[.val (.int p1), .val (.int p2), .val (.int p3), .val (.int (own_b p1)), .unset, .unset, .unset] [(.int (p3 &&& (3 : Int32)))])) _
    refine XS.istore X0.here hx rfl (hb hby at_30) rfl (l' := #[.val (.int p1), .val (.int p2), .val (.int p3), .val (.int (own_b p1)), .val (.int (p3 &&& (3 : Int32))), .unset, .unset]) rfl ?_
    show Steps p.tables e below (s₁.setTop (mkF m 32 #[.val (.int p1), .val (.int p2), .val (.int p3), .val (.int (own_b p1)), .val (.int (p3 &&& (3 : Int32))), .unset, .unset] [])) _
    refine XS.iload X0.here hx rfl (hb hby at_32) rfl ?_
    show Steps p.tables e below (s₁.setTop (mkF m 34 #[.val (.int p1), .val (.int p2), .val (.int p3), .val (.int (own_b p1)), .val (.int (p3 &&& (3 : Int32))), .unset, .unset] [(.int (p3 &&& (3 : Int32)))])) _
    refine XS.ifYes X0.here hx rfl (pc0 := 34) (pc' := 43) rfl (hb hby at_34) rfl ((if0 _ _).trans (feq hc34).2) (by decide) (by decide) ?_
    show Steps p.tables e below (s₁.setTop (mkF m 43 #[.val (.int p1), .val (.int p2), .val (.int p3), .val (.int (own_b p1)), .val (.int (p3 &&& (3 : Int32))), .unset, .unset] [])) _
    refine XS.iload X0.here hx rfl (hb hby at_43) rfl ?_
    show Steps p.tables e below (s₁.setTop (mkF m 45 #[.val (.int p1), .val (.int p2), .val (.int p3), .val (.int (own_b p1)), .val (.int (p3 &&& (3 : Int32))), .unset, .unset] [(.int (p3 &&& (3 : Int32)))])) _
    refine XS.iconst X0.here hx rfl (hb hby at_45) ?_
    show Steps p.tables e below (s₁.setTop (mkF m 46 #[.val (.int p1), .val (.int p2), .val (.int p3), .val (.int (own_b p1)), .val (.int (p3 &&& (3 : Int32))), .unset, .unset] [(.int (1 : Int32)), (.int (p3 &&& (3 : Int32)))])) _
    refine XS.icmpYes X0.here hx rfl (pc0 := 46) (pc' := 55) rfl (hb hby at_46) rfl (feq hc46).2 (by decide) (by decide) ?_
    show Steps p.tables e below (s₁.setTop (mkF m 55 #[.val (.int p1), .val (.int p2), .val (.int p3), .val (.int (own_b p1)), .val (.int (p3 &&& (3 : Int32))), .unset, .unset] [])) _
    refine XS.iload X0.here hx rfl (hb hby at_55) rfl ?_
    show Steps p.tables e below (s₁.setTop (mkF m 57 #[.val (.int p1), .val (.int p2), .val (.int p3), .val (.int (own_b p1)), .val (.int (p3 &&& (3 : Int32))), .unset, .unset] [(.int (p3 &&& (3 : Int32)))])) _
    refine XS.iconst X0.here hx rfl (hb hby at_57) ?_
    show Steps p.tables e below (s₁.setTop (mkF m 58 #[.val (.int p1), .val (.int p2), .val (.int p3), .val (.int (own_b p1)), .val (.int (p3 &&& (3 : Int32))), .unset, .unset] [(.int (2 : Int32)), (.int (p3 &&& (3 : Int32)))])) _
    refine XS.icmpYes X0.here hx rfl (pc0 := 58) (pc' := 74) rfl (hb hby at_58) rfl (feq hc58).2 (by decide) (by decide) ?_
    show Steps p.tables e below (s₁.setTop (mkF m 74 #[.val (.int p1), .val (.int p2), .val (.int p3), .val (.int (own_b p1)), .val (.int (p3 &&& (3 : Int32))), .unset, .unset] [])) _
    refine XS.iloadN X0.here hx rfl (hb hby at_74) rfl ?_
    show Steps p.tables e below (s₁.setTop (mkF m 75 #[.val (.int p1), .val (.int p2), .val (.int p3), .val (.int (own_b p1)), .val (.int (p3 &&& (3 : Int32))), .unset, .unset] [(.int p1)])) _
    refine XS.istore X0.here hx rfl (hb hby at_75) rfl (l' := #[.val (.int p1), .val (.int p2), .val (.int p3), .val (.int (own_b p1)), .val (.int (p3 &&& (3 : Int32))), .val (.int p1), .unset]) rfl ?_
    show Steps p.tables e below (s₁.setTop (mkF m 77 #[.val (.int p1), .val (.int p2), .val (.int p3), .val (.int (own_b p1)), .val (.int (p3 &&& (3 : Int32))), .val (.int p1), .unset] [])) _
    refine XS.iload X0.here hx rfl (hb hby at_77) rfl ?_
    show Steps p.tables e below (s₁.setTop (mkF m 79 #[.val (.int p1), .val (.int p2), .val (.int p3), .val (.int (own_b p1)), .val (.int (p3 &&& (3 : Int32))), .val (.int p1), .unset] [(.int p1)])) _
    refine XS.bipush X0.here hx rfl (hb hby at_79) ?_
    show Steps p.tables e below (s₁.setTop (mkF m 81 #[.val (.int p1), .val (.int p2), .val (.int p3), .val (.int (own_b p1)), .val (.int (p3 &&& (3 : Int32))), .val (.int p1), .unset] [(.int (18 : Int32)), (.int p1)])) _
    refine XS.iushr X0.here hx rfl (hb hby at_81) rfl ?_
    show Steps p.tables e below (s₁.setTop (mkF m 82 #[.val (.int p1), .val (.int p2), .val (.int p3), .val (.int (own_b p1)), .val (.int (p3 &&& (3 : Int32))), .val (.int p1), .unset] [(.int ((p1.toUInt32 >>> ((18 : Int32) &&& 31).toUInt32).toInt32))])) _
    refine XS.ifNo X0.here hx rfl (hb hby at_82) rfl ((if0 _ _).trans (teq hc82).2) ?_
    show Steps p.tables e below (s₁.setTop (mkF m 85 #[.val (.int p1), .val (.int p2), .val (.int p3), .val (.int (own_b p1)), .val (.int (p3 &&& (3 : Int32))), .val (.int p1), .unset] [])) _
    refine XS.iload X0.here hx rfl (hb hby at_85) rfl ?_
    show Steps p.tables e below (s₁.setTop (mkF m 87 #[.val (.int p1), .val (.int p2), .val (.int p3), .val (.int (own_b p1)), .val (.int (p3 &&& (3 : Int32))), .val (.int p1), .unset] [(.int p1)])) _
    refine XS.bipush X0.here hx rfl (hb hby at_87) ?_
    show Steps p.tables e below (s₁.setTop (mkF m 89 #[.val (.int p1), .val (.int p2), .val (.int p3), .val (.int (own_b p1)), .val (.int (p3 &&& (3 : Int32))), .val (.int p1), .unset] [(.int (12 : Int32)), (.int p1)])) _
    refine XS.iushr X0.here hx rfl (hb hby at_89) rfl ?_
    show Steps p.tables e below (s₁.setTop (mkF m 90 #[.val (.int p1), .val (.int p2), .val (.int p3), .val (.int (own_b p1)), .val (.int (p3 &&& (3 : Int32))), .val (.int p1), .unset] [(.int ((p1.toUInt32 >>> ((12 : Int32) &&& 31).toUInt32).toInt32))])) _
    refine XS.bipush X0.here hx rfl (hb hby at_90) ?_
    show Steps p.tables e below (s₁.setTop (mkF m 92 #[.val (.int p1), .val (.int p2), .val (.int p3), .val (.int (own_b p1)), .val (.int (p3 &&& (3 : Int32))), .val (.int p1), .unset] [(.int (7 : Int32)), (.int ((p1.toUInt32 >>> ((12 : Int32) &&& 31).toUInt32).toInt32))])) _
    refine XS.iand X0.here hx rfl (hb hby at_92) rfl ?_
    show Steps p.tables e below (s₁.setTop (mkF m 93 #[.val (.int p1), .val (.int p2), .val (.int p3), .val (.int (own_b p1)), .val (.int (p3 &&& (3 : Int32))), .val (.int p1), .unset] [(.int (((p1.toUInt32 >>> ((12 : Int32) &&& 31).toUInt32).toInt32) &&& (7 : Int32)))])) _
    refine XS.ifYes X0.here hx rfl (pc0 := 93) (pc' := 148) rfl (hb hby at_93) rfl ((if0 _ _).trans (feq hc93).2) (by decide) (by decide) ?_
    show Steps p.tables e below (s₁.setTop (mkF m 148 #[.val (.int p1), .val (.int p2), .val (.int p3), .val (.int (own_b p1)), .val (.int (p3 &&& (3 : Int32))), .val (.int p1), .unset] [])) _
    refine XS.iconst X0.here hx rfl (hb hby at_148) ?_
    show Steps p.tables e below (s₁.setTop (mkF m 149 #[.val (.int p1), .val (.int p2), .val (.int p3), .val (.int (own_b p1)), .val (.int (p3 &&& (3 : Int32))), .val (.int p1), .unset] [(.int (0 : Int32))])) _
    refine XS.istore X0.here hx rfl (hb hby at_149) rfl (l' := #[.val (.int p1), .val (.int p2), .val (.int p3), .val (.int (own_b p1)), .val (.int (p3 &&& (3 : Int32))), .val (.int p1), .val (.int (0 : Int32))]) rfl ?_
    show Steps p.tables e below (s₁.setTop (mkF m 151 #[.val (.int p1), .val (.int p2), .val (.int p3), .val (.int (own_b p1)), .val (.int (p3 &&& (3 : Int32))), .val (.int p1), .val (.int (0 : Int32))] [])) _
    refine XS.iloadN X0.here hx rfl (hb hby at_151) rfl ?_
    show Steps p.tables e below (s₁.setTop (mkF m 152 #[.val (.int p1), .val (.int p2), .val (.int p3), .val (.int (own_b p1)), .val (.int (p3 &&& (3 : Int32))), .val (.int p1), .val (.int (0 : Int32))] [(.int p1)])) _
    refine XS.iload X0.here hx rfl (hb hby at_152) rfl ?_
    show Steps p.tables e below (s₁.setTop (mkF m 154 #[.val (.int p1), .val (.int p2), .val (.int p3), .val (.int (own_b p1)), .val (.int (p3 &&& (3 : Int32))), .val (.int p1), .val (.int (0 : Int32))] [(.int p1), (.int p1)])) _
    refine st4 _ ?_
    show Steps p.tables e below (T4.setTop (mkF m 157 #[.val (.int p1), .val (.int p2), .val (.int p3), .val (.int (own_b p1)), .val (.int (p3 &&& (3 : Int32))), .val (.int p1), .val (.int (0 : Int32))] [(.int (val1 p1 p1))])) _
    refine XS.iload X4.here hx rfl (hb hby at_157) rfl ?_
    show Steps p.tables e below (T4.setTop (mkF m 159 #[.val (.int p1), .val (.int p2), .val (.int p3), .val (.int (own_b p1)), .val (.int (p3 &&& (3 : Int32))), .val (.int p1), .val (.int (0 : Int32))] [(.int (0 : Int32)), (.int (val1 p1 p1))])) _
    refine XS.icmpNo X4.here hx rfl (hb hby at_159) rfl (teq (by unfold val1; rw [if_neg (fun q => hc93 ((own_iff _ _).mp q).2.1)] : (val1 p1 p1) = (0 : Int32))).2 ?_
    show Steps p.tables e below (T4.setTop (mkF m 162 #[.val (.int p1), .val (.int p2), .val (.int p3), .val (.int (own_b p1)), .val (.int (p3 &&& (3 : Int32))), .val (.int p1), .val (.int (0 : Int32))] [])) _
    refine XS.iconst X4.here hx rfl (hb hby at_162) ?_
    show Steps p.tables e below (T4.setTop (mkF m 163 #[.val (.int p1), .val (.int p2), .val (.int p3), .val (.int (own_b p1)), .val (.int (p3 &&& (3 : Int32))), .val (.int p1), .val (.int (0 : Int32))] [(.int (1 : Int32))])) _
    refine XS.goto X4.here hx rfl (pc0 := 163) (pc' := 167) rfl (hb hby at_163) (by decide) (by decide) ?_
    show Steps p.tables e below (T4.setTop (mkF m 167 #[.val (.int p1), .val (.int p2), .val (.int p3), .val (.int (own_b p1)), .val (.int (p3 &&& (3 : Int32))), .val (.int p1), .val (.int (0 : Int32))] [(.int (1 : Int32))])) _
    exact retN X4 hx (t := .boolean) Bd.returns (by simp) (hb hby at_167) hr
  · show Q0 Z p1 p2 p3 h0 n0 _ T4.heap _
    exact ⟨rfl, N4⟩

set_option maxRecDepth 65536 in
set_option maxHeartbeats 40000000 in
theorem rm0_tttffffff (l : Launch) (Z : State) (a0 : Array Value) (hw : ∀ d ∈ tables_1, d.before a0 Z = true) (ws : List Jvm.Cond) (p1 : Int32) (p2 : Int32) (p3 : Int32) (h0 : Heap) (n0 : Nat) (Z0 : n0 ≤ h0.size) (hc34 : ¬ ((p3 &&& (3 : Int32)) = (0 : Int32))) (hc46 : ¬ ((p3 &&& (3 : Int32)) = (1 : Int32))) (hc58 : ¬ ((p3 &&& (3 : Int32)) = (2 : Int32))) (hc82 : ((p1.toUInt32 >>> ((18 : Int32) &&& 31).toUInt32).toInt32) = (0 : Int32)) (hc93 : (((p1.toUInt32 >>> ((12 : Int32) &&& 31).toUInt32).toInt32) &&& (7 : Int32)) = (0 : Int32)) :
    MetFree l x (head1 (Jvm.Cond.code x code maxLocals ret :: ws) room_1) (fun a U => a = #[(.int p1), (.int p2), (.int p3)] ∧ Z.Warmed39 U.vm ∧ U.heap = h0) (fun _ _ _ _ _ => True) (fun _ U o U' => ∃ v L, o = .returned v ∧ Q0 Z p1 p2 p3 h0 n0 v U'.heap L ∧ FrameEnd U o U' L room_1.cells room_1.slots) := by
  refine MetFree.of_bodySF (plainFor_of_name pn_0) hisR ?_
  intro p e s m args below meth c s₁ Bd hml0 hP hK
  obtain ⟨rfl, hZ, hh⟩ := hP
  have hx := Bd.exec
  have hby := Bd.bytes
  have hml : c.maxLocals = 7 := hml0
  have hown : s.vm.findClass "touchmove/position/PackedMoveIsPinLaw" = some m.cls := findClass_of_methodNamed Bd.named
  have hnm := (name_of_methodNamed Bd.named Bd.method).1
  have X0 : Stand p l e room_1 s m #[(.int p1), (.int p2), (.int p3)] below meth c s₁ [] 0 0 := Stand.of_body Bd
  have e0 : s₁.heap = h0 := by rw [← hh, Bd.state]; rfl
  have N0 := Fr.nil n0
  have pre0 : ∀ t, Steps p.tables e below (s₁.setTop (mkF m 0 #[.val (.int p1), .val (.int p2), .val (.int p3), .unset, .unset, .unset, .unset] [])) t → Steps p.tables e below (s₁.setTop (entryFrame m #[(.int p1), (.int p2), (.int p3)] maxLocals)) t := fun t k => castTop (ef_0 m p1 p2 p3) k
  obtain ⟨_, _, ⟨T4, L4, k4, n4⟩, -, X4, ⟨Lc4, hQ4, l4, y4, z4⟩, st4⟩ := Jvm.LawKit.callS X0 hx (y := (⟨"touchmove/position/PackedMove", "is", "(II)Z"⟩ : MethodName)) hown (mvT hZ (hw _ (List.mem_of_getElem? (i := 0) rfl))) (mvT hZ (hw _ (List.mem_of_getElem? (i := 1) rfl))) (mvT hZ (hw _ (List.mem_of_getElem? (i := 2) rfl))) (mvT hZ (hw _ (List.mem_of_getElem? (i := 3) rfl))) (by decide) (backOf (W := 0) (rm1 l Z a0 hw [] p1 p1 h0 n0 Z0) hZ (hw _ (List.mem_of_getElem? (i := 3) rfl)) (hw _ (List.mem_of_getElem? (i := 2) rfl)) (by decide) (by decide)) (g := (mkF m 154 #[.val (.int p1), .val (.int p2), .val (.int p3), .val (.int (own_b p1)), .val (.int (p3 &&& (3 : Int32))), .val (.int p1), .val (.int (1 : Int32))] [(.int p1), (.int p1)])) rfl (by rw [hml]; rfl) (argsL := [(.int p1), (.int p1)]) (rest := []) (lenOf pd_0_0 rfl) rfl (by show 2 * 0 + _ ≤ _; exact Nat.le_of_eq rfl) (hb hby at_154) (fun _ _ => ⟨rfl, e0, (by decide : 0 + 0 ≤ _), (by decide : 0 + 0 ≤ _)⟩)
  dsimp only [Pt.U, Pt.locs, Pt.cells, Pt.slots] at X4 l4 y4 z4 st4 hQ4
  subst l4 y4 z4
  obtain ⟨rfl, N4q, w4⟩ := hQ4
  have N4 := Fr.app N0 N4q
  obtain ⟨fs, hr, hrun, hended, hW, hsame⟩ := X4.leave (v := some (.int (1 : Int32))) (fun h => by rw [Bd.returns] at h; cases h)
  refine ⟨_, _, pre0 _ ?_, hrun, hended, _, _, rfl, ?_, ⟨_, rfl⟩, hW, hsame.mono (by decide) (by decide)⟩
  · show Steps p.tables e below (s₁.setTop (mkF m 0 #[.val (.int p1), .val (.int p2), .val (.int p3), .unset, .unset, .unset, .unset] [])) _
    refine XS.iloadN X0.here hx rfl (hb hby at_0) rfl ?_
    show Steps p.tables e below (s₁.setTop (mkF m 1 #[.val (.int p1), .val (.int p2), .val (.int p3), .unset, .unset, .unset, .unset] [(.int p1)])) _
    refine XS.bipush X0.here hx rfl (hb hby at_1) ?_
    show Steps p.tables e below (s₁.setTop (mkF m 3 #[.val (.int p1), .val (.int p2), .val (.int p3), .unset, .unset, .unset, .unset] [(.int (63 : Int32)), (.int p1)])) _
    refine XS.iand X0.here hx rfl (hb hby at_3) rfl ?_
    show Steps p.tables e below (s₁.setTop (mkF m 4 #[.val (.int p1), .val (.int p2), .val (.int p3), .unset, .unset, .unset, .unset] [(.int (p1 &&& (63 : Int32)))])) _
    refine XS.iloadN X0.here hx rfl (hb hby at_4) rfl ?_
    show Steps p.tables e below (s₁.setTop (mkF m 5 #[.val (.int p1), .val (.int p2), .val (.int p3), .unset, .unset, .unset, .unset] [(.int p1), (.int (p1 &&& (63 : Int32)))])) _
    refine XS.bipush X0.here hx rfl (hb hby at_5) ?_
    show Steps p.tables e below (s₁.setTop (mkF m 7 #[.val (.int p1), .val (.int p2), .val (.int p3), .unset, .unset, .unset, .unset] [(.int (6 : Int32)), (.int p1), (.int (p1 &&& (63 : Int32)))])) _
    refine XS.iushr X0.here hx rfl (hb hby at_7) rfl ?_
    show Steps p.tables e below (s₁.setTop (mkF m 8 #[.val (.int p1), .val (.int p2), .val (.int p3), .unset, .unset, .unset, .unset] [(.int ((p1.toUInt32 >>> ((6 : Int32) &&& 31).toUInt32).toInt32)), (.int (p1 &&& (63 : Int32)))])) _
    refine XS.bipush X0.here hx rfl (hb hby at_8) ?_
    show Steps p.tables e below (s₁.setTop (mkF m 10 #[.val (.int p1), .val (.int p2), .val (.int p3), .unset, .unset, .unset, .unset] [(.int (63 : Int32)), (.int ((p1.toUInt32 >>> ((6 : Int32) &&& 31).toUInt32).toInt32)), (.int (p1 &&& (63 : Int32)))])) _
    refine XS.iand X0.here hx rfl (hb hby at_10) rfl ?_
    show Steps p.tables e below (s₁.setTop (mkF m 11 #[.val (.int p1), .val (.int p2), .val (.int p3), .unset, .unset, .unset, .unset] [(.int (((p1.toUInt32 >>> ((6 : Int32) &&& 31).toUInt32).toInt32) &&& (63 : Int32))), (.int (p1 &&& (63 : Int32)))])) _
    refine XS.bipush X0.here hx rfl (hb hby at_11) ?_
    show Steps p.tables e below (s₁.setTop (mkF m 13 #[.val (.int p1), .val (.int p2), .val (.int p3), .unset, .unset, .unset, .unset] [(.int (6 : Int32)), (.int (((p1.toUInt32 >>> ((6 : Int32) &&& 31).toUInt32).toInt32) &&& (63 : Int32))), (.int (p1 &&& (63 : Int32)))])) _
    refine XS.ishl X0.here hx rfl (hb hby at_13) rfl ?_
    show Steps p.tables e below (s₁.setTop (mkF m 14 #[.val (.int p1), .val (.int p2), .val (.int p3), .unset, .unset, .unset, .unset] [(.int ((((p1.toUInt32 >>> ((6 : Int32) &&& 31).toUInt32).toInt32) &&& (63 : Int32)) <<< ((6 : Int32) &&& 31))), (.int (p1 &&& (63 : Int32)))])) _
    refine XS.ior X0.here hx rfl (hb hby at_14) rfl ?_
    show Steps p.tables e below (s₁.setTop (mkF m 15 #[.val (.int p1), .val (.int p2), .val (.int p3), .unset, .unset, .unset, .unset] [(.int ((p1 &&& (63 : Int32)) ||| ((((p1.toUInt32 >>> ((6 : Int32) &&& 31).toUInt32).toInt32) &&& (63 : Int32)) <<< ((6 : Int32) &&& 31))))])) _
    refine XS.iloadN X0.here hx rfl (hb hby at_15) rfl ?_
    show Steps p.tables e below (s₁.setTop (mkF m 16 #[.val (.int p1), .val (.int p2), .val (.int p3), .unset, .unset, .unset, .unset] [(.int p1), (.int ((p1 &&& (63 : Int32)) ||| ((((p1.toUInt32 >>> ((6 : Int32) &&& 31).toUInt32).toInt32) &&& (63 : Int32)) <<< ((6 : Int32) &&& 31))))])) _
    refine XS.bipush X0.here hx rfl (hb hby at_16) ?_
    show Steps p.tables e below (s₁.setTop (mkF m 18 #[.val (.int p1), .val (.int p2), .val (.int p3), .unset, .unset, .unset, .unset] [(.int (15 : Int32)), (.int p1), (.int ((p1 &&& (63 : Int32)) ||| ((((p1.toUInt32 >>> ((6 : Int32) &&& 31).toUInt32).toInt32) &&& (63 : Int32)) <<< ((6 : Int32) &&& 31))))])) _
    refine XS.iushr X0.here hx rfl (hb hby at_18) rfl ?_
    show Steps p.tables e below (s₁.setTop (mkF m 19 #[.val (.int p1), .val (.int p2), .val (.int p3), .unset, .unset, .unset, .unset] [(.int ((p1.toUInt32 >>> ((15 : Int32) &&& 31).toUInt32).toInt32)), (.int ((p1 &&& (63 : Int32)) ||| ((((p1.toUInt32 >>> ((6 : Int32) &&& 31).toUInt32).toInt32) &&& (63 : Int32)) <<< ((6 : Int32) &&& 31))))])) _
    refine XS.bipush X0.here hx rfl (hb hby at_19) ?_
    show Steps p.tables e below (s₁.setTop (mkF m 21 #[.val (.int p1), .val (.int p2), .val (.int p3), .unset, .unset, .unset, .unset] [(.int (7 : Int32)), (.int ((p1.toUInt32 >>> ((15 : Int32) &&& 31).toUInt32).toInt32)), (.int ((p1 &&& (63 : Int32)) ||| ((((p1.toUInt32 >>> ((6 : Int32) &&& 31).toUInt32).toInt32) &&& (63 : Int32)) <<< ((6 : Int32) &&& 31))))])) _
    refine XS.iand X0.here hx rfl (hb hby at_21) rfl ?_
    show Steps p.tables e below (s₁.setTop (mkF m 22 #[.val (.int p1), .val (.int p2), .val (.int p3), .unset, .unset, .unset, .unset] [(.int (((p1.toUInt32 >>> ((15 : Int32) &&& 31).toUInt32).toInt32) &&& (7 : Int32))), (.int ((p1 &&& (63 : Int32)) ||| ((((p1.toUInt32 >>> ((6 : Int32) &&& 31).toUInt32).toInt32) &&& (63 : Int32)) <<< ((6 : Int32) &&& 31))))])) _
    refine XS.bipush X0.here hx rfl (hb hby at_22) ?_
    show Steps p.tables e below (s₁.setTop (mkF m 24 #[.val (.int p1), .val (.int p2), .val (.int p3), .unset, .unset, .unset, .unset] [(.int (15 : Int32)), (.int (((p1.toUInt32 >>> ((15 : Int32) &&& 31).toUInt32).toInt32) &&& (7 : Int32))), (.int ((p1 &&& (63 : Int32)) ||| ((((p1.toUInt32 >>> ((6 : Int32) &&& 31).toUInt32).toInt32) &&& (63 : Int32)) <<< ((6 : Int32) &&& 31))))])) _
    refine XS.ishl X0.here hx rfl (hb hby at_24) rfl ?_
    show Steps p.tables e below (s₁.setTop (mkF m 25 #[.val (.int p1), .val (.int p2), .val (.int p3), .unset, .unset, .unset, .unset] [(.int ((((p1.toUInt32 >>> ((15 : Int32) &&& 31).toUInt32).toInt32) &&& (7 : Int32)) <<< ((15 : Int32) &&& 31))), (.int ((p1 &&& (63 : Int32)) ||| ((((p1.toUInt32 >>> ((6 : Int32) &&& 31).toUInt32).toInt32) &&& (63 : Int32)) <<< ((6 : Int32) &&& 31))))])) _
    refine XS.ior X0.here hx rfl (hb hby at_25) rfl ?_
    show Steps p.tables e below (s₁.setTop (mkF m 26 #[.val (.int p1), .val (.int p2), .val (.int p3), .unset, .unset, .unset, .unset] [(.int (own_b p1))])) _
    refine XS.istoreN X0.here hx rfl (hb hby at_26) rfl (l' := #[.val (.int p1), .val (.int p2), .val (.int p3), .val (.int (own_b p1)), .unset, .unset, .unset]) rfl ?_
    show Steps p.tables e below (s₁.setTop (mkF m 27 #[.val (.int p1), .val (.int p2), .val (.int p3), .val (.int (own_b p1)), .unset, .unset, .unset] [])) _
    refine XS.iloadN X0.here hx rfl (hb hby at_27) rfl ?_
    show Steps p.tables e below (s₁.setTop (mkF m 28 #[.val (.int p1), .val (.int p2), .val (.int p3), .val (.int (own_b p1)), .unset, .unset, .unset] [(.int p3)])) _
    refine XS.iconst X0.here hx rfl (hb hby at_28) ?_
    show Steps p.tables e below (s₁.setTop (mkF m 29 #[.val (.int p1), .val (.int p2), .val (.int p3), .val (.int (own_b p1)), .unset, .unset, .unset] [(.int (3 : Int32)), (.int p3)])) _
    refine XS.iand X0.here hx rfl (hb hby at_29) rfl ?_
    show Steps p.tables e below (s₁.setTop (mkF m 30 #[.val (.int p1), .val (.int p2), .val (.int p3), .val (.int (own_b p1)), .unset, .unset, .unset] [(.int (p3 &&& (3 : Int32)))])) _
    refine XS.istore X0.here hx rfl (hb hby at_30) rfl (l' := #[.val (.int p1), .val (.int p2), .val (.int p3), .val (.int (own_b p1)), .val (.int (p3 &&& (3 : Int32))), .unset, .unset]) rfl ?_
    show Steps p.tables e below (s₁.setTop (mkF m 32 #[.val (.int p1), .val (.int p2), .val (.int p3), .val (.int (own_b p1)), .val (.int (p3 &&& (3 : Int32))), .unset, .unset] [])) _
    refine XS.iload X0.here hx rfl (hb hby at_32) rfl ?_
    show Steps p.tables e below (s₁.setTop (mkF m 34 #[.val (.int p1), .val (.int p2), .val (.int p3), .val (.int (own_b p1)), .val (.int (p3 &&& (3 : Int32))), .unset, .unset] [(.int (p3 &&& (3 : Int32)))])) _
    refine XS.ifYes X0.here hx rfl (pc0 := 34) (pc' := 43) rfl (hb hby at_34) rfl ((if0 _ _).trans (feq hc34).2) (by decide) (by decide) ?_
    show Steps p.tables e below (s₁.setTop (mkF m 43 #[.val (.int p1), .val (.int p2), .val (.int p3), .val (.int (own_b p1)), .val (.int (p3 &&& (3 : Int32))), .unset, .unset] [])) _
    refine XS.iload X0.here hx rfl (hb hby at_43) rfl ?_
    show Steps p.tables e below (s₁.setTop (mkF m 45 #[.val (.int p1), .val (.int p2), .val (.int p3), .val (.int (own_b p1)), .val (.int (p3 &&& (3 : Int32))), .unset, .unset] [(.int (p3 &&& (3 : Int32)))])) _
    refine XS.iconst X0.here hx rfl (hb hby at_45) ?_
    show Steps p.tables e below (s₁.setTop (mkF m 46 #[.val (.int p1), .val (.int p2), .val (.int p3), .val (.int (own_b p1)), .val (.int (p3 &&& (3 : Int32))), .unset, .unset] [(.int (1 : Int32)), (.int (p3 &&& (3 : Int32)))])) _
    refine XS.icmpYes X0.here hx rfl (pc0 := 46) (pc' := 55) rfl (hb hby at_46) rfl (feq hc46).2 (by decide) (by decide) ?_
    show Steps p.tables e below (s₁.setTop (mkF m 55 #[.val (.int p1), .val (.int p2), .val (.int p3), .val (.int (own_b p1)), .val (.int (p3 &&& (3 : Int32))), .unset, .unset] [])) _
    refine XS.iload X0.here hx rfl (hb hby at_55) rfl ?_
    show Steps p.tables e below (s₁.setTop (mkF m 57 #[.val (.int p1), .val (.int p2), .val (.int p3), .val (.int (own_b p1)), .val (.int (p3 &&& (3 : Int32))), .unset, .unset] [(.int (p3 &&& (3 : Int32)))])) _
    refine XS.iconst X0.here hx rfl (hb hby at_57) ?_
    show Steps p.tables e below (s₁.setTop (mkF m 58 #[.val (.int p1), .val (.int p2), .val (.int p3), .val (.int (own_b p1)), .val (.int (p3 &&& (3 : Int32))), .unset, .unset] [(.int (2 : Int32)), (.int (p3 &&& (3 : Int32)))])) _
    refine XS.icmpYes X0.here hx rfl (pc0 := 58) (pc' := 74) rfl (hb hby at_58) rfl (feq hc58).2 (by decide) (by decide) ?_
    show Steps p.tables e below (s₁.setTop (mkF m 74 #[.val (.int p1), .val (.int p2), .val (.int p3), .val (.int (own_b p1)), .val (.int (p3 &&& (3 : Int32))), .unset, .unset] [])) _
    refine XS.iloadN X0.here hx rfl (hb hby at_74) rfl ?_
    show Steps p.tables e below (s₁.setTop (mkF m 75 #[.val (.int p1), .val (.int p2), .val (.int p3), .val (.int (own_b p1)), .val (.int (p3 &&& (3 : Int32))), .unset, .unset] [(.int p1)])) _
    refine XS.istore X0.here hx rfl (hb hby at_75) rfl (l' := #[.val (.int p1), .val (.int p2), .val (.int p3), .val (.int (own_b p1)), .val (.int (p3 &&& (3 : Int32))), .val (.int p1), .unset]) rfl ?_
    show Steps p.tables e below (s₁.setTop (mkF m 77 #[.val (.int p1), .val (.int p2), .val (.int p3), .val (.int (own_b p1)), .val (.int (p3 &&& (3 : Int32))), .val (.int p1), .unset] [])) _
    refine XS.iload X0.here hx rfl (hb hby at_77) rfl ?_
    show Steps p.tables e below (s₁.setTop (mkF m 79 #[.val (.int p1), .val (.int p2), .val (.int p3), .val (.int (own_b p1)), .val (.int (p3 &&& (3 : Int32))), .val (.int p1), .unset] [(.int p1)])) _
    refine XS.bipush X0.here hx rfl (hb hby at_79) ?_
    show Steps p.tables e below (s₁.setTop (mkF m 81 #[.val (.int p1), .val (.int p2), .val (.int p3), .val (.int (own_b p1)), .val (.int (p3 &&& (3 : Int32))), .val (.int p1), .unset] [(.int (18 : Int32)), (.int p1)])) _
    refine XS.iushr X0.here hx rfl (hb hby at_81) rfl ?_
    show Steps p.tables e below (s₁.setTop (mkF m 82 #[.val (.int p1), .val (.int p2), .val (.int p3), .val (.int (own_b p1)), .val (.int (p3 &&& (3 : Int32))), .val (.int p1), .unset] [(.int ((p1.toUInt32 >>> ((18 : Int32) &&& 31).toUInt32).toInt32))])) _
    refine XS.ifNo X0.here hx rfl (hb hby at_82) rfl ((if0 _ _).trans (teq hc82).2) ?_
    show Steps p.tables e below (s₁.setTop (mkF m 85 #[.val (.int p1), .val (.int p2), .val (.int p3), .val (.int (own_b p1)), .val (.int (p3 &&& (3 : Int32))), .val (.int p1), .unset] [])) _
    refine XS.iload X0.here hx rfl (hb hby at_85) rfl ?_
    show Steps p.tables e below (s₁.setTop (mkF m 87 #[.val (.int p1), .val (.int p2), .val (.int p3), .val (.int (own_b p1)), .val (.int (p3 &&& (3 : Int32))), .val (.int p1), .unset] [(.int p1)])) _
    refine XS.bipush X0.here hx rfl (hb hby at_87) ?_
    show Steps p.tables e below (s₁.setTop (mkF m 89 #[.val (.int p1), .val (.int p2), .val (.int p3), .val (.int (own_b p1)), .val (.int (p3 &&& (3 : Int32))), .val (.int p1), .unset] [(.int (12 : Int32)), (.int p1)])) _
    refine XS.iushr X0.here hx rfl (hb hby at_89) rfl ?_
    show Steps p.tables e below (s₁.setTop (mkF m 90 #[.val (.int p1), .val (.int p2), .val (.int p3), .val (.int (own_b p1)), .val (.int (p3 &&& (3 : Int32))), .val (.int p1), .unset] [(.int ((p1.toUInt32 >>> ((12 : Int32) &&& 31).toUInt32).toInt32))])) _
    refine XS.bipush X0.here hx rfl (hb hby at_90) ?_
    show Steps p.tables e below (s₁.setTop (mkF m 92 #[.val (.int p1), .val (.int p2), .val (.int p3), .val (.int (own_b p1)), .val (.int (p3 &&& (3 : Int32))), .val (.int p1), .unset] [(.int (7 : Int32)), (.int ((p1.toUInt32 >>> ((12 : Int32) &&& 31).toUInt32).toInt32))])) _
    refine XS.iand X0.here hx rfl (hb hby at_92) rfl ?_
    show Steps p.tables e below (s₁.setTop (mkF m 93 #[.val (.int p1), .val (.int p2), .val (.int p3), .val (.int (own_b p1)), .val (.int (p3 &&& (3 : Int32))), .val (.int p1), .unset] [(.int (((p1.toUInt32 >>> ((12 : Int32) &&& 31).toUInt32).toInt32) &&& (7 : Int32)))])) _
    refine XS.ifNo X0.here hx rfl (hb hby at_93) rfl ((if0 _ _).trans (teq hc93).2) ?_
    show Steps p.tables e below (s₁.setTop (mkF m 96 #[.val (.int p1), .val (.int p2), .val (.int p3), .val (.int (own_b p1)), .val (.int (p3 &&& (3 : Int32))), .val (.int p1), .unset] [])) _
    refine XS.iloadN X0.here hx rfl (hb hby at_96) rfl ?_
    show Steps p.tables e below (s₁.setTop (mkF m 97 #[.val (.int p1), .val (.int p2), .val (.int p3), .val (.int (own_b p1)), .val (.int (p3 &&& (3 : Int32))), .val (.int p1), .unset] [(.int p1)])) _
    refine XS.bipush X0.here hx rfl (hb hby at_97) ?_
    show Steps p.tables e below (s₁.setTop (mkF m 99 #[.val (.int p1), .val (.int p2), .val (.int p3), .val (.int (own_b p1)), .val (.int (p3 &&& (3 : Int32))), .val (.int p1), .unset] [(.int (63 : Int32)), (.int p1)])) _
    refine XS.iand X0.here hx rfl (hb hby at_99) rfl ?_
    show Steps p.tables e below (s₁.setTop (mkF m 100 #[.val (.int p1), .val (.int p2), .val (.int p3), .val (.int (own_b p1)), .val (.int (p3 &&& (3 : Int32))), .val (.int p1), .unset] [(.int (p1 &&& (63 : Int32)))])) _
    refine XS.iload X0.here hx rfl (hb hby at_100) rfl ?_
    show Steps p.tables e below (s₁.setTop (mkF m 102 #[.val (.int p1), .val (.int p2), .val (.int p3), .val (.int (own_b p1)), .val (.int (p3 &&& (3 : Int32))), .val (.int p1), .unset] [(.int p1), (.int (p1 &&& (63 : Int32)))])) _
    refine XS.bipush X0.here hx rfl (hb hby at_102) ?_
    show Steps p.tables e below (s₁.setTop (mkF m 104 #[.val (.int p1), .val (.int p2), .val (.int p3), .val (.int (own_b p1)), .val (.int (p3 &&& (3 : Int32))), .val (.int p1), .unset] [(.int (63 : Int32)), (.int p1), (.int (p1 &&& (63 : Int32)))])) _
    refine XS.iand X0.here hx rfl (hb hby at_104) rfl ?_
    show Steps p.tables e below (s₁.setTop (mkF m 105 #[.val (.int p1), .val (.int p2), .val (.int p3), .val (.int (own_b p1)), .val (.int (p3 &&& (3 : Int32))), .val (.int p1), .unset] [(.int (p1 &&& (63 : Int32))), (.int (p1 &&& (63 : Int32)))])) _
    refine XS.icmpNo X0.here hx rfl (hb hby at_105) rfl (teq (rfl : (p1 &&& (63 : Int32)) = (p1 &&& (63 : Int32)))).2 ?_
    show Steps p.tables e below (s₁.setTop (mkF m 108 #[.val (.int p1), .val (.int p2), .val (.int p3), .val (.int (own_b p1)), .val (.int (p3 &&& (3 : Int32))), .val (.int p1), .unset] [])) _
    refine XS.iloadN X0.here hx rfl (hb hby at_108) rfl ?_
    show Steps p.tables e below (s₁.setTop (mkF m 109 #[.val (.int p1), .val (.int p2), .val (.int p3), .val (.int (own_b p1)), .val (.int (p3 &&& (3 : Int32))), .val (.int p1), .unset] [(.int p1)])) _
    refine XS.bipush X0.here hx rfl (hb hby at_109) ?_
    show Steps p.tables e below (s₁.setTop (mkF m 111 #[.val (.int p1), .val (.int p2), .val (.int p3), .val (.int (own_b p1)), .val (.int (p3 &&& (3 : Int32))), .val (.int p1), .unset] [(.int (6 : Int32)), (.int p1)])) _
    refine XS.iushr X0.here hx rfl (hb hby at_111) rfl ?_
    show Steps p.tables e below (s₁.setTop (mkF m 112 #[.val (.int p1), .val (.int p2), .val (.int p3), .val (.int (own_b p1)), .val (.int (p3 &&& (3 : Int32))), .val (.int p1), .unset] [(.int ((p1.toUInt32 >>> ((6 : Int32) &&& 31).toUInt32).toInt32))])) _
    refine XS.bipush X0.here hx rfl (hb hby at_112) ?_
    show Steps p.tables e below (s₁.setTop (mkF m 114 #[.val (.int p1), .val (.int p2), .val (.int p3), .val (.int (own_b p1)), .val (.int (p3 &&& (3 : Int32))), .val (.int p1), .unset] [(.int (63 : Int32)), (.int ((p1.toUInt32 >>> ((6 : Int32) &&& 31).toUInt32).toInt32))])) _
    refine XS.iand X0.here hx rfl (hb hby at_114) rfl ?_
    show Steps p.tables e below (s₁.setTop (mkF m 115 #[.val (.int p1), .val (.int p2), .val (.int p3), .val (.int (own_b p1)), .val (.int (p3 &&& (3 : Int32))), .val (.int p1), .unset] [(.int (((p1.toUInt32 >>> ((6 : Int32) &&& 31).toUInt32).toInt32) &&& (63 : Int32)))])) _
    refine XS.iload X0.here hx rfl (hb hby at_115) rfl ?_
    show Steps p.tables e below (s₁.setTop (mkF m 117 #[.val (.int p1), .val (.int p2), .val (.int p3), .val (.int (own_b p1)), .val (.int (p3 &&& (3 : Int32))), .val (.int p1), .unset] [(.int p1), (.int (((p1.toUInt32 >>> ((6 : Int32) &&& 31).toUInt32).toInt32) &&& (63 : Int32)))])) _
    refine XS.bipush X0.here hx rfl (hb hby at_117) ?_
    show Steps p.tables e below (s₁.setTop (mkF m 119 #[.val (.int p1), .val (.int p2), .val (.int p3), .val (.int (own_b p1)), .val (.int (p3 &&& (3 : Int32))), .val (.int p1), .unset] [(.int (6 : Int32)), (.int p1), (.int (((p1.toUInt32 >>> ((6 : Int32) &&& 31).toUInt32).toInt32) &&& (63 : Int32)))])) _
    refine XS.iushr X0.here hx rfl (hb hby at_119) rfl ?_
    show Steps p.tables e below (s₁.setTop (mkF m 120 #[.val (.int p1), .val (.int p2), .val (.int p3), .val (.int (own_b p1)), .val (.int (p3 &&& (3 : Int32))), .val (.int p1), .unset] [(.int ((p1.toUInt32 >>> ((6 : Int32) &&& 31).toUInt32).toInt32)), (.int (((p1.toUInt32 >>> ((6 : Int32) &&& 31).toUInt32).toInt32) &&& (63 : Int32)))])) _
    refine XS.bipush X0.here hx rfl (hb hby at_120) ?_
    show Steps p.tables e below (s₁.setTop (mkF m 122 #[.val (.int p1), .val (.int p2), .val (.int p3), .val (.int (own_b p1)), .val (.int (p3 &&& (3 : Int32))), .val (.int p1), .unset] [(.int (63 : Int32)), (.int ((p1.toUInt32 >>> ((6 : Int32) &&& 31).toUInt32).toInt32)), (.int (((p1.toUInt32 >>> ((6 : Int32) &&& 31).toUInt32).toInt32) &&& (63 : Int32)))])) _
    refine XS.iand X0.here hx rfl (hb hby at_122) rfl ?_
    show Steps p.tables e below (s₁.setTop (mkF m 123 #[.val (.int p1), .val (.int p2), .val (.int p3), .val (.int (own_b p1)), .val (.int (p3 &&& (3 : Int32))), .val (.int p1), .unset] [(.int (((p1.toUInt32 >>> ((6 : Int32) &&& 31).toUInt32).toInt32) &&& (63 : Int32))), (.int (((p1.toUInt32 >>> ((6 : Int32) &&& 31).toUInt32).toInt32) &&& (63 : Int32)))])) _
    refine XS.icmpNo X0.here hx rfl (hb hby at_123) rfl (teq (rfl : (((p1.toUInt32 >>> ((6 : Int32) &&& 31).toUInt32).toInt32) &&& (63 : Int32)) = (((p1.toUInt32 >>> ((6 : Int32) &&& 31).toUInt32).toInt32) &&& (63 : Int32)))).2 ?_
    show Steps p.tables e below (s₁.setTop (mkF m 126 #[.val (.int p1), .val (.int p2), .val (.int p3), .val (.int (own_b p1)), .val (.int (p3 &&& (3 : Int32))), .val (.int p1), .unset] [])) _
    refine XS.iloadN X0.here hx rfl (hb hby at_126) rfl ?_
    show Steps p.tables e below (s₁.setTop (mkF m 127 #[.val (.int p1), .val (.int p2), .val (.int p3), .val (.int (own_b p1)), .val (.int (p3 &&& (3 : Int32))), .val (.int p1), .unset] [(.int p1)])) _
    refine XS.bipush X0.here hx rfl (hb hby at_127) ?_
    show Steps p.tables e below (s₁.setTop (mkF m 129 #[.val (.int p1), .val (.int p2), .val (.int p3), .val (.int (own_b p1)), .val (.int (p3 &&& (3 : Int32))), .val (.int p1), .unset] [(.int (15 : Int32)), (.int p1)])) _
    refine XS.iushr X0.here hx rfl (hb hby at_129) rfl ?_
    show Steps p.tables e below (s₁.setTop (mkF m 130 #[.val (.int p1), .val (.int p2), .val (.int p3), .val (.int (own_b p1)), .val (.int (p3 &&& (3 : Int32))), .val (.int p1), .unset] [(.int ((p1.toUInt32 >>> ((15 : Int32) &&& 31).toUInt32).toInt32))])) _
    refine XS.bipush X0.here hx rfl (hb hby at_130) ?_
    show Steps p.tables e below (s₁.setTop (mkF m 132 #[.val (.int p1), .val (.int p2), .val (.int p3), .val (.int (own_b p1)), .val (.int (p3 &&& (3 : Int32))), .val (.int p1), .unset] [(.int (7 : Int32)), (.int ((p1.toUInt32 >>> ((15 : Int32) &&& 31).toUInt32).toInt32))])) _
    refine XS.iand X0.here hx rfl (hb hby at_132) rfl ?_
    show Steps p.tables e below (s₁.setTop (mkF m 133 #[.val (.int p1), .val (.int p2), .val (.int p3), .val (.int (own_b p1)), .val (.int (p3 &&& (3 : Int32))), .val (.int p1), .unset] [(.int (((p1.toUInt32 >>> ((15 : Int32) &&& 31).toUInt32).toInt32) &&& (7 : Int32)))])) _
    refine XS.iload X0.here hx rfl (hb hby at_133) rfl ?_
    show Steps p.tables e below (s₁.setTop (mkF m 135 #[.val (.int p1), .val (.int p2), .val (.int p3), .val (.int (own_b p1)), .val (.int (p3 &&& (3 : Int32))), .val (.int p1), .unset] [(.int p1), (.int (((p1.toUInt32 >>> ((15 : Int32) &&& 31).toUInt32).toInt32) &&& (7 : Int32)))])) _
    refine XS.bipush X0.here hx rfl (hb hby at_135) ?_
    show Steps p.tables e below (s₁.setTop (mkF m 137 #[.val (.int p1), .val (.int p2), .val (.int p3), .val (.int (own_b p1)), .val (.int (p3 &&& (3 : Int32))), .val (.int p1), .unset] [(.int (15 : Int32)), (.int p1), (.int (((p1.toUInt32 >>> ((15 : Int32) &&& 31).toUInt32).toInt32) &&& (7 : Int32)))])) _
    refine XS.iushr X0.here hx rfl (hb hby at_137) rfl ?_
    show Steps p.tables e below (s₁.setTop (mkF m 138 #[.val (.int p1), .val (.int p2), .val (.int p3), .val (.int (own_b p1)), .val (.int (p3 &&& (3 : Int32))), .val (.int p1), .unset] [(.int ((p1.toUInt32 >>> ((15 : Int32) &&& 31).toUInt32).toInt32)), (.int (((p1.toUInt32 >>> ((15 : Int32) &&& 31).toUInt32).toInt32) &&& (7 : Int32)))])) _
    refine XS.bipush X0.here hx rfl (hb hby at_138) ?_
    show Steps p.tables e below (s₁.setTop (mkF m 140 #[.val (.int p1), .val (.int p2), .val (.int p3), .val (.int (own_b p1)), .val (.int (p3 &&& (3 : Int32))), .val (.int p1), .unset] [(.int (7 : Int32)), (.int ((p1.toUInt32 >>> ((15 : Int32) &&& 31).toUInt32).toInt32)), (.int (((p1.toUInt32 >>> ((15 : Int32) &&& 31).toUInt32).toInt32) &&& (7 : Int32)))])) _
    refine XS.iand X0.here hx rfl (hb hby at_140) rfl ?_
    show Steps p.tables e below (s₁.setTop (mkF m 141 #[.val (.int p1), .val (.int p2), .val (.int p3), .val (.int (own_b p1)), .val (.int (p3 &&& (3 : Int32))), .val (.int p1), .unset] [(.int (((p1.toUInt32 >>> ((15 : Int32) &&& 31).toUInt32).toInt32) &&& (7 : Int32))), (.int (((p1.toUInt32 >>> ((15 : Int32) &&& 31).toUInt32).toInt32) &&& (7 : Int32)))])) _
    refine XS.icmpNo X0.here hx rfl (hb hby at_141) rfl (teq (rfl : (((p1.toUInt32 >>> ((15 : Int32) &&& 31).toUInt32).toInt32) &&& (7 : Int32)) = (((p1.toUInt32 >>> ((15 : Int32) &&& 31).toUInt32).toInt32) &&& (7 : Int32)))).2 ?_
    show Steps p.tables e below (s₁.setTop (mkF m 144 #[.val (.int p1), .val (.int p2), .val (.int p3), .val (.int (own_b p1)), .val (.int (p3 &&& (3 : Int32))), .val (.int p1), .unset] [])) _
    refine XS.iconst X0.here hx rfl (hb hby at_144) ?_
    show Steps p.tables e below (s₁.setTop (mkF m 145 #[.val (.int p1), .val (.int p2), .val (.int p3), .val (.int (own_b p1)), .val (.int (p3 &&& (3 : Int32))), .val (.int p1), .unset] [(.int (1 : Int32))])) _
    refine XS.goto X0.here hx rfl (pc0 := 145) (pc' := 149) rfl (hb hby at_145) (by decide) (by decide) ?_
    show Steps p.tables e below (s₁.setTop (mkF m 149 #[.val (.int p1), .val (.int p2), .val (.int p3), .val (.int (own_b p1)), .val (.int (p3 &&& (3 : Int32))), .val (.int p1), .unset] [(.int (1 : Int32))])) _
    refine XS.istore X0.here hx rfl (hb hby at_149) rfl (l' := #[.val (.int p1), .val (.int p2), .val (.int p3), .val (.int (own_b p1)), .val (.int (p3 &&& (3 : Int32))), .val (.int p1), .val (.int (1 : Int32))]) rfl ?_
    show Steps p.tables e below (s₁.setTop (mkF m 151 #[.val (.int p1), .val (.int p2), .val (.int p3), .val (.int (own_b p1)), .val (.int (p3 &&& (3 : Int32))), .val (.int p1), .val (.int (1 : Int32))] [])) _
    refine XS.iloadN X0.here hx rfl (hb hby at_151) rfl ?_
    show Steps p.tables e below (s₁.setTop (mkF m 152 #[.val (.int p1), .val (.int p2), .val (.int p3), .val (.int (own_b p1)), .val (.int (p3 &&& (3 : Int32))), .val (.int p1), .val (.int (1 : Int32))] [(.int p1)])) _
    refine XS.iload X0.here hx rfl (hb hby at_152) rfl ?_
    show Steps p.tables e below (s₁.setTop (mkF m 154 #[.val (.int p1), .val (.int p2), .val (.int p3), .val (.int (own_b p1)), .val (.int (p3 &&& (3 : Int32))), .val (.int p1), .val (.int (1 : Int32))] [(.int p1), (.int p1)])) _
    refine st4 _ ?_
    show Steps p.tables e below (T4.setTop (mkF m 157 #[.val (.int p1), .val (.int p2), .val (.int p3), .val (.int (own_b p1)), .val (.int (p3 &&& (3 : Int32))), .val (.int p1), .val (.int (1 : Int32))] [(.int (val1 p1 p1))])) _
    refine XS.iload X4.here hx rfl (hb hby at_157) rfl ?_
    show Steps p.tables e below (T4.setTop (mkF m 159 #[.val (.int p1), .val (.int p2), .val (.int p3), .val (.int (own_b p1)), .val (.int (p3 &&& (3 : Int32))), .val (.int p1), .val (.int (1 : Int32))] [(.int (1 : Int32)), (.int (val1 p1 p1))])) _
    refine XS.icmpNo X4.here hx rfl (hb hby at_159) rfl (teq (by unfold val1; rw [if_pos ((own_iff _ _).mpr ⟨hc82, hc93, rfl, rfl, rfl⟩)] : (val1 p1 p1) = (1 : Int32))).2 ?_
    show Steps p.tables e below (T4.setTop (mkF m 162 #[.val (.int p1), .val (.int p2), .val (.int p3), .val (.int (own_b p1)), .val (.int (p3 &&& (3 : Int32))), .val (.int p1), .val (.int (1 : Int32))] [])) _
    refine XS.iconst X4.here hx rfl (hb hby at_162) ?_
    show Steps p.tables e below (T4.setTop (mkF m 163 #[.val (.int p1), .val (.int p2), .val (.int p3), .val (.int (own_b p1)), .val (.int (p3 &&& (3 : Int32))), .val (.int p1), .val (.int (1 : Int32))] [(.int (1 : Int32))])) _
    refine XS.goto X4.here hx rfl (pc0 := 163) (pc' := 167) rfl (hb hby at_163) (by decide) (by decide) ?_
    show Steps p.tables e below (T4.setTop (mkF m 167 #[.val (.int p1), .val (.int p2), .val (.int p3), .val (.int (own_b p1)), .val (.int (p3 &&& (3 : Int32))), .val (.int p1), .val (.int (1 : Int32))] [(.int (1 : Int32))])) _
    exact retN X4 hx (t := .boolean) Bd.returns (by simp) (hb hby at_167) hr
  · show Q0 Z p1 p2 p3 h0 n0 _ T4.heap _
    exact ⟨rfl, N4⟩

set_option maxRecDepth 65536 in
set_option maxHeartbeats 40000000 in
theorem rm0_ttftf (l : Launch) (Z : State) (a0 : Array Value) (hw : ∀ d ∈ tables_1, d.before a0 Z = true) (ws : List Jvm.Cond) (p1 : Int32) (p2 : Int32) (p3 : Int32) (h0 : Heap) (n0 : Nat) (Z0 : n0 ≤ h0.size) (hc34 : ¬ ((p3 &&& (3 : Int32)) = (0 : Int32))) (hc46 : ¬ ((p3 &&& (3 : Int32)) = (1 : Int32))) (hc58 : (p3 &&& (3 : Int32)) = (2 : Int32)) (hc82 : ¬ ((((own_x p1 p2).toUInt32 >>> ((18 : Int32) &&& 31).toUInt32).toInt32) = (0 : Int32))) :
    MetFree l x (head1 (Jvm.Cond.code x code maxLocals ret :: ws) room_1) (fun a U => a = #[(.int p1), (.int p2), (.int p3)] ∧ Z.Warmed39 U.vm ∧ U.heap = h0) (fun _ _ _ _ _ => True) (fun _ U o U' => ∃ v L, o = .returned v ∧ Q0 Z p1 p2 p3 h0 n0 v U'.heap L ∧ FrameEnd U o U' L room_1.cells room_1.slots) := by
  refine MetFree.of_bodySF (plainFor_of_name pn_0) hisR ?_
  intro p e s m args below meth c s₁ Bd hml0 hP hK
  obtain ⟨rfl, hZ, hh⟩ := hP
  have hx := Bd.exec
  have hby := Bd.bytes
  have hml : c.maxLocals = 7 := hml0
  have hown : s.vm.findClass "touchmove/position/PackedMoveIsPinLaw" = some m.cls := findClass_of_methodNamed Bd.named
  have hnm := (name_of_methodNamed Bd.named Bd.method).1
  have X0 : Stand p l e room_1 s m #[(.int p1), (.int p2), (.int p3)] below meth c s₁ [] 0 0 := Stand.of_body Bd
  have e0 : s₁.heap = h0 := by rw [← hh, Bd.state]; rfl
  have N0 := Fr.nil n0
  have pre0 : ∀ t, Steps p.tables e below (s₁.setTop (mkF m 0 #[.val (.int p1), .val (.int p2), .val (.int p3), .unset, .unset, .unset, .unset] [])) t → Steps p.tables e below (s₁.setTop (entryFrame m #[(.int p1), (.int p2), (.int p3)] maxLocals)) t := fun t k => castTop (ef_0 m p1 p2 p3) k
  obtain ⟨_, _, ⟨T4, L4, k4, n4⟩, -, X4, ⟨Lc4, hQ4, l4, y4, z4⟩, st4⟩ := Jvm.LawKit.callS X0 hx (y := (⟨"touchmove/position/PackedMove", "is", "(II)Z"⟩ : MethodName)) hown (mvT hZ (hw _ (List.mem_of_getElem? (i := 0) rfl))) (mvT hZ (hw _ (List.mem_of_getElem? (i := 1) rfl))) (mvT hZ (hw _ (List.mem_of_getElem? (i := 2) rfl))) (mvT hZ (hw _ (List.mem_of_getElem? (i := 3) rfl))) (by decide) (backOf (W := 0) (rm1 l Z a0 hw [] p1 (own_x p1 p2) h0 n0 Z0) hZ (hw _ (List.mem_of_getElem? (i := 3) rfl)) (hw _ (List.mem_of_getElem? (i := 2) rfl)) (by decide) (by decide)) (g := (mkF m 154 #[.val (.int p1), .val (.int p2), .val (.int p3), .val (.int (own_b p1)), .val (.int (p3 &&& (3 : Int32))), .val (.int (own_x p1 p2)), .val (.int (0 : Int32))] [(.int (own_x p1 p2)), (.int p1)])) rfl (by rw [hml]; rfl) (argsL := [(.int p1), (.int (own_x p1 p2))]) (rest := []) (lenOf pd_0_0 rfl) rfl (by show 2 * 0 + _ ≤ _; exact Nat.le_of_eq rfl) (hb hby at_154) (fun _ _ => ⟨rfl, e0, (by decide : 0 + 0 ≤ _), (by decide : 0 + 0 ≤ _)⟩)
  dsimp only [Pt.U, Pt.locs, Pt.cells, Pt.slots] at X4 l4 y4 z4 st4 hQ4
  subst l4 y4 z4
  obtain ⟨rfl, N4q, w4⟩ := hQ4
  have N4 := Fr.app N0 N4q
  obtain ⟨fs, hr, hrun, hended, hW, hsame⟩ := X4.leave (v := some (.int (1 : Int32))) (fun h => by rw [Bd.returns] at h; cases h)
  refine ⟨_, _, pre0 _ ?_, hrun, hended, _, _, rfl, ?_, ⟨_, rfl⟩, hW, hsame.mono (by decide) (by decide)⟩
  · show Steps p.tables e below (s₁.setTop (mkF m 0 #[.val (.int p1), .val (.int p2), .val (.int p3), .unset, .unset, .unset, .unset] [])) _
    refine XS.iloadN X0.here hx rfl (hb hby at_0) rfl ?_
    show Steps p.tables e below (s₁.setTop (mkF m 1 #[.val (.int p1), .val (.int p2), .val (.int p3), .unset, .unset, .unset, .unset] [(.int p1)])) _
    refine XS.bipush X0.here hx rfl (hb hby at_1) ?_
    show Steps p.tables e below (s₁.setTop (mkF m 3 #[.val (.int p1), .val (.int p2), .val (.int p3), .unset, .unset, .unset, .unset] [(.int (63 : Int32)), (.int p1)])) _
    refine XS.iand X0.here hx rfl (hb hby at_3) rfl ?_
    show Steps p.tables e below (s₁.setTop (mkF m 4 #[.val (.int p1), .val (.int p2), .val (.int p3), .unset, .unset, .unset, .unset] [(.int (p1 &&& (63 : Int32)))])) _
    refine XS.iloadN X0.here hx rfl (hb hby at_4) rfl ?_
    show Steps p.tables e below (s₁.setTop (mkF m 5 #[.val (.int p1), .val (.int p2), .val (.int p3), .unset, .unset, .unset, .unset] [(.int p1), (.int (p1 &&& (63 : Int32)))])) _
    refine XS.bipush X0.here hx rfl (hb hby at_5) ?_
    show Steps p.tables e below (s₁.setTop (mkF m 7 #[.val (.int p1), .val (.int p2), .val (.int p3), .unset, .unset, .unset, .unset] [(.int (6 : Int32)), (.int p1), (.int (p1 &&& (63 : Int32)))])) _
    refine XS.iushr X0.here hx rfl (hb hby at_7) rfl ?_
    show Steps p.tables e below (s₁.setTop (mkF m 8 #[.val (.int p1), .val (.int p2), .val (.int p3), .unset, .unset, .unset, .unset] [(.int ((p1.toUInt32 >>> ((6 : Int32) &&& 31).toUInt32).toInt32)), (.int (p1 &&& (63 : Int32)))])) _
    refine XS.bipush X0.here hx rfl (hb hby at_8) ?_
    show Steps p.tables e below (s₁.setTop (mkF m 10 #[.val (.int p1), .val (.int p2), .val (.int p3), .unset, .unset, .unset, .unset] [(.int (63 : Int32)), (.int ((p1.toUInt32 >>> ((6 : Int32) &&& 31).toUInt32).toInt32)), (.int (p1 &&& (63 : Int32)))])) _
    refine XS.iand X0.here hx rfl (hb hby at_10) rfl ?_
    show Steps p.tables e below (s₁.setTop (mkF m 11 #[.val (.int p1), .val (.int p2), .val (.int p3), .unset, .unset, .unset, .unset] [(.int (((p1.toUInt32 >>> ((6 : Int32) &&& 31).toUInt32).toInt32) &&& (63 : Int32))), (.int (p1 &&& (63 : Int32)))])) _
    refine XS.bipush X0.here hx rfl (hb hby at_11) ?_
    show Steps p.tables e below (s₁.setTop (mkF m 13 #[.val (.int p1), .val (.int p2), .val (.int p3), .unset, .unset, .unset, .unset] [(.int (6 : Int32)), (.int (((p1.toUInt32 >>> ((6 : Int32) &&& 31).toUInt32).toInt32) &&& (63 : Int32))), (.int (p1 &&& (63 : Int32)))])) _
    refine XS.ishl X0.here hx rfl (hb hby at_13) rfl ?_
    show Steps p.tables e below (s₁.setTop (mkF m 14 #[.val (.int p1), .val (.int p2), .val (.int p3), .unset, .unset, .unset, .unset] [(.int ((((p1.toUInt32 >>> ((6 : Int32) &&& 31).toUInt32).toInt32) &&& (63 : Int32)) <<< ((6 : Int32) &&& 31))), (.int (p1 &&& (63 : Int32)))])) _
    refine XS.ior X0.here hx rfl (hb hby at_14) rfl ?_
    show Steps p.tables e below (s₁.setTop (mkF m 15 #[.val (.int p1), .val (.int p2), .val (.int p3), .unset, .unset, .unset, .unset] [(.int ((p1 &&& (63 : Int32)) ||| ((((p1.toUInt32 >>> ((6 : Int32) &&& 31).toUInt32).toInt32) &&& (63 : Int32)) <<< ((6 : Int32) &&& 31))))])) _
    refine XS.iloadN X0.here hx rfl (hb hby at_15) rfl ?_
    show Steps p.tables e below (s₁.setTop (mkF m 16 #[.val (.int p1), .val (.int p2), .val (.int p3), .unset, .unset, .unset, .unset] [(.int p1), (.int ((p1 &&& (63 : Int32)) ||| ((((p1.toUInt32 >>> ((6 : Int32) &&& 31).toUInt32).toInt32) &&& (63 : Int32)) <<< ((6 : Int32) &&& 31))))])) _
    refine XS.bipush X0.here hx rfl (hb hby at_16) ?_
    show Steps p.tables e below (s₁.setTop (mkF m 18 #[.val (.int p1), .val (.int p2), .val (.int p3), .unset, .unset, .unset, .unset] [(.int (15 : Int32)), (.int p1), (.int ((p1 &&& (63 : Int32)) ||| ((((p1.toUInt32 >>> ((6 : Int32) &&& 31).toUInt32).toInt32) &&& (63 : Int32)) <<< ((6 : Int32) &&& 31))))])) _
    refine XS.iushr X0.here hx rfl (hb hby at_18) rfl ?_
    show Steps p.tables e below (s₁.setTop (mkF m 19 #[.val (.int p1), .val (.int p2), .val (.int p3), .unset, .unset, .unset, .unset] [(.int ((p1.toUInt32 >>> ((15 : Int32) &&& 31).toUInt32).toInt32)), (.int ((p1 &&& (63 : Int32)) ||| ((((p1.toUInt32 >>> ((6 : Int32) &&& 31).toUInt32).toInt32) &&& (63 : Int32)) <<< ((6 : Int32) &&& 31))))])) _
    refine XS.bipush X0.here hx rfl (hb hby at_19) ?_
    show Steps p.tables e below (s₁.setTop (mkF m 21 #[.val (.int p1), .val (.int p2), .val (.int p3), .unset, .unset, .unset, .unset] [(.int (7 : Int32)), (.int ((p1.toUInt32 >>> ((15 : Int32) &&& 31).toUInt32).toInt32)), (.int ((p1 &&& (63 : Int32)) ||| ((((p1.toUInt32 >>> ((6 : Int32) &&& 31).toUInt32).toInt32) &&& (63 : Int32)) <<< ((6 : Int32) &&& 31))))])) _
    refine XS.iand X0.here hx rfl (hb hby at_21) rfl ?_
    show Steps p.tables e below (s₁.setTop (mkF m 22 #[.val (.int p1), .val (.int p2), .val (.int p3), .unset, .unset, .unset, .unset] [(.int (((p1.toUInt32 >>> ((15 : Int32) &&& 31).toUInt32).toInt32) &&& (7 : Int32))), (.int ((p1 &&& (63 : Int32)) ||| ((((p1.toUInt32 >>> ((6 : Int32) &&& 31).toUInt32).toInt32) &&& (63 : Int32)) <<< ((6 : Int32) &&& 31))))])) _
    refine XS.bipush X0.here hx rfl (hb hby at_22) ?_
    show Steps p.tables e below (s₁.setTop (mkF m 24 #[.val (.int p1), .val (.int p2), .val (.int p3), .unset, .unset, .unset, .unset] [(.int (15 : Int32)), (.int (((p1.toUInt32 >>> ((15 : Int32) &&& 31).toUInt32).toInt32) &&& (7 : Int32))), (.int ((p1 &&& (63 : Int32)) ||| ((((p1.toUInt32 >>> ((6 : Int32) &&& 31).toUInt32).toInt32) &&& (63 : Int32)) <<< ((6 : Int32) &&& 31))))])) _
    refine XS.ishl X0.here hx rfl (hb hby at_24) rfl ?_
    show Steps p.tables e below (s₁.setTop (mkF m 25 #[.val (.int p1), .val (.int p2), .val (.int p3), .unset, .unset, .unset, .unset] [(.int ((((p1.toUInt32 >>> ((15 : Int32) &&& 31).toUInt32).toInt32) &&& (7 : Int32)) <<< ((15 : Int32) &&& 31))), (.int ((p1 &&& (63 : Int32)) ||| ((((p1.toUInt32 >>> ((6 : Int32) &&& 31).toUInt32).toInt32) &&& (63 : Int32)) <<< ((6 : Int32) &&& 31))))])) _
    refine XS.ior X0.here hx rfl (hb hby at_25) rfl ?_
    show Steps p.tables e below (s₁.setTop (mkF m 26 #[.val (.int p1), .val (.int p2), .val (.int p3), .unset, .unset, .unset, .unset] [(.int (own_b p1))])) _
    refine XS.istoreN X0.here hx rfl (hb hby at_26) rfl (l' := #[.val (.int p1), .val (.int p2), .val (.int p3), .val (.int (own_b p1)), .unset, .unset, .unset]) rfl ?_
    show Steps p.tables e below (s₁.setTop (mkF m 27 #[.val (.int p1), .val (.int p2), .val (.int p3), .val (.int (own_b p1)), .unset, .unset, .unset] [])) _
    refine XS.iloadN X0.here hx rfl (hb hby at_27) rfl ?_
    show Steps p.tables e below (s₁.setTop (mkF m 28 #[.val (.int p1), .val (.int p2), .val (.int p3), .val (.int (own_b p1)), .unset, .unset, .unset] [(.int p3)])) _
    refine XS.iconst X0.here hx rfl (hb hby at_28) ?_
    show Steps p.tables e below (s₁.setTop (mkF m 29 #[.val (.int p1), .val (.int p2), .val (.int p3), .val (.int (own_b p1)), .unset, .unset, .unset] [(.int (3 : Int32)), (.int p3)])) _
    refine XS.iand X0.here hx rfl (hb hby at_29) rfl ?_
    show Steps p.tables e below (s₁.setTop (mkF m 30 #[.val (.int p1), .val (.int p2), .val (.int p3), .val (.int (own_b p1)), .unset, .unset, .unset] [(.int (p3 &&& (3 : Int32)))])) _
    refine XS.istore X0.here hx rfl (hb hby at_30) rfl (l' := #[.val (.int p1), .val (.int p2), .val (.int p3), .val (.int (own_b p1)), .val (.int (p3 &&& (3 : Int32))), .unset, .unset]) rfl ?_
    show Steps p.tables e below (s₁.setTop (mkF m 32 #[.val (.int p1), .val (.int p2), .val (.int p3), .val (.int (own_b p1)), .val (.int (p3 &&& (3 : Int32))), .unset, .unset] [])) _
    refine XS.iload X0.here hx rfl (hb hby at_32) rfl ?_
    show Steps p.tables e below (s₁.setTop (mkF m 34 #[.val (.int p1), .val (.int p2), .val (.int p3), .val (.int (own_b p1)), .val (.int (p3 &&& (3 : Int32))), .unset, .unset] [(.int (p3 &&& (3 : Int32)))])) _
    refine XS.ifYes X0.here hx rfl (pc0 := 34) (pc' := 43) rfl (hb hby at_34) rfl ((if0 _ _).trans (feq hc34).2) (by decide) (by decide) ?_
    show Steps p.tables e below (s₁.setTop (mkF m 43 #[.val (.int p1), .val (.int p2), .val (.int p3), .val (.int (own_b p1)), .val (.int (p3 &&& (3 : Int32))), .unset, .unset] [])) _
    refine XS.iload X0.here hx rfl (hb hby at_43) rfl ?_
    show Steps p.tables e below (s₁.setTop (mkF m 45 #[.val (.int p1), .val (.int p2), .val (.int p3), .val (.int (own_b p1)), .val (.int (p3 &&& (3 : Int32))), .unset, .unset] [(.int (p3 &&& (3 : Int32)))])) _
    refine XS.iconst X0.here hx rfl (hb hby at_45) ?_
    show Steps p.tables e below (s₁.setTop (mkF m 46 #[.val (.int p1), .val (.int p2), .val (.int p3), .val (.int (own_b p1)), .val (.int (p3 &&& (3 : Int32))), .unset, .unset] [(.int (1 : Int32)), (.int (p3 &&& (3 : Int32)))])) _
    refine XS.icmpYes X0.here hx rfl (pc0 := 46) (pc' := 55) rfl (hb hby at_46) rfl (feq hc46).2 (by decide) (by decide) ?_
    show Steps p.tables e below (s₁.setTop (mkF m 55 #[.val (.int p1), .val (.int p2), .val (.int p3), .val (.int (own_b p1)), .val (.int (p3 &&& (3 : Int32))), .unset, .unset] [])) _
    refine XS.iload X0.here hx rfl (hb hby at_55) rfl ?_
    show Steps p.tables e below (s₁.setTop (mkF m 57 #[.val (.int p1), .val (.int p2), .val (.int p3), .val (.int (own_b p1)), .val (.int (p3 &&& (3 : Int32))), .unset, .unset] [(.int (p3 &&& (3 : Int32)))])) _
    refine XS.iconst X0.here hx rfl (hb hby at_57) ?_
    show Steps p.tables e below (s₁.setTop (mkF m 58 #[.val (.int p1), .val (.int p2), .val (.int p3), .val (.int (own_b p1)), .val (.int (p3 &&& (3 : Int32))), .unset, .unset] [(.int (2 : Int32)), (.int (p3 &&& (3 : Int32)))])) _
    refine XS.icmpNo X0.here hx rfl (hb hby at_58) rfl (teq hc58).2 ?_
    show Steps p.tables e below (s₁.setTop (mkF m 61 #[.val (.int p1), .val (.int p2), .val (.int p3), .val (.int (own_b p1)), .val (.int (p3 &&& (3 : Int32))), .unset, .unset] [])) _
    refine XS.iloadN X0.here hx rfl (hb hby at_61) rfl ?_
    show Steps p.tables e below (s₁.setTop (mkF m 62 #[.val (.int p1), .val (.int p2), .val (.int p3), .val (.int (own_b p1)), .val (.int (p3 &&& (3 : Int32))), .unset, .unset] [(.int (own_b p1))])) _
    refine XS.iconst X0.here hx rfl (hb hby at_62) ?_
    show Steps p.tables e below (s₁.setTop (mkF m 63 #[.val (.int p1), .val (.int p2), .val (.int p3), .val (.int (own_b p1)), .val (.int (p3 &&& (3 : Int32))), .unset, .unset] [(.int (1 : Int32)), (.int (own_b p1))])) _
    refine XS.iloadN X0.here hx rfl (hb hby at_63) rfl ?_
    show Steps p.tables e below (s₁.setTop (mkF m 64 #[.val (.int p1), .val (.int p2), .val (.int p3), .val (.int (own_b p1)), .val (.int (p3 &&& (3 : Int32))), .unset, .unset] [(.int p2), (.int (1 : Int32)), (.int (own_b p1))])) _
    refine XS.bipush X0.here hx rfl (hb hby at_64) ?_
    show Steps p.tables e below (s₁.setTop (mkF m 66 #[.val (.int p1), .val (.int p2), .val (.int p3), .val (.int (own_b p1)), .val (.int (p3 &&& (3 : Int32))), .unset, .unset] [(.int (31 : Int32)), (.int p2), (.int (1 : Int32)), (.int (own_b p1))])) _
    refine XS.iand X0.here hx rfl (hb hby at_66) rfl ?_
    show Steps p.tables e below (s₁.setTop (mkF m 67 #[.val (.int p1), .val (.int p2), .val (.int p3), .val (.int (own_b p1)), .val (.int (p3 &&& (3 : Int32))), .unset, .unset] [(.int (p2 &&& (31 : Int32))), (.int (1 : Int32)), (.int (own_b p1))])) _
    refine XS.ishl X0.here hx rfl (hb hby at_67) rfl ?_
    show Steps p.tables e below (s₁.setTop (mkF m 68 #[.val (.int p1), .val (.int p2), .val (.int p3), .val (.int (own_b p1)), .val (.int (p3 &&& (3 : Int32))), .unset, .unset] [(.int ((1 : Int32) <<< ((p2 &&& (31 : Int32)) &&& 31))), (.int (own_b p1))])) _
    refine XS.ixor X0.here hx rfl (hb hby at_68) rfl ?_
    show Steps p.tables e below (s₁.setTop (mkF m 69 #[.val (.int p1), .val (.int p2), .val (.int p3), .val (.int (own_b p1)), .val (.int (p3 &&& (3 : Int32))), .unset, .unset] [(.int (own_x p1 p2))])) _
    refine XS.istore X0.here hx rfl (hb hby at_69) rfl (l' := #[.val (.int p1), .val (.int p2), .val (.int p3), .val (.int (own_b p1)), .val (.int (p3 &&& (3 : Int32))), .val (.int (own_x p1 p2)), .unset]) rfl ?_
    show Steps p.tables e below (s₁.setTop (mkF m 71 #[.val (.int p1), .val (.int p2), .val (.int p3), .val (.int (own_b p1)), .val (.int (p3 &&& (3 : Int32))), .val (.int (own_x p1 p2)), .unset] [])) _
    refine XS.goto X0.here hx rfl (pc0 := 71) (pc' := 77) rfl (hb hby at_71) (by decide) (by decide) ?_
    show Steps p.tables e below (s₁.setTop (mkF m 77 #[.val (.int p1), .val (.int p2), .val (.int p3), .val (.int (own_b p1)), .val (.int (p3 &&& (3 : Int32))), .val (.int (own_x p1 p2)), .unset] [])) _
    refine XS.iload X0.here hx rfl (hb hby at_77) rfl ?_
    show Steps p.tables e below (s₁.setTop (mkF m 79 #[.val (.int p1), .val (.int p2), .val (.int p3), .val (.int (own_b p1)), .val (.int (p3 &&& (3 : Int32))), .val (.int (own_x p1 p2)), .unset] [(.int (own_x p1 p2))])) _
    refine XS.bipush X0.here hx rfl (hb hby at_79) ?_
    show Steps p.tables e below (s₁.setTop (mkF m 81 #[.val (.int p1), .val (.int p2), .val (.int p3), .val (.int (own_b p1)), .val (.int (p3 &&& (3 : Int32))), .val (.int (own_x p1 p2)), .unset] [(.int (18 : Int32)), (.int (own_x p1 p2))])) _
    refine XS.iushr X0.here hx rfl (hb hby at_81) rfl ?_
    show Steps p.tables e below (s₁.setTop (mkF m 82 #[.val (.int p1), .val (.int p2), .val (.int p3), .val (.int (own_b p1)), .val (.int (p3 &&& (3 : Int32))), .val (.int (own_x p1 p2)), .unset] [(.int (((own_x p1 p2).toUInt32 >>> ((18 : Int32) &&& 31).toUInt32).toInt32))])) _
    refine XS.ifYes X0.here hx rfl (pc0 := 82) (pc' := 148) rfl (hb hby at_82) rfl ((if0 _ _).trans (feq hc82).2) (by decide) (by decide) ?_
    show Steps p.tables e below (s₁.setTop (mkF m 148 #[.val (.int p1), .val (.int p2), .val (.int p3), .val (.int (own_b p1)), .val (.int (p3 &&& (3 : Int32))), .val (.int (own_x p1 p2)), .unset] [])) _
    refine XS.iconst X0.here hx rfl (hb hby at_148) ?_
    show Steps p.tables e below (s₁.setTop (mkF m 149 #[.val (.int p1), .val (.int p2), .val (.int p3), .val (.int (own_b p1)), .val (.int (p3 &&& (3 : Int32))), .val (.int (own_x p1 p2)), .unset] [(.int (0 : Int32))])) _
    refine XS.istore X0.here hx rfl (hb hby at_149) rfl (l' := #[.val (.int p1), .val (.int p2), .val (.int p3), .val (.int (own_b p1)), .val (.int (p3 &&& (3 : Int32))), .val (.int (own_x p1 p2)), .val (.int (0 : Int32))]) rfl ?_
    show Steps p.tables e below (s₁.setTop (mkF m 151 #[.val (.int p1), .val (.int p2), .val (.int p3), .val (.int (own_b p1)), .val (.int (p3 &&& (3 : Int32))), .val (.int (own_x p1 p2)), .val (.int (0 : Int32))] [])) _
    refine XS.iloadN X0.here hx rfl (hb hby at_151) rfl ?_
    show Steps p.tables e below (s₁.setTop (mkF m 152 #[.val (.int p1), .val (.int p2), .val (.int p3), .val (.int (own_b p1)), .val (.int (p3 &&& (3 : Int32))), .val (.int (own_x p1 p2)), .val (.int (0 : Int32))] [(.int p1)])) _
    refine XS.iload X0.here hx rfl (hb hby at_152) rfl ?_
    show Steps p.tables e below (s₁.setTop (mkF m 154 #[.val (.int p1), .val (.int p2), .val (.int p3), .val (.int (own_b p1)), .val (.int (p3 &&& (3 : Int32))), .val (.int (own_x p1 p2)), .val (.int (0 : Int32))] [(.int (own_x p1 p2)), (.int p1)])) _
    refine st4 _ ?_
    show Steps p.tables e below (T4.setTop (mkF m 157 #[.val (.int p1), .val (.int p2), .val (.int p3), .val (.int (own_b p1)), .val (.int (p3 &&& (3 : Int32))), .val (.int (own_x p1 p2)), .val (.int (0 : Int32))] [(.int (val1 p1 (own_x p1 p2)))])) _
    refine XS.iload X4.here hx rfl (hb hby at_157) rfl ?_
    show Steps p.tables e below (T4.setTop (mkF m 159 #[.val (.int p1), .val (.int p2), .val (.int p3), .val (.int (own_b p1)), .val (.int (p3 &&& (3 : Int32))), .val (.int (own_x p1 p2)), .val (.int (0 : Int32))] [(.int (0 : Int32)), (.int (val1 p1 (own_x p1 p2)))])) _
    refine XS.icmpNo X4.here hx rfl (hb hby at_159) rfl (teq (by unfold val1; rw [if_neg (fun q => hc82 ((own_iff _ _).mp q).1)] : (val1 p1 (own_x p1 p2)) = (0 : Int32))).2 ?_
    show Steps p.tables e below (T4.setTop (mkF m 162 #[.val (.int p1), .val (.int p2), .val (.int p3), .val (.int (own_b p1)), .val (.int (p3 &&& (3 : Int32))), .val (.int (own_x p1 p2)), .val (.int (0 : Int32))] [])) _
    refine XS.iconst X4.here hx rfl (hb hby at_162) ?_
    show Steps p.tables e below (T4.setTop (mkF m 163 #[.val (.int p1), .val (.int p2), .val (.int p3), .val (.int (own_b p1)), .val (.int (p3 &&& (3 : Int32))), .val (.int (own_x p1 p2)), .val (.int (0 : Int32))] [(.int (1 : Int32))])) _
    refine XS.goto X4.here hx rfl (pc0 := 163) (pc' := 167) rfl (hb hby at_163) (by decide) (by decide) ?_
    show Steps p.tables e below (T4.setTop (mkF m 167 #[.val (.int p1), .val (.int p2), .val (.int p3), .val (.int (own_b p1)), .val (.int (p3 &&& (3 : Int32))), .val (.int (own_x p1 p2)), .val (.int (0 : Int32))] [(.int (1 : Int32))])) _
    exact retN X4 hx (t := .boolean) Bd.returns (by simp) (hb hby at_167) hr
  · show Q0 Z p1 p2 p3 h0 n0 _ T4.heap _
    exact ⟨rfl, N4⟩

set_option maxRecDepth 65536 in
set_option maxHeartbeats 40000000 in
theorem rm0_ttfftf (l : Launch) (Z : State) (a0 : Array Value) (hw : ∀ d ∈ tables_1, d.before a0 Z = true) (ws : List Jvm.Cond) (p1 : Int32) (p2 : Int32) (p3 : Int32) (h0 : Heap) (n0 : Nat) (Z0 : n0 ≤ h0.size) (hc34 : ¬ ((p3 &&& (3 : Int32)) = (0 : Int32))) (hc46 : ¬ ((p3 &&& (3 : Int32)) = (1 : Int32))) (hc58 : (p3 &&& (3 : Int32)) = (2 : Int32)) (hc82 : (((own_x p1 p2).toUInt32 >>> ((18 : Int32) &&& 31).toUInt32).toInt32) = (0 : Int32)) (hc93 : ¬ (((((own_x p1 p2).toUInt32 >>> ((12 : Int32) &&& 31).toUInt32).toInt32) &&& (7 : Int32)) = (0 : Int32))) :
    MetFree l x (head1 (Jvm.Cond.code x code maxLocals ret :: ws) room_1) (fun a U => a = #[(.int p1), (.int p2), (.int p3)] ∧ Z.Warmed39 U.vm ∧ U.heap = h0) (fun _ _ _ _ _ => True) (fun _ U o U' => ∃ v L, o = .returned v ∧ Q0 Z p1 p2 p3 h0 n0 v U'.heap L ∧ FrameEnd U o U' L room_1.cells room_1.slots) := by
  refine MetFree.of_bodySF (plainFor_of_name pn_0) hisR ?_
  intro p e s m args below meth c s₁ Bd hml0 hP hK
  obtain ⟨rfl, hZ, hh⟩ := hP
  have hx := Bd.exec
  have hby := Bd.bytes
  have hml : c.maxLocals = 7 := hml0
  have hown : s.vm.findClass "touchmove/position/PackedMoveIsPinLaw" = some m.cls := findClass_of_methodNamed Bd.named
  have hnm := (name_of_methodNamed Bd.named Bd.method).1
  have X0 : Stand p l e room_1 s m #[(.int p1), (.int p2), (.int p3)] below meth c s₁ [] 0 0 := Stand.of_body Bd
  have e0 : s₁.heap = h0 := by rw [← hh, Bd.state]; rfl
  have N0 := Fr.nil n0
  have pre0 : ∀ t, Steps p.tables e below (s₁.setTop (mkF m 0 #[.val (.int p1), .val (.int p2), .val (.int p3), .unset, .unset, .unset, .unset] [])) t → Steps p.tables e below (s₁.setTop (entryFrame m #[(.int p1), (.int p2), (.int p3)] maxLocals)) t := fun t k => castTop (ef_0 m p1 p2 p3) k
  obtain ⟨_, _, ⟨T4, L4, k4, n4⟩, -, X4, ⟨Lc4, hQ4, l4, y4, z4⟩, st4⟩ := Jvm.LawKit.callS X0 hx (y := (⟨"touchmove/position/PackedMove", "is", "(II)Z"⟩ : MethodName)) hown (mvT hZ (hw _ (List.mem_of_getElem? (i := 0) rfl))) (mvT hZ (hw _ (List.mem_of_getElem? (i := 1) rfl))) (mvT hZ (hw _ (List.mem_of_getElem? (i := 2) rfl))) (mvT hZ (hw _ (List.mem_of_getElem? (i := 3) rfl))) (by decide) (backOf (W := 0) (rm1 l Z a0 hw [] p1 (own_x p1 p2) h0 n0 Z0) hZ (hw _ (List.mem_of_getElem? (i := 3) rfl)) (hw _ (List.mem_of_getElem? (i := 2) rfl)) (by decide) (by decide)) (g := (mkF m 154 #[.val (.int p1), .val (.int p2), .val (.int p3), .val (.int (own_b p1)), .val (.int (p3 &&& (3 : Int32))), .val (.int (own_x p1 p2)), .val (.int (0 : Int32))] [(.int (own_x p1 p2)), (.int p1)])) rfl (by rw [hml]; rfl) (argsL := [(.int p1), (.int (own_x p1 p2))]) (rest := []) (lenOf pd_0_0 rfl) rfl (by show 2 * 0 + _ ≤ _; exact Nat.le_of_eq rfl) (hb hby at_154) (fun _ _ => ⟨rfl, e0, (by decide : 0 + 0 ≤ _), (by decide : 0 + 0 ≤ _)⟩)
  dsimp only [Pt.U, Pt.locs, Pt.cells, Pt.slots] at X4 l4 y4 z4 st4 hQ4
  subst l4 y4 z4
  obtain ⟨rfl, N4q, w4⟩ := hQ4
  have N4 := Fr.app N0 N4q
  obtain ⟨fs, hr, hrun, hended, hW, hsame⟩ := X4.leave (v := some (.int (1 : Int32))) (fun h => by rw [Bd.returns] at h; cases h)
  refine ⟨_, _, pre0 _ ?_, hrun, hended, _, _, rfl, ?_, ⟨_, rfl⟩, hW, hsame.mono (by decide) (by decide)⟩
  · show Steps p.tables e below (s₁.setTop (mkF m 0 #[.val (.int p1), .val (.int p2), .val (.int p3), .unset, .unset, .unset, .unset] [])) _
    refine XS.iloadN X0.here hx rfl (hb hby at_0) rfl ?_
    show Steps p.tables e below (s₁.setTop (mkF m 1 #[.val (.int p1), .val (.int p2), .val (.int p3), .unset, .unset, .unset, .unset] [(.int p1)])) _
    refine XS.bipush X0.here hx rfl (hb hby at_1) ?_
    show Steps p.tables e below (s₁.setTop (mkF m 3 #[.val (.int p1), .val (.int p2), .val (.int p3), .unset, .unset, .unset, .unset] [(.int (63 : Int32)), (.int p1)])) _
    refine XS.iand X0.here hx rfl (hb hby at_3) rfl ?_
    show Steps p.tables e below (s₁.setTop (mkF m 4 #[.val (.int p1), .val (.int p2), .val (.int p3), .unset, .unset, .unset, .unset] [(.int (p1 &&& (63 : Int32)))])) _
    refine XS.iloadN X0.here hx rfl (hb hby at_4) rfl ?_
    show Steps p.tables e below (s₁.setTop (mkF m 5 #[.val (.int p1), .val (.int p2), .val (.int p3), .unset, .unset, .unset, .unset] [(.int p1), (.int (p1 &&& (63 : Int32)))])) _
    refine XS.bipush X0.here hx rfl (hb hby at_5) ?_
    show Steps p.tables e below (s₁.setTop (mkF m 7 #[.val (.int p1), .val (.int p2), .val (.int p3), .unset, .unset, .unset, .unset] [(.int (6 : Int32)), (.int p1), (.int (p1 &&& (63 : Int32)))])) _
    refine XS.iushr X0.here hx rfl (hb hby at_7) rfl ?_
    show Steps p.tables e below (s₁.setTop (mkF m 8 #[.val (.int p1), .val (.int p2), .val (.int p3), .unset, .unset, .unset, .unset] [(.int ((p1.toUInt32 >>> ((6 : Int32) &&& 31).toUInt32).toInt32)), (.int (p1 &&& (63 : Int32)))])) _
    refine XS.bipush X0.here hx rfl (hb hby at_8) ?_
    show Steps p.tables e below (s₁.setTop (mkF m 10 #[.val (.int p1), .val (.int p2), .val (.int p3), .unset, .unset, .unset, .unset] [(.int (63 : Int32)), (.int ((p1.toUInt32 >>> ((6 : Int32) &&& 31).toUInt32).toInt32)), (.int (p1 &&& (63 : Int32)))])) _
    refine XS.iand X0.here hx rfl (hb hby at_10) rfl ?_
    show Steps p.tables e below (s₁.setTop (mkF m 11 #[.val (.int p1), .val (.int p2), .val (.int p3), .unset, .unset, .unset, .unset] [(.int (((p1.toUInt32 >>> ((6 : Int32) &&& 31).toUInt32).toInt32) &&& (63 : Int32))), (.int (p1 &&& (63 : Int32)))])) _
    refine XS.bipush X0.here hx rfl (hb hby at_11) ?_
    show Steps p.tables e below (s₁.setTop (mkF m 13 #[.val (.int p1), .val (.int p2), .val (.int p3), .unset, .unset, .unset, .unset] [(.int (6 : Int32)), (.int (((p1.toUInt32 >>> ((6 : Int32) &&& 31).toUInt32).toInt32) &&& (63 : Int32))), (.int (p1 &&& (63 : Int32)))])) _
    refine XS.ishl X0.here hx rfl (hb hby at_13) rfl ?_
    show Steps p.tables e below (s₁.setTop (mkF m 14 #[.val (.int p1), .val (.int p2), .val (.int p3), .unset, .unset, .unset, .unset] [(.int ((((p1.toUInt32 >>> ((6 : Int32) &&& 31).toUInt32).toInt32) &&& (63 : Int32)) <<< ((6 : Int32) &&& 31))), (.int (p1 &&& (63 : Int32)))])) _
    refine XS.ior X0.here hx rfl (hb hby at_14) rfl ?_
    show Steps p.tables e below (s₁.setTop (mkF m 15 #[.val (.int p1), .val (.int p2), .val (.int p3), .unset, .unset, .unset, .unset] [(.int ((p1 &&& (63 : Int32)) ||| ((((p1.toUInt32 >>> ((6 : Int32) &&& 31).toUInt32).toInt32) &&& (63 : Int32)) <<< ((6 : Int32) &&& 31))))])) _
    refine XS.iloadN X0.here hx rfl (hb hby at_15) rfl ?_
    show Steps p.tables e below (s₁.setTop (mkF m 16 #[.val (.int p1), .val (.int p2), .val (.int p3), .unset, .unset, .unset, .unset] [(.int p1), (.int ((p1 &&& (63 : Int32)) ||| ((((p1.toUInt32 >>> ((6 : Int32) &&& 31).toUInt32).toInt32) &&& (63 : Int32)) <<< ((6 : Int32) &&& 31))))])) _
    refine XS.bipush X0.here hx rfl (hb hby at_16) ?_
    show Steps p.tables e below (s₁.setTop (mkF m 18 #[.val (.int p1), .val (.int p2), .val (.int p3), .unset, .unset, .unset, .unset] [(.int (15 : Int32)), (.int p1), (.int ((p1 &&& (63 : Int32)) ||| ((((p1.toUInt32 >>> ((6 : Int32) &&& 31).toUInt32).toInt32) &&& (63 : Int32)) <<< ((6 : Int32) &&& 31))))])) _
    refine XS.iushr X0.here hx rfl (hb hby at_18) rfl ?_
    show Steps p.tables e below (s₁.setTop (mkF m 19 #[.val (.int p1), .val (.int p2), .val (.int p3), .unset, .unset, .unset, .unset] [(.int ((p1.toUInt32 >>> ((15 : Int32) &&& 31).toUInt32).toInt32)), (.int ((p1 &&& (63 : Int32)) ||| ((((p1.toUInt32 >>> ((6 : Int32) &&& 31).toUInt32).toInt32) &&& (63 : Int32)) <<< ((6 : Int32) &&& 31))))])) _
    refine XS.bipush X0.here hx rfl (hb hby at_19) ?_
    show Steps p.tables e below (s₁.setTop (mkF m 21 #[.val (.int p1), .val (.int p2), .val (.int p3), .unset, .unset, .unset, .unset] [(.int (7 : Int32)), (.int ((p1.toUInt32 >>> ((15 : Int32) &&& 31).toUInt32).toInt32)), (.int ((p1 &&& (63 : Int32)) ||| ((((p1.toUInt32 >>> ((6 : Int32) &&& 31).toUInt32).toInt32) &&& (63 : Int32)) <<< ((6 : Int32) &&& 31))))])) _
    refine XS.iand X0.here hx rfl (hb hby at_21) rfl ?_
    show Steps p.tables e below (s₁.setTop (mkF m 22 #[.val (.int p1), .val (.int p2), .val (.int p3), .unset, .unset, .unset, .unset] [(.int (((p1.toUInt32 >>> ((15 : Int32) &&& 31).toUInt32).toInt32) &&& (7 : Int32))), (.int ((p1 &&& (63 : Int32)) ||| ((((p1.toUInt32 >>> ((6 : Int32) &&& 31).toUInt32).toInt32) &&& (63 : Int32)) <<< ((6 : Int32) &&& 31))))])) _
    refine XS.bipush X0.here hx rfl (hb hby at_22) ?_
    show Steps p.tables e below (s₁.setTop (mkF m 24 #[.val (.int p1), .val (.int p2), .val (.int p3), .unset, .unset, .unset, .unset] [(.int (15 : Int32)), (.int (((p1.toUInt32 >>> ((15 : Int32) &&& 31).toUInt32).toInt32) &&& (7 : Int32))), (.int ((p1 &&& (63 : Int32)) ||| ((((p1.toUInt32 >>> ((6 : Int32) &&& 31).toUInt32).toInt32) &&& (63 : Int32)) <<< ((6 : Int32) &&& 31))))])) _
    refine XS.ishl X0.here hx rfl (hb hby at_24) rfl ?_
    show Steps p.tables e below (s₁.setTop (mkF m 25 #[.val (.int p1), .val (.int p2), .val (.int p3), .unset, .unset, .unset, .unset] [(.int ((((p1.toUInt32 >>> ((15 : Int32) &&& 31).toUInt32).toInt32) &&& (7 : Int32)) <<< ((15 : Int32) &&& 31))), (.int ((p1 &&& (63 : Int32)) ||| ((((p1.toUInt32 >>> ((6 : Int32) &&& 31).toUInt32).toInt32) &&& (63 : Int32)) <<< ((6 : Int32) &&& 31))))])) _
    refine XS.ior X0.here hx rfl (hb hby at_25) rfl ?_
    show Steps p.tables e below (s₁.setTop (mkF m 26 #[.val (.int p1), .val (.int p2), .val (.int p3), .unset, .unset, .unset, .unset] [(.int (own_b p1))])) _
    refine XS.istoreN X0.here hx rfl (hb hby at_26) rfl (l' := #[.val (.int p1), .val (.int p2), .val (.int p3), .val (.int (own_b p1)), .unset, .unset, .unset]) rfl ?_
    show Steps p.tables e below (s₁.setTop (mkF m 27 #[.val (.int p1), .val (.int p2), .val (.int p3), .val (.int (own_b p1)), .unset, .unset, .unset] [])) _
    refine XS.iloadN X0.here hx rfl (hb hby at_27) rfl ?_
    show Steps p.tables e below (s₁.setTop (mkF m 28 #[.val (.int p1), .val (.int p2), .val (.int p3), .val (.int (own_b p1)), .unset, .unset, .unset] [(.int p3)])) _
    refine XS.iconst X0.here hx rfl (hb hby at_28) ?_
    show Steps p.tables e below (s₁.setTop (mkF m 29 #[.val (.int p1), .val (.int p2), .val (.int p3), .val (.int (own_b p1)), .unset, .unset, .unset] [(.int (3 : Int32)), (.int p3)])) _
    refine XS.iand X0.here hx rfl (hb hby at_29) rfl ?_
    show Steps p.tables e below (s₁.setTop (mkF m 30 #[.val (.int p1), .val (.int p2), .val (.int p3), .val (.int (own_b p1)), .unset, .unset, .unset] [(.int (p3 &&& (3 : Int32)))])) _
    refine XS.istore X0.here hx rfl (hb hby at_30) rfl (l' := #[.val (.int p1), .val (.int p2), .val (.int p3), .val (.int (own_b p1)), .val (.int (p3 &&& (3 : Int32))), .unset, .unset]) rfl ?_
    show Steps p.tables e below (s₁.setTop (mkF m 32 #[.val (.int p1), .val (.int p2), .val (.int p3), .val (.int (own_b p1)), .val (.int (p3 &&& (3 : Int32))), .unset, .unset] [])) _
    refine XS.iload X0.here hx rfl (hb hby at_32) rfl ?_
    show Steps p.tables e below (s₁.setTop (mkF m 34 #[.val (.int p1), .val (.int p2), .val (.int p3), .val (.int (own_b p1)), .val (.int (p3 &&& (3 : Int32))), .unset, .unset] [(.int (p3 &&& (3 : Int32)))])) _
    refine XS.ifYes X0.here hx rfl (pc0 := 34) (pc' := 43) rfl (hb hby at_34) rfl ((if0 _ _).trans (feq hc34).2) (by decide) (by decide) ?_
    show Steps p.tables e below (s₁.setTop (mkF m 43 #[.val (.int p1), .val (.int p2), .val (.int p3), .val (.int (own_b p1)), .val (.int (p3 &&& (3 : Int32))), .unset, .unset] [])) _
    refine XS.iload X0.here hx rfl (hb hby at_43) rfl ?_
    show Steps p.tables e below (s₁.setTop (mkF m 45 #[.val (.int p1), .val (.int p2), .val (.int p3), .val (.int (own_b p1)), .val (.int (p3 &&& (3 : Int32))), .unset, .unset] [(.int (p3 &&& (3 : Int32)))])) _
    refine XS.iconst X0.here hx rfl (hb hby at_45) ?_
    show Steps p.tables e below (s₁.setTop (mkF m 46 #[.val (.int p1), .val (.int p2), .val (.int p3), .val (.int (own_b p1)), .val (.int (p3 &&& (3 : Int32))), .unset, .unset] [(.int (1 : Int32)), (.int (p3 &&& (3 : Int32)))])) _
    refine XS.icmpYes X0.here hx rfl (pc0 := 46) (pc' := 55) rfl (hb hby at_46) rfl (feq hc46).2 (by decide) (by decide) ?_
    show Steps p.tables e below (s₁.setTop (mkF m 55 #[.val (.int p1), .val (.int p2), .val (.int p3), .val (.int (own_b p1)), .val (.int (p3 &&& (3 : Int32))), .unset, .unset] [])) _
    refine XS.iload X0.here hx rfl (hb hby at_55) rfl ?_
    show Steps p.tables e below (s₁.setTop (mkF m 57 #[.val (.int p1), .val (.int p2), .val (.int p3), .val (.int (own_b p1)), .val (.int (p3 &&& (3 : Int32))), .unset, .unset] [(.int (p3 &&& (3 : Int32)))])) _
    refine XS.iconst X0.here hx rfl (hb hby at_57) ?_
    show Steps p.tables e below (s₁.setTop (mkF m 58 #[.val (.int p1), .val (.int p2), .val (.int p3), .val (.int (own_b p1)), .val (.int (p3 &&& (3 : Int32))), .unset, .unset] [(.int (2 : Int32)), (.int (p3 &&& (3 : Int32)))])) _
    refine XS.icmpNo X0.here hx rfl (hb hby at_58) rfl (teq hc58).2 ?_
    show Steps p.tables e below (s₁.setTop (mkF m 61 #[.val (.int p1), .val (.int p2), .val (.int p3), .val (.int (own_b p1)), .val (.int (p3 &&& (3 : Int32))), .unset, .unset] [])) _
    refine XS.iloadN X0.here hx rfl (hb hby at_61) rfl ?_
    show Steps p.tables e below (s₁.setTop (mkF m 62 #[.val (.int p1), .val (.int p2), .val (.int p3), .val (.int (own_b p1)), .val (.int (p3 &&& (3 : Int32))), .unset, .unset] [(.int (own_b p1))])) _
    refine XS.iconst X0.here hx rfl (hb hby at_62) ?_
    show Steps p.tables e below (s₁.setTop (mkF m 63 #[.val (.int p1), .val (.int p2), .val (.int p3), .val (.int (own_b p1)), .val (.int (p3 &&& (3 : Int32))), .unset, .unset] [(.int (1 : Int32)), (.int (own_b p1))])) _
    refine XS.iloadN X0.here hx rfl (hb hby at_63) rfl ?_
    show Steps p.tables e below (s₁.setTop (mkF m 64 #[.val (.int p1), .val (.int p2), .val (.int p3), .val (.int (own_b p1)), .val (.int (p3 &&& (3 : Int32))), .unset, .unset] [(.int p2), (.int (1 : Int32)), (.int (own_b p1))])) _
    refine XS.bipush X0.here hx rfl (hb hby at_64) ?_
    show Steps p.tables e below (s₁.setTop (mkF m 66 #[.val (.int p1), .val (.int p2), .val (.int p3), .val (.int (own_b p1)), .val (.int (p3 &&& (3 : Int32))), .unset, .unset] [(.int (31 : Int32)), (.int p2), (.int (1 : Int32)), (.int (own_b p1))])) _
    refine XS.iand X0.here hx rfl (hb hby at_66) rfl ?_
    show Steps p.tables e below (s₁.setTop (mkF m 67 #[.val (.int p1), .val (.int p2), .val (.int p3), .val (.int (own_b p1)), .val (.int (p3 &&& (3 : Int32))), .unset, .unset] [(.int (p2 &&& (31 : Int32))), (.int (1 : Int32)), (.int (own_b p1))])) _
    refine XS.ishl X0.here hx rfl (hb hby at_67) rfl ?_
    show Steps p.tables e below (s₁.setTop (mkF m 68 #[.val (.int p1), .val (.int p2), .val (.int p3), .val (.int (own_b p1)), .val (.int (p3 &&& (3 : Int32))), .unset, .unset] [(.int ((1 : Int32) <<< ((p2 &&& (31 : Int32)) &&& 31))), (.int (own_b p1))])) _
    refine XS.ixor X0.here hx rfl (hb hby at_68) rfl ?_
    show Steps p.tables e below (s₁.setTop (mkF m 69 #[.val (.int p1), .val (.int p2), .val (.int p3), .val (.int (own_b p1)), .val (.int (p3 &&& (3 : Int32))), .unset, .unset] [(.int (own_x p1 p2))])) _
    refine XS.istore X0.here hx rfl (hb hby at_69) rfl (l' := #[.val (.int p1), .val (.int p2), .val (.int p3), .val (.int (own_b p1)), .val (.int (p3 &&& (3 : Int32))), .val (.int (own_x p1 p2)), .unset]) rfl ?_
    show Steps p.tables e below (s₁.setTop (mkF m 71 #[.val (.int p1), .val (.int p2), .val (.int p3), .val (.int (own_b p1)), .val (.int (p3 &&& (3 : Int32))), .val (.int (own_x p1 p2)), .unset] [])) _
    refine XS.goto X0.here hx rfl (pc0 := 71) (pc' := 77) rfl (hb hby at_71) (by decide) (by decide) ?_
    show Steps p.tables e below (s₁.setTop (mkF m 77 #[.val (.int p1), .val (.int p2), .val (.int p3), .val (.int (own_b p1)), .val (.int (p3 &&& (3 : Int32))), .val (.int (own_x p1 p2)), .unset] [])) _
    refine XS.iload X0.here hx rfl (hb hby at_77) rfl ?_
    show Steps p.tables e below (s₁.setTop (mkF m 79 #[.val (.int p1), .val (.int p2), .val (.int p3), .val (.int (own_b p1)), .val (.int (p3 &&& (3 : Int32))), .val (.int (own_x p1 p2)), .unset] [(.int (own_x p1 p2))])) _
    refine XS.bipush X0.here hx rfl (hb hby at_79) ?_
    show Steps p.tables e below (s₁.setTop (mkF m 81 #[.val (.int p1), .val (.int p2), .val (.int p3), .val (.int (own_b p1)), .val (.int (p3 &&& (3 : Int32))), .val (.int (own_x p1 p2)), .unset] [(.int (18 : Int32)), (.int (own_x p1 p2))])) _
    refine XS.iushr X0.here hx rfl (hb hby at_81) rfl ?_
    show Steps p.tables e below (s₁.setTop (mkF m 82 #[.val (.int p1), .val (.int p2), .val (.int p3), .val (.int (own_b p1)), .val (.int (p3 &&& (3 : Int32))), .val (.int (own_x p1 p2)), .unset] [(.int (((own_x p1 p2).toUInt32 >>> ((18 : Int32) &&& 31).toUInt32).toInt32))])) _
    refine XS.ifNo X0.here hx rfl (hb hby at_82) rfl ((if0 _ _).trans (teq hc82).2) ?_
    show Steps p.tables e below (s₁.setTop (mkF m 85 #[.val (.int p1), .val (.int p2), .val (.int p3), .val (.int (own_b p1)), .val (.int (p3 &&& (3 : Int32))), .val (.int (own_x p1 p2)), .unset] [])) _
    refine XS.iload X0.here hx rfl (hb hby at_85) rfl ?_
    show Steps p.tables e below (s₁.setTop (mkF m 87 #[.val (.int p1), .val (.int p2), .val (.int p3), .val (.int (own_b p1)), .val (.int (p3 &&& (3 : Int32))), .val (.int (own_x p1 p2)), .unset] [(.int (own_x p1 p2))])) _
    refine XS.bipush X0.here hx rfl (hb hby at_87) ?_
    show Steps p.tables e below (s₁.setTop (mkF m 89 #[.val (.int p1), .val (.int p2), .val (.int p3), .val (.int (own_b p1)), .val (.int (p3 &&& (3 : Int32))), .val (.int (own_x p1 p2)), .unset] [(.int (12 : Int32)), (.int (own_x p1 p2))])) _
    refine XS.iushr X0.here hx rfl (hb hby at_89) rfl ?_
    show Steps p.tables e below (s₁.setTop (mkF m 90 #[.val (.int p1), .val (.int p2), .val (.int p3), .val (.int (own_b p1)), .val (.int (p3 &&& (3 : Int32))), .val (.int (own_x p1 p2)), .unset] [(.int (((own_x p1 p2).toUInt32 >>> ((12 : Int32) &&& 31).toUInt32).toInt32))])) _
    refine XS.bipush X0.here hx rfl (hb hby at_90) ?_
    show Steps p.tables e below (s₁.setTop (mkF m 92 #[.val (.int p1), .val (.int p2), .val (.int p3), .val (.int (own_b p1)), .val (.int (p3 &&& (3 : Int32))), .val (.int (own_x p1 p2)), .unset] [(.int (7 : Int32)), (.int (((own_x p1 p2).toUInt32 >>> ((12 : Int32) &&& 31).toUInt32).toInt32))])) _
    refine XS.iand X0.here hx rfl (hb hby at_92) rfl ?_
    show Steps p.tables e below (s₁.setTop (mkF m 93 #[.val (.int p1), .val (.int p2), .val (.int p3), .val (.int (own_b p1)), .val (.int (p3 &&& (3 : Int32))), .val (.int (own_x p1 p2)), .unset] [(.int ((((own_x p1 p2).toUInt32 >>> ((12 : Int32) &&& 31).toUInt32).toInt32) &&& (7 : Int32)))])) _
    refine XS.ifYes X0.here hx rfl (pc0 := 93) (pc' := 148) rfl (hb hby at_93) rfl ((if0 _ _).trans (feq hc93).2) (by decide) (by decide) ?_
    show Steps p.tables e below (s₁.setTop (mkF m 148 #[.val (.int p1), .val (.int p2), .val (.int p3), .val (.int (own_b p1)), .val (.int (p3 &&& (3 : Int32))), .val (.int (own_x p1 p2)), .unset] [])) _
    refine XS.iconst X0.here hx rfl (hb hby at_148) ?_
    show Steps p.tables e below (s₁.setTop (mkF m 149 #[.val (.int p1), .val (.int p2), .val (.int p3), .val (.int (own_b p1)), .val (.int (p3 &&& (3 : Int32))), .val (.int (own_x p1 p2)), .unset] [(.int (0 : Int32))])) _
    refine XS.istore X0.here hx rfl (hb hby at_149) rfl (l' := #[.val (.int p1), .val (.int p2), .val (.int p3), .val (.int (own_b p1)), .val (.int (p3 &&& (3 : Int32))), .val (.int (own_x p1 p2)), .val (.int (0 : Int32))]) rfl ?_
    show Steps p.tables e below (s₁.setTop (mkF m 151 #[.val (.int p1), .val (.int p2), .val (.int p3), .val (.int (own_b p1)), .val (.int (p3 &&& (3 : Int32))), .val (.int (own_x p1 p2)), .val (.int (0 : Int32))] [])) _
    refine XS.iloadN X0.here hx rfl (hb hby at_151) rfl ?_
    show Steps p.tables e below (s₁.setTop (mkF m 152 #[.val (.int p1), .val (.int p2), .val (.int p3), .val (.int (own_b p1)), .val (.int (p3 &&& (3 : Int32))), .val (.int (own_x p1 p2)), .val (.int (0 : Int32))] [(.int p1)])) _
    refine XS.iload X0.here hx rfl (hb hby at_152) rfl ?_
    show Steps p.tables e below (s₁.setTop (mkF m 154 #[.val (.int p1), .val (.int p2), .val (.int p3), .val (.int (own_b p1)), .val (.int (p3 &&& (3 : Int32))), .val (.int (own_x p1 p2)), .val (.int (0 : Int32))] [(.int (own_x p1 p2)), (.int p1)])) _
    refine st4 _ ?_
    show Steps p.tables e below (T4.setTop (mkF m 157 #[.val (.int p1), .val (.int p2), .val (.int p3), .val (.int (own_b p1)), .val (.int (p3 &&& (3 : Int32))), .val (.int (own_x p1 p2)), .val (.int (0 : Int32))] [(.int (val1 p1 (own_x p1 p2)))])) _
    refine XS.iload X4.here hx rfl (hb hby at_157) rfl ?_
    show Steps p.tables e below (T4.setTop (mkF m 159 #[.val (.int p1), .val (.int p2), .val (.int p3), .val (.int (own_b p1)), .val (.int (p3 &&& (3 : Int32))), .val (.int (own_x p1 p2)), .val (.int (0 : Int32))] [(.int (0 : Int32)), (.int (val1 p1 (own_x p1 p2)))])) _
    refine XS.icmpNo X4.here hx rfl (hb hby at_159) rfl (teq (by unfold val1; rw [if_neg (fun q => hc93 ((own_iff _ _).mp q).2.1)] : (val1 p1 (own_x p1 p2)) = (0 : Int32))).2 ?_
    show Steps p.tables e below (T4.setTop (mkF m 162 #[.val (.int p1), .val (.int p2), .val (.int p3), .val (.int (own_b p1)), .val (.int (p3 &&& (3 : Int32))), .val (.int (own_x p1 p2)), .val (.int (0 : Int32))] [])) _
    refine XS.iconst X4.here hx rfl (hb hby at_162) ?_
    show Steps p.tables e below (T4.setTop (mkF m 163 #[.val (.int p1), .val (.int p2), .val (.int p3), .val (.int (own_b p1)), .val (.int (p3 &&& (3 : Int32))), .val (.int (own_x p1 p2)), .val (.int (0 : Int32))] [(.int (1 : Int32))])) _
    refine XS.goto X4.here hx rfl (pc0 := 163) (pc' := 167) rfl (hb hby at_163) (by decide) (by decide) ?_
    show Steps p.tables e below (T4.setTop (mkF m 167 #[.val (.int p1), .val (.int p2), .val (.int p3), .val (.int (own_b p1)), .val (.int (p3 &&& (3 : Int32))), .val (.int (own_x p1 p2)), .val (.int (0 : Int32))] [(.int (1 : Int32))])) _
    exact retN X4 hx (t := .boolean) Bd.returns (by simp) (hb hby at_167) hr
  · show Q0 Z p1 p2 p3 h0 n0 _ T4.heap _
    exact ⟨rfl, N4⟩

set_option maxRecDepth 65536 in
set_option maxHeartbeats 40000000 in
theorem rm0_ttffftf (l : Launch) (Z : State) (a0 : Array Value) (hw : ∀ d ∈ tables_1, d.before a0 Z = true) (ws : List Jvm.Cond) (p1 : Int32) (p2 : Int32) (p3 : Int32) (h0 : Heap) (n0 : Nat) (Z0 : n0 ≤ h0.size) (hc34 : ¬ ((p3 &&& (3 : Int32)) = (0 : Int32))) (hc46 : ¬ ((p3 &&& (3 : Int32)) = (1 : Int32))) (hc58 : (p3 &&& (3 : Int32)) = (2 : Int32)) (hc82 : (((own_x p1 p2).toUInt32 >>> ((18 : Int32) &&& 31).toUInt32).toInt32) = (0 : Int32)) (hc93 : ((((own_x p1 p2).toUInt32 >>> ((12 : Int32) &&& 31).toUInt32).toInt32) &&& (7 : Int32)) = (0 : Int32)) (hc105 : ¬ ((p1 &&& (63 : Int32)) = ((own_x p1 p2) &&& (63 : Int32)))) :
    MetFree l x (head1 (Jvm.Cond.code x code maxLocals ret :: ws) room_1) (fun a U => a = #[(.int p1), (.int p2), (.int p3)] ∧ Z.Warmed39 U.vm ∧ U.heap = h0) (fun _ _ _ _ _ => True) (fun _ U o U' => ∃ v L, o = .returned v ∧ Q0 Z p1 p2 p3 h0 n0 v U'.heap L ∧ FrameEnd U o U' L room_1.cells room_1.slots) := by
  refine MetFree.of_bodySF (plainFor_of_name pn_0) hisR ?_
  intro p e s m args below meth c s₁ Bd hml0 hP hK
  obtain ⟨rfl, hZ, hh⟩ := hP
  have hx := Bd.exec
  have hby := Bd.bytes
  have hml : c.maxLocals = 7 := hml0
  have hown : s.vm.findClass "touchmove/position/PackedMoveIsPinLaw" = some m.cls := findClass_of_methodNamed Bd.named
  have hnm := (name_of_methodNamed Bd.named Bd.method).1
  have X0 : Stand p l e room_1 s m #[(.int p1), (.int p2), (.int p3)] below meth c s₁ [] 0 0 := Stand.of_body Bd
  have e0 : s₁.heap = h0 := by rw [← hh, Bd.state]; rfl
  have N0 := Fr.nil n0
  have pre0 : ∀ t, Steps p.tables e below (s₁.setTop (mkF m 0 #[.val (.int p1), .val (.int p2), .val (.int p3), .unset, .unset, .unset, .unset] [])) t → Steps p.tables e below (s₁.setTop (entryFrame m #[(.int p1), (.int p2), (.int p3)] maxLocals)) t := fun t k => castTop (ef_0 m p1 p2 p3) k
  obtain ⟨_, _, ⟨T4, L4, k4, n4⟩, -, X4, ⟨Lc4, hQ4, l4, y4, z4⟩, st4⟩ := Jvm.LawKit.callS X0 hx (y := (⟨"touchmove/position/PackedMove", "is", "(II)Z"⟩ : MethodName)) hown (mvT hZ (hw _ (List.mem_of_getElem? (i := 0) rfl))) (mvT hZ (hw _ (List.mem_of_getElem? (i := 1) rfl))) (mvT hZ (hw _ (List.mem_of_getElem? (i := 2) rfl))) (mvT hZ (hw _ (List.mem_of_getElem? (i := 3) rfl))) (by decide) (backOf (W := 0) (rm1 l Z a0 hw [] p1 (own_x p1 p2) h0 n0 Z0) hZ (hw _ (List.mem_of_getElem? (i := 3) rfl)) (hw _ (List.mem_of_getElem? (i := 2) rfl)) (by decide) (by decide)) (g := (mkF m 154 #[.val (.int p1), .val (.int p2), .val (.int p3), .val (.int (own_b p1)), .val (.int (p3 &&& (3 : Int32))), .val (.int (own_x p1 p2)), .val (.int (0 : Int32))] [(.int (own_x p1 p2)), (.int p1)])) rfl (by rw [hml]; rfl) (argsL := [(.int p1), (.int (own_x p1 p2))]) (rest := []) (lenOf pd_0_0 rfl) rfl (by show 2 * 0 + _ ≤ _; exact Nat.le_of_eq rfl) (hb hby at_154) (fun _ _ => ⟨rfl, e0, (by decide : 0 + 0 ≤ _), (by decide : 0 + 0 ≤ _)⟩)
  dsimp only [Pt.U, Pt.locs, Pt.cells, Pt.slots] at X4 l4 y4 z4 st4 hQ4
  subst l4 y4 z4
  obtain ⟨rfl, N4q, w4⟩ := hQ4
  have N4 := Fr.app N0 N4q
  obtain ⟨fs, hr, hrun, hended, hW, hsame⟩ := X4.leave (v := some (.int (1 : Int32))) (fun h => by rw [Bd.returns] at h; cases h)
  refine ⟨_, _, pre0 _ ?_, hrun, hended, _, _, rfl, ?_, ⟨_, rfl⟩, hW, hsame.mono (by decide) (by decide)⟩
  · show Steps p.tables e below (s₁.setTop (mkF m 0 #[.val (.int p1), .val (.int p2), .val (.int p3), .unset, .unset, .unset, .unset] [])) _
    refine XS.iloadN X0.here hx rfl (hb hby at_0) rfl ?_
    show Steps p.tables e below (s₁.setTop (mkF m 1 #[.val (.int p1), .val (.int p2), .val (.int p3), .unset, .unset, .unset, .unset] [(.int p1)])) _
    refine XS.bipush X0.here hx rfl (hb hby at_1) ?_
    show Steps p.tables e below (s₁.setTop (mkF m 3 #[.val (.int p1), .val (.int p2), .val (.int p3), .unset, .unset, .unset, .unset] [(.int (63 : Int32)), (.int p1)])) _
    refine XS.iand X0.here hx rfl (hb hby at_3) rfl ?_
    show Steps p.tables e below (s₁.setTop (mkF m 4 #[.val (.int p1), .val (.int p2), .val (.int p3), .unset, .unset, .unset, .unset] [(.int (p1 &&& (63 : Int32)))])) _
    refine XS.iloadN X0.here hx rfl (hb hby at_4) rfl ?_
    show Steps p.tables e below (s₁.setTop (mkF m 5 #[.val (.int p1), .val (.int p2), .val (.int p3), .unset, .unset, .unset, .unset] [(.int p1), (.int (p1 &&& (63 : Int32)))])) _
    refine XS.bipush X0.here hx rfl (hb hby at_5) ?_
    show Steps p.tables e below (s₁.setTop (mkF m 7 #[.val (.int p1), .val (.int p2), .val (.int p3), .unset, .unset, .unset, .unset] [(.int (6 : Int32)), (.int p1), (.int (p1 &&& (63 : Int32)))])) _
    refine XS.iushr X0.here hx rfl (hb hby at_7) rfl ?_
    show Steps p.tables e below (s₁.setTop (mkF m 8 #[.val (.int p1), .val (.int p2), .val (.int p3), .unset, .unset, .unset, .unset] [(.int ((p1.toUInt32 >>> ((6 : Int32) &&& 31).toUInt32).toInt32)), (.int (p1 &&& (63 : Int32)))])) _
    refine XS.bipush X0.here hx rfl (hb hby at_8) ?_
    show Steps p.tables e below (s₁.setTop (mkF m 10 #[.val (.int p1), .val (.int p2), .val (.int p3), .unset, .unset, .unset, .unset] [(.int (63 : Int32)), (.int ((p1.toUInt32 >>> ((6 : Int32) &&& 31).toUInt32).toInt32)), (.int (p1 &&& (63 : Int32)))])) _
    refine XS.iand X0.here hx rfl (hb hby at_10) rfl ?_
    show Steps p.tables e below (s₁.setTop (mkF m 11 #[.val (.int p1), .val (.int p2), .val (.int p3), .unset, .unset, .unset, .unset] [(.int (((p1.toUInt32 >>> ((6 : Int32) &&& 31).toUInt32).toInt32) &&& (63 : Int32))), (.int (p1 &&& (63 : Int32)))])) _
    refine XS.bipush X0.here hx rfl (hb hby at_11) ?_
    show Steps p.tables e below (s₁.setTop (mkF m 13 #[.val (.int p1), .val (.int p2), .val (.int p3), .unset, .unset, .unset, .unset] [(.int (6 : Int32)), (.int (((p1.toUInt32 >>> ((6 : Int32) &&& 31).toUInt32).toInt32) &&& (63 : Int32))), (.int (p1 &&& (63 : Int32)))])) _
    refine XS.ishl X0.here hx rfl (hb hby at_13) rfl ?_
    show Steps p.tables e below (s₁.setTop (mkF m 14 #[.val (.int p1), .val (.int p2), .val (.int p3), .unset, .unset, .unset, .unset] [(.int ((((p1.toUInt32 >>> ((6 : Int32) &&& 31).toUInt32).toInt32) &&& (63 : Int32)) <<< ((6 : Int32) &&& 31))), (.int (p1 &&& (63 : Int32)))])) _
    refine XS.ior X0.here hx rfl (hb hby at_14) rfl ?_
    show Steps p.tables e below (s₁.setTop (mkF m 15 #[.val (.int p1), .val (.int p2), .val (.int p3), .unset, .unset, .unset, .unset] [(.int ((p1 &&& (63 : Int32)) ||| ((((p1.toUInt32 >>> ((6 : Int32) &&& 31).toUInt32).toInt32) &&& (63 : Int32)) <<< ((6 : Int32) &&& 31))))])) _
    refine XS.iloadN X0.here hx rfl (hb hby at_15) rfl ?_
    show Steps p.tables e below (s₁.setTop (mkF m 16 #[.val (.int p1), .val (.int p2), .val (.int p3), .unset, .unset, .unset, .unset] [(.int p1), (.int ((p1 &&& (63 : Int32)) ||| ((((p1.toUInt32 >>> ((6 : Int32) &&& 31).toUInt32).toInt32) &&& (63 : Int32)) <<< ((6 : Int32) &&& 31))))])) _
    refine XS.bipush X0.here hx rfl (hb hby at_16) ?_
    show Steps p.tables e below (s₁.setTop (mkF m 18 #[.val (.int p1), .val (.int p2), .val (.int p3), .unset, .unset, .unset, .unset] [(.int (15 : Int32)), (.int p1), (.int ((p1 &&& (63 : Int32)) ||| ((((p1.toUInt32 >>> ((6 : Int32) &&& 31).toUInt32).toInt32) &&& (63 : Int32)) <<< ((6 : Int32) &&& 31))))])) _
    refine XS.iushr X0.here hx rfl (hb hby at_18) rfl ?_
    show Steps p.tables e below (s₁.setTop (mkF m 19 #[.val (.int p1), .val (.int p2), .val (.int p3), .unset, .unset, .unset, .unset] [(.int ((p1.toUInt32 >>> ((15 : Int32) &&& 31).toUInt32).toInt32)), (.int ((p1 &&& (63 : Int32)) ||| ((((p1.toUInt32 >>> ((6 : Int32) &&& 31).toUInt32).toInt32) &&& (63 : Int32)) <<< ((6 : Int32) &&& 31))))])) _
    refine XS.bipush X0.here hx rfl (hb hby at_19) ?_
    show Steps p.tables e below (s₁.setTop (mkF m 21 #[.val (.int p1), .val (.int p2), .val (.int p3), .unset, .unset, .unset, .unset] [(.int (7 : Int32)), (.int ((p1.toUInt32 >>> ((15 : Int32) &&& 31).toUInt32).toInt32)), (.int ((p1 &&& (63 : Int32)) ||| ((((p1.toUInt32 >>> ((6 : Int32) &&& 31).toUInt32).toInt32) &&& (63 : Int32)) <<< ((6 : Int32) &&& 31))))])) _
    refine XS.iand X0.here hx rfl (hb hby at_21) rfl ?_
    show Steps p.tables e below (s₁.setTop (mkF m 22 #[.val (.int p1), .val (.int p2), .val (.int p3), .unset, .unset, .unset, .unset] [(.int (((p1.toUInt32 >>> ((15 : Int32) &&& 31).toUInt32).toInt32) &&& (7 : Int32))), (.int ((p1 &&& (63 : Int32)) ||| ((((p1.toUInt32 >>> ((6 : Int32) &&& 31).toUInt32).toInt32) &&& (63 : Int32)) <<< ((6 : Int32) &&& 31))))])) _
    refine XS.bipush X0.here hx rfl (hb hby at_22) ?_
    show Steps p.tables e below (s₁.setTop (mkF m 24 #[.val (.int p1), .val (.int p2), .val (.int p3), .unset, .unset, .unset, .unset] [(.int (15 : Int32)), (.int (((p1.toUInt32 >>> ((15 : Int32) &&& 31).toUInt32).toInt32) &&& (7 : Int32))), (.int ((p1 &&& (63 : Int32)) ||| ((((p1.toUInt32 >>> ((6 : Int32) &&& 31).toUInt32).toInt32) &&& (63 : Int32)) <<< ((6 : Int32) &&& 31))))])) _
    refine XS.ishl X0.here hx rfl (hb hby at_24) rfl ?_
    show Steps p.tables e below (s₁.setTop (mkF m 25 #[.val (.int p1), .val (.int p2), .val (.int p3), .unset, .unset, .unset, .unset] [(.int ((((p1.toUInt32 >>> ((15 : Int32) &&& 31).toUInt32).toInt32) &&& (7 : Int32)) <<< ((15 : Int32) &&& 31))), (.int ((p1 &&& (63 : Int32)) ||| ((((p1.toUInt32 >>> ((6 : Int32) &&& 31).toUInt32).toInt32) &&& (63 : Int32)) <<< ((6 : Int32) &&& 31))))])) _
    refine XS.ior X0.here hx rfl (hb hby at_25) rfl ?_
    show Steps p.tables e below (s₁.setTop (mkF m 26 #[.val (.int p1), .val (.int p2), .val (.int p3), .unset, .unset, .unset, .unset] [(.int (own_b p1))])) _
    refine XS.istoreN X0.here hx rfl (hb hby at_26) rfl (l' := #[.val (.int p1), .val (.int p2), .val (.int p3), .val (.int (own_b p1)), .unset, .unset, .unset]) rfl ?_
    show Steps p.tables e below (s₁.setTop (mkF m 27 #[.val (.int p1), .val (.int p2), .val (.int p3), .val (.int (own_b p1)), .unset, .unset, .unset] [])) _
    refine XS.iloadN X0.here hx rfl (hb hby at_27) rfl ?_
    show Steps p.tables e below (s₁.setTop (mkF m 28 #[.val (.int p1), .val (.int p2), .val (.int p3), .val (.int (own_b p1)), .unset, .unset, .unset] [(.int p3)])) _
    refine XS.iconst X0.here hx rfl (hb hby at_28) ?_
    show Steps p.tables e below (s₁.setTop (mkF m 29 #[.val (.int p1), .val (.int p2), .val (.int p3), .val (.int (own_b p1)), .unset, .unset, .unset] [(.int (3 : Int32)), (.int p3)])) _
    refine XS.iand X0.here hx rfl (hb hby at_29) rfl ?_
    show Steps p.tables e below (s₁.setTop (mkF m 30 #[.val (.int p1), .val (.int p2), .val (.int p3), .val (.int (own_b p1)), .unset, .unset, .unset] [(.int (p3 &&& (3 : Int32)))])) _
    refine XS.istore X0.here hx rfl (hb hby at_30) rfl (l' := #[.val (.int p1), .val (.int p2), .val (.int p3), .val (.int (own_b p1)), .val (.int (p3 &&& (3 : Int32))), .unset, .unset]) rfl ?_
    show Steps p.tables e below (s₁.setTop (mkF m 32 #[.val (.int p1), .val (.int p2), .val (.int p3), .val (.int (own_b p1)), .val (.int (p3 &&& (3 : Int32))), .unset, .unset] [])) _
    refine XS.iload X0.here hx rfl (hb hby at_32) rfl ?_
    show Steps p.tables e below (s₁.setTop (mkF m 34 #[.val (.int p1), .val (.int p2), .val (.int p3), .val (.int (own_b p1)), .val (.int (p3 &&& (3 : Int32))), .unset, .unset] [(.int (p3 &&& (3 : Int32)))])) _
    refine XS.ifYes X0.here hx rfl (pc0 := 34) (pc' := 43) rfl (hb hby at_34) rfl ((if0 _ _).trans (feq hc34).2) (by decide) (by decide) ?_
    show Steps p.tables e below (s₁.setTop (mkF m 43 #[.val (.int p1), .val (.int p2), .val (.int p3), .val (.int (own_b p1)), .val (.int (p3 &&& (3 : Int32))), .unset, .unset] [])) _
    refine XS.iload X0.here hx rfl (hb hby at_43) rfl ?_
    show Steps p.tables e below (s₁.setTop (mkF m 45 #[.val (.int p1), .val (.int p2), .val (.int p3), .val (.int (own_b p1)), .val (.int (p3 &&& (3 : Int32))), .unset, .unset] [(.int (p3 &&& (3 : Int32)))])) _
    refine XS.iconst X0.here hx rfl (hb hby at_45) ?_
    show Steps p.tables e below (s₁.setTop (mkF m 46 #[.val (.int p1), .val (.int p2), .val (.int p3), .val (.int (own_b p1)), .val (.int (p3 &&& (3 : Int32))), .unset, .unset] [(.int (1 : Int32)), (.int (p3 &&& (3 : Int32)))])) _
    refine XS.icmpYes X0.here hx rfl (pc0 := 46) (pc' := 55) rfl (hb hby at_46) rfl (feq hc46).2 (by decide) (by decide) ?_
    show Steps p.tables e below (s₁.setTop (mkF m 55 #[.val (.int p1), .val (.int p2), .val (.int p3), .val (.int (own_b p1)), .val (.int (p3 &&& (3 : Int32))), .unset, .unset] [])) _
    refine XS.iload X0.here hx rfl (hb hby at_55) rfl ?_
    show Steps p.tables e below (s₁.setTop (mkF m 57 #[.val (.int p1), .val (.int p2), .val (.int p3), .val (.int (own_b p1)), .val (.int (p3 &&& (3 : Int32))), .unset, .unset] [(.int (p3 &&& (3 : Int32)))])) _
    refine XS.iconst X0.here hx rfl (hb hby at_57) ?_
    show Steps p.tables e below (s₁.setTop (mkF m 58 #[.val (.int p1), .val (.int p2), .val (.int p3), .val (.int (own_b p1)), .val (.int (p3 &&& (3 : Int32))), .unset, .unset] [(.int (2 : Int32)), (.int (p3 &&& (3 : Int32)))])) _
    refine XS.icmpNo X0.here hx rfl (hb hby at_58) rfl (teq hc58).2 ?_
    show Steps p.tables e below (s₁.setTop (mkF m 61 #[.val (.int p1), .val (.int p2), .val (.int p3), .val (.int (own_b p1)), .val (.int (p3 &&& (3 : Int32))), .unset, .unset] [])) _
    refine XS.iloadN X0.here hx rfl (hb hby at_61) rfl ?_
    show Steps p.tables e below (s₁.setTop (mkF m 62 #[.val (.int p1), .val (.int p2), .val (.int p3), .val (.int (own_b p1)), .val (.int (p3 &&& (3 : Int32))), .unset, .unset] [(.int (own_b p1))])) _
    refine XS.iconst X0.here hx rfl (hb hby at_62) ?_
    show Steps p.tables e below (s₁.setTop (mkF m 63 #[.val (.int p1), .val (.int p2), .val (.int p3), .val (.int (own_b p1)), .val (.int (p3 &&& (3 : Int32))), .unset, .unset] [(.int (1 : Int32)), (.int (own_b p1))])) _
    refine XS.iloadN X0.here hx rfl (hb hby at_63) rfl ?_
    show Steps p.tables e below (s₁.setTop (mkF m 64 #[.val (.int p1), .val (.int p2), .val (.int p3), .val (.int (own_b p1)), .val (.int (p3 &&& (3 : Int32))), .unset, .unset] [(.int p2), (.int (1 : Int32)), (.int (own_b p1))])) _
    refine XS.bipush X0.here hx rfl (hb hby at_64) ?_
    show Steps p.tables e below (s₁.setTop (mkF m 66 #[.val (.int p1), .val (.int p2), .val (.int p3), .val (.int (own_b p1)), .val (.int (p3 &&& (3 : Int32))), .unset, .unset] [(.int (31 : Int32)), (.int p2), (.int (1 : Int32)), (.int (own_b p1))])) _
    refine XS.iand X0.here hx rfl (hb hby at_66) rfl ?_
    show Steps p.tables e below (s₁.setTop (mkF m 67 #[.val (.int p1), .val (.int p2), .val (.int p3), .val (.int (own_b p1)), .val (.int (p3 &&& (3 : Int32))), .unset, .unset] [(.int (p2 &&& (31 : Int32))), (.int (1 : Int32)), (.int (own_b p1))])) _
    refine XS.ishl X0.here hx rfl (hb hby at_67) rfl ?_
    show Steps p.tables e below (s₁.setTop (mkF m 68 #[.val (.int p1), .val (.int p2), .val (.int p3), .val (.int (own_b p1)), .val (.int (p3 &&& (3 : Int32))), .unset, .unset] [(.int ((1 : Int32) <<< ((p2 &&& (31 : Int32)) &&& 31))), (.int (own_b p1))])) _
    refine XS.ixor X0.here hx rfl (hb hby at_68) rfl ?_
    show Steps p.tables e below (s₁.setTop (mkF m 69 #[.val (.int p1), .val (.int p2), .val (.int p3), .val (.int (own_b p1)), .val (.int (p3 &&& (3 : Int32))), .unset, .unset] [(.int (own_x p1 p2))])) _
    refine XS.istore X0.here hx rfl (hb hby at_69) rfl (l' := #[.val (.int p1), .val (.int p2), .val (.int p3), .val (.int (own_b p1)), .val (.int (p3 &&& (3 : Int32))), .val (.int (own_x p1 p2)), .unset]) rfl ?_
    show Steps p.tables e below (s₁.setTop (mkF m 71 #[.val (.int p1), .val (.int p2), .val (.int p3), .val (.int (own_b p1)), .val (.int (p3 &&& (3 : Int32))), .val (.int (own_x p1 p2)), .unset] [])) _
    refine XS.goto X0.here hx rfl (pc0 := 71) (pc' := 77) rfl (hb hby at_71) (by decide) (by decide) ?_
    show Steps p.tables e below (s₁.setTop (mkF m 77 #[.val (.int p1), .val (.int p2), .val (.int p3), .val (.int (own_b p1)), .val (.int (p3 &&& (3 : Int32))), .val (.int (own_x p1 p2)), .unset] [])) _
    refine XS.iload X0.here hx rfl (hb hby at_77) rfl ?_
    show Steps p.tables e below (s₁.setTop (mkF m 79 #[.val (.int p1), .val (.int p2), .val (.int p3), .val (.int (own_b p1)), .val (.int (p3 &&& (3 : Int32))), .val (.int (own_x p1 p2)), .unset] [(.int (own_x p1 p2))])) _
    refine XS.bipush X0.here hx rfl (hb hby at_79) ?_
    show Steps p.tables e below (s₁.setTop (mkF m 81 #[.val (.int p1), .val (.int p2), .val (.int p3), .val (.int (own_b p1)), .val (.int (p3 &&& (3 : Int32))), .val (.int (own_x p1 p2)), .unset] [(.int (18 : Int32)), (.int (own_x p1 p2))])) _
    refine XS.iushr X0.here hx rfl (hb hby at_81) rfl ?_
    show Steps p.tables e below (s₁.setTop (mkF m 82 #[.val (.int p1), .val (.int p2), .val (.int p3), .val (.int (own_b p1)), .val (.int (p3 &&& (3 : Int32))), .val (.int (own_x p1 p2)), .unset] [(.int (((own_x p1 p2).toUInt32 >>> ((18 : Int32) &&& 31).toUInt32).toInt32))])) _
    refine XS.ifNo X0.here hx rfl (hb hby at_82) rfl ((if0 _ _).trans (teq hc82).2) ?_
    show Steps p.tables e below (s₁.setTop (mkF m 85 #[.val (.int p1), .val (.int p2), .val (.int p3), .val (.int (own_b p1)), .val (.int (p3 &&& (3 : Int32))), .val (.int (own_x p1 p2)), .unset] [])) _
    refine XS.iload X0.here hx rfl (hb hby at_85) rfl ?_
    show Steps p.tables e below (s₁.setTop (mkF m 87 #[.val (.int p1), .val (.int p2), .val (.int p3), .val (.int (own_b p1)), .val (.int (p3 &&& (3 : Int32))), .val (.int (own_x p1 p2)), .unset] [(.int (own_x p1 p2))])) _
    refine XS.bipush X0.here hx rfl (hb hby at_87) ?_
    show Steps p.tables e below (s₁.setTop (mkF m 89 #[.val (.int p1), .val (.int p2), .val (.int p3), .val (.int (own_b p1)), .val (.int (p3 &&& (3 : Int32))), .val (.int (own_x p1 p2)), .unset] [(.int (12 : Int32)), (.int (own_x p1 p2))])) _
    refine XS.iushr X0.here hx rfl (hb hby at_89) rfl ?_
    show Steps p.tables e below (s₁.setTop (mkF m 90 #[.val (.int p1), .val (.int p2), .val (.int p3), .val (.int (own_b p1)), .val (.int (p3 &&& (3 : Int32))), .val (.int (own_x p1 p2)), .unset] [(.int (((own_x p1 p2).toUInt32 >>> ((12 : Int32) &&& 31).toUInt32).toInt32))])) _
    refine XS.bipush X0.here hx rfl (hb hby at_90) ?_
    show Steps p.tables e below (s₁.setTop (mkF m 92 #[.val (.int p1), .val (.int p2), .val (.int p3), .val (.int (own_b p1)), .val (.int (p3 &&& (3 : Int32))), .val (.int (own_x p1 p2)), .unset] [(.int (7 : Int32)), (.int (((own_x p1 p2).toUInt32 >>> ((12 : Int32) &&& 31).toUInt32).toInt32))])) _
    refine XS.iand X0.here hx rfl (hb hby at_92) rfl ?_
    show Steps p.tables e below (s₁.setTop (mkF m 93 #[.val (.int p1), .val (.int p2), .val (.int p3), .val (.int (own_b p1)), .val (.int (p3 &&& (3 : Int32))), .val (.int (own_x p1 p2)), .unset] [(.int ((((own_x p1 p2).toUInt32 >>> ((12 : Int32) &&& 31).toUInt32).toInt32) &&& (7 : Int32)))])) _
    refine XS.ifNo X0.here hx rfl (hb hby at_93) rfl ((if0 _ _).trans (teq hc93).2) ?_
    show Steps p.tables e below (s₁.setTop (mkF m 96 #[.val (.int p1), .val (.int p2), .val (.int p3), .val (.int (own_b p1)), .val (.int (p3 &&& (3 : Int32))), .val (.int (own_x p1 p2)), .unset] [])) _
    refine XS.iloadN X0.here hx rfl (hb hby at_96) rfl ?_
    show Steps p.tables e below (s₁.setTop (mkF m 97 #[.val (.int p1), .val (.int p2), .val (.int p3), .val (.int (own_b p1)), .val (.int (p3 &&& (3 : Int32))), .val (.int (own_x p1 p2)), .unset] [(.int p1)])) _
    refine XS.bipush X0.here hx rfl (hb hby at_97) ?_
    show Steps p.tables e below (s₁.setTop (mkF m 99 #[.val (.int p1), .val (.int p2), .val (.int p3), .val (.int (own_b p1)), .val (.int (p3 &&& (3 : Int32))), .val (.int (own_x p1 p2)), .unset] [(.int (63 : Int32)), (.int p1)])) _
    refine XS.iand X0.here hx rfl (hb hby at_99) rfl ?_
    show Steps p.tables e below (s₁.setTop (mkF m 100 #[.val (.int p1), .val (.int p2), .val (.int p3), .val (.int (own_b p1)), .val (.int (p3 &&& (3 : Int32))), .val (.int (own_x p1 p2)), .unset] [(.int (p1 &&& (63 : Int32)))])) _
    refine XS.iload X0.here hx rfl (hb hby at_100) rfl ?_
    show Steps p.tables e below (s₁.setTop (mkF m 102 #[.val (.int p1), .val (.int p2), .val (.int p3), .val (.int (own_b p1)), .val (.int (p3 &&& (3 : Int32))), .val (.int (own_x p1 p2)), .unset] [(.int (own_x p1 p2)), (.int (p1 &&& (63 : Int32)))])) _
    refine XS.bipush X0.here hx rfl (hb hby at_102) ?_
    show Steps p.tables e below (s₁.setTop (mkF m 104 #[.val (.int p1), .val (.int p2), .val (.int p3), .val (.int (own_b p1)), .val (.int (p3 &&& (3 : Int32))), .val (.int (own_x p1 p2)), .unset] [(.int (63 : Int32)), (.int (own_x p1 p2)), (.int (p1 &&& (63 : Int32)))])) _
    refine XS.iand X0.here hx rfl (hb hby at_104) rfl ?_
    show Steps p.tables e below (s₁.setTop (mkF m 105 #[.val (.int p1), .val (.int p2), .val (.int p3), .val (.int (own_b p1)), .val (.int (p3 &&& (3 : Int32))), .val (.int (own_x p1 p2)), .unset] [(.int ((own_x p1 p2) &&& (63 : Int32))), (.int (p1 &&& (63 : Int32)))])) _
    refine XS.icmpYes X0.here hx rfl (pc0 := 105) (pc' := 148) rfl (hb hby at_105) rfl (feq hc105).2 (by decide) (by decide) ?_
    show Steps p.tables e below (s₁.setTop (mkF m 148 #[.val (.int p1), .val (.int p2), .val (.int p3), .val (.int (own_b p1)), .val (.int (p3 &&& (3 : Int32))), .val (.int (own_x p1 p2)), .unset] [])) _
    refine XS.iconst X0.here hx rfl (hb hby at_148) ?_
    show Steps p.tables e below (s₁.setTop (mkF m 149 #[.val (.int p1), .val (.int p2), .val (.int p3), .val (.int (own_b p1)), .val (.int (p3 &&& (3 : Int32))), .val (.int (own_x p1 p2)), .unset] [(.int (0 : Int32))])) _
    refine XS.istore X0.here hx rfl (hb hby at_149) rfl (l' := #[.val (.int p1), .val (.int p2), .val (.int p3), .val (.int (own_b p1)), .val (.int (p3 &&& (3 : Int32))), .val (.int (own_x p1 p2)), .val (.int (0 : Int32))]) rfl ?_
    show Steps p.tables e below (s₁.setTop (mkF m 151 #[.val (.int p1), .val (.int p2), .val (.int p3), .val (.int (own_b p1)), .val (.int (p3 &&& (3 : Int32))), .val (.int (own_x p1 p2)), .val (.int (0 : Int32))] [])) _
    refine XS.iloadN X0.here hx rfl (hb hby at_151) rfl ?_
    show Steps p.tables e below (s₁.setTop (mkF m 152 #[.val (.int p1), .val (.int p2), .val (.int p3), .val (.int (own_b p1)), .val (.int (p3 &&& (3 : Int32))), .val (.int (own_x p1 p2)), .val (.int (0 : Int32))] [(.int p1)])) _
    refine XS.iload X0.here hx rfl (hb hby at_152) rfl ?_
    show Steps p.tables e below (s₁.setTop (mkF m 154 #[.val (.int p1), .val (.int p2), .val (.int p3), .val (.int (own_b p1)), .val (.int (p3 &&& (3 : Int32))), .val (.int (own_x p1 p2)), .val (.int (0 : Int32))] [(.int (own_x p1 p2)), (.int p1)])) _
    refine st4 _ ?_
    show Steps p.tables e below (T4.setTop (mkF m 157 #[.val (.int p1), .val (.int p2), .val (.int p3), .val (.int (own_b p1)), .val (.int (p3 &&& (3 : Int32))), .val (.int (own_x p1 p2)), .val (.int (0 : Int32))] [(.int (val1 p1 (own_x p1 p2)))])) _
    refine XS.iload X4.here hx rfl (hb hby at_157) rfl ?_
    show Steps p.tables e below (T4.setTop (mkF m 159 #[.val (.int p1), .val (.int p2), .val (.int p3), .val (.int (own_b p1)), .val (.int (p3 &&& (3 : Int32))), .val (.int (own_x p1 p2)), .val (.int (0 : Int32))] [(.int (0 : Int32)), (.int (val1 p1 (own_x p1 p2)))])) _
    refine XS.icmpNo X4.here hx rfl (hb hby at_159) rfl (teq (by unfold val1; rw [if_neg (fun q => hc105 ((own_iff _ _).mp q).2.2.1)] : (val1 p1 (own_x p1 p2)) = (0 : Int32))).2 ?_
    show Steps p.tables e below (T4.setTop (mkF m 162 #[.val (.int p1), .val (.int p2), .val (.int p3), .val (.int (own_b p1)), .val (.int (p3 &&& (3 : Int32))), .val (.int (own_x p1 p2)), .val (.int (0 : Int32))] [])) _
    refine XS.iconst X4.here hx rfl (hb hby at_162) ?_
    show Steps p.tables e below (T4.setTop (mkF m 163 #[.val (.int p1), .val (.int p2), .val (.int p3), .val (.int (own_b p1)), .val (.int (p3 &&& (3 : Int32))), .val (.int (own_x p1 p2)), .val (.int (0 : Int32))] [(.int (1 : Int32))])) _
    refine XS.goto X4.here hx rfl (pc0 := 163) (pc' := 167) rfl (hb hby at_163) (by decide) (by decide) ?_
    show Steps p.tables e below (T4.setTop (mkF m 167 #[.val (.int p1), .val (.int p2), .val (.int p3), .val (.int (own_b p1)), .val (.int (p3 &&& (3 : Int32))), .val (.int (own_x p1 p2)), .val (.int (0 : Int32))] [(.int (1 : Int32))])) _
    exact retN X4 hx (t := .boolean) Bd.returns (by simp) (hb hby at_167) hr
  · show Q0 Z p1 p2 p3 h0 n0 _ T4.heap _
    exact ⟨rfl, N4⟩

set_option maxRecDepth 65536 in
set_option maxHeartbeats 40000000 in
theorem rm0_ttfffftf (l : Launch) (Z : State) (a0 : Array Value) (hw : ∀ d ∈ tables_1, d.before a0 Z = true) (ws : List Jvm.Cond) (p1 : Int32) (p2 : Int32) (p3 : Int32) (h0 : Heap) (n0 : Nat) (Z0 : n0 ≤ h0.size) (hc34 : ¬ ((p3 &&& (3 : Int32)) = (0 : Int32))) (hc46 : ¬ ((p3 &&& (3 : Int32)) = (1 : Int32))) (hc58 : (p3 &&& (3 : Int32)) = (2 : Int32)) (hc82 : (((own_x p1 p2).toUInt32 >>> ((18 : Int32) &&& 31).toUInt32).toInt32) = (0 : Int32)) (hc93 : ((((own_x p1 p2).toUInt32 >>> ((12 : Int32) &&& 31).toUInt32).toInt32) &&& (7 : Int32)) = (0 : Int32)) (hc105 : (p1 &&& (63 : Int32)) = ((own_x p1 p2) &&& (63 : Int32))) (hc123 : ¬ ((((p1.toUInt32 >>> ((6 : Int32) &&& 31).toUInt32).toInt32) &&& (63 : Int32)) = ((((own_x p1 p2).toUInt32 >>> ((6 : Int32) &&& 31).toUInt32).toInt32) &&& (63 : Int32)))) :
    MetFree l x (head1 (Jvm.Cond.code x code maxLocals ret :: ws) room_1) (fun a U => a = #[(.int p1), (.int p2), (.int p3)] ∧ Z.Warmed39 U.vm ∧ U.heap = h0) (fun _ _ _ _ _ => True) (fun _ U o U' => ∃ v L, o = .returned v ∧ Q0 Z p1 p2 p3 h0 n0 v U'.heap L ∧ FrameEnd U o U' L room_1.cells room_1.slots) := by
  refine MetFree.of_bodySF (plainFor_of_name pn_0) hisR ?_
  intro p e s m args below meth c s₁ Bd hml0 hP hK
  obtain ⟨rfl, hZ, hh⟩ := hP
  have hx := Bd.exec
  have hby := Bd.bytes
  have hml : c.maxLocals = 7 := hml0
  have hown : s.vm.findClass "touchmove/position/PackedMoveIsPinLaw" = some m.cls := findClass_of_methodNamed Bd.named
  have hnm := (name_of_methodNamed Bd.named Bd.method).1
  have X0 : Stand p l e room_1 s m #[(.int p1), (.int p2), (.int p3)] below meth c s₁ [] 0 0 := Stand.of_body Bd
  have e0 : s₁.heap = h0 := by rw [← hh, Bd.state]; rfl
  have N0 := Fr.nil n0
  have pre0 : ∀ t, Steps p.tables e below (s₁.setTop (mkF m 0 #[.val (.int p1), .val (.int p2), .val (.int p3), .unset, .unset, .unset, .unset] [])) t → Steps p.tables e below (s₁.setTop (entryFrame m #[(.int p1), (.int p2), (.int p3)] maxLocals)) t := fun t k => castTop (ef_0 m p1 p2 p3) k
  obtain ⟨_, _, ⟨T4, L4, k4, n4⟩, -, X4, ⟨Lc4, hQ4, l4, y4, z4⟩, st4⟩ := Jvm.LawKit.callS X0 hx (y := (⟨"touchmove/position/PackedMove", "is", "(II)Z"⟩ : MethodName)) hown (mvT hZ (hw _ (List.mem_of_getElem? (i := 0) rfl))) (mvT hZ (hw _ (List.mem_of_getElem? (i := 1) rfl))) (mvT hZ (hw _ (List.mem_of_getElem? (i := 2) rfl))) (mvT hZ (hw _ (List.mem_of_getElem? (i := 3) rfl))) (by decide) (backOf (W := 0) (rm1 l Z a0 hw [] p1 (own_x p1 p2) h0 n0 Z0) hZ (hw _ (List.mem_of_getElem? (i := 3) rfl)) (hw _ (List.mem_of_getElem? (i := 2) rfl)) (by decide) (by decide)) (g := (mkF m 154 #[.val (.int p1), .val (.int p2), .val (.int p3), .val (.int (own_b p1)), .val (.int (p3 &&& (3 : Int32))), .val (.int (own_x p1 p2)), .val (.int (0 : Int32))] [(.int (own_x p1 p2)), (.int p1)])) rfl (by rw [hml]; rfl) (argsL := [(.int p1), (.int (own_x p1 p2))]) (rest := []) (lenOf pd_0_0 rfl) rfl (by show 2 * 0 + _ ≤ _; exact Nat.le_of_eq rfl) (hb hby at_154) (fun _ _ => ⟨rfl, e0, (by decide : 0 + 0 ≤ _), (by decide : 0 + 0 ≤ _)⟩)
  dsimp only [Pt.U, Pt.locs, Pt.cells, Pt.slots] at X4 l4 y4 z4 st4 hQ4
  subst l4 y4 z4
  obtain ⟨rfl, N4q, w4⟩ := hQ4
  have N4 := Fr.app N0 N4q
  obtain ⟨fs, hr, hrun, hended, hW, hsame⟩ := X4.leave (v := some (.int (1 : Int32))) (fun h => by rw [Bd.returns] at h; cases h)
  refine ⟨_, _, pre0 _ ?_, hrun, hended, _, _, rfl, ?_, ⟨_, rfl⟩, hW, hsame.mono (by decide) (by decide)⟩
  · show Steps p.tables e below (s₁.setTop (mkF m 0 #[.val (.int p1), .val (.int p2), .val (.int p3), .unset, .unset, .unset, .unset] [])) _
    refine XS.iloadN X0.here hx rfl (hb hby at_0) rfl ?_
    show Steps p.tables e below (s₁.setTop (mkF m 1 #[.val (.int p1), .val (.int p2), .val (.int p3), .unset, .unset, .unset, .unset] [(.int p1)])) _
    refine XS.bipush X0.here hx rfl (hb hby at_1) ?_
    show Steps p.tables e below (s₁.setTop (mkF m 3 #[.val (.int p1), .val (.int p2), .val (.int p3), .unset, .unset, .unset, .unset] [(.int (63 : Int32)), (.int p1)])) _
    refine XS.iand X0.here hx rfl (hb hby at_3) rfl ?_
    show Steps p.tables e below (s₁.setTop (mkF m 4 #[.val (.int p1), .val (.int p2), .val (.int p3), .unset, .unset, .unset, .unset] [(.int (p1 &&& (63 : Int32)))])) _
    refine XS.iloadN X0.here hx rfl (hb hby at_4) rfl ?_
    show Steps p.tables e below (s₁.setTop (mkF m 5 #[.val (.int p1), .val (.int p2), .val (.int p3), .unset, .unset, .unset, .unset] [(.int p1), (.int (p1 &&& (63 : Int32)))])) _
    refine XS.bipush X0.here hx rfl (hb hby at_5) ?_
    show Steps p.tables e below (s₁.setTop (mkF m 7 #[.val (.int p1), .val (.int p2), .val (.int p3), .unset, .unset, .unset, .unset] [(.int (6 : Int32)), (.int p1), (.int (p1 &&& (63 : Int32)))])) _
    refine XS.iushr X0.here hx rfl (hb hby at_7) rfl ?_
    show Steps p.tables e below (s₁.setTop (mkF m 8 #[.val (.int p1), .val (.int p2), .val (.int p3), .unset, .unset, .unset, .unset] [(.int ((p1.toUInt32 >>> ((6 : Int32) &&& 31).toUInt32).toInt32)), (.int (p1 &&& (63 : Int32)))])) _
    refine XS.bipush X0.here hx rfl (hb hby at_8) ?_
    show Steps p.tables e below (s₁.setTop (mkF m 10 #[.val (.int p1), .val (.int p2), .val (.int p3), .unset, .unset, .unset, .unset] [(.int (63 : Int32)), (.int ((p1.toUInt32 >>> ((6 : Int32) &&& 31).toUInt32).toInt32)), (.int (p1 &&& (63 : Int32)))])) _
    refine XS.iand X0.here hx rfl (hb hby at_10) rfl ?_
    show Steps p.tables e below (s₁.setTop (mkF m 11 #[.val (.int p1), .val (.int p2), .val (.int p3), .unset, .unset, .unset, .unset] [(.int (((p1.toUInt32 >>> ((6 : Int32) &&& 31).toUInt32).toInt32) &&& (63 : Int32))), (.int (p1 &&& (63 : Int32)))])) _
    refine XS.bipush X0.here hx rfl (hb hby at_11) ?_
    show Steps p.tables e below (s₁.setTop (mkF m 13 #[.val (.int p1), .val (.int p2), .val (.int p3), .unset, .unset, .unset, .unset] [(.int (6 : Int32)), (.int (((p1.toUInt32 >>> ((6 : Int32) &&& 31).toUInt32).toInt32) &&& (63 : Int32))), (.int (p1 &&& (63 : Int32)))])) _
    refine XS.ishl X0.here hx rfl (hb hby at_13) rfl ?_
    show Steps p.tables e below (s₁.setTop (mkF m 14 #[.val (.int p1), .val (.int p2), .val (.int p3), .unset, .unset, .unset, .unset] [(.int ((((p1.toUInt32 >>> ((6 : Int32) &&& 31).toUInt32).toInt32) &&& (63 : Int32)) <<< ((6 : Int32) &&& 31))), (.int (p1 &&& (63 : Int32)))])) _
    refine XS.ior X0.here hx rfl (hb hby at_14) rfl ?_
    show Steps p.tables e below (s₁.setTop (mkF m 15 #[.val (.int p1), .val (.int p2), .val (.int p3), .unset, .unset, .unset, .unset] [(.int ((p1 &&& (63 : Int32)) ||| ((((p1.toUInt32 >>> ((6 : Int32) &&& 31).toUInt32).toInt32) &&& (63 : Int32)) <<< ((6 : Int32) &&& 31))))])) _
    refine XS.iloadN X0.here hx rfl (hb hby at_15) rfl ?_
    show Steps p.tables e below (s₁.setTop (mkF m 16 #[.val (.int p1), .val (.int p2), .val (.int p3), .unset, .unset, .unset, .unset] [(.int p1), (.int ((p1 &&& (63 : Int32)) ||| ((((p1.toUInt32 >>> ((6 : Int32) &&& 31).toUInt32).toInt32) &&& (63 : Int32)) <<< ((6 : Int32) &&& 31))))])) _
    refine XS.bipush X0.here hx rfl (hb hby at_16) ?_
    show Steps p.tables e below (s₁.setTop (mkF m 18 #[.val (.int p1), .val (.int p2), .val (.int p3), .unset, .unset, .unset, .unset] [(.int (15 : Int32)), (.int p1), (.int ((p1 &&& (63 : Int32)) ||| ((((p1.toUInt32 >>> ((6 : Int32) &&& 31).toUInt32).toInt32) &&& (63 : Int32)) <<< ((6 : Int32) &&& 31))))])) _
    refine XS.iushr X0.here hx rfl (hb hby at_18) rfl ?_
    show Steps p.tables e below (s₁.setTop (mkF m 19 #[.val (.int p1), .val (.int p2), .val (.int p3), .unset, .unset, .unset, .unset] [(.int ((p1.toUInt32 >>> ((15 : Int32) &&& 31).toUInt32).toInt32)), (.int ((p1 &&& (63 : Int32)) ||| ((((p1.toUInt32 >>> ((6 : Int32) &&& 31).toUInt32).toInt32) &&& (63 : Int32)) <<< ((6 : Int32) &&& 31))))])) _
    refine XS.bipush X0.here hx rfl (hb hby at_19) ?_
    show Steps p.tables e below (s₁.setTop (mkF m 21 #[.val (.int p1), .val (.int p2), .val (.int p3), .unset, .unset, .unset, .unset] [(.int (7 : Int32)), (.int ((p1.toUInt32 >>> ((15 : Int32) &&& 31).toUInt32).toInt32)), (.int ((p1 &&& (63 : Int32)) ||| ((((p1.toUInt32 >>> ((6 : Int32) &&& 31).toUInt32).toInt32) &&& (63 : Int32)) <<< ((6 : Int32) &&& 31))))])) _
    refine XS.iand X0.here hx rfl (hb hby at_21) rfl ?_
    show Steps p.tables e below (s₁.setTop (mkF m 22 #[.val (.int p1), .val (.int p2), .val (.int p3), .unset, .unset, .unset, .unset] [(.int (((p1.toUInt32 >>> ((15 : Int32) &&& 31).toUInt32).toInt32) &&& (7 : Int32))), (.int ((p1 &&& (63 : Int32)) ||| ((((p1.toUInt32 >>> ((6 : Int32) &&& 31).toUInt32).toInt32) &&& (63 : Int32)) <<< ((6 : Int32) &&& 31))))])) _
    refine XS.bipush X0.here hx rfl (hb hby at_22) ?_
    show Steps p.tables e below (s₁.setTop (mkF m 24 #[.val (.int p1), .val (.int p2), .val (.int p3), .unset, .unset, .unset, .unset] [(.int (15 : Int32)), (.int (((p1.toUInt32 >>> ((15 : Int32) &&& 31).toUInt32).toInt32) &&& (7 : Int32))), (.int ((p1 &&& (63 : Int32)) ||| ((((p1.toUInt32 >>> ((6 : Int32) &&& 31).toUInt32).toInt32) &&& (63 : Int32)) <<< ((6 : Int32) &&& 31))))])) _
    refine XS.ishl X0.here hx rfl (hb hby at_24) rfl ?_
    show Steps p.tables e below (s₁.setTop (mkF m 25 #[.val (.int p1), .val (.int p2), .val (.int p3), .unset, .unset, .unset, .unset] [(.int ((((p1.toUInt32 >>> ((15 : Int32) &&& 31).toUInt32).toInt32) &&& (7 : Int32)) <<< ((15 : Int32) &&& 31))), (.int ((p1 &&& (63 : Int32)) ||| ((((p1.toUInt32 >>> ((6 : Int32) &&& 31).toUInt32).toInt32) &&& (63 : Int32)) <<< ((6 : Int32) &&& 31))))])) _
    refine XS.ior X0.here hx rfl (hb hby at_25) rfl ?_
    show Steps p.tables e below (s₁.setTop (mkF m 26 #[.val (.int p1), .val (.int p2), .val (.int p3), .unset, .unset, .unset, .unset] [(.int (own_b p1))])) _
    refine XS.istoreN X0.here hx rfl (hb hby at_26) rfl (l' := #[.val (.int p1), .val (.int p2), .val (.int p3), .val (.int (own_b p1)), .unset, .unset, .unset]) rfl ?_
    show Steps p.tables e below (s₁.setTop (mkF m 27 #[.val (.int p1), .val (.int p2), .val (.int p3), .val (.int (own_b p1)), .unset, .unset, .unset] [])) _
    refine XS.iloadN X0.here hx rfl (hb hby at_27) rfl ?_
    show Steps p.tables e below (s₁.setTop (mkF m 28 #[.val (.int p1), .val (.int p2), .val (.int p3), .val (.int (own_b p1)), .unset, .unset, .unset] [(.int p3)])) _
    refine XS.iconst X0.here hx rfl (hb hby at_28) ?_
    show Steps p.tables e below (s₁.setTop (mkF m 29 #[.val (.int p1), .val (.int p2), .val (.int p3), .val (.int (own_b p1)), .unset, .unset, .unset] [(.int (3 : Int32)), (.int p3)])) _
    refine XS.iand X0.here hx rfl (hb hby at_29) rfl ?_
    show Steps p.tables e below (s₁.setTop (mkF m 30 #[.val (.int p1), .val (.int p2), .val (.int p3), .val (.int (own_b p1)), .unset, .unset, .unset] [(.int (p3 &&& (3 : Int32)))])) _
    refine XS.istore X0.here hx rfl (hb hby at_30) rfl (l' := #[.val (.int p1), .val (.int p2), .val (.int p3), .val (.int (own_b p1)), .val (.int (p3 &&& (3 : Int32))), .unset, .unset]) rfl ?_
    show Steps p.tables e below (s₁.setTop (mkF m 32 #[.val (.int p1), .val (.int p2), .val (.int p3), .val (.int (own_b p1)), .val (.int (p3 &&& (3 : Int32))), .unset, .unset] [])) _
    refine XS.iload X0.here hx rfl (hb hby at_32) rfl ?_
    show Steps p.tables e below (s₁.setTop (mkF m 34 #[.val (.int p1), .val (.int p2), .val (.int p3), .val (.int (own_b p1)), .val (.int (p3 &&& (3 : Int32))), .unset, .unset] [(.int (p3 &&& (3 : Int32)))])) _
    refine XS.ifYes X0.here hx rfl (pc0 := 34) (pc' := 43) rfl (hb hby at_34) rfl ((if0 _ _).trans (feq hc34).2) (by decide) (by decide) ?_
    show Steps p.tables e below (s₁.setTop (mkF m 43 #[.val (.int p1), .val (.int p2), .val (.int p3), .val (.int (own_b p1)), .val (.int (p3 &&& (3 : Int32))), .unset, .unset] [])) _
    refine XS.iload X0.here hx rfl (hb hby at_43) rfl ?_
    show Steps p.tables e below (s₁.setTop (mkF m 45 #[.val (.int p1), .val (.int p2), .val (.int p3), .val (.int (own_b p1)), .val (.int (p3 &&& (3 : Int32))), .unset, .unset] [(.int (p3 &&& (3 : Int32)))])) _
    refine XS.iconst X0.here hx rfl (hb hby at_45) ?_
    show Steps p.tables e below (s₁.setTop (mkF m 46 #[.val (.int p1), .val (.int p2), .val (.int p3), .val (.int (own_b p1)), .val (.int (p3 &&& (3 : Int32))), .unset, .unset] [(.int (1 : Int32)), (.int (p3 &&& (3 : Int32)))])) _
    refine XS.icmpYes X0.here hx rfl (pc0 := 46) (pc' := 55) rfl (hb hby at_46) rfl (feq hc46).2 (by decide) (by decide) ?_
    show Steps p.tables e below (s₁.setTop (mkF m 55 #[.val (.int p1), .val (.int p2), .val (.int p3), .val (.int (own_b p1)), .val (.int (p3 &&& (3 : Int32))), .unset, .unset] [])) _
    refine XS.iload X0.here hx rfl (hb hby at_55) rfl ?_
    show Steps p.tables e below (s₁.setTop (mkF m 57 #[.val (.int p1), .val (.int p2), .val (.int p3), .val (.int (own_b p1)), .val (.int (p3 &&& (3 : Int32))), .unset, .unset] [(.int (p3 &&& (3 : Int32)))])) _
    refine XS.iconst X0.here hx rfl (hb hby at_57) ?_
    show Steps p.tables e below (s₁.setTop (mkF m 58 #[.val (.int p1), .val (.int p2), .val (.int p3), .val (.int (own_b p1)), .val (.int (p3 &&& (3 : Int32))), .unset, .unset] [(.int (2 : Int32)), (.int (p3 &&& (3 : Int32)))])) _
    refine XS.icmpNo X0.here hx rfl (hb hby at_58) rfl (teq hc58).2 ?_
    show Steps p.tables e below (s₁.setTop (mkF m 61 #[.val (.int p1), .val (.int p2), .val (.int p3), .val (.int (own_b p1)), .val (.int (p3 &&& (3 : Int32))), .unset, .unset] [])) _
    refine XS.iloadN X0.here hx rfl (hb hby at_61) rfl ?_
    show Steps p.tables e below (s₁.setTop (mkF m 62 #[.val (.int p1), .val (.int p2), .val (.int p3), .val (.int (own_b p1)), .val (.int (p3 &&& (3 : Int32))), .unset, .unset] [(.int (own_b p1))])) _
    refine XS.iconst X0.here hx rfl (hb hby at_62) ?_
    show Steps p.tables e below (s₁.setTop (mkF m 63 #[.val (.int p1), .val (.int p2), .val (.int p3), .val (.int (own_b p1)), .val (.int (p3 &&& (3 : Int32))), .unset, .unset] [(.int (1 : Int32)), (.int (own_b p1))])) _
    refine XS.iloadN X0.here hx rfl (hb hby at_63) rfl ?_
    show Steps p.tables e below (s₁.setTop (mkF m 64 #[.val (.int p1), .val (.int p2), .val (.int p3), .val (.int (own_b p1)), .val (.int (p3 &&& (3 : Int32))), .unset, .unset] [(.int p2), (.int (1 : Int32)), (.int (own_b p1))])) _
    refine XS.bipush X0.here hx rfl (hb hby at_64) ?_
    show Steps p.tables e below (s₁.setTop (mkF m 66 #[.val (.int p1), .val (.int p2), .val (.int p3), .val (.int (own_b p1)), .val (.int (p3 &&& (3 : Int32))), .unset, .unset] [(.int (31 : Int32)), (.int p2), (.int (1 : Int32)), (.int (own_b p1))])) _
    refine XS.iand X0.here hx rfl (hb hby at_66) rfl ?_
    show Steps p.tables e below (s₁.setTop (mkF m 67 #[.val (.int p1), .val (.int p2), .val (.int p3), .val (.int (own_b p1)), .val (.int (p3 &&& (3 : Int32))), .unset, .unset] [(.int (p2 &&& (31 : Int32))), (.int (1 : Int32)), (.int (own_b p1))])) _
    refine XS.ishl X0.here hx rfl (hb hby at_67) rfl ?_
    show Steps p.tables e below (s₁.setTop (mkF m 68 #[.val (.int p1), .val (.int p2), .val (.int p3), .val (.int (own_b p1)), .val (.int (p3 &&& (3 : Int32))), .unset, .unset] [(.int ((1 : Int32) <<< ((p2 &&& (31 : Int32)) &&& 31))), (.int (own_b p1))])) _
    refine XS.ixor X0.here hx rfl (hb hby at_68) rfl ?_
    show Steps p.tables e below (s₁.setTop (mkF m 69 #[.val (.int p1), .val (.int p2), .val (.int p3), .val (.int (own_b p1)), .val (.int (p3 &&& (3 : Int32))), .unset, .unset] [(.int (own_x p1 p2))])) _
    refine XS.istore X0.here hx rfl (hb hby at_69) rfl (l' := #[.val (.int p1), .val (.int p2), .val (.int p3), .val (.int (own_b p1)), .val (.int (p3 &&& (3 : Int32))), .val (.int (own_x p1 p2)), .unset]) rfl ?_
    show Steps p.tables e below (s₁.setTop (mkF m 71 #[.val (.int p1), .val (.int p2), .val (.int p3), .val (.int (own_b p1)), .val (.int (p3 &&& (3 : Int32))), .val (.int (own_x p1 p2)), .unset] [])) _
    refine XS.goto X0.here hx rfl (pc0 := 71) (pc' := 77) rfl (hb hby at_71) (by decide) (by decide) ?_
    show Steps p.tables e below (s₁.setTop (mkF m 77 #[.val (.int p1), .val (.int p2), .val (.int p3), .val (.int (own_b p1)), .val (.int (p3 &&& (3 : Int32))), .val (.int (own_x p1 p2)), .unset] [])) _
    refine XS.iload X0.here hx rfl (hb hby at_77) rfl ?_
    show Steps p.tables e below (s₁.setTop (mkF m 79 #[.val (.int p1), .val (.int p2), .val (.int p3), .val (.int (own_b p1)), .val (.int (p3 &&& (3 : Int32))), .val (.int (own_x p1 p2)), .unset] [(.int (own_x p1 p2))])) _
    refine XS.bipush X0.here hx rfl (hb hby at_79) ?_
    show Steps p.tables e below (s₁.setTop (mkF m 81 #[.val (.int p1), .val (.int p2), .val (.int p3), .val (.int (own_b p1)), .val (.int (p3 &&& (3 : Int32))), .val (.int (own_x p1 p2)), .unset] [(.int (18 : Int32)), (.int (own_x p1 p2))])) _
    refine XS.iushr X0.here hx rfl (hb hby at_81) rfl ?_
    show Steps p.tables e below (s₁.setTop (mkF m 82 #[.val (.int p1), .val (.int p2), .val (.int p3), .val (.int (own_b p1)), .val (.int (p3 &&& (3 : Int32))), .val (.int (own_x p1 p2)), .unset] [(.int (((own_x p1 p2).toUInt32 >>> ((18 : Int32) &&& 31).toUInt32).toInt32))])) _
    refine XS.ifNo X0.here hx rfl (hb hby at_82) rfl ((if0 _ _).trans (teq hc82).2) ?_
    show Steps p.tables e below (s₁.setTop (mkF m 85 #[.val (.int p1), .val (.int p2), .val (.int p3), .val (.int (own_b p1)), .val (.int (p3 &&& (3 : Int32))), .val (.int (own_x p1 p2)), .unset] [])) _
    refine XS.iload X0.here hx rfl (hb hby at_85) rfl ?_
    show Steps p.tables e below (s₁.setTop (mkF m 87 #[.val (.int p1), .val (.int p2), .val (.int p3), .val (.int (own_b p1)), .val (.int (p3 &&& (3 : Int32))), .val (.int (own_x p1 p2)), .unset] [(.int (own_x p1 p2))])) _
    refine XS.bipush X0.here hx rfl (hb hby at_87) ?_
    show Steps p.tables e below (s₁.setTop (mkF m 89 #[.val (.int p1), .val (.int p2), .val (.int p3), .val (.int (own_b p1)), .val (.int (p3 &&& (3 : Int32))), .val (.int (own_x p1 p2)), .unset] [(.int (12 : Int32)), (.int (own_x p1 p2))])) _
    refine XS.iushr X0.here hx rfl (hb hby at_89) rfl ?_
    show Steps p.tables e below (s₁.setTop (mkF m 90 #[.val (.int p1), .val (.int p2), .val (.int p3), .val (.int (own_b p1)), .val (.int (p3 &&& (3 : Int32))), .val (.int (own_x p1 p2)), .unset] [(.int (((own_x p1 p2).toUInt32 >>> ((12 : Int32) &&& 31).toUInt32).toInt32))])) _
    refine XS.bipush X0.here hx rfl (hb hby at_90) ?_
    show Steps p.tables e below (s₁.setTop (mkF m 92 #[.val (.int p1), .val (.int p2), .val (.int p3), .val (.int (own_b p1)), .val (.int (p3 &&& (3 : Int32))), .val (.int (own_x p1 p2)), .unset] [(.int (7 : Int32)), (.int (((own_x p1 p2).toUInt32 >>> ((12 : Int32) &&& 31).toUInt32).toInt32))])) _
    refine XS.iand X0.here hx rfl (hb hby at_92) rfl ?_
    show Steps p.tables e below (s₁.setTop (mkF m 93 #[.val (.int p1), .val (.int p2), .val (.int p3), .val (.int (own_b p1)), .val (.int (p3 &&& (3 : Int32))), .val (.int (own_x p1 p2)), .unset] [(.int ((((own_x p1 p2).toUInt32 >>> ((12 : Int32) &&& 31).toUInt32).toInt32) &&& (7 : Int32)))])) _
    refine XS.ifNo X0.here hx rfl (hb hby at_93) rfl ((if0 _ _).trans (teq hc93).2) ?_
    show Steps p.tables e below (s₁.setTop (mkF m 96 #[.val (.int p1), .val (.int p2), .val (.int p3), .val (.int (own_b p1)), .val (.int (p3 &&& (3 : Int32))), .val (.int (own_x p1 p2)), .unset] [])) _
    refine XS.iloadN X0.here hx rfl (hb hby at_96) rfl ?_
    show Steps p.tables e below (s₁.setTop (mkF m 97 #[.val (.int p1), .val (.int p2), .val (.int p3), .val (.int (own_b p1)), .val (.int (p3 &&& (3 : Int32))), .val (.int (own_x p1 p2)), .unset] [(.int p1)])) _
    refine XS.bipush X0.here hx rfl (hb hby at_97) ?_
    show Steps p.tables e below (s₁.setTop (mkF m 99 #[.val (.int p1), .val (.int p2), .val (.int p3), .val (.int (own_b p1)), .val (.int (p3 &&& (3 : Int32))), .val (.int (own_x p1 p2)), .unset] [(.int (63 : Int32)), (.int p1)])) _
    refine XS.iand X0.here hx rfl (hb hby at_99) rfl ?_
    show Steps p.tables e below (s₁.setTop (mkF m 100 #[.val (.int p1), .val (.int p2), .val (.int p3), .val (.int (own_b p1)), .val (.int (p3 &&& (3 : Int32))), .val (.int (own_x p1 p2)), .unset] [(.int (p1 &&& (63 : Int32)))])) _
    refine XS.iload X0.here hx rfl (hb hby at_100) rfl ?_
    show Steps p.tables e below (s₁.setTop (mkF m 102 #[.val (.int p1), .val (.int p2), .val (.int p3), .val (.int (own_b p1)), .val (.int (p3 &&& (3 : Int32))), .val (.int (own_x p1 p2)), .unset] [(.int (own_x p1 p2)), (.int (p1 &&& (63 : Int32)))])) _
    refine XS.bipush X0.here hx rfl (hb hby at_102) ?_
    show Steps p.tables e below (s₁.setTop (mkF m 104 #[.val (.int p1), .val (.int p2), .val (.int p3), .val (.int (own_b p1)), .val (.int (p3 &&& (3 : Int32))), .val (.int (own_x p1 p2)), .unset] [(.int (63 : Int32)), (.int (own_x p1 p2)), (.int (p1 &&& (63 : Int32)))])) _
    refine XS.iand X0.here hx rfl (hb hby at_104) rfl ?_
    show Steps p.tables e below (s₁.setTop (mkF m 105 #[.val (.int p1), .val (.int p2), .val (.int p3), .val (.int (own_b p1)), .val (.int (p3 &&& (3 : Int32))), .val (.int (own_x p1 p2)), .unset] [(.int ((own_x p1 p2) &&& (63 : Int32))), (.int (p1 &&& (63 : Int32)))])) _
    refine XS.icmpNo X0.here hx rfl (hb hby at_105) rfl (teq hc105).2 ?_
    show Steps p.tables e below (s₁.setTop (mkF m 108 #[.val (.int p1), .val (.int p2), .val (.int p3), .val (.int (own_b p1)), .val (.int (p3 &&& (3 : Int32))), .val (.int (own_x p1 p2)), .unset] [])) _
    refine XS.iloadN X0.here hx rfl (hb hby at_108) rfl ?_
    show Steps p.tables e below (s₁.setTop (mkF m 109 #[.val (.int p1), .val (.int p2), .val (.int p3), .val (.int (own_b p1)), .val (.int (p3 &&& (3 : Int32))), .val (.int (own_x p1 p2)), .unset] [(.int p1)])) _
    refine XS.bipush X0.here hx rfl (hb hby at_109) ?_
    show Steps p.tables e below (s₁.setTop (mkF m 111 #[.val (.int p1), .val (.int p2), .val (.int p3), .val (.int (own_b p1)), .val (.int (p3 &&& (3 : Int32))), .val (.int (own_x p1 p2)), .unset] [(.int (6 : Int32)), (.int p1)])) _
    refine XS.iushr X0.here hx rfl (hb hby at_111) rfl ?_
    show Steps p.tables e below (s₁.setTop (mkF m 112 #[.val (.int p1), .val (.int p2), .val (.int p3), .val (.int (own_b p1)), .val (.int (p3 &&& (3 : Int32))), .val (.int (own_x p1 p2)), .unset] [(.int ((p1.toUInt32 >>> ((6 : Int32) &&& 31).toUInt32).toInt32))])) _
    refine XS.bipush X0.here hx rfl (hb hby at_112) ?_
    show Steps p.tables e below (s₁.setTop (mkF m 114 #[.val (.int p1), .val (.int p2), .val (.int p3), .val (.int (own_b p1)), .val (.int (p3 &&& (3 : Int32))), .val (.int (own_x p1 p2)), .unset] [(.int (63 : Int32)), (.int ((p1.toUInt32 >>> ((6 : Int32) &&& 31).toUInt32).toInt32))])) _
    refine XS.iand X0.here hx rfl (hb hby at_114) rfl ?_
    show Steps p.tables e below (s₁.setTop (mkF m 115 #[.val (.int p1), .val (.int p2), .val (.int p3), .val (.int (own_b p1)), .val (.int (p3 &&& (3 : Int32))), .val (.int (own_x p1 p2)), .unset] [(.int (((p1.toUInt32 >>> ((6 : Int32) &&& 31).toUInt32).toInt32) &&& (63 : Int32)))])) _
    refine XS.iload X0.here hx rfl (hb hby at_115) rfl ?_
    show Steps p.tables e below (s₁.setTop (mkF m 117 #[.val (.int p1), .val (.int p2), .val (.int p3), .val (.int (own_b p1)), .val (.int (p3 &&& (3 : Int32))), .val (.int (own_x p1 p2)), .unset] [(.int (own_x p1 p2)), (.int (((p1.toUInt32 >>> ((6 : Int32) &&& 31).toUInt32).toInt32) &&& (63 : Int32)))])) _
    refine XS.bipush X0.here hx rfl (hb hby at_117) ?_
    show Steps p.tables e below (s₁.setTop (mkF m 119 #[.val (.int p1), .val (.int p2), .val (.int p3), .val (.int (own_b p1)), .val (.int (p3 &&& (3 : Int32))), .val (.int (own_x p1 p2)), .unset] [(.int (6 : Int32)), (.int (own_x p1 p2)), (.int (((p1.toUInt32 >>> ((6 : Int32) &&& 31).toUInt32).toInt32) &&& (63 : Int32)))])) _
    refine XS.iushr X0.here hx rfl (hb hby at_119) rfl ?_
    show Steps p.tables e below (s₁.setTop (mkF m 120 #[.val (.int p1), .val (.int p2), .val (.int p3), .val (.int (own_b p1)), .val (.int (p3 &&& (3 : Int32))), .val (.int (own_x p1 p2)), .unset] [(.int (((own_x p1 p2).toUInt32 >>> ((6 : Int32) &&& 31).toUInt32).toInt32)), (.int (((p1.toUInt32 >>> ((6 : Int32) &&& 31).toUInt32).toInt32) &&& (63 : Int32)))])) _
    refine XS.bipush X0.here hx rfl (hb hby at_120) ?_
    show Steps p.tables e below (s₁.setTop (mkF m 122 #[.val (.int p1), .val (.int p2), .val (.int p3), .val (.int (own_b p1)), .val (.int (p3 &&& (3 : Int32))), .val (.int (own_x p1 p2)), .unset] [(.int (63 : Int32)), (.int (((own_x p1 p2).toUInt32 >>> ((6 : Int32) &&& 31).toUInt32).toInt32)), (.int (((p1.toUInt32 >>> ((6 : Int32) &&& 31).toUInt32).toInt32) &&& (63 : Int32)))])) _
    refine XS.iand X0.here hx rfl (hb hby at_122) rfl ?_
    show Steps p.tables e below (s₁.setTop (mkF m 123 #[.val (.int p1), .val (.int p2), .val (.int p3), .val (.int (own_b p1)), .val (.int (p3 &&& (3 : Int32))), .val (.int (own_x p1 p2)), .unset] [(.int ((((own_x p1 p2).toUInt32 >>> ((6 : Int32) &&& 31).toUInt32).toInt32) &&& (63 : Int32))), (.int (((p1.toUInt32 >>> ((6 : Int32) &&& 31).toUInt32).toInt32) &&& (63 : Int32)))])) _
    refine XS.icmpYes X0.here hx rfl (pc0 := 123) (pc' := 148) rfl (hb hby at_123) rfl (feq hc123).2 (by decide) (by decide) ?_
    show Steps p.tables e below (s₁.setTop (mkF m 148 #[.val (.int p1), .val (.int p2), .val (.int p3), .val (.int (own_b p1)), .val (.int (p3 &&& (3 : Int32))), .val (.int (own_x p1 p2)), .unset] [])) _
    refine XS.iconst X0.here hx rfl (hb hby at_148) ?_
    show Steps p.tables e below (s₁.setTop (mkF m 149 #[.val (.int p1), .val (.int p2), .val (.int p3), .val (.int (own_b p1)), .val (.int (p3 &&& (3 : Int32))), .val (.int (own_x p1 p2)), .unset] [(.int (0 : Int32))])) _
    refine XS.istore X0.here hx rfl (hb hby at_149) rfl (l' := #[.val (.int p1), .val (.int p2), .val (.int p3), .val (.int (own_b p1)), .val (.int (p3 &&& (3 : Int32))), .val (.int (own_x p1 p2)), .val (.int (0 : Int32))]) rfl ?_
    show Steps p.tables e below (s₁.setTop (mkF m 151 #[.val (.int p1), .val (.int p2), .val (.int p3), .val (.int (own_b p1)), .val (.int (p3 &&& (3 : Int32))), .val (.int (own_x p1 p2)), .val (.int (0 : Int32))] [])) _
    refine XS.iloadN X0.here hx rfl (hb hby at_151) rfl ?_
    show Steps p.tables e below (s₁.setTop (mkF m 152 #[.val (.int p1), .val (.int p2), .val (.int p3), .val (.int (own_b p1)), .val (.int (p3 &&& (3 : Int32))), .val (.int (own_x p1 p2)), .val (.int (0 : Int32))] [(.int p1)])) _
    refine XS.iload X0.here hx rfl (hb hby at_152) rfl ?_
    show Steps p.tables e below (s₁.setTop (mkF m 154 #[.val (.int p1), .val (.int p2), .val (.int p3), .val (.int (own_b p1)), .val (.int (p3 &&& (3 : Int32))), .val (.int (own_x p1 p2)), .val (.int (0 : Int32))] [(.int (own_x p1 p2)), (.int p1)])) _
    refine st4 _ ?_
    show Steps p.tables e below (T4.setTop (mkF m 157 #[.val (.int p1), .val (.int p2), .val (.int p3), .val (.int (own_b p1)), .val (.int (p3 &&& (3 : Int32))), .val (.int (own_x p1 p2)), .val (.int (0 : Int32))] [(.int (val1 p1 (own_x p1 p2)))])) _
    refine XS.iload X4.here hx rfl (hb hby at_157) rfl ?_
    show Steps p.tables e below (T4.setTop (mkF m 159 #[.val (.int p1), .val (.int p2), .val (.int p3), .val (.int (own_b p1)), .val (.int (p3 &&& (3 : Int32))), .val (.int (own_x p1 p2)), .val (.int (0 : Int32))] [(.int (0 : Int32)), (.int (val1 p1 (own_x p1 p2)))])) _
    refine XS.icmpNo X4.here hx rfl (hb hby at_159) rfl (teq (by unfold val1; rw [if_neg (fun q => hc123 ((own_iff _ _).mp q).2.2.2.1)] : (val1 p1 (own_x p1 p2)) = (0 : Int32))).2 ?_
    show Steps p.tables e below (T4.setTop (mkF m 162 #[.val (.int p1), .val (.int p2), .val (.int p3), .val (.int (own_b p1)), .val (.int (p3 &&& (3 : Int32))), .val (.int (own_x p1 p2)), .val (.int (0 : Int32))] [])) _
    refine XS.iconst X4.here hx rfl (hb hby at_162) ?_
    show Steps p.tables e below (T4.setTop (mkF m 163 #[.val (.int p1), .val (.int p2), .val (.int p3), .val (.int (own_b p1)), .val (.int (p3 &&& (3 : Int32))), .val (.int (own_x p1 p2)), .val (.int (0 : Int32))] [(.int (1 : Int32))])) _
    refine XS.goto X4.here hx rfl (pc0 := 163) (pc' := 167) rfl (hb hby at_163) (by decide) (by decide) ?_
    show Steps p.tables e below (T4.setTop (mkF m 167 #[.val (.int p1), .val (.int p2), .val (.int p3), .val (.int (own_b p1)), .val (.int (p3 &&& (3 : Int32))), .val (.int (own_x p1 p2)), .val (.int (0 : Int32))] [(.int (1 : Int32))])) _
    exact retN X4 hx (t := .boolean) Bd.returns (by simp) (hb hby at_167) hr
  · show Q0 Z p1 p2 p3 h0 n0 _ T4.heap _
    exact ⟨rfl, N4⟩

set_option maxRecDepth 65536 in
set_option maxHeartbeats 40000000 in
theorem rm0_ttffffftf (l : Launch) (Z : State) (a0 : Array Value) (hw : ∀ d ∈ tables_1, d.before a0 Z = true) (ws : List Jvm.Cond) (p1 : Int32) (p2 : Int32) (p3 : Int32) (h0 : Heap) (n0 : Nat) (Z0 : n0 ≤ h0.size) (hc34 : ¬ ((p3 &&& (3 : Int32)) = (0 : Int32))) (hc46 : ¬ ((p3 &&& (3 : Int32)) = (1 : Int32))) (hc58 : (p3 &&& (3 : Int32)) = (2 : Int32)) (hc82 : (((own_x p1 p2).toUInt32 >>> ((18 : Int32) &&& 31).toUInt32).toInt32) = (0 : Int32)) (hc93 : ((((own_x p1 p2).toUInt32 >>> ((12 : Int32) &&& 31).toUInt32).toInt32) &&& (7 : Int32)) = (0 : Int32)) (hc105 : (p1 &&& (63 : Int32)) = ((own_x p1 p2) &&& (63 : Int32))) (hc123 : (((p1.toUInt32 >>> ((6 : Int32) &&& 31).toUInt32).toInt32) &&& (63 : Int32)) = ((((own_x p1 p2).toUInt32 >>> ((6 : Int32) &&& 31).toUInt32).toInt32) &&& (63 : Int32))) (hc141 : ¬ ((((p1.toUInt32 >>> ((15 : Int32) &&& 31).toUInt32).toInt32) &&& (7 : Int32)) = ((((own_x p1 p2).toUInt32 >>> ((15 : Int32) &&& 31).toUInt32).toInt32) &&& (7 : Int32)))) :
    MetFree l x (head1 (Jvm.Cond.code x code maxLocals ret :: ws) room_1) (fun a U => a = #[(.int p1), (.int p2), (.int p3)] ∧ Z.Warmed39 U.vm ∧ U.heap = h0) (fun _ _ _ _ _ => True) (fun _ U o U' => ∃ v L, o = .returned v ∧ Q0 Z p1 p2 p3 h0 n0 v U'.heap L ∧ FrameEnd U o U' L room_1.cells room_1.slots) := by
  refine MetFree.of_bodySF (plainFor_of_name pn_0) hisR ?_
  intro p e s m args below meth c s₁ Bd hml0 hP hK
  obtain ⟨rfl, hZ, hh⟩ := hP
  have hx := Bd.exec
  have hby := Bd.bytes
  have hml : c.maxLocals = 7 := hml0
  have hown : s.vm.findClass "touchmove/position/PackedMoveIsPinLaw" = some m.cls := findClass_of_methodNamed Bd.named
  have hnm := (name_of_methodNamed Bd.named Bd.method).1
  have X0 : Stand p l e room_1 s m #[(.int p1), (.int p2), (.int p3)] below meth c s₁ [] 0 0 := Stand.of_body Bd
  have e0 : s₁.heap = h0 := by rw [← hh, Bd.state]; rfl
  have N0 := Fr.nil n0
  have pre0 : ∀ t, Steps p.tables e below (s₁.setTop (mkF m 0 #[.val (.int p1), .val (.int p2), .val (.int p3), .unset, .unset, .unset, .unset] [])) t → Steps p.tables e below (s₁.setTop (entryFrame m #[(.int p1), (.int p2), (.int p3)] maxLocals)) t := fun t k => castTop (ef_0 m p1 p2 p3) k
  obtain ⟨_, _, ⟨T4, L4, k4, n4⟩, -, X4, ⟨Lc4, hQ4, l4, y4, z4⟩, st4⟩ := Jvm.LawKit.callS X0 hx (y := (⟨"touchmove/position/PackedMove", "is", "(II)Z"⟩ : MethodName)) hown (mvT hZ (hw _ (List.mem_of_getElem? (i := 0) rfl))) (mvT hZ (hw _ (List.mem_of_getElem? (i := 1) rfl))) (mvT hZ (hw _ (List.mem_of_getElem? (i := 2) rfl))) (mvT hZ (hw _ (List.mem_of_getElem? (i := 3) rfl))) (by decide) (backOf (W := 0) (rm1 l Z a0 hw [] p1 (own_x p1 p2) h0 n0 Z0) hZ (hw _ (List.mem_of_getElem? (i := 3) rfl)) (hw _ (List.mem_of_getElem? (i := 2) rfl)) (by decide) (by decide)) (g := (mkF m 154 #[.val (.int p1), .val (.int p2), .val (.int p3), .val (.int (own_b p1)), .val (.int (p3 &&& (3 : Int32))), .val (.int (own_x p1 p2)), .val (.int (0 : Int32))] [(.int (own_x p1 p2)), (.int p1)])) rfl (by rw [hml]; rfl) (argsL := [(.int p1), (.int (own_x p1 p2))]) (rest := []) (lenOf pd_0_0 rfl) rfl (by show 2 * 0 + _ ≤ _; exact Nat.le_of_eq rfl) (hb hby at_154) (fun _ _ => ⟨rfl, e0, (by decide : 0 + 0 ≤ _), (by decide : 0 + 0 ≤ _)⟩)
  dsimp only [Pt.U, Pt.locs, Pt.cells, Pt.slots] at X4 l4 y4 z4 st4 hQ4
  subst l4 y4 z4
  obtain ⟨rfl, N4q, w4⟩ := hQ4
  have N4 := Fr.app N0 N4q
  obtain ⟨fs, hr, hrun, hended, hW, hsame⟩ := X4.leave (v := some (.int (1 : Int32))) (fun h => by rw [Bd.returns] at h; cases h)
  refine ⟨_, _, pre0 _ ?_, hrun, hended, _, _, rfl, ?_, ⟨_, rfl⟩, hW, hsame.mono (by decide) (by decide)⟩
  · show Steps p.tables e below (s₁.setTop (mkF m 0 #[.val (.int p1), .val (.int p2), .val (.int p3), .unset, .unset, .unset, .unset] [])) _
    refine XS.iloadN X0.here hx rfl (hb hby at_0) rfl ?_
    show Steps p.tables e below (s₁.setTop (mkF m 1 #[.val (.int p1), .val (.int p2), .val (.int p3), .unset, .unset, .unset, .unset] [(.int p1)])) _
    refine XS.bipush X0.here hx rfl (hb hby at_1) ?_
    show Steps p.tables e below (s₁.setTop (mkF m 3 #[.val (.int p1), .val (.int p2), .val (.int p3), .unset, .unset, .unset, .unset] [(.int (63 : Int32)), (.int p1)])) _
    refine XS.iand X0.here hx rfl (hb hby at_3) rfl ?_
    show Steps p.tables e below (s₁.setTop (mkF m 4 #[.val (.int p1), .val (.int p2), .val (.int p3), .unset, .unset, .unset, .unset] [(.int (p1 &&& (63 : Int32)))])) _
    refine XS.iloadN X0.here hx rfl (hb hby at_4) rfl ?_
    show Steps p.tables e below (s₁.setTop (mkF m 5 #[.val (.int p1), .val (.int p2), .val (.int p3), .unset, .unset, .unset, .unset] [(.int p1), (.int (p1 &&& (63 : Int32)))])) _
    refine XS.bipush X0.here hx rfl (hb hby at_5) ?_
    show Steps p.tables e below (s₁.setTop (mkF m 7 #[.val (.int p1), .val (.int p2), .val (.int p3), .unset, .unset, .unset, .unset] [(.int (6 : Int32)), (.int p1), (.int (p1 &&& (63 : Int32)))])) _
    refine XS.iushr X0.here hx rfl (hb hby at_7) rfl ?_
    show Steps p.tables e below (s₁.setTop (mkF m 8 #[.val (.int p1), .val (.int p2), .val (.int p3), .unset, .unset, .unset, .unset] [(.int ((p1.toUInt32 >>> ((6 : Int32) &&& 31).toUInt32).toInt32)), (.int (p1 &&& (63 : Int32)))])) _
    refine XS.bipush X0.here hx rfl (hb hby at_8) ?_
    show Steps p.tables e below (s₁.setTop (mkF m 10 #[.val (.int p1), .val (.int p2), .val (.int p3), .unset, .unset, .unset, .unset] [(.int (63 : Int32)), (.int ((p1.toUInt32 >>> ((6 : Int32) &&& 31).toUInt32).toInt32)), (.int (p1 &&& (63 : Int32)))])) _
    refine XS.iand X0.here hx rfl (hb hby at_10) rfl ?_
    show Steps p.tables e below (s₁.setTop (mkF m 11 #[.val (.int p1), .val (.int p2), .val (.int p3), .unset, .unset, .unset, .unset] [(.int (((p1.toUInt32 >>> ((6 : Int32) &&& 31).toUInt32).toInt32) &&& (63 : Int32))), (.int (p1 &&& (63 : Int32)))])) _
    refine XS.bipush X0.here hx rfl (hb hby at_11) ?_
    show Steps p.tables e below (s₁.setTop (mkF m 13 #[.val (.int p1), .val (.int p2), .val (.int p3), .unset, .unset, .unset, .unset] [(.int (6 : Int32)), (.int (((p1.toUInt32 >>> ((6 : Int32) &&& 31).toUInt32).toInt32) &&& (63 : Int32))), (.int (p1 &&& (63 : Int32)))])) _
    refine XS.ishl X0.here hx rfl (hb hby at_13) rfl ?_
    show Steps p.tables e below (s₁.setTop (mkF m 14 #[.val (.int p1), .val (.int p2), .val (.int p3), .unset, .unset, .unset, .unset] [(.int ((((p1.toUInt32 >>> ((6 : Int32) &&& 31).toUInt32).toInt32) &&& (63 : Int32)) <<< ((6 : Int32) &&& 31))), (.int (p1 &&& (63 : Int32)))])) _
    refine XS.ior X0.here hx rfl (hb hby at_14) rfl ?_
    show Steps p.tables e below (s₁.setTop (mkF m 15 #[.val (.int p1), .val (.int p2), .val (.int p3), .unset, .unset, .unset, .unset] [(.int ((p1 &&& (63 : Int32)) ||| ((((p1.toUInt32 >>> ((6 : Int32) &&& 31).toUInt32).toInt32) &&& (63 : Int32)) <<< ((6 : Int32) &&& 31))))])) _
    refine XS.iloadN X0.here hx rfl (hb hby at_15) rfl ?_
    show Steps p.tables e below (s₁.setTop (mkF m 16 #[.val (.int p1), .val (.int p2), .val (.int p3), .unset, .unset, .unset, .unset] [(.int p1), (.int ((p1 &&& (63 : Int32)) ||| ((((p1.toUInt32 >>> ((6 : Int32) &&& 31).toUInt32).toInt32) &&& (63 : Int32)) <<< ((6 : Int32) &&& 31))))])) _
    refine XS.bipush X0.here hx rfl (hb hby at_16) ?_
    show Steps p.tables e below (s₁.setTop (mkF m 18 #[.val (.int p1), .val (.int p2), .val (.int p3), .unset, .unset, .unset, .unset] [(.int (15 : Int32)), (.int p1), (.int ((p1 &&& (63 : Int32)) ||| ((((p1.toUInt32 >>> ((6 : Int32) &&& 31).toUInt32).toInt32) &&& (63 : Int32)) <<< ((6 : Int32) &&& 31))))])) _
    refine XS.iushr X0.here hx rfl (hb hby at_18) rfl ?_
    show Steps p.tables e below (s₁.setTop (mkF m 19 #[.val (.int p1), .val (.int p2), .val (.int p3), .unset, .unset, .unset, .unset] [(.int ((p1.toUInt32 >>> ((15 : Int32) &&& 31).toUInt32).toInt32)), (.int ((p1 &&& (63 : Int32)) ||| ((((p1.toUInt32 >>> ((6 : Int32) &&& 31).toUInt32).toInt32) &&& (63 : Int32)) <<< ((6 : Int32) &&& 31))))])) _
    refine XS.bipush X0.here hx rfl (hb hby at_19) ?_
    show Steps p.tables e below (s₁.setTop (mkF m 21 #[.val (.int p1), .val (.int p2), .val (.int p3), .unset, .unset, .unset, .unset] [(.int (7 : Int32)), (.int ((p1.toUInt32 >>> ((15 : Int32) &&& 31).toUInt32).toInt32)), (.int ((p1 &&& (63 : Int32)) ||| ((((p1.toUInt32 >>> ((6 : Int32) &&& 31).toUInt32).toInt32) &&& (63 : Int32)) <<< ((6 : Int32) &&& 31))))])) _
    refine XS.iand X0.here hx rfl (hb hby at_21) rfl ?_
    show Steps p.tables e below (s₁.setTop (mkF m 22 #[.val (.int p1), .val (.int p2), .val (.int p3), .unset, .unset, .unset, .unset] [(.int (((p1.toUInt32 >>> ((15 : Int32) &&& 31).toUInt32).toInt32) &&& (7 : Int32))), (.int ((p1 &&& (63 : Int32)) ||| ((((p1.toUInt32 >>> ((6 : Int32) &&& 31).toUInt32).toInt32) &&& (63 : Int32)) <<< ((6 : Int32) &&& 31))))])) _
    refine XS.bipush X0.here hx rfl (hb hby at_22) ?_
    show Steps p.tables e below (s₁.setTop (mkF m 24 #[.val (.int p1), .val (.int p2), .val (.int p3), .unset, .unset, .unset, .unset] [(.int (15 : Int32)), (.int (((p1.toUInt32 >>> ((15 : Int32) &&& 31).toUInt32).toInt32) &&& (7 : Int32))), (.int ((p1 &&& (63 : Int32)) ||| ((((p1.toUInt32 >>> ((6 : Int32) &&& 31).toUInt32).toInt32) &&& (63 : Int32)) <<< ((6 : Int32) &&& 31))))])) _
    refine XS.ishl X0.here hx rfl (hb hby at_24) rfl ?_
    show Steps p.tables e below (s₁.setTop (mkF m 25 #[.val (.int p1), .val (.int p2), .val (.int p3), .unset, .unset, .unset, .unset] [(.int ((((p1.toUInt32 >>> ((15 : Int32) &&& 31).toUInt32).toInt32) &&& (7 : Int32)) <<< ((15 : Int32) &&& 31))), (.int ((p1 &&& (63 : Int32)) ||| ((((p1.toUInt32 >>> ((6 : Int32) &&& 31).toUInt32).toInt32) &&& (63 : Int32)) <<< ((6 : Int32) &&& 31))))])) _
    refine XS.ior X0.here hx rfl (hb hby at_25) rfl ?_
    show Steps p.tables e below (s₁.setTop (mkF m 26 #[.val (.int p1), .val (.int p2), .val (.int p3), .unset, .unset, .unset, .unset] [(.int (own_b p1))])) _
    refine XS.istoreN X0.here hx rfl (hb hby at_26) rfl (l' := #[.val (.int p1), .val (.int p2), .val (.int p3), .val (.int (own_b p1)), .unset, .unset, .unset]) rfl ?_
    show Steps p.tables e below (s₁.setTop (mkF m 27 #[.val (.int p1), .val (.int p2), .val (.int p3), .val (.int (own_b p1)), .unset, .unset, .unset] [])) _
    refine XS.iloadN X0.here hx rfl (hb hby at_27) rfl ?_
    show Steps p.tables e below (s₁.setTop (mkF m 28 #[.val (.int p1), .val (.int p2), .val (.int p3), .val (.int (own_b p1)), .unset, .unset, .unset] [(.int p3)])) _
    refine XS.iconst X0.here hx rfl (hb hby at_28) ?_
    show Steps p.tables e below (s₁.setTop (mkF m 29 #[.val (.int p1), .val (.int p2), .val (.int p3), .val (.int (own_b p1)), .unset, .unset, .unset] [(.int (3 : Int32)), (.int p3)])) _
    refine XS.iand X0.here hx rfl (hb hby at_29) rfl ?_
    show Steps p.tables e below (s₁.setTop (mkF m 30 #[.val (.int p1), .val (.int p2), .val (.int p3), .val (.int (own_b p1)), .unset, .unset, .unset] [(.int (p3 &&& (3 : Int32)))])) _
    refine XS.istore X0.here hx rfl (hb hby at_30) rfl (l' := #[.val (.int p1), .val (.int p2), .val (.int p3), .val (.int (own_b p1)), .val (.int (p3 &&& (3 : Int32))), .unset, .unset]) rfl ?_
    show Steps p.tables e below (s₁.setTop (mkF m 32 #[.val (.int p1), .val (.int p2), .val (.int p3), .val (.int (own_b p1)), .val (.int (p3 &&& (3 : Int32))), .unset, .unset] [])) _
    refine XS.iload X0.here hx rfl (hb hby at_32) rfl ?_
    show Steps p.tables e below (s₁.setTop (mkF m 34 #[.val (.int p1), .val (.int p2), .val (.int p3), .val (.int (own_b p1)), .val (.int (p3 &&& (3 : Int32))), .unset, .unset] [(.int (p3 &&& (3 : Int32)))])) _
    refine XS.ifYes X0.here hx rfl (pc0 := 34) (pc' := 43) rfl (hb hby at_34) rfl ((if0 _ _).trans (feq hc34).2) (by decide) (by decide) ?_
    show Steps p.tables e below (s₁.setTop (mkF m 43 #[.val (.int p1), .val (.int p2), .val (.int p3), .val (.int (own_b p1)), .val (.int (p3 &&& (3 : Int32))), .unset, .unset] [])) _
    refine XS.iload X0.here hx rfl (hb hby at_43) rfl ?_
    show Steps p.tables e below (s₁.setTop (mkF m 45 #[.val (.int p1), .val (.int p2), .val (.int p3), .val (.int (own_b p1)), .val (.int (p3 &&& (3 : Int32))), .unset, .unset] [(.int (p3 &&& (3 : Int32)))])) _
    refine XS.iconst X0.here hx rfl (hb hby at_45) ?_
    show Steps p.tables e below (s₁.setTop (mkF m 46 #[.val (.int p1), .val (.int p2), .val (.int p3), .val (.int (own_b p1)), .val (.int (p3 &&& (3 : Int32))), .unset, .unset] [(.int (1 : Int32)), (.int (p3 &&& (3 : Int32)))])) _
    refine XS.icmpYes X0.here hx rfl (pc0 := 46) (pc' := 55) rfl (hb hby at_46) rfl (feq hc46).2 (by decide) (by decide) ?_
    show Steps p.tables e below (s₁.setTop (mkF m 55 #[.val (.int p1), .val (.int p2), .val (.int p3), .val (.int (own_b p1)), .val (.int (p3 &&& (3 : Int32))), .unset, .unset] [])) _
    refine XS.iload X0.here hx rfl (hb hby at_55) rfl ?_
    show Steps p.tables e below (s₁.setTop (mkF m 57 #[.val (.int p1), .val (.int p2), .val (.int p3), .val (.int (own_b p1)), .val (.int (p3 &&& (3 : Int32))), .unset, .unset] [(.int (p3 &&& (3 : Int32)))])) _
    refine XS.iconst X0.here hx rfl (hb hby at_57) ?_
    show Steps p.tables e below (s₁.setTop (mkF m 58 #[.val (.int p1), .val (.int p2), .val (.int p3), .val (.int (own_b p1)), .val (.int (p3 &&& (3 : Int32))), .unset, .unset] [(.int (2 : Int32)), (.int (p3 &&& (3 : Int32)))])) _
    refine XS.icmpNo X0.here hx rfl (hb hby at_58) rfl (teq hc58).2 ?_
    show Steps p.tables e below (s₁.setTop (mkF m 61 #[.val (.int p1), .val (.int p2), .val (.int p3), .val (.int (own_b p1)), .val (.int (p3 &&& (3 : Int32))), .unset, .unset] [])) _
    refine XS.iloadN X0.here hx rfl (hb hby at_61) rfl ?_
    show Steps p.tables e below (s₁.setTop (mkF m 62 #[.val (.int p1), .val (.int p2), .val (.int p3), .val (.int (own_b p1)), .val (.int (p3 &&& (3 : Int32))), .unset, .unset] [(.int (own_b p1))])) _
    refine XS.iconst X0.here hx rfl (hb hby at_62) ?_
    show Steps p.tables e below (s₁.setTop (mkF m 63 #[.val (.int p1), .val (.int p2), .val (.int p3), .val (.int (own_b p1)), .val (.int (p3 &&& (3 : Int32))), .unset, .unset] [(.int (1 : Int32)), (.int (own_b p1))])) _
    refine XS.iloadN X0.here hx rfl (hb hby at_63) rfl ?_
    show Steps p.tables e below (s₁.setTop (mkF m 64 #[.val (.int p1), .val (.int p2), .val (.int p3), .val (.int (own_b p1)), .val (.int (p3 &&& (3 : Int32))), .unset, .unset] [(.int p2), (.int (1 : Int32)), (.int (own_b p1))])) _
    refine XS.bipush X0.here hx rfl (hb hby at_64) ?_
    show Steps p.tables e below (s₁.setTop (mkF m 66 #[.val (.int p1), .val (.int p2), .val (.int p3), .val (.int (own_b p1)), .val (.int (p3 &&& (3 : Int32))), .unset, .unset] [(.int (31 : Int32)), (.int p2), (.int (1 : Int32)), (.int (own_b p1))])) _
    refine XS.iand X0.here hx rfl (hb hby at_66) rfl ?_
    show Steps p.tables e below (s₁.setTop (mkF m 67 #[.val (.int p1), .val (.int p2), .val (.int p3), .val (.int (own_b p1)), .val (.int (p3 &&& (3 : Int32))), .unset, .unset] [(.int (p2 &&& (31 : Int32))), (.int (1 : Int32)), (.int (own_b p1))])) _
    refine XS.ishl X0.here hx rfl (hb hby at_67) rfl ?_
    show Steps p.tables e below (s₁.setTop (mkF m 68 #[.val (.int p1), .val (.int p2), .val (.int p3), .val (.int (own_b p1)), .val (.int (p3 &&& (3 : Int32))), .unset, .unset] [(.int ((1 : Int32) <<< ((p2 &&& (31 : Int32)) &&& 31))), (.int (own_b p1))])) _
    refine XS.ixor X0.here hx rfl (hb hby at_68) rfl ?_
    show Steps p.tables e below (s₁.setTop (mkF m 69 #[.val (.int p1), .val (.int p2), .val (.int p3), .val (.int (own_b p1)), .val (.int (p3 &&& (3 : Int32))), .unset, .unset] [(.int (own_x p1 p2))])) _
    refine XS.istore X0.here hx rfl (hb hby at_69) rfl (l' := #[.val (.int p1), .val (.int p2), .val (.int p3), .val (.int (own_b p1)), .val (.int (p3 &&& (3 : Int32))), .val (.int (own_x p1 p2)), .unset]) rfl ?_
    show Steps p.tables e below (s₁.setTop (mkF m 71 #[.val (.int p1), .val (.int p2), .val (.int p3), .val (.int (own_b p1)), .val (.int (p3 &&& (3 : Int32))), .val (.int (own_x p1 p2)), .unset] [])) _
    refine XS.goto X0.here hx rfl (pc0 := 71) (pc' := 77) rfl (hb hby at_71) (by decide) (by decide) ?_
    show Steps p.tables e below (s₁.setTop (mkF m 77 #[.val (.int p1), .val (.int p2), .val (.int p3), .val (.int (own_b p1)), .val (.int (p3 &&& (3 : Int32))), .val (.int (own_x p1 p2)), .unset] [])) _
    refine XS.iload X0.here hx rfl (hb hby at_77) rfl ?_
    show Steps p.tables e below (s₁.setTop (mkF m 79 #[.val (.int p1), .val (.int p2), .val (.int p3), .val (.int (own_b p1)), .val (.int (p3 &&& (3 : Int32))), .val (.int (own_x p1 p2)), .unset] [(.int (own_x p1 p2))])) _
    refine XS.bipush X0.here hx rfl (hb hby at_79) ?_
    show Steps p.tables e below (s₁.setTop (mkF m 81 #[.val (.int p1), .val (.int p2), .val (.int p3), .val (.int (own_b p1)), .val (.int (p3 &&& (3 : Int32))), .val (.int (own_x p1 p2)), .unset] [(.int (18 : Int32)), (.int (own_x p1 p2))])) _
    refine XS.iushr X0.here hx rfl (hb hby at_81) rfl ?_
    show Steps p.tables e below (s₁.setTop (mkF m 82 #[.val (.int p1), .val (.int p2), .val (.int p3), .val (.int (own_b p1)), .val (.int (p3 &&& (3 : Int32))), .val (.int (own_x p1 p2)), .unset] [(.int (((own_x p1 p2).toUInt32 >>> ((18 : Int32) &&& 31).toUInt32).toInt32))])) _
    refine XS.ifNo X0.here hx rfl (hb hby at_82) rfl ((if0 _ _).trans (teq hc82).2) ?_
    show Steps p.tables e below (s₁.setTop (mkF m 85 #[.val (.int p1), .val (.int p2), .val (.int p3), .val (.int (own_b p1)), .val (.int (p3 &&& (3 : Int32))), .val (.int (own_x p1 p2)), .unset] [])) _
    refine XS.iload X0.here hx rfl (hb hby at_85) rfl ?_
    show Steps p.tables e below (s₁.setTop (mkF m 87 #[.val (.int p1), .val (.int p2), .val (.int p3), .val (.int (own_b p1)), .val (.int (p3 &&& (3 : Int32))), .val (.int (own_x p1 p2)), .unset] [(.int (own_x p1 p2))])) _
    refine XS.bipush X0.here hx rfl (hb hby at_87) ?_
    show Steps p.tables e below (s₁.setTop (mkF m 89 #[.val (.int p1), .val (.int p2), .val (.int p3), .val (.int (own_b p1)), .val (.int (p3 &&& (3 : Int32))), .val (.int (own_x p1 p2)), .unset] [(.int (12 : Int32)), (.int (own_x p1 p2))])) _
    refine XS.iushr X0.here hx rfl (hb hby at_89) rfl ?_
    show Steps p.tables e below (s₁.setTop (mkF m 90 #[.val (.int p1), .val (.int p2), .val (.int p3), .val (.int (own_b p1)), .val (.int (p3 &&& (3 : Int32))), .val (.int (own_x p1 p2)), .unset] [(.int (((own_x p1 p2).toUInt32 >>> ((12 : Int32) &&& 31).toUInt32).toInt32))])) _
    refine XS.bipush X0.here hx rfl (hb hby at_90) ?_
    show Steps p.tables e below (s₁.setTop (mkF m 92 #[.val (.int p1), .val (.int p2), .val (.int p3), .val (.int (own_b p1)), .val (.int (p3 &&& (3 : Int32))), .val (.int (own_x p1 p2)), .unset] [(.int (7 : Int32)), (.int (((own_x p1 p2).toUInt32 >>> ((12 : Int32) &&& 31).toUInt32).toInt32))])) _
    refine XS.iand X0.here hx rfl (hb hby at_92) rfl ?_
    show Steps p.tables e below (s₁.setTop (mkF m 93 #[.val (.int p1), .val (.int p2), .val (.int p3), .val (.int (own_b p1)), .val (.int (p3 &&& (3 : Int32))), .val (.int (own_x p1 p2)), .unset] [(.int ((((own_x p1 p2).toUInt32 >>> ((12 : Int32) &&& 31).toUInt32).toInt32) &&& (7 : Int32)))])) _
    refine XS.ifNo X0.here hx rfl (hb hby at_93) rfl ((if0 _ _).trans (teq hc93).2) ?_
    show Steps p.tables e below (s₁.setTop (mkF m 96 #[.val (.int p1), .val (.int p2), .val (.int p3), .val (.int (own_b p1)), .val (.int (p3 &&& (3 : Int32))), .val (.int (own_x p1 p2)), .unset] [])) _
    refine XS.iloadN X0.here hx rfl (hb hby at_96) rfl ?_
    show Steps p.tables e below (s₁.setTop (mkF m 97 #[.val (.int p1), .val (.int p2), .val (.int p3), .val (.int (own_b p1)), .val (.int (p3 &&& (3 : Int32))), .val (.int (own_x p1 p2)), .unset] [(.int p1)])) _
    refine XS.bipush X0.here hx rfl (hb hby at_97) ?_
    show Steps p.tables e below (s₁.setTop (mkF m 99 #[.val (.int p1), .val (.int p2), .val (.int p3), .val (.int (own_b p1)), .val (.int (p3 &&& (3 : Int32))), .val (.int (own_x p1 p2)), .unset] [(.int (63 : Int32)), (.int p1)])) _
    refine XS.iand X0.here hx rfl (hb hby at_99) rfl ?_
    show Steps p.tables e below (s₁.setTop (mkF m 100 #[.val (.int p1), .val (.int p2), .val (.int p3), .val (.int (own_b p1)), .val (.int (p3 &&& (3 : Int32))), .val (.int (own_x p1 p2)), .unset] [(.int (p1 &&& (63 : Int32)))])) _
    refine XS.iload X0.here hx rfl (hb hby at_100) rfl ?_
    show Steps p.tables e below (s₁.setTop (mkF m 102 #[.val (.int p1), .val (.int p2), .val (.int p3), .val (.int (own_b p1)), .val (.int (p3 &&& (3 : Int32))), .val (.int (own_x p1 p2)), .unset] [(.int (own_x p1 p2)), (.int (p1 &&& (63 : Int32)))])) _
    refine XS.bipush X0.here hx rfl (hb hby at_102) ?_
    show Steps p.tables e below (s₁.setTop (mkF m 104 #[.val (.int p1), .val (.int p2), .val (.int p3), .val (.int (own_b p1)), .val (.int (p3 &&& (3 : Int32))), .val (.int (own_x p1 p2)), .unset] [(.int (63 : Int32)), (.int (own_x p1 p2)), (.int (p1 &&& (63 : Int32)))])) _
    refine XS.iand X0.here hx rfl (hb hby at_104) rfl ?_
    show Steps p.tables e below (s₁.setTop (mkF m 105 #[.val (.int p1), .val (.int p2), .val (.int p3), .val (.int (own_b p1)), .val (.int (p3 &&& (3 : Int32))), .val (.int (own_x p1 p2)), .unset] [(.int ((own_x p1 p2) &&& (63 : Int32))), (.int (p1 &&& (63 : Int32)))])) _
    refine XS.icmpNo X0.here hx rfl (hb hby at_105) rfl (teq hc105).2 ?_
    show Steps p.tables e below (s₁.setTop (mkF m 108 #[.val (.int p1), .val (.int p2), .val (.int p3), .val (.int (own_b p1)), .val (.int (p3 &&& (3 : Int32))), .val (.int (own_x p1 p2)), .unset] [])) _
    refine XS.iloadN X0.here hx rfl (hb hby at_108) rfl ?_
    show Steps p.tables e below (s₁.setTop (mkF m 109 #[.val (.int p1), .val (.int p2), .val (.int p3), .val (.int (own_b p1)), .val (.int (p3 &&& (3 : Int32))), .val (.int (own_x p1 p2)), .unset] [(.int p1)])) _
    refine XS.bipush X0.here hx rfl (hb hby at_109) ?_
    show Steps p.tables e below (s₁.setTop (mkF m 111 #[.val (.int p1), .val (.int p2), .val (.int p3), .val (.int (own_b p1)), .val (.int (p3 &&& (3 : Int32))), .val (.int (own_x p1 p2)), .unset] [(.int (6 : Int32)), (.int p1)])) _
    refine XS.iushr X0.here hx rfl (hb hby at_111) rfl ?_
    show Steps p.tables e below (s₁.setTop (mkF m 112 #[.val (.int p1), .val (.int p2), .val (.int p3), .val (.int (own_b p1)), .val (.int (p3 &&& (3 : Int32))), .val (.int (own_x p1 p2)), .unset] [(.int ((p1.toUInt32 >>> ((6 : Int32) &&& 31).toUInt32).toInt32))])) _
    refine XS.bipush X0.here hx rfl (hb hby at_112) ?_
    show Steps p.tables e below (s₁.setTop (mkF m 114 #[.val (.int p1), .val (.int p2), .val (.int p3), .val (.int (own_b p1)), .val (.int (p3 &&& (3 : Int32))), .val (.int (own_x p1 p2)), .unset] [(.int (63 : Int32)), (.int ((p1.toUInt32 >>> ((6 : Int32) &&& 31).toUInt32).toInt32))])) _
    refine XS.iand X0.here hx rfl (hb hby at_114) rfl ?_
    show Steps p.tables e below (s₁.setTop (mkF m 115 #[.val (.int p1), .val (.int p2), .val (.int p3), .val (.int (own_b p1)), .val (.int (p3 &&& (3 : Int32))), .val (.int (own_x p1 p2)), .unset] [(.int (((p1.toUInt32 >>> ((6 : Int32) &&& 31).toUInt32).toInt32) &&& (63 : Int32)))])) _
    refine XS.iload X0.here hx rfl (hb hby at_115) rfl ?_
    show Steps p.tables e below (s₁.setTop (mkF m 117 #[.val (.int p1), .val (.int p2), .val (.int p3), .val (.int (own_b p1)), .val (.int (p3 &&& (3 : Int32))), .val (.int (own_x p1 p2)), .unset] [(.int (own_x p1 p2)), (.int (((p1.toUInt32 >>> ((6 : Int32) &&& 31).toUInt32).toInt32) &&& (63 : Int32)))])) _
    refine XS.bipush X0.here hx rfl (hb hby at_117) ?_
    show Steps p.tables e below (s₁.setTop (mkF m 119 #[.val (.int p1), .val (.int p2), .val (.int p3), .val (.int (own_b p1)), .val (.int (p3 &&& (3 : Int32))), .val (.int (own_x p1 p2)), .unset] [(.int (6 : Int32)), (.int (own_x p1 p2)), (.int (((p1.toUInt32 >>> ((6 : Int32) &&& 31).toUInt32).toInt32) &&& (63 : Int32)))])) _
    refine XS.iushr X0.here hx rfl (hb hby at_119) rfl ?_
    show Steps p.tables e below (s₁.setTop (mkF m 120 #[.val (.int p1), .val (.int p2), .val (.int p3), .val (.int (own_b p1)), .val (.int (p3 &&& (3 : Int32))), .val (.int (own_x p1 p2)), .unset] [(.int (((own_x p1 p2).toUInt32 >>> ((6 : Int32) &&& 31).toUInt32).toInt32)), (.int (((p1.toUInt32 >>> ((6 : Int32) &&& 31).toUInt32).toInt32) &&& (63 : Int32)))])) _
    refine XS.bipush X0.here hx rfl (hb hby at_120) ?_
    show Steps p.tables e below (s₁.setTop (mkF m 122 #[.val (.int p1), .val (.int p2), .val (.int p3), .val (.int (own_b p1)), .val (.int (p3 &&& (3 : Int32))), .val (.int (own_x p1 p2)), .unset] [(.int (63 : Int32)), (.int (((own_x p1 p2).toUInt32 >>> ((6 : Int32) &&& 31).toUInt32).toInt32)), (.int (((p1.toUInt32 >>> ((6 : Int32) &&& 31).toUInt32).toInt32) &&& (63 : Int32)))])) _
    refine XS.iand X0.here hx rfl (hb hby at_122) rfl ?_
    show Steps p.tables e below (s₁.setTop (mkF m 123 #[.val (.int p1), .val (.int p2), .val (.int p3), .val (.int (own_b p1)), .val (.int (p3 &&& (3 : Int32))), .val (.int (own_x p1 p2)), .unset] [(.int ((((own_x p1 p2).toUInt32 >>> ((6 : Int32) &&& 31).toUInt32).toInt32) &&& (63 : Int32))), (.int (((p1.toUInt32 >>> ((6 : Int32) &&& 31).toUInt32).toInt32) &&& (63 : Int32)))])) _
    refine XS.icmpNo X0.here hx rfl (hb hby at_123) rfl (teq hc123).2 ?_
    show Steps p.tables e below (s₁.setTop (mkF m 126 #[.val (.int p1), .val (.int p2), .val (.int p3), .val (.int (own_b p1)), .val (.int (p3 &&& (3 : Int32))), .val (.int (own_x p1 p2)), .unset] [])) _
    refine XS.iloadN X0.here hx rfl (hb hby at_126) rfl ?_
    show Steps p.tables e below (s₁.setTop (mkF m 127 #[.val (.int p1), .val (.int p2), .val (.int p3), .val (.int (own_b p1)), .val (.int (p3 &&& (3 : Int32))), .val (.int (own_x p1 p2)), .unset] [(.int p1)])) _
    refine XS.bipush X0.here hx rfl (hb hby at_127) ?_
    show Steps p.tables e below (s₁.setTop (mkF m 129 #[.val (.int p1), .val (.int p2), .val (.int p3), .val (.int (own_b p1)), .val (.int (p3 &&& (3 : Int32))), .val (.int (own_x p1 p2)), .unset] [(.int (15 : Int32)), (.int p1)])) _
    refine XS.iushr X0.here hx rfl (hb hby at_129) rfl ?_
    show Steps p.tables e below (s₁.setTop (mkF m 130 #[.val (.int p1), .val (.int p2), .val (.int p3), .val (.int (own_b p1)), .val (.int (p3 &&& (3 : Int32))), .val (.int (own_x p1 p2)), .unset] [(.int ((p1.toUInt32 >>> ((15 : Int32) &&& 31).toUInt32).toInt32))])) _
    refine XS.bipush X0.here hx rfl (hb hby at_130) ?_
    show Steps p.tables e below (s₁.setTop (mkF m 132 #[.val (.int p1), .val (.int p2), .val (.int p3), .val (.int (own_b p1)), .val (.int (p3 &&& (3 : Int32))), .val (.int (own_x p1 p2)), .unset] [(.int (7 : Int32)), (.int ((p1.toUInt32 >>> ((15 : Int32) &&& 31).toUInt32).toInt32))])) _
    refine XS.iand X0.here hx rfl (hb hby at_132) rfl ?_
    show Steps p.tables e below (s₁.setTop (mkF m 133 #[.val (.int p1), .val (.int p2), .val (.int p3), .val (.int (own_b p1)), .val (.int (p3 &&& (3 : Int32))), .val (.int (own_x p1 p2)), .unset] [(.int (((p1.toUInt32 >>> ((15 : Int32) &&& 31).toUInt32).toInt32) &&& (7 : Int32)))])) _
    refine XS.iload X0.here hx rfl (hb hby at_133) rfl ?_
    show Steps p.tables e below (s₁.setTop (mkF m 135 #[.val (.int p1), .val (.int p2), .val (.int p3), .val (.int (own_b p1)), .val (.int (p3 &&& (3 : Int32))), .val (.int (own_x p1 p2)), .unset] [(.int (own_x p1 p2)), (.int (((p1.toUInt32 >>> ((15 : Int32) &&& 31).toUInt32).toInt32) &&& (7 : Int32)))])) _
    refine XS.bipush X0.here hx rfl (hb hby at_135) ?_
    show Steps p.tables e below (s₁.setTop (mkF m 137 #[.val (.int p1), .val (.int p2), .val (.int p3), .val (.int (own_b p1)), .val (.int (p3 &&& (3 : Int32))), .val (.int (own_x p1 p2)), .unset] [(.int (15 : Int32)), (.int (own_x p1 p2)), (.int (((p1.toUInt32 >>> ((15 : Int32) &&& 31).toUInt32).toInt32) &&& (7 : Int32)))])) _
    refine XS.iushr X0.here hx rfl (hb hby at_137) rfl ?_
    show Steps p.tables e below (s₁.setTop (mkF m 138 #[.val (.int p1), .val (.int p2), .val (.int p3), .val (.int (own_b p1)), .val (.int (p3 &&& (3 : Int32))), .val (.int (own_x p1 p2)), .unset] [(.int (((own_x p1 p2).toUInt32 >>> ((15 : Int32) &&& 31).toUInt32).toInt32)), (.int (((p1.toUInt32 >>> ((15 : Int32) &&& 31).toUInt32).toInt32) &&& (7 : Int32)))])) _
    refine XS.bipush X0.here hx rfl (hb hby at_138) ?_
    show Steps p.tables e below (s₁.setTop (mkF m 140 #[.val (.int p1), .val (.int p2), .val (.int p3), .val (.int (own_b p1)), .val (.int (p3 &&& (3 : Int32))), .val (.int (own_x p1 p2)), .unset] [(.int (7 : Int32)), (.int (((own_x p1 p2).toUInt32 >>> ((15 : Int32) &&& 31).toUInt32).toInt32)), (.int (((p1.toUInt32 >>> ((15 : Int32) &&& 31).toUInt32).toInt32) &&& (7 : Int32)))])) _
    refine XS.iand X0.here hx rfl (hb hby at_140) rfl ?_
    show Steps p.tables e below (s₁.setTop (mkF m 141 #[.val (.int p1), .val (.int p2), .val (.int p3), .val (.int (own_b p1)), .val (.int (p3 &&& (3 : Int32))), .val (.int (own_x p1 p2)), .unset] [(.int ((((own_x p1 p2).toUInt32 >>> ((15 : Int32) &&& 31).toUInt32).toInt32) &&& (7 : Int32))), (.int (((p1.toUInt32 >>> ((15 : Int32) &&& 31).toUInt32).toInt32) &&& (7 : Int32)))])) _
    refine XS.icmpYes X0.here hx rfl (pc0 := 141) (pc' := 148) rfl (hb hby at_141) rfl (feq hc141).2 (by decide) (by decide) ?_
    show Steps p.tables e below (s₁.setTop (mkF m 148 #[.val (.int p1), .val (.int p2), .val (.int p3), .val (.int (own_b p1)), .val (.int (p3 &&& (3 : Int32))), .val (.int (own_x p1 p2)), .unset] [])) _
    refine XS.iconst X0.here hx rfl (hb hby at_148) ?_
    show Steps p.tables e below (s₁.setTop (mkF m 149 #[.val (.int p1), .val (.int p2), .val (.int p3), .val (.int (own_b p1)), .val (.int (p3 &&& (3 : Int32))), .val (.int (own_x p1 p2)), .unset] [(.int (0 : Int32))])) _
    refine XS.istore X0.here hx rfl (hb hby at_149) rfl (l' := #[.val (.int p1), .val (.int p2), .val (.int p3), .val (.int (own_b p1)), .val (.int (p3 &&& (3 : Int32))), .val (.int (own_x p1 p2)), .val (.int (0 : Int32))]) rfl ?_
    show Steps p.tables e below (s₁.setTop (mkF m 151 #[.val (.int p1), .val (.int p2), .val (.int p3), .val (.int (own_b p1)), .val (.int (p3 &&& (3 : Int32))), .val (.int (own_x p1 p2)), .val (.int (0 : Int32))] [])) _
    refine XS.iloadN X0.here hx rfl (hb hby at_151) rfl ?_
    show Steps p.tables e below (s₁.setTop (mkF m 152 #[.val (.int p1), .val (.int p2), .val (.int p3), .val (.int (own_b p1)), .val (.int (p3 &&& (3 : Int32))), .val (.int (own_x p1 p2)), .val (.int (0 : Int32))] [(.int p1)])) _
    refine XS.iload X0.here hx rfl (hb hby at_152) rfl ?_
    show Steps p.tables e below (s₁.setTop (mkF m 154 #[.val (.int p1), .val (.int p2), .val (.int p3), .val (.int (own_b p1)), .val (.int (p3 &&& (3 : Int32))), .val (.int (own_x p1 p2)), .val (.int (0 : Int32))] [(.int (own_x p1 p2)), (.int p1)])) _
    refine st4 _ ?_
    show Steps p.tables e below (T4.setTop (mkF m 157 #[.val (.int p1), .val (.int p2), .val (.int p3), .val (.int (own_b p1)), .val (.int (p3 &&& (3 : Int32))), .val (.int (own_x p1 p2)), .val (.int (0 : Int32))] [(.int (val1 p1 (own_x p1 p2)))])) _
    refine XS.iload X4.here hx rfl (hb hby at_157) rfl ?_
    show Steps p.tables e below (T4.setTop (mkF m 159 #[.val (.int p1), .val (.int p2), .val (.int p3), .val (.int (own_b p1)), .val (.int (p3 &&& (3 : Int32))), .val (.int (own_x p1 p2)), .val (.int (0 : Int32))] [(.int (0 : Int32)), (.int (val1 p1 (own_x p1 p2)))])) _
    refine XS.icmpNo X4.here hx rfl (hb hby at_159) rfl (teq (by unfold val1; rw [if_neg (fun q => hc141 ((own_iff _ _).mp q).2.2.2.2)] : (val1 p1 (own_x p1 p2)) = (0 : Int32))).2 ?_
    show Steps p.tables e below (T4.setTop (mkF m 162 #[.val (.int p1), .val (.int p2), .val (.int p3), .val (.int (own_b p1)), .val (.int (p3 &&& (3 : Int32))), .val (.int (own_x p1 p2)), .val (.int (0 : Int32))] [])) _
    refine XS.iconst X4.here hx rfl (hb hby at_162) ?_
    show Steps p.tables e below (T4.setTop (mkF m 163 #[.val (.int p1), .val (.int p2), .val (.int p3), .val (.int (own_b p1)), .val (.int (p3 &&& (3 : Int32))), .val (.int (own_x p1 p2)), .val (.int (0 : Int32))] [(.int (1 : Int32))])) _
    refine XS.goto X4.here hx rfl (pc0 := 163) (pc' := 167) rfl (hb hby at_163) (by decide) (by decide) ?_
    show Steps p.tables e below (T4.setTop (mkF m 167 #[.val (.int p1), .val (.int p2), .val (.int p3), .val (.int (own_b p1)), .val (.int (p3 &&& (3 : Int32))), .val (.int (own_x p1 p2)), .val (.int (0 : Int32))] [(.int (1 : Int32))])) _
    exact retN X4 hx (t := .boolean) Bd.returns (by simp) (hb hby at_167) hr
  · show Q0 Z p1 p2 p3 h0 n0 _ T4.heap _
    exact ⟨rfl, N4⟩

set_option maxRecDepth 65536 in
set_option maxHeartbeats 40000000 in
theorem rm0_ttfffffff (l : Launch) (Z : State) (a0 : Array Value) (hw : ∀ d ∈ tables_1, d.before a0 Z = true) (ws : List Jvm.Cond) (p1 : Int32) (p2 : Int32) (p3 : Int32) (h0 : Heap) (n0 : Nat) (Z0 : n0 ≤ h0.size) (hc34 : ¬ ((p3 &&& (3 : Int32)) = (0 : Int32))) (hc46 : ¬ ((p3 &&& (3 : Int32)) = (1 : Int32))) (hc58 : (p3 &&& (3 : Int32)) = (2 : Int32)) (hc82 : (((own_x p1 p2).toUInt32 >>> ((18 : Int32) &&& 31).toUInt32).toInt32) = (0 : Int32)) (hc93 : ((((own_x p1 p2).toUInt32 >>> ((12 : Int32) &&& 31).toUInt32).toInt32) &&& (7 : Int32)) = (0 : Int32)) (hc105 : (p1 &&& (63 : Int32)) = ((own_x p1 p2) &&& (63 : Int32))) (hc123 : (((p1.toUInt32 >>> ((6 : Int32) &&& 31).toUInt32).toInt32) &&& (63 : Int32)) = ((((own_x p1 p2).toUInt32 >>> ((6 : Int32) &&& 31).toUInt32).toInt32) &&& (63 : Int32))) (hc141 : (((p1.toUInt32 >>> ((15 : Int32) &&& 31).toUInt32).toInt32) &&& (7 : Int32)) = ((((own_x p1 p2).toUInt32 >>> ((15 : Int32) &&& 31).toUInt32).toInt32) &&& (7 : Int32))) :
    MetFree l x (head1 (Jvm.Cond.code x code maxLocals ret :: ws) room_1) (fun a U => a = #[(.int p1), (.int p2), (.int p3)] ∧ Z.Warmed39 U.vm ∧ U.heap = h0) (fun _ _ _ _ _ => True) (fun _ U o U' => ∃ v L, o = .returned v ∧ Q0 Z p1 p2 p3 h0 n0 v U'.heap L ∧ FrameEnd U o U' L room_1.cells room_1.slots) := by
  refine MetFree.of_bodySF (plainFor_of_name pn_0) hisR ?_
  intro p e s m args below meth c s₁ Bd hml0 hP hK
  obtain ⟨rfl, hZ, hh⟩ := hP
  have hx := Bd.exec
  have hby := Bd.bytes
  have hml : c.maxLocals = 7 := hml0
  have hown : s.vm.findClass "touchmove/position/PackedMoveIsPinLaw" = some m.cls := findClass_of_methodNamed Bd.named
  have hnm := (name_of_methodNamed Bd.named Bd.method).1
  have X0 : Stand p l e room_1 s m #[(.int p1), (.int p2), (.int p3)] below meth c s₁ [] 0 0 := Stand.of_body Bd
  have e0 : s₁.heap = h0 := by rw [← hh, Bd.state]; rfl
  have N0 := Fr.nil n0
  have pre0 : ∀ t, Steps p.tables e below (s₁.setTop (mkF m 0 #[.val (.int p1), .val (.int p2), .val (.int p3), .unset, .unset, .unset, .unset] [])) t → Steps p.tables e below (s₁.setTop (entryFrame m #[(.int p1), (.int p2), (.int p3)] maxLocals)) t := fun t k => castTop (ef_0 m p1 p2 p3) k
  obtain ⟨_, _, ⟨T4, L4, k4, n4⟩, -, X4, ⟨Lc4, hQ4, l4, y4, z4⟩, st4⟩ := Jvm.LawKit.callS X0 hx (y := (⟨"touchmove/position/PackedMove", "is", "(II)Z"⟩ : MethodName)) hown (mvT hZ (hw _ (List.mem_of_getElem? (i := 0) rfl))) (mvT hZ (hw _ (List.mem_of_getElem? (i := 1) rfl))) (mvT hZ (hw _ (List.mem_of_getElem? (i := 2) rfl))) (mvT hZ (hw _ (List.mem_of_getElem? (i := 3) rfl))) (by decide) (backOf (W := 0) (rm1 l Z a0 hw [] p1 (own_x p1 p2) h0 n0 Z0) hZ (hw _ (List.mem_of_getElem? (i := 3) rfl)) (hw _ (List.mem_of_getElem? (i := 2) rfl)) (by decide) (by decide)) (g := (mkF m 154 #[.val (.int p1), .val (.int p2), .val (.int p3), .val (.int (own_b p1)), .val (.int (p3 &&& (3 : Int32))), .val (.int (own_x p1 p2)), .val (.int (1 : Int32))] [(.int (own_x p1 p2)), (.int p1)])) rfl (by rw [hml]; rfl) (argsL := [(.int p1), (.int (own_x p1 p2))]) (rest := []) (lenOf pd_0_0 rfl) rfl (by show 2 * 0 + _ ≤ _; exact Nat.le_of_eq rfl) (hb hby at_154) (fun _ _ => ⟨rfl, e0, (by decide : 0 + 0 ≤ _), (by decide : 0 + 0 ≤ _)⟩)
  dsimp only [Pt.U, Pt.locs, Pt.cells, Pt.slots] at X4 l4 y4 z4 st4 hQ4
  subst l4 y4 z4
  obtain ⟨rfl, N4q, w4⟩ := hQ4
  have N4 := Fr.app N0 N4q
  obtain ⟨fs, hr, hrun, hended, hW, hsame⟩ := X4.leave (v := some (.int (1 : Int32))) (fun h => by rw [Bd.returns] at h; cases h)
  refine ⟨_, _, pre0 _ ?_, hrun, hended, _, _, rfl, ?_, ⟨_, rfl⟩, hW, hsame.mono (by decide) (by decide)⟩
  · show Steps p.tables e below (s₁.setTop (mkF m 0 #[.val (.int p1), .val (.int p2), .val (.int p3), .unset, .unset, .unset, .unset] [])) _
    refine XS.iloadN X0.here hx rfl (hb hby at_0) rfl ?_
    show Steps p.tables e below (s₁.setTop (mkF m 1 #[.val (.int p1), .val (.int p2), .val (.int p3), .unset, .unset, .unset, .unset] [(.int p1)])) _
    refine XS.bipush X0.here hx rfl (hb hby at_1) ?_
    show Steps p.tables e below (s₁.setTop (mkF m 3 #[.val (.int p1), .val (.int p2), .val (.int p3), .unset, .unset, .unset, .unset] [(.int (63 : Int32)), (.int p1)])) _
    refine XS.iand X0.here hx rfl (hb hby at_3) rfl ?_
    show Steps p.tables e below (s₁.setTop (mkF m 4 #[.val (.int p1), .val (.int p2), .val (.int p3), .unset, .unset, .unset, .unset] [(.int (p1 &&& (63 : Int32)))])) _
    refine XS.iloadN X0.here hx rfl (hb hby at_4) rfl ?_
    show Steps p.tables e below (s₁.setTop (mkF m 5 #[.val (.int p1), .val (.int p2), .val (.int p3), .unset, .unset, .unset, .unset] [(.int p1), (.int (p1 &&& (63 : Int32)))])) _
    refine XS.bipush X0.here hx rfl (hb hby at_5) ?_
    show Steps p.tables e below (s₁.setTop (mkF m 7 #[.val (.int p1), .val (.int p2), .val (.int p3), .unset, .unset, .unset, .unset] [(.int (6 : Int32)), (.int p1), (.int (p1 &&& (63 : Int32)))])) _
    refine XS.iushr X0.here hx rfl (hb hby at_7) rfl ?_
    show Steps p.tables e below (s₁.setTop (mkF m 8 #[.val (.int p1), .val (.int p2), .val (.int p3), .unset, .unset, .unset, .unset] [(.int ((p1.toUInt32 >>> ((6 : Int32) &&& 31).toUInt32).toInt32)), (.int (p1 &&& (63 : Int32)))])) _
    refine XS.bipush X0.here hx rfl (hb hby at_8) ?_
    show Steps p.tables e below (s₁.setTop (mkF m 10 #[.val (.int p1), .val (.int p2), .val (.int p3), .unset, .unset, .unset, .unset] [(.int (63 : Int32)), (.int ((p1.toUInt32 >>> ((6 : Int32) &&& 31).toUInt32).toInt32)), (.int (p1 &&& (63 : Int32)))])) _
    refine XS.iand X0.here hx rfl (hb hby at_10) rfl ?_
    show Steps p.tables e below (s₁.setTop (mkF m 11 #[.val (.int p1), .val (.int p2), .val (.int p3), .unset, .unset, .unset, .unset] [(.int (((p1.toUInt32 >>> ((6 : Int32) &&& 31).toUInt32).toInt32) &&& (63 : Int32))), (.int (p1 &&& (63 : Int32)))])) _
    refine XS.bipush X0.here hx rfl (hb hby at_11) ?_
    show Steps p.tables e below (s₁.setTop (mkF m 13 #[.val (.int p1), .val (.int p2), .val (.int p3), .unset, .unset, .unset, .unset] [(.int (6 : Int32)), (.int (((p1.toUInt32 >>> ((6 : Int32) &&& 31).toUInt32).toInt32) &&& (63 : Int32))), (.int (p1 &&& (63 : Int32)))])) _
    refine XS.ishl X0.here hx rfl (hb hby at_13) rfl ?_
    show Steps p.tables e below (s₁.setTop (mkF m 14 #[.val (.int p1), .val (.int p2), .val (.int p3), .unset, .unset, .unset, .unset] [(.int ((((p1.toUInt32 >>> ((6 : Int32) &&& 31).toUInt32).toInt32) &&& (63 : Int32)) <<< ((6 : Int32) &&& 31))), (.int (p1 &&& (63 : Int32)))])) _
    refine XS.ior X0.here hx rfl (hb hby at_14) rfl ?_
    show Steps p.tables e below (s₁.setTop (mkF m 15 #[.val (.int p1), .val (.int p2), .val (.int p3), .unset, .unset, .unset, .unset] [(.int ((p1 &&& (63 : Int32)) ||| ((((p1.toUInt32 >>> ((6 : Int32) &&& 31).toUInt32).toInt32) &&& (63 : Int32)) <<< ((6 : Int32) &&& 31))))])) _
    refine XS.iloadN X0.here hx rfl (hb hby at_15) rfl ?_
    show Steps p.tables e below (s₁.setTop (mkF m 16 #[.val (.int p1), .val (.int p2), .val (.int p3), .unset, .unset, .unset, .unset] [(.int p1), (.int ((p1 &&& (63 : Int32)) ||| ((((p1.toUInt32 >>> ((6 : Int32) &&& 31).toUInt32).toInt32) &&& (63 : Int32)) <<< ((6 : Int32) &&& 31))))])) _
    refine XS.bipush X0.here hx rfl (hb hby at_16) ?_
    show Steps p.tables e below (s₁.setTop (mkF m 18 #[.val (.int p1), .val (.int p2), .val (.int p3), .unset, .unset, .unset, .unset] [(.int (15 : Int32)), (.int p1), (.int ((p1 &&& (63 : Int32)) ||| ((((p1.toUInt32 >>> ((6 : Int32) &&& 31).toUInt32).toInt32) &&& (63 : Int32)) <<< ((6 : Int32) &&& 31))))])) _
    refine XS.iushr X0.here hx rfl (hb hby at_18) rfl ?_
    show Steps p.tables e below (s₁.setTop (mkF m 19 #[.val (.int p1), .val (.int p2), .val (.int p3), .unset, .unset, .unset, .unset] [(.int ((p1.toUInt32 >>> ((15 : Int32) &&& 31).toUInt32).toInt32)), (.int ((p1 &&& (63 : Int32)) ||| ((((p1.toUInt32 >>> ((6 : Int32) &&& 31).toUInt32).toInt32) &&& (63 : Int32)) <<< ((6 : Int32) &&& 31))))])) _
    refine XS.bipush X0.here hx rfl (hb hby at_19) ?_
    show Steps p.tables e below (s₁.setTop (mkF m 21 #[.val (.int p1), .val (.int p2), .val (.int p3), .unset, .unset, .unset, .unset] [(.int (7 : Int32)), (.int ((p1.toUInt32 >>> ((15 : Int32) &&& 31).toUInt32).toInt32)), (.int ((p1 &&& (63 : Int32)) ||| ((((p1.toUInt32 >>> ((6 : Int32) &&& 31).toUInt32).toInt32) &&& (63 : Int32)) <<< ((6 : Int32) &&& 31))))])) _
    refine XS.iand X0.here hx rfl (hb hby at_21) rfl ?_
    show Steps p.tables e below (s₁.setTop (mkF m 22 #[.val (.int p1), .val (.int p2), .val (.int p3), .unset, .unset, .unset, .unset] [(.int (((p1.toUInt32 >>> ((15 : Int32) &&& 31).toUInt32).toInt32) &&& (7 : Int32))), (.int ((p1 &&& (63 : Int32)) ||| ((((p1.toUInt32 >>> ((6 : Int32) &&& 31).toUInt32).toInt32) &&& (63 : Int32)) <<< ((6 : Int32) &&& 31))))])) _
    refine XS.bipush X0.here hx rfl (hb hby at_22) ?_
    show Steps p.tables e below (s₁.setTop (mkF m 24 #[.val (.int p1), .val (.int p2), .val (.int p3), .unset, .unset, .unset, .unset] [(.int (15 : Int32)), (.int (((p1.toUInt32 >>> ((15 : Int32) &&& 31).toUInt32).toInt32) &&& (7 : Int32))), (.int ((p1 &&& (63 : Int32)) ||| ((((p1.toUInt32 >>> ((6 : Int32) &&& 31).toUInt32).toInt32) &&& (63 : Int32)) <<< ((6 : Int32) &&& 31))))])) _
    refine XS.ishl X0.here hx rfl (hb hby at_24) rfl ?_
    show Steps p.tables e below (s₁.setTop (mkF m 25 #[.val (.int p1), .val (.int p2), .val (.int p3), .unset, .unset, .unset, .unset] [(.int ((((p1.toUInt32 >>> ((15 : Int32) &&& 31).toUInt32).toInt32) &&& (7 : Int32)) <<< ((15 : Int32) &&& 31))), (.int ((p1 &&& (63 : Int32)) ||| ((((p1.toUInt32 >>> ((6 : Int32) &&& 31).toUInt32).toInt32) &&& (63 : Int32)) <<< ((6 : Int32) &&& 31))))])) _
    refine XS.ior X0.here hx rfl (hb hby at_25) rfl ?_
    show Steps p.tables e below (s₁.setTop (mkF m 26 #[.val (.int p1), .val (.int p2), .val (.int p3), .unset, .unset, .unset, .unset] [(.int (own_b p1))])) _
    refine XS.istoreN X0.here hx rfl (hb hby at_26) rfl (l' := #[.val (.int p1), .val (.int p2), .val (.int p3), .val (.int (own_b p1)), .unset, .unset, .unset]) rfl ?_
    show Steps p.tables e below (s₁.setTop (mkF m 27 #[.val (.int p1), .val (.int p2), .val (.int p3), .val (.int (own_b p1)), .unset, .unset, .unset] [])) _
    refine XS.iloadN X0.here hx rfl (hb hby at_27) rfl ?_
    show Steps p.tables e below (s₁.setTop (mkF m 28 #[.val (.int p1), .val (.int p2), .val (.int p3), .val (.int (own_b p1)), .unset, .unset, .unset] [(.int p3)])) _
    refine XS.iconst X0.here hx rfl (hb hby at_28) ?_
    show Steps p.tables e below (s₁.setTop (mkF m 29 #[.val (.int p1), .val (.int p2), .val (.int p3), .val (.int (own_b p1)), .unset, .unset, .unset] [(.int (3 : Int32)), (.int p3)])) _
    refine XS.iand X0.here hx rfl (hb hby at_29) rfl ?_
    show Steps p.tables e below (s₁.setTop (mkF m 30 #[.val (.int p1), .val (.int p2), .val (.int p3), .val (.int (own_b p1)), .unset, .unset, .unset] [(.int (p3 &&& (3 : Int32)))])) _
    refine XS.istore X0.here hx rfl (hb hby at_30) rfl (l' := #[.val (.int p1), .val (.int p2), .val (.int p3), .val (.int (own_b p1)), .val (.int (p3 &&& (3 : Int32))), .unset, .unset]) rfl ?_
    show Steps p.tables e below (s₁.setTop (mkF m 32 #[.val (.int p1), .val (.int p2), .val (.int p3), .val (.int (own_b p1)), .val (.int (p3 &&& (3 : Int32))), .unset, .unset] [])) _
    refine XS.iload X0.here hx rfl (hb hby at_32) rfl ?_
    show Steps p.tables e below (s₁.setTop (mkF m 34 #[.val (.int p1), .val (.int p2), .val (.int p3), .val (.int (own_b p1)), .val (.int (p3 &&& (3 : Int32))), .unset, .unset] [(.int (p3 &&& (3 : Int32)))])) _
    refine XS.ifYes X0.here hx rfl (pc0 := 34) (pc' := 43) rfl (hb hby at_34) rfl ((if0 _ _).trans (feq hc34).2) (by decide) (by decide) ?_
    show Steps p.tables e below (s₁.setTop (mkF m 43 #[.val (.int p1), .val (.int p2), .val (.int p3), .val (.int (own_b p1)), .val (.int (p3 &&& (3 : Int32))), .unset, .unset] [])) _
    refine XS.iload X0.here hx rfl (hb hby at_43) rfl ?_
    show Steps p.tables e below (s₁.setTop (mkF m 45 #[.val (.int p1), .val (.int p2), .val (.int p3), .val (.int (own_b p1)), .val (.int (p3 &&& (3 : Int32))), .unset, .unset] [(.int (p3 &&& (3 : Int32)))])) _
    refine XS.iconst X0.here hx rfl (hb hby at_45) ?_
    show Steps p.tables e below (s₁.setTop (mkF m 46 #[.val (.int p1), .val (.int p2), .val (.int p3), .val (.int (own_b p1)), .val (.int (p3 &&& (3 : Int32))), .unset, .unset] [(.int (1 : Int32)), (.int (p3 &&& (3 : Int32)))])) _
    refine XS.icmpYes X0.here hx rfl (pc0 := 46) (pc' := 55) rfl (hb hby at_46) rfl (feq hc46).2 (by decide) (by decide) ?_
    show Steps p.tables e below (s₁.setTop (mkF m 55 #[.val (.int p1), .val (.int p2), .val (.int p3), .val (.int (own_b p1)), .val (.int (p3 &&& (3 : Int32))), .unset, .unset] [])) _
    refine XS.iload X0.here hx rfl (hb hby at_55) rfl ?_
    show Steps p.tables e below (s₁.setTop (mkF m 57 #[.val (.int p1), .val (.int p2), .val (.int p3), .val (.int (own_b p1)), .val (.int (p3 &&& (3 : Int32))), .unset, .unset] [(.int (p3 &&& (3 : Int32)))])) _
    refine XS.iconst X0.here hx rfl (hb hby at_57) ?_
    show Steps p.tables e below (s₁.setTop (mkF m 58 #[.val (.int p1), .val (.int p2), .val (.int p3), .val (.int (own_b p1)), .val (.int (p3 &&& (3 : Int32))), .unset, .unset] [(.int (2 : Int32)), (.int (p3 &&& (3 : Int32)))])) _
    refine XS.icmpNo X0.here hx rfl (hb hby at_58) rfl (teq hc58).2 ?_
    show Steps p.tables e below (s₁.setTop (mkF m 61 #[.val (.int p1), .val (.int p2), .val (.int p3), .val (.int (own_b p1)), .val (.int (p3 &&& (3 : Int32))), .unset, .unset] [])) _
    refine XS.iloadN X0.here hx rfl (hb hby at_61) rfl ?_
    show Steps p.tables e below (s₁.setTop (mkF m 62 #[.val (.int p1), .val (.int p2), .val (.int p3), .val (.int (own_b p1)), .val (.int (p3 &&& (3 : Int32))), .unset, .unset] [(.int (own_b p1))])) _
    refine XS.iconst X0.here hx rfl (hb hby at_62) ?_
    show Steps p.tables e below (s₁.setTop (mkF m 63 #[.val (.int p1), .val (.int p2), .val (.int p3), .val (.int (own_b p1)), .val (.int (p3 &&& (3 : Int32))), .unset, .unset] [(.int (1 : Int32)), (.int (own_b p1))])) _
    refine XS.iloadN X0.here hx rfl (hb hby at_63) rfl ?_
    show Steps p.tables e below (s₁.setTop (mkF m 64 #[.val (.int p1), .val (.int p2), .val (.int p3), .val (.int (own_b p1)), .val (.int (p3 &&& (3 : Int32))), .unset, .unset] [(.int p2), (.int (1 : Int32)), (.int (own_b p1))])) _
    refine XS.bipush X0.here hx rfl (hb hby at_64) ?_
    show Steps p.tables e below (s₁.setTop (mkF m 66 #[.val (.int p1), .val (.int p2), .val (.int p3), .val (.int (own_b p1)), .val (.int (p3 &&& (3 : Int32))), .unset, .unset] [(.int (31 : Int32)), (.int p2), (.int (1 : Int32)), (.int (own_b p1))])) _
    refine XS.iand X0.here hx rfl (hb hby at_66) rfl ?_
    show Steps p.tables e below (s₁.setTop (mkF m 67 #[.val (.int p1), .val (.int p2), .val (.int p3), .val (.int (own_b p1)), .val (.int (p3 &&& (3 : Int32))), .unset, .unset] [(.int (p2 &&& (31 : Int32))), (.int (1 : Int32)), (.int (own_b p1))])) _
    refine XS.ishl X0.here hx rfl (hb hby at_67) rfl ?_
    show Steps p.tables e below (s₁.setTop (mkF m 68 #[.val (.int p1), .val (.int p2), .val (.int p3), .val (.int (own_b p1)), .val (.int (p3 &&& (3 : Int32))), .unset, .unset] [(.int ((1 : Int32) <<< ((p2 &&& (31 : Int32)) &&& 31))), (.int (own_b p1))])) _
    refine XS.ixor X0.here hx rfl (hb hby at_68) rfl ?_
    show Steps p.tables e below (s₁.setTop (mkF m 69 #[.val (.int p1), .val (.int p2), .val (.int p3), .val (.int (own_b p1)), .val (.int (p3 &&& (3 : Int32))), .unset, .unset] [(.int (own_x p1 p2))])) _
    refine XS.istore X0.here hx rfl (hb hby at_69) rfl (l' := #[.val (.int p1), .val (.int p2), .val (.int p3), .val (.int (own_b p1)), .val (.int (p3 &&& (3 : Int32))), .val (.int (own_x p1 p2)), .unset]) rfl ?_
    show Steps p.tables e below (s₁.setTop (mkF m 71 #[.val (.int p1), .val (.int p2), .val (.int p3), .val (.int (own_b p1)), .val (.int (p3 &&& (3 : Int32))), .val (.int (own_x p1 p2)), .unset] [])) _
    refine XS.goto X0.here hx rfl (pc0 := 71) (pc' := 77) rfl (hb hby at_71) (by decide) (by decide) ?_
    show Steps p.tables e below (s₁.setTop (mkF m 77 #[.val (.int p1), .val (.int p2), .val (.int p3), .val (.int (own_b p1)), .val (.int (p3 &&& (3 : Int32))), .val (.int (own_x p1 p2)), .unset] [])) _
    refine XS.iload X0.here hx rfl (hb hby at_77) rfl ?_
    show Steps p.tables e below (s₁.setTop (mkF m 79 #[.val (.int p1), .val (.int p2), .val (.int p3), .val (.int (own_b p1)), .val (.int (p3 &&& (3 : Int32))), .val (.int (own_x p1 p2)), .unset] [(.int (own_x p1 p2))])) _
    refine XS.bipush X0.here hx rfl (hb hby at_79) ?_
    show Steps p.tables e below (s₁.setTop (mkF m 81 #[.val (.int p1), .val (.int p2), .val (.int p3), .val (.int (own_b p1)), .val (.int (p3 &&& (3 : Int32))), .val (.int (own_x p1 p2)), .unset] [(.int (18 : Int32)), (.int (own_x p1 p2))])) _
    refine XS.iushr X0.here hx rfl (hb hby at_81) rfl ?_
    show Steps p.tables e below (s₁.setTop (mkF m 82 #[.val (.int p1), .val (.int p2), .val (.int p3), .val (.int (own_b p1)), .val (.int (p3 &&& (3 : Int32))), .val (.int (own_x p1 p2)), .unset] [(.int (((own_x p1 p2).toUInt32 >>> ((18 : Int32) &&& 31).toUInt32).toInt32))])) _
    refine XS.ifNo X0.here hx rfl (hb hby at_82) rfl ((if0 _ _).trans (teq hc82).2) ?_
    show Steps p.tables e below (s₁.setTop (mkF m 85 #[.val (.int p1), .val (.int p2), .val (.int p3), .val (.int (own_b p1)), .val (.int (p3 &&& (3 : Int32))), .val (.int (own_x p1 p2)), .unset] [])) _
    refine XS.iload X0.here hx rfl (hb hby at_85) rfl ?_
    show Steps p.tables e below (s₁.setTop (mkF m 87 #[.val (.int p1), .val (.int p2), .val (.int p3), .val (.int (own_b p1)), .val (.int (p3 &&& (3 : Int32))), .val (.int (own_x p1 p2)), .unset] [(.int (own_x p1 p2))])) _
    refine XS.bipush X0.here hx rfl (hb hby at_87) ?_
    show Steps p.tables e below (s₁.setTop (mkF m 89 #[.val (.int p1), .val (.int p2), .val (.int p3), .val (.int (own_b p1)), .val (.int (p3 &&& (3 : Int32))), .val (.int (own_x p1 p2)), .unset] [(.int (12 : Int32)), (.int (own_x p1 p2))])) _
    refine XS.iushr X0.here hx rfl (hb hby at_89) rfl ?_
    show Steps p.tables e below (s₁.setTop (mkF m 90 #[.val (.int p1), .val (.int p2), .val (.int p3), .val (.int (own_b p1)), .val (.int (p3 &&& (3 : Int32))), .val (.int (own_x p1 p2)), .unset] [(.int (((own_x p1 p2).toUInt32 >>> ((12 : Int32) &&& 31).toUInt32).toInt32))])) _
    refine XS.bipush X0.here hx rfl (hb hby at_90) ?_
    show Steps p.tables e below (s₁.setTop (mkF m 92 #[.val (.int p1), .val (.int p2), .val (.int p3), .val (.int (own_b p1)), .val (.int (p3 &&& (3 : Int32))), .val (.int (own_x p1 p2)), .unset] [(.int (7 : Int32)), (.int (((own_x p1 p2).toUInt32 >>> ((12 : Int32) &&& 31).toUInt32).toInt32))])) _
    refine XS.iand X0.here hx rfl (hb hby at_92) rfl ?_
    show Steps p.tables e below (s₁.setTop (mkF m 93 #[.val (.int p1), .val (.int p2), .val (.int p3), .val (.int (own_b p1)), .val (.int (p3 &&& (3 : Int32))), .val (.int (own_x p1 p2)), .unset] [(.int ((((own_x p1 p2).toUInt32 >>> ((12 : Int32) &&& 31).toUInt32).toInt32) &&& (7 : Int32)))])) _
    refine XS.ifNo X0.here hx rfl (hb hby at_93) rfl ((if0 _ _).trans (teq hc93).2) ?_
    show Steps p.tables e below (s₁.setTop (mkF m 96 #[.val (.int p1), .val (.int p2), .val (.int p3), .val (.int (own_b p1)), .val (.int (p3 &&& (3 : Int32))), .val (.int (own_x p1 p2)), .unset] [])) _
    refine XS.iloadN X0.here hx rfl (hb hby at_96) rfl ?_
    show Steps p.tables e below (s₁.setTop (mkF m 97 #[.val (.int p1), .val (.int p2), .val (.int p3), .val (.int (own_b p1)), .val (.int (p3 &&& (3 : Int32))), .val (.int (own_x p1 p2)), .unset] [(.int p1)])) _
    refine XS.bipush X0.here hx rfl (hb hby at_97) ?_
    show Steps p.tables e below (s₁.setTop (mkF m 99 #[.val (.int p1), .val (.int p2), .val (.int p3), .val (.int (own_b p1)), .val (.int (p3 &&& (3 : Int32))), .val (.int (own_x p1 p2)), .unset] [(.int (63 : Int32)), (.int p1)])) _
    refine XS.iand X0.here hx rfl (hb hby at_99) rfl ?_
    show Steps p.tables e below (s₁.setTop (mkF m 100 #[.val (.int p1), .val (.int p2), .val (.int p3), .val (.int (own_b p1)), .val (.int (p3 &&& (3 : Int32))), .val (.int (own_x p1 p2)), .unset] [(.int (p1 &&& (63 : Int32)))])) _
    refine XS.iload X0.here hx rfl (hb hby at_100) rfl ?_
    show Steps p.tables e below (s₁.setTop (mkF m 102 #[.val (.int p1), .val (.int p2), .val (.int p3), .val (.int (own_b p1)), .val (.int (p3 &&& (3 : Int32))), .val (.int (own_x p1 p2)), .unset] [(.int (own_x p1 p2)), (.int (p1 &&& (63 : Int32)))])) _
    refine XS.bipush X0.here hx rfl (hb hby at_102) ?_
    show Steps p.tables e below (s₁.setTop (mkF m 104 #[.val (.int p1), .val (.int p2), .val (.int p3), .val (.int (own_b p1)), .val (.int (p3 &&& (3 : Int32))), .val (.int (own_x p1 p2)), .unset] [(.int (63 : Int32)), (.int (own_x p1 p2)), (.int (p1 &&& (63 : Int32)))])) _
    refine XS.iand X0.here hx rfl (hb hby at_104) rfl ?_
    show Steps p.tables e below (s₁.setTop (mkF m 105 #[.val (.int p1), .val (.int p2), .val (.int p3), .val (.int (own_b p1)), .val (.int (p3 &&& (3 : Int32))), .val (.int (own_x p1 p2)), .unset] [(.int ((own_x p1 p2) &&& (63 : Int32))), (.int (p1 &&& (63 : Int32)))])) _
    refine XS.icmpNo X0.here hx rfl (hb hby at_105) rfl (teq hc105).2 ?_
    show Steps p.tables e below (s₁.setTop (mkF m 108 #[.val (.int p1), .val (.int p2), .val (.int p3), .val (.int (own_b p1)), .val (.int (p3 &&& (3 : Int32))), .val (.int (own_x p1 p2)), .unset] [])) _
    refine XS.iloadN X0.here hx rfl (hb hby at_108) rfl ?_
    show Steps p.tables e below (s₁.setTop (mkF m 109 #[.val (.int p1), .val (.int p2), .val (.int p3), .val (.int (own_b p1)), .val (.int (p3 &&& (3 : Int32))), .val (.int (own_x p1 p2)), .unset] [(.int p1)])) _
    refine XS.bipush X0.here hx rfl (hb hby at_109) ?_
    show Steps p.tables e below (s₁.setTop (mkF m 111 #[.val (.int p1), .val (.int p2), .val (.int p3), .val (.int (own_b p1)), .val (.int (p3 &&& (3 : Int32))), .val (.int (own_x p1 p2)), .unset] [(.int (6 : Int32)), (.int p1)])) _
    refine XS.iushr X0.here hx rfl (hb hby at_111) rfl ?_
    show Steps p.tables e below (s₁.setTop (mkF m 112 #[.val (.int p1), .val (.int p2), .val (.int p3), .val (.int (own_b p1)), .val (.int (p3 &&& (3 : Int32))), .val (.int (own_x p1 p2)), .unset] [(.int ((p1.toUInt32 >>> ((6 : Int32) &&& 31).toUInt32).toInt32))])) _
    refine XS.bipush X0.here hx rfl (hb hby at_112) ?_
    show Steps p.tables e below (s₁.setTop (mkF m 114 #[.val (.int p1), .val (.int p2), .val (.int p3), .val (.int (own_b p1)), .val (.int (p3 &&& (3 : Int32))), .val (.int (own_x p1 p2)), .unset] [(.int (63 : Int32)), (.int ((p1.toUInt32 >>> ((6 : Int32) &&& 31).toUInt32).toInt32))])) _
    refine XS.iand X0.here hx rfl (hb hby at_114) rfl ?_
    show Steps p.tables e below (s₁.setTop (mkF m 115 #[.val (.int p1), .val (.int p2), .val (.int p3), .val (.int (own_b p1)), .val (.int (p3 &&& (3 : Int32))), .val (.int (own_x p1 p2)), .unset] [(.int (((p1.toUInt32 >>> ((6 : Int32) &&& 31).toUInt32).toInt32) &&& (63 : Int32)))])) _
    refine XS.iload X0.here hx rfl (hb hby at_115) rfl ?_
    show Steps p.tables e below (s₁.setTop (mkF m 117 #[.val (.int p1), .val (.int p2), .val (.int p3), .val (.int (own_b p1)), .val (.int (p3 &&& (3 : Int32))), .val (.int (own_x p1 p2)), .unset] [(.int (own_x p1 p2)), (.int (((p1.toUInt32 >>> ((6 : Int32) &&& 31).toUInt32).toInt32) &&& (63 : Int32)))])) _
    refine XS.bipush X0.here hx rfl (hb hby at_117) ?_
    show Steps p.tables e below (s₁.setTop (mkF m 119 #[.val (.int p1), .val (.int p2), .val (.int p3), .val (.int (own_b p1)), .val (.int (p3 &&& (3 : Int32))), .val (.int (own_x p1 p2)), .unset] [(.int (6 : Int32)), (.int (own_x p1 p2)), (.int (((p1.toUInt32 >>> ((6 : Int32) &&& 31).toUInt32).toInt32) &&& (63 : Int32)))])) _
    refine XS.iushr X0.here hx rfl (hb hby at_119) rfl ?_
    show Steps p.tables e below (s₁.setTop (mkF m 120 #[.val (.int p1), .val (.int p2), .val (.int p3), .val (.int (own_b p1)), .val (.int (p3 &&& (3 : Int32))), .val (.int (own_x p1 p2)), .unset] [(.int (((own_x p1 p2).toUInt32 >>> ((6 : Int32) &&& 31).toUInt32).toInt32)), (.int (((p1.toUInt32 >>> ((6 : Int32) &&& 31).toUInt32).toInt32) &&& (63 : Int32)))])) _
    refine XS.bipush X0.here hx rfl (hb hby at_120) ?_
    show Steps p.tables e below (s₁.setTop (mkF m 122 #[.val (.int p1), .val (.int p2), .val (.int p3), .val (.int (own_b p1)), .val (.int (p3 &&& (3 : Int32))), .val (.int (own_x p1 p2)), .unset] [(.int (63 : Int32)), (.int (((own_x p1 p2).toUInt32 >>> ((6 : Int32) &&& 31).toUInt32).toInt32)), (.int (((p1.toUInt32 >>> ((6 : Int32) &&& 31).toUInt32).toInt32) &&& (63 : Int32)))])) _
    refine XS.iand X0.here hx rfl (hb hby at_122) rfl ?_
    show Steps p.tables e below (s₁.setTop (mkF m 123 #[.val (.int p1), .val (.int p2), .val (.int p3), .val (.int (own_b p1)), .val (.int (p3 &&& (3 : Int32))), .val (.int (own_x p1 p2)), .unset] [(.int ((((own_x p1 p2).toUInt32 >>> ((6 : Int32) &&& 31).toUInt32).toInt32) &&& (63 : Int32))), (.int (((p1.toUInt32 >>> ((6 : Int32) &&& 31).toUInt32).toInt32) &&& (63 : Int32)))])) _
    refine XS.icmpNo X0.here hx rfl (hb hby at_123) rfl (teq hc123).2 ?_
    show Steps p.tables e below (s₁.setTop (mkF m 126 #[.val (.int p1), .val (.int p2), .val (.int p3), .val (.int (own_b p1)), .val (.int (p3 &&& (3 : Int32))), .val (.int (own_x p1 p2)), .unset] [])) _
    refine XS.iloadN X0.here hx rfl (hb hby at_126) rfl ?_
    show Steps p.tables e below (s₁.setTop (mkF m 127 #[.val (.int p1), .val (.int p2), .val (.int p3), .val (.int (own_b p1)), .val (.int (p3 &&& (3 : Int32))), .val (.int (own_x p1 p2)), .unset] [(.int p1)])) _
    refine XS.bipush X0.here hx rfl (hb hby at_127) ?_
    show Steps p.tables e below (s₁.setTop (mkF m 129 #[.val (.int p1), .val (.int p2), .val (.int p3), .val (.int (own_b p1)), .val (.int (p3 &&& (3 : Int32))), .val (.int (own_x p1 p2)), .unset] [(.int (15 : Int32)), (.int p1)])) _
    refine XS.iushr X0.here hx rfl (hb hby at_129) rfl ?_
    show Steps p.tables e below (s₁.setTop (mkF m 130 #[.val (.int p1), .val (.int p2), .val (.int p3), .val (.int (own_b p1)), .val (.int (p3 &&& (3 : Int32))), .val (.int (own_x p1 p2)), .unset] [(.int ((p1.toUInt32 >>> ((15 : Int32) &&& 31).toUInt32).toInt32))])) _
    refine XS.bipush X0.here hx rfl (hb hby at_130) ?_
    show Steps p.tables e below (s₁.setTop (mkF m 132 #[.val (.int p1), .val (.int p2), .val (.int p3), .val (.int (own_b p1)), .val (.int (p3 &&& (3 : Int32))), .val (.int (own_x p1 p2)), .unset] [(.int (7 : Int32)), (.int ((p1.toUInt32 >>> ((15 : Int32) &&& 31).toUInt32).toInt32))])) _
    refine XS.iand X0.here hx rfl (hb hby at_132) rfl ?_
    show Steps p.tables e below (s₁.setTop (mkF m 133 #[.val (.int p1), .val (.int p2), .val (.int p3), .val (.int (own_b p1)), .val (.int (p3 &&& (3 : Int32))), .val (.int (own_x p1 p2)), .unset] [(.int (((p1.toUInt32 >>> ((15 : Int32) &&& 31).toUInt32).toInt32) &&& (7 : Int32)))])) _
    refine XS.iload X0.here hx rfl (hb hby at_133) rfl ?_
    show Steps p.tables e below (s₁.setTop (mkF m 135 #[.val (.int p1), .val (.int p2), .val (.int p3), .val (.int (own_b p1)), .val (.int (p3 &&& (3 : Int32))), .val (.int (own_x p1 p2)), .unset] [(.int (own_x p1 p2)), (.int (((p1.toUInt32 >>> ((15 : Int32) &&& 31).toUInt32).toInt32) &&& (7 : Int32)))])) _
    refine XS.bipush X0.here hx rfl (hb hby at_135) ?_
    show Steps p.tables e below (s₁.setTop (mkF m 137 #[.val (.int p1), .val (.int p2), .val (.int p3), .val (.int (own_b p1)), .val (.int (p3 &&& (3 : Int32))), .val (.int (own_x p1 p2)), .unset] [(.int (15 : Int32)), (.int (own_x p1 p2)), (.int (((p1.toUInt32 >>> ((15 : Int32) &&& 31).toUInt32).toInt32) &&& (7 : Int32)))])) _
    refine XS.iushr X0.here hx rfl (hb hby at_137) rfl ?_
    show Steps p.tables e below (s₁.setTop (mkF m 138 #[.val (.int p1), .val (.int p2), .val (.int p3), .val (.int (own_b p1)), .val (.int (p3 &&& (3 : Int32))), .val (.int (own_x p1 p2)), .unset] [(.int (((own_x p1 p2).toUInt32 >>> ((15 : Int32) &&& 31).toUInt32).toInt32)), (.int (((p1.toUInt32 >>> ((15 : Int32) &&& 31).toUInt32).toInt32) &&& (7 : Int32)))])) _
    refine XS.bipush X0.here hx rfl (hb hby at_138) ?_
    show Steps p.tables e below (s₁.setTop (mkF m 140 #[.val (.int p1), .val (.int p2), .val (.int p3), .val (.int (own_b p1)), .val (.int (p3 &&& (3 : Int32))), .val (.int (own_x p1 p2)), .unset] [(.int (7 : Int32)), (.int (((own_x p1 p2).toUInt32 >>> ((15 : Int32) &&& 31).toUInt32).toInt32)), (.int (((p1.toUInt32 >>> ((15 : Int32) &&& 31).toUInt32).toInt32) &&& (7 : Int32)))])) _
    refine XS.iand X0.here hx rfl (hb hby at_140) rfl ?_
    show Steps p.tables e below (s₁.setTop (mkF m 141 #[.val (.int p1), .val (.int p2), .val (.int p3), .val (.int (own_b p1)), .val (.int (p3 &&& (3 : Int32))), .val (.int (own_x p1 p2)), .unset] [(.int ((((own_x p1 p2).toUInt32 >>> ((15 : Int32) &&& 31).toUInt32).toInt32) &&& (7 : Int32))), (.int (((p1.toUInt32 >>> ((15 : Int32) &&& 31).toUInt32).toInt32) &&& (7 : Int32)))])) _
    refine XS.icmpNo X0.here hx rfl (hb hby at_141) rfl (teq hc141).2 ?_
    show Steps p.tables e below (s₁.setTop (mkF m 144 #[.val (.int p1), .val (.int p2), .val (.int p3), .val (.int (own_b p1)), .val (.int (p3 &&& (3 : Int32))), .val (.int (own_x p1 p2)), .unset] [])) _
    refine XS.iconst X0.here hx rfl (hb hby at_144) ?_
    show Steps p.tables e below (s₁.setTop (mkF m 145 #[.val (.int p1), .val (.int p2), .val (.int p3), .val (.int (own_b p1)), .val (.int (p3 &&& (3 : Int32))), .val (.int (own_x p1 p2)), .unset] [(.int (1 : Int32))])) _
    refine XS.goto X0.here hx rfl (pc0 := 145) (pc' := 149) rfl (hb hby at_145) (by decide) (by decide) ?_
    show Steps p.tables e below (s₁.setTop (mkF m 149 #[.val (.int p1), .val (.int p2), .val (.int p3), .val (.int (own_b p1)), .val (.int (p3 &&& (3 : Int32))), .val (.int (own_x p1 p2)), .unset] [(.int (1 : Int32))])) _
    refine XS.istore X0.here hx rfl (hb hby at_149) rfl (l' := #[.val (.int p1), .val (.int p2), .val (.int p3), .val (.int (own_b p1)), .val (.int (p3 &&& (3 : Int32))), .val (.int (own_x p1 p2)), .val (.int (1 : Int32))]) rfl ?_
    show Steps p.tables e below (s₁.setTop (mkF m 151 #[.val (.int p1), .val (.int p2), .val (.int p3), .val (.int (own_b p1)), .val (.int (p3 &&& (3 : Int32))), .val (.int (own_x p1 p2)), .val (.int (1 : Int32))] [])) _
    refine XS.iloadN X0.here hx rfl (hb hby at_151) rfl ?_
    show Steps p.tables e below (s₁.setTop (mkF m 152 #[.val (.int p1), .val (.int p2), .val (.int p3), .val (.int (own_b p1)), .val (.int (p3 &&& (3 : Int32))), .val (.int (own_x p1 p2)), .val (.int (1 : Int32))] [(.int p1)])) _
    refine XS.iload X0.here hx rfl (hb hby at_152) rfl ?_
    show Steps p.tables e below (s₁.setTop (mkF m 154 #[.val (.int p1), .val (.int p2), .val (.int p3), .val (.int (own_b p1)), .val (.int (p3 &&& (3 : Int32))), .val (.int (own_x p1 p2)), .val (.int (1 : Int32))] [(.int (own_x p1 p2)), (.int p1)])) _
    refine st4 _ ?_
    show Steps p.tables e below (T4.setTop (mkF m 157 #[.val (.int p1), .val (.int p2), .val (.int p3), .val (.int (own_b p1)), .val (.int (p3 &&& (3 : Int32))), .val (.int (own_x p1 p2)), .val (.int (1 : Int32))] [(.int (val1 p1 (own_x p1 p2)))])) _
    refine XS.iload X4.here hx rfl (hb hby at_157) rfl ?_
    show Steps p.tables e below (T4.setTop (mkF m 159 #[.val (.int p1), .val (.int p2), .val (.int p3), .val (.int (own_b p1)), .val (.int (p3 &&& (3 : Int32))), .val (.int (own_x p1 p2)), .val (.int (1 : Int32))] [(.int (1 : Int32)), (.int (val1 p1 (own_x p1 p2)))])) _
    refine XS.icmpNo X4.here hx rfl (hb hby at_159) rfl (teq (by unfold val1; rw [if_pos ((own_iff _ _).mpr ⟨hc82, hc93, hc105, hc123, hc141⟩)] : (val1 p1 (own_x p1 p2)) = (1 : Int32))).2 ?_
    show Steps p.tables e below (T4.setTop (mkF m 162 #[.val (.int p1), .val (.int p2), .val (.int p3), .val (.int (own_b p1)), .val (.int (p3 &&& (3 : Int32))), .val (.int (own_x p1 p2)), .val (.int (1 : Int32))] [])) _
    refine XS.iconst X4.here hx rfl (hb hby at_162) ?_
    show Steps p.tables e below (T4.setTop (mkF m 163 #[.val (.int p1), .val (.int p2), .val (.int p3), .val (.int (own_b p1)), .val (.int (p3 &&& (3 : Int32))), .val (.int (own_x p1 p2)), .val (.int (1 : Int32))] [(.int (1 : Int32))])) _
    refine XS.goto X4.here hx rfl (pc0 := 163) (pc' := 167) rfl (hb hby at_163) (by decide) (by decide) ?_
    show Steps p.tables e below (T4.setTop (mkF m 167 #[.val (.int p1), .val (.int p2), .val (.int p3), .val (.int (own_b p1)), .val (.int (p3 &&& (3 : Int32))), .val (.int (own_x p1 p2)), .val (.int (1 : Int32))] [(.int (1 : Int32))])) _
    exact retN X4 hx (t := .boolean) Bd.returns (by simp) (hb hby at_167) hr
  · show Q0 Z p1 p2 p3 h0 n0 _ T4.heap _
    exact ⟨rfl, N4⟩

set_option maxRecDepth 65536 in
set_option maxHeartbeats 40000000 in
theorem rm0_tftf (l : Launch) (Z : State) (a0 : Array Value) (hw : ∀ d ∈ tables_1, d.before a0 Z = true) (ws : List Jvm.Cond) (p1 : Int32) (p2 : Int32) (p3 : Int32) (h0 : Heap) (n0 : Nat) (Z0 : n0 ≤ h0.size) (hc34 : ¬ ((p3 &&& (3 : Int32)) = (0 : Int32))) (hc46 : (p3 &&& (3 : Int32)) = (1 : Int32)) (hc82 : ¬ ((((own_b p1).toUInt32 >>> ((18 : Int32) &&& 31).toUInt32).toInt32) = (0 : Int32))) :
    MetFree l x (head1 (Jvm.Cond.code x code maxLocals ret :: ws) room_1) (fun a U => a = #[(.int p1), (.int p2), (.int p3)] ∧ Z.Warmed39 U.vm ∧ U.heap = h0) (fun _ _ _ _ _ => True) (fun _ U o U' => ∃ v L, o = .returned v ∧ Q0 Z p1 p2 p3 h0 n0 v U'.heap L ∧ FrameEnd U o U' L room_1.cells room_1.slots) := by
  refine MetFree.of_bodySF (plainFor_of_name pn_0) hisR ?_
  intro p e s m args below meth c s₁ Bd hml0 hP hK
  obtain ⟨rfl, hZ, hh⟩ := hP
  have hx := Bd.exec
  have hby := Bd.bytes
  have hml : c.maxLocals = 7 := hml0
  have hown : s.vm.findClass "touchmove/position/PackedMoveIsPinLaw" = some m.cls := findClass_of_methodNamed Bd.named
  have hnm := (name_of_methodNamed Bd.named Bd.method).1
  have X0 : Stand p l e room_1 s m #[(.int p1), (.int p2), (.int p3)] below meth c s₁ [] 0 0 := Stand.of_body Bd
  have e0 : s₁.heap = h0 := by rw [← hh, Bd.state]; rfl
  have N0 := Fr.nil n0
  have pre0 : ∀ t, Steps p.tables e below (s₁.setTop (mkF m 0 #[.val (.int p1), .val (.int p2), .val (.int p3), .unset, .unset, .unset, .unset] [])) t → Steps p.tables e below (s₁.setTop (entryFrame m #[(.int p1), (.int p2), (.int p3)] maxLocals)) t := fun t k => castTop (ef_0 m p1 p2 p3) k
  obtain ⟨_, _, ⟨T4, L4, k4, n4⟩, -, X4, ⟨Lc4, hQ4, l4, y4, z4⟩, st4⟩ := Jvm.LawKit.callS X0 hx (y := (⟨"touchmove/position/PackedMove", "is", "(II)Z"⟩ : MethodName)) hown (mvT hZ (hw _ (List.mem_of_getElem? (i := 0) rfl))) (mvT hZ (hw _ (List.mem_of_getElem? (i := 1) rfl))) (mvT hZ (hw _ (List.mem_of_getElem? (i := 2) rfl))) (mvT hZ (hw _ (List.mem_of_getElem? (i := 3) rfl))) (by decide) (backOf (W := 0) (rm1 l Z a0 hw [] p1 (own_b p1) h0 n0 Z0) hZ (hw _ (List.mem_of_getElem? (i := 3) rfl)) (hw _ (List.mem_of_getElem? (i := 2) rfl)) (by decide) (by decide)) (g := (mkF m 154 #[.val (.int p1), .val (.int p2), .val (.int p3), .val (.int (own_b p1)), .val (.int (p3 &&& (3 : Int32))), .val (.int (own_b p1)), .val (.int (0 : Int32))] [(.int (own_b p1)), (.int p1)])) rfl (by rw [hml]; rfl) (argsL := [(.int p1), (.int (own_b p1))]) (rest := []) (lenOf pd_0_0 rfl) rfl (by show 2 * 0 + _ ≤ _; exact Nat.le_of_eq rfl) (hb hby at_154) (fun _ _ => ⟨rfl, e0, (by decide : 0 + 0 ≤ _), (by decide : 0 + 0 ≤ _)⟩)
  dsimp only [Pt.U, Pt.locs, Pt.cells, Pt.slots] at X4 l4 y4 z4 st4 hQ4
  subst l4 y4 z4
  obtain ⟨rfl, N4q, w4⟩ := hQ4
  have N4 := Fr.app N0 N4q
  obtain ⟨fs, hr, hrun, hended, hW, hsame⟩ := X4.leave (v := some (.int (1 : Int32))) (fun h => by rw [Bd.returns] at h; cases h)
  refine ⟨_, _, pre0 _ ?_, hrun, hended, _, _, rfl, ?_, ⟨_, rfl⟩, hW, hsame.mono (by decide) (by decide)⟩
  · show Steps p.tables e below (s₁.setTop (mkF m 0 #[.val (.int p1), .val (.int p2), .val (.int p3), .unset, .unset, .unset, .unset] [])) _
    refine XS.iloadN X0.here hx rfl (hb hby at_0) rfl ?_
    show Steps p.tables e below (s₁.setTop (mkF m 1 #[.val (.int p1), .val (.int p2), .val (.int p3), .unset, .unset, .unset, .unset] [(.int p1)])) _
    refine XS.bipush X0.here hx rfl (hb hby at_1) ?_
    show Steps p.tables e below (s₁.setTop (mkF m 3 #[.val (.int p1), .val (.int p2), .val (.int p3), .unset, .unset, .unset, .unset] [(.int (63 : Int32)), (.int p1)])) _
    refine XS.iand X0.here hx rfl (hb hby at_3) rfl ?_
    show Steps p.tables e below (s₁.setTop (mkF m 4 #[.val (.int p1), .val (.int p2), .val (.int p3), .unset, .unset, .unset, .unset] [(.int (p1 &&& (63 : Int32)))])) _
    refine XS.iloadN X0.here hx rfl (hb hby at_4) rfl ?_
    show Steps p.tables e below (s₁.setTop (mkF m 5 #[.val (.int p1), .val (.int p2), .val (.int p3), .unset, .unset, .unset, .unset] [(.int p1), (.int (p1 &&& (63 : Int32)))])) _
    refine XS.bipush X0.here hx rfl (hb hby at_5) ?_
    show Steps p.tables e below (s₁.setTop (mkF m 7 #[.val (.int p1), .val (.int p2), .val (.int p3), .unset, .unset, .unset, .unset] [(.int (6 : Int32)), (.int p1), (.int (p1 &&& (63 : Int32)))])) _
    refine XS.iushr X0.here hx rfl (hb hby at_7) rfl ?_
    show Steps p.tables e below (s₁.setTop (mkF m 8 #[.val (.int p1), .val (.int p2), .val (.int p3), .unset, .unset, .unset, .unset] [(.int ((p1.toUInt32 >>> ((6 : Int32) &&& 31).toUInt32).toInt32)), (.int (p1 &&& (63 : Int32)))])) _
    refine XS.bipush X0.here hx rfl (hb hby at_8) ?_
    show Steps p.tables e below (s₁.setTop (mkF m 10 #[.val (.int p1), .val (.int p2), .val (.int p3), .unset, .unset, .unset, .unset] [(.int (63 : Int32)), (.int ((p1.toUInt32 >>> ((6 : Int32) &&& 31).toUInt32).toInt32)), (.int (p1 &&& (63 : Int32)))])) _
    refine XS.iand X0.here hx rfl (hb hby at_10) rfl ?_
    show Steps p.tables e below (s₁.setTop (mkF m 11 #[.val (.int p1), .val (.int p2), .val (.int p3), .unset, .unset, .unset, .unset] [(.int (((p1.toUInt32 >>> ((6 : Int32) &&& 31).toUInt32).toInt32) &&& (63 : Int32))), (.int (p1 &&& (63 : Int32)))])) _
    refine XS.bipush X0.here hx rfl (hb hby at_11) ?_
    show Steps p.tables e below (s₁.setTop (mkF m 13 #[.val (.int p1), .val (.int p2), .val (.int p3), .unset, .unset, .unset, .unset] [(.int (6 : Int32)), (.int (((p1.toUInt32 >>> ((6 : Int32) &&& 31).toUInt32).toInt32) &&& (63 : Int32))), (.int (p1 &&& (63 : Int32)))])) _
    refine XS.ishl X0.here hx rfl (hb hby at_13) rfl ?_
    show Steps p.tables e below (s₁.setTop (mkF m 14 #[.val (.int p1), .val (.int p2), .val (.int p3), .unset, .unset, .unset, .unset] [(.int ((((p1.toUInt32 >>> ((6 : Int32) &&& 31).toUInt32).toInt32) &&& (63 : Int32)) <<< ((6 : Int32) &&& 31))), (.int (p1 &&& (63 : Int32)))])) _
    refine XS.ior X0.here hx rfl (hb hby at_14) rfl ?_
    show Steps p.tables e below (s₁.setTop (mkF m 15 #[.val (.int p1), .val (.int p2), .val (.int p3), .unset, .unset, .unset, .unset] [(.int ((p1 &&& (63 : Int32)) ||| ((((p1.toUInt32 >>> ((6 : Int32) &&& 31).toUInt32).toInt32) &&& (63 : Int32)) <<< ((6 : Int32) &&& 31))))])) _
    refine XS.iloadN X0.here hx rfl (hb hby at_15) rfl ?_
    show Steps p.tables e below (s₁.setTop (mkF m 16 #[.val (.int p1), .val (.int p2), .val (.int p3), .unset, .unset, .unset, .unset] [(.int p1), (.int ((p1 &&& (63 : Int32)) ||| ((((p1.toUInt32 >>> ((6 : Int32) &&& 31).toUInt32).toInt32) &&& (63 : Int32)) <<< ((6 : Int32) &&& 31))))])) _
    refine XS.bipush X0.here hx rfl (hb hby at_16) ?_
    show Steps p.tables e below (s₁.setTop (mkF m 18 #[.val (.int p1), .val (.int p2), .val (.int p3), .unset, .unset, .unset, .unset] [(.int (15 : Int32)), (.int p1), (.int ((p1 &&& (63 : Int32)) ||| ((((p1.toUInt32 >>> ((6 : Int32) &&& 31).toUInt32).toInt32) &&& (63 : Int32)) <<< ((6 : Int32) &&& 31))))])) _
    refine XS.iushr X0.here hx rfl (hb hby at_18) rfl ?_
    show Steps p.tables e below (s₁.setTop (mkF m 19 #[.val (.int p1), .val (.int p2), .val (.int p3), .unset, .unset, .unset, .unset] [(.int ((p1.toUInt32 >>> ((15 : Int32) &&& 31).toUInt32).toInt32)), (.int ((p1 &&& (63 : Int32)) ||| ((((p1.toUInt32 >>> ((6 : Int32) &&& 31).toUInt32).toInt32) &&& (63 : Int32)) <<< ((6 : Int32) &&& 31))))])) _
    refine XS.bipush X0.here hx rfl (hb hby at_19) ?_
    show Steps p.tables e below (s₁.setTop (mkF m 21 #[.val (.int p1), .val (.int p2), .val (.int p3), .unset, .unset, .unset, .unset] [(.int (7 : Int32)), (.int ((p1.toUInt32 >>> ((15 : Int32) &&& 31).toUInt32).toInt32)), (.int ((p1 &&& (63 : Int32)) ||| ((((p1.toUInt32 >>> ((6 : Int32) &&& 31).toUInt32).toInt32) &&& (63 : Int32)) <<< ((6 : Int32) &&& 31))))])) _
    refine XS.iand X0.here hx rfl (hb hby at_21) rfl ?_
    show Steps p.tables e below (s₁.setTop (mkF m 22 #[.val (.int p1), .val (.int p2), .val (.int p3), .unset, .unset, .unset, .unset] [(.int (((p1.toUInt32 >>> ((15 : Int32) &&& 31).toUInt32).toInt32) &&& (7 : Int32))), (.int ((p1 &&& (63 : Int32)) ||| ((((p1.toUInt32 >>> ((6 : Int32) &&& 31).toUInt32).toInt32) &&& (63 : Int32)) <<< ((6 : Int32) &&& 31))))])) _
    refine XS.bipush X0.here hx rfl (hb hby at_22) ?_
    show Steps p.tables e below (s₁.setTop (mkF m 24 #[.val (.int p1), .val (.int p2), .val (.int p3), .unset, .unset, .unset, .unset] [(.int (15 : Int32)), (.int (((p1.toUInt32 >>> ((15 : Int32) &&& 31).toUInt32).toInt32) &&& (7 : Int32))), (.int ((p1 &&& (63 : Int32)) ||| ((((p1.toUInt32 >>> ((6 : Int32) &&& 31).toUInt32).toInt32) &&& (63 : Int32)) <<< ((6 : Int32) &&& 31))))])) _
    refine XS.ishl X0.here hx rfl (hb hby at_24) rfl ?_
    show Steps p.tables e below (s₁.setTop (mkF m 25 #[.val (.int p1), .val (.int p2), .val (.int p3), .unset, .unset, .unset, .unset] [(.int ((((p1.toUInt32 >>> ((15 : Int32) &&& 31).toUInt32).toInt32) &&& (7 : Int32)) <<< ((15 : Int32) &&& 31))), (.int ((p1 &&& (63 : Int32)) ||| ((((p1.toUInt32 >>> ((6 : Int32) &&& 31).toUInt32).toInt32) &&& (63 : Int32)) <<< ((6 : Int32) &&& 31))))])) _
    refine XS.ior X0.here hx rfl (hb hby at_25) rfl ?_
    show Steps p.tables e below (s₁.setTop (mkF m 26 #[.val (.int p1), .val (.int p2), .val (.int p3), .unset, .unset, .unset, .unset] [(.int (own_b p1))])) _
    refine XS.istoreN X0.here hx rfl (hb hby at_26) rfl (l' := #[.val (.int p1), .val (.int p2), .val (.int p3), .val (.int (own_b p1)), .unset, .unset, .unset]) rfl ?_
    show Steps p.tables e below (s₁.setTop (mkF m 27 #[.val (.int p1), .val (.int p2), .val (.int p3), .val (.int (own_b p1)), .unset, .unset, .unset] [])) _
    refine XS.iloadN X0.here hx rfl (hb hby at_27) rfl ?_
    show Steps p.tables e below (s₁.setTop (mkF m 28 #[.val (.int p1), .val (.int p2), .val (.int p3), .val (.int (own_b p1)), .unset, .unset, .unset] [(.int p3)])) _
    refine XS.iconst X0.here hx rfl (hb hby at_28) ?_
    show Steps p.tables e below (s₁.setTop (mkF m 29 #[.val (.int p1), .val (.int p2), .val (.int p3), .val (.int (own_b p1)), .unset, .unset, .unset] [(.int (3 : Int32)), (.int p3)])) _
    refine XS.iand X0.here hx rfl (hb hby at_29) rfl ?_
    show Steps p.tables e below (s₁.setTop (mkF m 30 #[.val (.int p1), .val (.int p2), .val (.int p3), .val (.int (own_b p1)), .unset, .unset, .unset] [(.int (p3 &&& (3 : Int32)))])) _
    refine XS.istore X0.here hx rfl (hb hby at_30) rfl (l' := #[.val (.int p1), .val (.int p2), .val (.int p3), .val (.int (own_b p1)), .val (.int (p3 &&& (3 : Int32))), .unset, .unset]) rfl ?_
    show Steps p.tables e below (s₁.setTop (mkF m 32 #[.val (.int p1), .val (.int p2), .val (.int p3), .val (.int (own_b p1)), .val (.int (p3 &&& (3 : Int32))), .unset, .unset] [])) _
    refine XS.iload X0.here hx rfl (hb hby at_32) rfl ?_
    show Steps p.tables e below (s₁.setTop (mkF m 34 #[.val (.int p1), .val (.int p2), .val (.int p3), .val (.int (own_b p1)), .val (.int (p3 &&& (3 : Int32))), .unset, .unset] [(.int (p3 &&& (3 : Int32)))])) _
    refine XS.ifYes X0.here hx rfl (pc0 := 34) (pc' := 43) rfl (hb hby at_34) rfl ((if0 _ _).trans (feq hc34).2) (by decide) (by decide) ?_
    show Steps p.tables e below (s₁.setTop (mkF m 43 #[.val (.int p1), .val (.int p2), .val (.int p3), .val (.int (own_b p1)), .val (.int (p3 &&& (3 : Int32))), .unset, .unset] [])) _
    refine XS.iload X0.here hx rfl (hb hby at_43) rfl ?_
    show Steps p.tables e below (s₁.setTop (mkF m 45 #[.val (.int p1), .val (.int p2), .val (.int p3), .val (.int (own_b p1)), .val (.int (p3 &&& (3 : Int32))), .unset, .unset] [(.int (p3 &&& (3 : Int32)))])) _
    refine XS.iconst X0.here hx rfl (hb hby at_45) ?_
    show Steps p.tables e below (s₁.setTop (mkF m 46 #[.val (.int p1), .val (.int p2), .val (.int p3), .val (.int (own_b p1)), .val (.int (p3 &&& (3 : Int32))), .unset, .unset] [(.int (1 : Int32)), (.int (p3 &&& (3 : Int32)))])) _
    refine XS.icmpNo X0.here hx rfl (hb hby at_46) rfl (teq hc46).2 ?_
    show Steps p.tables e below (s₁.setTop (mkF m 49 #[.val (.int p1), .val (.int p2), .val (.int p3), .val (.int (own_b p1)), .val (.int (p3 &&& (3 : Int32))), .unset, .unset] [])) _
    refine XS.iloadN X0.here hx rfl (hb hby at_49) rfl ?_
    show Steps p.tables e below (s₁.setTop (mkF m 50 #[.val (.int p1), .val (.int p2), .val (.int p3), .val (.int (own_b p1)), .val (.int (p3 &&& (3 : Int32))), .unset, .unset] [(.int (own_b p1))])) _
    refine XS.istore X0.here hx rfl (hb hby at_50) rfl (l' := #[.val (.int p1), .val (.int p2), .val (.int p3), .val (.int (own_b p1)), .val (.int (p3 &&& (3 : Int32))), .val (.int (own_b p1)), .unset]) rfl ?_
    show Steps p.tables e below (s₁.setTop (mkF m 52 #[.val (.int p1), .val (.int p2), .val (.int p3), .val (.int (own_b p1)), .val (.int (p3 &&& (3 : Int32))), .val (.int (own_b p1)), .unset] [])) _
    refine XS.goto X0.here hx rfl (pc0 := 52) (pc' := 77) rfl (hb hby at_52) (by decide) (by decide) ?_
    show Steps p.tables e below (s₁.setTop (mkF m 77 #[.val (.int p1), .val (.int p2), .val (.int p3), .val (.int (own_b p1)), .val (.int (p3 &&& (3 : Int32))), .val (.int (own_b p1)), .unset] [])) _
    refine XS.iload X0.here hx rfl (hb hby at_77) rfl ?_
    show Steps p.tables e below (s₁.setTop (mkF m 79 #[.val (.int p1), .val (.int p2), .val (.int p3), .val (.int (own_b p1)), .val (.int (p3 &&& (3 : Int32))), .val (.int (own_b p1)), .unset] [(.int (own_b p1))])) _
    refine XS.bipush X0.here hx rfl (hb hby at_79) ?_
    show Steps p.tables e below (s₁.setTop (mkF m 81 #[.val (.int p1), .val (.int p2), .val (.int p3), .val (.int (own_b p1)), .val (.int (p3 &&& (3 : Int32))), .val (.int (own_b p1)), .unset] [(.int (18 : Int32)), (.int (own_b p1))])) _
    refine XS.iushr X0.here hx rfl (hb hby at_81) rfl ?_
    show Steps p.tables e below (s₁.setTop (mkF m 82 #[.val (.int p1), .val (.int p2), .val (.int p3), .val (.int (own_b p1)), .val (.int (p3 &&& (3 : Int32))), .val (.int (own_b p1)), .unset] [(.int (((own_b p1).toUInt32 >>> ((18 : Int32) &&& 31).toUInt32).toInt32))])) _
    refine XS.ifYes X0.here hx rfl (pc0 := 82) (pc' := 148) rfl (hb hby at_82) rfl ((if0 _ _).trans (feq hc82).2) (by decide) (by decide) ?_
    show Steps p.tables e below (s₁.setTop (mkF m 148 #[.val (.int p1), .val (.int p2), .val (.int p3), .val (.int (own_b p1)), .val (.int (p3 &&& (3 : Int32))), .val (.int (own_b p1)), .unset] [])) _
    refine XS.iconst X0.here hx rfl (hb hby at_148) ?_
    show Steps p.tables e below (s₁.setTop (mkF m 149 #[.val (.int p1), .val (.int p2), .val (.int p3), .val (.int (own_b p1)), .val (.int (p3 &&& (3 : Int32))), .val (.int (own_b p1)), .unset] [(.int (0 : Int32))])) _
    refine XS.istore X0.here hx rfl (hb hby at_149) rfl (l' := #[.val (.int p1), .val (.int p2), .val (.int p3), .val (.int (own_b p1)), .val (.int (p3 &&& (3 : Int32))), .val (.int (own_b p1)), .val (.int (0 : Int32))]) rfl ?_
    show Steps p.tables e below (s₁.setTop (mkF m 151 #[.val (.int p1), .val (.int p2), .val (.int p3), .val (.int (own_b p1)), .val (.int (p3 &&& (3 : Int32))), .val (.int (own_b p1)), .val (.int (0 : Int32))] [])) _
    refine XS.iloadN X0.here hx rfl (hb hby at_151) rfl ?_
    show Steps p.tables e below (s₁.setTop (mkF m 152 #[.val (.int p1), .val (.int p2), .val (.int p3), .val (.int (own_b p1)), .val (.int (p3 &&& (3 : Int32))), .val (.int (own_b p1)), .val (.int (0 : Int32))] [(.int p1)])) _
    refine XS.iload X0.here hx rfl (hb hby at_152) rfl ?_
    show Steps p.tables e below (s₁.setTop (mkF m 154 #[.val (.int p1), .val (.int p2), .val (.int p3), .val (.int (own_b p1)), .val (.int (p3 &&& (3 : Int32))), .val (.int (own_b p1)), .val (.int (0 : Int32))] [(.int (own_b p1)), (.int p1)])) _
    refine st4 _ ?_
    show Steps p.tables e below (T4.setTop (mkF m 157 #[.val (.int p1), .val (.int p2), .val (.int p3), .val (.int (own_b p1)), .val (.int (p3 &&& (3 : Int32))), .val (.int (own_b p1)), .val (.int (0 : Int32))] [(.int (val1 p1 (own_b p1)))])) _
    refine XS.iload X4.here hx rfl (hb hby at_157) rfl ?_
    show Steps p.tables e below (T4.setTop (mkF m 159 #[.val (.int p1), .val (.int p2), .val (.int p3), .val (.int (own_b p1)), .val (.int (p3 &&& (3 : Int32))), .val (.int (own_b p1)), .val (.int (0 : Int32))] [(.int (0 : Int32)), (.int (val1 p1 (own_b p1)))])) _
    refine XS.icmpNo X4.here hx rfl (hb hby at_159) rfl (teq (by unfold val1; rw [if_neg (fun q => hc82 ((own_iff _ _).mp q).1)] : (val1 p1 (own_b p1)) = (0 : Int32))).2 ?_
    show Steps p.tables e below (T4.setTop (mkF m 162 #[.val (.int p1), .val (.int p2), .val (.int p3), .val (.int (own_b p1)), .val (.int (p3 &&& (3 : Int32))), .val (.int (own_b p1)), .val (.int (0 : Int32))] [])) _
    refine XS.iconst X4.here hx rfl (hb hby at_162) ?_
    show Steps p.tables e below (T4.setTop (mkF m 163 #[.val (.int p1), .val (.int p2), .val (.int p3), .val (.int (own_b p1)), .val (.int (p3 &&& (3 : Int32))), .val (.int (own_b p1)), .val (.int (0 : Int32))] [(.int (1 : Int32))])) _
    refine XS.goto X4.here hx rfl (pc0 := 163) (pc' := 167) rfl (hb hby at_163) (by decide) (by decide) ?_
    show Steps p.tables e below (T4.setTop (mkF m 167 #[.val (.int p1), .val (.int p2), .val (.int p3), .val (.int (own_b p1)), .val (.int (p3 &&& (3 : Int32))), .val (.int (own_b p1)), .val (.int (0 : Int32))] [(.int (1 : Int32))])) _
    exact retN X4 hx (t := .boolean) Bd.returns (by simp) (hb hby at_167) hr
  · show Q0 Z p1 p2 p3 h0 n0 _ T4.heap _
    exact ⟨rfl, N4⟩

set_option maxRecDepth 65536 in
set_option maxHeartbeats 40000000 in
theorem rm0_tfftf (l : Launch) (Z : State) (a0 : Array Value) (hw : ∀ d ∈ tables_1, d.before a0 Z = true) (ws : List Jvm.Cond) (p1 : Int32) (p2 : Int32) (p3 : Int32) (h0 : Heap) (n0 : Nat) (Z0 : n0 ≤ h0.size) (hc34 : ¬ ((p3 &&& (3 : Int32)) = (0 : Int32))) (hc46 : (p3 &&& (3 : Int32)) = (1 : Int32)) (hc82 : (((own_b p1).toUInt32 >>> ((18 : Int32) &&& 31).toUInt32).toInt32) = (0 : Int32)) (hc93 : ¬ (((((own_b p1).toUInt32 >>> ((12 : Int32) &&& 31).toUInt32).toInt32) &&& (7 : Int32)) = (0 : Int32))) :
    MetFree l x (head1 (Jvm.Cond.code x code maxLocals ret :: ws) room_1) (fun a U => a = #[(.int p1), (.int p2), (.int p3)] ∧ Z.Warmed39 U.vm ∧ U.heap = h0) (fun _ _ _ _ _ => True) (fun _ U o U' => ∃ v L, o = .returned v ∧ Q0 Z p1 p2 p3 h0 n0 v U'.heap L ∧ FrameEnd U o U' L room_1.cells room_1.slots) := by
  refine MetFree.of_bodySF (plainFor_of_name pn_0) hisR ?_
  intro p e s m args below meth c s₁ Bd hml0 hP hK
  obtain ⟨rfl, hZ, hh⟩ := hP
  have hx := Bd.exec
  have hby := Bd.bytes
  have hml : c.maxLocals = 7 := hml0
  have hown : s.vm.findClass "touchmove/position/PackedMoveIsPinLaw" = some m.cls := findClass_of_methodNamed Bd.named
  have hnm := (name_of_methodNamed Bd.named Bd.method).1
  have X0 : Stand p l e room_1 s m #[(.int p1), (.int p2), (.int p3)] below meth c s₁ [] 0 0 := Stand.of_body Bd
  have e0 : s₁.heap = h0 := by rw [← hh, Bd.state]; rfl
  have N0 := Fr.nil n0
  have pre0 : ∀ t, Steps p.tables e below (s₁.setTop (mkF m 0 #[.val (.int p1), .val (.int p2), .val (.int p3), .unset, .unset, .unset, .unset] [])) t → Steps p.tables e below (s₁.setTop (entryFrame m #[(.int p1), (.int p2), (.int p3)] maxLocals)) t := fun t k => castTop (ef_0 m p1 p2 p3) k
  obtain ⟨_, _, ⟨T4, L4, k4, n4⟩, -, X4, ⟨Lc4, hQ4, l4, y4, z4⟩, st4⟩ := Jvm.LawKit.callS X0 hx (y := (⟨"touchmove/position/PackedMove", "is", "(II)Z"⟩ : MethodName)) hown (mvT hZ (hw _ (List.mem_of_getElem? (i := 0) rfl))) (mvT hZ (hw _ (List.mem_of_getElem? (i := 1) rfl))) (mvT hZ (hw _ (List.mem_of_getElem? (i := 2) rfl))) (mvT hZ (hw _ (List.mem_of_getElem? (i := 3) rfl))) (by decide) (backOf (W := 0) (rm1 l Z a0 hw [] p1 (own_b p1) h0 n0 Z0) hZ (hw _ (List.mem_of_getElem? (i := 3) rfl)) (hw _ (List.mem_of_getElem? (i := 2) rfl)) (by decide) (by decide)) (g := (mkF m 154 #[.val (.int p1), .val (.int p2), .val (.int p3), .val (.int (own_b p1)), .val (.int (p3 &&& (3 : Int32))), .val (.int (own_b p1)), .val (.int (0 : Int32))] [(.int (own_b p1)), (.int p1)])) rfl (by rw [hml]; rfl) (argsL := [(.int p1), (.int (own_b p1))]) (rest := []) (lenOf pd_0_0 rfl) rfl (by show 2 * 0 + _ ≤ _; exact Nat.le_of_eq rfl) (hb hby at_154) (fun _ _ => ⟨rfl, e0, (by decide : 0 + 0 ≤ _), (by decide : 0 + 0 ≤ _)⟩)
  dsimp only [Pt.U, Pt.locs, Pt.cells, Pt.slots] at X4 l4 y4 z4 st4 hQ4
  subst l4 y4 z4
  obtain ⟨rfl, N4q, w4⟩ := hQ4
  have N4 := Fr.app N0 N4q
  obtain ⟨fs, hr, hrun, hended, hW, hsame⟩ := X4.leave (v := some (.int (1 : Int32))) (fun h => by rw [Bd.returns] at h; cases h)
  refine ⟨_, _, pre0 _ ?_, hrun, hended, _, _, rfl, ?_, ⟨_, rfl⟩, hW, hsame.mono (by decide) (by decide)⟩
  · show Steps p.tables e below (s₁.setTop (mkF m 0 #[.val (.int p1), .val (.int p2), .val (.int p3), .unset, .unset, .unset, .unset] [])) _
    refine XS.iloadN X0.here hx rfl (hb hby at_0) rfl ?_
    show Steps p.tables e below (s₁.setTop (mkF m 1 #[.val (.int p1), .val (.int p2), .val (.int p3), .unset, .unset, .unset, .unset] [(.int p1)])) _
    refine XS.bipush X0.here hx rfl (hb hby at_1) ?_
    show Steps p.tables e below (s₁.setTop (mkF m 3 #[.val (.int p1), .val (.int p2), .val (.int p3), .unset, .unset, .unset, .unset] [(.int (63 : Int32)), (.int p1)])) _
    refine XS.iand X0.here hx rfl (hb hby at_3) rfl ?_
    show Steps p.tables e below (s₁.setTop (mkF m 4 #[.val (.int p1), .val (.int p2), .val (.int p3), .unset, .unset, .unset, .unset] [(.int (p1 &&& (63 : Int32)))])) _
    refine XS.iloadN X0.here hx rfl (hb hby at_4) rfl ?_
    show Steps p.tables e below (s₁.setTop (mkF m 5 #[.val (.int p1), .val (.int p2), .val (.int p3), .unset, .unset, .unset, .unset] [(.int p1), (.int (p1 &&& (63 : Int32)))])) _
    refine XS.bipush X0.here hx rfl (hb hby at_5) ?_
    show Steps p.tables e below (s₁.setTop (mkF m 7 #[.val (.int p1), .val (.int p2), .val (.int p3), .unset, .unset, .unset, .unset] [(.int (6 : Int32)), (.int p1), (.int (p1 &&& (63 : Int32)))])) _
    refine XS.iushr X0.here hx rfl (hb hby at_7) rfl ?_
    show Steps p.tables e below (s₁.setTop (mkF m 8 #[.val (.int p1), .val (.int p2), .val (.int p3), .unset, .unset, .unset, .unset] [(.int ((p1.toUInt32 >>> ((6 : Int32) &&& 31).toUInt32).toInt32)), (.int (p1 &&& (63 : Int32)))])) _
    refine XS.bipush X0.here hx rfl (hb hby at_8) ?_
    show Steps p.tables e below (s₁.setTop (mkF m 10 #[.val (.int p1), .val (.int p2), .val (.int p3), .unset, .unset, .unset, .unset] [(.int (63 : Int32)), (.int ((p1.toUInt32 >>> ((6 : Int32) &&& 31).toUInt32).toInt32)), (.int (p1 &&& (63 : Int32)))])) _
    refine XS.iand X0.here hx rfl (hb hby at_10) rfl ?_
    show Steps p.tables e below (s₁.setTop (mkF m 11 #[.val (.int p1), .val (.int p2), .val (.int p3), .unset, .unset, .unset, .unset] [(.int (((p1.toUInt32 >>> ((6 : Int32) &&& 31).toUInt32).toInt32) &&& (63 : Int32))), (.int (p1 &&& (63 : Int32)))])) _
    refine XS.bipush X0.here hx rfl (hb hby at_11) ?_
    show Steps p.tables e below (s₁.setTop (mkF m 13 #[.val (.int p1), .val (.int p2), .val (.int p3), .unset, .unset, .unset, .unset] [(.int (6 : Int32)), (.int (((p1.toUInt32 >>> ((6 : Int32) &&& 31).toUInt32).toInt32) &&& (63 : Int32))), (.int (p1 &&& (63 : Int32)))])) _
    refine XS.ishl X0.here hx rfl (hb hby at_13) rfl ?_
    show Steps p.tables e below (s₁.setTop (mkF m 14 #[.val (.int p1), .val (.int p2), .val (.int p3), .unset, .unset, .unset, .unset] [(.int ((((p1.toUInt32 >>> ((6 : Int32) &&& 31).toUInt32).toInt32) &&& (63 : Int32)) <<< ((6 : Int32) &&& 31))), (.int (p1 &&& (63 : Int32)))])) _
    refine XS.ior X0.here hx rfl (hb hby at_14) rfl ?_
    show Steps p.tables e below (s₁.setTop (mkF m 15 #[.val (.int p1), .val (.int p2), .val (.int p3), .unset, .unset, .unset, .unset] [(.int ((p1 &&& (63 : Int32)) ||| ((((p1.toUInt32 >>> ((6 : Int32) &&& 31).toUInt32).toInt32) &&& (63 : Int32)) <<< ((6 : Int32) &&& 31))))])) _
    refine XS.iloadN X0.here hx rfl (hb hby at_15) rfl ?_
    show Steps p.tables e below (s₁.setTop (mkF m 16 #[.val (.int p1), .val (.int p2), .val (.int p3), .unset, .unset, .unset, .unset] [(.int p1), (.int ((p1 &&& (63 : Int32)) ||| ((((p1.toUInt32 >>> ((6 : Int32) &&& 31).toUInt32).toInt32) &&& (63 : Int32)) <<< ((6 : Int32) &&& 31))))])) _
    refine XS.bipush X0.here hx rfl (hb hby at_16) ?_
    show Steps p.tables e below (s₁.setTop (mkF m 18 #[.val (.int p1), .val (.int p2), .val (.int p3), .unset, .unset, .unset, .unset] [(.int (15 : Int32)), (.int p1), (.int ((p1 &&& (63 : Int32)) ||| ((((p1.toUInt32 >>> ((6 : Int32) &&& 31).toUInt32).toInt32) &&& (63 : Int32)) <<< ((6 : Int32) &&& 31))))])) _
    refine XS.iushr X0.here hx rfl (hb hby at_18) rfl ?_
    show Steps p.tables e below (s₁.setTop (mkF m 19 #[.val (.int p1), .val (.int p2), .val (.int p3), .unset, .unset, .unset, .unset] [(.int ((p1.toUInt32 >>> ((15 : Int32) &&& 31).toUInt32).toInt32)), (.int ((p1 &&& (63 : Int32)) ||| ((((p1.toUInt32 >>> ((6 : Int32) &&& 31).toUInt32).toInt32) &&& (63 : Int32)) <<< ((6 : Int32) &&& 31))))])) _
    refine XS.bipush X0.here hx rfl (hb hby at_19) ?_
    show Steps p.tables e below (s₁.setTop (mkF m 21 #[.val (.int p1), .val (.int p2), .val (.int p3), .unset, .unset, .unset, .unset] [(.int (7 : Int32)), (.int ((p1.toUInt32 >>> ((15 : Int32) &&& 31).toUInt32).toInt32)), (.int ((p1 &&& (63 : Int32)) ||| ((((p1.toUInt32 >>> ((6 : Int32) &&& 31).toUInt32).toInt32) &&& (63 : Int32)) <<< ((6 : Int32) &&& 31))))])) _
    refine XS.iand X0.here hx rfl (hb hby at_21) rfl ?_
    show Steps p.tables e below (s₁.setTop (mkF m 22 #[.val (.int p1), .val (.int p2), .val (.int p3), .unset, .unset, .unset, .unset] [(.int (((p1.toUInt32 >>> ((15 : Int32) &&& 31).toUInt32).toInt32) &&& (7 : Int32))), (.int ((p1 &&& (63 : Int32)) ||| ((((p1.toUInt32 >>> ((6 : Int32) &&& 31).toUInt32).toInt32) &&& (63 : Int32)) <<< ((6 : Int32) &&& 31))))])) _
    refine XS.bipush X0.here hx rfl (hb hby at_22) ?_
    show Steps p.tables e below (s₁.setTop (mkF m 24 #[.val (.int p1), .val (.int p2), .val (.int p3), .unset, .unset, .unset, .unset] [(.int (15 : Int32)), (.int (((p1.toUInt32 >>> ((15 : Int32) &&& 31).toUInt32).toInt32) &&& (7 : Int32))), (.int ((p1 &&& (63 : Int32)) ||| ((((p1.toUInt32 >>> ((6 : Int32) &&& 31).toUInt32).toInt32) &&& (63 : Int32)) <<< ((6 : Int32) &&& 31))))])) _
    refine XS.ishl X0.here hx rfl (hb hby at_24) rfl ?_
    show Steps p.tables e below (s₁.setTop (mkF m 25 #[.val (.int p1), .val (.int p2), .val (.int p3), .unset, .unset, .unset, .unset] [(.int ((((p1.toUInt32 >>> ((15 : Int32) &&& 31).toUInt32).toInt32) &&& (7 : Int32)) <<< ((15 : Int32) &&& 31))), (.int ((p1 &&& (63 : Int32)) ||| ((((p1.toUInt32 >>> ((6 : Int32) &&& 31).toUInt32).toInt32) &&& (63 : Int32)) <<< ((6 : Int32) &&& 31))))])) _
    refine XS.ior X0.here hx rfl (hb hby at_25) rfl ?_
    show Steps p.tables e below (s₁.setTop (mkF m 26 #[.val (.int p1), .val (.int p2), .val (.int p3), .unset, .unset, .unset, .unset] [(.int (own_b p1))])) _
    refine XS.istoreN X0.here hx rfl (hb hby at_26) rfl (l' := #[.val (.int p1), .val (.int p2), .val (.int p3), .val (.int (own_b p1)), .unset, .unset, .unset]) rfl ?_
    show Steps p.tables e below (s₁.setTop (mkF m 27 #[.val (.int p1), .val (.int p2), .val (.int p3), .val (.int (own_b p1)), .unset, .unset, .unset] [])) _
    refine XS.iloadN X0.here hx rfl (hb hby at_27) rfl ?_
    show Steps p.tables e below (s₁.setTop (mkF m 28 #[.val (.int p1), .val (.int p2), .val (.int p3), .val (.int (own_b p1)), .unset, .unset, .unset] [(.int p3)])) _
    refine XS.iconst X0.here hx rfl (hb hby at_28) ?_
    show Steps p.tables e below (s₁.setTop (mkF m 29 #[.val (.int p1), .val (.int p2), .val (.int p3), .val (.int (own_b p1)), .unset, .unset, .unset] [(.int (3 : Int32)), (.int p3)])) _
    refine XS.iand X0.here hx rfl (hb hby at_29) rfl ?_
    show Steps p.tables e below (s₁.setTop (mkF m 30 #[.val (.int p1), .val (.int p2), .val (.int p3), .val (.int (own_b p1)), .unset, .unset, .unset] [(.int (p3 &&& (3 : Int32)))])) _
    refine XS.istore X0.here hx rfl (hb hby at_30) rfl (l' := #[.val (.int p1), .val (.int p2), .val (.int p3), .val (.int (own_b p1)), .val (.int (p3 &&& (3 : Int32))), .unset, .unset]) rfl ?_
    show Steps p.tables e below (s₁.setTop (mkF m 32 #[.val (.int p1), .val (.int p2), .val (.int p3), .val (.int (own_b p1)), .val (.int (p3 &&& (3 : Int32))), .unset, .unset] [])) _
    refine XS.iload X0.here hx rfl (hb hby at_32) rfl ?_
    show Steps p.tables e below (s₁.setTop (mkF m 34 #[.val (.int p1), .val (.int p2), .val (.int p3), .val (.int (own_b p1)), .val (.int (p3 &&& (3 : Int32))), .unset, .unset] [(.int (p3 &&& (3 : Int32)))])) _
    refine XS.ifYes X0.here hx rfl (pc0 := 34) (pc' := 43) rfl (hb hby at_34) rfl ((if0 _ _).trans (feq hc34).2) (by decide) (by decide) ?_
    show Steps p.tables e below (s₁.setTop (mkF m 43 #[.val (.int p1), .val (.int p2), .val (.int p3), .val (.int (own_b p1)), .val (.int (p3 &&& (3 : Int32))), .unset, .unset] [])) _
    refine XS.iload X0.here hx rfl (hb hby at_43) rfl ?_
    show Steps p.tables e below (s₁.setTop (mkF m 45 #[.val (.int p1), .val (.int p2), .val (.int p3), .val (.int (own_b p1)), .val (.int (p3 &&& (3 : Int32))), .unset, .unset] [(.int (p3 &&& (3 : Int32)))])) _
    refine XS.iconst X0.here hx rfl (hb hby at_45) ?_
    show Steps p.tables e below (s₁.setTop (mkF m 46 #[.val (.int p1), .val (.int p2), .val (.int p3), .val (.int (own_b p1)), .val (.int (p3 &&& (3 : Int32))), .unset, .unset] [(.int (1 : Int32)), (.int (p3 &&& (3 : Int32)))])) _
    refine XS.icmpNo X0.here hx rfl (hb hby at_46) rfl (teq hc46).2 ?_
    show Steps p.tables e below (s₁.setTop (mkF m 49 #[.val (.int p1), .val (.int p2), .val (.int p3), .val (.int (own_b p1)), .val (.int (p3 &&& (3 : Int32))), .unset, .unset] [])) _
    refine XS.iloadN X0.here hx rfl (hb hby at_49) rfl ?_
    show Steps p.tables e below (s₁.setTop (mkF m 50 #[.val (.int p1), .val (.int p2), .val (.int p3), .val (.int (own_b p1)), .val (.int (p3 &&& (3 : Int32))), .unset, .unset] [(.int (own_b p1))])) _
    refine XS.istore X0.here hx rfl (hb hby at_50) rfl (l' := #[.val (.int p1), .val (.int p2), .val (.int p3), .val (.int (own_b p1)), .val (.int (p3 &&& (3 : Int32))), .val (.int (own_b p1)), .unset]) rfl ?_
    show Steps p.tables e below (s₁.setTop (mkF m 52 #[.val (.int p1), .val (.int p2), .val (.int p3), .val (.int (own_b p1)), .val (.int (p3 &&& (3 : Int32))), .val (.int (own_b p1)), .unset] [])) _
    refine XS.goto X0.here hx rfl (pc0 := 52) (pc' := 77) rfl (hb hby at_52) (by decide) (by decide) ?_
    show Steps p.tables e below (s₁.setTop (mkF m 77 #[.val (.int p1), .val (.int p2), .val (.int p3), .val (.int (own_b p1)), .val (.int (p3 &&& (3 : Int32))), .val (.int (own_b p1)), .unset] [])) _
    refine XS.iload X0.here hx rfl (hb hby at_77) rfl ?_
    show Steps p.tables e below (s₁.setTop (mkF m 79 #[.val (.int p1), .val (.int p2), .val (.int p3), .val (.int (own_b p1)), .val (.int (p3 &&& (3 : Int32))), .val (.int (own_b p1)), .unset] [(.int (own_b p1))])) _
    refine XS.bipush X0.here hx rfl (hb hby at_79) ?_
    show Steps p.tables e below (s₁.setTop (mkF m 81 #[.val (.int p1), .val (.int p2), .val (.int p3), .val (.int (own_b p1)), .val (.int (p3 &&& (3 : Int32))), .val (.int (own_b p1)), .unset] [(.int (18 : Int32)), (.int (own_b p1))])) _
    refine XS.iushr X0.here hx rfl (hb hby at_81) rfl ?_
    show Steps p.tables e below (s₁.setTop (mkF m 82 #[.val (.int p1), .val (.int p2), .val (.int p3), .val (.int (own_b p1)), .val (.int (p3 &&& (3 : Int32))), .val (.int (own_b p1)), .unset] [(.int (((own_b p1).toUInt32 >>> ((18 : Int32) &&& 31).toUInt32).toInt32))])) _
    refine XS.ifNo X0.here hx rfl (hb hby at_82) rfl ((if0 _ _).trans (teq hc82).2) ?_
    show Steps p.tables e below (s₁.setTop (mkF m 85 #[.val (.int p1), .val (.int p2), .val (.int p3), .val (.int (own_b p1)), .val (.int (p3 &&& (3 : Int32))), .val (.int (own_b p1)), .unset] [])) _
    refine XS.iload X0.here hx rfl (hb hby at_85) rfl ?_
    show Steps p.tables e below (s₁.setTop (mkF m 87 #[.val (.int p1), .val (.int p2), .val (.int p3), .val (.int (own_b p1)), .val (.int (p3 &&& (3 : Int32))), .val (.int (own_b p1)), .unset] [(.int (own_b p1))])) _
    refine XS.bipush X0.here hx rfl (hb hby at_87) ?_
    show Steps p.tables e below (s₁.setTop (mkF m 89 #[.val (.int p1), .val (.int p2), .val (.int p3), .val (.int (own_b p1)), .val (.int (p3 &&& (3 : Int32))), .val (.int (own_b p1)), .unset] [(.int (12 : Int32)), (.int (own_b p1))])) _
    refine XS.iushr X0.here hx rfl (hb hby at_89) rfl ?_
    show Steps p.tables e below (s₁.setTop (mkF m 90 #[.val (.int p1), .val (.int p2), .val (.int p3), .val (.int (own_b p1)), .val (.int (p3 &&& (3 : Int32))), .val (.int (own_b p1)), .unset] [(.int (((own_b p1).toUInt32 >>> ((12 : Int32) &&& 31).toUInt32).toInt32))])) _
    refine XS.bipush X0.here hx rfl (hb hby at_90) ?_
    show Steps p.tables e below (s₁.setTop (mkF m 92 #[.val (.int p1), .val (.int p2), .val (.int p3), .val (.int (own_b p1)), .val (.int (p3 &&& (3 : Int32))), .val (.int (own_b p1)), .unset] [(.int (7 : Int32)), (.int (((own_b p1).toUInt32 >>> ((12 : Int32) &&& 31).toUInt32).toInt32))])) _
    refine XS.iand X0.here hx rfl (hb hby at_92) rfl ?_
    show Steps p.tables e below (s₁.setTop (mkF m 93 #[.val (.int p1), .val (.int p2), .val (.int p3), .val (.int (own_b p1)), .val (.int (p3 &&& (3 : Int32))), .val (.int (own_b p1)), .unset] [(.int ((((own_b p1).toUInt32 >>> ((12 : Int32) &&& 31).toUInt32).toInt32) &&& (7 : Int32)))])) _
    refine XS.ifYes X0.here hx rfl (pc0 := 93) (pc' := 148) rfl (hb hby at_93) rfl ((if0 _ _).trans (feq hc93).2) (by decide) (by decide) ?_
    show Steps p.tables e below (s₁.setTop (mkF m 148 #[.val (.int p1), .val (.int p2), .val (.int p3), .val (.int (own_b p1)), .val (.int (p3 &&& (3 : Int32))), .val (.int (own_b p1)), .unset] [])) _
    refine XS.iconst X0.here hx rfl (hb hby at_148) ?_
    show Steps p.tables e below (s₁.setTop (mkF m 149 #[.val (.int p1), .val (.int p2), .val (.int p3), .val (.int (own_b p1)), .val (.int (p3 &&& (3 : Int32))), .val (.int (own_b p1)), .unset] [(.int (0 : Int32))])) _
    refine XS.istore X0.here hx rfl (hb hby at_149) rfl (l' := #[.val (.int p1), .val (.int p2), .val (.int p3), .val (.int (own_b p1)), .val (.int (p3 &&& (3 : Int32))), .val (.int (own_b p1)), .val (.int (0 : Int32))]) rfl ?_
    show Steps p.tables e below (s₁.setTop (mkF m 151 #[.val (.int p1), .val (.int p2), .val (.int p3), .val (.int (own_b p1)), .val (.int (p3 &&& (3 : Int32))), .val (.int (own_b p1)), .val (.int (0 : Int32))] [])) _
    refine XS.iloadN X0.here hx rfl (hb hby at_151) rfl ?_
    show Steps p.tables e below (s₁.setTop (mkF m 152 #[.val (.int p1), .val (.int p2), .val (.int p3), .val (.int (own_b p1)), .val (.int (p3 &&& (3 : Int32))), .val (.int (own_b p1)), .val (.int (0 : Int32))] [(.int p1)])) _
    refine XS.iload X0.here hx rfl (hb hby at_152) rfl ?_
    show Steps p.tables e below (s₁.setTop (mkF m 154 #[.val (.int p1), .val (.int p2), .val (.int p3), .val (.int (own_b p1)), .val (.int (p3 &&& (3 : Int32))), .val (.int (own_b p1)), .val (.int (0 : Int32))] [(.int (own_b p1)), (.int p1)])) _
    refine st4 _ ?_
    show Steps p.tables e below (T4.setTop (mkF m 157 #[.val (.int p1), .val (.int p2), .val (.int p3), .val (.int (own_b p1)), .val (.int (p3 &&& (3 : Int32))), .val (.int (own_b p1)), .val (.int (0 : Int32))] [(.int (val1 p1 (own_b p1)))])) _
    refine XS.iload X4.here hx rfl (hb hby at_157) rfl ?_
    show Steps p.tables e below (T4.setTop (mkF m 159 #[.val (.int p1), .val (.int p2), .val (.int p3), .val (.int (own_b p1)), .val (.int (p3 &&& (3 : Int32))), .val (.int (own_b p1)), .val (.int (0 : Int32))] [(.int (0 : Int32)), (.int (val1 p1 (own_b p1)))])) _
    refine XS.icmpNo X4.here hx rfl (hb hby at_159) rfl (teq (by unfold val1; rw [if_neg (fun q => hc93 ((own_iff _ _).mp q).2.1)] : (val1 p1 (own_b p1)) = (0 : Int32))).2 ?_
    show Steps p.tables e below (T4.setTop (mkF m 162 #[.val (.int p1), .val (.int p2), .val (.int p3), .val (.int (own_b p1)), .val (.int (p3 &&& (3 : Int32))), .val (.int (own_b p1)), .val (.int (0 : Int32))] [])) _
    refine XS.iconst X4.here hx rfl (hb hby at_162) ?_
    show Steps p.tables e below (T4.setTop (mkF m 163 #[.val (.int p1), .val (.int p2), .val (.int p3), .val (.int (own_b p1)), .val (.int (p3 &&& (3 : Int32))), .val (.int (own_b p1)), .val (.int (0 : Int32))] [(.int (1 : Int32))])) _
    refine XS.goto X4.here hx rfl (pc0 := 163) (pc' := 167) rfl (hb hby at_163) (by decide) (by decide) ?_
    show Steps p.tables e below (T4.setTop (mkF m 167 #[.val (.int p1), .val (.int p2), .val (.int p3), .val (.int (own_b p1)), .val (.int (p3 &&& (3 : Int32))), .val (.int (own_b p1)), .val (.int (0 : Int32))] [(.int (1 : Int32))])) _
    exact retN X4 hx (t := .boolean) Bd.returns (by simp) (hb hby at_167) hr
  · show Q0 Z p1 p2 p3 h0 n0 _ T4.heap _
    exact ⟨rfl, N4⟩

set_option maxRecDepth 65536 in
set_option maxHeartbeats 40000000 in
theorem rm0_tffftf (l : Launch) (Z : State) (a0 : Array Value) (hw : ∀ d ∈ tables_1, d.before a0 Z = true) (ws : List Jvm.Cond) (p1 : Int32) (p2 : Int32) (p3 : Int32) (h0 : Heap) (n0 : Nat) (Z0 : n0 ≤ h0.size) (hc34 : ¬ ((p3 &&& (3 : Int32)) = (0 : Int32))) (hc46 : (p3 &&& (3 : Int32)) = (1 : Int32)) (hc82 : (((own_b p1).toUInt32 >>> ((18 : Int32) &&& 31).toUInt32).toInt32) = (0 : Int32)) (hc93 : ((((own_b p1).toUInt32 >>> ((12 : Int32) &&& 31).toUInt32).toInt32) &&& (7 : Int32)) = (0 : Int32)) (hc105 : ¬ ((p1 &&& (63 : Int32)) = ((own_b p1) &&& (63 : Int32)))) :
    MetFree l x (head1 (Jvm.Cond.code x code maxLocals ret :: ws) room_1) (fun a U => a = #[(.int p1), (.int p2), (.int p3)] ∧ Z.Warmed39 U.vm ∧ U.heap = h0) (fun _ _ _ _ _ => True) (fun _ U o U' => ∃ v L, o = .returned v ∧ Q0 Z p1 p2 p3 h0 n0 v U'.heap L ∧ FrameEnd U o U' L room_1.cells room_1.slots) := by
  refine MetFree.of_bodySF (plainFor_of_name pn_0) hisR ?_
  intro p e s m args below meth c s₁ Bd hml0 hP hK
  obtain ⟨rfl, hZ, hh⟩ := hP
  have hx := Bd.exec
  have hby := Bd.bytes
  have hml : c.maxLocals = 7 := hml0
  have hown : s.vm.findClass "touchmove/position/PackedMoveIsPinLaw" = some m.cls := findClass_of_methodNamed Bd.named
  have hnm := (name_of_methodNamed Bd.named Bd.method).1
  have X0 : Stand p l e room_1 s m #[(.int p1), (.int p2), (.int p3)] below meth c s₁ [] 0 0 := Stand.of_body Bd
  have e0 : s₁.heap = h0 := by rw [← hh, Bd.state]; rfl
  have N0 := Fr.nil n0
  have pre0 : ∀ t, Steps p.tables e below (s₁.setTop (mkF m 0 #[.val (.int p1), .val (.int p2), .val (.int p3), .unset, .unset, .unset, .unset] [])) t → Steps p.tables e below (s₁.setTop (entryFrame m #[(.int p1), (.int p2), (.int p3)] maxLocals)) t := fun t k => castTop (ef_0 m p1 p2 p3) k
  obtain ⟨_, _, ⟨T4, L4, k4, n4⟩, -, X4, ⟨Lc4, hQ4, l4, y4, z4⟩, st4⟩ := Jvm.LawKit.callS X0 hx (y := (⟨"touchmove/position/PackedMove", "is", "(II)Z"⟩ : MethodName)) hown (mvT hZ (hw _ (List.mem_of_getElem? (i := 0) rfl))) (mvT hZ (hw _ (List.mem_of_getElem? (i := 1) rfl))) (mvT hZ (hw _ (List.mem_of_getElem? (i := 2) rfl))) (mvT hZ (hw _ (List.mem_of_getElem? (i := 3) rfl))) (by decide) (backOf (W := 0) (rm1 l Z a0 hw [] p1 (own_b p1) h0 n0 Z0) hZ (hw _ (List.mem_of_getElem? (i := 3) rfl)) (hw _ (List.mem_of_getElem? (i := 2) rfl)) (by decide) (by decide)) (g := (mkF m 154 #[.val (.int p1), .val (.int p2), .val (.int p3), .val (.int (own_b p1)), .val (.int (p3 &&& (3 : Int32))), .val (.int (own_b p1)), .val (.int (0 : Int32))] [(.int (own_b p1)), (.int p1)])) rfl (by rw [hml]; rfl) (argsL := [(.int p1), (.int (own_b p1))]) (rest := []) (lenOf pd_0_0 rfl) rfl (by show 2 * 0 + _ ≤ _; exact Nat.le_of_eq rfl) (hb hby at_154) (fun _ _ => ⟨rfl, e0, (by decide : 0 + 0 ≤ _), (by decide : 0 + 0 ≤ _)⟩)
  dsimp only [Pt.U, Pt.locs, Pt.cells, Pt.slots] at X4 l4 y4 z4 st4 hQ4
  subst l4 y4 z4
  obtain ⟨rfl, N4q, w4⟩ := hQ4
  have N4 := Fr.app N0 N4q
  obtain ⟨fs, hr, hrun, hended, hW, hsame⟩ := X4.leave (v := some (.int (1 : Int32))) (fun h => by rw [Bd.returns] at h; cases h)
  refine ⟨_, _, pre0 _ ?_, hrun, hended, _, _, rfl, ?_, ⟨_, rfl⟩, hW, hsame.mono (by decide) (by decide)⟩
  · show Steps p.tables e below (s₁.setTop (mkF m 0 #[.val (.int p1), .val (.int p2), .val (.int p3), .unset, .unset, .unset, .unset] [])) _
    refine XS.iloadN X0.here hx rfl (hb hby at_0) rfl ?_
    show Steps p.tables e below (s₁.setTop (mkF m 1 #[.val (.int p1), .val (.int p2), .val (.int p3), .unset, .unset, .unset, .unset] [(.int p1)])) _
    refine XS.bipush X0.here hx rfl (hb hby at_1) ?_
    show Steps p.tables e below (s₁.setTop (mkF m 3 #[.val (.int p1), .val (.int p2), .val (.int p3), .unset, .unset, .unset, .unset] [(.int (63 : Int32)), (.int p1)])) _
    refine XS.iand X0.here hx rfl (hb hby at_3) rfl ?_
    show Steps p.tables e below (s₁.setTop (mkF m 4 #[.val (.int p1), .val (.int p2), .val (.int p3), .unset, .unset, .unset, .unset] [(.int (p1 &&& (63 : Int32)))])) _
    refine XS.iloadN X0.here hx rfl (hb hby at_4) rfl ?_
    show Steps p.tables e below (s₁.setTop (mkF m 5 #[.val (.int p1), .val (.int p2), .val (.int p3), .unset, .unset, .unset, .unset] [(.int p1), (.int (p1 &&& (63 : Int32)))])) _
    refine XS.bipush X0.here hx rfl (hb hby at_5) ?_
    show Steps p.tables e below (s₁.setTop (mkF m 7 #[.val (.int p1), .val (.int p2), .val (.int p3), .unset, .unset, .unset, .unset] [(.int (6 : Int32)), (.int p1), (.int (p1 &&& (63 : Int32)))])) _
    refine XS.iushr X0.here hx rfl (hb hby at_7) rfl ?_
    show Steps p.tables e below (s₁.setTop (mkF m 8 #[.val (.int p1), .val (.int p2), .val (.int p3), .unset, .unset, .unset, .unset] [(.int ((p1.toUInt32 >>> ((6 : Int32) &&& 31).toUInt32).toInt32)), (.int (p1 &&& (63 : Int32)))])) _
    refine XS.bipush X0.here hx rfl (hb hby at_8) ?_
    show Steps p.tables e below (s₁.setTop (mkF m 10 #[.val (.int p1), .val (.int p2), .val (.int p3), .unset, .unset, .unset, .unset] [(.int (63 : Int32)), (.int ((p1.toUInt32 >>> ((6 : Int32) &&& 31).toUInt32).toInt32)), (.int (p1 &&& (63 : Int32)))])) _
    refine XS.iand X0.here hx rfl (hb hby at_10) rfl ?_
    show Steps p.tables e below (s₁.setTop (mkF m 11 #[.val (.int p1), .val (.int p2), .val (.int p3), .unset, .unset, .unset, .unset] [(.int (((p1.toUInt32 >>> ((6 : Int32) &&& 31).toUInt32).toInt32) &&& (63 : Int32))), (.int (p1 &&& (63 : Int32)))])) _
    refine XS.bipush X0.here hx rfl (hb hby at_11) ?_
    show Steps p.tables e below (s₁.setTop (mkF m 13 #[.val (.int p1), .val (.int p2), .val (.int p3), .unset, .unset, .unset, .unset] [(.int (6 : Int32)), (.int (((p1.toUInt32 >>> ((6 : Int32) &&& 31).toUInt32).toInt32) &&& (63 : Int32))), (.int (p1 &&& (63 : Int32)))])) _
    refine XS.ishl X0.here hx rfl (hb hby at_13) rfl ?_
    show Steps p.tables e below (s₁.setTop (mkF m 14 #[.val (.int p1), .val (.int p2), .val (.int p3), .unset, .unset, .unset, .unset] [(.int ((((p1.toUInt32 >>> ((6 : Int32) &&& 31).toUInt32).toInt32) &&& (63 : Int32)) <<< ((6 : Int32) &&& 31))), (.int (p1 &&& (63 : Int32)))])) _
    refine XS.ior X0.here hx rfl (hb hby at_14) rfl ?_
    show Steps p.tables e below (s₁.setTop (mkF m 15 #[.val (.int p1), .val (.int p2), .val (.int p3), .unset, .unset, .unset, .unset] [(.int ((p1 &&& (63 : Int32)) ||| ((((p1.toUInt32 >>> ((6 : Int32) &&& 31).toUInt32).toInt32) &&& (63 : Int32)) <<< ((6 : Int32) &&& 31))))])) _
    refine XS.iloadN X0.here hx rfl (hb hby at_15) rfl ?_
    show Steps p.tables e below (s₁.setTop (mkF m 16 #[.val (.int p1), .val (.int p2), .val (.int p3), .unset, .unset, .unset, .unset] [(.int p1), (.int ((p1 &&& (63 : Int32)) ||| ((((p1.toUInt32 >>> ((6 : Int32) &&& 31).toUInt32).toInt32) &&& (63 : Int32)) <<< ((6 : Int32) &&& 31))))])) _
    refine XS.bipush X0.here hx rfl (hb hby at_16) ?_
    show Steps p.tables e below (s₁.setTop (mkF m 18 #[.val (.int p1), .val (.int p2), .val (.int p3), .unset, .unset, .unset, .unset] [(.int (15 : Int32)), (.int p1), (.int ((p1 &&& (63 : Int32)) ||| ((((p1.toUInt32 >>> ((6 : Int32) &&& 31).toUInt32).toInt32) &&& (63 : Int32)) <<< ((6 : Int32) &&& 31))))])) _
    refine XS.iushr X0.here hx rfl (hb hby at_18) rfl ?_
    show Steps p.tables e below (s₁.setTop (mkF m 19 #[.val (.int p1), .val (.int p2), .val (.int p3), .unset, .unset, .unset, .unset] [(.int ((p1.toUInt32 >>> ((15 : Int32) &&& 31).toUInt32).toInt32)), (.int ((p1 &&& (63 : Int32)) ||| ((((p1.toUInt32 >>> ((6 : Int32) &&& 31).toUInt32).toInt32) &&& (63 : Int32)) <<< ((6 : Int32) &&& 31))))])) _
    refine XS.bipush X0.here hx rfl (hb hby at_19) ?_
    show Steps p.tables e below (s₁.setTop (mkF m 21 #[.val (.int p1), .val (.int p2), .val (.int p3), .unset, .unset, .unset, .unset] [(.int (7 : Int32)), (.int ((p1.toUInt32 >>> ((15 : Int32) &&& 31).toUInt32).toInt32)), (.int ((p1 &&& (63 : Int32)) ||| ((((p1.toUInt32 >>> ((6 : Int32) &&& 31).toUInt32).toInt32) &&& (63 : Int32)) <<< ((6 : Int32) &&& 31))))])) _
    refine XS.iand X0.here hx rfl (hb hby at_21) rfl ?_
    show Steps p.tables e below (s₁.setTop (mkF m 22 #[.val (.int p1), .val (.int p2), .val (.int p3), .unset, .unset, .unset, .unset] [(.int (((p1.toUInt32 >>> ((15 : Int32) &&& 31).toUInt32).toInt32) &&& (7 : Int32))), (.int ((p1 &&& (63 : Int32)) ||| ((((p1.toUInt32 >>> ((6 : Int32) &&& 31).toUInt32).toInt32) &&& (63 : Int32)) <<< ((6 : Int32) &&& 31))))])) _
    refine XS.bipush X0.here hx rfl (hb hby at_22) ?_
    show Steps p.tables e below (s₁.setTop (mkF m 24 #[.val (.int p1), .val (.int p2), .val (.int p3), .unset, .unset, .unset, .unset] [(.int (15 : Int32)), (.int (((p1.toUInt32 >>> ((15 : Int32) &&& 31).toUInt32).toInt32) &&& (7 : Int32))), (.int ((p1 &&& (63 : Int32)) ||| ((((p1.toUInt32 >>> ((6 : Int32) &&& 31).toUInt32).toInt32) &&& (63 : Int32)) <<< ((6 : Int32) &&& 31))))])) _
    refine XS.ishl X0.here hx rfl (hb hby at_24) rfl ?_
    show Steps p.tables e below (s₁.setTop (mkF m 25 #[.val (.int p1), .val (.int p2), .val (.int p3), .unset, .unset, .unset, .unset] [(.int ((((p1.toUInt32 >>> ((15 : Int32) &&& 31).toUInt32).toInt32) &&& (7 : Int32)) <<< ((15 : Int32) &&& 31))), (.int ((p1 &&& (63 : Int32)) ||| ((((p1.toUInt32 >>> ((6 : Int32) &&& 31).toUInt32).toInt32) &&& (63 : Int32)) <<< ((6 : Int32) &&& 31))))])) _
    refine XS.ior X0.here hx rfl (hb hby at_25) rfl ?_
    show Steps p.tables e below (s₁.setTop (mkF m 26 #[.val (.int p1), .val (.int p2), .val (.int p3), .unset, .unset, .unset, .unset] [(.int (own_b p1))])) _
    refine XS.istoreN X0.here hx rfl (hb hby at_26) rfl (l' := #[.val (.int p1), .val (.int p2), .val (.int p3), .val (.int (own_b p1)), .unset, .unset, .unset]) rfl ?_
    show Steps p.tables e below (s₁.setTop (mkF m 27 #[.val (.int p1), .val (.int p2), .val (.int p3), .val (.int (own_b p1)), .unset, .unset, .unset] [])) _
    refine XS.iloadN X0.here hx rfl (hb hby at_27) rfl ?_
    show Steps p.tables e below (s₁.setTop (mkF m 28 #[.val (.int p1), .val (.int p2), .val (.int p3), .val (.int (own_b p1)), .unset, .unset, .unset] [(.int p3)])) _
    refine XS.iconst X0.here hx rfl (hb hby at_28) ?_
    show Steps p.tables e below (s₁.setTop (mkF m 29 #[.val (.int p1), .val (.int p2), .val (.int p3), .val (.int (own_b p1)), .unset, .unset, .unset] [(.int (3 : Int32)), (.int p3)])) _
    refine XS.iand X0.here hx rfl (hb hby at_29) rfl ?_
    show Steps p.tables e below (s₁.setTop (mkF m 30 #[.val (.int p1), .val (.int p2), .val (.int p3), .val (.int (own_b p1)), .unset, .unset, .unset] [(.int (p3 &&& (3 : Int32)))])) _
    refine XS.istore X0.here hx rfl (hb hby at_30) rfl (l' := #[.val (.int p1), .val (.int p2), .val (.int p3), .val (.int (own_b p1)), .val (.int (p3 &&& (3 : Int32))), .unset, .unset]) rfl ?_
    show Steps p.tables e below (s₁.setTop (mkF m 32 #[.val (.int p1), .val (.int p2), .val (.int p3), .val (.int (own_b p1)), .val (.int (p3 &&& (3 : Int32))), .unset, .unset] [])) _
    refine XS.iload X0.here hx rfl (hb hby at_32) rfl ?_
    show Steps p.tables e below (s₁.setTop (mkF m 34 #[.val (.int p1), .val (.int p2), .val (.int p3), .val (.int (own_b p1)), .val (.int (p3 &&& (3 : Int32))), .unset, .unset] [(.int (p3 &&& (3 : Int32)))])) _
    refine XS.ifYes X0.here hx rfl (pc0 := 34) (pc' := 43) rfl (hb hby at_34) rfl ((if0 _ _).trans (feq hc34).2) (by decide) (by decide) ?_
    show Steps p.tables e below (s₁.setTop (mkF m 43 #[.val (.int p1), .val (.int p2), .val (.int p3), .val (.int (own_b p1)), .val (.int (p3 &&& (3 : Int32))), .unset, .unset] [])) _
    refine XS.iload X0.here hx rfl (hb hby at_43) rfl ?_
    show Steps p.tables e below (s₁.setTop (mkF m 45 #[.val (.int p1), .val (.int p2), .val (.int p3), .val (.int (own_b p1)), .val (.int (p3 &&& (3 : Int32))), .unset, .unset] [(.int (p3 &&& (3 : Int32)))])) _
    refine XS.iconst X0.here hx rfl (hb hby at_45) ?_
    show Steps p.tables e below (s₁.setTop (mkF m 46 #[.val (.int p1), .val (.int p2), .val (.int p3), .val (.int (own_b p1)), .val (.int (p3 &&& (3 : Int32))), .unset, .unset] [(.int (1 : Int32)), (.int (p3 &&& (3 : Int32)))])) _
    refine XS.icmpNo X0.here hx rfl (hb hby at_46) rfl (teq hc46).2 ?_
    show Steps p.tables e below (s₁.setTop (mkF m 49 #[.val (.int p1), .val (.int p2), .val (.int p3), .val (.int (own_b p1)), .val (.int (p3 &&& (3 : Int32))), .unset, .unset] [])) _
    refine XS.iloadN X0.here hx rfl (hb hby at_49) rfl ?_
    show Steps p.tables e below (s₁.setTop (mkF m 50 #[.val (.int p1), .val (.int p2), .val (.int p3), .val (.int (own_b p1)), .val (.int (p3 &&& (3 : Int32))), .unset, .unset] [(.int (own_b p1))])) _
    refine XS.istore X0.here hx rfl (hb hby at_50) rfl (l' := #[.val (.int p1), .val (.int p2), .val (.int p3), .val (.int (own_b p1)), .val (.int (p3 &&& (3 : Int32))), .val (.int (own_b p1)), .unset]) rfl ?_
    show Steps p.tables e below (s₁.setTop (mkF m 52 #[.val (.int p1), .val (.int p2), .val (.int p3), .val (.int (own_b p1)), .val (.int (p3 &&& (3 : Int32))), .val (.int (own_b p1)), .unset] [])) _
    refine XS.goto X0.here hx rfl (pc0 := 52) (pc' := 77) rfl (hb hby at_52) (by decide) (by decide) ?_
    show Steps p.tables e below (s₁.setTop (mkF m 77 #[.val (.int p1), .val (.int p2), .val (.int p3), .val (.int (own_b p1)), .val (.int (p3 &&& (3 : Int32))), .val (.int (own_b p1)), .unset] [])) _
    refine XS.iload X0.here hx rfl (hb hby at_77) rfl ?_
    show Steps p.tables e below (s₁.setTop (mkF m 79 #[.val (.int p1), .val (.int p2), .val (.int p3), .val (.int (own_b p1)), .val (.int (p3 &&& (3 : Int32))), .val (.int (own_b p1)), .unset] [(.int (own_b p1))])) _
    refine XS.bipush X0.here hx rfl (hb hby at_79) ?_
    show Steps p.tables e below (s₁.setTop (mkF m 81 #[.val (.int p1), .val (.int p2), .val (.int p3), .val (.int (own_b p1)), .val (.int (p3 &&& (3 : Int32))), .val (.int (own_b p1)), .unset] [(.int (18 : Int32)), (.int (own_b p1))])) _
    refine XS.iushr X0.here hx rfl (hb hby at_81) rfl ?_
    show Steps p.tables e below (s₁.setTop (mkF m 82 #[.val (.int p1), .val (.int p2), .val (.int p3), .val (.int (own_b p1)), .val (.int (p3 &&& (3 : Int32))), .val (.int (own_b p1)), .unset] [(.int (((own_b p1).toUInt32 >>> ((18 : Int32) &&& 31).toUInt32).toInt32))])) _
    refine XS.ifNo X0.here hx rfl (hb hby at_82) rfl ((if0 _ _).trans (teq hc82).2) ?_
    show Steps p.tables e below (s₁.setTop (mkF m 85 #[.val (.int p1), .val (.int p2), .val (.int p3), .val (.int (own_b p1)), .val (.int (p3 &&& (3 : Int32))), .val (.int (own_b p1)), .unset] [])) _
    refine XS.iload X0.here hx rfl (hb hby at_85) rfl ?_
    show Steps p.tables e below (s₁.setTop (mkF m 87 #[.val (.int p1), .val (.int p2), .val (.int p3), .val (.int (own_b p1)), .val (.int (p3 &&& (3 : Int32))), .val (.int (own_b p1)), .unset] [(.int (own_b p1))])) _
    refine XS.bipush X0.here hx rfl (hb hby at_87) ?_
    show Steps p.tables e below (s₁.setTop (mkF m 89 #[.val (.int p1), .val (.int p2), .val (.int p3), .val (.int (own_b p1)), .val (.int (p3 &&& (3 : Int32))), .val (.int (own_b p1)), .unset] [(.int (12 : Int32)), (.int (own_b p1))])) _
    refine XS.iushr X0.here hx rfl (hb hby at_89) rfl ?_
    show Steps p.tables e below (s₁.setTop (mkF m 90 #[.val (.int p1), .val (.int p2), .val (.int p3), .val (.int (own_b p1)), .val (.int (p3 &&& (3 : Int32))), .val (.int (own_b p1)), .unset] [(.int (((own_b p1).toUInt32 >>> ((12 : Int32) &&& 31).toUInt32).toInt32))])) _
    refine XS.bipush X0.here hx rfl (hb hby at_90) ?_
    show Steps p.tables e below (s₁.setTop (mkF m 92 #[.val (.int p1), .val (.int p2), .val (.int p3), .val (.int (own_b p1)), .val (.int (p3 &&& (3 : Int32))), .val (.int (own_b p1)), .unset] [(.int (7 : Int32)), (.int (((own_b p1).toUInt32 >>> ((12 : Int32) &&& 31).toUInt32).toInt32))])) _
    refine XS.iand X0.here hx rfl (hb hby at_92) rfl ?_
    show Steps p.tables e below (s₁.setTop (mkF m 93 #[.val (.int p1), .val (.int p2), .val (.int p3), .val (.int (own_b p1)), .val (.int (p3 &&& (3 : Int32))), .val (.int (own_b p1)), .unset] [(.int ((((own_b p1).toUInt32 >>> ((12 : Int32) &&& 31).toUInt32).toInt32) &&& (7 : Int32)))])) _
    refine XS.ifNo X0.here hx rfl (hb hby at_93) rfl ((if0 _ _).trans (teq hc93).2) ?_
    show Steps p.tables e below (s₁.setTop (mkF m 96 #[.val (.int p1), .val (.int p2), .val (.int p3), .val (.int (own_b p1)), .val (.int (p3 &&& (3 : Int32))), .val (.int (own_b p1)), .unset] [])) _
    refine XS.iloadN X0.here hx rfl (hb hby at_96) rfl ?_
    show Steps p.tables e below (s₁.setTop (mkF m 97 #[.val (.int p1), .val (.int p2), .val (.int p3), .val (.int (own_b p1)), .val (.int (p3 &&& (3 : Int32))), .val (.int (own_b p1)), .unset] [(.int p1)])) _
    refine XS.bipush X0.here hx rfl (hb hby at_97) ?_
    show Steps p.tables e below (s₁.setTop (mkF m 99 #[.val (.int p1), .val (.int p2), .val (.int p3), .val (.int (own_b p1)), .val (.int (p3 &&& (3 : Int32))), .val (.int (own_b p1)), .unset] [(.int (63 : Int32)), (.int p1)])) _
    refine XS.iand X0.here hx rfl (hb hby at_99) rfl ?_
    show Steps p.tables e below (s₁.setTop (mkF m 100 #[.val (.int p1), .val (.int p2), .val (.int p3), .val (.int (own_b p1)), .val (.int (p3 &&& (3 : Int32))), .val (.int (own_b p1)), .unset] [(.int (p1 &&& (63 : Int32)))])) _
    refine XS.iload X0.here hx rfl (hb hby at_100) rfl ?_
    show Steps p.tables e below (s₁.setTop (mkF m 102 #[.val (.int p1), .val (.int p2), .val (.int p3), .val (.int (own_b p1)), .val (.int (p3 &&& (3 : Int32))), .val (.int (own_b p1)), .unset] [(.int (own_b p1)), (.int (p1 &&& (63 : Int32)))])) _
    refine XS.bipush X0.here hx rfl (hb hby at_102) ?_
    show Steps p.tables e below (s₁.setTop (mkF m 104 #[.val (.int p1), .val (.int p2), .val (.int p3), .val (.int (own_b p1)), .val (.int (p3 &&& (3 : Int32))), .val (.int (own_b p1)), .unset] [(.int (63 : Int32)), (.int (own_b p1)), (.int (p1 &&& (63 : Int32)))])) _
    refine XS.iand X0.here hx rfl (hb hby at_104) rfl ?_
    show Steps p.tables e below (s₁.setTop (mkF m 105 #[.val (.int p1), .val (.int p2), .val (.int p3), .val (.int (own_b p1)), .val (.int (p3 &&& (3 : Int32))), .val (.int (own_b p1)), .unset] [(.int ((own_b p1) &&& (63 : Int32))), (.int (p1 &&& (63 : Int32)))])) _
    refine XS.icmpYes X0.here hx rfl (pc0 := 105) (pc' := 148) rfl (hb hby at_105) rfl (feq hc105).2 (by decide) (by decide) ?_
    show Steps p.tables e below (s₁.setTop (mkF m 148 #[.val (.int p1), .val (.int p2), .val (.int p3), .val (.int (own_b p1)), .val (.int (p3 &&& (3 : Int32))), .val (.int (own_b p1)), .unset] [])) _
    refine XS.iconst X0.here hx rfl (hb hby at_148) ?_
    show Steps p.tables e below (s₁.setTop (mkF m 149 #[.val (.int p1), .val (.int p2), .val (.int p3), .val (.int (own_b p1)), .val (.int (p3 &&& (3 : Int32))), .val (.int (own_b p1)), .unset] [(.int (0 : Int32))])) _
    refine XS.istore X0.here hx rfl (hb hby at_149) rfl (l' := #[.val (.int p1), .val (.int p2), .val (.int p3), .val (.int (own_b p1)), .val (.int (p3 &&& (3 : Int32))), .val (.int (own_b p1)), .val (.int (0 : Int32))]) rfl ?_
    show Steps p.tables e below (s₁.setTop (mkF m 151 #[.val (.int p1), .val (.int p2), .val (.int p3), .val (.int (own_b p1)), .val (.int (p3 &&& (3 : Int32))), .val (.int (own_b p1)), .val (.int (0 : Int32))] [])) _
    refine XS.iloadN X0.here hx rfl (hb hby at_151) rfl ?_
    show Steps p.tables e below (s₁.setTop (mkF m 152 #[.val (.int p1), .val (.int p2), .val (.int p3), .val (.int (own_b p1)), .val (.int (p3 &&& (3 : Int32))), .val (.int (own_b p1)), .val (.int (0 : Int32))] [(.int p1)])) _
    refine XS.iload X0.here hx rfl (hb hby at_152) rfl ?_
    show Steps p.tables e below (s₁.setTop (mkF m 154 #[.val (.int p1), .val (.int p2), .val (.int p3), .val (.int (own_b p1)), .val (.int (p3 &&& (3 : Int32))), .val (.int (own_b p1)), .val (.int (0 : Int32))] [(.int (own_b p1)), (.int p1)])) _
    refine st4 _ ?_
    show Steps p.tables e below (T4.setTop (mkF m 157 #[.val (.int p1), .val (.int p2), .val (.int p3), .val (.int (own_b p1)), .val (.int (p3 &&& (3 : Int32))), .val (.int (own_b p1)), .val (.int (0 : Int32))] [(.int (val1 p1 (own_b p1)))])) _
    refine XS.iload X4.here hx rfl (hb hby at_157) rfl ?_
    show Steps p.tables e below (T4.setTop (mkF m 159 #[.val (.int p1), .val (.int p2), .val (.int p3), .val (.int (own_b p1)), .val (.int (p3 &&& (3 : Int32))), .val (.int (own_b p1)), .val (.int (0 : Int32))] [(.int (0 : Int32)), (.int (val1 p1 (own_b p1)))])) _
    refine XS.icmpNo X4.here hx rfl (hb hby at_159) rfl (teq (by unfold val1; rw [if_neg (fun q => hc105 ((own_iff _ _).mp q).2.2.1)] : (val1 p1 (own_b p1)) = (0 : Int32))).2 ?_
    show Steps p.tables e below (T4.setTop (mkF m 162 #[.val (.int p1), .val (.int p2), .val (.int p3), .val (.int (own_b p1)), .val (.int (p3 &&& (3 : Int32))), .val (.int (own_b p1)), .val (.int (0 : Int32))] [])) _
    refine XS.iconst X4.here hx rfl (hb hby at_162) ?_
    show Steps p.tables e below (T4.setTop (mkF m 163 #[.val (.int p1), .val (.int p2), .val (.int p3), .val (.int (own_b p1)), .val (.int (p3 &&& (3 : Int32))), .val (.int (own_b p1)), .val (.int (0 : Int32))] [(.int (1 : Int32))])) _
    refine XS.goto X4.here hx rfl (pc0 := 163) (pc' := 167) rfl (hb hby at_163) (by decide) (by decide) ?_
    show Steps p.tables e below (T4.setTop (mkF m 167 #[.val (.int p1), .val (.int p2), .val (.int p3), .val (.int (own_b p1)), .val (.int (p3 &&& (3 : Int32))), .val (.int (own_b p1)), .val (.int (0 : Int32))] [(.int (1 : Int32))])) _
    exact retN X4 hx (t := .boolean) Bd.returns (by simp) (hb hby at_167) hr
  · show Q0 Z p1 p2 p3 h0 n0 _ T4.heap _
    exact ⟨rfl, N4⟩

set_option maxRecDepth 65536 in
set_option maxHeartbeats 40000000 in
theorem rm0_tfffftf (l : Launch) (Z : State) (a0 : Array Value) (hw : ∀ d ∈ tables_1, d.before a0 Z = true) (ws : List Jvm.Cond) (p1 : Int32) (p2 : Int32) (p3 : Int32) (h0 : Heap) (n0 : Nat) (Z0 : n0 ≤ h0.size) (hc34 : ¬ ((p3 &&& (3 : Int32)) = (0 : Int32))) (hc46 : (p3 &&& (3 : Int32)) = (1 : Int32)) (hc82 : (((own_b p1).toUInt32 >>> ((18 : Int32) &&& 31).toUInt32).toInt32) = (0 : Int32)) (hc93 : ((((own_b p1).toUInt32 >>> ((12 : Int32) &&& 31).toUInt32).toInt32) &&& (7 : Int32)) = (0 : Int32)) (hc105 : (p1 &&& (63 : Int32)) = ((own_b p1) &&& (63 : Int32))) (hc123 : ¬ ((((p1.toUInt32 >>> ((6 : Int32) &&& 31).toUInt32).toInt32) &&& (63 : Int32)) = ((((own_b p1).toUInt32 >>> ((6 : Int32) &&& 31).toUInt32).toInt32) &&& (63 : Int32)))) :
    MetFree l x (head1 (Jvm.Cond.code x code maxLocals ret :: ws) room_1) (fun a U => a = #[(.int p1), (.int p2), (.int p3)] ∧ Z.Warmed39 U.vm ∧ U.heap = h0) (fun _ _ _ _ _ => True) (fun _ U o U' => ∃ v L, o = .returned v ∧ Q0 Z p1 p2 p3 h0 n0 v U'.heap L ∧ FrameEnd U o U' L room_1.cells room_1.slots) := by
  refine MetFree.of_bodySF (plainFor_of_name pn_0) hisR ?_
  intro p e s m args below meth c s₁ Bd hml0 hP hK
  obtain ⟨rfl, hZ, hh⟩ := hP
  have hx := Bd.exec
  have hby := Bd.bytes
  have hml : c.maxLocals = 7 := hml0
  have hown : s.vm.findClass "touchmove/position/PackedMoveIsPinLaw" = some m.cls := findClass_of_methodNamed Bd.named
  have hnm := (name_of_methodNamed Bd.named Bd.method).1
  have X0 : Stand p l e room_1 s m #[(.int p1), (.int p2), (.int p3)] below meth c s₁ [] 0 0 := Stand.of_body Bd
  have e0 : s₁.heap = h0 := by rw [← hh, Bd.state]; rfl
  have N0 := Fr.nil n0
  have pre0 : ∀ t, Steps p.tables e below (s₁.setTop (mkF m 0 #[.val (.int p1), .val (.int p2), .val (.int p3), .unset, .unset, .unset, .unset] [])) t → Steps p.tables e below (s₁.setTop (entryFrame m #[(.int p1), (.int p2), (.int p3)] maxLocals)) t := fun t k => castTop (ef_0 m p1 p2 p3) k
  obtain ⟨_, _, ⟨T4, L4, k4, n4⟩, -, X4, ⟨Lc4, hQ4, l4, y4, z4⟩, st4⟩ := Jvm.LawKit.callS X0 hx (y := (⟨"touchmove/position/PackedMove", "is", "(II)Z"⟩ : MethodName)) hown (mvT hZ (hw _ (List.mem_of_getElem? (i := 0) rfl))) (mvT hZ (hw _ (List.mem_of_getElem? (i := 1) rfl))) (mvT hZ (hw _ (List.mem_of_getElem? (i := 2) rfl))) (mvT hZ (hw _ (List.mem_of_getElem? (i := 3) rfl))) (by decide) (backOf (W := 0) (rm1 l Z a0 hw [] p1 (own_b p1) h0 n0 Z0) hZ (hw _ (List.mem_of_getElem? (i := 3) rfl)) (hw _ (List.mem_of_getElem? (i := 2) rfl)) (by decide) (by decide)) (g := (mkF m 154 #[.val (.int p1), .val (.int p2), .val (.int p3), .val (.int (own_b p1)), .val (.int (p3 &&& (3 : Int32))), .val (.int (own_b p1)), .val (.int (0 : Int32))] [(.int (own_b p1)), (.int p1)])) rfl (by rw [hml]; rfl) (argsL := [(.int p1), (.int (own_b p1))]) (rest := []) (lenOf pd_0_0 rfl) rfl (by show 2 * 0 + _ ≤ _; exact Nat.le_of_eq rfl) (hb hby at_154) (fun _ _ => ⟨rfl, e0, (by decide : 0 + 0 ≤ _), (by decide : 0 + 0 ≤ _)⟩)
  dsimp only [Pt.U, Pt.locs, Pt.cells, Pt.slots] at X4 l4 y4 z4 st4 hQ4
  subst l4 y4 z4
  obtain ⟨rfl, N4q, w4⟩ := hQ4
  have N4 := Fr.app N0 N4q
  obtain ⟨fs, hr, hrun, hended, hW, hsame⟩ := X4.leave (v := some (.int (1 : Int32))) (fun h => by rw [Bd.returns] at h; cases h)
  refine ⟨_, _, pre0 _ ?_, hrun, hended, _, _, rfl, ?_, ⟨_, rfl⟩, hW, hsame.mono (by decide) (by decide)⟩
  · show Steps p.tables e below (s₁.setTop (mkF m 0 #[.val (.int p1), .val (.int p2), .val (.int p3), .unset, .unset, .unset, .unset] [])) _
    refine XS.iloadN X0.here hx rfl (hb hby at_0) rfl ?_
    show Steps p.tables e below (s₁.setTop (mkF m 1 #[.val (.int p1), .val (.int p2), .val (.int p3), .unset, .unset, .unset, .unset] [(.int p1)])) _
    refine XS.bipush X0.here hx rfl (hb hby at_1) ?_
    show Steps p.tables e below (s₁.setTop (mkF m 3 #[.val (.int p1), .val (.int p2), .val (.int p3), .unset, .unset, .unset, .unset] [(.int (63 : Int32)), (.int p1)])) _
    refine XS.iand X0.here hx rfl (hb hby at_3) rfl ?_
    show Steps p.tables e below (s₁.setTop (mkF m 4 #[.val (.int p1), .val (.int p2), .val (.int p3), .unset, .unset, .unset, .unset] [(.int (p1 &&& (63 : Int32)))])) _
    refine XS.iloadN X0.here hx rfl (hb hby at_4) rfl ?_
    show Steps p.tables e below (s₁.setTop (mkF m 5 #[.val (.int p1), .val (.int p2), .val (.int p3), .unset, .unset, .unset, .unset] [(.int p1), (.int (p1 &&& (63 : Int32)))])) _
    refine XS.bipush X0.here hx rfl (hb hby at_5) ?_
    show Steps p.tables e below (s₁.setTop (mkF m 7 #[.val (.int p1), .val (.int p2), .val (.int p3), .unset, .unset, .unset, .unset] [(.int (6 : Int32)), (.int p1), (.int (p1 &&& (63 : Int32)))])) _
    refine XS.iushr X0.here hx rfl (hb hby at_7) rfl ?_
    show Steps p.tables e below (s₁.setTop (mkF m 8 #[.val (.int p1), .val (.int p2), .val (.int p3), .unset, .unset, .unset, .unset] [(.int ((p1.toUInt32 >>> ((6 : Int32) &&& 31).toUInt32).toInt32)), (.int (p1 &&& (63 : Int32)))])) _
    refine XS.bipush X0.here hx rfl (hb hby at_8) ?_
    show Steps p.tables e below (s₁.setTop (mkF m 10 #[.val (.int p1), .val (.int p2), .val (.int p3), .unset, .unset, .unset, .unset] [(.int (63 : Int32)), (.int ((p1.toUInt32 >>> ((6 : Int32) &&& 31).toUInt32).toInt32)), (.int (p1 &&& (63 : Int32)))])) _
    refine XS.iand X0.here hx rfl (hb hby at_10) rfl ?_
    show Steps p.tables e below (s₁.setTop (mkF m 11 #[.val (.int p1), .val (.int p2), .val (.int p3), .unset, .unset, .unset, .unset] [(.int (((p1.toUInt32 >>> ((6 : Int32) &&& 31).toUInt32).toInt32) &&& (63 : Int32))), (.int (p1 &&& (63 : Int32)))])) _
    refine XS.bipush X0.here hx rfl (hb hby at_11) ?_
    show Steps p.tables e below (s₁.setTop (mkF m 13 #[.val (.int p1), .val (.int p2), .val (.int p3), .unset, .unset, .unset, .unset] [(.int (6 : Int32)), (.int (((p1.toUInt32 >>> ((6 : Int32) &&& 31).toUInt32).toInt32) &&& (63 : Int32))), (.int (p1 &&& (63 : Int32)))])) _
    refine XS.ishl X0.here hx rfl (hb hby at_13) rfl ?_
    show Steps p.tables e below (s₁.setTop (mkF m 14 #[.val (.int p1), .val (.int p2), .val (.int p3), .unset, .unset, .unset, .unset] [(.int ((((p1.toUInt32 >>> ((6 : Int32) &&& 31).toUInt32).toInt32) &&& (63 : Int32)) <<< ((6 : Int32) &&& 31))), (.int (p1 &&& (63 : Int32)))])) _
    refine XS.ior X0.here hx rfl (hb hby at_14) rfl ?_
    show Steps p.tables e below (s₁.setTop (mkF m 15 #[.val (.int p1), .val (.int p2), .val (.int p3), .unset, .unset, .unset, .unset] [(.int ((p1 &&& (63 : Int32)) ||| ((((p1.toUInt32 >>> ((6 : Int32) &&& 31).toUInt32).toInt32) &&& (63 : Int32)) <<< ((6 : Int32) &&& 31))))])) _
    refine XS.iloadN X0.here hx rfl (hb hby at_15) rfl ?_
    show Steps p.tables e below (s₁.setTop (mkF m 16 #[.val (.int p1), .val (.int p2), .val (.int p3), .unset, .unset, .unset, .unset] [(.int p1), (.int ((p1 &&& (63 : Int32)) ||| ((((p1.toUInt32 >>> ((6 : Int32) &&& 31).toUInt32).toInt32) &&& (63 : Int32)) <<< ((6 : Int32) &&& 31))))])) _
    refine XS.bipush X0.here hx rfl (hb hby at_16) ?_
    show Steps p.tables e below (s₁.setTop (mkF m 18 #[.val (.int p1), .val (.int p2), .val (.int p3), .unset, .unset, .unset, .unset] [(.int (15 : Int32)), (.int p1), (.int ((p1 &&& (63 : Int32)) ||| ((((p1.toUInt32 >>> ((6 : Int32) &&& 31).toUInt32).toInt32) &&& (63 : Int32)) <<< ((6 : Int32) &&& 31))))])) _
    refine XS.iushr X0.here hx rfl (hb hby at_18) rfl ?_
    show Steps p.tables e below (s₁.setTop (mkF m 19 #[.val (.int p1), .val (.int p2), .val (.int p3), .unset, .unset, .unset, .unset] [(.int ((p1.toUInt32 >>> ((15 : Int32) &&& 31).toUInt32).toInt32)), (.int ((p1 &&& (63 : Int32)) ||| ((((p1.toUInt32 >>> ((6 : Int32) &&& 31).toUInt32).toInt32) &&& (63 : Int32)) <<< ((6 : Int32) &&& 31))))])) _
    refine XS.bipush X0.here hx rfl (hb hby at_19) ?_
    show Steps p.tables e below (s₁.setTop (mkF m 21 #[.val (.int p1), .val (.int p2), .val (.int p3), .unset, .unset, .unset, .unset] [(.int (7 : Int32)), (.int ((p1.toUInt32 >>> ((15 : Int32) &&& 31).toUInt32).toInt32)), (.int ((p1 &&& (63 : Int32)) ||| ((((p1.toUInt32 >>> ((6 : Int32) &&& 31).toUInt32).toInt32) &&& (63 : Int32)) <<< ((6 : Int32) &&& 31))))])) _
    refine XS.iand X0.here hx rfl (hb hby at_21) rfl ?_
    show Steps p.tables e below (s₁.setTop (mkF m 22 #[.val (.int p1), .val (.int p2), .val (.int p3), .unset, .unset, .unset, .unset] [(.int (((p1.toUInt32 >>> ((15 : Int32) &&& 31).toUInt32).toInt32) &&& (7 : Int32))), (.int ((p1 &&& (63 : Int32)) ||| ((((p1.toUInt32 >>> ((6 : Int32) &&& 31).toUInt32).toInt32) &&& (63 : Int32)) <<< ((6 : Int32) &&& 31))))])) _
    refine XS.bipush X0.here hx rfl (hb hby at_22) ?_
    show Steps p.tables e below (s₁.setTop (mkF m 24 #[.val (.int p1), .val (.int p2), .val (.int p3), .unset, .unset, .unset, .unset] [(.int (15 : Int32)), (.int (((p1.toUInt32 >>> ((15 : Int32) &&& 31).toUInt32).toInt32) &&& (7 : Int32))), (.int ((p1 &&& (63 : Int32)) ||| ((((p1.toUInt32 >>> ((6 : Int32) &&& 31).toUInt32).toInt32) &&& (63 : Int32)) <<< ((6 : Int32) &&& 31))))])) _
    refine XS.ishl X0.here hx rfl (hb hby at_24) rfl ?_
    show Steps p.tables e below (s₁.setTop (mkF m 25 #[.val (.int p1), .val (.int p2), .val (.int p3), .unset, .unset, .unset, .unset] [(.int ((((p1.toUInt32 >>> ((15 : Int32) &&& 31).toUInt32).toInt32) &&& (7 : Int32)) <<< ((15 : Int32) &&& 31))), (.int ((p1 &&& (63 : Int32)) ||| ((((p1.toUInt32 >>> ((6 : Int32) &&& 31).toUInt32).toInt32) &&& (63 : Int32)) <<< ((6 : Int32) &&& 31))))])) _
    refine XS.ior X0.here hx rfl (hb hby at_25) rfl ?_
    show Steps p.tables e below (s₁.setTop (mkF m 26 #[.val (.int p1), .val (.int p2), .val (.int p3), .unset, .unset, .unset, .unset] [(.int (own_b p1))])) _
    refine XS.istoreN X0.here hx rfl (hb hby at_26) rfl (l' := #[.val (.int p1), .val (.int p2), .val (.int p3), .val (.int (own_b p1)), .unset, .unset, .unset]) rfl ?_
    show Steps p.tables e below (s₁.setTop (mkF m 27 #[.val (.int p1), .val (.int p2), .val (.int p3), .val (.int (own_b p1)), .unset, .unset, .unset] [])) _
    refine XS.iloadN X0.here hx rfl (hb hby at_27) rfl ?_
    show Steps p.tables e below (s₁.setTop (mkF m 28 #[.val (.int p1), .val (.int p2), .val (.int p3), .val (.int (own_b p1)), .unset, .unset, .unset] [(.int p3)])) _
    refine XS.iconst X0.here hx rfl (hb hby at_28) ?_
    show Steps p.tables e below (s₁.setTop (mkF m 29 #[.val (.int p1), .val (.int p2), .val (.int p3), .val (.int (own_b p1)), .unset, .unset, .unset] [(.int (3 : Int32)), (.int p3)])) _
    refine XS.iand X0.here hx rfl (hb hby at_29) rfl ?_
    show Steps p.tables e below (s₁.setTop (mkF m 30 #[.val (.int p1), .val (.int p2), .val (.int p3), .val (.int (own_b p1)), .unset, .unset, .unset] [(.int (p3 &&& (3 : Int32)))])) _
    refine XS.istore X0.here hx rfl (hb hby at_30) rfl (l' := #[.val (.int p1), .val (.int p2), .val (.int p3), .val (.int (own_b p1)), .val (.int (p3 &&& (3 : Int32))), .unset, .unset]) rfl ?_
    show Steps p.tables e below (s₁.setTop (mkF m 32 #[.val (.int p1), .val (.int p2), .val (.int p3), .val (.int (own_b p1)), .val (.int (p3 &&& (3 : Int32))), .unset, .unset] [])) _
    refine XS.iload X0.here hx rfl (hb hby at_32) rfl ?_
    show Steps p.tables e below (s₁.setTop (mkF m 34 #[.val (.int p1), .val (.int p2), .val (.int p3), .val (.int (own_b p1)), .val (.int (p3 &&& (3 : Int32))), .unset, .unset] [(.int (p3 &&& (3 : Int32)))])) _
    refine XS.ifYes X0.here hx rfl (pc0 := 34) (pc' := 43) rfl (hb hby at_34) rfl ((if0 _ _).trans (feq hc34).2) (by decide) (by decide) ?_
    show Steps p.tables e below (s₁.setTop (mkF m 43 #[.val (.int p1), .val (.int p2), .val (.int p3), .val (.int (own_b p1)), .val (.int (p3 &&& (3 : Int32))), .unset, .unset] [])) _
    refine XS.iload X0.here hx rfl (hb hby at_43) rfl ?_
    show Steps p.tables e below (s₁.setTop (mkF m 45 #[.val (.int p1), .val (.int p2), .val (.int p3), .val (.int (own_b p1)), .val (.int (p3 &&& (3 : Int32))), .unset, .unset] [(.int (p3 &&& (3 : Int32)))])) _
    refine XS.iconst X0.here hx rfl (hb hby at_45) ?_
    show Steps p.tables e below (s₁.setTop (mkF m 46 #[.val (.int p1), .val (.int p2), .val (.int p3), .val (.int (own_b p1)), .val (.int (p3 &&& (3 : Int32))), .unset, .unset] [(.int (1 : Int32)), (.int (p3 &&& (3 : Int32)))])) _
    refine XS.icmpNo X0.here hx rfl (hb hby at_46) rfl (teq hc46).2 ?_
    show Steps p.tables e below (s₁.setTop (mkF m 49 #[.val (.int p1), .val (.int p2), .val (.int p3), .val (.int (own_b p1)), .val (.int (p3 &&& (3 : Int32))), .unset, .unset] [])) _
    refine XS.iloadN X0.here hx rfl (hb hby at_49) rfl ?_
    show Steps p.tables e below (s₁.setTop (mkF m 50 #[.val (.int p1), .val (.int p2), .val (.int p3), .val (.int (own_b p1)), .val (.int (p3 &&& (3 : Int32))), .unset, .unset] [(.int (own_b p1))])) _
    refine XS.istore X0.here hx rfl (hb hby at_50) rfl (l' := #[.val (.int p1), .val (.int p2), .val (.int p3), .val (.int (own_b p1)), .val (.int (p3 &&& (3 : Int32))), .val (.int (own_b p1)), .unset]) rfl ?_
    show Steps p.tables e below (s₁.setTop (mkF m 52 #[.val (.int p1), .val (.int p2), .val (.int p3), .val (.int (own_b p1)), .val (.int (p3 &&& (3 : Int32))), .val (.int (own_b p1)), .unset] [])) _
    refine XS.goto X0.here hx rfl (pc0 := 52) (pc' := 77) rfl (hb hby at_52) (by decide) (by decide) ?_
    show Steps p.tables e below (s₁.setTop (mkF m 77 #[.val (.int p1), .val (.int p2), .val (.int p3), .val (.int (own_b p1)), .val (.int (p3 &&& (3 : Int32))), .val (.int (own_b p1)), .unset] [])) _
    refine XS.iload X0.here hx rfl (hb hby at_77) rfl ?_
    show Steps p.tables e below (s₁.setTop (mkF m 79 #[.val (.int p1), .val (.int p2), .val (.int p3), .val (.int (own_b p1)), .val (.int (p3 &&& (3 : Int32))), .val (.int (own_b p1)), .unset] [(.int (own_b p1))])) _
    refine XS.bipush X0.here hx rfl (hb hby at_79) ?_
    show Steps p.tables e below (s₁.setTop (mkF m 81 #[.val (.int p1), .val (.int p2), .val (.int p3), .val (.int (own_b p1)), .val (.int (p3 &&& (3 : Int32))), .val (.int (own_b p1)), .unset] [(.int (18 : Int32)), (.int (own_b p1))])) _
    refine XS.iushr X0.here hx rfl (hb hby at_81) rfl ?_
    show Steps p.tables e below (s₁.setTop (mkF m 82 #[.val (.int p1), .val (.int p2), .val (.int p3), .val (.int (own_b p1)), .val (.int (p3 &&& (3 : Int32))), .val (.int (own_b p1)), .unset] [(.int (((own_b p1).toUInt32 >>> ((18 : Int32) &&& 31).toUInt32).toInt32))])) _
    refine XS.ifNo X0.here hx rfl (hb hby at_82) rfl ((if0 _ _).trans (teq hc82).2) ?_
    show Steps p.tables e below (s₁.setTop (mkF m 85 #[.val (.int p1), .val (.int p2), .val (.int p3), .val (.int (own_b p1)), .val (.int (p3 &&& (3 : Int32))), .val (.int (own_b p1)), .unset] [])) _
    refine XS.iload X0.here hx rfl (hb hby at_85) rfl ?_
    show Steps p.tables e below (s₁.setTop (mkF m 87 #[.val (.int p1), .val (.int p2), .val (.int p3), .val (.int (own_b p1)), .val (.int (p3 &&& (3 : Int32))), .val (.int (own_b p1)), .unset] [(.int (own_b p1))])) _
    refine XS.bipush X0.here hx rfl (hb hby at_87) ?_
    show Steps p.tables e below (s₁.setTop (mkF m 89 #[.val (.int p1), .val (.int p2), .val (.int p3), .val (.int (own_b p1)), .val (.int (p3 &&& (3 : Int32))), .val (.int (own_b p1)), .unset] [(.int (12 : Int32)), (.int (own_b p1))])) _
    refine XS.iushr X0.here hx rfl (hb hby at_89) rfl ?_
    show Steps p.tables e below (s₁.setTop (mkF m 90 #[.val (.int p1), .val (.int p2), .val (.int p3), .val (.int (own_b p1)), .val (.int (p3 &&& (3 : Int32))), .val (.int (own_b p1)), .unset] [(.int (((own_b p1).toUInt32 >>> ((12 : Int32) &&& 31).toUInt32).toInt32))])) _
    refine XS.bipush X0.here hx rfl (hb hby at_90) ?_
    show Steps p.tables e below (s₁.setTop (mkF m 92 #[.val (.int p1), .val (.int p2), .val (.int p3), .val (.int (own_b p1)), .val (.int (p3 &&& (3 : Int32))), .val (.int (own_b p1)), .unset] [(.int (7 : Int32)), (.int (((own_b p1).toUInt32 >>> ((12 : Int32) &&& 31).toUInt32).toInt32))])) _
    refine XS.iand X0.here hx rfl (hb hby at_92) rfl ?_
    show Steps p.tables e below (s₁.setTop (mkF m 93 #[.val (.int p1), .val (.int p2), .val (.int p3), .val (.int (own_b p1)), .val (.int (p3 &&& (3 : Int32))), .val (.int (own_b p1)), .unset] [(.int ((((own_b p1).toUInt32 >>> ((12 : Int32) &&& 31).toUInt32).toInt32) &&& (7 : Int32)))])) _
    refine XS.ifNo X0.here hx rfl (hb hby at_93) rfl ((if0 _ _).trans (teq hc93).2) ?_
    show Steps p.tables e below (s₁.setTop (mkF m 96 #[.val (.int p1), .val (.int p2), .val (.int p3), .val (.int (own_b p1)), .val (.int (p3 &&& (3 : Int32))), .val (.int (own_b p1)), .unset] [])) _
    refine XS.iloadN X0.here hx rfl (hb hby at_96) rfl ?_
    show Steps p.tables e below (s₁.setTop (mkF m 97 #[.val (.int p1), .val (.int p2), .val (.int p3), .val (.int (own_b p1)), .val (.int (p3 &&& (3 : Int32))), .val (.int (own_b p1)), .unset] [(.int p1)])) _
    refine XS.bipush X0.here hx rfl (hb hby at_97) ?_
    show Steps p.tables e below (s₁.setTop (mkF m 99 #[.val (.int p1), .val (.int p2), .val (.int p3), .val (.int (own_b p1)), .val (.int (p3 &&& (3 : Int32))), .val (.int (own_b p1)), .unset] [(.int (63 : Int32)), (.int p1)])) _
    refine XS.iand X0.here hx rfl (hb hby at_99) rfl ?_
    show Steps p.tables e below (s₁.setTop (mkF m 100 #[.val (.int p1), .val (.int p2), .val (.int p3), .val (.int (own_b p1)), .val (.int (p3 &&& (3 : Int32))), .val (.int (own_b p1)), .unset] [(.int (p1 &&& (63 : Int32)))])) _
    refine XS.iload X0.here hx rfl (hb hby at_100) rfl ?_
    show Steps p.tables e below (s₁.setTop (mkF m 102 #[.val (.int p1), .val (.int p2), .val (.int p3), .val (.int (own_b p1)), .val (.int (p3 &&& (3 : Int32))), .val (.int (own_b p1)), .unset] [(.int (own_b p1)), (.int (p1 &&& (63 : Int32)))])) _
    refine XS.bipush X0.here hx rfl (hb hby at_102) ?_
    show Steps p.tables e below (s₁.setTop (mkF m 104 #[.val (.int p1), .val (.int p2), .val (.int p3), .val (.int (own_b p1)), .val (.int (p3 &&& (3 : Int32))), .val (.int (own_b p1)), .unset] [(.int (63 : Int32)), (.int (own_b p1)), (.int (p1 &&& (63 : Int32)))])) _
    refine XS.iand X0.here hx rfl (hb hby at_104) rfl ?_
    show Steps p.tables e below (s₁.setTop (mkF m 105 #[.val (.int p1), .val (.int p2), .val (.int p3), .val (.int (own_b p1)), .val (.int (p3 &&& (3 : Int32))), .val (.int (own_b p1)), .unset] [(.int ((own_b p1) &&& (63 : Int32))), (.int (p1 &&& (63 : Int32)))])) _
    refine XS.icmpNo X0.here hx rfl (hb hby at_105) rfl (teq hc105).2 ?_
    show Steps p.tables e below (s₁.setTop (mkF m 108 #[.val (.int p1), .val (.int p2), .val (.int p3), .val (.int (own_b p1)), .val (.int (p3 &&& (3 : Int32))), .val (.int (own_b p1)), .unset] [])) _
    refine XS.iloadN X0.here hx rfl (hb hby at_108) rfl ?_
    show Steps p.tables e below (s₁.setTop (mkF m 109 #[.val (.int p1), .val (.int p2), .val (.int p3), .val (.int (own_b p1)), .val (.int (p3 &&& (3 : Int32))), .val (.int (own_b p1)), .unset] [(.int p1)])) _
    refine XS.bipush X0.here hx rfl (hb hby at_109) ?_
    show Steps p.tables e below (s₁.setTop (mkF m 111 #[.val (.int p1), .val (.int p2), .val (.int p3), .val (.int (own_b p1)), .val (.int (p3 &&& (3 : Int32))), .val (.int (own_b p1)), .unset] [(.int (6 : Int32)), (.int p1)])) _
    refine XS.iushr X0.here hx rfl (hb hby at_111) rfl ?_
    show Steps p.tables e below (s₁.setTop (mkF m 112 #[.val (.int p1), .val (.int p2), .val (.int p3), .val (.int (own_b p1)), .val (.int (p3 &&& (3 : Int32))), .val (.int (own_b p1)), .unset] [(.int ((p1.toUInt32 >>> ((6 : Int32) &&& 31).toUInt32).toInt32))])) _
    refine XS.bipush X0.here hx rfl (hb hby at_112) ?_
    show Steps p.tables e below (s₁.setTop (mkF m 114 #[.val (.int p1), .val (.int p2), .val (.int p3), .val (.int (own_b p1)), .val (.int (p3 &&& (3 : Int32))), .val (.int (own_b p1)), .unset] [(.int (63 : Int32)), (.int ((p1.toUInt32 >>> ((6 : Int32) &&& 31).toUInt32).toInt32))])) _
    refine XS.iand X0.here hx rfl (hb hby at_114) rfl ?_
    show Steps p.tables e below (s₁.setTop (mkF m 115 #[.val (.int p1), .val (.int p2), .val (.int p3), .val (.int (own_b p1)), .val (.int (p3 &&& (3 : Int32))), .val (.int (own_b p1)), .unset] [(.int (((p1.toUInt32 >>> ((6 : Int32) &&& 31).toUInt32).toInt32) &&& (63 : Int32)))])) _
    refine XS.iload X0.here hx rfl (hb hby at_115) rfl ?_
    show Steps p.tables e below (s₁.setTop (mkF m 117 #[.val (.int p1), .val (.int p2), .val (.int p3), .val (.int (own_b p1)), .val (.int (p3 &&& (3 : Int32))), .val (.int (own_b p1)), .unset] [(.int (own_b p1)), (.int (((p1.toUInt32 >>> ((6 : Int32) &&& 31).toUInt32).toInt32) &&& (63 : Int32)))])) _
    refine XS.bipush X0.here hx rfl (hb hby at_117) ?_
    show Steps p.tables e below (s₁.setTop (mkF m 119 #[.val (.int p1), .val (.int p2), .val (.int p3), .val (.int (own_b p1)), .val (.int (p3 &&& (3 : Int32))), .val (.int (own_b p1)), .unset] [(.int (6 : Int32)), (.int (own_b p1)), (.int (((p1.toUInt32 >>> ((6 : Int32) &&& 31).toUInt32).toInt32) &&& (63 : Int32)))])) _
    refine XS.iushr X0.here hx rfl (hb hby at_119) rfl ?_
    show Steps p.tables e below (s₁.setTop (mkF m 120 #[.val (.int p1), .val (.int p2), .val (.int p3), .val (.int (own_b p1)), .val (.int (p3 &&& (3 : Int32))), .val (.int (own_b p1)), .unset] [(.int (((own_b p1).toUInt32 >>> ((6 : Int32) &&& 31).toUInt32).toInt32)), (.int (((p1.toUInt32 >>> ((6 : Int32) &&& 31).toUInt32).toInt32) &&& (63 : Int32)))])) _
    refine XS.bipush X0.here hx rfl (hb hby at_120) ?_
    show Steps p.tables e below (s₁.setTop (mkF m 122 #[.val (.int p1), .val (.int p2), .val (.int p3), .val (.int (own_b p1)), .val (.int (p3 &&& (3 : Int32))), .val (.int (own_b p1)), .unset] [(.int (63 : Int32)), (.int (((own_b p1).toUInt32 >>> ((6 : Int32) &&& 31).toUInt32).toInt32)), (.int (((p1.toUInt32 >>> ((6 : Int32) &&& 31).toUInt32).toInt32) &&& (63 : Int32)))])) _
    refine XS.iand X0.here hx rfl (hb hby at_122) rfl ?_
    show Steps p.tables e below (s₁.setTop (mkF m 123 #[.val (.int p1), .val (.int p2), .val (.int p3), .val (.int (own_b p1)), .val (.int (p3 &&& (3 : Int32))), .val (.int (own_b p1)), .unset] [(.int ((((own_b p1).toUInt32 >>> ((6 : Int32) &&& 31).toUInt32).toInt32) &&& (63 : Int32))), (.int (((p1.toUInt32 >>> ((6 : Int32) &&& 31).toUInt32).toInt32) &&& (63 : Int32)))])) _
    refine XS.icmpYes X0.here hx rfl (pc0 := 123) (pc' := 148) rfl (hb hby at_123) rfl (feq hc123).2 (by decide) (by decide) ?_
    show Steps p.tables e below (s₁.setTop (mkF m 148 #[.val (.int p1), .val (.int p2), .val (.int p3), .val (.int (own_b p1)), .val (.int (p3 &&& (3 : Int32))), .val (.int (own_b p1)), .unset] [])) _
    refine XS.iconst X0.here hx rfl (hb hby at_148) ?_
    show Steps p.tables e below (s₁.setTop (mkF m 149 #[.val (.int p1), .val (.int p2), .val (.int p3), .val (.int (own_b p1)), .val (.int (p3 &&& (3 : Int32))), .val (.int (own_b p1)), .unset] [(.int (0 : Int32))])) _
    refine XS.istore X0.here hx rfl (hb hby at_149) rfl (l' := #[.val (.int p1), .val (.int p2), .val (.int p3), .val (.int (own_b p1)), .val (.int (p3 &&& (3 : Int32))), .val (.int (own_b p1)), .val (.int (0 : Int32))]) rfl ?_
    show Steps p.tables e below (s₁.setTop (mkF m 151 #[.val (.int p1), .val (.int p2), .val (.int p3), .val (.int (own_b p1)), .val (.int (p3 &&& (3 : Int32))), .val (.int (own_b p1)), .val (.int (0 : Int32))] [])) _
    refine XS.iloadN X0.here hx rfl (hb hby at_151) rfl ?_
    show Steps p.tables e below (s₁.setTop (mkF m 152 #[.val (.int p1), .val (.int p2), .val (.int p3), .val (.int (own_b p1)), .val (.int (p3 &&& (3 : Int32))), .val (.int (own_b p1)), .val (.int (0 : Int32))] [(.int p1)])) _
    refine XS.iload X0.here hx rfl (hb hby at_152) rfl ?_
    show Steps p.tables e below (s₁.setTop (mkF m 154 #[.val (.int p1), .val (.int p2), .val (.int p3), .val (.int (own_b p1)), .val (.int (p3 &&& (3 : Int32))), .val (.int (own_b p1)), .val (.int (0 : Int32))] [(.int (own_b p1)), (.int p1)])) _
    refine st4 _ ?_
    show Steps p.tables e below (T4.setTop (mkF m 157 #[.val (.int p1), .val (.int p2), .val (.int p3), .val (.int (own_b p1)), .val (.int (p3 &&& (3 : Int32))), .val (.int (own_b p1)), .val (.int (0 : Int32))] [(.int (val1 p1 (own_b p1)))])) _
    refine XS.iload X4.here hx rfl (hb hby at_157) rfl ?_
    show Steps p.tables e below (T4.setTop (mkF m 159 #[.val (.int p1), .val (.int p2), .val (.int p3), .val (.int (own_b p1)), .val (.int (p3 &&& (3 : Int32))), .val (.int (own_b p1)), .val (.int (0 : Int32))] [(.int (0 : Int32)), (.int (val1 p1 (own_b p1)))])) _
    refine XS.icmpNo X4.here hx rfl (hb hby at_159) rfl (teq (by unfold val1; rw [if_neg (fun q => hc123 ((own_iff _ _).mp q).2.2.2.1)] : (val1 p1 (own_b p1)) = (0 : Int32))).2 ?_
    show Steps p.tables e below (T4.setTop (mkF m 162 #[.val (.int p1), .val (.int p2), .val (.int p3), .val (.int (own_b p1)), .val (.int (p3 &&& (3 : Int32))), .val (.int (own_b p1)), .val (.int (0 : Int32))] [])) _
    refine XS.iconst X4.here hx rfl (hb hby at_162) ?_
    show Steps p.tables e below (T4.setTop (mkF m 163 #[.val (.int p1), .val (.int p2), .val (.int p3), .val (.int (own_b p1)), .val (.int (p3 &&& (3 : Int32))), .val (.int (own_b p1)), .val (.int (0 : Int32))] [(.int (1 : Int32))])) _
    refine XS.goto X4.here hx rfl (pc0 := 163) (pc' := 167) rfl (hb hby at_163) (by decide) (by decide) ?_
    show Steps p.tables e below (T4.setTop (mkF m 167 #[.val (.int p1), .val (.int p2), .val (.int p3), .val (.int (own_b p1)), .val (.int (p3 &&& (3 : Int32))), .val (.int (own_b p1)), .val (.int (0 : Int32))] [(.int (1 : Int32))])) _
    exact retN X4 hx (t := .boolean) Bd.returns (by simp) (hb hby at_167) hr
  · show Q0 Z p1 p2 p3 h0 n0 _ T4.heap _
    exact ⟨rfl, N4⟩

set_option maxRecDepth 65536 in
set_option maxHeartbeats 40000000 in
theorem rm0_tffffftf (l : Launch) (Z : State) (a0 : Array Value) (hw : ∀ d ∈ tables_1, d.before a0 Z = true) (ws : List Jvm.Cond) (p1 : Int32) (p2 : Int32) (p3 : Int32) (h0 : Heap) (n0 : Nat) (Z0 : n0 ≤ h0.size) (hc34 : ¬ ((p3 &&& (3 : Int32)) = (0 : Int32))) (hc46 : (p3 &&& (3 : Int32)) = (1 : Int32)) (hc82 : (((own_b p1).toUInt32 >>> ((18 : Int32) &&& 31).toUInt32).toInt32) = (0 : Int32)) (hc93 : ((((own_b p1).toUInt32 >>> ((12 : Int32) &&& 31).toUInt32).toInt32) &&& (7 : Int32)) = (0 : Int32)) (hc105 : (p1 &&& (63 : Int32)) = ((own_b p1) &&& (63 : Int32))) (hc123 : (((p1.toUInt32 >>> ((6 : Int32) &&& 31).toUInt32).toInt32) &&& (63 : Int32)) = ((((own_b p1).toUInt32 >>> ((6 : Int32) &&& 31).toUInt32).toInt32) &&& (63 : Int32))) (hc141 : ¬ ((((p1.toUInt32 >>> ((15 : Int32) &&& 31).toUInt32).toInt32) &&& (7 : Int32)) = ((((own_b p1).toUInt32 >>> ((15 : Int32) &&& 31).toUInt32).toInt32) &&& (7 : Int32)))) :
    MetFree l x (head1 (Jvm.Cond.code x code maxLocals ret :: ws) room_1) (fun a U => a = #[(.int p1), (.int p2), (.int p3)] ∧ Z.Warmed39 U.vm ∧ U.heap = h0) (fun _ _ _ _ _ => True) (fun _ U o U' => ∃ v L, o = .returned v ∧ Q0 Z p1 p2 p3 h0 n0 v U'.heap L ∧ FrameEnd U o U' L room_1.cells room_1.slots) := by
  refine MetFree.of_bodySF (plainFor_of_name pn_0) hisR ?_
  intro p e s m args below meth c s₁ Bd hml0 hP hK
  obtain ⟨rfl, hZ, hh⟩ := hP
  have hx := Bd.exec
  have hby := Bd.bytes
  have hml : c.maxLocals = 7 := hml0
  have hown : s.vm.findClass "touchmove/position/PackedMoveIsPinLaw" = some m.cls := findClass_of_methodNamed Bd.named
  have hnm := (name_of_methodNamed Bd.named Bd.method).1
  have X0 : Stand p l e room_1 s m #[(.int p1), (.int p2), (.int p3)] below meth c s₁ [] 0 0 := Stand.of_body Bd
  have e0 : s₁.heap = h0 := by rw [← hh, Bd.state]; rfl
  have N0 := Fr.nil n0
  have pre0 : ∀ t, Steps p.tables e below (s₁.setTop (mkF m 0 #[.val (.int p1), .val (.int p2), .val (.int p3), .unset, .unset, .unset, .unset] [])) t → Steps p.tables e below (s₁.setTop (entryFrame m #[(.int p1), (.int p2), (.int p3)] maxLocals)) t := fun t k => castTop (ef_0 m p1 p2 p3) k
  obtain ⟨_, _, ⟨T4, L4, k4, n4⟩, -, X4, ⟨Lc4, hQ4, l4, y4, z4⟩, st4⟩ := Jvm.LawKit.callS X0 hx (y := (⟨"touchmove/position/PackedMove", "is", "(II)Z"⟩ : MethodName)) hown (mvT hZ (hw _ (List.mem_of_getElem? (i := 0) rfl))) (mvT hZ (hw _ (List.mem_of_getElem? (i := 1) rfl))) (mvT hZ (hw _ (List.mem_of_getElem? (i := 2) rfl))) (mvT hZ (hw _ (List.mem_of_getElem? (i := 3) rfl))) (by decide) (backOf (W := 0) (rm1 l Z a0 hw [] p1 (own_b p1) h0 n0 Z0) hZ (hw _ (List.mem_of_getElem? (i := 3) rfl)) (hw _ (List.mem_of_getElem? (i := 2) rfl)) (by decide) (by decide)) (g := (mkF m 154 #[.val (.int p1), .val (.int p2), .val (.int p3), .val (.int (own_b p1)), .val (.int (p3 &&& (3 : Int32))), .val (.int (own_b p1)), .val (.int (0 : Int32))] [(.int (own_b p1)), (.int p1)])) rfl (by rw [hml]; rfl) (argsL := [(.int p1), (.int (own_b p1))]) (rest := []) (lenOf pd_0_0 rfl) rfl (by show 2 * 0 + _ ≤ _; exact Nat.le_of_eq rfl) (hb hby at_154) (fun _ _ => ⟨rfl, e0, (by decide : 0 + 0 ≤ _), (by decide : 0 + 0 ≤ _)⟩)
  dsimp only [Pt.U, Pt.locs, Pt.cells, Pt.slots] at X4 l4 y4 z4 st4 hQ4
  subst l4 y4 z4
  obtain ⟨rfl, N4q, w4⟩ := hQ4
  have N4 := Fr.app N0 N4q
  obtain ⟨fs, hr, hrun, hended, hW, hsame⟩ := X4.leave (v := some (.int (1 : Int32))) (fun h => by rw [Bd.returns] at h; cases h)
  refine ⟨_, _, pre0 _ ?_, hrun, hended, _, _, rfl, ?_, ⟨_, rfl⟩, hW, hsame.mono (by decide) (by decide)⟩
  · show Steps p.tables e below (s₁.setTop (mkF m 0 #[.val (.int p1), .val (.int p2), .val (.int p3), .unset, .unset, .unset, .unset] [])) _
    refine XS.iloadN X0.here hx rfl (hb hby at_0) rfl ?_
    show Steps p.tables e below (s₁.setTop (mkF m 1 #[.val (.int p1), .val (.int p2), .val (.int p3), .unset, .unset, .unset, .unset] [(.int p1)])) _
    refine XS.bipush X0.here hx rfl (hb hby at_1) ?_
    show Steps p.tables e below (s₁.setTop (mkF m 3 #[.val (.int p1), .val (.int p2), .val (.int p3), .unset, .unset, .unset, .unset] [(.int (63 : Int32)), (.int p1)])) _
    refine XS.iand X0.here hx rfl (hb hby at_3) rfl ?_
    show Steps p.tables e below (s₁.setTop (mkF m 4 #[.val (.int p1), .val (.int p2), .val (.int p3), .unset, .unset, .unset, .unset] [(.int (p1 &&& (63 : Int32)))])) _
    refine XS.iloadN X0.here hx rfl (hb hby at_4) rfl ?_
    show Steps p.tables e below (s₁.setTop (mkF m 5 #[.val (.int p1), .val (.int p2), .val (.int p3), .unset, .unset, .unset, .unset] [(.int p1), (.int (p1 &&& (63 : Int32)))])) _
    refine XS.bipush X0.here hx rfl (hb hby at_5) ?_
    show Steps p.tables e below (s₁.setTop (mkF m 7 #[.val (.int p1), .val (.int p2), .val (.int p3), .unset, .unset, .unset, .unset] [(.int (6 : Int32)), (.int p1), (.int (p1 &&& (63 : Int32)))])) _
    refine XS.iushr X0.here hx rfl (hb hby at_7) rfl ?_
    show Steps p.tables e below (s₁.setTop (mkF m 8 #[.val (.int p1), .val (.int p2), .val (.int p3), .unset, .unset, .unset, .unset] [(.int ((p1.toUInt32 >>> ((6 : Int32) &&& 31).toUInt32).toInt32)), (.int (p1 &&& (63 : Int32)))])) _
    refine XS.bipush X0.here hx rfl (hb hby at_8) ?_
    show Steps p.tables e below (s₁.setTop (mkF m 10 #[.val (.int p1), .val (.int p2), .val (.int p3), .unset, .unset, .unset, .unset] [(.int (63 : Int32)), (.int ((p1.toUInt32 >>> ((6 : Int32) &&& 31).toUInt32).toInt32)), (.int (p1 &&& (63 : Int32)))])) _
    refine XS.iand X0.here hx rfl (hb hby at_10) rfl ?_
    show Steps p.tables e below (s₁.setTop (mkF m 11 #[.val (.int p1), .val (.int p2), .val (.int p3), .unset, .unset, .unset, .unset] [(.int (((p1.toUInt32 >>> ((6 : Int32) &&& 31).toUInt32).toInt32) &&& (63 : Int32))), (.int (p1 &&& (63 : Int32)))])) _
    refine XS.bipush X0.here hx rfl (hb hby at_11) ?_
    show Steps p.tables e below (s₁.setTop (mkF m 13 #[.val (.int p1), .val (.int p2), .val (.int p3), .unset, .unset, .unset, .unset] [(.int (6 : Int32)), (.int (((p1.toUInt32 >>> ((6 : Int32) &&& 31).toUInt32).toInt32) &&& (63 : Int32))), (.int (p1 &&& (63 : Int32)))])) _
    refine XS.ishl X0.here hx rfl (hb hby at_13) rfl ?_
    show Steps p.tables e below (s₁.setTop (mkF m 14 #[.val (.int p1), .val (.int p2), .val (.int p3), .unset, .unset, .unset, .unset] [(.int ((((p1.toUInt32 >>> ((6 : Int32) &&& 31).toUInt32).toInt32) &&& (63 : Int32)) <<< ((6 : Int32) &&& 31))), (.int (p1 &&& (63 : Int32)))])) _
    refine XS.ior X0.here hx rfl (hb hby at_14) rfl ?_
    show Steps p.tables e below (s₁.setTop (mkF m 15 #[.val (.int p1), .val (.int p2), .val (.int p3), .unset, .unset, .unset, .unset] [(.int ((p1 &&& (63 : Int32)) ||| ((((p1.toUInt32 >>> ((6 : Int32) &&& 31).toUInt32).toInt32) &&& (63 : Int32)) <<< ((6 : Int32) &&& 31))))])) _
    refine XS.iloadN X0.here hx rfl (hb hby at_15) rfl ?_
    show Steps p.tables e below (s₁.setTop (mkF m 16 #[.val (.int p1), .val (.int p2), .val (.int p3), .unset, .unset, .unset, .unset] [(.int p1), (.int ((p1 &&& (63 : Int32)) ||| ((((p1.toUInt32 >>> ((6 : Int32) &&& 31).toUInt32).toInt32) &&& (63 : Int32)) <<< ((6 : Int32) &&& 31))))])) _
    refine XS.bipush X0.here hx rfl (hb hby at_16) ?_
    show Steps p.tables e below (s₁.setTop (mkF m 18 #[.val (.int p1), .val (.int p2), .val (.int p3), .unset, .unset, .unset, .unset] [(.int (15 : Int32)), (.int p1), (.int ((p1 &&& (63 : Int32)) ||| ((((p1.toUInt32 >>> ((6 : Int32) &&& 31).toUInt32).toInt32) &&& (63 : Int32)) <<< ((6 : Int32) &&& 31))))])) _
    refine XS.iushr X0.here hx rfl (hb hby at_18) rfl ?_
    show Steps p.tables e below (s₁.setTop (mkF m 19 #[.val (.int p1), .val (.int p2), .val (.int p3), .unset, .unset, .unset, .unset] [(.int ((p1.toUInt32 >>> ((15 : Int32) &&& 31).toUInt32).toInt32)), (.int ((p1 &&& (63 : Int32)) ||| ((((p1.toUInt32 >>> ((6 : Int32) &&& 31).toUInt32).toInt32) &&& (63 : Int32)) <<< ((6 : Int32) &&& 31))))])) _
    refine XS.bipush X0.here hx rfl (hb hby at_19) ?_
    show Steps p.tables e below (s₁.setTop (mkF m 21 #[.val (.int p1), .val (.int p2), .val (.int p3), .unset, .unset, .unset, .unset] [(.int (7 : Int32)), (.int ((p1.toUInt32 >>> ((15 : Int32) &&& 31).toUInt32).toInt32)), (.int ((p1 &&& (63 : Int32)) ||| ((((p1.toUInt32 >>> ((6 : Int32) &&& 31).toUInt32).toInt32) &&& (63 : Int32)) <<< ((6 : Int32) &&& 31))))])) _
    refine XS.iand X0.here hx rfl (hb hby at_21) rfl ?_
    show Steps p.tables e below (s₁.setTop (mkF m 22 #[.val (.int p1), .val (.int p2), .val (.int p3), .unset, .unset, .unset, .unset] [(.int (((p1.toUInt32 >>> ((15 : Int32) &&& 31).toUInt32).toInt32) &&& (7 : Int32))), (.int ((p1 &&& (63 : Int32)) ||| ((((p1.toUInt32 >>> ((6 : Int32) &&& 31).toUInt32).toInt32) &&& (63 : Int32)) <<< ((6 : Int32) &&& 31))))])) _
    refine XS.bipush X0.here hx rfl (hb hby at_22) ?_
    show Steps p.tables e below (s₁.setTop (mkF m 24 #[.val (.int p1), .val (.int p2), .val (.int p3), .unset, .unset, .unset, .unset] [(.int (15 : Int32)), (.int (((p1.toUInt32 >>> ((15 : Int32) &&& 31).toUInt32).toInt32) &&& (7 : Int32))), (.int ((p1 &&& (63 : Int32)) ||| ((((p1.toUInt32 >>> ((6 : Int32) &&& 31).toUInt32).toInt32) &&& (63 : Int32)) <<< ((6 : Int32) &&& 31))))])) _
    refine XS.ishl X0.here hx rfl (hb hby at_24) rfl ?_
    show Steps p.tables e below (s₁.setTop (mkF m 25 #[.val (.int p1), .val (.int p2), .val (.int p3), .unset, .unset, .unset, .unset] [(.int ((((p1.toUInt32 >>> ((15 : Int32) &&& 31).toUInt32).toInt32) &&& (7 : Int32)) <<< ((15 : Int32) &&& 31))), (.int ((p1 &&& (63 : Int32)) ||| ((((p1.toUInt32 >>> ((6 : Int32) &&& 31).toUInt32).toInt32) &&& (63 : Int32)) <<< ((6 : Int32) &&& 31))))])) _
    refine XS.ior X0.here hx rfl (hb hby at_25) rfl ?_
    show Steps p.tables e below (s₁.setTop (mkF m 26 #[.val (.int p1), .val (.int p2), .val (.int p3), .unset, .unset, .unset, .unset] [(.int (own_b p1))])) _
    refine XS.istoreN X0.here hx rfl (hb hby at_26) rfl (l' := #[.val (.int p1), .val (.int p2), .val (.int p3), .val (.int (own_b p1)), .unset, .unset, .unset]) rfl ?_
    show Steps p.tables e below (s₁.setTop (mkF m 27 #[.val (.int p1), .val (.int p2), .val (.int p3), .val (.int (own_b p1)), .unset, .unset, .unset] [])) _
    refine XS.iloadN X0.here hx rfl (hb hby at_27) rfl ?_
    show Steps p.tables e below (s₁.setTop (mkF m 28 #[.val (.int p1), .val (.int p2), .val (.int p3), .val (.int (own_b p1)), .unset, .unset, .unset] [(.int p3)])) _
    refine XS.iconst X0.here hx rfl (hb hby at_28) ?_
    show Steps p.tables e below (s₁.setTop (mkF m 29 #[.val (.int p1), .val (.int p2), .val (.int p3), .val (.int (own_b p1)), .unset, .unset, .unset] [(.int (3 : Int32)), (.int p3)])) _
    refine XS.iand X0.here hx rfl (hb hby at_29) rfl ?_
    show Steps p.tables e below (s₁.setTop (mkF m 30 #[.val (.int p1), .val (.int p2), .val (.int p3), .val (.int (own_b p1)), .unset, .unset, .unset] [(.int (p3 &&& (3 : Int32)))])) _
    refine XS.istore X0.here hx rfl (hb hby at_30) rfl (l' := #[.val (.int p1), .val (.int p2), .val (.int p3), .val (.int (own_b p1)), .val (.int (p3 &&& (3 : Int32))), .unset, .unset]) rfl ?_
    show Steps p.tables e below (s₁.setTop (mkF m 32 #[.val (.int p1), .val (.int p2), .val (.int p3), .val (.int (own_b p1)), .val (.int (p3 &&& (3 : Int32))), .unset, .unset] [])) _
    refine XS.iload X0.here hx rfl (hb hby at_32) rfl ?_
    show Steps p.tables e below (s₁.setTop (mkF m 34 #[.val (.int p1), .val (.int p2), .val (.int p3), .val (.int (own_b p1)), .val (.int (p3 &&& (3 : Int32))), .unset, .unset] [(.int (p3 &&& (3 : Int32)))])) _
    refine XS.ifYes X0.here hx rfl (pc0 := 34) (pc' := 43) rfl (hb hby at_34) rfl ((if0 _ _).trans (feq hc34).2) (by decide) (by decide) ?_
    show Steps p.tables e below (s₁.setTop (mkF m 43 #[.val (.int p1), .val (.int p2), .val (.int p3), .val (.int (own_b p1)), .val (.int (p3 &&& (3 : Int32))), .unset, .unset] [])) _
    refine XS.iload X0.here hx rfl (hb hby at_43) rfl ?_
    show Steps p.tables e below (s₁.setTop (mkF m 45 #[.val (.int p1), .val (.int p2), .val (.int p3), .val (.int (own_b p1)), .val (.int (p3 &&& (3 : Int32))), .unset, .unset] [(.int (p3 &&& (3 : Int32)))])) _
    refine XS.iconst X0.here hx rfl (hb hby at_45) ?_
    show Steps p.tables e below (s₁.setTop (mkF m 46 #[.val (.int p1), .val (.int p2), .val (.int p3), .val (.int (own_b p1)), .val (.int (p3 &&& (3 : Int32))), .unset, .unset] [(.int (1 : Int32)), (.int (p3 &&& (3 : Int32)))])) _
    refine XS.icmpNo X0.here hx rfl (hb hby at_46) rfl (teq hc46).2 ?_
    show Steps p.tables e below (s₁.setTop (mkF m 49 #[.val (.int p1), .val (.int p2), .val (.int p3), .val (.int (own_b p1)), .val (.int (p3 &&& (3 : Int32))), .unset, .unset] [])) _
    refine XS.iloadN X0.here hx rfl (hb hby at_49) rfl ?_
    show Steps p.tables e below (s₁.setTop (mkF m 50 #[.val (.int p1), .val (.int p2), .val (.int p3), .val (.int (own_b p1)), .val (.int (p3 &&& (3 : Int32))), .unset, .unset] [(.int (own_b p1))])) _
    refine XS.istore X0.here hx rfl (hb hby at_50) rfl (l' := #[.val (.int p1), .val (.int p2), .val (.int p3), .val (.int (own_b p1)), .val (.int (p3 &&& (3 : Int32))), .val (.int (own_b p1)), .unset]) rfl ?_
    show Steps p.tables e below (s₁.setTop (mkF m 52 #[.val (.int p1), .val (.int p2), .val (.int p3), .val (.int (own_b p1)), .val (.int (p3 &&& (3 : Int32))), .val (.int (own_b p1)), .unset] [])) _
    refine XS.goto X0.here hx rfl (pc0 := 52) (pc' := 77) rfl (hb hby at_52) (by decide) (by decide) ?_
    show Steps p.tables e below (s₁.setTop (mkF m 77 #[.val (.int p1), .val (.int p2), .val (.int p3), .val (.int (own_b p1)), .val (.int (p3 &&& (3 : Int32))), .val (.int (own_b p1)), .unset] [])) _
    refine XS.iload X0.here hx rfl (hb hby at_77) rfl ?_
    show Steps p.tables e below (s₁.setTop (mkF m 79 #[.val (.int p1), .val (.int p2), .val (.int p3), .val (.int (own_b p1)), .val (.int (p3 &&& (3 : Int32))), .val (.int (own_b p1)), .unset] [(.int (own_b p1))])) _
    refine XS.bipush X0.here hx rfl (hb hby at_79) ?_
    show Steps p.tables e below (s₁.setTop (mkF m 81 #[.val (.int p1), .val (.int p2), .val (.int p3), .val (.int (own_b p1)), .val (.int (p3 &&& (3 : Int32))), .val (.int (own_b p1)), .unset] [(.int (18 : Int32)), (.int (own_b p1))])) _
    refine XS.iushr X0.here hx rfl (hb hby at_81) rfl ?_
    show Steps p.tables e below (s₁.setTop (mkF m 82 #[.val (.int p1), .val (.int p2), .val (.int p3), .val (.int (own_b p1)), .val (.int (p3 &&& (3 : Int32))), .val (.int (own_b p1)), .unset] [(.int (((own_b p1).toUInt32 >>> ((18 : Int32) &&& 31).toUInt32).toInt32))])) _
    refine XS.ifNo X0.here hx rfl (hb hby at_82) rfl ((if0 _ _).trans (teq hc82).2) ?_
    show Steps p.tables e below (s₁.setTop (mkF m 85 #[.val (.int p1), .val (.int p2), .val (.int p3), .val (.int (own_b p1)), .val (.int (p3 &&& (3 : Int32))), .val (.int (own_b p1)), .unset] [])) _
    refine XS.iload X0.here hx rfl (hb hby at_85) rfl ?_
    show Steps p.tables e below (s₁.setTop (mkF m 87 #[.val (.int p1), .val (.int p2), .val (.int p3), .val (.int (own_b p1)), .val (.int (p3 &&& (3 : Int32))), .val (.int (own_b p1)), .unset] [(.int (own_b p1))])) _
    refine XS.bipush X0.here hx rfl (hb hby at_87) ?_
    show Steps p.tables e below (s₁.setTop (mkF m 89 #[.val (.int p1), .val (.int p2), .val (.int p3), .val (.int (own_b p1)), .val (.int (p3 &&& (3 : Int32))), .val (.int (own_b p1)), .unset] [(.int (12 : Int32)), (.int (own_b p1))])) _
    refine XS.iushr X0.here hx rfl (hb hby at_89) rfl ?_
    show Steps p.tables e below (s₁.setTop (mkF m 90 #[.val (.int p1), .val (.int p2), .val (.int p3), .val (.int (own_b p1)), .val (.int (p3 &&& (3 : Int32))), .val (.int (own_b p1)), .unset] [(.int (((own_b p1).toUInt32 >>> ((12 : Int32) &&& 31).toUInt32).toInt32))])) _
    refine XS.bipush X0.here hx rfl (hb hby at_90) ?_
    show Steps p.tables e below (s₁.setTop (mkF m 92 #[.val (.int p1), .val (.int p2), .val (.int p3), .val (.int (own_b p1)), .val (.int (p3 &&& (3 : Int32))), .val (.int (own_b p1)), .unset] [(.int (7 : Int32)), (.int (((own_b p1).toUInt32 >>> ((12 : Int32) &&& 31).toUInt32).toInt32))])) _
    refine XS.iand X0.here hx rfl (hb hby at_92) rfl ?_
    show Steps p.tables e below (s₁.setTop (mkF m 93 #[.val (.int p1), .val (.int p2), .val (.int p3), .val (.int (own_b p1)), .val (.int (p3 &&& (3 : Int32))), .val (.int (own_b p1)), .unset] [(.int ((((own_b p1).toUInt32 >>> ((12 : Int32) &&& 31).toUInt32).toInt32) &&& (7 : Int32)))])) _
    refine XS.ifNo X0.here hx rfl (hb hby at_93) rfl ((if0 _ _).trans (teq hc93).2) ?_
    show Steps p.tables e below (s₁.setTop (mkF m 96 #[.val (.int p1), .val (.int p2), .val (.int p3), .val (.int (own_b p1)), .val (.int (p3 &&& (3 : Int32))), .val (.int (own_b p1)), .unset] [])) _
    refine XS.iloadN X0.here hx rfl (hb hby at_96) rfl ?_
    show Steps p.tables e below (s₁.setTop (mkF m 97 #[.val (.int p1), .val (.int p2), .val (.int p3), .val (.int (own_b p1)), .val (.int (p3 &&& (3 : Int32))), .val (.int (own_b p1)), .unset] [(.int p1)])) _
    refine XS.bipush X0.here hx rfl (hb hby at_97) ?_
    show Steps p.tables e below (s₁.setTop (mkF m 99 #[.val (.int p1), .val (.int p2), .val (.int p3), .val (.int (own_b p1)), .val (.int (p3 &&& (3 : Int32))), .val (.int (own_b p1)), .unset] [(.int (63 : Int32)), (.int p1)])) _
    refine XS.iand X0.here hx rfl (hb hby at_99) rfl ?_
    show Steps p.tables e below (s₁.setTop (mkF m 100 #[.val (.int p1), .val (.int p2), .val (.int p3), .val (.int (own_b p1)), .val (.int (p3 &&& (3 : Int32))), .val (.int (own_b p1)), .unset] [(.int (p1 &&& (63 : Int32)))])) _
    refine XS.iload X0.here hx rfl (hb hby at_100) rfl ?_
    show Steps p.tables e below (s₁.setTop (mkF m 102 #[.val (.int p1), .val (.int p2), .val (.int p3), .val (.int (own_b p1)), .val (.int (p3 &&& (3 : Int32))), .val (.int (own_b p1)), .unset] [(.int (own_b p1)), (.int (p1 &&& (63 : Int32)))])) _
    refine XS.bipush X0.here hx rfl (hb hby at_102) ?_
    show Steps p.tables e below (s₁.setTop (mkF m 104 #[.val (.int p1), .val (.int p2), .val (.int p3), .val (.int (own_b p1)), .val (.int (p3 &&& (3 : Int32))), .val (.int (own_b p1)), .unset] [(.int (63 : Int32)), (.int (own_b p1)), (.int (p1 &&& (63 : Int32)))])) _
    refine XS.iand X0.here hx rfl (hb hby at_104) rfl ?_
    show Steps p.tables e below (s₁.setTop (mkF m 105 #[.val (.int p1), .val (.int p2), .val (.int p3), .val (.int (own_b p1)), .val (.int (p3 &&& (3 : Int32))), .val (.int (own_b p1)), .unset] [(.int ((own_b p1) &&& (63 : Int32))), (.int (p1 &&& (63 : Int32)))])) _
    refine XS.icmpNo X0.here hx rfl (hb hby at_105) rfl (teq hc105).2 ?_
    show Steps p.tables e below (s₁.setTop (mkF m 108 #[.val (.int p1), .val (.int p2), .val (.int p3), .val (.int (own_b p1)), .val (.int (p3 &&& (3 : Int32))), .val (.int (own_b p1)), .unset] [])) _
    refine XS.iloadN X0.here hx rfl (hb hby at_108) rfl ?_
    show Steps p.tables e below (s₁.setTop (mkF m 109 #[.val (.int p1), .val (.int p2), .val (.int p3), .val (.int (own_b p1)), .val (.int (p3 &&& (3 : Int32))), .val (.int (own_b p1)), .unset] [(.int p1)])) _
    refine XS.bipush X0.here hx rfl (hb hby at_109) ?_
    show Steps p.tables e below (s₁.setTop (mkF m 111 #[.val (.int p1), .val (.int p2), .val (.int p3), .val (.int (own_b p1)), .val (.int (p3 &&& (3 : Int32))), .val (.int (own_b p1)), .unset] [(.int (6 : Int32)), (.int p1)])) _
    refine XS.iushr X0.here hx rfl (hb hby at_111) rfl ?_
    show Steps p.tables e below (s₁.setTop (mkF m 112 #[.val (.int p1), .val (.int p2), .val (.int p3), .val (.int (own_b p1)), .val (.int (p3 &&& (3 : Int32))), .val (.int (own_b p1)), .unset] [(.int ((p1.toUInt32 >>> ((6 : Int32) &&& 31).toUInt32).toInt32))])) _
    refine XS.bipush X0.here hx rfl (hb hby at_112) ?_
    show Steps p.tables e below (s₁.setTop (mkF m 114 #[.val (.int p1), .val (.int p2), .val (.int p3), .val (.int (own_b p1)), .val (.int (p3 &&& (3 : Int32))), .val (.int (own_b p1)), .unset] [(.int (63 : Int32)), (.int ((p1.toUInt32 >>> ((6 : Int32) &&& 31).toUInt32).toInt32))])) _
    refine XS.iand X0.here hx rfl (hb hby at_114) rfl ?_
    show Steps p.tables e below (s₁.setTop (mkF m 115 #[.val (.int p1), .val (.int p2), .val (.int p3), .val (.int (own_b p1)), .val (.int (p3 &&& (3 : Int32))), .val (.int (own_b p1)), .unset] [(.int (((p1.toUInt32 >>> ((6 : Int32) &&& 31).toUInt32).toInt32) &&& (63 : Int32)))])) _
    refine XS.iload X0.here hx rfl (hb hby at_115) rfl ?_
    show Steps p.tables e below (s₁.setTop (mkF m 117 #[.val (.int p1), .val (.int p2), .val (.int p3), .val (.int (own_b p1)), .val (.int (p3 &&& (3 : Int32))), .val (.int (own_b p1)), .unset] [(.int (own_b p1)), (.int (((p1.toUInt32 >>> ((6 : Int32) &&& 31).toUInt32).toInt32) &&& (63 : Int32)))])) _
    refine XS.bipush X0.here hx rfl (hb hby at_117) ?_
    show Steps p.tables e below (s₁.setTop (mkF m 119 #[.val (.int p1), .val (.int p2), .val (.int p3), .val (.int (own_b p1)), .val (.int (p3 &&& (3 : Int32))), .val (.int (own_b p1)), .unset] [(.int (6 : Int32)), (.int (own_b p1)), (.int (((p1.toUInt32 >>> ((6 : Int32) &&& 31).toUInt32).toInt32) &&& (63 : Int32)))])) _
    refine XS.iushr X0.here hx rfl (hb hby at_119) rfl ?_
    show Steps p.tables e below (s₁.setTop (mkF m 120 #[.val (.int p1), .val (.int p2), .val (.int p3), .val (.int (own_b p1)), .val (.int (p3 &&& (3 : Int32))), .val (.int (own_b p1)), .unset] [(.int (((own_b p1).toUInt32 >>> ((6 : Int32) &&& 31).toUInt32).toInt32)), (.int (((p1.toUInt32 >>> ((6 : Int32) &&& 31).toUInt32).toInt32) &&& (63 : Int32)))])) _
    refine XS.bipush X0.here hx rfl (hb hby at_120) ?_
    show Steps p.tables e below (s₁.setTop (mkF m 122 #[.val (.int p1), .val (.int p2), .val (.int p3), .val (.int (own_b p1)), .val (.int (p3 &&& (3 : Int32))), .val (.int (own_b p1)), .unset] [(.int (63 : Int32)), (.int (((own_b p1).toUInt32 >>> ((6 : Int32) &&& 31).toUInt32).toInt32)), (.int (((p1.toUInt32 >>> ((6 : Int32) &&& 31).toUInt32).toInt32) &&& (63 : Int32)))])) _
    refine XS.iand X0.here hx rfl (hb hby at_122) rfl ?_
    show Steps p.tables e below (s₁.setTop (mkF m 123 #[.val (.int p1), .val (.int p2), .val (.int p3), .val (.int (own_b p1)), .val (.int (p3 &&& (3 : Int32))), .val (.int (own_b p1)), .unset] [(.int ((((own_b p1).toUInt32 >>> ((6 : Int32) &&& 31).toUInt32).toInt32) &&& (63 : Int32))), (.int (((p1.toUInt32 >>> ((6 : Int32) &&& 31).toUInt32).toInt32) &&& (63 : Int32)))])) _
    refine XS.icmpNo X0.here hx rfl (hb hby at_123) rfl (teq hc123).2 ?_
    show Steps p.tables e below (s₁.setTop (mkF m 126 #[.val (.int p1), .val (.int p2), .val (.int p3), .val (.int (own_b p1)), .val (.int (p3 &&& (3 : Int32))), .val (.int (own_b p1)), .unset] [])) _
    refine XS.iloadN X0.here hx rfl (hb hby at_126) rfl ?_
    show Steps p.tables e below (s₁.setTop (mkF m 127 #[.val (.int p1), .val (.int p2), .val (.int p3), .val (.int (own_b p1)), .val (.int (p3 &&& (3 : Int32))), .val (.int (own_b p1)), .unset] [(.int p1)])) _
    refine XS.bipush X0.here hx rfl (hb hby at_127) ?_
    show Steps p.tables e below (s₁.setTop (mkF m 129 #[.val (.int p1), .val (.int p2), .val (.int p3), .val (.int (own_b p1)), .val (.int (p3 &&& (3 : Int32))), .val (.int (own_b p1)), .unset] [(.int (15 : Int32)), (.int p1)])) _
    refine XS.iushr X0.here hx rfl (hb hby at_129) rfl ?_
    show Steps p.tables e below (s₁.setTop (mkF m 130 #[.val (.int p1), .val (.int p2), .val (.int p3), .val (.int (own_b p1)), .val (.int (p3 &&& (3 : Int32))), .val (.int (own_b p1)), .unset] [(.int ((p1.toUInt32 >>> ((15 : Int32) &&& 31).toUInt32).toInt32))])) _
    refine XS.bipush X0.here hx rfl (hb hby at_130) ?_
    show Steps p.tables e below (s₁.setTop (mkF m 132 #[.val (.int p1), .val (.int p2), .val (.int p3), .val (.int (own_b p1)), .val (.int (p3 &&& (3 : Int32))), .val (.int (own_b p1)), .unset] [(.int (7 : Int32)), (.int ((p1.toUInt32 >>> ((15 : Int32) &&& 31).toUInt32).toInt32))])) _
    refine XS.iand X0.here hx rfl (hb hby at_132) rfl ?_
    show Steps p.tables e below (s₁.setTop (mkF m 133 #[.val (.int p1), .val (.int p2), .val (.int p3), .val (.int (own_b p1)), .val (.int (p3 &&& (3 : Int32))), .val (.int (own_b p1)), .unset] [(.int (((p1.toUInt32 >>> ((15 : Int32) &&& 31).toUInt32).toInt32) &&& (7 : Int32)))])) _
    refine XS.iload X0.here hx rfl (hb hby at_133) rfl ?_
    show Steps p.tables e below (s₁.setTop (mkF m 135 #[.val (.int p1), .val (.int p2), .val (.int p3), .val (.int (own_b p1)), .val (.int (p3 &&& (3 : Int32))), .val (.int (own_b p1)), .unset] [(.int (own_b p1)), (.int (((p1.toUInt32 >>> ((15 : Int32) &&& 31).toUInt32).toInt32) &&& (7 : Int32)))])) _
    refine XS.bipush X0.here hx rfl (hb hby at_135) ?_
    show Steps p.tables e below (s₁.setTop (mkF m 137 #[.val (.int p1), .val (.int p2), .val (.int p3), .val (.int (own_b p1)), .val (.int (p3 &&& (3 : Int32))), .val (.int (own_b p1)), .unset] [(.int (15 : Int32)), (.int (own_b p1)), (.int (((p1.toUInt32 >>> ((15 : Int32) &&& 31).toUInt32).toInt32) &&& (7 : Int32)))])) _
    refine XS.iushr X0.here hx rfl (hb hby at_137) rfl ?_
    show Steps p.tables e below (s₁.setTop (mkF m 138 #[.val (.int p1), .val (.int p2), .val (.int p3), .val (.int (own_b p1)), .val (.int (p3 &&& (3 : Int32))), .val (.int (own_b p1)), .unset] [(.int (((own_b p1).toUInt32 >>> ((15 : Int32) &&& 31).toUInt32).toInt32)), (.int (((p1.toUInt32 >>> ((15 : Int32) &&& 31).toUInt32).toInt32) &&& (7 : Int32)))])) _
    refine XS.bipush X0.here hx rfl (hb hby at_138) ?_
    show Steps p.tables e below (s₁.setTop (mkF m 140 #[.val (.int p1), .val (.int p2), .val (.int p3), .val (.int (own_b p1)), .val (.int (p3 &&& (3 : Int32))), .val (.int (own_b p1)), .unset] [(.int (7 : Int32)), (.int (((own_b p1).toUInt32 >>> ((15 : Int32) &&& 31).toUInt32).toInt32)), (.int (((p1.toUInt32 >>> ((15 : Int32) &&& 31).toUInt32).toInt32) &&& (7 : Int32)))])) _
    refine XS.iand X0.here hx rfl (hb hby at_140) rfl ?_
    show Steps p.tables e below (s₁.setTop (mkF m 141 #[.val (.int p1), .val (.int p2), .val (.int p3), .val (.int (own_b p1)), .val (.int (p3 &&& (3 : Int32))), .val (.int (own_b p1)), .unset] [(.int ((((own_b p1).toUInt32 >>> ((15 : Int32) &&& 31).toUInt32).toInt32) &&& (7 : Int32))), (.int (((p1.toUInt32 >>> ((15 : Int32) &&& 31).toUInt32).toInt32) &&& (7 : Int32)))])) _
    refine XS.icmpYes X0.here hx rfl (pc0 := 141) (pc' := 148) rfl (hb hby at_141) rfl (feq hc141).2 (by decide) (by decide) ?_
    show Steps p.tables e below (s₁.setTop (mkF m 148 #[.val (.int p1), .val (.int p2), .val (.int p3), .val (.int (own_b p1)), .val (.int (p3 &&& (3 : Int32))), .val (.int (own_b p1)), .unset] [])) _
    refine XS.iconst X0.here hx rfl (hb hby at_148) ?_
    show Steps p.tables e below (s₁.setTop (mkF m 149 #[.val (.int p1), .val (.int p2), .val (.int p3), .val (.int (own_b p1)), .val (.int (p3 &&& (3 : Int32))), .val (.int (own_b p1)), .unset] [(.int (0 : Int32))])) _
    refine XS.istore X0.here hx rfl (hb hby at_149) rfl (l' := #[.val (.int p1), .val (.int p2), .val (.int p3), .val (.int (own_b p1)), .val (.int (p3 &&& (3 : Int32))), .val (.int (own_b p1)), .val (.int (0 : Int32))]) rfl ?_
    show Steps p.tables e below (s₁.setTop (mkF m 151 #[.val (.int p1), .val (.int p2), .val (.int p3), .val (.int (own_b p1)), .val (.int (p3 &&& (3 : Int32))), .val (.int (own_b p1)), .val (.int (0 : Int32))] [])) _
    refine XS.iloadN X0.here hx rfl (hb hby at_151) rfl ?_
    show Steps p.tables e below (s₁.setTop (mkF m 152 #[.val (.int p1), .val (.int p2), .val (.int p3), .val (.int (own_b p1)), .val (.int (p3 &&& (3 : Int32))), .val (.int (own_b p1)), .val (.int (0 : Int32))] [(.int p1)])) _
    refine XS.iload X0.here hx rfl (hb hby at_152) rfl ?_
    show Steps p.tables e below (s₁.setTop (mkF m 154 #[.val (.int p1), .val (.int p2), .val (.int p3), .val (.int (own_b p1)), .val (.int (p3 &&& (3 : Int32))), .val (.int (own_b p1)), .val (.int (0 : Int32))] [(.int (own_b p1)), (.int p1)])) _
    refine st4 _ ?_
    show Steps p.tables e below (T4.setTop (mkF m 157 #[.val (.int p1), .val (.int p2), .val (.int p3), .val (.int (own_b p1)), .val (.int (p3 &&& (3 : Int32))), .val (.int (own_b p1)), .val (.int (0 : Int32))] [(.int (val1 p1 (own_b p1)))])) _
    refine XS.iload X4.here hx rfl (hb hby at_157) rfl ?_
    show Steps p.tables e below (T4.setTop (mkF m 159 #[.val (.int p1), .val (.int p2), .val (.int p3), .val (.int (own_b p1)), .val (.int (p3 &&& (3 : Int32))), .val (.int (own_b p1)), .val (.int (0 : Int32))] [(.int (0 : Int32)), (.int (val1 p1 (own_b p1)))])) _
    refine XS.icmpNo X4.here hx rfl (hb hby at_159) rfl (teq (by unfold val1; rw [if_neg (fun q => hc141 ((own_iff _ _).mp q).2.2.2.2)] : (val1 p1 (own_b p1)) = (0 : Int32))).2 ?_
    show Steps p.tables e below (T4.setTop (mkF m 162 #[.val (.int p1), .val (.int p2), .val (.int p3), .val (.int (own_b p1)), .val (.int (p3 &&& (3 : Int32))), .val (.int (own_b p1)), .val (.int (0 : Int32))] [])) _
    refine XS.iconst X4.here hx rfl (hb hby at_162) ?_
    show Steps p.tables e below (T4.setTop (mkF m 163 #[.val (.int p1), .val (.int p2), .val (.int p3), .val (.int (own_b p1)), .val (.int (p3 &&& (3 : Int32))), .val (.int (own_b p1)), .val (.int (0 : Int32))] [(.int (1 : Int32))])) _
    refine XS.goto X4.here hx rfl (pc0 := 163) (pc' := 167) rfl (hb hby at_163) (by decide) (by decide) ?_
    show Steps p.tables e below (T4.setTop (mkF m 167 #[.val (.int p1), .val (.int p2), .val (.int p3), .val (.int (own_b p1)), .val (.int (p3 &&& (3 : Int32))), .val (.int (own_b p1)), .val (.int (0 : Int32))] [(.int (1 : Int32))])) _
    exact retN X4 hx (t := .boolean) Bd.returns (by simp) (hb hby at_167) hr
  · show Q0 Z p1 p2 p3 h0 n0 _ T4.heap _
    exact ⟨rfl, N4⟩

set_option maxRecDepth 65536 in
set_option maxHeartbeats 40000000 in
theorem rm0_tfffffff (l : Launch) (Z : State) (a0 : Array Value) (hw : ∀ d ∈ tables_1, d.before a0 Z = true) (ws : List Jvm.Cond) (p1 : Int32) (p2 : Int32) (p3 : Int32) (h0 : Heap) (n0 : Nat) (Z0 : n0 ≤ h0.size) (hc34 : ¬ ((p3 &&& (3 : Int32)) = (0 : Int32))) (hc46 : (p3 &&& (3 : Int32)) = (1 : Int32)) (hc82 : (((own_b p1).toUInt32 >>> ((18 : Int32) &&& 31).toUInt32).toInt32) = (0 : Int32)) (hc93 : ((((own_b p1).toUInt32 >>> ((12 : Int32) &&& 31).toUInt32).toInt32) &&& (7 : Int32)) = (0 : Int32)) (hc105 : (p1 &&& (63 : Int32)) = ((own_b p1) &&& (63 : Int32))) (hc123 : (((p1.toUInt32 >>> ((6 : Int32) &&& 31).toUInt32).toInt32) &&& (63 : Int32)) = ((((own_b p1).toUInt32 >>> ((6 : Int32) &&& 31).toUInt32).toInt32) &&& (63 : Int32))) (hc141 : (((p1.toUInt32 >>> ((15 : Int32) &&& 31).toUInt32).toInt32) &&& (7 : Int32)) = ((((own_b p1).toUInt32 >>> ((15 : Int32) &&& 31).toUInt32).toInt32) &&& (7 : Int32))) :
    MetFree l x (head1 (Jvm.Cond.code x code maxLocals ret :: ws) room_1) (fun a U => a = #[(.int p1), (.int p2), (.int p3)] ∧ Z.Warmed39 U.vm ∧ U.heap = h0) (fun _ _ _ _ _ => True) (fun _ U o U' => ∃ v L, o = .returned v ∧ Q0 Z p1 p2 p3 h0 n0 v U'.heap L ∧ FrameEnd U o U' L room_1.cells room_1.slots) := by
  refine MetFree.of_bodySF (plainFor_of_name pn_0) hisR ?_
  intro p e s m args below meth c s₁ Bd hml0 hP hK
  obtain ⟨rfl, hZ, hh⟩ := hP
  have hx := Bd.exec
  have hby := Bd.bytes
  have hml : c.maxLocals = 7 := hml0
  have hown : s.vm.findClass "touchmove/position/PackedMoveIsPinLaw" = some m.cls := findClass_of_methodNamed Bd.named
  have hnm := (name_of_methodNamed Bd.named Bd.method).1
  have X0 : Stand p l e room_1 s m #[(.int p1), (.int p2), (.int p3)] below meth c s₁ [] 0 0 := Stand.of_body Bd
  have e0 : s₁.heap = h0 := by rw [← hh, Bd.state]; rfl
  have N0 := Fr.nil n0
  have pre0 : ∀ t, Steps p.tables e below (s₁.setTop (mkF m 0 #[.val (.int p1), .val (.int p2), .val (.int p3), .unset, .unset, .unset, .unset] [])) t → Steps p.tables e below (s₁.setTop (entryFrame m #[(.int p1), (.int p2), (.int p3)] maxLocals)) t := fun t k => castTop (ef_0 m p1 p2 p3) k
  obtain ⟨_, _, ⟨T4, L4, k4, n4⟩, -, X4, ⟨Lc4, hQ4, l4, y4, z4⟩, st4⟩ := Jvm.LawKit.callS X0 hx (y := (⟨"touchmove/position/PackedMove", "is", "(II)Z"⟩ : MethodName)) hown (mvT hZ (hw _ (List.mem_of_getElem? (i := 0) rfl))) (mvT hZ (hw _ (List.mem_of_getElem? (i := 1) rfl))) (mvT hZ (hw _ (List.mem_of_getElem? (i := 2) rfl))) (mvT hZ (hw _ (List.mem_of_getElem? (i := 3) rfl))) (by decide) (backOf (W := 0) (rm1 l Z a0 hw [] p1 (own_b p1) h0 n0 Z0) hZ (hw _ (List.mem_of_getElem? (i := 3) rfl)) (hw _ (List.mem_of_getElem? (i := 2) rfl)) (by decide) (by decide)) (g := (mkF m 154 #[.val (.int p1), .val (.int p2), .val (.int p3), .val (.int (own_b p1)), .val (.int (p3 &&& (3 : Int32))), .val (.int (own_b p1)), .val (.int (1 : Int32))] [(.int (own_b p1)), (.int p1)])) rfl (by rw [hml]; rfl) (argsL := [(.int p1), (.int (own_b p1))]) (rest := []) (lenOf pd_0_0 rfl) rfl (by show 2 * 0 + _ ≤ _; exact Nat.le_of_eq rfl) (hb hby at_154) (fun _ _ => ⟨rfl, e0, (by decide : 0 + 0 ≤ _), (by decide : 0 + 0 ≤ _)⟩)
  dsimp only [Pt.U, Pt.locs, Pt.cells, Pt.slots] at X4 l4 y4 z4 st4 hQ4
  subst l4 y4 z4
  obtain ⟨rfl, N4q, w4⟩ := hQ4
  have N4 := Fr.app N0 N4q
  obtain ⟨fs, hr, hrun, hended, hW, hsame⟩ := X4.leave (v := some (.int (1 : Int32))) (fun h => by rw [Bd.returns] at h; cases h)
  refine ⟨_, _, pre0 _ ?_, hrun, hended, _, _, rfl, ?_, ⟨_, rfl⟩, hW, hsame.mono (by decide) (by decide)⟩
  · show Steps p.tables e below (s₁.setTop (mkF m 0 #[.val (.int p1), .val (.int p2), .val (.int p3), .unset, .unset, .unset, .unset] [])) _
    refine XS.iloadN X0.here hx rfl (hb hby at_0) rfl ?_
    show Steps p.tables e below (s₁.setTop (mkF m 1 #[.val (.int p1), .val (.int p2), .val (.int p3), .unset, .unset, .unset, .unset] [(.int p1)])) _
    refine XS.bipush X0.here hx rfl (hb hby at_1) ?_
    show Steps p.tables e below (s₁.setTop (mkF m 3 #[.val (.int p1), .val (.int p2), .val (.int p3), .unset, .unset, .unset, .unset] [(.int (63 : Int32)), (.int p1)])) _
    refine XS.iand X0.here hx rfl (hb hby at_3) rfl ?_
    show Steps p.tables e below (s₁.setTop (mkF m 4 #[.val (.int p1), .val (.int p2), .val (.int p3), .unset, .unset, .unset, .unset] [(.int (p1 &&& (63 : Int32)))])) _
    refine XS.iloadN X0.here hx rfl (hb hby at_4) rfl ?_
    show Steps p.tables e below (s₁.setTop (mkF m 5 #[.val (.int p1), .val (.int p2), .val (.int p3), .unset, .unset, .unset, .unset] [(.int p1), (.int (p1 &&& (63 : Int32)))])) _
    refine XS.bipush X0.here hx rfl (hb hby at_5) ?_
    show Steps p.tables e below (s₁.setTop (mkF m 7 #[.val (.int p1), .val (.int p2), .val (.int p3), .unset, .unset, .unset, .unset] [(.int (6 : Int32)), (.int p1), (.int (p1 &&& (63 : Int32)))])) _
    refine XS.iushr X0.here hx rfl (hb hby at_7) rfl ?_
    show Steps p.tables e below (s₁.setTop (mkF m 8 #[.val (.int p1), .val (.int p2), .val (.int p3), .unset, .unset, .unset, .unset] [(.int ((p1.toUInt32 >>> ((6 : Int32) &&& 31).toUInt32).toInt32)), (.int (p1 &&& (63 : Int32)))])) _
    refine XS.bipush X0.here hx rfl (hb hby at_8) ?_
    show Steps p.tables e below (s₁.setTop (mkF m 10 #[.val (.int p1), .val (.int p2), .val (.int p3), .unset, .unset, .unset, .unset] [(.int (63 : Int32)), (.int ((p1.toUInt32 >>> ((6 : Int32) &&& 31).toUInt32).toInt32)), (.int (p1 &&& (63 : Int32)))])) _
    refine XS.iand X0.here hx rfl (hb hby at_10) rfl ?_
    show Steps p.tables e below (s₁.setTop (mkF m 11 #[.val (.int p1), .val (.int p2), .val (.int p3), .unset, .unset, .unset, .unset] [(.int (((p1.toUInt32 >>> ((6 : Int32) &&& 31).toUInt32).toInt32) &&& (63 : Int32))), (.int (p1 &&& (63 : Int32)))])) _
    refine XS.bipush X0.here hx rfl (hb hby at_11) ?_
    show Steps p.tables e below (s₁.setTop (mkF m 13 #[.val (.int p1), .val (.int p2), .val (.int p3), .unset, .unset, .unset, .unset] [(.int (6 : Int32)), (.int (((p1.toUInt32 >>> ((6 : Int32) &&& 31).toUInt32).toInt32) &&& (63 : Int32))), (.int (p1 &&& (63 : Int32)))])) _
    refine XS.ishl X0.here hx rfl (hb hby at_13) rfl ?_
    show Steps p.tables e below (s₁.setTop (mkF m 14 #[.val (.int p1), .val (.int p2), .val (.int p3), .unset, .unset, .unset, .unset] [(.int ((((p1.toUInt32 >>> ((6 : Int32) &&& 31).toUInt32).toInt32) &&& (63 : Int32)) <<< ((6 : Int32) &&& 31))), (.int (p1 &&& (63 : Int32)))])) _
    refine XS.ior X0.here hx rfl (hb hby at_14) rfl ?_
    show Steps p.tables e below (s₁.setTop (mkF m 15 #[.val (.int p1), .val (.int p2), .val (.int p3), .unset, .unset, .unset, .unset] [(.int ((p1 &&& (63 : Int32)) ||| ((((p1.toUInt32 >>> ((6 : Int32) &&& 31).toUInt32).toInt32) &&& (63 : Int32)) <<< ((6 : Int32) &&& 31))))])) _
    refine XS.iloadN X0.here hx rfl (hb hby at_15) rfl ?_
    show Steps p.tables e below (s₁.setTop (mkF m 16 #[.val (.int p1), .val (.int p2), .val (.int p3), .unset, .unset, .unset, .unset] [(.int p1), (.int ((p1 &&& (63 : Int32)) ||| ((((p1.toUInt32 >>> ((6 : Int32) &&& 31).toUInt32).toInt32) &&& (63 : Int32)) <<< ((6 : Int32) &&& 31))))])) _
    refine XS.bipush X0.here hx rfl (hb hby at_16) ?_
    show Steps p.tables e below (s₁.setTop (mkF m 18 #[.val (.int p1), .val (.int p2), .val (.int p3), .unset, .unset, .unset, .unset] [(.int (15 : Int32)), (.int p1), (.int ((p1 &&& (63 : Int32)) ||| ((((p1.toUInt32 >>> ((6 : Int32) &&& 31).toUInt32).toInt32) &&& (63 : Int32)) <<< ((6 : Int32) &&& 31))))])) _
    refine XS.iushr X0.here hx rfl (hb hby at_18) rfl ?_
    show Steps p.tables e below (s₁.setTop (mkF m 19 #[.val (.int p1), .val (.int p2), .val (.int p3), .unset, .unset, .unset, .unset] [(.int ((p1.toUInt32 >>> ((15 : Int32) &&& 31).toUInt32).toInt32)), (.int ((p1 &&& (63 : Int32)) ||| ((((p1.toUInt32 >>> ((6 : Int32) &&& 31).toUInt32).toInt32) &&& (63 : Int32)) <<< ((6 : Int32) &&& 31))))])) _
    refine XS.bipush X0.here hx rfl (hb hby at_19) ?_
    show Steps p.tables e below (s₁.setTop (mkF m 21 #[.val (.int p1), .val (.int p2), .val (.int p3), .unset, .unset, .unset, .unset] [(.int (7 : Int32)), (.int ((p1.toUInt32 >>> ((15 : Int32) &&& 31).toUInt32).toInt32)), (.int ((p1 &&& (63 : Int32)) ||| ((((p1.toUInt32 >>> ((6 : Int32) &&& 31).toUInt32).toInt32) &&& (63 : Int32)) <<< ((6 : Int32) &&& 31))))])) _
    refine XS.iand X0.here hx rfl (hb hby at_21) rfl ?_
    show Steps p.tables e below (s₁.setTop (mkF m 22 #[.val (.int p1), .val (.int p2), .val (.int p3), .unset, .unset, .unset, .unset] [(.int (((p1.toUInt32 >>> ((15 : Int32) &&& 31).toUInt32).toInt32) &&& (7 : Int32))), (.int ((p1 &&& (63 : Int32)) ||| ((((p1.toUInt32 >>> ((6 : Int32) &&& 31).toUInt32).toInt32) &&& (63 : Int32)) <<< ((6 : Int32) &&& 31))))])) _
    refine XS.bipush X0.here hx rfl (hb hby at_22) ?_
    show Steps p.tables e below (s₁.setTop (mkF m 24 #[.val (.int p1), .val (.int p2), .val (.int p3), .unset, .unset, .unset, .unset] [(.int (15 : Int32)), (.int (((p1.toUInt32 >>> ((15 : Int32) &&& 31).toUInt32).toInt32) &&& (7 : Int32))), (.int ((p1 &&& (63 : Int32)) ||| ((((p1.toUInt32 >>> ((6 : Int32) &&& 31).toUInt32).toInt32) &&& (63 : Int32)) <<< ((6 : Int32) &&& 31))))])) _
    refine XS.ishl X0.here hx rfl (hb hby at_24) rfl ?_
    show Steps p.tables e below (s₁.setTop (mkF m 25 #[.val (.int p1), .val (.int p2), .val (.int p3), .unset, .unset, .unset, .unset] [(.int ((((p1.toUInt32 >>> ((15 : Int32) &&& 31).toUInt32).toInt32) &&& (7 : Int32)) <<< ((15 : Int32) &&& 31))), (.int ((p1 &&& (63 : Int32)) ||| ((((p1.toUInt32 >>> ((6 : Int32) &&& 31).toUInt32).toInt32) &&& (63 : Int32)) <<< ((6 : Int32) &&& 31))))])) _
    refine XS.ior X0.here hx rfl (hb hby at_25) rfl ?_
    show Steps p.tables e below (s₁.setTop (mkF m 26 #[.val (.int p1), .val (.int p2), .val (.int p3), .unset, .unset, .unset, .unset] [(.int (own_b p1))])) _
    refine XS.istoreN X0.here hx rfl (hb hby at_26) rfl (l' := #[.val (.int p1), .val (.int p2), .val (.int p3), .val (.int (own_b p1)), .unset, .unset, .unset]) rfl ?_
    show Steps p.tables e below (s₁.setTop (mkF m 27 #[.val (.int p1), .val (.int p2), .val (.int p3), .val (.int (own_b p1)), .unset, .unset, .unset] [])) _
    refine XS.iloadN X0.here hx rfl (hb hby at_27) rfl ?_
    show Steps p.tables e below (s₁.setTop (mkF m 28 #[.val (.int p1), .val (.int p2), .val (.int p3), .val (.int (own_b p1)), .unset, .unset, .unset] [(.int p3)])) _
    refine XS.iconst X0.here hx rfl (hb hby at_28) ?_
    show Steps p.tables e below (s₁.setTop (mkF m 29 #[.val (.int p1), .val (.int p2), .val (.int p3), .val (.int (own_b p1)), .unset, .unset, .unset] [(.int (3 : Int32)), (.int p3)])) _
    refine XS.iand X0.here hx rfl (hb hby at_29) rfl ?_
    show Steps p.tables e below (s₁.setTop (mkF m 30 #[.val (.int p1), .val (.int p2), .val (.int p3), .val (.int (own_b p1)), .unset, .unset, .unset] [(.int (p3 &&& (3 : Int32)))])) _
    refine XS.istore X0.here hx rfl (hb hby at_30) rfl (l' := #[.val (.int p1), .val (.int p2), .val (.int p3), .val (.int (own_b p1)), .val (.int (p3 &&& (3 : Int32))), .unset, .unset]) rfl ?_
    show Steps p.tables e below (s₁.setTop (mkF m 32 #[.val (.int p1), .val (.int p2), .val (.int p3), .val (.int (own_b p1)), .val (.int (p3 &&& (3 : Int32))), .unset, .unset] [])) _
    refine XS.iload X0.here hx rfl (hb hby at_32) rfl ?_
    show Steps p.tables e below (s₁.setTop (mkF m 34 #[.val (.int p1), .val (.int p2), .val (.int p3), .val (.int (own_b p1)), .val (.int (p3 &&& (3 : Int32))), .unset, .unset] [(.int (p3 &&& (3 : Int32)))])) _
    refine XS.ifYes X0.here hx rfl (pc0 := 34) (pc' := 43) rfl (hb hby at_34) rfl ((if0 _ _).trans (feq hc34).2) (by decide) (by decide) ?_
    show Steps p.tables e below (s₁.setTop (mkF m 43 #[.val (.int p1), .val (.int p2), .val (.int p3), .val (.int (own_b p1)), .val (.int (p3 &&& (3 : Int32))), .unset, .unset] [])) _
    refine XS.iload X0.here hx rfl (hb hby at_43) rfl ?_
    show Steps p.tables e below (s₁.setTop (mkF m 45 #[.val (.int p1), .val (.int p2), .val (.int p3), .val (.int (own_b p1)), .val (.int (p3 &&& (3 : Int32))), .unset, .unset] [(.int (p3 &&& (3 : Int32)))])) _
    refine XS.iconst X0.here hx rfl (hb hby at_45) ?_
    show Steps p.tables e below (s₁.setTop (mkF m 46 #[.val (.int p1), .val (.int p2), .val (.int p3), .val (.int (own_b p1)), .val (.int (p3 &&& (3 : Int32))), .unset, .unset] [(.int (1 : Int32)), (.int (p3 &&& (3 : Int32)))])) _
    refine XS.icmpNo X0.here hx rfl (hb hby at_46) rfl (teq hc46).2 ?_
    show Steps p.tables e below (s₁.setTop (mkF m 49 #[.val (.int p1), .val (.int p2), .val (.int p3), .val (.int (own_b p1)), .val (.int (p3 &&& (3 : Int32))), .unset, .unset] [])) _
    refine XS.iloadN X0.here hx rfl (hb hby at_49) rfl ?_
    show Steps p.tables e below (s₁.setTop (mkF m 50 #[.val (.int p1), .val (.int p2), .val (.int p3), .val (.int (own_b p1)), .val (.int (p3 &&& (3 : Int32))), .unset, .unset] [(.int (own_b p1))])) _
    refine XS.istore X0.here hx rfl (hb hby at_50) rfl (l' := #[.val (.int p1), .val (.int p2), .val (.int p3), .val (.int (own_b p1)), .val (.int (p3 &&& (3 : Int32))), .val (.int (own_b p1)), .unset]) rfl ?_
    show Steps p.tables e below (s₁.setTop (mkF m 52 #[.val (.int p1), .val (.int p2), .val (.int p3), .val (.int (own_b p1)), .val (.int (p3 &&& (3 : Int32))), .val (.int (own_b p1)), .unset] [])) _
    refine XS.goto X0.here hx rfl (pc0 := 52) (pc' := 77) rfl (hb hby at_52) (by decide) (by decide) ?_
    show Steps p.tables e below (s₁.setTop (mkF m 77 #[.val (.int p1), .val (.int p2), .val (.int p3), .val (.int (own_b p1)), .val (.int (p3 &&& (3 : Int32))), .val (.int (own_b p1)), .unset] [])) _
    refine XS.iload X0.here hx rfl (hb hby at_77) rfl ?_
    show Steps p.tables e below (s₁.setTop (mkF m 79 #[.val (.int p1), .val (.int p2), .val (.int p3), .val (.int (own_b p1)), .val (.int (p3 &&& (3 : Int32))), .val (.int (own_b p1)), .unset] [(.int (own_b p1))])) _
    refine XS.bipush X0.here hx rfl (hb hby at_79) ?_
    show Steps p.tables e below (s₁.setTop (mkF m 81 #[.val (.int p1), .val (.int p2), .val (.int p3), .val (.int (own_b p1)), .val (.int (p3 &&& (3 : Int32))), .val (.int (own_b p1)), .unset] [(.int (18 : Int32)), (.int (own_b p1))])) _
    refine XS.iushr X0.here hx rfl (hb hby at_81) rfl ?_
    show Steps p.tables e below (s₁.setTop (mkF m 82 #[.val (.int p1), .val (.int p2), .val (.int p3), .val (.int (own_b p1)), .val (.int (p3 &&& (3 : Int32))), .val (.int (own_b p1)), .unset] [(.int (((own_b p1).toUInt32 >>> ((18 : Int32) &&& 31).toUInt32).toInt32))])) _
    refine XS.ifNo X0.here hx rfl (hb hby at_82) rfl ((if0 _ _).trans (teq hc82).2) ?_
    show Steps p.tables e below (s₁.setTop (mkF m 85 #[.val (.int p1), .val (.int p2), .val (.int p3), .val (.int (own_b p1)), .val (.int (p3 &&& (3 : Int32))), .val (.int (own_b p1)), .unset] [])) _
    refine XS.iload X0.here hx rfl (hb hby at_85) rfl ?_
    show Steps p.tables e below (s₁.setTop (mkF m 87 #[.val (.int p1), .val (.int p2), .val (.int p3), .val (.int (own_b p1)), .val (.int (p3 &&& (3 : Int32))), .val (.int (own_b p1)), .unset] [(.int (own_b p1))])) _
    refine XS.bipush X0.here hx rfl (hb hby at_87) ?_
    show Steps p.tables e below (s₁.setTop (mkF m 89 #[.val (.int p1), .val (.int p2), .val (.int p3), .val (.int (own_b p1)), .val (.int (p3 &&& (3 : Int32))), .val (.int (own_b p1)), .unset] [(.int (12 : Int32)), (.int (own_b p1))])) _
    refine XS.iushr X0.here hx rfl (hb hby at_89) rfl ?_
    show Steps p.tables e below (s₁.setTop (mkF m 90 #[.val (.int p1), .val (.int p2), .val (.int p3), .val (.int (own_b p1)), .val (.int (p3 &&& (3 : Int32))), .val (.int (own_b p1)), .unset] [(.int (((own_b p1).toUInt32 >>> ((12 : Int32) &&& 31).toUInt32).toInt32))])) _
    refine XS.bipush X0.here hx rfl (hb hby at_90) ?_
    show Steps p.tables e below (s₁.setTop (mkF m 92 #[.val (.int p1), .val (.int p2), .val (.int p3), .val (.int (own_b p1)), .val (.int (p3 &&& (3 : Int32))), .val (.int (own_b p1)), .unset] [(.int (7 : Int32)), (.int (((own_b p1).toUInt32 >>> ((12 : Int32) &&& 31).toUInt32).toInt32))])) _
    refine XS.iand X0.here hx rfl (hb hby at_92) rfl ?_
    show Steps p.tables e below (s₁.setTop (mkF m 93 #[.val (.int p1), .val (.int p2), .val (.int p3), .val (.int (own_b p1)), .val (.int (p3 &&& (3 : Int32))), .val (.int (own_b p1)), .unset] [(.int ((((own_b p1).toUInt32 >>> ((12 : Int32) &&& 31).toUInt32).toInt32) &&& (7 : Int32)))])) _
    refine XS.ifNo X0.here hx rfl (hb hby at_93) rfl ((if0 _ _).trans (teq hc93).2) ?_
    show Steps p.tables e below (s₁.setTop (mkF m 96 #[.val (.int p1), .val (.int p2), .val (.int p3), .val (.int (own_b p1)), .val (.int (p3 &&& (3 : Int32))), .val (.int (own_b p1)), .unset] [])) _
    refine XS.iloadN X0.here hx rfl (hb hby at_96) rfl ?_
    show Steps p.tables e below (s₁.setTop (mkF m 97 #[.val (.int p1), .val (.int p2), .val (.int p3), .val (.int (own_b p1)), .val (.int (p3 &&& (3 : Int32))), .val (.int (own_b p1)), .unset] [(.int p1)])) _
    refine XS.bipush X0.here hx rfl (hb hby at_97) ?_
    show Steps p.tables e below (s₁.setTop (mkF m 99 #[.val (.int p1), .val (.int p2), .val (.int p3), .val (.int (own_b p1)), .val (.int (p3 &&& (3 : Int32))), .val (.int (own_b p1)), .unset] [(.int (63 : Int32)), (.int p1)])) _
    refine XS.iand X0.here hx rfl (hb hby at_99) rfl ?_
    show Steps p.tables e below (s₁.setTop (mkF m 100 #[.val (.int p1), .val (.int p2), .val (.int p3), .val (.int (own_b p1)), .val (.int (p3 &&& (3 : Int32))), .val (.int (own_b p1)), .unset] [(.int (p1 &&& (63 : Int32)))])) _
    refine XS.iload X0.here hx rfl (hb hby at_100) rfl ?_
    show Steps p.tables e below (s₁.setTop (mkF m 102 #[.val (.int p1), .val (.int p2), .val (.int p3), .val (.int (own_b p1)), .val (.int (p3 &&& (3 : Int32))), .val (.int (own_b p1)), .unset] [(.int (own_b p1)), (.int (p1 &&& (63 : Int32)))])) _
    refine XS.bipush X0.here hx rfl (hb hby at_102) ?_
    show Steps p.tables e below (s₁.setTop (mkF m 104 #[.val (.int p1), .val (.int p2), .val (.int p3), .val (.int (own_b p1)), .val (.int (p3 &&& (3 : Int32))), .val (.int (own_b p1)), .unset] [(.int (63 : Int32)), (.int (own_b p1)), (.int (p1 &&& (63 : Int32)))])) _
    refine XS.iand X0.here hx rfl (hb hby at_104) rfl ?_
    show Steps p.tables e below (s₁.setTop (mkF m 105 #[.val (.int p1), .val (.int p2), .val (.int p3), .val (.int (own_b p1)), .val (.int (p3 &&& (3 : Int32))), .val (.int (own_b p1)), .unset] [(.int ((own_b p1) &&& (63 : Int32))), (.int (p1 &&& (63 : Int32)))])) _
    refine XS.icmpNo X0.here hx rfl (hb hby at_105) rfl (teq hc105).2 ?_
    show Steps p.tables e below (s₁.setTop (mkF m 108 #[.val (.int p1), .val (.int p2), .val (.int p3), .val (.int (own_b p1)), .val (.int (p3 &&& (3 : Int32))), .val (.int (own_b p1)), .unset] [])) _
    refine XS.iloadN X0.here hx rfl (hb hby at_108) rfl ?_
    show Steps p.tables e below (s₁.setTop (mkF m 109 #[.val (.int p1), .val (.int p2), .val (.int p3), .val (.int (own_b p1)), .val (.int (p3 &&& (3 : Int32))), .val (.int (own_b p1)), .unset] [(.int p1)])) _
    refine XS.bipush X0.here hx rfl (hb hby at_109) ?_
    show Steps p.tables e below (s₁.setTop (mkF m 111 #[.val (.int p1), .val (.int p2), .val (.int p3), .val (.int (own_b p1)), .val (.int (p3 &&& (3 : Int32))), .val (.int (own_b p1)), .unset] [(.int (6 : Int32)), (.int p1)])) _
    refine XS.iushr X0.here hx rfl (hb hby at_111) rfl ?_
    show Steps p.tables e below (s₁.setTop (mkF m 112 #[.val (.int p1), .val (.int p2), .val (.int p3), .val (.int (own_b p1)), .val (.int (p3 &&& (3 : Int32))), .val (.int (own_b p1)), .unset] [(.int ((p1.toUInt32 >>> ((6 : Int32) &&& 31).toUInt32).toInt32))])) _
    refine XS.bipush X0.here hx rfl (hb hby at_112) ?_
    show Steps p.tables e below (s₁.setTop (mkF m 114 #[.val (.int p1), .val (.int p2), .val (.int p3), .val (.int (own_b p1)), .val (.int (p3 &&& (3 : Int32))), .val (.int (own_b p1)), .unset] [(.int (63 : Int32)), (.int ((p1.toUInt32 >>> ((6 : Int32) &&& 31).toUInt32).toInt32))])) _
    refine XS.iand X0.here hx rfl (hb hby at_114) rfl ?_
    show Steps p.tables e below (s₁.setTop (mkF m 115 #[.val (.int p1), .val (.int p2), .val (.int p3), .val (.int (own_b p1)), .val (.int (p3 &&& (3 : Int32))), .val (.int (own_b p1)), .unset] [(.int (((p1.toUInt32 >>> ((6 : Int32) &&& 31).toUInt32).toInt32) &&& (63 : Int32)))])) _
    refine XS.iload X0.here hx rfl (hb hby at_115) rfl ?_
    show Steps p.tables e below (s₁.setTop (mkF m 117 #[.val (.int p1), .val (.int p2), .val (.int p3), .val (.int (own_b p1)), .val (.int (p3 &&& (3 : Int32))), .val (.int (own_b p1)), .unset] [(.int (own_b p1)), (.int (((p1.toUInt32 >>> ((6 : Int32) &&& 31).toUInt32).toInt32) &&& (63 : Int32)))])) _
    refine XS.bipush X0.here hx rfl (hb hby at_117) ?_
    show Steps p.tables e below (s₁.setTop (mkF m 119 #[.val (.int p1), .val (.int p2), .val (.int p3), .val (.int (own_b p1)), .val (.int (p3 &&& (3 : Int32))), .val (.int (own_b p1)), .unset] [(.int (6 : Int32)), (.int (own_b p1)), (.int (((p1.toUInt32 >>> ((6 : Int32) &&& 31).toUInt32).toInt32) &&& (63 : Int32)))])) _
    refine XS.iushr X0.here hx rfl (hb hby at_119) rfl ?_
    show Steps p.tables e below (s₁.setTop (mkF m 120 #[.val (.int p1), .val (.int p2), .val (.int p3), .val (.int (own_b p1)), .val (.int (p3 &&& (3 : Int32))), .val (.int (own_b p1)), .unset] [(.int (((own_b p1).toUInt32 >>> ((6 : Int32) &&& 31).toUInt32).toInt32)), (.int (((p1.toUInt32 >>> ((6 : Int32) &&& 31).toUInt32).toInt32) &&& (63 : Int32)))])) _
    refine XS.bipush X0.here hx rfl (hb hby at_120) ?_
    show Steps p.tables e below (s₁.setTop (mkF m 122 #[.val (.int p1), .val (.int p2), .val (.int p3), .val (.int (own_b p1)), .val (.int (p3 &&& (3 : Int32))), .val (.int (own_b p1)), .unset] [(.int (63 : Int32)), (.int (((own_b p1).toUInt32 >>> ((6 : Int32) &&& 31).toUInt32).toInt32)), (.int (((p1.toUInt32 >>> ((6 : Int32) &&& 31).toUInt32).toInt32) &&& (63 : Int32)))])) _
    refine XS.iand X0.here hx rfl (hb hby at_122) rfl ?_
    show Steps p.tables e below (s₁.setTop (mkF m 123 #[.val (.int p1), .val (.int p2), .val (.int p3), .val (.int (own_b p1)), .val (.int (p3 &&& (3 : Int32))), .val (.int (own_b p1)), .unset] [(.int ((((own_b p1).toUInt32 >>> ((6 : Int32) &&& 31).toUInt32).toInt32) &&& (63 : Int32))), (.int (((p1.toUInt32 >>> ((6 : Int32) &&& 31).toUInt32).toInt32) &&& (63 : Int32)))])) _
    refine XS.icmpNo X0.here hx rfl (hb hby at_123) rfl (teq hc123).2 ?_
    show Steps p.tables e below (s₁.setTop (mkF m 126 #[.val (.int p1), .val (.int p2), .val (.int p3), .val (.int (own_b p1)), .val (.int (p3 &&& (3 : Int32))), .val (.int (own_b p1)), .unset] [])) _
    refine XS.iloadN X0.here hx rfl (hb hby at_126) rfl ?_
    show Steps p.tables e below (s₁.setTop (mkF m 127 #[.val (.int p1), .val (.int p2), .val (.int p3), .val (.int (own_b p1)), .val (.int (p3 &&& (3 : Int32))), .val (.int (own_b p1)), .unset] [(.int p1)])) _
    refine XS.bipush X0.here hx rfl (hb hby at_127) ?_
    show Steps p.tables e below (s₁.setTop (mkF m 129 #[.val (.int p1), .val (.int p2), .val (.int p3), .val (.int (own_b p1)), .val (.int (p3 &&& (3 : Int32))), .val (.int (own_b p1)), .unset] [(.int (15 : Int32)), (.int p1)])) _
    refine XS.iushr X0.here hx rfl (hb hby at_129) rfl ?_
    show Steps p.tables e below (s₁.setTop (mkF m 130 #[.val (.int p1), .val (.int p2), .val (.int p3), .val (.int (own_b p1)), .val (.int (p3 &&& (3 : Int32))), .val (.int (own_b p1)), .unset] [(.int ((p1.toUInt32 >>> ((15 : Int32) &&& 31).toUInt32).toInt32))])) _
    refine XS.bipush X0.here hx rfl (hb hby at_130) ?_
    show Steps p.tables e below (s₁.setTop (mkF m 132 #[.val (.int p1), .val (.int p2), .val (.int p3), .val (.int (own_b p1)), .val (.int (p3 &&& (3 : Int32))), .val (.int (own_b p1)), .unset] [(.int (7 : Int32)), (.int ((p1.toUInt32 >>> ((15 : Int32) &&& 31).toUInt32).toInt32))])) _
    refine XS.iand X0.here hx rfl (hb hby at_132) rfl ?_
    show Steps p.tables e below (s₁.setTop (mkF m 133 #[.val (.int p1), .val (.int p2), .val (.int p3), .val (.int (own_b p1)), .val (.int (p3 &&& (3 : Int32))), .val (.int (own_b p1)), .unset] [(.int (((p1.toUInt32 >>> ((15 : Int32) &&& 31).toUInt32).toInt32) &&& (7 : Int32)))])) _
    refine XS.iload X0.here hx rfl (hb hby at_133) rfl ?_
    show Steps p.tables e below (s₁.setTop (mkF m 135 #[.val (.int p1), .val (.int p2), .val (.int p3), .val (.int (own_b p1)), .val (.int (p3 &&& (3 : Int32))), .val (.int (own_b p1)), .unset] [(.int (own_b p1)), (.int (((p1.toUInt32 >>> ((15 : Int32) &&& 31).toUInt32).toInt32) &&& (7 : Int32)))])) _
    refine XS.bipush X0.here hx rfl (hb hby at_135) ?_
    show Steps p.tables e below (s₁.setTop (mkF m 137 #[.val (.int p1), .val (.int p2), .val (.int p3), .val (.int (own_b p1)), .val (.int (p3 &&& (3 : Int32))), .val (.int (own_b p1)), .unset] [(.int (15 : Int32)), (.int (own_b p1)), (.int (((p1.toUInt32 >>> ((15 : Int32) &&& 31).toUInt32).toInt32) &&& (7 : Int32)))])) _
    refine XS.iushr X0.here hx rfl (hb hby at_137) rfl ?_
    show Steps p.tables e below (s₁.setTop (mkF m 138 #[.val (.int p1), .val (.int p2), .val (.int p3), .val (.int (own_b p1)), .val (.int (p3 &&& (3 : Int32))), .val (.int (own_b p1)), .unset] [(.int (((own_b p1).toUInt32 >>> ((15 : Int32) &&& 31).toUInt32).toInt32)), (.int (((p1.toUInt32 >>> ((15 : Int32) &&& 31).toUInt32).toInt32) &&& (7 : Int32)))])) _
    refine XS.bipush X0.here hx rfl (hb hby at_138) ?_
    show Steps p.tables e below (s₁.setTop (mkF m 140 #[.val (.int p1), .val (.int p2), .val (.int p3), .val (.int (own_b p1)), .val (.int (p3 &&& (3 : Int32))), .val (.int (own_b p1)), .unset] [(.int (7 : Int32)), (.int (((own_b p1).toUInt32 >>> ((15 : Int32) &&& 31).toUInt32).toInt32)), (.int (((p1.toUInt32 >>> ((15 : Int32) &&& 31).toUInt32).toInt32) &&& (7 : Int32)))])) _
    refine XS.iand X0.here hx rfl (hb hby at_140) rfl ?_
    show Steps p.tables e below (s₁.setTop (mkF m 141 #[.val (.int p1), .val (.int p2), .val (.int p3), .val (.int (own_b p1)), .val (.int (p3 &&& (3 : Int32))), .val (.int (own_b p1)), .unset] [(.int ((((own_b p1).toUInt32 >>> ((15 : Int32) &&& 31).toUInt32).toInt32) &&& (7 : Int32))), (.int (((p1.toUInt32 >>> ((15 : Int32) &&& 31).toUInt32).toInt32) &&& (7 : Int32)))])) _
    refine XS.icmpNo X0.here hx rfl (hb hby at_141) rfl (teq hc141).2 ?_
    show Steps p.tables e below (s₁.setTop (mkF m 144 #[.val (.int p1), .val (.int p2), .val (.int p3), .val (.int (own_b p1)), .val (.int (p3 &&& (3 : Int32))), .val (.int (own_b p1)), .unset] [])) _
    refine XS.iconst X0.here hx rfl (hb hby at_144) ?_
    show Steps p.tables e below (s₁.setTop (mkF m 145 #[.val (.int p1), .val (.int p2), .val (.int p3), .val (.int (own_b p1)), .val (.int (p3 &&& (3 : Int32))), .val (.int (own_b p1)), .unset] [(.int (1 : Int32))])) _
    refine XS.goto X0.here hx rfl (pc0 := 145) (pc' := 149) rfl (hb hby at_145) (by decide) (by decide) ?_
    show Steps p.tables e below (s₁.setTop (mkF m 149 #[.val (.int p1), .val (.int p2), .val (.int p3), .val (.int (own_b p1)), .val (.int (p3 &&& (3 : Int32))), .val (.int (own_b p1)), .unset] [(.int (1 : Int32))])) _
    refine XS.istore X0.here hx rfl (hb hby at_149) rfl (l' := #[.val (.int p1), .val (.int p2), .val (.int p3), .val (.int (own_b p1)), .val (.int (p3 &&& (3 : Int32))), .val (.int (own_b p1)), .val (.int (1 : Int32))]) rfl ?_
    show Steps p.tables e below (s₁.setTop (mkF m 151 #[.val (.int p1), .val (.int p2), .val (.int p3), .val (.int (own_b p1)), .val (.int (p3 &&& (3 : Int32))), .val (.int (own_b p1)), .val (.int (1 : Int32))] [])) _
    refine XS.iloadN X0.here hx rfl (hb hby at_151) rfl ?_
    show Steps p.tables e below (s₁.setTop (mkF m 152 #[.val (.int p1), .val (.int p2), .val (.int p3), .val (.int (own_b p1)), .val (.int (p3 &&& (3 : Int32))), .val (.int (own_b p1)), .val (.int (1 : Int32))] [(.int p1)])) _
    refine XS.iload X0.here hx rfl (hb hby at_152) rfl ?_
    show Steps p.tables e below (s₁.setTop (mkF m 154 #[.val (.int p1), .val (.int p2), .val (.int p3), .val (.int (own_b p1)), .val (.int (p3 &&& (3 : Int32))), .val (.int (own_b p1)), .val (.int (1 : Int32))] [(.int (own_b p1)), (.int p1)])) _
    refine st4 _ ?_
    show Steps p.tables e below (T4.setTop (mkF m 157 #[.val (.int p1), .val (.int p2), .val (.int p3), .val (.int (own_b p1)), .val (.int (p3 &&& (3 : Int32))), .val (.int (own_b p1)), .val (.int (1 : Int32))] [(.int (val1 p1 (own_b p1)))])) _
    refine XS.iload X4.here hx rfl (hb hby at_157) rfl ?_
    show Steps p.tables e below (T4.setTop (mkF m 159 #[.val (.int p1), .val (.int p2), .val (.int p3), .val (.int (own_b p1)), .val (.int (p3 &&& (3 : Int32))), .val (.int (own_b p1)), .val (.int (1 : Int32))] [(.int (1 : Int32)), (.int (val1 p1 (own_b p1)))])) _
    refine XS.icmpNo X4.here hx rfl (hb hby at_159) rfl (teq (by unfold val1; rw [if_pos ((own_iff _ _).mpr ⟨hc82, hc93, hc105, hc123, hc141⟩)] : (val1 p1 (own_b p1)) = (1 : Int32))).2 ?_
    show Steps p.tables e below (T4.setTop (mkF m 162 #[.val (.int p1), .val (.int p2), .val (.int p3), .val (.int (own_b p1)), .val (.int (p3 &&& (3 : Int32))), .val (.int (own_b p1)), .val (.int (1 : Int32))] [])) _
    refine XS.iconst X4.here hx rfl (hb hby at_162) ?_
    show Steps p.tables e below (T4.setTop (mkF m 163 #[.val (.int p1), .val (.int p2), .val (.int p3), .val (.int (own_b p1)), .val (.int (p3 &&& (3 : Int32))), .val (.int (own_b p1)), .val (.int (1 : Int32))] [(.int (1 : Int32))])) _
    refine XS.goto X4.here hx rfl (pc0 := 163) (pc' := 167) rfl (hb hby at_163) (by decide) (by decide) ?_
    show Steps p.tables e below (T4.setTop (mkF m 167 #[.val (.int p1), .val (.int p2), .val (.int p3), .val (.int (own_b p1)), .val (.int (p3 &&& (3 : Int32))), .val (.int (own_b p1)), .val (.int (1 : Int32))] [(.int (1 : Int32))])) _
    exact retN X4 hx (t := .boolean) Bd.returns (by simp) (hb hby at_167) hr
  · show Q0 Z p1 p2 p3 h0 n0 _ T4.heap _
    exact ⟨rfl, N4⟩

set_option maxRecDepth 65536 in
set_option maxHeartbeats 40000000 in
theorem rm0_ftf (l : Launch) (Z : State) (a0 : Array Value) (hw : ∀ d ∈ tables_1, d.before a0 Z = true) (ws : List Jvm.Cond) (p1 : Int32) (p2 : Int32) (p3 : Int32) (h0 : Heap) (n0 : Nat) (Z0 : n0 ≤ h0.size) (hc34 : (p3 &&& (3 : Int32)) = (0 : Int32)) (hc82 : ¬ (((p2.toUInt32 >>> ((18 : Int32) &&& 31).toUInt32).toInt32) = (0 : Int32))) :
    MetFree l x (head1 (Jvm.Cond.code x code maxLocals ret :: ws) room_1) (fun a U => a = #[(.int p1), (.int p2), (.int p3)] ∧ Z.Warmed39 U.vm ∧ U.heap = h0) (fun _ _ _ _ _ => True) (fun _ U o U' => ∃ v L, o = .returned v ∧ Q0 Z p1 p2 p3 h0 n0 v U'.heap L ∧ FrameEnd U o U' L room_1.cells room_1.slots) := by
  refine MetFree.of_bodySF (plainFor_of_name pn_0) hisR ?_
  intro p e s m args below meth c s₁ Bd hml0 hP hK
  obtain ⟨rfl, hZ, hh⟩ := hP
  have hx := Bd.exec
  have hby := Bd.bytes
  have hml : c.maxLocals = 7 := hml0
  have hown : s.vm.findClass "touchmove/position/PackedMoveIsPinLaw" = some m.cls := findClass_of_methodNamed Bd.named
  have hnm := (name_of_methodNamed Bd.named Bd.method).1
  have X0 : Stand p l e room_1 s m #[(.int p1), (.int p2), (.int p3)] below meth c s₁ [] 0 0 := Stand.of_body Bd
  have e0 : s₁.heap = h0 := by rw [← hh, Bd.state]; rfl
  have N0 := Fr.nil n0
  have pre0 : ∀ t, Steps p.tables e below (s₁.setTop (mkF m 0 #[.val (.int p1), .val (.int p2), .val (.int p3), .unset, .unset, .unset, .unset] [])) t → Steps p.tables e below (s₁.setTop (entryFrame m #[(.int p1), (.int p2), (.int p3)] maxLocals)) t := fun t k => castTop (ef_0 m p1 p2 p3) k
  obtain ⟨_, _, ⟨T4, L4, k4, n4⟩, -, X4, ⟨Lc4, hQ4, l4, y4, z4⟩, st4⟩ := Jvm.LawKit.callS X0 hx (y := (⟨"touchmove/position/PackedMove", "is", "(II)Z"⟩ : MethodName)) hown (mvT hZ (hw _ (List.mem_of_getElem? (i := 0) rfl))) (mvT hZ (hw _ (List.mem_of_getElem? (i := 1) rfl))) (mvT hZ (hw _ (List.mem_of_getElem? (i := 2) rfl))) (mvT hZ (hw _ (List.mem_of_getElem? (i := 3) rfl))) (by decide) (backOf (W := 0) (rm1 l Z a0 hw [] p1 p2 h0 n0 Z0) hZ (hw _ (List.mem_of_getElem? (i := 3) rfl)) (hw _ (List.mem_of_getElem? (i := 2) rfl)) (by decide) (by decide)) (g := (mkF m 154 #[.val (.int p1), .val (.int p2), .val (.int p3), .val (.int (own_b p1)), .val (.int (p3 &&& (3 : Int32))), .val (.int p2), .val (.int (0 : Int32))] [(.int p2), (.int p1)])) rfl (by rw [hml]; rfl) (argsL := [(.int p1), (.int p2)]) (rest := []) (lenOf pd_0_0 rfl) rfl (by show 2 * 0 + _ ≤ _; exact Nat.le_of_eq rfl) (hb hby at_154) (fun _ _ => ⟨rfl, e0, (by decide : 0 + 0 ≤ _), (by decide : 0 + 0 ≤ _)⟩)
  dsimp only [Pt.U, Pt.locs, Pt.cells, Pt.slots] at X4 l4 y4 z4 st4 hQ4
  subst l4 y4 z4
  obtain ⟨rfl, N4q, w4⟩ := hQ4
  have N4 := Fr.app N0 N4q
  obtain ⟨fs, hr, hrun, hended, hW, hsame⟩ := X4.leave (v := some (.int (1 : Int32))) (fun h => by rw [Bd.returns] at h; cases h)
  refine ⟨_, _, pre0 _ ?_, hrun, hended, _, _, rfl, ?_, ⟨_, rfl⟩, hW, hsame.mono (by decide) (by decide)⟩
  · show Steps p.tables e below (s₁.setTop (mkF m 0 #[.val (.int p1), .val (.int p2), .val (.int p3), .unset, .unset, .unset, .unset] [])) _
    refine XS.iloadN X0.here hx rfl (hb hby at_0) rfl ?_
    show Steps p.tables e below (s₁.setTop (mkF m 1 #[.val (.int p1), .val (.int p2), .val (.int p3), .unset, .unset, .unset, .unset] [(.int p1)])) _
    refine XS.bipush X0.here hx rfl (hb hby at_1) ?_
    show Steps p.tables e below (s₁.setTop (mkF m 3 #[.val (.int p1), .val (.int p2), .val (.int p3), .unset, .unset, .unset, .unset] [(.int (63 : Int32)), (.int p1)])) _
    refine XS.iand X0.here hx rfl (hb hby at_3) rfl ?_
    show Steps p.tables e below (s₁.setTop (mkF m 4 #[.val (.int p1), .val (.int p2), .val (.int p3), .unset, .unset, .unset, .unset] [(.int (p1 &&& (63 : Int32)))])) _
    refine XS.iloadN X0.here hx rfl (hb hby at_4) rfl ?_
    show Steps p.tables e below (s₁.setTop (mkF m 5 #[.val (.int p1), .val (.int p2), .val (.int p3), .unset, .unset, .unset, .unset] [(.int p1), (.int (p1 &&& (63 : Int32)))])) _
    refine XS.bipush X0.here hx rfl (hb hby at_5) ?_
    show Steps p.tables e below (s₁.setTop (mkF m 7 #[.val (.int p1), .val (.int p2), .val (.int p3), .unset, .unset, .unset, .unset] [(.int (6 : Int32)), (.int p1), (.int (p1 &&& (63 : Int32)))])) _
    refine XS.iushr X0.here hx rfl (hb hby at_7) rfl ?_
    show Steps p.tables e below (s₁.setTop (mkF m 8 #[.val (.int p1), .val (.int p2), .val (.int p3), .unset, .unset, .unset, .unset] [(.int ((p1.toUInt32 >>> ((6 : Int32) &&& 31).toUInt32).toInt32)), (.int (p1 &&& (63 : Int32)))])) _
    refine XS.bipush X0.here hx rfl (hb hby at_8) ?_
    show Steps p.tables e below (s₁.setTop (mkF m 10 #[.val (.int p1), .val (.int p2), .val (.int p3), .unset, .unset, .unset, .unset] [(.int (63 : Int32)), (.int ((p1.toUInt32 >>> ((6 : Int32) &&& 31).toUInt32).toInt32)), (.int (p1 &&& (63 : Int32)))])) _
    refine XS.iand X0.here hx rfl (hb hby at_10) rfl ?_
    show Steps p.tables e below (s₁.setTop (mkF m 11 #[.val (.int p1), .val (.int p2), .val (.int p3), .unset, .unset, .unset, .unset] [(.int (((p1.toUInt32 >>> ((6 : Int32) &&& 31).toUInt32).toInt32) &&& (63 : Int32))), (.int (p1 &&& (63 : Int32)))])) _
    refine XS.bipush X0.here hx rfl (hb hby at_11) ?_
    show Steps p.tables e below (s₁.setTop (mkF m 13 #[.val (.int p1), .val (.int p2), .val (.int p3), .unset, .unset, .unset, .unset] [(.int (6 : Int32)), (.int (((p1.toUInt32 >>> ((6 : Int32) &&& 31).toUInt32).toInt32) &&& (63 : Int32))), (.int (p1 &&& (63 : Int32)))])) _
    refine XS.ishl X0.here hx rfl (hb hby at_13) rfl ?_
    show Steps p.tables e below (s₁.setTop (mkF m 14 #[.val (.int p1), .val (.int p2), .val (.int p3), .unset, .unset, .unset, .unset] [(.int ((((p1.toUInt32 >>> ((6 : Int32) &&& 31).toUInt32).toInt32) &&& (63 : Int32)) <<< ((6 : Int32) &&& 31))), (.int (p1 &&& (63 : Int32)))])) _
    refine XS.ior X0.here hx rfl (hb hby at_14) rfl ?_
    show Steps p.tables e below (s₁.setTop (mkF m 15 #[.val (.int p1), .val (.int p2), .val (.int p3), .unset, .unset, .unset, .unset] [(.int ((p1 &&& (63 : Int32)) ||| ((((p1.toUInt32 >>> ((6 : Int32) &&& 31).toUInt32).toInt32) &&& (63 : Int32)) <<< ((6 : Int32) &&& 31))))])) _
    refine XS.iloadN X0.here hx rfl (hb hby at_15) rfl ?_
    show Steps p.tables e below (s₁.setTop (mkF m 16 #[.val (.int p1), .val (.int p2), .val (.int p3), .unset, .unset, .unset, .unset] [(.int p1), (.int ((p1 &&& (63 : Int32)) ||| ((((p1.toUInt32 >>> ((6 : Int32) &&& 31).toUInt32).toInt32) &&& (63 : Int32)) <<< ((6 : Int32) &&& 31))))])) _
    refine XS.bipush X0.here hx rfl (hb hby at_16) ?_
    show Steps p.tables e below (s₁.setTop (mkF m 18 #[.val (.int p1), .val (.int p2), .val (.int p3), .unset, .unset, .unset, .unset] [(.int (15 : Int32)), (.int p1), (.int ((p1 &&& (63 : Int32)) ||| ((((p1.toUInt32 >>> ((6 : Int32) &&& 31).toUInt32).toInt32) &&& (63 : Int32)) <<< ((6 : Int32) &&& 31))))])) _
    refine XS.iushr X0.here hx rfl (hb hby at_18) rfl ?_
    show Steps p.tables e below (s₁.setTop (mkF m 19 #[.val (.int p1), .val (.int p2), .val (.int p3), .unset, .unset, .unset, .unset] [(.int ((p1.toUInt32 >>> ((15 : Int32) &&& 31).toUInt32).toInt32)), (.int ((p1 &&& (63 : Int32)) ||| ((((p1.toUInt32 >>> ((6 : Int32) &&& 31).toUInt32).toInt32) &&& (63 : Int32)) <<< ((6 : Int32) &&& 31))))])) _
    refine XS.bipush X0.here hx rfl (hb hby at_19) ?_
    show Steps p.tables e below (s₁.setTop (mkF m 21 #[.val (.int p1), .val (.int p2), .val (.int p3), .unset, .unset, .unset, .unset] [(.int (7 : Int32)), (.int ((p1.toUInt32 >>> ((15 : Int32) &&& 31).toUInt32).toInt32)), (.int ((p1 &&& (63 : Int32)) ||| ((((p1.toUInt32 >>> ((6 : Int32) &&& 31).toUInt32).toInt32) &&& (63 : Int32)) <<< ((6 : Int32) &&& 31))))])) _
    refine XS.iand X0.here hx rfl (hb hby at_21) rfl ?_
    show Steps p.tables e below (s₁.setTop (mkF m 22 #[.val (.int p1), .val (.int p2), .val (.int p3), .unset, .unset, .unset, .unset] [(.int (((p1.toUInt32 >>> ((15 : Int32) &&& 31).toUInt32).toInt32) &&& (7 : Int32))), (.int ((p1 &&& (63 : Int32)) ||| ((((p1.toUInt32 >>> ((6 : Int32) &&& 31).toUInt32).toInt32) &&& (63 : Int32)) <<< ((6 : Int32) &&& 31))))])) _
    refine XS.bipush X0.here hx rfl (hb hby at_22) ?_
    show Steps p.tables e below (s₁.setTop (mkF m 24 #[.val (.int p1), .val (.int p2), .val (.int p3), .unset, .unset, .unset, .unset] [(.int (15 : Int32)), (.int (((p1.toUInt32 >>> ((15 : Int32) &&& 31).toUInt32).toInt32) &&& (7 : Int32))), (.int ((p1 &&& (63 : Int32)) ||| ((((p1.toUInt32 >>> ((6 : Int32) &&& 31).toUInt32).toInt32) &&& (63 : Int32)) <<< ((6 : Int32) &&& 31))))])) _
    refine XS.ishl X0.here hx rfl (hb hby at_24) rfl ?_
    show Steps p.tables e below (s₁.setTop (mkF m 25 #[.val (.int p1), .val (.int p2), .val (.int p3), .unset, .unset, .unset, .unset] [(.int ((((p1.toUInt32 >>> ((15 : Int32) &&& 31).toUInt32).toInt32) &&& (7 : Int32)) <<< ((15 : Int32) &&& 31))), (.int ((p1 &&& (63 : Int32)) ||| ((((p1.toUInt32 >>> ((6 : Int32) &&& 31).toUInt32).toInt32) &&& (63 : Int32)) <<< ((6 : Int32) &&& 31))))])) _
    refine XS.ior X0.here hx rfl (hb hby at_25) rfl ?_
    show Steps p.tables e below (s₁.setTop (mkF m 26 #[.val (.int p1), .val (.int p2), .val (.int p3), .unset, .unset, .unset, .unset] [(.int (own_b p1))])) _
    refine XS.istoreN X0.here hx rfl (hb hby at_26) rfl (l' := #[.val (.int p1), .val (.int p2), .val (.int p3), .val (.int (own_b p1)), .unset, .unset, .unset]) rfl ?_
    show Steps p.tables e below (s₁.setTop (mkF m 27 #[.val (.int p1), .val (.int p2), .val (.int p3), .val (.int (own_b p1)), .unset, .unset, .unset] [])) _
    refine XS.iloadN X0.here hx rfl (hb hby at_27) rfl ?_
    show Steps p.tables e below (s₁.setTop (mkF m 28 #[.val (.int p1), .val (.int p2), .val (.int p3), .val (.int (own_b p1)), .unset, .unset, .unset] [(.int p3)])) _
    refine XS.iconst X0.here hx rfl (hb hby at_28) ?_
    show Steps p.tables e below (s₁.setTop (mkF m 29 #[.val (.int p1), .val (.int p2), .val (.int p3), .val (.int (own_b p1)), .unset, .unset, .unset] [(.int (3 : Int32)), (.int p3)])) _
    refine XS.iand X0.here hx rfl (hb hby at_29) rfl ?_
    show Steps p.tables e below (s₁.setTop (mkF m 30 #[.val (.int p1), .val (.int p2), .val (.int p3), .val (.int (own_b p1)), .unset, .unset, .unset] [(.int (p3 &&& (3 : Int32)))])) _
    refine XS.istore X0.here hx rfl (hb hby at_30) rfl (l' := #[.val (.int p1), .val (.int p2), .val (.int p3), .val (.int (own_b p1)), .val (.int (p3 &&& (3 : Int32))), .unset, .unset]) rfl ?_
    show Steps p.tables e below (s₁.setTop (mkF m 32 #[.val (.int p1), .val (.int p2), .val (.int p3), .val (.int (own_b p1)), .val (.int (p3 &&& (3 : Int32))), .unset, .unset] [])) _
    refine XS.iload X0.here hx rfl (hb hby at_32) rfl ?_
    show Steps p.tables e below (s₁.setTop (mkF m 34 #[.val (.int p1), .val (.int p2), .val (.int p3), .val (.int (own_b p1)), .val (.int (p3 &&& (3 : Int32))), .unset, .unset] [(.int (p3 &&& (3 : Int32)))])) _
    refine XS.ifNo X0.here hx rfl (hb hby at_34) rfl ((if0 _ _).trans (teq hc34).2) ?_
    show Steps p.tables e below (s₁.setTop (mkF m 37 #[.val (.int p1), .val (.int p2), .val (.int p3), .val (.int (own_b p1)), .val (.int (p3 &&& (3 : Int32))), .unset, .unset] [])) _
    refine XS.iloadN X0.here hx rfl (hb hby at_37) rfl ?_
    show Steps p.tables e below (s₁.setTop (mkF m 38 #[.val (.int p1), .val (.int p2), .val (.int p3), .val (.int (own_b p1)), .val (.int (p3 &&& (3 : Int32))), .unset, .unset] [(.int p2)])) _
    refine XS.istore X0.here hx rfl (hb hby at_38) rfl (l' := #[.val (.int p1), .val (.int p2), .val (.int p3), .val (.int (own_b p1)), .val (.int (p3 &&& (3 : Int32))), .val (.int p2), .unset]) rfl ?_
    show Steps p.tables e below (s₁.setTop (mkF m 40 #[.val (.int p1), .val (.int p2), .val (.int p3), .val (.int (own_b p1)), .val (.int (p3 &&& (3 : Int32))), .val (.int p2), .unset] [])) _
    refine XS.goto X0.here hx rfl (pc0 := 40) (pc' := 77) rfl (hb hby at_40) (by decide) (by decide) ?_
    show Steps p.tables e below (s₁.setTop (mkF m 77 #[.val (.int p1), .val (.int p2), .val (.int p3), .val (.int (own_b p1)), .val (.int (p3 &&& (3 : Int32))), .val (.int p2), .unset] [])) _
    refine XS.iload X0.here hx rfl (hb hby at_77) rfl ?_
    show Steps p.tables e below (s₁.setTop (mkF m 79 #[.val (.int p1), .val (.int p2), .val (.int p3), .val (.int (own_b p1)), .val (.int (p3 &&& (3 : Int32))), .val (.int p2), .unset] [(.int p2)])) _
    refine XS.bipush X0.here hx rfl (hb hby at_79) ?_
    show Steps p.tables e below (s₁.setTop (mkF m 81 #[.val (.int p1), .val (.int p2), .val (.int p3), .val (.int (own_b p1)), .val (.int (p3 &&& (3 : Int32))), .val (.int p2), .unset] [(.int (18 : Int32)), (.int p2)])) _
    refine XS.iushr X0.here hx rfl (hb hby at_81) rfl ?_
    show Steps p.tables e below (s₁.setTop (mkF m 82 #[.val (.int p1), .val (.int p2), .val (.int p3), .val (.int (own_b p1)), .val (.int (p3 &&& (3 : Int32))), .val (.int p2), .unset] [(.int ((p2.toUInt32 >>> ((18 : Int32) &&& 31).toUInt32).toInt32))])) _
    refine XS.ifYes X0.here hx rfl (pc0 := 82) (pc' := 148) rfl (hb hby at_82) rfl ((if0 _ _).trans (feq hc82).2) (by decide) (by decide) ?_
    show Steps p.tables e below (s₁.setTop (mkF m 148 #[.val (.int p1), .val (.int p2), .val (.int p3), .val (.int (own_b p1)), .val (.int (p3 &&& (3 : Int32))), .val (.int p2), .unset] [])) _
    refine XS.iconst X0.here hx rfl (hb hby at_148) ?_
    show Steps p.tables e below (s₁.setTop (mkF m 149 #[.val (.int p1), .val (.int p2), .val (.int p3), .val (.int (own_b p1)), .val (.int (p3 &&& (3 : Int32))), .val (.int p2), .unset] [(.int (0 : Int32))])) _
    refine XS.istore X0.here hx rfl (hb hby at_149) rfl (l' := #[.val (.int p1), .val (.int p2), .val (.int p3), .val (.int (own_b p1)), .val (.int (p3 &&& (3 : Int32))), .val (.int p2), .val (.int (0 : Int32))]) rfl ?_
    show Steps p.tables e below (s₁.setTop (mkF m 151 #[.val (.int p1), .val (.int p2), .val (.int p3), .val (.int (own_b p1)), .val (.int (p3 &&& (3 : Int32))), .val (.int p2), .val (.int (0 : Int32))] [])) _
    refine XS.iloadN X0.here hx rfl (hb hby at_151) rfl ?_
    show Steps p.tables e below (s₁.setTop (mkF m 152 #[.val (.int p1), .val (.int p2), .val (.int p3), .val (.int (own_b p1)), .val (.int (p3 &&& (3 : Int32))), .val (.int p2), .val (.int (0 : Int32))] [(.int p1)])) _
    refine XS.iload X0.here hx rfl (hb hby at_152) rfl ?_
    show Steps p.tables e below (s₁.setTop (mkF m 154 #[.val (.int p1), .val (.int p2), .val (.int p3), .val (.int (own_b p1)), .val (.int (p3 &&& (3 : Int32))), .val (.int p2), .val (.int (0 : Int32))] [(.int p2), (.int p1)])) _
    refine st4 _ ?_
    show Steps p.tables e below (T4.setTop (mkF m 157 #[.val (.int p1), .val (.int p2), .val (.int p3), .val (.int (own_b p1)), .val (.int (p3 &&& (3 : Int32))), .val (.int p2), .val (.int (0 : Int32))] [(.int (val1 p1 p2))])) _
    refine XS.iload X4.here hx rfl (hb hby at_157) rfl ?_
    show Steps p.tables e below (T4.setTop (mkF m 159 #[.val (.int p1), .val (.int p2), .val (.int p3), .val (.int (own_b p1)), .val (.int (p3 &&& (3 : Int32))), .val (.int p2), .val (.int (0 : Int32))] [(.int (0 : Int32)), (.int (val1 p1 p2))])) _
    refine XS.icmpNo X4.here hx rfl (hb hby at_159) rfl (teq (by unfold val1; rw [if_neg (fun q => hc82 ((own_iff _ _).mp q).1)] : (val1 p1 p2) = (0 : Int32))).2 ?_
    show Steps p.tables e below (T4.setTop (mkF m 162 #[.val (.int p1), .val (.int p2), .val (.int p3), .val (.int (own_b p1)), .val (.int (p3 &&& (3 : Int32))), .val (.int p2), .val (.int (0 : Int32))] [])) _
    refine XS.iconst X4.here hx rfl (hb hby at_162) ?_
    show Steps p.tables e below (T4.setTop (mkF m 163 #[.val (.int p1), .val (.int p2), .val (.int p3), .val (.int (own_b p1)), .val (.int (p3 &&& (3 : Int32))), .val (.int p2), .val (.int (0 : Int32))] [(.int (1 : Int32))])) _
    refine XS.goto X4.here hx rfl (pc0 := 163) (pc' := 167) rfl (hb hby at_163) (by decide) (by decide) ?_
    show Steps p.tables e below (T4.setTop (mkF m 167 #[.val (.int p1), .val (.int p2), .val (.int p3), .val (.int (own_b p1)), .val (.int (p3 &&& (3 : Int32))), .val (.int p2), .val (.int (0 : Int32))] [(.int (1 : Int32))])) _
    exact retN X4 hx (t := .boolean) Bd.returns (by simp) (hb hby at_167) hr
  · show Q0 Z p1 p2 p3 h0 n0 _ T4.heap _
    exact ⟨rfl, N4⟩

set_option maxRecDepth 65536 in
set_option maxHeartbeats 40000000 in
theorem rm0_fftf (l : Launch) (Z : State) (a0 : Array Value) (hw : ∀ d ∈ tables_1, d.before a0 Z = true) (ws : List Jvm.Cond) (p1 : Int32) (p2 : Int32) (p3 : Int32) (h0 : Heap) (n0 : Nat) (Z0 : n0 ≤ h0.size) (hc34 : (p3 &&& (3 : Int32)) = (0 : Int32)) (hc82 : ((p2.toUInt32 >>> ((18 : Int32) &&& 31).toUInt32).toInt32) = (0 : Int32)) (hc93 : ¬ ((((p2.toUInt32 >>> ((12 : Int32) &&& 31).toUInt32).toInt32) &&& (7 : Int32)) = (0 : Int32))) :
    MetFree l x (head1 (Jvm.Cond.code x code maxLocals ret :: ws) room_1) (fun a U => a = #[(.int p1), (.int p2), (.int p3)] ∧ Z.Warmed39 U.vm ∧ U.heap = h0) (fun _ _ _ _ _ => True) (fun _ U o U' => ∃ v L, o = .returned v ∧ Q0 Z p1 p2 p3 h0 n0 v U'.heap L ∧ FrameEnd U o U' L room_1.cells room_1.slots) := by
  refine MetFree.of_bodySF (plainFor_of_name pn_0) hisR ?_
  intro p e s m args below meth c s₁ Bd hml0 hP hK
  obtain ⟨rfl, hZ, hh⟩ := hP
  have hx := Bd.exec
  have hby := Bd.bytes
  have hml : c.maxLocals = 7 := hml0
  have hown : s.vm.findClass "touchmove/position/PackedMoveIsPinLaw" = some m.cls := findClass_of_methodNamed Bd.named
  have hnm := (name_of_methodNamed Bd.named Bd.method).1
  have X0 : Stand p l e room_1 s m #[(.int p1), (.int p2), (.int p3)] below meth c s₁ [] 0 0 := Stand.of_body Bd
  have e0 : s₁.heap = h0 := by rw [← hh, Bd.state]; rfl
  have N0 := Fr.nil n0
  have pre0 : ∀ t, Steps p.tables e below (s₁.setTop (mkF m 0 #[.val (.int p1), .val (.int p2), .val (.int p3), .unset, .unset, .unset, .unset] [])) t → Steps p.tables e below (s₁.setTop (entryFrame m #[(.int p1), (.int p2), (.int p3)] maxLocals)) t := fun t k => castTop (ef_0 m p1 p2 p3) k
  obtain ⟨_, _, ⟨T4, L4, k4, n4⟩, -, X4, ⟨Lc4, hQ4, l4, y4, z4⟩, st4⟩ := Jvm.LawKit.callS X0 hx (y := (⟨"touchmove/position/PackedMove", "is", "(II)Z"⟩ : MethodName)) hown (mvT hZ (hw _ (List.mem_of_getElem? (i := 0) rfl))) (mvT hZ (hw _ (List.mem_of_getElem? (i := 1) rfl))) (mvT hZ (hw _ (List.mem_of_getElem? (i := 2) rfl))) (mvT hZ (hw _ (List.mem_of_getElem? (i := 3) rfl))) (by decide) (backOf (W := 0) (rm1 l Z a0 hw [] p1 p2 h0 n0 Z0) hZ (hw _ (List.mem_of_getElem? (i := 3) rfl)) (hw _ (List.mem_of_getElem? (i := 2) rfl)) (by decide) (by decide)) (g := (mkF m 154 #[.val (.int p1), .val (.int p2), .val (.int p3), .val (.int (own_b p1)), .val (.int (p3 &&& (3 : Int32))), .val (.int p2), .val (.int (0 : Int32))] [(.int p2), (.int p1)])) rfl (by rw [hml]; rfl) (argsL := [(.int p1), (.int p2)]) (rest := []) (lenOf pd_0_0 rfl) rfl (by show 2 * 0 + _ ≤ _; exact Nat.le_of_eq rfl) (hb hby at_154) (fun _ _ => ⟨rfl, e0, (by decide : 0 + 0 ≤ _), (by decide : 0 + 0 ≤ _)⟩)
  dsimp only [Pt.U, Pt.locs, Pt.cells, Pt.slots] at X4 l4 y4 z4 st4 hQ4
  subst l4 y4 z4
  obtain ⟨rfl, N4q, w4⟩ := hQ4
  have N4 := Fr.app N0 N4q
  obtain ⟨fs, hr, hrun, hended, hW, hsame⟩ := X4.leave (v := some (.int (1 : Int32))) (fun h => by rw [Bd.returns] at h; cases h)
  refine ⟨_, _, pre0 _ ?_, hrun, hended, _, _, rfl, ?_, ⟨_, rfl⟩, hW, hsame.mono (by decide) (by decide)⟩
  · show Steps p.tables e below (s₁.setTop (mkF m 0 #[.val (.int p1), .val (.int p2), .val (.int p3), .unset, .unset, .unset, .unset] [])) _
    refine XS.iloadN X0.here hx rfl (hb hby at_0) rfl ?_
    show Steps p.tables e below (s₁.setTop (mkF m 1 #[.val (.int p1), .val (.int p2), .val (.int p3), .unset, .unset, .unset, .unset] [(.int p1)])) _
    refine XS.bipush X0.here hx rfl (hb hby at_1) ?_
    show Steps p.tables e below (s₁.setTop (mkF m 3 #[.val (.int p1), .val (.int p2), .val (.int p3), .unset, .unset, .unset, .unset] [(.int (63 : Int32)), (.int p1)])) _
    refine XS.iand X0.here hx rfl (hb hby at_3) rfl ?_
    show Steps p.tables e below (s₁.setTop (mkF m 4 #[.val (.int p1), .val (.int p2), .val (.int p3), .unset, .unset, .unset, .unset] [(.int (p1 &&& (63 : Int32)))])) _
    refine XS.iloadN X0.here hx rfl (hb hby at_4) rfl ?_
    show Steps p.tables e below (s₁.setTop (mkF m 5 #[.val (.int p1), .val (.int p2), .val (.int p3), .unset, .unset, .unset, .unset] [(.int p1), (.int (p1 &&& (63 : Int32)))])) _
    refine XS.bipush X0.here hx rfl (hb hby at_5) ?_
    show Steps p.tables e below (s₁.setTop (mkF m 7 #[.val (.int p1), .val (.int p2), .val (.int p3), .unset, .unset, .unset, .unset] [(.int (6 : Int32)), (.int p1), (.int (p1 &&& (63 : Int32)))])) _
    refine XS.iushr X0.here hx rfl (hb hby at_7) rfl ?_
    show Steps p.tables e below (s₁.setTop (mkF m 8 #[.val (.int p1), .val (.int p2), .val (.int p3), .unset, .unset, .unset, .unset] [(.int ((p1.toUInt32 >>> ((6 : Int32) &&& 31).toUInt32).toInt32)), (.int (p1 &&& (63 : Int32)))])) _
    refine XS.bipush X0.here hx rfl (hb hby at_8) ?_
    show Steps p.tables e below (s₁.setTop (mkF m 10 #[.val (.int p1), .val (.int p2), .val (.int p3), .unset, .unset, .unset, .unset] [(.int (63 : Int32)), (.int ((p1.toUInt32 >>> ((6 : Int32) &&& 31).toUInt32).toInt32)), (.int (p1 &&& (63 : Int32)))])) _
    refine XS.iand X0.here hx rfl (hb hby at_10) rfl ?_
    show Steps p.tables e below (s₁.setTop (mkF m 11 #[.val (.int p1), .val (.int p2), .val (.int p3), .unset, .unset, .unset, .unset] [(.int (((p1.toUInt32 >>> ((6 : Int32) &&& 31).toUInt32).toInt32) &&& (63 : Int32))), (.int (p1 &&& (63 : Int32)))])) _
    refine XS.bipush X0.here hx rfl (hb hby at_11) ?_
    show Steps p.tables e below (s₁.setTop (mkF m 13 #[.val (.int p1), .val (.int p2), .val (.int p3), .unset, .unset, .unset, .unset] [(.int (6 : Int32)), (.int (((p1.toUInt32 >>> ((6 : Int32) &&& 31).toUInt32).toInt32) &&& (63 : Int32))), (.int (p1 &&& (63 : Int32)))])) _
    refine XS.ishl X0.here hx rfl (hb hby at_13) rfl ?_
    show Steps p.tables e below (s₁.setTop (mkF m 14 #[.val (.int p1), .val (.int p2), .val (.int p3), .unset, .unset, .unset, .unset] [(.int ((((p1.toUInt32 >>> ((6 : Int32) &&& 31).toUInt32).toInt32) &&& (63 : Int32)) <<< ((6 : Int32) &&& 31))), (.int (p1 &&& (63 : Int32)))])) _
    refine XS.ior X0.here hx rfl (hb hby at_14) rfl ?_
    show Steps p.tables e below (s₁.setTop (mkF m 15 #[.val (.int p1), .val (.int p2), .val (.int p3), .unset, .unset, .unset, .unset] [(.int ((p1 &&& (63 : Int32)) ||| ((((p1.toUInt32 >>> ((6 : Int32) &&& 31).toUInt32).toInt32) &&& (63 : Int32)) <<< ((6 : Int32) &&& 31))))])) _
    refine XS.iloadN X0.here hx rfl (hb hby at_15) rfl ?_
    show Steps p.tables e below (s₁.setTop (mkF m 16 #[.val (.int p1), .val (.int p2), .val (.int p3), .unset, .unset, .unset, .unset] [(.int p1), (.int ((p1 &&& (63 : Int32)) ||| ((((p1.toUInt32 >>> ((6 : Int32) &&& 31).toUInt32).toInt32) &&& (63 : Int32)) <<< ((6 : Int32) &&& 31))))])) _
    refine XS.bipush X0.here hx rfl (hb hby at_16) ?_
    show Steps p.tables e below (s₁.setTop (mkF m 18 #[.val (.int p1), .val (.int p2), .val (.int p3), .unset, .unset, .unset, .unset] [(.int (15 : Int32)), (.int p1), (.int ((p1 &&& (63 : Int32)) ||| ((((p1.toUInt32 >>> ((6 : Int32) &&& 31).toUInt32).toInt32) &&& (63 : Int32)) <<< ((6 : Int32) &&& 31))))])) _
    refine XS.iushr X0.here hx rfl (hb hby at_18) rfl ?_
    show Steps p.tables e below (s₁.setTop (mkF m 19 #[.val (.int p1), .val (.int p2), .val (.int p3), .unset, .unset, .unset, .unset] [(.int ((p1.toUInt32 >>> ((15 : Int32) &&& 31).toUInt32).toInt32)), (.int ((p1 &&& (63 : Int32)) ||| ((((p1.toUInt32 >>> ((6 : Int32) &&& 31).toUInt32).toInt32) &&& (63 : Int32)) <<< ((6 : Int32) &&& 31))))])) _
    refine XS.bipush X0.here hx rfl (hb hby at_19) ?_
    show Steps p.tables e below (s₁.setTop (mkF m 21 #[.val (.int p1), .val (.int p2), .val (.int p3), .unset, .unset, .unset, .unset] [(.int (7 : Int32)), (.int ((p1.toUInt32 >>> ((15 : Int32) &&& 31).toUInt32).toInt32)), (.int ((p1 &&& (63 : Int32)) ||| ((((p1.toUInt32 >>> ((6 : Int32) &&& 31).toUInt32).toInt32) &&& (63 : Int32)) <<< ((6 : Int32) &&& 31))))])) _
    refine XS.iand X0.here hx rfl (hb hby at_21) rfl ?_
    show Steps p.tables e below (s₁.setTop (mkF m 22 #[.val (.int p1), .val (.int p2), .val (.int p3), .unset, .unset, .unset, .unset] [(.int (((p1.toUInt32 >>> ((15 : Int32) &&& 31).toUInt32).toInt32) &&& (7 : Int32))), (.int ((p1 &&& (63 : Int32)) ||| ((((p1.toUInt32 >>> ((6 : Int32) &&& 31).toUInt32).toInt32) &&& (63 : Int32)) <<< ((6 : Int32) &&& 31))))])) _
    refine XS.bipush X0.here hx rfl (hb hby at_22) ?_
    show Steps p.tables e below (s₁.setTop (mkF m 24 #[.val (.int p1), .val (.int p2), .val (.int p3), .unset, .unset, .unset, .unset] [(.int (15 : Int32)), (.int (((p1.toUInt32 >>> ((15 : Int32) &&& 31).toUInt32).toInt32) &&& (7 : Int32))), (.int ((p1 &&& (63 : Int32)) ||| ((((p1.toUInt32 >>> ((6 : Int32) &&& 31).toUInt32).toInt32) &&& (63 : Int32)) <<< ((6 : Int32) &&& 31))))])) _
    refine XS.ishl X0.here hx rfl (hb hby at_24) rfl ?_
    show Steps p.tables e below (s₁.setTop (mkF m 25 #[.val (.int p1), .val (.int p2), .val (.int p3), .unset, .unset, .unset, .unset] [(.int ((((p1.toUInt32 >>> ((15 : Int32) &&& 31).toUInt32).toInt32) &&& (7 : Int32)) <<< ((15 : Int32) &&& 31))), (.int ((p1 &&& (63 : Int32)) ||| ((((p1.toUInt32 >>> ((6 : Int32) &&& 31).toUInt32).toInt32) &&& (63 : Int32)) <<< ((6 : Int32) &&& 31))))])) _
    refine XS.ior X0.here hx rfl (hb hby at_25) rfl ?_
    show Steps p.tables e below (s₁.setTop (mkF m 26 #[.val (.int p1), .val (.int p2), .val (.int p3), .unset, .unset, .unset, .unset] [(.int (own_b p1))])) _
    refine XS.istoreN X0.here hx rfl (hb hby at_26) rfl (l' := #[.val (.int p1), .val (.int p2), .val (.int p3), .val (.int (own_b p1)), .unset, .unset, .unset]) rfl ?_
    show Steps p.tables e below (s₁.setTop (mkF m 27 #[.val (.int p1), .val (.int p2), .val (.int p3), .val (.int (own_b p1)), .unset, .unset, .unset] [])) _
    refine XS.iloadN X0.here hx rfl (hb hby at_27) rfl ?_
    show Steps p.tables e below (s₁.setTop (mkF m 28 #[.val (.int p1), .val (.int p2), .val (.int p3), .val (.int (own_b p1)), .unset, .unset, .unset] [(.int p3)])) _
    refine XS.iconst X0.here hx rfl (hb hby at_28) ?_
    show Steps p.tables e below (s₁.setTop (mkF m 29 #[.val (.int p1), .val (.int p2), .val (.int p3), .val (.int (own_b p1)), .unset, .unset, .unset] [(.int (3 : Int32)), (.int p3)])) _
    refine XS.iand X0.here hx rfl (hb hby at_29) rfl ?_
    show Steps p.tables e below (s₁.setTop (mkF m 30 #[.val (.int p1), .val (.int p2), .val (.int p3), .val (.int (own_b p1)), .unset, .unset, .unset] [(.int (p3 &&& (3 : Int32)))])) _
    refine XS.istore X0.here hx rfl (hb hby at_30) rfl (l' := #[.val (.int p1), .val (.int p2), .val (.int p3), .val (.int (own_b p1)), .val (.int (p3 &&& (3 : Int32))), .unset, .unset]) rfl ?_
    show Steps p.tables e below (s₁.setTop (mkF m 32 #[.val (.int p1), .val (.int p2), .val (.int p3), .val (.int (own_b p1)), .val (.int (p3 &&& (3 : Int32))), .unset, .unset] [])) _
    refine XS.iload X0.here hx rfl (hb hby at_32) rfl ?_
    show Steps p.tables e below (s₁.setTop (mkF m 34 #[.val (.int p1), .val (.int p2), .val (.int p3), .val (.int (own_b p1)), .val (.int (p3 &&& (3 : Int32))), .unset, .unset] [(.int (p3 &&& (3 : Int32)))])) _
    refine XS.ifNo X0.here hx rfl (hb hby at_34) rfl ((if0 _ _).trans (teq hc34).2) ?_
    show Steps p.tables e below (s₁.setTop (mkF m 37 #[.val (.int p1), .val (.int p2), .val (.int p3), .val (.int (own_b p1)), .val (.int (p3 &&& (3 : Int32))), .unset, .unset] [])) _
    refine XS.iloadN X0.here hx rfl (hb hby at_37) rfl ?_
    show Steps p.tables e below (s₁.setTop (mkF m 38 #[.val (.int p1), .val (.int p2), .val (.int p3), .val (.int (own_b p1)), .val (.int (p3 &&& (3 : Int32))), .unset, .unset] [(.int p2)])) _
    refine XS.istore X0.here hx rfl (hb hby at_38) rfl (l' := #[.val (.int p1), .val (.int p2), .val (.int p3), .val (.int (own_b p1)), .val (.int (p3 &&& (3 : Int32))), .val (.int p2), .unset]) rfl ?_
    show Steps p.tables e below (s₁.setTop (mkF m 40 #[.val (.int p1), .val (.int p2), .val (.int p3), .val (.int (own_b p1)), .val (.int (p3 &&& (3 : Int32))), .val (.int p2), .unset] [])) _
    refine XS.goto X0.here hx rfl (pc0 := 40) (pc' := 77) rfl (hb hby at_40) (by decide) (by decide) ?_
    show Steps p.tables e below (s₁.setTop (mkF m 77 #[.val (.int p1), .val (.int p2), .val (.int p3), .val (.int (own_b p1)), .val (.int (p3 &&& (3 : Int32))), .val (.int p2), .unset] [])) _
    refine XS.iload X0.here hx rfl (hb hby at_77) rfl ?_
    show Steps p.tables e below (s₁.setTop (mkF m 79 #[.val (.int p1), .val (.int p2), .val (.int p3), .val (.int (own_b p1)), .val (.int (p3 &&& (3 : Int32))), .val (.int p2), .unset] [(.int p2)])) _
    refine XS.bipush X0.here hx rfl (hb hby at_79) ?_
    show Steps p.tables e below (s₁.setTop (mkF m 81 #[.val (.int p1), .val (.int p2), .val (.int p3), .val (.int (own_b p1)), .val (.int (p3 &&& (3 : Int32))), .val (.int p2), .unset] [(.int (18 : Int32)), (.int p2)])) _
    refine XS.iushr X0.here hx rfl (hb hby at_81) rfl ?_
    show Steps p.tables e below (s₁.setTop (mkF m 82 #[.val (.int p1), .val (.int p2), .val (.int p3), .val (.int (own_b p1)), .val (.int (p3 &&& (3 : Int32))), .val (.int p2), .unset] [(.int ((p2.toUInt32 >>> ((18 : Int32) &&& 31).toUInt32).toInt32))])) _
    refine XS.ifNo X0.here hx rfl (hb hby at_82) rfl ((if0 _ _).trans (teq hc82).2) ?_
    show Steps p.tables e below (s₁.setTop (mkF m 85 #[.val (.int p1), .val (.int p2), .val (.int p3), .val (.int (own_b p1)), .val (.int (p3 &&& (3 : Int32))), .val (.int p2), .unset] [])) _
    refine XS.iload X0.here hx rfl (hb hby at_85) rfl ?_
    show Steps p.tables e below (s₁.setTop (mkF m 87 #[.val (.int p1), .val (.int p2), .val (.int p3), .val (.int (own_b p1)), .val (.int (p3 &&& (3 : Int32))), .val (.int p2), .unset] [(.int p2)])) _
    refine XS.bipush X0.here hx rfl (hb hby at_87) ?_
    show Steps p.tables e below (s₁.setTop (mkF m 89 #[.val (.int p1), .val (.int p2), .val (.int p3), .val (.int (own_b p1)), .val (.int (p3 &&& (3 : Int32))), .val (.int p2), .unset] [(.int (12 : Int32)), (.int p2)])) _
    refine XS.iushr X0.here hx rfl (hb hby at_89) rfl ?_
    show Steps p.tables e below (s₁.setTop (mkF m 90 #[.val (.int p1), .val (.int p2), .val (.int p3), .val (.int (own_b p1)), .val (.int (p3 &&& (3 : Int32))), .val (.int p2), .unset] [(.int ((p2.toUInt32 >>> ((12 : Int32) &&& 31).toUInt32).toInt32))])) _
    refine XS.bipush X0.here hx rfl (hb hby at_90) ?_
    show Steps p.tables e below (s₁.setTop (mkF m 92 #[.val (.int p1), .val (.int p2), .val (.int p3), .val (.int (own_b p1)), .val (.int (p3 &&& (3 : Int32))), .val (.int p2), .unset] [(.int (7 : Int32)), (.int ((p2.toUInt32 >>> ((12 : Int32) &&& 31).toUInt32).toInt32))])) _
    refine XS.iand X0.here hx rfl (hb hby at_92) rfl ?_
    show Steps p.tables e below (s₁.setTop (mkF m 93 #[.val (.int p1), .val (.int p2), .val (.int p3), .val (.int (own_b p1)), .val (.int (p3 &&& (3 : Int32))), .val (.int p2), .unset] [(.int (((p2.toUInt32 >>> ((12 : Int32) &&& 31).toUInt32).toInt32) &&& (7 : Int32)))])) _
    refine XS.ifYes X0.here hx rfl (pc0 := 93) (pc' := 148) rfl (hb hby at_93) rfl ((if0 _ _).trans (feq hc93).2) (by decide) (by decide) ?_
    show Steps p.tables e below (s₁.setTop (mkF m 148 #[.val (.int p1), .val (.int p2), .val (.int p3), .val (.int (own_b p1)), .val (.int (p3 &&& (3 : Int32))), .val (.int p2), .unset] [])) _
    refine XS.iconst X0.here hx rfl (hb hby at_148) ?_
    show Steps p.tables e below (s₁.setTop (mkF m 149 #[.val (.int p1), .val (.int p2), .val (.int p3), .val (.int (own_b p1)), .val (.int (p3 &&& (3 : Int32))), .val (.int p2), .unset] [(.int (0 : Int32))])) _
    refine XS.istore X0.here hx rfl (hb hby at_149) rfl (l' := #[.val (.int p1), .val (.int p2), .val (.int p3), .val (.int (own_b p1)), .val (.int (p3 &&& (3 : Int32))), .val (.int p2), .val (.int (0 : Int32))]) rfl ?_
    show Steps p.tables e below (s₁.setTop (mkF m 151 #[.val (.int p1), .val (.int p2), .val (.int p3), .val (.int (own_b p1)), .val (.int (p3 &&& (3 : Int32))), .val (.int p2), .val (.int (0 : Int32))] [])) _
    refine XS.iloadN X0.here hx rfl (hb hby at_151) rfl ?_
    show Steps p.tables e below (s₁.setTop (mkF m 152 #[.val (.int p1), .val (.int p2), .val (.int p3), .val (.int (own_b p1)), .val (.int (p3 &&& (3 : Int32))), .val (.int p2), .val (.int (0 : Int32))] [(.int p1)])) _
    refine XS.iload X0.here hx rfl (hb hby at_152) rfl ?_
    show Steps p.tables e below (s₁.setTop (mkF m 154 #[.val (.int p1), .val (.int p2), .val (.int p3), .val (.int (own_b p1)), .val (.int (p3 &&& (3 : Int32))), .val (.int p2), .val (.int (0 : Int32))] [(.int p2), (.int p1)])) _
    refine st4 _ ?_
    show Steps p.tables e below (T4.setTop (mkF m 157 #[.val (.int p1), .val (.int p2), .val (.int p3), .val (.int (own_b p1)), .val (.int (p3 &&& (3 : Int32))), .val (.int p2), .val (.int (0 : Int32))] [(.int (val1 p1 p2))])) _
    refine XS.iload X4.here hx rfl (hb hby at_157) rfl ?_
    show Steps p.tables e below (T4.setTop (mkF m 159 #[.val (.int p1), .val (.int p2), .val (.int p3), .val (.int (own_b p1)), .val (.int (p3 &&& (3 : Int32))), .val (.int p2), .val (.int (0 : Int32))] [(.int (0 : Int32)), (.int (val1 p1 p2))])) _
    refine XS.icmpNo X4.here hx rfl (hb hby at_159) rfl (teq (by unfold val1; rw [if_neg (fun q => hc93 ((own_iff _ _).mp q).2.1)] : (val1 p1 p2) = (0 : Int32))).2 ?_
    show Steps p.tables e below (T4.setTop (mkF m 162 #[.val (.int p1), .val (.int p2), .val (.int p3), .val (.int (own_b p1)), .val (.int (p3 &&& (3 : Int32))), .val (.int p2), .val (.int (0 : Int32))] [])) _
    refine XS.iconst X4.here hx rfl (hb hby at_162) ?_
    show Steps p.tables e below (T4.setTop (mkF m 163 #[.val (.int p1), .val (.int p2), .val (.int p3), .val (.int (own_b p1)), .val (.int (p3 &&& (3 : Int32))), .val (.int p2), .val (.int (0 : Int32))] [(.int (1 : Int32))])) _
    refine XS.goto X4.here hx rfl (pc0 := 163) (pc' := 167) rfl (hb hby at_163) (by decide) (by decide) ?_
    show Steps p.tables e below (T4.setTop (mkF m 167 #[.val (.int p1), .val (.int p2), .val (.int p3), .val (.int (own_b p1)), .val (.int (p3 &&& (3 : Int32))), .val (.int p2), .val (.int (0 : Int32))] [(.int (1 : Int32))])) _
    exact retN X4 hx (t := .boolean) Bd.returns (by simp) (hb hby at_167) hr
  · show Q0 Z p1 p2 p3 h0 n0 _ T4.heap _
    exact ⟨rfl, N4⟩

set_option maxRecDepth 65536 in
set_option maxHeartbeats 40000000 in
theorem rm0_ffftf (l : Launch) (Z : State) (a0 : Array Value) (hw : ∀ d ∈ tables_1, d.before a0 Z = true) (ws : List Jvm.Cond) (p1 : Int32) (p2 : Int32) (p3 : Int32) (h0 : Heap) (n0 : Nat) (Z0 : n0 ≤ h0.size) (hc34 : (p3 &&& (3 : Int32)) = (0 : Int32)) (hc82 : ((p2.toUInt32 >>> ((18 : Int32) &&& 31).toUInt32).toInt32) = (0 : Int32)) (hc93 : (((p2.toUInt32 >>> ((12 : Int32) &&& 31).toUInt32).toInt32) &&& (7 : Int32)) = (0 : Int32)) (hc105 : ¬ ((p1 &&& (63 : Int32)) = (p2 &&& (63 : Int32)))) :
    MetFree l x (head1 (Jvm.Cond.code x code maxLocals ret :: ws) room_1) (fun a U => a = #[(.int p1), (.int p2), (.int p3)] ∧ Z.Warmed39 U.vm ∧ U.heap = h0) (fun _ _ _ _ _ => True) (fun _ U o U' => ∃ v L, o = .returned v ∧ Q0 Z p1 p2 p3 h0 n0 v U'.heap L ∧ FrameEnd U o U' L room_1.cells room_1.slots) := by
  refine MetFree.of_bodySF (plainFor_of_name pn_0) hisR ?_
  intro p e s m args below meth c s₁ Bd hml0 hP hK
  obtain ⟨rfl, hZ, hh⟩ := hP
  have hx := Bd.exec
  have hby := Bd.bytes
  have hml : c.maxLocals = 7 := hml0
  have hown : s.vm.findClass "touchmove/position/PackedMoveIsPinLaw" = some m.cls := findClass_of_methodNamed Bd.named
  have hnm := (name_of_methodNamed Bd.named Bd.method).1
  have X0 : Stand p l e room_1 s m #[(.int p1), (.int p2), (.int p3)] below meth c s₁ [] 0 0 := Stand.of_body Bd
  have e0 : s₁.heap = h0 := by rw [← hh, Bd.state]; rfl
  have N0 := Fr.nil n0
  have pre0 : ∀ t, Steps p.tables e below (s₁.setTop (mkF m 0 #[.val (.int p1), .val (.int p2), .val (.int p3), .unset, .unset, .unset, .unset] [])) t → Steps p.tables e below (s₁.setTop (entryFrame m #[(.int p1), (.int p2), (.int p3)] maxLocals)) t := fun t k => castTop (ef_0 m p1 p2 p3) k
  obtain ⟨_, _, ⟨T4, L4, k4, n4⟩, -, X4, ⟨Lc4, hQ4, l4, y4, z4⟩, st4⟩ := Jvm.LawKit.callS X0 hx (y := (⟨"touchmove/position/PackedMove", "is", "(II)Z"⟩ : MethodName)) hown (mvT hZ (hw _ (List.mem_of_getElem? (i := 0) rfl))) (mvT hZ (hw _ (List.mem_of_getElem? (i := 1) rfl))) (mvT hZ (hw _ (List.mem_of_getElem? (i := 2) rfl))) (mvT hZ (hw _ (List.mem_of_getElem? (i := 3) rfl))) (by decide) (backOf (W := 0) (rm1 l Z a0 hw [] p1 p2 h0 n0 Z0) hZ (hw _ (List.mem_of_getElem? (i := 3) rfl)) (hw _ (List.mem_of_getElem? (i := 2) rfl)) (by decide) (by decide)) (g := (mkF m 154 #[.val (.int p1), .val (.int p2), .val (.int p3), .val (.int (own_b p1)), .val (.int (p3 &&& (3 : Int32))), .val (.int p2), .val (.int (0 : Int32))] [(.int p2), (.int p1)])) rfl (by rw [hml]; rfl) (argsL := [(.int p1), (.int p2)]) (rest := []) (lenOf pd_0_0 rfl) rfl (by show 2 * 0 + _ ≤ _; exact Nat.le_of_eq rfl) (hb hby at_154) (fun _ _ => ⟨rfl, e0, (by decide : 0 + 0 ≤ _), (by decide : 0 + 0 ≤ _)⟩)
  dsimp only [Pt.U, Pt.locs, Pt.cells, Pt.slots] at X4 l4 y4 z4 st4 hQ4
  subst l4 y4 z4
  obtain ⟨rfl, N4q, w4⟩ := hQ4
  have N4 := Fr.app N0 N4q
  obtain ⟨fs, hr, hrun, hended, hW, hsame⟩ := X4.leave (v := some (.int (1 : Int32))) (fun h => by rw [Bd.returns] at h; cases h)
  refine ⟨_, _, pre0 _ ?_, hrun, hended, _, _, rfl, ?_, ⟨_, rfl⟩, hW, hsame.mono (by decide) (by decide)⟩
  · show Steps p.tables e below (s₁.setTop (mkF m 0 #[.val (.int p1), .val (.int p2), .val (.int p3), .unset, .unset, .unset, .unset] [])) _
    refine XS.iloadN X0.here hx rfl (hb hby at_0) rfl ?_
    show Steps p.tables e below (s₁.setTop (mkF m 1 #[.val (.int p1), .val (.int p2), .val (.int p3), .unset, .unset, .unset, .unset] [(.int p1)])) _
    refine XS.bipush X0.here hx rfl (hb hby at_1) ?_
    show Steps p.tables e below (s₁.setTop (mkF m 3 #[.val (.int p1), .val (.int p2), .val (.int p3), .unset, .unset, .unset, .unset] [(.int (63 : Int32)), (.int p1)])) _
    refine XS.iand X0.here hx rfl (hb hby at_3) rfl ?_
    show Steps p.tables e below (s₁.setTop (mkF m 4 #[.val (.int p1), .val (.int p2), .val (.int p3), .unset, .unset, .unset, .unset] [(.int (p1 &&& (63 : Int32)))])) _
    refine XS.iloadN X0.here hx rfl (hb hby at_4) rfl ?_
    show Steps p.tables e below (s₁.setTop (mkF m 5 #[.val (.int p1), .val (.int p2), .val (.int p3), .unset, .unset, .unset, .unset] [(.int p1), (.int (p1 &&& (63 : Int32)))])) _
    refine XS.bipush X0.here hx rfl (hb hby at_5) ?_
    show Steps p.tables e below (s₁.setTop (mkF m 7 #[.val (.int p1), .val (.int p2), .val (.int p3), .unset, .unset, .unset, .unset] [(.int (6 : Int32)), (.int p1), (.int (p1 &&& (63 : Int32)))])) _
    refine XS.iushr X0.here hx rfl (hb hby at_7) rfl ?_
    show Steps p.tables e below (s₁.setTop (mkF m 8 #[.val (.int p1), .val (.int p2), .val (.int p3), .unset, .unset, .unset, .unset] [(.int ((p1.toUInt32 >>> ((6 : Int32) &&& 31).toUInt32).toInt32)), (.int (p1 &&& (63 : Int32)))])) _
    refine XS.bipush X0.here hx rfl (hb hby at_8) ?_
    show Steps p.tables e below (s₁.setTop (mkF m 10 #[.val (.int p1), .val (.int p2), .val (.int p3), .unset, .unset, .unset, .unset] [(.int (63 : Int32)), (.int ((p1.toUInt32 >>> ((6 : Int32) &&& 31).toUInt32).toInt32)), (.int (p1 &&& (63 : Int32)))])) _
    refine XS.iand X0.here hx rfl (hb hby at_10) rfl ?_
    show Steps p.tables e below (s₁.setTop (mkF m 11 #[.val (.int p1), .val (.int p2), .val (.int p3), .unset, .unset, .unset, .unset] [(.int (((p1.toUInt32 >>> ((6 : Int32) &&& 31).toUInt32).toInt32) &&& (63 : Int32))), (.int (p1 &&& (63 : Int32)))])) _
    refine XS.bipush X0.here hx rfl (hb hby at_11) ?_
    show Steps p.tables e below (s₁.setTop (mkF m 13 #[.val (.int p1), .val (.int p2), .val (.int p3), .unset, .unset, .unset, .unset] [(.int (6 : Int32)), (.int (((p1.toUInt32 >>> ((6 : Int32) &&& 31).toUInt32).toInt32) &&& (63 : Int32))), (.int (p1 &&& (63 : Int32)))])) _
    refine XS.ishl X0.here hx rfl (hb hby at_13) rfl ?_
    show Steps p.tables e below (s₁.setTop (mkF m 14 #[.val (.int p1), .val (.int p2), .val (.int p3), .unset, .unset, .unset, .unset] [(.int ((((p1.toUInt32 >>> ((6 : Int32) &&& 31).toUInt32).toInt32) &&& (63 : Int32)) <<< ((6 : Int32) &&& 31))), (.int (p1 &&& (63 : Int32)))])) _
    refine XS.ior X0.here hx rfl (hb hby at_14) rfl ?_
    show Steps p.tables e below (s₁.setTop (mkF m 15 #[.val (.int p1), .val (.int p2), .val (.int p3), .unset, .unset, .unset, .unset] [(.int ((p1 &&& (63 : Int32)) ||| ((((p1.toUInt32 >>> ((6 : Int32) &&& 31).toUInt32).toInt32) &&& (63 : Int32)) <<< ((6 : Int32) &&& 31))))])) _
    refine XS.iloadN X0.here hx rfl (hb hby at_15) rfl ?_
    show Steps p.tables e below (s₁.setTop (mkF m 16 #[.val (.int p1), .val (.int p2), .val (.int p3), .unset, .unset, .unset, .unset] [(.int p1), (.int ((p1 &&& (63 : Int32)) ||| ((((p1.toUInt32 >>> ((6 : Int32) &&& 31).toUInt32).toInt32) &&& (63 : Int32)) <<< ((6 : Int32) &&& 31))))])) _
    refine XS.bipush X0.here hx rfl (hb hby at_16) ?_
    show Steps p.tables e below (s₁.setTop (mkF m 18 #[.val (.int p1), .val (.int p2), .val (.int p3), .unset, .unset, .unset, .unset] [(.int (15 : Int32)), (.int p1), (.int ((p1 &&& (63 : Int32)) ||| ((((p1.toUInt32 >>> ((6 : Int32) &&& 31).toUInt32).toInt32) &&& (63 : Int32)) <<< ((6 : Int32) &&& 31))))])) _
    refine XS.iushr X0.here hx rfl (hb hby at_18) rfl ?_
    show Steps p.tables e below (s₁.setTop (mkF m 19 #[.val (.int p1), .val (.int p2), .val (.int p3), .unset, .unset, .unset, .unset] [(.int ((p1.toUInt32 >>> ((15 : Int32) &&& 31).toUInt32).toInt32)), (.int ((p1 &&& (63 : Int32)) ||| ((((p1.toUInt32 >>> ((6 : Int32) &&& 31).toUInt32).toInt32) &&& (63 : Int32)) <<< ((6 : Int32) &&& 31))))])) _
    refine XS.bipush X0.here hx rfl (hb hby at_19) ?_
    show Steps p.tables e below (s₁.setTop (mkF m 21 #[.val (.int p1), .val (.int p2), .val (.int p3), .unset, .unset, .unset, .unset] [(.int (7 : Int32)), (.int ((p1.toUInt32 >>> ((15 : Int32) &&& 31).toUInt32).toInt32)), (.int ((p1 &&& (63 : Int32)) ||| ((((p1.toUInt32 >>> ((6 : Int32) &&& 31).toUInt32).toInt32) &&& (63 : Int32)) <<< ((6 : Int32) &&& 31))))])) _
    refine XS.iand X0.here hx rfl (hb hby at_21) rfl ?_
    show Steps p.tables e below (s₁.setTop (mkF m 22 #[.val (.int p1), .val (.int p2), .val (.int p3), .unset, .unset, .unset, .unset] [(.int (((p1.toUInt32 >>> ((15 : Int32) &&& 31).toUInt32).toInt32) &&& (7 : Int32))), (.int ((p1 &&& (63 : Int32)) ||| ((((p1.toUInt32 >>> ((6 : Int32) &&& 31).toUInt32).toInt32) &&& (63 : Int32)) <<< ((6 : Int32) &&& 31))))])) _
    refine XS.bipush X0.here hx rfl (hb hby at_22) ?_
    show Steps p.tables e below (s₁.setTop (mkF m 24 #[.val (.int p1), .val (.int p2), .val (.int p3), .unset, .unset, .unset, .unset] [(.int (15 : Int32)), (.int (((p1.toUInt32 >>> ((15 : Int32) &&& 31).toUInt32).toInt32) &&& (7 : Int32))), (.int ((p1 &&& (63 : Int32)) ||| ((((p1.toUInt32 >>> ((6 : Int32) &&& 31).toUInt32).toInt32) &&& (63 : Int32)) <<< ((6 : Int32) &&& 31))))])) _
    refine XS.ishl X0.here hx rfl (hb hby at_24) rfl ?_
    show Steps p.tables e below (s₁.setTop (mkF m 25 #[.val (.int p1), .val (.int p2), .val (.int p3), .unset, .unset, .unset, .unset] [(.int ((((p1.toUInt32 >>> ((15 : Int32) &&& 31).toUInt32).toInt32) &&& (7 : Int32)) <<< ((15 : Int32) &&& 31))), (.int ((p1 &&& (63 : Int32)) ||| ((((p1.toUInt32 >>> ((6 : Int32) &&& 31).toUInt32).toInt32) &&& (63 : Int32)) <<< ((6 : Int32) &&& 31))))])) _
    refine XS.ior X0.here hx rfl (hb hby at_25) rfl ?_
    show Steps p.tables e below (s₁.setTop (mkF m 26 #[.val (.int p1), .val (.int p2), .val (.int p3), .unset, .unset, .unset, .unset] [(.int (own_b p1))])) _
    refine XS.istoreN X0.here hx rfl (hb hby at_26) rfl (l' := #[.val (.int p1), .val (.int p2), .val (.int p3), .val (.int (own_b p1)), .unset, .unset, .unset]) rfl ?_
    show Steps p.tables e below (s₁.setTop (mkF m 27 #[.val (.int p1), .val (.int p2), .val (.int p3), .val (.int (own_b p1)), .unset, .unset, .unset] [])) _
    refine XS.iloadN X0.here hx rfl (hb hby at_27) rfl ?_
    show Steps p.tables e below (s₁.setTop (mkF m 28 #[.val (.int p1), .val (.int p2), .val (.int p3), .val (.int (own_b p1)), .unset, .unset, .unset] [(.int p3)])) _
    refine XS.iconst X0.here hx rfl (hb hby at_28) ?_
    show Steps p.tables e below (s₁.setTop (mkF m 29 #[.val (.int p1), .val (.int p2), .val (.int p3), .val (.int (own_b p1)), .unset, .unset, .unset] [(.int (3 : Int32)), (.int p3)])) _
    refine XS.iand X0.here hx rfl (hb hby at_29) rfl ?_
    show Steps p.tables e below (s₁.setTop (mkF m 30 #[.val (.int p1), .val (.int p2), .val (.int p3), .val (.int (own_b p1)), .unset, .unset, .unset] [(.int (p3 &&& (3 : Int32)))])) _
    refine XS.istore X0.here hx rfl (hb hby at_30) rfl (l' := #[.val (.int p1), .val (.int p2), .val (.int p3), .val (.int (own_b p1)), .val (.int (p3 &&& (3 : Int32))), .unset, .unset]) rfl ?_
    show Steps p.tables e below (s₁.setTop (mkF m 32 #[.val (.int p1), .val (.int p2), .val (.int p3), .val (.int (own_b p1)), .val (.int (p3 &&& (3 : Int32))), .unset, .unset] [])) _
    refine XS.iload X0.here hx rfl (hb hby at_32) rfl ?_
    show Steps p.tables e below (s₁.setTop (mkF m 34 #[.val (.int p1), .val (.int p2), .val (.int p3), .val (.int (own_b p1)), .val (.int (p3 &&& (3 : Int32))), .unset, .unset] [(.int (p3 &&& (3 : Int32)))])) _
    refine XS.ifNo X0.here hx rfl (hb hby at_34) rfl ((if0 _ _).trans (teq hc34).2) ?_
    show Steps p.tables e below (s₁.setTop (mkF m 37 #[.val (.int p1), .val (.int p2), .val (.int p3), .val (.int (own_b p1)), .val (.int (p3 &&& (3 : Int32))), .unset, .unset] [])) _
    refine XS.iloadN X0.here hx rfl (hb hby at_37) rfl ?_
    show Steps p.tables e below (s₁.setTop (mkF m 38 #[.val (.int p1), .val (.int p2), .val (.int p3), .val (.int (own_b p1)), .val (.int (p3 &&& (3 : Int32))), .unset, .unset] [(.int p2)])) _
    refine XS.istore X0.here hx rfl (hb hby at_38) rfl (l' := #[.val (.int p1), .val (.int p2), .val (.int p3), .val (.int (own_b p1)), .val (.int (p3 &&& (3 : Int32))), .val (.int p2), .unset]) rfl ?_
    show Steps p.tables e below (s₁.setTop (mkF m 40 #[.val (.int p1), .val (.int p2), .val (.int p3), .val (.int (own_b p1)), .val (.int (p3 &&& (3 : Int32))), .val (.int p2), .unset] [])) _
    refine XS.goto X0.here hx rfl (pc0 := 40) (pc' := 77) rfl (hb hby at_40) (by decide) (by decide) ?_
    show Steps p.tables e below (s₁.setTop (mkF m 77 #[.val (.int p1), .val (.int p2), .val (.int p3), .val (.int (own_b p1)), .val (.int (p3 &&& (3 : Int32))), .val (.int p2), .unset] [])) _
    refine XS.iload X0.here hx rfl (hb hby at_77) rfl ?_
    show Steps p.tables e below (s₁.setTop (mkF m 79 #[.val (.int p1), .val (.int p2), .val (.int p3), .val (.int (own_b p1)), .val (.int (p3 &&& (3 : Int32))), .val (.int p2), .unset] [(.int p2)])) _
    refine XS.bipush X0.here hx rfl (hb hby at_79) ?_
    show Steps p.tables e below (s₁.setTop (mkF m 81 #[.val (.int p1), .val (.int p2), .val (.int p3), .val (.int (own_b p1)), .val (.int (p3 &&& (3 : Int32))), .val (.int p2), .unset] [(.int (18 : Int32)), (.int p2)])) _
    refine XS.iushr X0.here hx rfl (hb hby at_81) rfl ?_
    show Steps p.tables e below (s₁.setTop (mkF m 82 #[.val (.int p1), .val (.int p2), .val (.int p3), .val (.int (own_b p1)), .val (.int (p3 &&& (3 : Int32))), .val (.int p2), .unset] [(.int ((p2.toUInt32 >>> ((18 : Int32) &&& 31).toUInt32).toInt32))])) _
    refine XS.ifNo X0.here hx rfl (hb hby at_82) rfl ((if0 _ _).trans (teq hc82).2) ?_
    show Steps p.tables e below (s₁.setTop (mkF m 85 #[.val (.int p1), .val (.int p2), .val (.int p3), .val (.int (own_b p1)), .val (.int (p3 &&& (3 : Int32))), .val (.int p2), .unset] [])) _
    refine XS.iload X0.here hx rfl (hb hby at_85) rfl ?_
    show Steps p.tables e below (s₁.setTop (mkF m 87 #[.val (.int p1), .val (.int p2), .val (.int p3), .val (.int (own_b p1)), .val (.int (p3 &&& (3 : Int32))), .val (.int p2), .unset] [(.int p2)])) _
    refine XS.bipush X0.here hx rfl (hb hby at_87) ?_
    show Steps p.tables e below (s₁.setTop (mkF m 89 #[.val (.int p1), .val (.int p2), .val (.int p3), .val (.int (own_b p1)), .val (.int (p3 &&& (3 : Int32))), .val (.int p2), .unset] [(.int (12 : Int32)), (.int p2)])) _
    refine XS.iushr X0.here hx rfl (hb hby at_89) rfl ?_
    show Steps p.tables e below (s₁.setTop (mkF m 90 #[.val (.int p1), .val (.int p2), .val (.int p3), .val (.int (own_b p1)), .val (.int (p3 &&& (3 : Int32))), .val (.int p2), .unset] [(.int ((p2.toUInt32 >>> ((12 : Int32) &&& 31).toUInt32).toInt32))])) _
    refine XS.bipush X0.here hx rfl (hb hby at_90) ?_
    show Steps p.tables e below (s₁.setTop (mkF m 92 #[.val (.int p1), .val (.int p2), .val (.int p3), .val (.int (own_b p1)), .val (.int (p3 &&& (3 : Int32))), .val (.int p2), .unset] [(.int (7 : Int32)), (.int ((p2.toUInt32 >>> ((12 : Int32) &&& 31).toUInt32).toInt32))])) _
    refine XS.iand X0.here hx rfl (hb hby at_92) rfl ?_
    show Steps p.tables e below (s₁.setTop (mkF m 93 #[.val (.int p1), .val (.int p2), .val (.int p3), .val (.int (own_b p1)), .val (.int (p3 &&& (3 : Int32))), .val (.int p2), .unset] [(.int (((p2.toUInt32 >>> ((12 : Int32) &&& 31).toUInt32).toInt32) &&& (7 : Int32)))])) _
    refine XS.ifNo X0.here hx rfl (hb hby at_93) rfl ((if0 _ _).trans (teq hc93).2) ?_
    show Steps p.tables e below (s₁.setTop (mkF m 96 #[.val (.int p1), .val (.int p2), .val (.int p3), .val (.int (own_b p1)), .val (.int (p3 &&& (3 : Int32))), .val (.int p2), .unset] [])) _
    refine XS.iloadN X0.here hx rfl (hb hby at_96) rfl ?_
    show Steps p.tables e below (s₁.setTop (mkF m 97 #[.val (.int p1), .val (.int p2), .val (.int p3), .val (.int (own_b p1)), .val (.int (p3 &&& (3 : Int32))), .val (.int p2), .unset] [(.int p1)])) _
    refine XS.bipush X0.here hx rfl (hb hby at_97) ?_
    show Steps p.tables e below (s₁.setTop (mkF m 99 #[.val (.int p1), .val (.int p2), .val (.int p3), .val (.int (own_b p1)), .val (.int (p3 &&& (3 : Int32))), .val (.int p2), .unset] [(.int (63 : Int32)), (.int p1)])) _
    refine XS.iand X0.here hx rfl (hb hby at_99) rfl ?_
    show Steps p.tables e below (s₁.setTop (mkF m 100 #[.val (.int p1), .val (.int p2), .val (.int p3), .val (.int (own_b p1)), .val (.int (p3 &&& (3 : Int32))), .val (.int p2), .unset] [(.int (p1 &&& (63 : Int32)))])) _
    refine XS.iload X0.here hx rfl (hb hby at_100) rfl ?_
    show Steps p.tables e below (s₁.setTop (mkF m 102 #[.val (.int p1), .val (.int p2), .val (.int p3), .val (.int (own_b p1)), .val (.int (p3 &&& (3 : Int32))), .val (.int p2), .unset] [(.int p2), (.int (p1 &&& (63 : Int32)))])) _
    refine XS.bipush X0.here hx rfl (hb hby at_102) ?_
    show Steps p.tables e below (s₁.setTop (mkF m 104 #[.val (.int p1), .val (.int p2), .val (.int p3), .val (.int (own_b p1)), .val (.int (p3 &&& (3 : Int32))), .val (.int p2), .unset] [(.int (63 : Int32)), (.int p2), (.int (p1 &&& (63 : Int32)))])) _
    refine XS.iand X0.here hx rfl (hb hby at_104) rfl ?_
    show Steps p.tables e below (s₁.setTop (mkF m 105 #[.val (.int p1), .val (.int p2), .val (.int p3), .val (.int (own_b p1)), .val (.int (p3 &&& (3 : Int32))), .val (.int p2), .unset] [(.int (p2 &&& (63 : Int32))), (.int (p1 &&& (63 : Int32)))])) _
    refine XS.icmpYes X0.here hx rfl (pc0 := 105) (pc' := 148) rfl (hb hby at_105) rfl (feq hc105).2 (by decide) (by decide) ?_
    show Steps p.tables e below (s₁.setTop (mkF m 148 #[.val (.int p1), .val (.int p2), .val (.int p3), .val (.int (own_b p1)), .val (.int (p3 &&& (3 : Int32))), .val (.int p2), .unset] [])) _
    refine XS.iconst X0.here hx rfl (hb hby at_148) ?_
    show Steps p.tables e below (s₁.setTop (mkF m 149 #[.val (.int p1), .val (.int p2), .val (.int p3), .val (.int (own_b p1)), .val (.int (p3 &&& (3 : Int32))), .val (.int p2), .unset] [(.int (0 : Int32))])) _
    refine XS.istore X0.here hx rfl (hb hby at_149) rfl (l' := #[.val (.int p1), .val (.int p2), .val (.int p3), .val (.int (own_b p1)), .val (.int (p3 &&& (3 : Int32))), .val (.int p2), .val (.int (0 : Int32))]) rfl ?_
    show Steps p.tables e below (s₁.setTop (mkF m 151 #[.val (.int p1), .val (.int p2), .val (.int p3), .val (.int (own_b p1)), .val (.int (p3 &&& (3 : Int32))), .val (.int p2), .val (.int (0 : Int32))] [])) _
    refine XS.iloadN X0.here hx rfl (hb hby at_151) rfl ?_
    show Steps p.tables e below (s₁.setTop (mkF m 152 #[.val (.int p1), .val (.int p2), .val (.int p3), .val (.int (own_b p1)), .val (.int (p3 &&& (3 : Int32))), .val (.int p2), .val (.int (0 : Int32))] [(.int p1)])) _
    refine XS.iload X0.here hx rfl (hb hby at_152) rfl ?_
    show Steps p.tables e below (s₁.setTop (mkF m 154 #[.val (.int p1), .val (.int p2), .val (.int p3), .val (.int (own_b p1)), .val (.int (p3 &&& (3 : Int32))), .val (.int p2), .val (.int (0 : Int32))] [(.int p2), (.int p1)])) _
    refine st4 _ ?_
    show Steps p.tables e below (T4.setTop (mkF m 157 #[.val (.int p1), .val (.int p2), .val (.int p3), .val (.int (own_b p1)), .val (.int (p3 &&& (3 : Int32))), .val (.int p2), .val (.int (0 : Int32))] [(.int (val1 p1 p2))])) _
    refine XS.iload X4.here hx rfl (hb hby at_157) rfl ?_
    show Steps p.tables e below (T4.setTop (mkF m 159 #[.val (.int p1), .val (.int p2), .val (.int p3), .val (.int (own_b p1)), .val (.int (p3 &&& (3 : Int32))), .val (.int p2), .val (.int (0 : Int32))] [(.int (0 : Int32)), (.int (val1 p1 p2))])) _
    refine XS.icmpNo X4.here hx rfl (hb hby at_159) rfl (teq (by unfold val1; rw [if_neg (fun q => hc105 ((own_iff _ _).mp q).2.2.1)] : (val1 p1 p2) = (0 : Int32))).2 ?_
    show Steps p.tables e below (T4.setTop (mkF m 162 #[.val (.int p1), .val (.int p2), .val (.int p3), .val (.int (own_b p1)), .val (.int (p3 &&& (3 : Int32))), .val (.int p2), .val (.int (0 : Int32))] [])) _
    refine XS.iconst X4.here hx rfl (hb hby at_162) ?_
    show Steps p.tables e below (T4.setTop (mkF m 163 #[.val (.int p1), .val (.int p2), .val (.int p3), .val (.int (own_b p1)), .val (.int (p3 &&& (3 : Int32))), .val (.int p2), .val (.int (0 : Int32))] [(.int (1 : Int32))])) _
    refine XS.goto X4.here hx rfl (pc0 := 163) (pc' := 167) rfl (hb hby at_163) (by decide) (by decide) ?_
    show Steps p.tables e below (T4.setTop (mkF m 167 #[.val (.int p1), .val (.int p2), .val (.int p3), .val (.int (own_b p1)), .val (.int (p3 &&& (3 : Int32))), .val (.int p2), .val (.int (0 : Int32))] [(.int (1 : Int32))])) _
    exact retN X4 hx (t := .boolean) Bd.returns (by simp) (hb hby at_167) hr
  · show Q0 Z p1 p2 p3 h0 n0 _ T4.heap _
    exact ⟨rfl, N4⟩

set_option maxRecDepth 65536 in
set_option maxHeartbeats 40000000 in
theorem rm0_fffftf (l : Launch) (Z : State) (a0 : Array Value) (hw : ∀ d ∈ tables_1, d.before a0 Z = true) (ws : List Jvm.Cond) (p1 : Int32) (p2 : Int32) (p3 : Int32) (h0 : Heap) (n0 : Nat) (Z0 : n0 ≤ h0.size) (hc34 : (p3 &&& (3 : Int32)) = (0 : Int32)) (hc82 : ((p2.toUInt32 >>> ((18 : Int32) &&& 31).toUInt32).toInt32) = (0 : Int32)) (hc93 : (((p2.toUInt32 >>> ((12 : Int32) &&& 31).toUInt32).toInt32) &&& (7 : Int32)) = (0 : Int32)) (hc105 : (p1 &&& (63 : Int32)) = (p2 &&& (63 : Int32))) (hc123 : ¬ ((((p1.toUInt32 >>> ((6 : Int32) &&& 31).toUInt32).toInt32) &&& (63 : Int32)) = (((p2.toUInt32 >>> ((6 : Int32) &&& 31).toUInt32).toInt32) &&& (63 : Int32)))) :
    MetFree l x (head1 (Jvm.Cond.code x code maxLocals ret :: ws) room_1) (fun a U => a = #[(.int p1), (.int p2), (.int p3)] ∧ Z.Warmed39 U.vm ∧ U.heap = h0) (fun _ _ _ _ _ => True) (fun _ U o U' => ∃ v L, o = .returned v ∧ Q0 Z p1 p2 p3 h0 n0 v U'.heap L ∧ FrameEnd U o U' L room_1.cells room_1.slots) := by
  refine MetFree.of_bodySF (plainFor_of_name pn_0) hisR ?_
  intro p e s m args below meth c s₁ Bd hml0 hP hK
  obtain ⟨rfl, hZ, hh⟩ := hP
  have hx := Bd.exec
  have hby := Bd.bytes
  have hml : c.maxLocals = 7 := hml0
  have hown : s.vm.findClass "touchmove/position/PackedMoveIsPinLaw" = some m.cls := findClass_of_methodNamed Bd.named
  have hnm := (name_of_methodNamed Bd.named Bd.method).1
  have X0 : Stand p l e room_1 s m #[(.int p1), (.int p2), (.int p3)] below meth c s₁ [] 0 0 := Stand.of_body Bd
  have e0 : s₁.heap = h0 := by rw [← hh, Bd.state]; rfl
  have N0 := Fr.nil n0
  have pre0 : ∀ t, Steps p.tables e below (s₁.setTop (mkF m 0 #[.val (.int p1), .val (.int p2), .val (.int p3), .unset, .unset, .unset, .unset] [])) t → Steps p.tables e below (s₁.setTop (entryFrame m #[(.int p1), (.int p2), (.int p3)] maxLocals)) t := fun t k => castTop (ef_0 m p1 p2 p3) k
  obtain ⟨_, _, ⟨T4, L4, k4, n4⟩, -, X4, ⟨Lc4, hQ4, l4, y4, z4⟩, st4⟩ := Jvm.LawKit.callS X0 hx (y := (⟨"touchmove/position/PackedMove", "is", "(II)Z"⟩ : MethodName)) hown (mvT hZ (hw _ (List.mem_of_getElem? (i := 0) rfl))) (mvT hZ (hw _ (List.mem_of_getElem? (i := 1) rfl))) (mvT hZ (hw _ (List.mem_of_getElem? (i := 2) rfl))) (mvT hZ (hw _ (List.mem_of_getElem? (i := 3) rfl))) (by decide) (backOf (W := 0) (rm1 l Z a0 hw [] p1 p2 h0 n0 Z0) hZ (hw _ (List.mem_of_getElem? (i := 3) rfl)) (hw _ (List.mem_of_getElem? (i := 2) rfl)) (by decide) (by decide)) (g := (mkF m 154 #[.val (.int p1), .val (.int p2), .val (.int p3), .val (.int (own_b p1)), .val (.int (p3 &&& (3 : Int32))), .val (.int p2), .val (.int (0 : Int32))] [(.int p2), (.int p1)])) rfl (by rw [hml]; rfl) (argsL := [(.int p1), (.int p2)]) (rest := []) (lenOf pd_0_0 rfl) rfl (by show 2 * 0 + _ ≤ _; exact Nat.le_of_eq rfl) (hb hby at_154) (fun _ _ => ⟨rfl, e0, (by decide : 0 + 0 ≤ _), (by decide : 0 + 0 ≤ _)⟩)
  dsimp only [Pt.U, Pt.locs, Pt.cells, Pt.slots] at X4 l4 y4 z4 st4 hQ4
  subst l4 y4 z4
  obtain ⟨rfl, N4q, w4⟩ := hQ4
  have N4 := Fr.app N0 N4q
  obtain ⟨fs, hr, hrun, hended, hW, hsame⟩ := X4.leave (v := some (.int (1 : Int32))) (fun h => by rw [Bd.returns] at h; cases h)
  refine ⟨_, _, pre0 _ ?_, hrun, hended, _, _, rfl, ?_, ⟨_, rfl⟩, hW, hsame.mono (by decide) (by decide)⟩
  · show Steps p.tables e below (s₁.setTop (mkF m 0 #[.val (.int p1), .val (.int p2), .val (.int p3), .unset, .unset, .unset, .unset] [])) _
    refine XS.iloadN X0.here hx rfl (hb hby at_0) rfl ?_
    show Steps p.tables e below (s₁.setTop (mkF m 1 #[.val (.int p1), .val (.int p2), .val (.int p3), .unset, .unset, .unset, .unset] [(.int p1)])) _
    refine XS.bipush X0.here hx rfl (hb hby at_1) ?_
    show Steps p.tables e below (s₁.setTop (mkF m 3 #[.val (.int p1), .val (.int p2), .val (.int p3), .unset, .unset, .unset, .unset] [(.int (63 : Int32)), (.int p1)])) _
    refine XS.iand X0.here hx rfl (hb hby at_3) rfl ?_
    show Steps p.tables e below (s₁.setTop (mkF m 4 #[.val (.int p1), .val (.int p2), .val (.int p3), .unset, .unset, .unset, .unset] [(.int (p1 &&& (63 : Int32)))])) _
    refine XS.iloadN X0.here hx rfl (hb hby at_4) rfl ?_
    show Steps p.tables e below (s₁.setTop (mkF m 5 #[.val (.int p1), .val (.int p2), .val (.int p3), .unset, .unset, .unset, .unset] [(.int p1), (.int (p1 &&& (63 : Int32)))])) _
    refine XS.bipush X0.here hx rfl (hb hby at_5) ?_
    show Steps p.tables e below (s₁.setTop (mkF m 7 #[.val (.int p1), .val (.int p2), .val (.int p3), .unset, .unset, .unset, .unset] [(.int (6 : Int32)), (.int p1), (.int (p1 &&& (63 : Int32)))])) _
    refine XS.iushr X0.here hx rfl (hb hby at_7) rfl ?_
    show Steps p.tables e below (s₁.setTop (mkF m 8 #[.val (.int p1), .val (.int p2), .val (.int p3), .unset, .unset, .unset, .unset] [(.int ((p1.toUInt32 >>> ((6 : Int32) &&& 31).toUInt32).toInt32)), (.int (p1 &&& (63 : Int32)))])) _
    refine XS.bipush X0.here hx rfl (hb hby at_8) ?_
    show Steps p.tables e below (s₁.setTop (mkF m 10 #[.val (.int p1), .val (.int p2), .val (.int p3), .unset, .unset, .unset, .unset] [(.int (63 : Int32)), (.int ((p1.toUInt32 >>> ((6 : Int32) &&& 31).toUInt32).toInt32)), (.int (p1 &&& (63 : Int32)))])) _
    refine XS.iand X0.here hx rfl (hb hby at_10) rfl ?_
    show Steps p.tables e below (s₁.setTop (mkF m 11 #[.val (.int p1), .val (.int p2), .val (.int p3), .unset, .unset, .unset, .unset] [(.int (((p1.toUInt32 >>> ((6 : Int32) &&& 31).toUInt32).toInt32) &&& (63 : Int32))), (.int (p1 &&& (63 : Int32)))])) _
    refine XS.bipush X0.here hx rfl (hb hby at_11) ?_
    show Steps p.tables e below (s₁.setTop (mkF m 13 #[.val (.int p1), .val (.int p2), .val (.int p3), .unset, .unset, .unset, .unset] [(.int (6 : Int32)), (.int (((p1.toUInt32 >>> ((6 : Int32) &&& 31).toUInt32).toInt32) &&& (63 : Int32))), (.int (p1 &&& (63 : Int32)))])) _
    refine XS.ishl X0.here hx rfl (hb hby at_13) rfl ?_
    show Steps p.tables e below (s₁.setTop (mkF m 14 #[.val (.int p1), .val (.int p2), .val (.int p3), .unset, .unset, .unset, .unset] [(.int ((((p1.toUInt32 >>> ((6 : Int32) &&& 31).toUInt32).toInt32) &&& (63 : Int32)) <<< ((6 : Int32) &&& 31))), (.int (p1 &&& (63 : Int32)))])) _
    refine XS.ior X0.here hx rfl (hb hby at_14) rfl ?_
    show Steps p.tables e below (s₁.setTop (mkF m 15 #[.val (.int p1), .val (.int p2), .val (.int p3), .unset, .unset, .unset, .unset] [(.int ((p1 &&& (63 : Int32)) ||| ((((p1.toUInt32 >>> ((6 : Int32) &&& 31).toUInt32).toInt32) &&& (63 : Int32)) <<< ((6 : Int32) &&& 31))))])) _
    refine XS.iloadN X0.here hx rfl (hb hby at_15) rfl ?_
    show Steps p.tables e below (s₁.setTop (mkF m 16 #[.val (.int p1), .val (.int p2), .val (.int p3), .unset, .unset, .unset, .unset] [(.int p1), (.int ((p1 &&& (63 : Int32)) ||| ((((p1.toUInt32 >>> ((6 : Int32) &&& 31).toUInt32).toInt32) &&& (63 : Int32)) <<< ((6 : Int32) &&& 31))))])) _
    refine XS.bipush X0.here hx rfl (hb hby at_16) ?_
    show Steps p.tables e below (s₁.setTop (mkF m 18 #[.val (.int p1), .val (.int p2), .val (.int p3), .unset, .unset, .unset, .unset] [(.int (15 : Int32)), (.int p1), (.int ((p1 &&& (63 : Int32)) ||| ((((p1.toUInt32 >>> ((6 : Int32) &&& 31).toUInt32).toInt32) &&& (63 : Int32)) <<< ((6 : Int32) &&& 31))))])) _
    refine XS.iushr X0.here hx rfl (hb hby at_18) rfl ?_
    show Steps p.tables e below (s₁.setTop (mkF m 19 #[.val (.int p1), .val (.int p2), .val (.int p3), .unset, .unset, .unset, .unset] [(.int ((p1.toUInt32 >>> ((15 : Int32) &&& 31).toUInt32).toInt32)), (.int ((p1 &&& (63 : Int32)) ||| ((((p1.toUInt32 >>> ((6 : Int32) &&& 31).toUInt32).toInt32) &&& (63 : Int32)) <<< ((6 : Int32) &&& 31))))])) _
    refine XS.bipush X0.here hx rfl (hb hby at_19) ?_
    show Steps p.tables e below (s₁.setTop (mkF m 21 #[.val (.int p1), .val (.int p2), .val (.int p3), .unset, .unset, .unset, .unset] [(.int (7 : Int32)), (.int ((p1.toUInt32 >>> ((15 : Int32) &&& 31).toUInt32).toInt32)), (.int ((p1 &&& (63 : Int32)) ||| ((((p1.toUInt32 >>> ((6 : Int32) &&& 31).toUInt32).toInt32) &&& (63 : Int32)) <<< ((6 : Int32) &&& 31))))])) _
    refine XS.iand X0.here hx rfl (hb hby at_21) rfl ?_
    show Steps p.tables e below (s₁.setTop (mkF m 22 #[.val (.int p1), .val (.int p2), .val (.int p3), .unset, .unset, .unset, .unset] [(.int (((p1.toUInt32 >>> ((15 : Int32) &&& 31).toUInt32).toInt32) &&& (7 : Int32))), (.int ((p1 &&& (63 : Int32)) ||| ((((p1.toUInt32 >>> ((6 : Int32) &&& 31).toUInt32).toInt32) &&& (63 : Int32)) <<< ((6 : Int32) &&& 31))))])) _
    refine XS.bipush X0.here hx rfl (hb hby at_22) ?_
    show Steps p.tables e below (s₁.setTop (mkF m 24 #[.val (.int p1), .val (.int p2), .val (.int p3), .unset, .unset, .unset, .unset] [(.int (15 : Int32)), (.int (((p1.toUInt32 >>> ((15 : Int32) &&& 31).toUInt32).toInt32) &&& (7 : Int32))), (.int ((p1 &&& (63 : Int32)) ||| ((((p1.toUInt32 >>> ((6 : Int32) &&& 31).toUInt32).toInt32) &&& (63 : Int32)) <<< ((6 : Int32) &&& 31))))])) _
    refine XS.ishl X0.here hx rfl (hb hby at_24) rfl ?_
    show Steps p.tables e below (s₁.setTop (mkF m 25 #[.val (.int p1), .val (.int p2), .val (.int p3), .unset, .unset, .unset, .unset] [(.int ((((p1.toUInt32 >>> ((15 : Int32) &&& 31).toUInt32).toInt32) &&& (7 : Int32)) <<< ((15 : Int32) &&& 31))), (.int ((p1 &&& (63 : Int32)) ||| ((((p1.toUInt32 >>> ((6 : Int32) &&& 31).toUInt32).toInt32) &&& (63 : Int32)) <<< ((6 : Int32) &&& 31))))])) _
    refine XS.ior X0.here hx rfl (hb hby at_25) rfl ?_
    show Steps p.tables e below (s₁.setTop (mkF m 26 #[.val (.int p1), .val (.int p2), .val (.int p3), .unset, .unset, .unset, .unset] [(.int (own_b p1))])) _
    refine XS.istoreN X0.here hx rfl (hb hby at_26) rfl (l' := #[.val (.int p1), .val (.int p2), .val (.int p3), .val (.int (own_b p1)), .unset, .unset, .unset]) rfl ?_
    show Steps p.tables e below (s₁.setTop (mkF m 27 #[.val (.int p1), .val (.int p2), .val (.int p3), .val (.int (own_b p1)), .unset, .unset, .unset] [])) _
    refine XS.iloadN X0.here hx rfl (hb hby at_27) rfl ?_
    show Steps p.tables e below (s₁.setTop (mkF m 28 #[.val (.int p1), .val (.int p2), .val (.int p3), .val (.int (own_b p1)), .unset, .unset, .unset] [(.int p3)])) _
    refine XS.iconst X0.here hx rfl (hb hby at_28) ?_
    show Steps p.tables e below (s₁.setTop (mkF m 29 #[.val (.int p1), .val (.int p2), .val (.int p3), .val (.int (own_b p1)), .unset, .unset, .unset] [(.int (3 : Int32)), (.int p3)])) _
    refine XS.iand X0.here hx rfl (hb hby at_29) rfl ?_
    show Steps p.tables e below (s₁.setTop (mkF m 30 #[.val (.int p1), .val (.int p2), .val (.int p3), .val (.int (own_b p1)), .unset, .unset, .unset] [(.int (p3 &&& (3 : Int32)))])) _
    refine XS.istore X0.here hx rfl (hb hby at_30) rfl (l' := #[.val (.int p1), .val (.int p2), .val (.int p3), .val (.int (own_b p1)), .val (.int (p3 &&& (3 : Int32))), .unset, .unset]) rfl ?_
    show Steps p.tables e below (s₁.setTop (mkF m 32 #[.val (.int p1), .val (.int p2), .val (.int p3), .val (.int (own_b p1)), .val (.int (p3 &&& (3 : Int32))), .unset, .unset] [])) _
    refine XS.iload X0.here hx rfl (hb hby at_32) rfl ?_
    show Steps p.tables e below (s₁.setTop (mkF m 34 #[.val (.int p1), .val (.int p2), .val (.int p3), .val (.int (own_b p1)), .val (.int (p3 &&& (3 : Int32))), .unset, .unset] [(.int (p3 &&& (3 : Int32)))])) _
    refine XS.ifNo X0.here hx rfl (hb hby at_34) rfl ((if0 _ _).trans (teq hc34).2) ?_
    show Steps p.tables e below (s₁.setTop (mkF m 37 #[.val (.int p1), .val (.int p2), .val (.int p3), .val (.int (own_b p1)), .val (.int (p3 &&& (3 : Int32))), .unset, .unset] [])) _
    refine XS.iloadN X0.here hx rfl (hb hby at_37) rfl ?_
    show Steps p.tables e below (s₁.setTop (mkF m 38 #[.val (.int p1), .val (.int p2), .val (.int p3), .val (.int (own_b p1)), .val (.int (p3 &&& (3 : Int32))), .unset, .unset] [(.int p2)])) _
    refine XS.istore X0.here hx rfl (hb hby at_38) rfl (l' := #[.val (.int p1), .val (.int p2), .val (.int p3), .val (.int (own_b p1)), .val (.int (p3 &&& (3 : Int32))), .val (.int p2), .unset]) rfl ?_
    show Steps p.tables e below (s₁.setTop (mkF m 40 #[.val (.int p1), .val (.int p2), .val (.int p3), .val (.int (own_b p1)), .val (.int (p3 &&& (3 : Int32))), .val (.int p2), .unset] [])) _
    refine XS.goto X0.here hx rfl (pc0 := 40) (pc' := 77) rfl (hb hby at_40) (by decide) (by decide) ?_
    show Steps p.tables e below (s₁.setTop (mkF m 77 #[.val (.int p1), .val (.int p2), .val (.int p3), .val (.int (own_b p1)), .val (.int (p3 &&& (3 : Int32))), .val (.int p2), .unset] [])) _
    refine XS.iload X0.here hx rfl (hb hby at_77) rfl ?_
    show Steps p.tables e below (s₁.setTop (mkF m 79 #[.val (.int p1), .val (.int p2), .val (.int p3), .val (.int (own_b p1)), .val (.int (p3 &&& (3 : Int32))), .val (.int p2), .unset] [(.int p2)])) _
    refine XS.bipush X0.here hx rfl (hb hby at_79) ?_
    show Steps p.tables e below (s₁.setTop (mkF m 81 #[.val (.int p1), .val (.int p2), .val (.int p3), .val (.int (own_b p1)), .val (.int (p3 &&& (3 : Int32))), .val (.int p2), .unset] [(.int (18 : Int32)), (.int p2)])) _
    refine XS.iushr X0.here hx rfl (hb hby at_81) rfl ?_
    show Steps p.tables e below (s₁.setTop (mkF m 82 #[.val (.int p1), .val (.int p2), .val (.int p3), .val (.int (own_b p1)), .val (.int (p3 &&& (3 : Int32))), .val (.int p2), .unset] [(.int ((p2.toUInt32 >>> ((18 : Int32) &&& 31).toUInt32).toInt32))])) _
    refine XS.ifNo X0.here hx rfl (hb hby at_82) rfl ((if0 _ _).trans (teq hc82).2) ?_
    show Steps p.tables e below (s₁.setTop (mkF m 85 #[.val (.int p1), .val (.int p2), .val (.int p3), .val (.int (own_b p1)), .val (.int (p3 &&& (3 : Int32))), .val (.int p2), .unset] [])) _
    refine XS.iload X0.here hx rfl (hb hby at_85) rfl ?_
    show Steps p.tables e below (s₁.setTop (mkF m 87 #[.val (.int p1), .val (.int p2), .val (.int p3), .val (.int (own_b p1)), .val (.int (p3 &&& (3 : Int32))), .val (.int p2), .unset] [(.int p2)])) _
    refine XS.bipush X0.here hx rfl (hb hby at_87) ?_
    show Steps p.tables e below (s₁.setTop (mkF m 89 #[.val (.int p1), .val (.int p2), .val (.int p3), .val (.int (own_b p1)), .val (.int (p3 &&& (3 : Int32))), .val (.int p2), .unset] [(.int (12 : Int32)), (.int p2)])) _
    refine XS.iushr X0.here hx rfl (hb hby at_89) rfl ?_
    show Steps p.tables e below (s₁.setTop (mkF m 90 #[.val (.int p1), .val (.int p2), .val (.int p3), .val (.int (own_b p1)), .val (.int (p3 &&& (3 : Int32))), .val (.int p2), .unset] [(.int ((p2.toUInt32 >>> ((12 : Int32) &&& 31).toUInt32).toInt32))])) _
    refine XS.bipush X0.here hx rfl (hb hby at_90) ?_
    show Steps p.tables e below (s₁.setTop (mkF m 92 #[.val (.int p1), .val (.int p2), .val (.int p3), .val (.int (own_b p1)), .val (.int (p3 &&& (3 : Int32))), .val (.int p2), .unset] [(.int (7 : Int32)), (.int ((p2.toUInt32 >>> ((12 : Int32) &&& 31).toUInt32).toInt32))])) _
    refine XS.iand X0.here hx rfl (hb hby at_92) rfl ?_
    show Steps p.tables e below (s₁.setTop (mkF m 93 #[.val (.int p1), .val (.int p2), .val (.int p3), .val (.int (own_b p1)), .val (.int (p3 &&& (3 : Int32))), .val (.int p2), .unset] [(.int (((p2.toUInt32 >>> ((12 : Int32) &&& 31).toUInt32).toInt32) &&& (7 : Int32)))])) _
    refine XS.ifNo X0.here hx rfl (hb hby at_93) rfl ((if0 _ _).trans (teq hc93).2) ?_
    show Steps p.tables e below (s₁.setTop (mkF m 96 #[.val (.int p1), .val (.int p2), .val (.int p3), .val (.int (own_b p1)), .val (.int (p3 &&& (3 : Int32))), .val (.int p2), .unset] [])) _
    refine XS.iloadN X0.here hx rfl (hb hby at_96) rfl ?_
    show Steps p.tables e below (s₁.setTop (mkF m 97 #[.val (.int p1), .val (.int p2), .val (.int p3), .val (.int (own_b p1)), .val (.int (p3 &&& (3 : Int32))), .val (.int p2), .unset] [(.int p1)])) _
    refine XS.bipush X0.here hx rfl (hb hby at_97) ?_
    show Steps p.tables e below (s₁.setTop (mkF m 99 #[.val (.int p1), .val (.int p2), .val (.int p3), .val (.int (own_b p1)), .val (.int (p3 &&& (3 : Int32))), .val (.int p2), .unset] [(.int (63 : Int32)), (.int p1)])) _
    refine XS.iand X0.here hx rfl (hb hby at_99) rfl ?_
    show Steps p.tables e below (s₁.setTop (mkF m 100 #[.val (.int p1), .val (.int p2), .val (.int p3), .val (.int (own_b p1)), .val (.int (p3 &&& (3 : Int32))), .val (.int p2), .unset] [(.int (p1 &&& (63 : Int32)))])) _
    refine XS.iload X0.here hx rfl (hb hby at_100) rfl ?_
    show Steps p.tables e below (s₁.setTop (mkF m 102 #[.val (.int p1), .val (.int p2), .val (.int p3), .val (.int (own_b p1)), .val (.int (p3 &&& (3 : Int32))), .val (.int p2), .unset] [(.int p2), (.int (p1 &&& (63 : Int32)))])) _
    refine XS.bipush X0.here hx rfl (hb hby at_102) ?_
    show Steps p.tables e below (s₁.setTop (mkF m 104 #[.val (.int p1), .val (.int p2), .val (.int p3), .val (.int (own_b p1)), .val (.int (p3 &&& (3 : Int32))), .val (.int p2), .unset] [(.int (63 : Int32)), (.int p2), (.int (p1 &&& (63 : Int32)))])) _
    refine XS.iand X0.here hx rfl (hb hby at_104) rfl ?_
    show Steps p.tables e below (s₁.setTop (mkF m 105 #[.val (.int p1), .val (.int p2), .val (.int p3), .val (.int (own_b p1)), .val (.int (p3 &&& (3 : Int32))), .val (.int p2), .unset] [(.int (p2 &&& (63 : Int32))), (.int (p1 &&& (63 : Int32)))])) _
    refine XS.icmpNo X0.here hx rfl (hb hby at_105) rfl (teq hc105).2 ?_
    show Steps p.tables e below (s₁.setTop (mkF m 108 #[.val (.int p1), .val (.int p2), .val (.int p3), .val (.int (own_b p1)), .val (.int (p3 &&& (3 : Int32))), .val (.int p2), .unset] [])) _
    refine XS.iloadN X0.here hx rfl (hb hby at_108) rfl ?_
    show Steps p.tables e below (s₁.setTop (mkF m 109 #[.val (.int p1), .val (.int p2), .val (.int p3), .val (.int (own_b p1)), .val (.int (p3 &&& (3 : Int32))), .val (.int p2), .unset] [(.int p1)])) _
    refine XS.bipush X0.here hx rfl (hb hby at_109) ?_
    show Steps p.tables e below (s₁.setTop (mkF m 111 #[.val (.int p1), .val (.int p2), .val (.int p3), .val (.int (own_b p1)), .val (.int (p3 &&& (3 : Int32))), .val (.int p2), .unset] [(.int (6 : Int32)), (.int p1)])) _
    refine XS.iushr X0.here hx rfl (hb hby at_111) rfl ?_
    show Steps p.tables e below (s₁.setTop (mkF m 112 #[.val (.int p1), .val (.int p2), .val (.int p3), .val (.int (own_b p1)), .val (.int (p3 &&& (3 : Int32))), .val (.int p2), .unset] [(.int ((p1.toUInt32 >>> ((6 : Int32) &&& 31).toUInt32).toInt32))])) _
    refine XS.bipush X0.here hx rfl (hb hby at_112) ?_
    show Steps p.tables e below (s₁.setTop (mkF m 114 #[.val (.int p1), .val (.int p2), .val (.int p3), .val (.int (own_b p1)), .val (.int (p3 &&& (3 : Int32))), .val (.int p2), .unset] [(.int (63 : Int32)), (.int ((p1.toUInt32 >>> ((6 : Int32) &&& 31).toUInt32).toInt32))])) _
    refine XS.iand X0.here hx rfl (hb hby at_114) rfl ?_
    show Steps p.tables e below (s₁.setTop (mkF m 115 #[.val (.int p1), .val (.int p2), .val (.int p3), .val (.int (own_b p1)), .val (.int (p3 &&& (3 : Int32))), .val (.int p2), .unset] [(.int (((p1.toUInt32 >>> ((6 : Int32) &&& 31).toUInt32).toInt32) &&& (63 : Int32)))])) _
    refine XS.iload X0.here hx rfl (hb hby at_115) rfl ?_
    show Steps p.tables e below (s₁.setTop (mkF m 117 #[.val (.int p1), .val (.int p2), .val (.int p3), .val (.int (own_b p1)), .val (.int (p3 &&& (3 : Int32))), .val (.int p2), .unset] [(.int p2), (.int (((p1.toUInt32 >>> ((6 : Int32) &&& 31).toUInt32).toInt32) &&& (63 : Int32)))])) _
    refine XS.bipush X0.here hx rfl (hb hby at_117) ?_
    show Steps p.tables e below (s₁.setTop (mkF m 119 #[.val (.int p1), .val (.int p2), .val (.int p3), .val (.int (own_b p1)), .val (.int (p3 &&& (3 : Int32))), .val (.int p2), .unset] [(.int (6 : Int32)), (.int p2), (.int (((p1.toUInt32 >>> ((6 : Int32) &&& 31).toUInt32).toInt32) &&& (63 : Int32)))])) _
    refine XS.iushr X0.here hx rfl (hb hby at_119) rfl ?_
    show Steps p.tables e below (s₁.setTop (mkF m 120 #[.val (.int p1), .val (.int p2), .val (.int p3), .val (.int (own_b p1)), .val (.int (p3 &&& (3 : Int32))), .val (.int p2), .unset] [(.int ((p2.toUInt32 >>> ((6 : Int32) &&& 31).toUInt32).toInt32)), (.int (((p1.toUInt32 >>> ((6 : Int32) &&& 31).toUInt32).toInt32) &&& (63 : Int32)))])) _
    refine XS.bipush X0.here hx rfl (hb hby at_120) ?_
    show Steps p.tables e below (s₁.setTop (mkF m 122 #[.val (.int p1), .val (.int p2), .val (.int p3), .val (.int (own_b p1)), .val (.int (p3 &&& (3 : Int32))), .val (.int p2), .unset] [(.int (63 : Int32)), (.int ((p2.toUInt32 >>> ((6 : Int32) &&& 31).toUInt32).toInt32)), (.int (((p1.toUInt32 >>> ((6 : Int32) &&& 31).toUInt32).toInt32) &&& (63 : Int32)))])) _
    refine XS.iand X0.here hx rfl (hb hby at_122) rfl ?_
    show Steps p.tables e below (s₁.setTop (mkF m 123 #[.val (.int p1), .val (.int p2), .val (.int p3), .val (.int (own_b p1)), .val (.int (p3 &&& (3 : Int32))), .val (.int p2), .unset] [(.int (((p2.toUInt32 >>> ((6 : Int32) &&& 31).toUInt32).toInt32) &&& (63 : Int32))), (.int (((p1.toUInt32 >>> ((6 : Int32) &&& 31).toUInt32).toInt32) &&& (63 : Int32)))])) _
    refine XS.icmpYes X0.here hx rfl (pc0 := 123) (pc' := 148) rfl (hb hby at_123) rfl (feq hc123).2 (by decide) (by decide) ?_
    show Steps p.tables e below (s₁.setTop (mkF m 148 #[.val (.int p1), .val (.int p2), .val (.int p3), .val (.int (own_b p1)), .val (.int (p3 &&& (3 : Int32))), .val (.int p2), .unset] [])) _
    refine XS.iconst X0.here hx rfl (hb hby at_148) ?_
    show Steps p.tables e below (s₁.setTop (mkF m 149 #[.val (.int p1), .val (.int p2), .val (.int p3), .val (.int (own_b p1)), .val (.int (p3 &&& (3 : Int32))), .val (.int p2), .unset] [(.int (0 : Int32))])) _
    refine XS.istore X0.here hx rfl (hb hby at_149) rfl (l' := #[.val (.int p1), .val (.int p2), .val (.int p3), .val (.int (own_b p1)), .val (.int (p3 &&& (3 : Int32))), .val (.int p2), .val (.int (0 : Int32))]) rfl ?_
    show Steps p.tables e below (s₁.setTop (mkF m 151 #[.val (.int p1), .val (.int p2), .val (.int p3), .val (.int (own_b p1)), .val (.int (p3 &&& (3 : Int32))), .val (.int p2), .val (.int (0 : Int32))] [])) _
    refine XS.iloadN X0.here hx rfl (hb hby at_151) rfl ?_
    show Steps p.tables e below (s₁.setTop (mkF m 152 #[.val (.int p1), .val (.int p2), .val (.int p3), .val (.int (own_b p1)), .val (.int (p3 &&& (3 : Int32))), .val (.int p2), .val (.int (0 : Int32))] [(.int p1)])) _
    refine XS.iload X0.here hx rfl (hb hby at_152) rfl ?_
    show Steps p.tables e below (s₁.setTop (mkF m 154 #[.val (.int p1), .val (.int p2), .val (.int p3), .val (.int (own_b p1)), .val (.int (p3 &&& (3 : Int32))), .val (.int p2), .val (.int (0 : Int32))] [(.int p2), (.int p1)])) _
    refine st4 _ ?_
    show Steps p.tables e below (T4.setTop (mkF m 157 #[.val (.int p1), .val (.int p2), .val (.int p3), .val (.int (own_b p1)), .val (.int (p3 &&& (3 : Int32))), .val (.int p2), .val (.int (0 : Int32))] [(.int (val1 p1 p2))])) _
    refine XS.iload X4.here hx rfl (hb hby at_157) rfl ?_
    show Steps p.tables e below (T4.setTop (mkF m 159 #[.val (.int p1), .val (.int p2), .val (.int p3), .val (.int (own_b p1)), .val (.int (p3 &&& (3 : Int32))), .val (.int p2), .val (.int (0 : Int32))] [(.int (0 : Int32)), (.int (val1 p1 p2))])) _
    refine XS.icmpNo X4.here hx rfl (hb hby at_159) rfl (teq (by unfold val1; rw [if_neg (fun q => hc123 ((own_iff _ _).mp q).2.2.2.1)] : (val1 p1 p2) = (0 : Int32))).2 ?_
    show Steps p.tables e below (T4.setTop (mkF m 162 #[.val (.int p1), .val (.int p2), .val (.int p3), .val (.int (own_b p1)), .val (.int (p3 &&& (3 : Int32))), .val (.int p2), .val (.int (0 : Int32))] [])) _
    refine XS.iconst X4.here hx rfl (hb hby at_162) ?_
    show Steps p.tables e below (T4.setTop (mkF m 163 #[.val (.int p1), .val (.int p2), .val (.int p3), .val (.int (own_b p1)), .val (.int (p3 &&& (3 : Int32))), .val (.int p2), .val (.int (0 : Int32))] [(.int (1 : Int32))])) _
    refine XS.goto X4.here hx rfl (pc0 := 163) (pc' := 167) rfl (hb hby at_163) (by decide) (by decide) ?_
    show Steps p.tables e below (T4.setTop (mkF m 167 #[.val (.int p1), .val (.int p2), .val (.int p3), .val (.int (own_b p1)), .val (.int (p3 &&& (3 : Int32))), .val (.int p2), .val (.int (0 : Int32))] [(.int (1 : Int32))])) _
    exact retN X4 hx (t := .boolean) Bd.returns (by simp) (hb hby at_167) hr
  · show Q0 Z p1 p2 p3 h0 n0 _ T4.heap _
    exact ⟨rfl, N4⟩

set_option maxRecDepth 65536 in
set_option maxHeartbeats 40000000 in
theorem rm0_ffffftf (l : Launch) (Z : State) (a0 : Array Value) (hw : ∀ d ∈ tables_1, d.before a0 Z = true) (ws : List Jvm.Cond) (p1 : Int32) (p2 : Int32) (p3 : Int32) (h0 : Heap) (n0 : Nat) (Z0 : n0 ≤ h0.size) (hc34 : (p3 &&& (3 : Int32)) = (0 : Int32)) (hc82 : ((p2.toUInt32 >>> ((18 : Int32) &&& 31).toUInt32).toInt32) = (0 : Int32)) (hc93 : (((p2.toUInt32 >>> ((12 : Int32) &&& 31).toUInt32).toInt32) &&& (7 : Int32)) = (0 : Int32)) (hc105 : (p1 &&& (63 : Int32)) = (p2 &&& (63 : Int32))) (hc123 : (((p1.toUInt32 >>> ((6 : Int32) &&& 31).toUInt32).toInt32) &&& (63 : Int32)) = (((p2.toUInt32 >>> ((6 : Int32) &&& 31).toUInt32).toInt32) &&& (63 : Int32))) (hc141 : ¬ ((((p1.toUInt32 >>> ((15 : Int32) &&& 31).toUInt32).toInt32) &&& (7 : Int32)) = (((p2.toUInt32 >>> ((15 : Int32) &&& 31).toUInt32).toInt32) &&& (7 : Int32)))) :
    MetFree l x (head1 (Jvm.Cond.code x code maxLocals ret :: ws) room_1) (fun a U => a = #[(.int p1), (.int p2), (.int p3)] ∧ Z.Warmed39 U.vm ∧ U.heap = h0) (fun _ _ _ _ _ => True) (fun _ U o U' => ∃ v L, o = .returned v ∧ Q0 Z p1 p2 p3 h0 n0 v U'.heap L ∧ FrameEnd U o U' L room_1.cells room_1.slots) := by
  refine MetFree.of_bodySF (plainFor_of_name pn_0) hisR ?_
  intro p e s m args below meth c s₁ Bd hml0 hP hK
  obtain ⟨rfl, hZ, hh⟩ := hP
  have hx := Bd.exec
  have hby := Bd.bytes
  have hml : c.maxLocals = 7 := hml0
  have hown : s.vm.findClass "touchmove/position/PackedMoveIsPinLaw" = some m.cls := findClass_of_methodNamed Bd.named
  have hnm := (name_of_methodNamed Bd.named Bd.method).1
  have X0 : Stand p l e room_1 s m #[(.int p1), (.int p2), (.int p3)] below meth c s₁ [] 0 0 := Stand.of_body Bd
  have e0 : s₁.heap = h0 := by rw [← hh, Bd.state]; rfl
  have N0 := Fr.nil n0
  have pre0 : ∀ t, Steps p.tables e below (s₁.setTop (mkF m 0 #[.val (.int p1), .val (.int p2), .val (.int p3), .unset, .unset, .unset, .unset] [])) t → Steps p.tables e below (s₁.setTop (entryFrame m #[(.int p1), (.int p2), (.int p3)] maxLocals)) t := fun t k => castTop (ef_0 m p1 p2 p3) k
  obtain ⟨_, _, ⟨T4, L4, k4, n4⟩, -, X4, ⟨Lc4, hQ4, l4, y4, z4⟩, st4⟩ := Jvm.LawKit.callS X0 hx (y := (⟨"touchmove/position/PackedMove", "is", "(II)Z"⟩ : MethodName)) hown (mvT hZ (hw _ (List.mem_of_getElem? (i := 0) rfl))) (mvT hZ (hw _ (List.mem_of_getElem? (i := 1) rfl))) (mvT hZ (hw _ (List.mem_of_getElem? (i := 2) rfl))) (mvT hZ (hw _ (List.mem_of_getElem? (i := 3) rfl))) (by decide) (backOf (W := 0) (rm1 l Z a0 hw [] p1 p2 h0 n0 Z0) hZ (hw _ (List.mem_of_getElem? (i := 3) rfl)) (hw _ (List.mem_of_getElem? (i := 2) rfl)) (by decide) (by decide)) (g := (mkF m 154 #[.val (.int p1), .val (.int p2), .val (.int p3), .val (.int (own_b p1)), .val (.int (p3 &&& (3 : Int32))), .val (.int p2), .val (.int (0 : Int32))] [(.int p2), (.int p1)])) rfl (by rw [hml]; rfl) (argsL := [(.int p1), (.int p2)]) (rest := []) (lenOf pd_0_0 rfl) rfl (by show 2 * 0 + _ ≤ _; exact Nat.le_of_eq rfl) (hb hby at_154) (fun _ _ => ⟨rfl, e0, (by decide : 0 + 0 ≤ _), (by decide : 0 + 0 ≤ _)⟩)
  dsimp only [Pt.U, Pt.locs, Pt.cells, Pt.slots] at X4 l4 y4 z4 st4 hQ4
  subst l4 y4 z4
  obtain ⟨rfl, N4q, w4⟩ := hQ4
  have N4 := Fr.app N0 N4q
  obtain ⟨fs, hr, hrun, hended, hW, hsame⟩ := X4.leave (v := some (.int (1 : Int32))) (fun h => by rw [Bd.returns] at h; cases h)
  refine ⟨_, _, pre0 _ ?_, hrun, hended, _, _, rfl, ?_, ⟨_, rfl⟩, hW, hsame.mono (by decide) (by decide)⟩
  · show Steps p.tables e below (s₁.setTop (mkF m 0 #[.val (.int p1), .val (.int p2), .val (.int p3), .unset, .unset, .unset, .unset] [])) _
    refine XS.iloadN X0.here hx rfl (hb hby at_0) rfl ?_
    show Steps p.tables e below (s₁.setTop (mkF m 1 #[.val (.int p1), .val (.int p2), .val (.int p3), .unset, .unset, .unset, .unset] [(.int p1)])) _
    refine XS.bipush X0.here hx rfl (hb hby at_1) ?_
    show Steps p.tables e below (s₁.setTop (mkF m 3 #[.val (.int p1), .val (.int p2), .val (.int p3), .unset, .unset, .unset, .unset] [(.int (63 : Int32)), (.int p1)])) _
    refine XS.iand X0.here hx rfl (hb hby at_3) rfl ?_
    show Steps p.tables e below (s₁.setTop (mkF m 4 #[.val (.int p1), .val (.int p2), .val (.int p3), .unset, .unset, .unset, .unset] [(.int (p1 &&& (63 : Int32)))])) _
    refine XS.iloadN X0.here hx rfl (hb hby at_4) rfl ?_
    show Steps p.tables e below (s₁.setTop (mkF m 5 #[.val (.int p1), .val (.int p2), .val (.int p3), .unset, .unset, .unset, .unset] [(.int p1), (.int (p1 &&& (63 : Int32)))])) _
    refine XS.bipush X0.here hx rfl (hb hby at_5) ?_
    show Steps p.tables e below (s₁.setTop (mkF m 7 #[.val (.int p1), .val (.int p2), .val (.int p3), .unset, .unset, .unset, .unset] [(.int (6 : Int32)), (.int p1), (.int (p1 &&& (63 : Int32)))])) _
    refine XS.iushr X0.here hx rfl (hb hby at_7) rfl ?_
    show Steps p.tables e below (s₁.setTop (mkF m 8 #[.val (.int p1), .val (.int p2), .val (.int p3), .unset, .unset, .unset, .unset] [(.int ((p1.toUInt32 >>> ((6 : Int32) &&& 31).toUInt32).toInt32)), (.int (p1 &&& (63 : Int32)))])) _
    refine XS.bipush X0.here hx rfl (hb hby at_8) ?_
    show Steps p.tables e below (s₁.setTop (mkF m 10 #[.val (.int p1), .val (.int p2), .val (.int p3), .unset, .unset, .unset, .unset] [(.int (63 : Int32)), (.int ((p1.toUInt32 >>> ((6 : Int32) &&& 31).toUInt32).toInt32)), (.int (p1 &&& (63 : Int32)))])) _
    refine XS.iand X0.here hx rfl (hb hby at_10) rfl ?_
    show Steps p.tables e below (s₁.setTop (mkF m 11 #[.val (.int p1), .val (.int p2), .val (.int p3), .unset, .unset, .unset, .unset] [(.int (((p1.toUInt32 >>> ((6 : Int32) &&& 31).toUInt32).toInt32) &&& (63 : Int32))), (.int (p1 &&& (63 : Int32)))])) _
    refine XS.bipush X0.here hx rfl (hb hby at_11) ?_
    show Steps p.tables e below (s₁.setTop (mkF m 13 #[.val (.int p1), .val (.int p2), .val (.int p3), .unset, .unset, .unset, .unset] [(.int (6 : Int32)), (.int (((p1.toUInt32 >>> ((6 : Int32) &&& 31).toUInt32).toInt32) &&& (63 : Int32))), (.int (p1 &&& (63 : Int32)))])) _
    refine XS.ishl X0.here hx rfl (hb hby at_13) rfl ?_
    show Steps p.tables e below (s₁.setTop (mkF m 14 #[.val (.int p1), .val (.int p2), .val (.int p3), .unset, .unset, .unset, .unset] [(.int ((((p1.toUInt32 >>> ((6 : Int32) &&& 31).toUInt32).toInt32) &&& (63 : Int32)) <<< ((6 : Int32) &&& 31))), (.int (p1 &&& (63 : Int32)))])) _
    refine XS.ior X0.here hx rfl (hb hby at_14) rfl ?_
    show Steps p.tables e below (s₁.setTop (mkF m 15 #[.val (.int p1), .val (.int p2), .val (.int p3), .unset, .unset, .unset, .unset] [(.int ((p1 &&& (63 : Int32)) ||| ((((p1.toUInt32 >>> ((6 : Int32) &&& 31).toUInt32).toInt32) &&& (63 : Int32)) <<< ((6 : Int32) &&& 31))))])) _
    refine XS.iloadN X0.here hx rfl (hb hby at_15) rfl ?_
    show Steps p.tables e below (s₁.setTop (mkF m 16 #[.val (.int p1), .val (.int p2), .val (.int p3), .unset, .unset, .unset, .unset] [(.int p1), (.int ((p1 &&& (63 : Int32)) ||| ((((p1.toUInt32 >>> ((6 : Int32) &&& 31).toUInt32).toInt32) &&& (63 : Int32)) <<< ((6 : Int32) &&& 31))))])) _
    refine XS.bipush X0.here hx rfl (hb hby at_16) ?_
    show Steps p.tables e below (s₁.setTop (mkF m 18 #[.val (.int p1), .val (.int p2), .val (.int p3), .unset, .unset, .unset, .unset] [(.int (15 : Int32)), (.int p1), (.int ((p1 &&& (63 : Int32)) ||| ((((p1.toUInt32 >>> ((6 : Int32) &&& 31).toUInt32).toInt32) &&& (63 : Int32)) <<< ((6 : Int32) &&& 31))))])) _
    refine XS.iushr X0.here hx rfl (hb hby at_18) rfl ?_
    show Steps p.tables e below (s₁.setTop (mkF m 19 #[.val (.int p1), .val (.int p2), .val (.int p3), .unset, .unset, .unset, .unset] [(.int ((p1.toUInt32 >>> ((15 : Int32) &&& 31).toUInt32).toInt32)), (.int ((p1 &&& (63 : Int32)) ||| ((((p1.toUInt32 >>> ((6 : Int32) &&& 31).toUInt32).toInt32) &&& (63 : Int32)) <<< ((6 : Int32) &&& 31))))])) _
    refine XS.bipush X0.here hx rfl (hb hby at_19) ?_
    show Steps p.tables e below (s₁.setTop (mkF m 21 #[.val (.int p1), .val (.int p2), .val (.int p3), .unset, .unset, .unset, .unset] [(.int (7 : Int32)), (.int ((p1.toUInt32 >>> ((15 : Int32) &&& 31).toUInt32).toInt32)), (.int ((p1 &&& (63 : Int32)) ||| ((((p1.toUInt32 >>> ((6 : Int32) &&& 31).toUInt32).toInt32) &&& (63 : Int32)) <<< ((6 : Int32) &&& 31))))])) _
    refine XS.iand X0.here hx rfl (hb hby at_21) rfl ?_
    show Steps p.tables e below (s₁.setTop (mkF m 22 #[.val (.int p1), .val (.int p2), .val (.int p3), .unset, .unset, .unset, .unset] [(.int (((p1.toUInt32 >>> ((15 : Int32) &&& 31).toUInt32).toInt32) &&& (7 : Int32))), (.int ((p1 &&& (63 : Int32)) ||| ((((p1.toUInt32 >>> ((6 : Int32) &&& 31).toUInt32).toInt32) &&& (63 : Int32)) <<< ((6 : Int32) &&& 31))))])) _
    refine XS.bipush X0.here hx rfl (hb hby at_22) ?_
    show Steps p.tables e below (s₁.setTop (mkF m 24 #[.val (.int p1), .val (.int p2), .val (.int p3), .unset, .unset, .unset, .unset] [(.int (15 : Int32)), (.int (((p1.toUInt32 >>> ((15 : Int32) &&& 31).toUInt32).toInt32) &&& (7 : Int32))), (.int ((p1 &&& (63 : Int32)) ||| ((((p1.toUInt32 >>> ((6 : Int32) &&& 31).toUInt32).toInt32) &&& (63 : Int32)) <<< ((6 : Int32) &&& 31))))])) _
    refine XS.ishl X0.here hx rfl (hb hby at_24) rfl ?_
    show Steps p.tables e below (s₁.setTop (mkF m 25 #[.val (.int p1), .val (.int p2), .val (.int p3), .unset, .unset, .unset, .unset] [(.int ((((p1.toUInt32 >>> ((15 : Int32) &&& 31).toUInt32).toInt32) &&& (7 : Int32)) <<< ((15 : Int32) &&& 31))), (.int ((p1 &&& (63 : Int32)) ||| ((((p1.toUInt32 >>> ((6 : Int32) &&& 31).toUInt32).toInt32) &&& (63 : Int32)) <<< ((6 : Int32) &&& 31))))])) _
    refine XS.ior X0.here hx rfl (hb hby at_25) rfl ?_
    show Steps p.tables e below (s₁.setTop (mkF m 26 #[.val (.int p1), .val (.int p2), .val (.int p3), .unset, .unset, .unset, .unset] [(.int (own_b p1))])) _
    refine XS.istoreN X0.here hx rfl (hb hby at_26) rfl (l' := #[.val (.int p1), .val (.int p2), .val (.int p3), .val (.int (own_b p1)), .unset, .unset, .unset]) rfl ?_
    show Steps p.tables e below (s₁.setTop (mkF m 27 #[.val (.int p1), .val (.int p2), .val (.int p3), .val (.int (own_b p1)), .unset, .unset, .unset] [])) _
    refine XS.iloadN X0.here hx rfl (hb hby at_27) rfl ?_
    show Steps p.tables e below (s₁.setTop (mkF m 28 #[.val (.int p1), .val (.int p2), .val (.int p3), .val (.int (own_b p1)), .unset, .unset, .unset] [(.int p3)])) _
    refine XS.iconst X0.here hx rfl (hb hby at_28) ?_
    show Steps p.tables e below (s₁.setTop (mkF m 29 #[.val (.int p1), .val (.int p2), .val (.int p3), .val (.int (own_b p1)), .unset, .unset, .unset] [(.int (3 : Int32)), (.int p3)])) _
    refine XS.iand X0.here hx rfl (hb hby at_29) rfl ?_
    show Steps p.tables e below (s₁.setTop (mkF m 30 #[.val (.int p1), .val (.int p2), .val (.int p3), .val (.int (own_b p1)), .unset, .unset, .unset] [(.int (p3 &&& (3 : Int32)))])) _
    refine XS.istore X0.here hx rfl (hb hby at_30) rfl (l' := #[.val (.int p1), .val (.int p2), .val (.int p3), .val (.int (own_b p1)), .val (.int (p3 &&& (3 : Int32))), .unset, .unset]) rfl ?_
    show Steps p.tables e below (s₁.setTop (mkF m 32 #[.val (.int p1), .val (.int p2), .val (.int p3), .val (.int (own_b p1)), .val (.int (p3 &&& (3 : Int32))), .unset, .unset] [])) _
    refine XS.iload X0.here hx rfl (hb hby at_32) rfl ?_
    show Steps p.tables e below (s₁.setTop (mkF m 34 #[.val (.int p1), .val (.int p2), .val (.int p3), .val (.int (own_b p1)), .val (.int (p3 &&& (3 : Int32))), .unset, .unset] [(.int (p3 &&& (3 : Int32)))])) _
    refine XS.ifNo X0.here hx rfl (hb hby at_34) rfl ((if0 _ _).trans (teq hc34).2) ?_
    show Steps p.tables e below (s₁.setTop (mkF m 37 #[.val (.int p1), .val (.int p2), .val (.int p3), .val (.int (own_b p1)), .val (.int (p3 &&& (3 : Int32))), .unset, .unset] [])) _
    refine XS.iloadN X0.here hx rfl (hb hby at_37) rfl ?_
    show Steps p.tables e below (s₁.setTop (mkF m 38 #[.val (.int p1), .val (.int p2), .val (.int p3), .val (.int (own_b p1)), .val (.int (p3 &&& (3 : Int32))), .unset, .unset] [(.int p2)])) _
    refine XS.istore X0.here hx rfl (hb hby at_38) rfl (l' := #[.val (.int p1), .val (.int p2), .val (.int p3), .val (.int (own_b p1)), .val (.int (p3 &&& (3 : Int32))), .val (.int p2), .unset]) rfl ?_
    show Steps p.tables e below (s₁.setTop (mkF m 40 #[.val (.int p1), .val (.int p2), .val (.int p3), .val (.int (own_b p1)), .val (.int (p3 &&& (3 : Int32))), .val (.int p2), .unset] [])) _
    refine XS.goto X0.here hx rfl (pc0 := 40) (pc' := 77) rfl (hb hby at_40) (by decide) (by decide) ?_
    show Steps p.tables e below (s₁.setTop (mkF m 77 #[.val (.int p1), .val (.int p2), .val (.int p3), .val (.int (own_b p1)), .val (.int (p3 &&& (3 : Int32))), .val (.int p2), .unset] [])) _
    refine XS.iload X0.here hx rfl (hb hby at_77) rfl ?_
    show Steps p.tables e below (s₁.setTop (mkF m 79 #[.val (.int p1), .val (.int p2), .val (.int p3), .val (.int (own_b p1)), .val (.int (p3 &&& (3 : Int32))), .val (.int p2), .unset] [(.int p2)])) _
    refine XS.bipush X0.here hx rfl (hb hby at_79) ?_
    show Steps p.tables e below (s₁.setTop (mkF m 81 #[.val (.int p1), .val (.int p2), .val (.int p3), .val (.int (own_b p1)), .val (.int (p3 &&& (3 : Int32))), .val (.int p2), .unset] [(.int (18 : Int32)), (.int p2)])) _
    refine XS.iushr X0.here hx rfl (hb hby at_81) rfl ?_
    show Steps p.tables e below (s₁.setTop (mkF m 82 #[.val (.int p1), .val (.int p2), .val (.int p3), .val (.int (own_b p1)), .val (.int (p3 &&& (3 : Int32))), .val (.int p2), .unset] [(.int ((p2.toUInt32 >>> ((18 : Int32) &&& 31).toUInt32).toInt32))])) _
    refine XS.ifNo X0.here hx rfl (hb hby at_82) rfl ((if0 _ _).trans (teq hc82).2) ?_
    show Steps p.tables e below (s₁.setTop (mkF m 85 #[.val (.int p1), .val (.int p2), .val (.int p3), .val (.int (own_b p1)), .val (.int (p3 &&& (3 : Int32))), .val (.int p2), .unset] [])) _
    refine XS.iload X0.here hx rfl (hb hby at_85) rfl ?_
    show Steps p.tables e below (s₁.setTop (mkF m 87 #[.val (.int p1), .val (.int p2), .val (.int p3), .val (.int (own_b p1)), .val (.int (p3 &&& (3 : Int32))), .val (.int p2), .unset] [(.int p2)])) _
    refine XS.bipush X0.here hx rfl (hb hby at_87) ?_
    show Steps p.tables e below (s₁.setTop (mkF m 89 #[.val (.int p1), .val (.int p2), .val (.int p3), .val (.int (own_b p1)), .val (.int (p3 &&& (3 : Int32))), .val (.int p2), .unset] [(.int (12 : Int32)), (.int p2)])) _
    refine XS.iushr X0.here hx rfl (hb hby at_89) rfl ?_
    show Steps p.tables e below (s₁.setTop (mkF m 90 #[.val (.int p1), .val (.int p2), .val (.int p3), .val (.int (own_b p1)), .val (.int (p3 &&& (3 : Int32))), .val (.int p2), .unset] [(.int ((p2.toUInt32 >>> ((12 : Int32) &&& 31).toUInt32).toInt32))])) _
    refine XS.bipush X0.here hx rfl (hb hby at_90) ?_
    show Steps p.tables e below (s₁.setTop (mkF m 92 #[.val (.int p1), .val (.int p2), .val (.int p3), .val (.int (own_b p1)), .val (.int (p3 &&& (3 : Int32))), .val (.int p2), .unset] [(.int (7 : Int32)), (.int ((p2.toUInt32 >>> ((12 : Int32) &&& 31).toUInt32).toInt32))])) _
    refine XS.iand X0.here hx rfl (hb hby at_92) rfl ?_
    show Steps p.tables e below (s₁.setTop (mkF m 93 #[.val (.int p1), .val (.int p2), .val (.int p3), .val (.int (own_b p1)), .val (.int (p3 &&& (3 : Int32))), .val (.int p2), .unset] [(.int (((p2.toUInt32 >>> ((12 : Int32) &&& 31).toUInt32).toInt32) &&& (7 : Int32)))])) _
    refine XS.ifNo X0.here hx rfl (hb hby at_93) rfl ((if0 _ _).trans (teq hc93).2) ?_
    show Steps p.tables e below (s₁.setTop (mkF m 96 #[.val (.int p1), .val (.int p2), .val (.int p3), .val (.int (own_b p1)), .val (.int (p3 &&& (3 : Int32))), .val (.int p2), .unset] [])) _
    refine XS.iloadN X0.here hx rfl (hb hby at_96) rfl ?_
    show Steps p.tables e below (s₁.setTop (mkF m 97 #[.val (.int p1), .val (.int p2), .val (.int p3), .val (.int (own_b p1)), .val (.int (p3 &&& (3 : Int32))), .val (.int p2), .unset] [(.int p1)])) _
    refine XS.bipush X0.here hx rfl (hb hby at_97) ?_
    show Steps p.tables e below (s₁.setTop (mkF m 99 #[.val (.int p1), .val (.int p2), .val (.int p3), .val (.int (own_b p1)), .val (.int (p3 &&& (3 : Int32))), .val (.int p2), .unset] [(.int (63 : Int32)), (.int p1)])) _
    refine XS.iand X0.here hx rfl (hb hby at_99) rfl ?_
    show Steps p.tables e below (s₁.setTop (mkF m 100 #[.val (.int p1), .val (.int p2), .val (.int p3), .val (.int (own_b p1)), .val (.int (p3 &&& (3 : Int32))), .val (.int p2), .unset] [(.int (p1 &&& (63 : Int32)))])) _
    refine XS.iload X0.here hx rfl (hb hby at_100) rfl ?_
    show Steps p.tables e below (s₁.setTop (mkF m 102 #[.val (.int p1), .val (.int p2), .val (.int p3), .val (.int (own_b p1)), .val (.int (p3 &&& (3 : Int32))), .val (.int p2), .unset] [(.int p2), (.int (p1 &&& (63 : Int32)))])) _
    refine XS.bipush X0.here hx rfl (hb hby at_102) ?_
    show Steps p.tables e below (s₁.setTop (mkF m 104 #[.val (.int p1), .val (.int p2), .val (.int p3), .val (.int (own_b p1)), .val (.int (p3 &&& (3 : Int32))), .val (.int p2), .unset] [(.int (63 : Int32)), (.int p2), (.int (p1 &&& (63 : Int32)))])) _
    refine XS.iand X0.here hx rfl (hb hby at_104) rfl ?_
    show Steps p.tables e below (s₁.setTop (mkF m 105 #[.val (.int p1), .val (.int p2), .val (.int p3), .val (.int (own_b p1)), .val (.int (p3 &&& (3 : Int32))), .val (.int p2), .unset] [(.int (p2 &&& (63 : Int32))), (.int (p1 &&& (63 : Int32)))])) _
    refine XS.icmpNo X0.here hx rfl (hb hby at_105) rfl (teq hc105).2 ?_
    show Steps p.tables e below (s₁.setTop (mkF m 108 #[.val (.int p1), .val (.int p2), .val (.int p3), .val (.int (own_b p1)), .val (.int (p3 &&& (3 : Int32))), .val (.int p2), .unset] [])) _
    refine XS.iloadN X0.here hx rfl (hb hby at_108) rfl ?_
    show Steps p.tables e below (s₁.setTop (mkF m 109 #[.val (.int p1), .val (.int p2), .val (.int p3), .val (.int (own_b p1)), .val (.int (p3 &&& (3 : Int32))), .val (.int p2), .unset] [(.int p1)])) _
    refine XS.bipush X0.here hx rfl (hb hby at_109) ?_
    show Steps p.tables e below (s₁.setTop (mkF m 111 #[.val (.int p1), .val (.int p2), .val (.int p3), .val (.int (own_b p1)), .val (.int (p3 &&& (3 : Int32))), .val (.int p2), .unset] [(.int (6 : Int32)), (.int p1)])) _
    refine XS.iushr X0.here hx rfl (hb hby at_111) rfl ?_
    show Steps p.tables e below (s₁.setTop (mkF m 112 #[.val (.int p1), .val (.int p2), .val (.int p3), .val (.int (own_b p1)), .val (.int (p3 &&& (3 : Int32))), .val (.int p2), .unset] [(.int ((p1.toUInt32 >>> ((6 : Int32) &&& 31).toUInt32).toInt32))])) _
    refine XS.bipush X0.here hx rfl (hb hby at_112) ?_
    show Steps p.tables e below (s₁.setTop (mkF m 114 #[.val (.int p1), .val (.int p2), .val (.int p3), .val (.int (own_b p1)), .val (.int (p3 &&& (3 : Int32))), .val (.int p2), .unset] [(.int (63 : Int32)), (.int ((p1.toUInt32 >>> ((6 : Int32) &&& 31).toUInt32).toInt32))])) _
    refine XS.iand X0.here hx rfl (hb hby at_114) rfl ?_
    show Steps p.tables e below (s₁.setTop (mkF m 115 #[.val (.int p1), .val (.int p2), .val (.int p3), .val (.int (own_b p1)), .val (.int (p3 &&& (3 : Int32))), .val (.int p2), .unset] [(.int (((p1.toUInt32 >>> ((6 : Int32) &&& 31).toUInt32).toInt32) &&& (63 : Int32)))])) _
    refine XS.iload X0.here hx rfl (hb hby at_115) rfl ?_
    show Steps p.tables e below (s₁.setTop (mkF m 117 #[.val (.int p1), .val (.int p2), .val (.int p3), .val (.int (own_b p1)), .val (.int (p3 &&& (3 : Int32))), .val (.int p2), .unset] [(.int p2), (.int (((p1.toUInt32 >>> ((6 : Int32) &&& 31).toUInt32).toInt32) &&& (63 : Int32)))])) _
    refine XS.bipush X0.here hx rfl (hb hby at_117) ?_
    show Steps p.tables e below (s₁.setTop (mkF m 119 #[.val (.int p1), .val (.int p2), .val (.int p3), .val (.int (own_b p1)), .val (.int (p3 &&& (3 : Int32))), .val (.int p2), .unset] [(.int (6 : Int32)), (.int p2), (.int (((p1.toUInt32 >>> ((6 : Int32) &&& 31).toUInt32).toInt32) &&& (63 : Int32)))])) _
    refine XS.iushr X0.here hx rfl (hb hby at_119) rfl ?_
    show Steps p.tables e below (s₁.setTop (mkF m 120 #[.val (.int p1), .val (.int p2), .val (.int p3), .val (.int (own_b p1)), .val (.int (p3 &&& (3 : Int32))), .val (.int p2), .unset] [(.int ((p2.toUInt32 >>> ((6 : Int32) &&& 31).toUInt32).toInt32)), (.int (((p1.toUInt32 >>> ((6 : Int32) &&& 31).toUInt32).toInt32) &&& (63 : Int32)))])) _
    refine XS.bipush X0.here hx rfl (hb hby at_120) ?_
    show Steps p.tables e below (s₁.setTop (mkF m 122 #[.val (.int p1), .val (.int p2), .val (.int p3), .val (.int (own_b p1)), .val (.int (p3 &&& (3 : Int32))), .val (.int p2), .unset] [(.int (63 : Int32)), (.int ((p2.toUInt32 >>> ((6 : Int32) &&& 31).toUInt32).toInt32)), (.int (((p1.toUInt32 >>> ((6 : Int32) &&& 31).toUInt32).toInt32) &&& (63 : Int32)))])) _
    refine XS.iand X0.here hx rfl (hb hby at_122) rfl ?_
    show Steps p.tables e below (s₁.setTop (mkF m 123 #[.val (.int p1), .val (.int p2), .val (.int p3), .val (.int (own_b p1)), .val (.int (p3 &&& (3 : Int32))), .val (.int p2), .unset] [(.int (((p2.toUInt32 >>> ((6 : Int32) &&& 31).toUInt32).toInt32) &&& (63 : Int32))), (.int (((p1.toUInt32 >>> ((6 : Int32) &&& 31).toUInt32).toInt32) &&& (63 : Int32)))])) _
    refine XS.icmpNo X0.here hx rfl (hb hby at_123) rfl (teq hc123).2 ?_
    show Steps p.tables e below (s₁.setTop (mkF m 126 #[.val (.int p1), .val (.int p2), .val (.int p3), .val (.int (own_b p1)), .val (.int (p3 &&& (3 : Int32))), .val (.int p2), .unset] [])) _
    refine XS.iloadN X0.here hx rfl (hb hby at_126) rfl ?_
    show Steps p.tables e below (s₁.setTop (mkF m 127 #[.val (.int p1), .val (.int p2), .val (.int p3), .val (.int (own_b p1)), .val (.int (p3 &&& (3 : Int32))), .val (.int p2), .unset] [(.int p1)])) _
    refine XS.bipush X0.here hx rfl (hb hby at_127) ?_
    show Steps p.tables e below (s₁.setTop (mkF m 129 #[.val (.int p1), .val (.int p2), .val (.int p3), .val (.int (own_b p1)), .val (.int (p3 &&& (3 : Int32))), .val (.int p2), .unset] [(.int (15 : Int32)), (.int p1)])) _
    refine XS.iushr X0.here hx rfl (hb hby at_129) rfl ?_
    show Steps p.tables e below (s₁.setTop (mkF m 130 #[.val (.int p1), .val (.int p2), .val (.int p3), .val (.int (own_b p1)), .val (.int (p3 &&& (3 : Int32))), .val (.int p2), .unset] [(.int ((p1.toUInt32 >>> ((15 : Int32) &&& 31).toUInt32).toInt32))])) _
    refine XS.bipush X0.here hx rfl (hb hby at_130) ?_
    show Steps p.tables e below (s₁.setTop (mkF m 132 #[.val (.int p1), .val (.int p2), .val (.int p3), .val (.int (own_b p1)), .val (.int (p3 &&& (3 : Int32))), .val (.int p2), .unset] [(.int (7 : Int32)), (.int ((p1.toUInt32 >>> ((15 : Int32) &&& 31).toUInt32).toInt32))])) _
    refine XS.iand X0.here hx rfl (hb hby at_132) rfl ?_
    show Steps p.tables e below (s₁.setTop (mkF m 133 #[.val (.int p1), .val (.int p2), .val (.int p3), .val (.int (own_b p1)), .val (.int (p3 &&& (3 : Int32))), .val (.int p2), .unset] [(.int (((p1.toUInt32 >>> ((15 : Int32) &&& 31).toUInt32).toInt32) &&& (7 : Int32)))])) _
    refine XS.iload X0.here hx rfl (hb hby at_133) rfl ?_
    show Steps p.tables e below (s₁.setTop (mkF m 135 #[.val (.int p1), .val (.int p2), .val (.int p3), .val (.int (own_b p1)), .val (.int (p3 &&& (3 : Int32))), .val (.int p2), .unset] [(.int p2), (.int (((p1.toUInt32 >>> ((15 : Int32) &&& 31).toUInt32).toInt32) &&& (7 : Int32)))])) _
    refine XS.bipush X0.here hx rfl (hb hby at_135) ?_
    show Steps p.tables e below (s₁.setTop (mkF m 137 #[.val (.int p1), .val (.int p2), .val (.int p3), .val (.int (own_b p1)), .val (.int (p3 &&& (3 : Int32))), .val (.int p2), .unset] [(.int (15 : Int32)), (.int p2), (.int (((p1.toUInt32 >>> ((15 : Int32) &&& 31).toUInt32).toInt32) &&& (7 : Int32)))])) _
    refine XS.iushr X0.here hx rfl (hb hby at_137) rfl ?_
    show Steps p.tables e below (s₁.setTop (mkF m 138 #[.val (.int p1), .val (.int p2), .val (.int p3), .val (.int (own_b p1)), .val (.int (p3 &&& (3 : Int32))), .val (.int p2), .unset] [(.int ((p2.toUInt32 >>> ((15 : Int32) &&& 31).toUInt32).toInt32)), (.int (((p1.toUInt32 >>> ((15 : Int32) &&& 31).toUInt32).toInt32) &&& (7 : Int32)))])) _
    refine XS.bipush X0.here hx rfl (hb hby at_138) ?_
    show Steps p.tables e below (s₁.setTop (mkF m 140 #[.val (.int p1), .val (.int p2), .val (.int p3), .val (.int (own_b p1)), .val (.int (p3 &&& (3 : Int32))), .val (.int p2), .unset] [(.int (7 : Int32)), (.int ((p2.toUInt32 >>> ((15 : Int32) &&& 31).toUInt32).toInt32)), (.int (((p1.toUInt32 >>> ((15 : Int32) &&& 31).toUInt32).toInt32) &&& (7 : Int32)))])) _
    refine XS.iand X0.here hx rfl (hb hby at_140) rfl ?_
    show Steps p.tables e below (s₁.setTop (mkF m 141 #[.val (.int p1), .val (.int p2), .val (.int p3), .val (.int (own_b p1)), .val (.int (p3 &&& (3 : Int32))), .val (.int p2), .unset] [(.int (((p2.toUInt32 >>> ((15 : Int32) &&& 31).toUInt32).toInt32) &&& (7 : Int32))), (.int (((p1.toUInt32 >>> ((15 : Int32) &&& 31).toUInt32).toInt32) &&& (7 : Int32)))])) _
    refine XS.icmpYes X0.here hx rfl (pc0 := 141) (pc' := 148) rfl (hb hby at_141) rfl (feq hc141).2 (by decide) (by decide) ?_
    show Steps p.tables e below (s₁.setTop (mkF m 148 #[.val (.int p1), .val (.int p2), .val (.int p3), .val (.int (own_b p1)), .val (.int (p3 &&& (3 : Int32))), .val (.int p2), .unset] [])) _
    refine XS.iconst X0.here hx rfl (hb hby at_148) ?_
    show Steps p.tables e below (s₁.setTop (mkF m 149 #[.val (.int p1), .val (.int p2), .val (.int p3), .val (.int (own_b p1)), .val (.int (p3 &&& (3 : Int32))), .val (.int p2), .unset] [(.int (0 : Int32))])) _
    refine XS.istore X0.here hx rfl (hb hby at_149) rfl (l' := #[.val (.int p1), .val (.int p2), .val (.int p3), .val (.int (own_b p1)), .val (.int (p3 &&& (3 : Int32))), .val (.int p2), .val (.int (0 : Int32))]) rfl ?_
    show Steps p.tables e below (s₁.setTop (mkF m 151 #[.val (.int p1), .val (.int p2), .val (.int p3), .val (.int (own_b p1)), .val (.int (p3 &&& (3 : Int32))), .val (.int p2), .val (.int (0 : Int32))] [])) _
    refine XS.iloadN X0.here hx rfl (hb hby at_151) rfl ?_
    show Steps p.tables e below (s₁.setTop (mkF m 152 #[.val (.int p1), .val (.int p2), .val (.int p3), .val (.int (own_b p1)), .val (.int (p3 &&& (3 : Int32))), .val (.int p2), .val (.int (0 : Int32))] [(.int p1)])) _
    refine XS.iload X0.here hx rfl (hb hby at_152) rfl ?_
    show Steps p.tables e below (s₁.setTop (mkF m 154 #[.val (.int p1), .val (.int p2), .val (.int p3), .val (.int (own_b p1)), .val (.int (p3 &&& (3 : Int32))), .val (.int p2), .val (.int (0 : Int32))] [(.int p2), (.int p1)])) _
    refine st4 _ ?_
    show Steps p.tables e below (T4.setTop (mkF m 157 #[.val (.int p1), .val (.int p2), .val (.int p3), .val (.int (own_b p1)), .val (.int (p3 &&& (3 : Int32))), .val (.int p2), .val (.int (0 : Int32))] [(.int (val1 p1 p2))])) _
    refine XS.iload X4.here hx rfl (hb hby at_157) rfl ?_
    show Steps p.tables e below (T4.setTop (mkF m 159 #[.val (.int p1), .val (.int p2), .val (.int p3), .val (.int (own_b p1)), .val (.int (p3 &&& (3 : Int32))), .val (.int p2), .val (.int (0 : Int32))] [(.int (0 : Int32)), (.int (val1 p1 p2))])) _
    refine XS.icmpNo X4.here hx rfl (hb hby at_159) rfl (teq (by unfold val1; rw [if_neg (fun q => hc141 ((own_iff _ _).mp q).2.2.2.2)] : (val1 p1 p2) = (0 : Int32))).2 ?_
    show Steps p.tables e below (T4.setTop (mkF m 162 #[.val (.int p1), .val (.int p2), .val (.int p3), .val (.int (own_b p1)), .val (.int (p3 &&& (3 : Int32))), .val (.int p2), .val (.int (0 : Int32))] [])) _
    refine XS.iconst X4.here hx rfl (hb hby at_162) ?_
    show Steps p.tables e below (T4.setTop (mkF m 163 #[.val (.int p1), .val (.int p2), .val (.int p3), .val (.int (own_b p1)), .val (.int (p3 &&& (3 : Int32))), .val (.int p2), .val (.int (0 : Int32))] [(.int (1 : Int32))])) _
    refine XS.goto X4.here hx rfl (pc0 := 163) (pc' := 167) rfl (hb hby at_163) (by decide) (by decide) ?_
    show Steps p.tables e below (T4.setTop (mkF m 167 #[.val (.int p1), .val (.int p2), .val (.int p3), .val (.int (own_b p1)), .val (.int (p3 &&& (3 : Int32))), .val (.int p2), .val (.int (0 : Int32))] [(.int (1 : Int32))])) _
    exact retN X4 hx (t := .boolean) Bd.returns (by simp) (hb hby at_167) hr
  · show Q0 Z p1 p2 p3 h0 n0 _ T4.heap _
    exact ⟨rfl, N4⟩

set_option maxRecDepth 65536 in
set_option maxHeartbeats 40000000 in
theorem rm0_fffffff (l : Launch) (Z : State) (a0 : Array Value) (hw : ∀ d ∈ tables_1, d.before a0 Z = true) (ws : List Jvm.Cond) (p1 : Int32) (p2 : Int32) (p3 : Int32) (h0 : Heap) (n0 : Nat) (Z0 : n0 ≤ h0.size) (hc34 : (p3 &&& (3 : Int32)) = (0 : Int32)) (hc82 : ((p2.toUInt32 >>> ((18 : Int32) &&& 31).toUInt32).toInt32) = (0 : Int32)) (hc93 : (((p2.toUInt32 >>> ((12 : Int32) &&& 31).toUInt32).toInt32) &&& (7 : Int32)) = (0 : Int32)) (hc105 : (p1 &&& (63 : Int32)) = (p2 &&& (63 : Int32))) (hc123 : (((p1.toUInt32 >>> ((6 : Int32) &&& 31).toUInt32).toInt32) &&& (63 : Int32)) = (((p2.toUInt32 >>> ((6 : Int32) &&& 31).toUInt32).toInt32) &&& (63 : Int32))) (hc141 : (((p1.toUInt32 >>> ((15 : Int32) &&& 31).toUInt32).toInt32) &&& (7 : Int32)) = (((p2.toUInt32 >>> ((15 : Int32) &&& 31).toUInt32).toInt32) &&& (7 : Int32))) :
    MetFree l x (head1 (Jvm.Cond.code x code maxLocals ret :: ws) room_1) (fun a U => a = #[(.int p1), (.int p2), (.int p3)] ∧ Z.Warmed39 U.vm ∧ U.heap = h0) (fun _ _ _ _ _ => True) (fun _ U o U' => ∃ v L, o = .returned v ∧ Q0 Z p1 p2 p3 h0 n0 v U'.heap L ∧ FrameEnd U o U' L room_1.cells room_1.slots) := by
  refine MetFree.of_bodySF (plainFor_of_name pn_0) hisR ?_
  intro p e s m args below meth c s₁ Bd hml0 hP hK
  obtain ⟨rfl, hZ, hh⟩ := hP
  have hx := Bd.exec
  have hby := Bd.bytes
  have hml : c.maxLocals = 7 := hml0
  have hown : s.vm.findClass "touchmove/position/PackedMoveIsPinLaw" = some m.cls := findClass_of_methodNamed Bd.named
  have hnm := (name_of_methodNamed Bd.named Bd.method).1
  have X0 : Stand p l e room_1 s m #[(.int p1), (.int p2), (.int p3)] below meth c s₁ [] 0 0 := Stand.of_body Bd
  have e0 : s₁.heap = h0 := by rw [← hh, Bd.state]; rfl
  have N0 := Fr.nil n0
  have pre0 : ∀ t, Steps p.tables e below (s₁.setTop (mkF m 0 #[.val (.int p1), .val (.int p2), .val (.int p3), .unset, .unset, .unset, .unset] [])) t → Steps p.tables e below (s₁.setTop (entryFrame m #[(.int p1), (.int p2), (.int p3)] maxLocals)) t := fun t k => castTop (ef_0 m p1 p2 p3) k
  obtain ⟨_, _, ⟨T4, L4, k4, n4⟩, -, X4, ⟨Lc4, hQ4, l4, y4, z4⟩, st4⟩ := Jvm.LawKit.callS X0 hx (y := (⟨"touchmove/position/PackedMove", "is", "(II)Z"⟩ : MethodName)) hown (mvT hZ (hw _ (List.mem_of_getElem? (i := 0) rfl))) (mvT hZ (hw _ (List.mem_of_getElem? (i := 1) rfl))) (mvT hZ (hw _ (List.mem_of_getElem? (i := 2) rfl))) (mvT hZ (hw _ (List.mem_of_getElem? (i := 3) rfl))) (by decide) (backOf (W := 0) (rm1 l Z a0 hw [] p1 p2 h0 n0 Z0) hZ (hw _ (List.mem_of_getElem? (i := 3) rfl)) (hw _ (List.mem_of_getElem? (i := 2) rfl)) (by decide) (by decide)) (g := (mkF m 154 #[.val (.int p1), .val (.int p2), .val (.int p3), .val (.int (own_b p1)), .val (.int (p3 &&& (3 : Int32))), .val (.int p2), .val (.int (1 : Int32))] [(.int p2), (.int p1)])) rfl (by rw [hml]; rfl) (argsL := [(.int p1), (.int p2)]) (rest := []) (lenOf pd_0_0 rfl) rfl (by show 2 * 0 + _ ≤ _; exact Nat.le_of_eq rfl) (hb hby at_154) (fun _ _ => ⟨rfl, e0, (by decide : 0 + 0 ≤ _), (by decide : 0 + 0 ≤ _)⟩)
  dsimp only [Pt.U, Pt.locs, Pt.cells, Pt.slots] at X4 l4 y4 z4 st4 hQ4
  subst l4 y4 z4
  obtain ⟨rfl, N4q, w4⟩ := hQ4
  have N4 := Fr.app N0 N4q
  obtain ⟨fs, hr, hrun, hended, hW, hsame⟩ := X4.leave (v := some (.int (1 : Int32))) (fun h => by rw [Bd.returns] at h; cases h)
  refine ⟨_, _, pre0 _ ?_, hrun, hended, _, _, rfl, ?_, ⟨_, rfl⟩, hW, hsame.mono (by decide) (by decide)⟩
  · show Steps p.tables e below (s₁.setTop (mkF m 0 #[.val (.int p1), .val (.int p2), .val (.int p3), .unset, .unset, .unset, .unset] [])) _
    refine XS.iloadN X0.here hx rfl (hb hby at_0) rfl ?_
    show Steps p.tables e below (s₁.setTop (mkF m 1 #[.val (.int p1), .val (.int p2), .val (.int p3), .unset, .unset, .unset, .unset] [(.int p1)])) _
    refine XS.bipush X0.here hx rfl (hb hby at_1) ?_
    show Steps p.tables e below (s₁.setTop (mkF m 3 #[.val (.int p1), .val (.int p2), .val (.int p3), .unset, .unset, .unset, .unset] [(.int (63 : Int32)), (.int p1)])) _
    refine XS.iand X0.here hx rfl (hb hby at_3) rfl ?_
    show Steps p.tables e below (s₁.setTop (mkF m 4 #[.val (.int p1), .val (.int p2), .val (.int p3), .unset, .unset, .unset, .unset] [(.int (p1 &&& (63 : Int32)))])) _
    refine XS.iloadN X0.here hx rfl (hb hby at_4) rfl ?_
    show Steps p.tables e below (s₁.setTop (mkF m 5 #[.val (.int p1), .val (.int p2), .val (.int p3), .unset, .unset, .unset, .unset] [(.int p1), (.int (p1 &&& (63 : Int32)))])) _
    refine XS.bipush X0.here hx rfl (hb hby at_5) ?_
    show Steps p.tables e below (s₁.setTop (mkF m 7 #[.val (.int p1), .val (.int p2), .val (.int p3), .unset, .unset, .unset, .unset] [(.int (6 : Int32)), (.int p1), (.int (p1 &&& (63 : Int32)))])) _
    refine XS.iushr X0.here hx rfl (hb hby at_7) rfl ?_
    show Steps p.tables e below (s₁.setTop (mkF m 8 #[.val (.int p1), .val (.int p2), .val (.int p3), .unset, .unset, .unset, .unset] [(.int ((p1.toUInt32 >>> ((6 : Int32) &&& 31).toUInt32).toInt32)), (.int (p1 &&& (63 : Int32)))])) _
    refine XS.bipush X0.here hx rfl (hb hby at_8) ?_
    show Steps p.tables e below (s₁.setTop (mkF m 10 #[.val (.int p1), .val (.int p2), .val (.int p3), .unset, .unset, .unset, .unset] [(.int (63 : Int32)), (.int ((p1.toUInt32 >>> ((6 : Int32) &&& 31).toUInt32).toInt32)), (.int (p1 &&& (63 : Int32)))])) _
    refine XS.iand X0.here hx rfl (hb hby at_10) rfl ?_
    show Steps p.tables e below (s₁.setTop (mkF m 11 #[.val (.int p1), .val (.int p2), .val (.int p3), .unset, .unset, .unset, .unset] [(.int (((p1.toUInt32 >>> ((6 : Int32) &&& 31).toUInt32).toInt32) &&& (63 : Int32))), (.int (p1 &&& (63 : Int32)))])) _
    refine XS.bipush X0.here hx rfl (hb hby at_11) ?_
    show Steps p.tables e below (s₁.setTop (mkF m 13 #[.val (.int p1), .val (.int p2), .val (.int p3), .unset, .unset, .unset, .unset] [(.int (6 : Int32)), (.int (((p1.toUInt32 >>> ((6 : Int32) &&& 31).toUInt32).toInt32) &&& (63 : Int32))), (.int (p1 &&& (63 : Int32)))])) _
    refine XS.ishl X0.here hx rfl (hb hby at_13) rfl ?_
    show Steps p.tables e below (s₁.setTop (mkF m 14 #[.val (.int p1), .val (.int p2), .val (.int p3), .unset, .unset, .unset, .unset] [(.int ((((p1.toUInt32 >>> ((6 : Int32) &&& 31).toUInt32).toInt32) &&& (63 : Int32)) <<< ((6 : Int32) &&& 31))), (.int (p1 &&& (63 : Int32)))])) _
    refine XS.ior X0.here hx rfl (hb hby at_14) rfl ?_
    show Steps p.tables e below (s₁.setTop (mkF m 15 #[.val (.int p1), .val (.int p2), .val (.int p3), .unset, .unset, .unset, .unset] [(.int ((p1 &&& (63 : Int32)) ||| ((((p1.toUInt32 >>> ((6 : Int32) &&& 31).toUInt32).toInt32) &&& (63 : Int32)) <<< ((6 : Int32) &&& 31))))])) _
    refine XS.iloadN X0.here hx rfl (hb hby at_15) rfl ?_
    show Steps p.tables e below (s₁.setTop (mkF m 16 #[.val (.int p1), .val (.int p2), .val (.int p3), .unset, .unset, .unset, .unset] [(.int p1), (.int ((p1 &&& (63 : Int32)) ||| ((((p1.toUInt32 >>> ((6 : Int32) &&& 31).toUInt32).toInt32) &&& (63 : Int32)) <<< ((6 : Int32) &&& 31))))])) _
    refine XS.bipush X0.here hx rfl (hb hby at_16) ?_
    show Steps p.tables e below (s₁.setTop (mkF m 18 #[.val (.int p1), .val (.int p2), .val (.int p3), .unset, .unset, .unset, .unset] [(.int (15 : Int32)), (.int p1), (.int ((p1 &&& (63 : Int32)) ||| ((((p1.toUInt32 >>> ((6 : Int32) &&& 31).toUInt32).toInt32) &&& (63 : Int32)) <<< ((6 : Int32) &&& 31))))])) _
    refine XS.iushr X0.here hx rfl (hb hby at_18) rfl ?_
    show Steps p.tables e below (s₁.setTop (mkF m 19 #[.val (.int p1), .val (.int p2), .val (.int p3), .unset, .unset, .unset, .unset] [(.int ((p1.toUInt32 >>> ((15 : Int32) &&& 31).toUInt32).toInt32)), (.int ((p1 &&& (63 : Int32)) ||| ((((p1.toUInt32 >>> ((6 : Int32) &&& 31).toUInt32).toInt32) &&& (63 : Int32)) <<< ((6 : Int32) &&& 31))))])) _
    refine XS.bipush X0.here hx rfl (hb hby at_19) ?_
    show Steps p.tables e below (s₁.setTop (mkF m 21 #[.val (.int p1), .val (.int p2), .val (.int p3), .unset, .unset, .unset, .unset] [(.int (7 : Int32)), (.int ((p1.toUInt32 >>> ((15 : Int32) &&& 31).toUInt32).toInt32)), (.int ((p1 &&& (63 : Int32)) ||| ((((p1.toUInt32 >>> ((6 : Int32) &&& 31).toUInt32).toInt32) &&& (63 : Int32)) <<< ((6 : Int32) &&& 31))))])) _
    refine XS.iand X0.here hx rfl (hb hby at_21) rfl ?_
    show Steps p.tables e below (s₁.setTop (mkF m 22 #[.val (.int p1), .val (.int p2), .val (.int p3), .unset, .unset, .unset, .unset] [(.int (((p1.toUInt32 >>> ((15 : Int32) &&& 31).toUInt32).toInt32) &&& (7 : Int32))), (.int ((p1 &&& (63 : Int32)) ||| ((((p1.toUInt32 >>> ((6 : Int32) &&& 31).toUInt32).toInt32) &&& (63 : Int32)) <<< ((6 : Int32) &&& 31))))])) _
    refine XS.bipush X0.here hx rfl (hb hby at_22) ?_
    show Steps p.tables e below (s₁.setTop (mkF m 24 #[.val (.int p1), .val (.int p2), .val (.int p3), .unset, .unset, .unset, .unset] [(.int (15 : Int32)), (.int (((p1.toUInt32 >>> ((15 : Int32) &&& 31).toUInt32).toInt32) &&& (7 : Int32))), (.int ((p1 &&& (63 : Int32)) ||| ((((p1.toUInt32 >>> ((6 : Int32) &&& 31).toUInt32).toInt32) &&& (63 : Int32)) <<< ((6 : Int32) &&& 31))))])) _
    refine XS.ishl X0.here hx rfl (hb hby at_24) rfl ?_
    show Steps p.tables e below (s₁.setTop (mkF m 25 #[.val (.int p1), .val (.int p2), .val (.int p3), .unset, .unset, .unset, .unset] [(.int ((((p1.toUInt32 >>> ((15 : Int32) &&& 31).toUInt32).toInt32) &&& (7 : Int32)) <<< ((15 : Int32) &&& 31))), (.int ((p1 &&& (63 : Int32)) ||| ((((p1.toUInt32 >>> ((6 : Int32) &&& 31).toUInt32).toInt32) &&& (63 : Int32)) <<< ((6 : Int32) &&& 31))))])) _
    refine XS.ior X0.here hx rfl (hb hby at_25) rfl ?_
    show Steps p.tables e below (s₁.setTop (mkF m 26 #[.val (.int p1), .val (.int p2), .val (.int p3), .unset, .unset, .unset, .unset] [(.int (own_b p1))])) _
    refine XS.istoreN X0.here hx rfl (hb hby at_26) rfl (l' := #[.val (.int p1), .val (.int p2), .val (.int p3), .val (.int (own_b p1)), .unset, .unset, .unset]) rfl ?_
    show Steps p.tables e below (s₁.setTop (mkF m 27 #[.val (.int p1), .val (.int p2), .val (.int p3), .val (.int (own_b p1)), .unset, .unset, .unset] [])) _
    refine XS.iloadN X0.here hx rfl (hb hby at_27) rfl ?_
    show Steps p.tables e below (s₁.setTop (mkF m 28 #[.val (.int p1), .val (.int p2), .val (.int p3), .val (.int (own_b p1)), .unset, .unset, .unset] [(.int p3)])) _
    refine XS.iconst X0.here hx rfl (hb hby at_28) ?_
    show Steps p.tables e below (s₁.setTop (mkF m 29 #[.val (.int p1), .val (.int p2), .val (.int p3), .val (.int (own_b p1)), .unset, .unset, .unset] [(.int (3 : Int32)), (.int p3)])) _
    refine XS.iand X0.here hx rfl (hb hby at_29) rfl ?_
    show Steps p.tables e below (s₁.setTop (mkF m 30 #[.val (.int p1), .val (.int p2), .val (.int p3), .val (.int (own_b p1)), .unset, .unset, .unset] [(.int (p3 &&& (3 : Int32)))])) _
    refine XS.istore X0.here hx rfl (hb hby at_30) rfl (l' := #[.val (.int p1), .val (.int p2), .val (.int p3), .val (.int (own_b p1)), .val (.int (p3 &&& (3 : Int32))), .unset, .unset]) rfl ?_
    show Steps p.tables e below (s₁.setTop (mkF m 32 #[.val (.int p1), .val (.int p2), .val (.int p3), .val (.int (own_b p1)), .val (.int (p3 &&& (3 : Int32))), .unset, .unset] [])) _
    refine XS.iload X0.here hx rfl (hb hby at_32) rfl ?_
    show Steps p.tables e below (s₁.setTop (mkF m 34 #[.val (.int p1), .val (.int p2), .val (.int p3), .val (.int (own_b p1)), .val (.int (p3 &&& (3 : Int32))), .unset, .unset] [(.int (p3 &&& (3 : Int32)))])) _
    refine XS.ifNo X0.here hx rfl (hb hby at_34) rfl ((if0 _ _).trans (teq hc34).2) ?_
    show Steps p.tables e below (s₁.setTop (mkF m 37 #[.val (.int p1), .val (.int p2), .val (.int p3), .val (.int (own_b p1)), .val (.int (p3 &&& (3 : Int32))), .unset, .unset] [])) _
    refine XS.iloadN X0.here hx rfl (hb hby at_37) rfl ?_
    show Steps p.tables e below (s₁.setTop (mkF m 38 #[.val (.int p1), .val (.int p2), .val (.int p3), .val (.int (own_b p1)), .val (.int (p3 &&& (3 : Int32))), .unset, .unset] [(.int p2)])) _
    refine XS.istore X0.here hx rfl (hb hby at_38) rfl (l' := #[.val (.int p1), .val (.int p2), .val (.int p3), .val (.int (own_b p1)), .val (.int (p3 &&& (3 : Int32))), .val (.int p2), .unset]) rfl ?_
    show Steps p.tables e below (s₁.setTop (mkF m 40 #[.val (.int p1), .val (.int p2), .val (.int p3), .val (.int (own_b p1)), .val (.int (p3 &&& (3 : Int32))), .val (.int p2), .unset] [])) _
    refine XS.goto X0.here hx rfl (pc0 := 40) (pc' := 77) rfl (hb hby at_40) (by decide) (by decide) ?_
    show Steps p.tables e below (s₁.setTop (mkF m 77 #[.val (.int p1), .val (.int p2), .val (.int p3), .val (.int (own_b p1)), .val (.int (p3 &&& (3 : Int32))), .val (.int p2), .unset] [])) _
    refine XS.iload X0.here hx rfl (hb hby at_77) rfl ?_
    show Steps p.tables e below (s₁.setTop (mkF m 79 #[.val (.int p1), .val (.int p2), .val (.int p3), .val (.int (own_b p1)), .val (.int (p3 &&& (3 : Int32))), .val (.int p2), .unset] [(.int p2)])) _
    refine XS.bipush X0.here hx rfl (hb hby at_79) ?_
    show Steps p.tables e below (s₁.setTop (mkF m 81 #[.val (.int p1), .val (.int p2), .val (.int p3), .val (.int (own_b p1)), .val (.int (p3 &&& (3 : Int32))), .val (.int p2), .unset] [(.int (18 : Int32)), (.int p2)])) _
    refine XS.iushr X0.here hx rfl (hb hby at_81) rfl ?_
    show Steps p.tables e below (s₁.setTop (mkF m 82 #[.val (.int p1), .val (.int p2), .val (.int p3), .val (.int (own_b p1)), .val (.int (p3 &&& (3 : Int32))), .val (.int p2), .unset] [(.int ((p2.toUInt32 >>> ((18 : Int32) &&& 31).toUInt32).toInt32))])) _
    refine XS.ifNo X0.here hx rfl (hb hby at_82) rfl ((if0 _ _).trans (teq hc82).2) ?_
    show Steps p.tables e below (s₁.setTop (mkF m 85 #[.val (.int p1), .val (.int p2), .val (.int p3), .val (.int (own_b p1)), .val (.int (p3 &&& (3 : Int32))), .val (.int p2), .unset] [])) _
    refine XS.iload X0.here hx rfl (hb hby at_85) rfl ?_
    show Steps p.tables e below (s₁.setTop (mkF m 87 #[.val (.int p1), .val (.int p2), .val (.int p3), .val (.int (own_b p1)), .val (.int (p3 &&& (3 : Int32))), .val (.int p2), .unset] [(.int p2)])) _
    refine XS.bipush X0.here hx rfl (hb hby at_87) ?_
    show Steps p.tables e below (s₁.setTop (mkF m 89 #[.val (.int p1), .val (.int p2), .val (.int p3), .val (.int (own_b p1)), .val (.int (p3 &&& (3 : Int32))), .val (.int p2), .unset] [(.int (12 : Int32)), (.int p2)])) _
    refine XS.iushr X0.here hx rfl (hb hby at_89) rfl ?_
    show Steps p.tables e below (s₁.setTop (mkF m 90 #[.val (.int p1), .val (.int p2), .val (.int p3), .val (.int (own_b p1)), .val (.int (p3 &&& (3 : Int32))), .val (.int p2), .unset] [(.int ((p2.toUInt32 >>> ((12 : Int32) &&& 31).toUInt32).toInt32))])) _
    refine XS.bipush X0.here hx rfl (hb hby at_90) ?_
    show Steps p.tables e below (s₁.setTop (mkF m 92 #[.val (.int p1), .val (.int p2), .val (.int p3), .val (.int (own_b p1)), .val (.int (p3 &&& (3 : Int32))), .val (.int p2), .unset] [(.int (7 : Int32)), (.int ((p2.toUInt32 >>> ((12 : Int32) &&& 31).toUInt32).toInt32))])) _
    refine XS.iand X0.here hx rfl (hb hby at_92) rfl ?_
    show Steps p.tables e below (s₁.setTop (mkF m 93 #[.val (.int p1), .val (.int p2), .val (.int p3), .val (.int (own_b p1)), .val (.int (p3 &&& (3 : Int32))), .val (.int p2), .unset] [(.int (((p2.toUInt32 >>> ((12 : Int32) &&& 31).toUInt32).toInt32) &&& (7 : Int32)))])) _
    refine XS.ifNo X0.here hx rfl (hb hby at_93) rfl ((if0 _ _).trans (teq hc93).2) ?_
    show Steps p.tables e below (s₁.setTop (mkF m 96 #[.val (.int p1), .val (.int p2), .val (.int p3), .val (.int (own_b p1)), .val (.int (p3 &&& (3 : Int32))), .val (.int p2), .unset] [])) _
    refine XS.iloadN X0.here hx rfl (hb hby at_96) rfl ?_
    show Steps p.tables e below (s₁.setTop (mkF m 97 #[.val (.int p1), .val (.int p2), .val (.int p3), .val (.int (own_b p1)), .val (.int (p3 &&& (3 : Int32))), .val (.int p2), .unset] [(.int p1)])) _
    refine XS.bipush X0.here hx rfl (hb hby at_97) ?_
    show Steps p.tables e below (s₁.setTop (mkF m 99 #[.val (.int p1), .val (.int p2), .val (.int p3), .val (.int (own_b p1)), .val (.int (p3 &&& (3 : Int32))), .val (.int p2), .unset] [(.int (63 : Int32)), (.int p1)])) _
    refine XS.iand X0.here hx rfl (hb hby at_99) rfl ?_
    show Steps p.tables e below (s₁.setTop (mkF m 100 #[.val (.int p1), .val (.int p2), .val (.int p3), .val (.int (own_b p1)), .val (.int (p3 &&& (3 : Int32))), .val (.int p2), .unset] [(.int (p1 &&& (63 : Int32)))])) _
    refine XS.iload X0.here hx rfl (hb hby at_100) rfl ?_
    show Steps p.tables e below (s₁.setTop (mkF m 102 #[.val (.int p1), .val (.int p2), .val (.int p3), .val (.int (own_b p1)), .val (.int (p3 &&& (3 : Int32))), .val (.int p2), .unset] [(.int p2), (.int (p1 &&& (63 : Int32)))])) _
    refine XS.bipush X0.here hx rfl (hb hby at_102) ?_
    show Steps p.tables e below (s₁.setTop (mkF m 104 #[.val (.int p1), .val (.int p2), .val (.int p3), .val (.int (own_b p1)), .val (.int (p3 &&& (3 : Int32))), .val (.int p2), .unset] [(.int (63 : Int32)), (.int p2), (.int (p1 &&& (63 : Int32)))])) _
    refine XS.iand X0.here hx rfl (hb hby at_104) rfl ?_
    show Steps p.tables e below (s₁.setTop (mkF m 105 #[.val (.int p1), .val (.int p2), .val (.int p3), .val (.int (own_b p1)), .val (.int (p3 &&& (3 : Int32))), .val (.int p2), .unset] [(.int (p2 &&& (63 : Int32))), (.int (p1 &&& (63 : Int32)))])) _
    refine XS.icmpNo X0.here hx rfl (hb hby at_105) rfl (teq hc105).2 ?_
    show Steps p.tables e below (s₁.setTop (mkF m 108 #[.val (.int p1), .val (.int p2), .val (.int p3), .val (.int (own_b p1)), .val (.int (p3 &&& (3 : Int32))), .val (.int p2), .unset] [])) _
    refine XS.iloadN X0.here hx rfl (hb hby at_108) rfl ?_
    show Steps p.tables e below (s₁.setTop (mkF m 109 #[.val (.int p1), .val (.int p2), .val (.int p3), .val (.int (own_b p1)), .val (.int (p3 &&& (3 : Int32))), .val (.int p2), .unset] [(.int p1)])) _
    refine XS.bipush X0.here hx rfl (hb hby at_109) ?_
    show Steps p.tables e below (s₁.setTop (mkF m 111 #[.val (.int p1), .val (.int p2), .val (.int p3), .val (.int (own_b p1)), .val (.int (p3 &&& (3 : Int32))), .val (.int p2), .unset] [(.int (6 : Int32)), (.int p1)])) _
    refine XS.iushr X0.here hx rfl (hb hby at_111) rfl ?_
    show Steps p.tables e below (s₁.setTop (mkF m 112 #[.val (.int p1), .val (.int p2), .val (.int p3), .val (.int (own_b p1)), .val (.int (p3 &&& (3 : Int32))), .val (.int p2), .unset] [(.int ((p1.toUInt32 >>> ((6 : Int32) &&& 31).toUInt32).toInt32))])) _
    refine XS.bipush X0.here hx rfl (hb hby at_112) ?_
    show Steps p.tables e below (s₁.setTop (mkF m 114 #[.val (.int p1), .val (.int p2), .val (.int p3), .val (.int (own_b p1)), .val (.int (p3 &&& (3 : Int32))), .val (.int p2), .unset] [(.int (63 : Int32)), (.int ((p1.toUInt32 >>> ((6 : Int32) &&& 31).toUInt32).toInt32))])) _
    refine XS.iand X0.here hx rfl (hb hby at_114) rfl ?_
    show Steps p.tables e below (s₁.setTop (mkF m 115 #[.val (.int p1), .val (.int p2), .val (.int p3), .val (.int (own_b p1)), .val (.int (p3 &&& (3 : Int32))), .val (.int p2), .unset] [(.int (((p1.toUInt32 >>> ((6 : Int32) &&& 31).toUInt32).toInt32) &&& (63 : Int32)))])) _
    refine XS.iload X0.here hx rfl (hb hby at_115) rfl ?_
    show Steps p.tables e below (s₁.setTop (mkF m 117 #[.val (.int p1), .val (.int p2), .val (.int p3), .val (.int (own_b p1)), .val (.int (p3 &&& (3 : Int32))), .val (.int p2), .unset] [(.int p2), (.int (((p1.toUInt32 >>> ((6 : Int32) &&& 31).toUInt32).toInt32) &&& (63 : Int32)))])) _
    refine XS.bipush X0.here hx rfl (hb hby at_117) ?_
    show Steps p.tables e below (s₁.setTop (mkF m 119 #[.val (.int p1), .val (.int p2), .val (.int p3), .val (.int (own_b p1)), .val (.int (p3 &&& (3 : Int32))), .val (.int p2), .unset] [(.int (6 : Int32)), (.int p2), (.int (((p1.toUInt32 >>> ((6 : Int32) &&& 31).toUInt32).toInt32) &&& (63 : Int32)))])) _
    refine XS.iushr X0.here hx rfl (hb hby at_119) rfl ?_
    show Steps p.tables e below (s₁.setTop (mkF m 120 #[.val (.int p1), .val (.int p2), .val (.int p3), .val (.int (own_b p1)), .val (.int (p3 &&& (3 : Int32))), .val (.int p2), .unset] [(.int ((p2.toUInt32 >>> ((6 : Int32) &&& 31).toUInt32).toInt32)), (.int (((p1.toUInt32 >>> ((6 : Int32) &&& 31).toUInt32).toInt32) &&& (63 : Int32)))])) _
    refine XS.bipush X0.here hx rfl (hb hby at_120) ?_
    show Steps p.tables e below (s₁.setTop (mkF m 122 #[.val (.int p1), .val (.int p2), .val (.int p3), .val (.int (own_b p1)), .val (.int (p3 &&& (3 : Int32))), .val (.int p2), .unset] [(.int (63 : Int32)), (.int ((p2.toUInt32 >>> ((6 : Int32) &&& 31).toUInt32).toInt32)), (.int (((p1.toUInt32 >>> ((6 : Int32) &&& 31).toUInt32).toInt32) &&& (63 : Int32)))])) _
    refine XS.iand X0.here hx rfl (hb hby at_122) rfl ?_
    show Steps p.tables e below (s₁.setTop (mkF m 123 #[.val (.int p1), .val (.int p2), .val (.int p3), .val (.int (own_b p1)), .val (.int (p3 &&& (3 : Int32))), .val (.int p2), .unset] [(.int (((p2.toUInt32 >>> ((6 : Int32) &&& 31).toUInt32).toInt32) &&& (63 : Int32))), (.int (((p1.toUInt32 >>> ((6 : Int32) &&& 31).toUInt32).toInt32) &&& (63 : Int32)))])) _
    refine XS.icmpNo X0.here hx rfl (hb hby at_123) rfl (teq hc123).2 ?_
    show Steps p.tables e below (s₁.setTop (mkF m 126 #[.val (.int p1), .val (.int p2), .val (.int p3), .val (.int (own_b p1)), .val (.int (p3 &&& (3 : Int32))), .val (.int p2), .unset] [])) _
    refine XS.iloadN X0.here hx rfl (hb hby at_126) rfl ?_
    show Steps p.tables e below (s₁.setTop (mkF m 127 #[.val (.int p1), .val (.int p2), .val (.int p3), .val (.int (own_b p1)), .val (.int (p3 &&& (3 : Int32))), .val (.int p2), .unset] [(.int p1)])) _
    refine XS.bipush X0.here hx rfl (hb hby at_127) ?_
    show Steps p.tables e below (s₁.setTop (mkF m 129 #[.val (.int p1), .val (.int p2), .val (.int p3), .val (.int (own_b p1)), .val (.int (p3 &&& (3 : Int32))), .val (.int p2), .unset] [(.int (15 : Int32)), (.int p1)])) _
    refine XS.iushr X0.here hx rfl (hb hby at_129) rfl ?_
    show Steps p.tables e below (s₁.setTop (mkF m 130 #[.val (.int p1), .val (.int p2), .val (.int p3), .val (.int (own_b p1)), .val (.int (p3 &&& (3 : Int32))), .val (.int p2), .unset] [(.int ((p1.toUInt32 >>> ((15 : Int32) &&& 31).toUInt32).toInt32))])) _
    refine XS.bipush X0.here hx rfl (hb hby at_130) ?_
    show Steps p.tables e below (s₁.setTop (mkF m 132 #[.val (.int p1), .val (.int p2), .val (.int p3), .val (.int (own_b p1)), .val (.int (p3 &&& (3 : Int32))), .val (.int p2), .unset] [(.int (7 : Int32)), (.int ((p1.toUInt32 >>> ((15 : Int32) &&& 31).toUInt32).toInt32))])) _
    refine XS.iand X0.here hx rfl (hb hby at_132) rfl ?_
    show Steps p.tables e below (s₁.setTop (mkF m 133 #[.val (.int p1), .val (.int p2), .val (.int p3), .val (.int (own_b p1)), .val (.int (p3 &&& (3 : Int32))), .val (.int p2), .unset] [(.int (((p1.toUInt32 >>> ((15 : Int32) &&& 31).toUInt32).toInt32) &&& (7 : Int32)))])) _
    refine XS.iload X0.here hx rfl (hb hby at_133) rfl ?_
    show Steps p.tables e below (s₁.setTop (mkF m 135 #[.val (.int p1), .val (.int p2), .val (.int p3), .val (.int (own_b p1)), .val (.int (p3 &&& (3 : Int32))), .val (.int p2), .unset] [(.int p2), (.int (((p1.toUInt32 >>> ((15 : Int32) &&& 31).toUInt32).toInt32) &&& (7 : Int32)))])) _
    refine XS.bipush X0.here hx rfl (hb hby at_135) ?_
    show Steps p.tables e below (s₁.setTop (mkF m 137 #[.val (.int p1), .val (.int p2), .val (.int p3), .val (.int (own_b p1)), .val (.int (p3 &&& (3 : Int32))), .val (.int p2), .unset] [(.int (15 : Int32)), (.int p2), (.int (((p1.toUInt32 >>> ((15 : Int32) &&& 31).toUInt32).toInt32) &&& (7 : Int32)))])) _
    refine XS.iushr X0.here hx rfl (hb hby at_137) rfl ?_
    show Steps p.tables e below (s₁.setTop (mkF m 138 #[.val (.int p1), .val (.int p2), .val (.int p3), .val (.int (own_b p1)), .val (.int (p3 &&& (3 : Int32))), .val (.int p2), .unset] [(.int ((p2.toUInt32 >>> ((15 : Int32) &&& 31).toUInt32).toInt32)), (.int (((p1.toUInt32 >>> ((15 : Int32) &&& 31).toUInt32).toInt32) &&& (7 : Int32)))])) _
    refine XS.bipush X0.here hx rfl (hb hby at_138) ?_
    show Steps p.tables e below (s₁.setTop (mkF m 140 #[.val (.int p1), .val (.int p2), .val (.int p3), .val (.int (own_b p1)), .val (.int (p3 &&& (3 : Int32))), .val (.int p2), .unset] [(.int (7 : Int32)), (.int ((p2.toUInt32 >>> ((15 : Int32) &&& 31).toUInt32).toInt32)), (.int (((p1.toUInt32 >>> ((15 : Int32) &&& 31).toUInt32).toInt32) &&& (7 : Int32)))])) _
    refine XS.iand X0.here hx rfl (hb hby at_140) rfl ?_
    show Steps p.tables e below (s₁.setTop (mkF m 141 #[.val (.int p1), .val (.int p2), .val (.int p3), .val (.int (own_b p1)), .val (.int (p3 &&& (3 : Int32))), .val (.int p2), .unset] [(.int (((p2.toUInt32 >>> ((15 : Int32) &&& 31).toUInt32).toInt32) &&& (7 : Int32))), (.int (((p1.toUInt32 >>> ((15 : Int32) &&& 31).toUInt32).toInt32) &&& (7 : Int32)))])) _
    refine XS.icmpNo X0.here hx rfl (hb hby at_141) rfl (teq hc141).2 ?_
    show Steps p.tables e below (s₁.setTop (mkF m 144 #[.val (.int p1), .val (.int p2), .val (.int p3), .val (.int (own_b p1)), .val (.int (p3 &&& (3 : Int32))), .val (.int p2), .unset] [])) _
    refine XS.iconst X0.here hx rfl (hb hby at_144) ?_
    show Steps p.tables e below (s₁.setTop (mkF m 145 #[.val (.int p1), .val (.int p2), .val (.int p3), .val (.int (own_b p1)), .val (.int (p3 &&& (3 : Int32))), .val (.int p2), .unset] [(.int (1 : Int32))])) _
    refine XS.goto X0.here hx rfl (pc0 := 145) (pc' := 149) rfl (hb hby at_145) (by decide) (by decide) ?_
    show Steps p.tables e below (s₁.setTop (mkF m 149 #[.val (.int p1), .val (.int p2), .val (.int p3), .val (.int (own_b p1)), .val (.int (p3 &&& (3 : Int32))), .val (.int p2), .unset] [(.int (1 : Int32))])) _
    refine XS.istore X0.here hx rfl (hb hby at_149) rfl (l' := #[.val (.int p1), .val (.int p2), .val (.int p3), .val (.int (own_b p1)), .val (.int (p3 &&& (3 : Int32))), .val (.int p2), .val (.int (1 : Int32))]) rfl ?_
    show Steps p.tables e below (s₁.setTop (mkF m 151 #[.val (.int p1), .val (.int p2), .val (.int p3), .val (.int (own_b p1)), .val (.int (p3 &&& (3 : Int32))), .val (.int p2), .val (.int (1 : Int32))] [])) _
    refine XS.iloadN X0.here hx rfl (hb hby at_151) rfl ?_
    show Steps p.tables e below (s₁.setTop (mkF m 152 #[.val (.int p1), .val (.int p2), .val (.int p3), .val (.int (own_b p1)), .val (.int (p3 &&& (3 : Int32))), .val (.int p2), .val (.int (1 : Int32))] [(.int p1)])) _
    refine XS.iload X0.here hx rfl (hb hby at_152) rfl ?_
    show Steps p.tables e below (s₁.setTop (mkF m 154 #[.val (.int p1), .val (.int p2), .val (.int p3), .val (.int (own_b p1)), .val (.int (p3 &&& (3 : Int32))), .val (.int p2), .val (.int (1 : Int32))] [(.int p2), (.int p1)])) _
    refine st4 _ ?_
    show Steps p.tables e below (T4.setTop (mkF m 157 #[.val (.int p1), .val (.int p2), .val (.int p3), .val (.int (own_b p1)), .val (.int (p3 &&& (3 : Int32))), .val (.int p2), .val (.int (1 : Int32))] [(.int (val1 p1 p2))])) _
    refine XS.iload X4.here hx rfl (hb hby at_157) rfl ?_
    show Steps p.tables e below (T4.setTop (mkF m 159 #[.val (.int p1), .val (.int p2), .val (.int p3), .val (.int (own_b p1)), .val (.int (p3 &&& (3 : Int32))), .val (.int p2), .val (.int (1 : Int32))] [(.int (1 : Int32)), (.int (val1 p1 p2))])) _
    refine XS.icmpNo X4.here hx rfl (hb hby at_159) rfl (teq (by unfold val1; rw [if_pos ((own_iff _ _).mpr ⟨hc82, hc93, hc105, hc123, hc141⟩)] : (val1 p1 p2) = (1 : Int32))).2 ?_
    show Steps p.tables e below (T4.setTop (mkF m 162 #[.val (.int p1), .val (.int p2), .val (.int p3), .val (.int (own_b p1)), .val (.int (p3 &&& (3 : Int32))), .val (.int p2), .val (.int (1 : Int32))] [])) _
    refine XS.iconst X4.here hx rfl (hb hby at_162) ?_
    show Steps p.tables e below (T4.setTop (mkF m 163 #[.val (.int p1), .val (.int p2), .val (.int p3), .val (.int (own_b p1)), .val (.int (p3 &&& (3 : Int32))), .val (.int p2), .val (.int (1 : Int32))] [(.int (1 : Int32))])) _
    refine XS.goto X4.here hx rfl (pc0 := 163) (pc' := 167) rfl (hb hby at_163) (by decide) (by decide) ?_
    show Steps p.tables e below (T4.setTop (mkF m 167 #[.val (.int p1), .val (.int p2), .val (.int p3), .val (.int (own_b p1)), .val (.int (p3 &&& (3 : Int32))), .val (.int p2), .val (.int (1 : Int32))] [(.int (1 : Int32))])) _
    exact retN X4 hx (t := .boolean) Bd.returns (by simp) (hb hby at_167) hr
  · show Q0 Z p1 p2 p3 h0 n0 _ T4.heap _
    exact ⟨rfl, N4⟩
theorem rm0 (l : Launch) (Z : State) (a0 : Array Value) (hw : ∀ d ∈ tables_1, d.before a0 Z = true) (ws : List Jvm.Cond) (p1 : Int32) (p2 : Int32) (p3 : Int32) (h0 : Heap) (n0 : Nat) (Z0 : n0 ≤ h0.size)   :
    MetFree l x (head1 (Jvm.Cond.code x code maxLocals ret :: ws) room_1) (fun a U => a = #[(.int p1), (.int p2), (.int p3)] ∧ Z.Warmed39 U.vm ∧ U.heap = h0) (fun _ _ _ _ _ => True) (fun _ U o U' => ∃ v L, o = .returned v ∧ Q0 Z p1 p2 p3 h0 n0 v U'.heap L ∧ FrameEnd U o U' L room_1.cells room_1.slots) := by
  by_cases hc34 : (p3 &&& (3 : Int32)) = (0 : Int32)
  · by_cases hc82 : ((p2.toUInt32 >>> ((18 : Int32) &&& 31).toUInt32).toInt32) = (0 : Int32)
    · by_cases hc93 : (((p2.toUInt32 >>> ((12 : Int32) &&& 31).toUInt32).toInt32) &&& (7 : Int32)) = (0 : Int32)
      · by_cases hc105 : (p1 &&& (63 : Int32)) = (p2 &&& (63 : Int32))
        · by_cases hc123 : (((p1.toUInt32 >>> ((6 : Int32) &&& 31).toUInt32).toInt32) &&& (63 : Int32)) = (((p2.toUInt32 >>> ((6 : Int32) &&& 31).toUInt32).toInt32) &&& (63 : Int32))
          · by_cases hc141 : (((p1.toUInt32 >>> ((15 : Int32) &&& 31).toUInt32).toInt32) &&& (7 : Int32)) = (((p2.toUInt32 >>> ((15 : Int32) &&& 31).toUInt32).toInt32) &&& (7 : Int32))
            · exact rm0_fffffff l Z a0 hw ws p1 p2 p3 h0 n0 Z0 hc34 hc82 hc93 hc105 hc123 hc141
            · exact rm0_ffffftf l Z a0 hw ws p1 p2 p3 h0 n0 Z0 hc34 hc82 hc93 hc105 hc123 hc141
          · exact rm0_fffftf l Z a0 hw ws p1 p2 p3 h0 n0 Z0 hc34 hc82 hc93 hc105 hc123
        · exact rm0_ffftf l Z a0 hw ws p1 p2 p3 h0 n0 Z0 hc34 hc82 hc93 hc105
      · exact rm0_fftf l Z a0 hw ws p1 p2 p3 h0 n0 Z0 hc34 hc82 hc93
    · exact rm0_ftf l Z a0 hw ws p1 p2 p3 h0 n0 Z0 hc34 hc82
  · by_cases hc46 : (p3 &&& (3 : Int32)) = (1 : Int32)
    · by_cases hc82 : (((own_b p1).toUInt32 >>> ((18 : Int32) &&& 31).toUInt32).toInt32) = (0 : Int32)
      · by_cases hc93 : ((((own_b p1).toUInt32 >>> ((12 : Int32) &&& 31).toUInt32).toInt32) &&& (7 : Int32)) = (0 : Int32)
        · by_cases hc105 : (p1 &&& (63 : Int32)) = ((own_b p1) &&& (63 : Int32))
          · by_cases hc123 : (((p1.toUInt32 >>> ((6 : Int32) &&& 31).toUInt32).toInt32) &&& (63 : Int32)) = ((((own_b p1).toUInt32 >>> ((6 : Int32) &&& 31).toUInt32).toInt32) &&& (63 : Int32))
            · by_cases hc141 : (((p1.toUInt32 >>> ((15 : Int32) &&& 31).toUInt32).toInt32) &&& (7 : Int32)) = ((((own_b p1).toUInt32 >>> ((15 : Int32) &&& 31).toUInt32).toInt32) &&& (7 : Int32))
              · exact rm0_tfffffff l Z a0 hw ws p1 p2 p3 h0 n0 Z0 hc34 hc46 hc82 hc93 hc105 hc123 hc141
              · exact rm0_tffffftf l Z a0 hw ws p1 p2 p3 h0 n0 Z0 hc34 hc46 hc82 hc93 hc105 hc123 hc141
            · exact rm0_tfffftf l Z a0 hw ws p1 p2 p3 h0 n0 Z0 hc34 hc46 hc82 hc93 hc105 hc123
          · exact rm0_tffftf l Z a0 hw ws p1 p2 p3 h0 n0 Z0 hc34 hc46 hc82 hc93 hc105
        · exact rm0_tfftf l Z a0 hw ws p1 p2 p3 h0 n0 Z0 hc34 hc46 hc82 hc93
      · exact rm0_tftf l Z a0 hw ws p1 p2 p3 h0 n0 Z0 hc34 hc46 hc82
    · by_cases hc58 : (p3 &&& (3 : Int32)) = (2 : Int32)
      · by_cases hc82 : (((own_x p1 p2).toUInt32 >>> ((18 : Int32) &&& 31).toUInt32).toInt32) = (0 : Int32)
        · by_cases hc93 : ((((own_x p1 p2).toUInt32 >>> ((12 : Int32) &&& 31).toUInt32).toInt32) &&& (7 : Int32)) = (0 : Int32)
          · by_cases hc105 : (p1 &&& (63 : Int32)) = ((own_x p1 p2) &&& (63 : Int32))
            · by_cases hc123 : (((p1.toUInt32 >>> ((6 : Int32) &&& 31).toUInt32).toInt32) &&& (63 : Int32)) = ((((own_x p1 p2).toUInt32 >>> ((6 : Int32) &&& 31).toUInt32).toInt32) &&& (63 : Int32))
              · by_cases hc141 : (((p1.toUInt32 >>> ((15 : Int32) &&& 31).toUInt32).toInt32) &&& (7 : Int32)) = ((((own_x p1 p2).toUInt32 >>> ((15 : Int32) &&& 31).toUInt32).toInt32) &&& (7 : Int32))
                · exact rm0_ttfffffff l Z a0 hw ws p1 p2 p3 h0 n0 Z0 hc34 hc46 hc58 hc82 hc93 hc105 hc123 hc141
                · exact rm0_ttffffftf l Z a0 hw ws p1 p2 p3 h0 n0 Z0 hc34 hc46 hc58 hc82 hc93 hc105 hc123 hc141
              · exact rm0_ttfffftf l Z a0 hw ws p1 p2 p3 h0 n0 Z0 hc34 hc46 hc58 hc82 hc93 hc105 hc123
            · exact rm0_ttffftf l Z a0 hw ws p1 p2 p3 h0 n0 Z0 hc34 hc46 hc58 hc82 hc93 hc105
          · exact rm0_ttfftf l Z a0 hw ws p1 p2 p3 h0 n0 Z0 hc34 hc46 hc58 hc82 hc93
        · exact rm0_ttftf l Z a0 hw ws p1 p2 p3 h0 n0 Z0 hc34 hc46 hc58 hc82
      · by_cases hc82 : ((p1.toUInt32 >>> ((18 : Int32) &&& 31).toUInt32).toInt32) = (0 : Int32)
        · by_cases hc93 : (((p1.toUInt32 >>> ((12 : Int32) &&& 31).toUInt32).toInt32) &&& (7 : Int32)) = (0 : Int32)
          · exact rm0_tttffffff l Z a0 hw ws p1 p2 p3 h0 n0 Z0 hc34 hc46 hc58 hc82 hc93
          · exact rm0_tttftf l Z a0 hw ws p1 p2 p3 h0 n0 Z0 hc34 hc46 hc58 hc82 hc93
        · exact rm0_ttttf l Z a0 hw ws p1 p2 p3 h0 n0 Z0 hc34 hc46 hc58 hc82
set_option maxRecDepth 65536 in
set_option maxHeartbeats 40000000 in
theorem comes_1 {Post : Tables → Env → Array Value → State → Outcome → State → Prop} (hpost : ∀ tb e args s v u, (limb_1_1.after args s (.returned v) u = true ∧ limb_1_2.after args s (.returned v) u = true ∧ True) → FrameEnd s (.returned v) u (Jvm.fieldLocs frame_1_writes args s ++ Jvm.arrayLocs frame_1_arrays args s ++ Jvm.staticLocs frame_1_statics s) 0 0 → Post tb e args s (.returned v) u) :
    ArmFor flags0 classFile x code maxLocals ret World_1 tables_1 room_1 Calls_1 rest_1 Pre_1 Post := by
  intro l hfl _ _ p e ha hc hk s m args below hf hA hF happ hP
  obtain ⟨hcalls, hrest, hpre⟩ := hP
  obtain ⟨-, -, -, hnamed, -, -, -, hat⟩ := (Spec.applies_iff hf).mp happ
  obtain ⟨hg, hn⟩ := and_e (Cond.before_iff.mp (show (Jvm.Cond.and given_1 narrow_1).before args s = true from hpre))
  obtain ⟨g5, g6⟩ := and_e hg
  obtain ⟨g7, g8⟩ := and_e g6
  obtain ⟨g9, g10⟩ := and_e g8
  obtain ⟨w0, w1, w2, rfl⟩ : ∃ w0 w1 w2 : Value, args = #[w0, w1, w2] := by
    have hs : args.size = 3 := by simpa [Cond.value, given_1] using g5
    obtain ⟨L⟩ := args
    match L, hs with
    | [w0, w1, w2], _ => exact ⟨w0, w1, w2, rfl⟩
  have hw := fun d (hd : d ∈ tables_1) => atoms_spec (ws := Jvm.Cond.code x code maxLocals ret :: tables_1) hat d (List.mem_cons_of_mem _ hd)
  have hfit : Fit s := fun {y c} hc i hi => by
    obtain ⟨ha, rfl⟩ := Array.getElem?_eq_some_iff.mp hc
    have q := List.all_eq_true.mp ((Array.all_eq_true_iff_forall_mem.mp hF) _ (Array.getElem_mem ha)) i (List.mem_range.mpr hi)
    simpa [Array.getElem?_eq_getElem hi] using q
  obtain ⟨i0, ei0⟩ := is_v g7
  obtain rfl : w0 = (.int i0) := Option.some.inj ei0
  obtain ⟨i1, ei1⟩ := is_v g9
  obtain rfl : w1 = (.int i1) := Option.some.inj ei1
  obtain ⟨i2, ei2⟩ := is_v g10
  obtain rfl : w2 = (.int i2) := Option.some.inj ei2
  obtain ⟨n, o, h1, h2, h3, _, L, rfl, ⟨rfl, N⟩, hq⟩ := rm0 l s _ hw tables_1 i0 i1 i2 s.heap s.heap.size (Nat.le_refl _) p e ha hc hk s m _ below hf ((Spec.applies_iff_loose hf).mp happ).1 ⟨rfl, State.Warmed39.refl s, rfl⟩ trivial
  refine ⟨n, _, h1, h2, h3, hpost _ _ _ _ _ _ ⟨Cond.after_iff.mpr rfl, Cond.after_iff.mpr (eq_i res_at (Term.int_eval (1)) rfl), trivial⟩ ⟨hq.1, hq.2.1, (hq.2.2.sift fun y hy => Or.inr (N y hy)).mono (by decide) (by decide)⟩⟩
theorem main_1_1 : Claimed_1_1 := comes_1 fun _ _ _ _ _ _ h hF => ⟨h.1, hF⟩
theorem main_1_2 : Claimed_1_2 := comes_1 fun _ _ _ _ _ _ h hF => ⟨h.2.1, hF⟩
end Jvm.Pilot.@@N@@
namespace Jvm.Pilot.@@N@@
open Jvm Jvm.ClassFile Sem Op Lib Jvm.Free Jvm.Stand Jvm.Pilot.@@N@@.Jvm.D
/-! MADE BY PROGRAM (witnessworld.py) out of the Statement's table words and the real class files: 7 classes; the members and pool entries that the words name. The judged class is class 1, her method 1. -/
namespace start1
open Jvm.ClassFile
def u (s : String) : CpInfo := .utf8 (stringToUtf16 s)
/-- a pool by its gaps: so many unusable entries, then the entry; so many at the end -/
def gap : Nat → List CpInfo → List CpInfo
  | 0, r => r
  | n + 1, r => .unusable :: gap n r
def poolList (es : List (Nat × CpInfo)) (last : Nat) : List CpInfo := es.foldr (fun e r => gap e.1 (e.2 :: r)) (gap last [])
def pool (es : List (Nat × CpInfo)) (last : Nat) : Array CpInfo := ⟨poolList es last⟩
def fileOf (pool : Array CpInfo) (this : Nat) (attrs : Array Attribute := #[]) (ms : Array MethodInfo := #[]) (fl : Nat := 33) (sup : Nat := 0) (ifs : Array Nat := #[]) (fds : Array FieldInfo := #[]) : ClassFile where
  minorVersion := 0
  majorVersion := 65
  constantPool := pool
  accessFlags := fl
  thisClass := this
  superClass := sup
  interfaces := ifs
  fields := fds
  methods := ms
  attributes := attrs
def plain (name : String) (sup : Option ClassId) : Class where
  name := name
  kind := .ordinary
  loader := none
  accessFlags := 33
  super := sup
  interfaces := #[]
  cf := none
  fields := #[]
  methods := #[]
  instanceTypes := #[]
  staticTypes := #[]
  resolved := #[]
  callSites := []
  init := .initialized
  statics := none
  mirror := none

def pool0 : Array CpInfo := pool [(5, u "<init>"), (0, u "()V"), (1, .class_ 10), (1, u "java/lang/Object")] 113

def k0m0 : Method := { name := "<init>", desc := "()V", sig := { parameters := [], returnType := none }, accessFlags := 1, code := none }
/-- java/lang/Object -/
def k0 : Class := { plain "java/lang/Object" none with
  accessFlags := 33
  interfaces := #[]
  cf := some (fileOf pool0 8 #[] #[{ accessFlags := 1, nameIndex := 5, descriptorIndex := 6, attributes := #[] }] 33 0 #[] #[])
  fields := #[]
  methods := #[k0m0]
  instanceTypes := #[]
  staticTypes := #[]
  resolved := Array.replicate 124 none
  statics := none }

def pool1 : Array CpInfo := pool [(2, .class_ 4), (1, u "java/lang/Object"), (0, u "<init>"), (0, u "()V"), (0, .methodref 8 9), (0, .class_ 10), (0, .nameAndType 11 12), (0, u "touchmove/position/PackedMove"), (0, u "is"), (0, u "(II)Z"), (0, .class_ 14), (0, u "touchmove/position/PackedMoveIsPinLaw"), (2, u "law"), (0, u "(III)Z")] 3

def k1m0 : Method := { name := "<init>", desc := "()V", sig := { parameters := [], returnType := none }, accessFlags := 1, code := none }
def k1c1 : Code := { maxStack := 4, maxLocals := 7, code := code, exceptionTable := #[], attributes := #[] }
def k1m1 : Method := { name := "law", desc := "(III)Z", sig := { parameters := [.int, .int, .int], returnType := some .boolean }, accessFlags := 9, code := some k1c1 }
/-- touchmove/position/PackedMoveIsPinLaw -/
def k1 : Class := { plain "touchmove/position/PackedMoveIsPinLaw" (some 0) with
  accessFlags := 49
  interfaces := #[]
  cf := some (fileOf pool1 13 #[] #[{ accessFlags := 1, nameIndex := 5, descriptorIndex := 6, attributes := #[] }, { accessFlags := 9, nameIndex := 17, descriptorIndex := 18, attributes := #[] }] 49 2 #[] #[])
  fields := #[]
  methods := #[k1m0, k1m1]
  instanceTypes := #[]
  staticTypes := #[]
  resolved := Array.replicate 22 none
  statics := none }

def pool2 : Array CpInfo := pool [(2, .class_ 4), (1, u "java/lang/Object"), (0, u "<init>"), (0, u "()V"), (11, .class_ 20), (1, u "touchmove/position/PackedMove"), (38, .integer 233471), (0, u "PLAIN"), (0, u "I"), (2, u "DOUBLE_STEP"), (1, u "EN_PASSANT"), (1, u "CASTLING"), (1, u "KEY"), (11, u "is"), (0, u "(II)Z")] 2

def k2m0 : Method := { name := "<init>", desc := "()V", sig := { parameters := [], returnType := none }, accessFlags := 2, code := none }
def k2c1 : Code := { maxStack := 2, maxLocals := 2, code := prog_53_method_13_code, exceptionTable := #[], attributes := #[] }
def k2m1 : Method := { name := "is", desc := "(II)Z", sig := { parameters := [.int, .int], returnType := some .boolean }, accessFlags := 8, code := some k2c1 }
/-- touchmove/position/PackedMove -/
def k2 : Class := { plain "touchmove/position/PackedMove" (some 0) with
  accessFlags := 48
  interfaces := #[]
  cf := some (fileOf pool2 18 #[] #[{ accessFlags := 2, nameIndex := 5, descriptorIndex := 6, attributes := #[] }, { accessFlags := 8, nameIndex := 82, descriptorIndex := 83, attributes := #[] }] 48 2 #[] #[{ accessFlags := 24, nameIndex := 60, descriptorIndex := 61, attributes := #[] }, { accessFlags := 24, nameIndex := 64, descriptorIndex := 61, attributes := #[] }, { accessFlags := 24, nameIndex := 66, descriptorIndex := 61, attributes := #[] }, { accessFlags := 24, nameIndex := 68, descriptorIndex := 61, attributes := #[] }, { accessFlags := 26, nameIndex := 70, descriptorIndex := 61, attributes := #[] }])
  fields := #[{ name := "PLAIN", type := .int, accessFlags := 24, slot := 0, constantValue := 0 }, { name := "DOUBLE_STEP", type := .int, accessFlags := 24, slot := 1, constantValue := 0 }, { name := "EN_PASSANT", type := .int, accessFlags := 24, slot := 2, constantValue := 0 }, { name := "CASTLING", type := .int, accessFlags := 24, slot := 3, constantValue := 0 }, { name := "KEY", type := .int, accessFlags := 26, slot := 4, constantValue := 0 }]
  methods := #[k2m0, k2m1]
  instanceTypes := #[]
  staticTypes := #[.int, .int, .int, .int, .int]
  resolved := Array.replicate 86 none
  statics := none }

def pool3 : Array CpInfo := pool [(1, u "java/lang/Cloneable"), (0, .class_ 1), (0, u "java/lang/Object"), (0, .class_ 3)] 3

/-- java/lang/Cloneable -/
def k3 : Class := { plain "java/lang/Cloneable" (some 0) with
  accessFlags := 1537
  interfaces := #[]
  cf := some (fileOf pool3 2 #[] #[] 1537 4 #[] #[])
  fields := #[]
  methods := #[]
  instanceTypes := #[]
  staticTypes := #[]
  resolved := Array.replicate 8 none
  statics := none }

def pool4 : Array CpInfo := pool [(1, u "java/io/Serializable"), (0, .class_ 1), (0, u "java/lang/Object"), (0, .class_ 3)] 3

/-- java/io/Serializable -/
def k4 : Class := { plain "java/io/Serializable" (some 0) with
  accessFlags := 1537
  interfaces := #[]
  cf := some (fileOf pool4 2 #[] #[] 1537 4 #[] #[])
  fields := #[]
  methods := #[]
  instanceTypes := #[]
  staticTypes := #[]
  resolved := Array.replicate 8 none
  statics := none }

/-- the primitive byte -/
def k5 : Class := { plain "byte" none with kind := .primitive 'B', accessFlags := 0x411 }
/-- [B -/
def k6 : Class := { plain "[B" (some 0) with kind := .array 5 .byte, interfaces := #[3, 4], accessFlags := 1041 }

def heap : Heap := #[]
def classes : Array Class := #[k0, k1, k2, k3, k4, k5, k6]
def interned : List (Array UInt16 × Addr) := []
def slotsUsed : Nat := 0
def theMethod : MethodId := ⟨1, 1⟩
def args0 : Array Value := #[.int 5, .int 6, .int 7]
def aboutOver (below : List Frame) : State where
  vm := { classes := classes, interned := interned.toArray }
  heap := heap
  slotsUsed := slotsUsed
  threads := #[{ frames := .invoking theMethod args0 :: below }]
def below0 : List Frame := [.native { method := ⟨0, 0⟩, args := #[] }]
def about1 : State := aboutOver below0
def p0 : Program := .bare "" "" ""
def e0 : Env := launch0.env 0 0 0
theorem w_frames : about1.frames = Frame.invoking theMethod args0 :: below0 := rfl
set_option maxRecDepth 65536 in
theorem w_args : argsFit about1.vm theMethod args0 = true := by decide +kernel
set_option maxRecDepth 65536 in
theorem w_heap : heapFits about1 = true := by decide +kernel
set_option maxRecDepth 65536 in
theorem w_runnable : about1.curStatus? = some .runnable := by decide +kernel
set_option maxRecDepth 65536 in
theorem w_alone : about1.alone = true := by decide +kernel
set_option maxRecDepth 65536 in
theorem w_named : about1.methodNamed? x = some theMethod := by decide +kernel
set_option maxRecDepth 65536 in
theorem w_hears : about1.hears theMethod below0 = true := by decide +kernel
set_option maxRecDepth 65536 in
theorem w_ripe : about1.ripe theMethod args0 below0 = true := by decide +kernel
theorem w_running : about1.status = .running := rfl
set_option maxRecDepth 65536 in
theorem w_room : about1.hasRoom e0.platform room_1 = true :=
  launch0.hasRoom_least _ room_1 (by decide +kernel) (by decide +kernel) (by decide +kernel) (by decide +kernel) (by decide +kernel) (by decide +kernel)
theorem allAtoms_all (ts : List Jvm.Cond) (a : Array Jvm.Value) (st : Jvm.State) : (allAtoms ts).before a st = ts.all (fun c => c.before a st) := by
  induction ts with
  | nil => rfl
  | cons c t ih =>
    show (Jvm.Cond.and c (allAtoms t)).before a st = _
    rw [Jvm.Cond.before_and, ih, List.all_cons]
def words1 : List Jvm.Cond := Jvm.Cond.code x code maxLocals ret :: tables_1
/-- a 'code' word, met by the world's own term for the bytes: nothing is compared byte by byte -/
theorem code_word {y : MethodName} {bytes : ByteArray} {mx : Nat} {rt : Option FieldType} {a : Array Value} {s : State} {m : MethodId} {meth : Method} {c : Code} (h1 : s.methodNamed? y = some m) (h2 : s.vm.method? m = some meth) (h3 : meth.code = some c) (h4 : c.code = bytes)
    (h5 : (c.maxLocals == mx && c.exceptionTable.isEmpty && decide (c.maxStack ≤ mostOperands) && decide (meth.sig.returnType = rt) && !meth.locks && decide (parseMethodDescriptor y.desc = some meth.sig)) = true) : (Jvm.Cond.code y bytes mx rt).before a s = true := by
  simp only [Bool.and_eq_true, beq_iff_eq, Bool.not_eq_true', decide_eq_true_eq] at h5
  obtain ⟨⟨⟨⟨⟨g1, g2⟩, g3⟩, g4⟩, g5⟩, g6⟩ := h5
  simp [Cond.before, Cond.holds, Cond.value, h1, h2, h3, h4, g1, g2, g3, g4, g5, g6]
def isCode : Jvm.Cond → Bool
  | .code _ _ _ _ => true
  | _ => false
theorem all_split {L : List Jvm.Cond} {P : Jvm.Cond → Bool} (h1 : L.all (fun c => isCode c || P c) = true) (h2 : ∀ c ∈ L.filter isCode, P c = true) : L.all P = true := by
  refine List.all_eq_true.mpr fun c hc => ?_
  have h := List.all_eq_true.mp h1 c hc
  rcases Bool.eq_false_or_eq_true (isCode c) with hi | hi
  · exact h2 c (List.mem_filter.mpr ⟨hc, hi⟩)
  · simpa [hi] using h
set_option maxRecDepth 65536 in
theorem w_c0 : (Jvm.Cond.code x code maxLocals ret).before args0 about1 = true := code_word (m := ⟨1, 1⟩) (meth := k1m1) (c := k1c1) (by decide +kernel) rfl rfl rfl (by decide +kernel)
set_option maxRecDepth 65536 in
theorem w_c1 : (Jvm.Cond.code ({ cls := "touchmove/position/PackedMove", name := "is", desc := "(II)Z" } : Jvm.MethodName) prog_53_method_13_code (2 : Nat) (Option.some Jvm.ClassFile.FieldType.boolean)).before args0 about1 = true := code_word (m := ⟨2, 1⟩) (meth := k2m1) (c := k2c1) (by decide +kernel) rfl rfl rfl (by decide +kernel)
def codes1 : List Jvm.Cond := [Jvm.Cond.code x code maxLocals ret, Jvm.Cond.code ({ cls := "touchmove/position/PackedMove", name := "is", desc := "(II)Z" } : Jvm.MethodName) prog_53_method_13_code (2 : Nat) (Option.some Jvm.ClassFile.FieldType.boolean)]
set_option maxRecDepth 65536 in
theorem codes_eq : words1.filter isCode = codes1 := rfl
theorem w_codes : ∀ c ∈ words1.filter isCode, c.before args0 about1 = true := by
  rw [codes_eq]
  intro c hc
  simp only [codes1, List.mem_cons, List.not_mem_nil, or_false] at hc
  rcases hc with rfl | rfl
  · exact w_c0
  · exact w_c1
set_option maxRecDepth 65536 in
theorem w_t1 : words1.all (fun c => isCode c || c.before args0 about1) = true := by decide +kernel
theorem w_tables : (allAtoms (Jvm.Cond.code x code maxLocals ret :: tables_1)).before args0 about1 = true := by
  rw [allAtoms_all]
  show words1.all (fun c => c.before args0 about1) = true
  refine all_split ?_ w_codes
  rw [w_t1]
set_option maxRecDepth 65536 in
theorem w_case : (Jvm.Cond.and given_1 narrow_1).before args0 about1 = true := by decide +kernel
theorem w_applies : (headSpec (Jvm.Cond.code x code maxLocals ret :: tables_1) room_1).applies x e0.platform about1 = true :=
  (Spec.applies_iff w_frames).mpr ⟨w_running, w_runnable, w_alone, w_named, w_hears, w_ripe, w_room, w_tables⟩
theorem atStart : AtStart classFile x code maxLocals ret World_1 tables_1 room_1 Calls_1 rest_1 Pre_1 launch0 p0 e0 about1 theMethod args0 below0 :=
  ⟨lists_1, trivial, launch0.admits_env _ _ _, launch0.least_env, fairChoices_fair.cas, fairChoices_fair.clock, w_frames, w_args, w_heap, w_applies, trivial, trivial, w_case⟩
end start1
theorem witness_1 : WitnessClaimed_1 := ⟨start1.p0, start1.e0, start1.about1, start1.theMethod, start1.args0, start1.below0, start1.atStart⟩
end Jvm.Pilot.@@N@@
