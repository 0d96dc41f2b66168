import JvmDerived
import JvmDerived.Pilot.@@N@@Statement
import JvmDerived.Pilot.@@N@@Code
set_option linter.unusedVariables false
set_option linter.unusedSimpArgs false
namespace Jvm.RoadKit
open Sem ClassFile Op Lib Jvm.Stand Jvm.Free Jvm.LawKit
section New
variable {p : Program} {l : Launch} {e : Env} {R : Room} {s : State} {m : MethodId} {args : Array Value} {below : List Frame} {meth : Method} {c : Code} {T : State} {locs : List Loc} {cells slots : Nat}
theorem retI (X : Stand p l e R s m args below meth c T locs cells slots) (hx : p.tables.exec = Jvm.exec) {pc : Nat} {Ls : Array Slot} {z : Int32} {rest : List Value} (hret : meth.sig.returnType = some .int) (hd : decode c.code pc = .ok (.ireturn, 1)) {fs : List Frame}
    (hl : ∀ (f : JFrame) (acts : List Action), f.method = m → f.locked = none → f.entered = [] → (doReturn e (T.setTop f) acts (some (.int z))).1 = T.setFrames fs) : Steps p.tables e below (T.setTop (mkF m pc Ls (.int z :: rest))) (T.setFrames fs) := by
  have hm' : T.vm.method? m = some meth := X.method'
  have hn : narrow .int (.int z) = .int z := rfl
  show Steps p.tables e below (T.setTop { method := m, pc := pc, locals := Ls, stack := _ :: rest, locked := none }) _
  jvm_step X.here [X.here.top, hx, hd, hm', hret, hn]
  first | (intro acts; rw [hl _ acts rfl rfl rfl]) | rw [hl _ _ rfl rfl rfl]
  exact Steps.refl _
end New
end Jvm.RoadKit
namespace Jvm.Pilot.@@N@@
open Jvm Jvm.ClassFile Sem Op Lib Jvm.Free Jvm.Stand Jvm.LawKit Jvm.RoadKit Bundle Jvm.Pilot.@@N@@.Jvm.D
theorem own_sel {s : State} {args : Array Value} {y : MethodName} {n : Nat} (hins : (Cond.instantiable y.cls n).before args s = true) (hpriv : s.PrivateAt y) (hinst : (Cond.instanceMethod y).before args s = true) (hy : y.cls ≠ "java/lang/invoke/MethodHandle" ∧ y.cls ≠ "java/lang/invoke/VarHandle") :
    (Cond.selects y.cls y y).before args s = true := by
  obtain ⟨c, k, hc, hk, -, hniab, -, -⟩ := Cond.instantiable_spec hins
  exact selects_self_of_private hc hk (Bool.or_eq_false_iff.mp hniab).1 hpriv hinst hy
def own_v (x : Int32) : Prop := x = 0 ∨ x = 1 ∨ x = 2
theorem own_v0 : own_v 0 := Or.inl rfl
theorem own_v1 : own_v 1 := Or.inr (Or.inl rfl)
theorem own_v2 : own_v 2 := Or.inr (Or.inr rfl)
def own_up (f : Int32 → Int32) (i v : Int32) : Int32 → Int32 := fun j => if j = i then v else f j
theorem own_up_s {f : Int32 → Int32} {i v : Int32} : own_up f i v i = v := if_pos rfl
theorem own_up_o {f : Int32 → Int32} {i v j : Int32} (h : j ≠ i) : own_up f i v j = f j := if_neg h
theorem own_inj {i j : Int32} (hi : own_v i) (hj : own_v j) (h : i.toNatClampNeg = j.toNatClampNeg) : i = j := by
  rcases hi with rfl | rfl | rfl <;> rcases hj with rfl | rfl | rfl <;> first | rfl | exact absurd h (by decide)
theorem own_in {x : Int32} {n : Nat} (hx : own_v x) (hn : n = 3) : ¬ (x < 0 ∨ n ≤ x.toNatClampNeg) := by
  subst hn; rcases hx with rfl | rfl | rfl <;> decide
theorem own_par {x : Int32} (hx : own_v x) (h : (0 : Int32) < x) : (((x - (1 : Int32)).toUInt32 >>> ((1 : Int32) &&& 31).toUInt32).toInt32) = 0 := by
  rcases hx with rfl | rfl | rfl <;> first | rfl | (exact absurd h (by decide)) | decide
def own_I (Z : State) (h : Heap) (b : Addr) (f : Int32 → Int32) : Prop := ∃ c : Cell, Arr Z h b c .int ∧ c.slots.size = 3 ∧ ∀ i, own_v i → c.slots[i.toNatClampNeg]? = some (.int (f i))
def own_D (Z : State) (h : Heap) (b : Addr) (f : Int32 → Int64) : Prop := ∃ c : Cell, Arr Z h b c .double ∧ c.slots.size = 3 ∧ ∀ i, own_v i → c.slots[i.toNatClampNeg]? = some (.double (FP.l2d (f i))) ∧ B53 (f i)
theorem own_I.other {Z : State} {h h' : Heap} {a b : Addr} {f : Int32 → Int32} {sl : Nat} {v : Value} (I : own_I Z h b f) (W : Wr h h' a sl v) (q : b ≠ a) : own_I Z h' b f := by
  obtain ⟨c, A, r⟩ := I; exact ⟨c, A.other W q, r⟩
theorem own_D.other {Z : State} {h h' : Heap} {a b : Addr} {f : Int32 → Int64} {sl : Nat} {v : Value} (I : own_D Z h b f) (W : Wr h h' a sl v) (q : b ≠ a) : own_D Z h' b f := by
  obtain ⟨c, A, r⟩ := I; exact ⟨c, A.other W q, r⟩
theorem own_I.keep {Z : State} {h h' : Heap} {b : Addr} {f : Int32 → Int32} {ws : List Addr} (I : own_I Z h b f) (K : Keep h h' ws) (q : b ∉ ws) : own_I Z h' b f := by
  obtain ⟨c, A, r⟩ := I; exact ⟨c, ⟨K.2.1 b c A.1 q, A.2⟩, r⟩
theorem own_D.keep {Z : State} {h h' : Heap} {b : Addr} {f : Int32 → Int64} {ws : List Addr} (I : own_D Z h b f) (K : Keep h h' ws) (q : b ∉ ws) : own_D Z h' b f := by
  obtain ⟨c, A, r⟩ := I; exact ⟨c, ⟨K.2.1 b c A.1 q, A.2⟩, r⟩
theorem own_I.set {Z : State} {h h' : Heap} {b : Addr} {f : Int32 → Int32} {i v : Int32} (I : own_I Z h b f) (hi : own_v i) (W : Wr h h' b i.toNatClampNeg (.int v)) : own_I Z h' b (own_up f i v) := by
  obtain ⟨c, A, S, H⟩ := I
  refine ⟨_, A.same W, ?_, fun j hj => ?_⟩
  · simp [Cell.setSlot, S]
  · have hlt : ∀ x, own_v x → x.toNatClampNeg < c.slots.size := fun x hx => Nat.lt_of_not_le fun q => own_in hx S (Or.inr q)
    by_cases u : j = i
    · subst u; rw [own_up_s]; simp [Cell.setSlot, hlt j hj]
    · rw [own_up_o u, ← H j hj]
      have : i.toNatClampNeg ≠ j.toNatClampNeg := fun q => u (own_inj hi hj q).symm
      simp [Cell.setSlot, Array.getElem?_setIfInBounds, this]
def own_H (Z : State) (h : Heap) (a kk qq ww : Addr) (sz : Int32) (ky : Int32 → Int64) (fh gp : Int32 → Int32) : Prop :=
  Exa Z h a "com/example/slotweave/slotweave/alloc/NodeHeap" ∧ Fld Z h a "com/example/slotweave/slotweave/alloc/NodeHeap" "keys" "[D" (.ref kk) ∧ Fld Z h a "com/example/slotweave/slotweave/alloc/NodeHeap" "heap" "[I" (.ref qq) ∧ Fld Z h a "com/example/slotweave/slotweave/alloc/NodeHeap" "place" "[I" (.ref ww) ∧ Fld Z h a "com/example/slotweave/slotweave/alloc/NodeHeap" "size" "I" (.int sz) ∧ own_D Z h kk ky ∧ own_I Z h qq fh ∧ own_I Z h ww gp
def own_N (n0 : Nat) (a kk qq ww : Addr) : Prop := a ≠ qq ∧ a ≠ ww ∧ qq ≠ ww ∧ kk ≠ a ∧ kk ≠ qq ∧ kk ≠ ww ∧ n0 ≤ a ∧ n0 ≤ qq ∧ n0 ≤ ww
theorem own_H.wq {Z : State} {h h' : Heap} {n0 : Nat} {a kk qq ww : Addr} {sz : Int32} {ky : Int32 → Int64} {fh gp : Int32 → Int32} {i v : Int32} (H : own_H Z h a kk qq ww sz ky fh gp) (N : own_N n0 a kk qq ww) (hi : own_v i) (W : Wr h h' qq i.toNatClampNeg (.int v)) : own_H Z h' a kk qq ww sz ky (own_up fh i v) gp := by
  obtain ⟨E, F1, F2, F3, F4, d, f, g⟩ := H; obtain ⟨n1, n2, n3, n4, n5, n6, -⟩ := N
  exact ⟨E.wr W, F1.other W (Or.inl n1), F2.other W (Or.inl n1), F3.other W (Or.inl n1), F4.other W (Or.inl n1), d.other W n5, f.set hi W, g.other W n3.symm⟩
theorem own_H.ww {Z : State} {h h' : Heap} {n0 : Nat} {a kk qq ww : Addr} {sz : Int32} {ky : Int32 → Int64} {fh gp : Int32 → Int32} {i v : Int32} (H : own_H Z h a kk qq ww sz ky fh gp) (N : own_N n0 a kk qq ww) (hi : own_v i) (W : Wr h h' ww i.toNatClampNeg (.int v)) : own_H Z h' a kk qq ww sz ky fh (own_up gp i v) := by
  obtain ⟨E, F1, F2, F3, F4, d, f, g⟩ := H; obtain ⟨n1, n2, n3, n4, n5, n6, -⟩ := N
  exact ⟨E.wr W, F1.other W (Or.inl n2), F2.other W (Or.inl n2), F3.other W (Or.inl n2), F4.other W (Or.inl n2), d.other W n6, f.other W n3, g.set hi W⟩
theorem own_H.ws {Z : State} {h h' : Heap} {n0 : Nat} {a kk qq ww : Addr} {sz v : Int32} {ky : Int32 → Int64} {fh gp : Int32 → Int32} {a0 : Array Value} (hw : ∀ d ∈ tables_1, d.before a0 Z = true) (H : own_H Z h a kk qq ww sz ky fh gp) (N : own_N n0 a kk qq ww) (W : Wr h h' a (RoadKit.slotOf Z "com/example/slotweave/slotweave/alloc/NodeHeap" "size" "I") (.int v)) : own_H Z h' a kk qq ww v ky fh gp := by
  obtain ⟨E, F1, F2, F3, F4, d, f, g⟩ := H; obtain ⟨n1, n2, n3, n4, n5, n6, -⟩ := N
  exact ⟨E.wr W, F1.other W (Or.inr (slot_ne (Or.inr (hw _ (List.mem_of_getElem? (i := 11) rfl))) (Or.inl (hw _ (List.mem_of_getElem? (i := 27) rfl))) (by decide) (t := (.array .double)) (t' := .int) (by decide) (by decide))), F2.other W (Or.inr (slot_ne (Or.inr (hw _ (List.mem_of_getElem? (i := 14) rfl))) (Or.inl (hw _ (List.mem_of_getElem? (i := 27) rfl))) (by decide) (t := (.array .int)) (t' := .int) (by decide) (by decide))), F3.other W (Or.inr (slot_ne (Or.inr (hw _ (List.mem_of_getElem? (i := 16) rfl))) (Or.inl (hw _ (List.mem_of_getElem? (i := 27) rfl))) (by decide) (t := (.array .int)) (t' := .int) (by decide) (by decide))), F4.same W, d.other W n4, f.other W n1.symm, g.other W n2.symm⟩
def own_suf (ky : Int32 → Int64) (fh : Int32 → Int32) (x i : Int32) : Int32 → Int32 := if (0 : Int32) < i ∧ (0 : Int32) < lcmpW (ky (fh 0)) (ky x) then own_up (own_up fh i (fh 0)) 0 x else own_up fh i x
def own_sug (ky : Int32 → Int64) (fh gp : Int32 → Int32) (x i : Int32) : Int32 → Int32 := if (0 : Int32) < i ∧ (0 : Int32) < lcmpW (ky (fh 0)) (ky x) then own_up (own_up gp (fh 0) i) x 0 else own_up gp x i
def own_li (gp : Int32 → Int32) (sz x : Int32) : Int32 := if gp x < (0 : Int32) then sz else gp x
def own_ls (gp : Int32 → Int32) (sz x : Int32) : Int32 := if gp x < (0 : Int32) then sz + (1 : Int32) else sz
theorem d6_0 : decode prog_10_method_8_code 0 = .ok (.aload_n 0, 1) := by decide +kernel
theorem d6_1 : decode prog_10_method_8_code 1 = .ok (.getfield 13, 3) := by decide +kernel
theorem d6_4 : decode prog_10_method_8_code 4 = .ok (.iload_n 2, 1) := by decide +kernel
theorem d6_5 : decode prog_10_method_8_code 5 = .ok (.iload_n 1, 1) := by decide +kernel
theorem d6_6 : decode prog_10_method_8_code 6 = .ok (.iastore, 1) := by decide +kernel
theorem d6_7 : decode prog_10_method_8_code 7 = .ok (.aload_n 0, 1) := by decide +kernel
theorem d6_8 : decode prog_10_method_8_code 8 = .ok (.getfield 17, 3) := by decide +kernel
theorem d6_11 : decode prog_10_method_8_code 11 = .ok (.iload_n 1, 1) := by decide +kernel
theorem d6_12 : decode prog_10_method_8_code 12 = .ok (.iload_n 2, 1) := by decide +kernel
theorem d6_13 : decode prog_10_method_8_code 13 = .ok (.iastore, 1) := by decide +kernel
theorem d6_14 : decode prog_10_method_8_code 14 = .ok (.return_, 1) := by decide +kernel
theorem pn_6 : plainName "com/example/slotweave/slotweave/alloc/NodeHeap" = true := by first | (simp [plainName, overriddenIn]; done) | decide +kernel
theorem ef_6 (m : MethodId) (x0 : Addr) (x1 : Int32) (x2 : Int32) : entryFrame m #[(.ref x0), (.int x1), (.int x2)] 3 = mkF m 0 #[.val (.ref x0), .val (.int x1), .val (.int x2)] [] := by first | (simp [entryFrame, mkF, argsToLocals, Value.category]; done) | rfl
def Q6 (Z : State) (a1 : Addr) (p2 : Int32) (p3 : Int32) (kk qq ww : Addr) (sz : Int32) (ky : Int32 → Int64) (fh gp : Int32 → Int32) (h0 : Heap) (n0 : Nat) (v : Option Value) (h : Heap) (L : List Loc) : Prop := v = none ∧ Fr n0 L ∧ Keep h0 h [qq, ww] ∧ own_H Z h a1 kk qq ww sz ky (own_up fh p3 p2) (own_up gp p2 p3)
set_option maxRecDepth 65536 in
set_option maxHeartbeats 40000000 in
theorem rm6 (l : Launch) (Z : State) (a0 : Array Value) (hw : ∀ d ∈ tables_1, d.before a0 Z = true) (ws : List Jvm.Cond) (a1 : Addr) (p2 : Int32) (p3 : Int32) (kk qq ww : Addr) (sz : Int32) (ky : Int32 → Int64) (fh gp : Int32 → Int32) (h0 : Heap) (n0 : Nat) (Z0 : n0 ≤ h0.size) (H : own_H Z h0 a1 kk qq ww sz ky fh gp) (NN : own_N n0 a1 kk qq ww) (v2 : own_v p2) (v3 : own_v p3) :
    MetFree l (⟨"com/example/slotweave/slotweave/alloc/NodeHeap", "put", "(II)V"⟩ : MethodName) (head1 (Jvm.Cond.code (⟨"com/example/slotweave/slotweave/alloc/NodeHeap", "put", "(II)V"⟩ : MethodName) prog_10_method_8_code 3 none :: ws) ({ frames := 0, cells := 0, slots := 0, locals := 0 } : Room)) (fun a U => a = #[(.ref a1), (.int p2), (.int p3)] ∧ Z.Warmed39 U.vm ∧ U.heap = h0) (fun _ _ _ _ _ => True) (fun _ U o U' => ∃ v L, o = .returned v ∧ Q6 Z a1 p2 p3 kk qq ww sz ky fh gp h0 n0 v U'.heap L ∧ FrameEnd U o U' L ({ frames := 0, cells := 0, slots := 0, locals := 0 } : Room).cells ({ frames := 0, cells := 0, slots := 0, locals := 0 } : Room).slots) := by
  refine MetFree.of_bodySF (plainFor_of_name pn_6) hisR ?_
  intro p e s m args below meth c s₁ Bd hml0 hP hK
  obtain ⟨rfl, hZ, hh⟩ := hP
  have hx := Bd.exec
  have hby := Bd.bytes
  have hml : c.maxLocals = 3 := hml0
  have hown : s.vm.findClass "com/example/slotweave/slotweave/alloc/NodeHeap" = some m.cls := findClass_of_methodNamed Bd.named
  have hnm := (name_of_methodNamed Bd.named Bd.method).1
  have X0 : Stand p l e ({ frames := 0, cells := 0, slots := 0, locals := 0 } : Room) s m #[(.ref a1), (.int p2), (.int p3)] below meth c s₁ [] 0 0 := Stand.of_body Bd
  have e0 : s₁.heap = h0 := by rw [← hh, Bd.state]; rfl
  have N0 := Fr.nil n0
  have pre0 : ∀ t, Steps p.tables e below (s₁.setTop (mkF m 0 #[.val (.ref a1), .val (.int p2), .val (.int p3)] [])) t → Steps p.tables e below (s₁.setTop (entryFrame m #[(.ref a1), (.int p2), (.int p3)] 3)) t := fun t k => castTop (ef_6 m a1 p2 p3) k
  have HH := H
  have NNc := NN
  obtain ⟨E_a1, F_keys_a1, F_heap_a1, F_place_a1, F_size_a1, ⟨cl_kk, Ar_kk, S_kk, H_kk⟩, ⟨cl_qq, Ar_qq, S_qq, H_qq⟩, ⟨cl_ww, Ar_ww, S_ww, H_ww⟩⟩ := HH
  obtain ⟨n_aq, n_aw, n_qw, n_ka, n_kq, n_kw, g_a1, g_qq, g_ww⟩ := NNc
  have hin6 : ¬ (p3 < 0 ∨ cl_qq.slots.size ≤ (p3).toNatClampNeg) := own_in v3 S_qq
  have hin13 : ¬ (p2 < 0 ∨ cl_ww.slots.size ≤ (p2).toNatClampNeg) := own_in v2 S_ww
  obtain ⟨T5, X5, e5, st5⟩ := getF X0 hx hZ hown (host := "") (Or.inl (hw _ (List.mem_of_getElem? (i := 13) rfl))) Via.refl e0 F_heap_a1 (g := (mkF m 1 #[.val (.ref a1), .val (.int p2), .val (.int p3)] [(.ref a1)])) rfl rfl (hb hby d6_1)
  obtain ⟨T6, h6, X6, e6, W6, st6⟩ := stI X5 hx hZ e5 Ar_qq (j := p3) hin6 (g := (mkF m 6 #[.val (.ref a1), .val (.int p2), .val (.int p3)] [(.int p2), (.int p3), (.ref qq)])) rfl rfl (hb hby d6_6)
  have N6 := Fr.snoc X6 N0 g_qq
  have K6 : Keep h0 h6 [qq, ww] := (Keep.refl h0 [qq, ww]).wr W6 (Or.inl (List.mem_of_getElem? (i := 0) rfl))
  obtain ⟨T8, X8, e8, st8⟩ := getF X6 hx hZ hown (host := "") (Or.inl (hw _ (List.mem_of_getElem? (i := 15) rfl))) Via.refl e6 (F_place_a1.other W6 (Or.inl n_aq)) (g := (mkF m 8 #[.val (.ref a1), .val (.int p2), .val (.int p3)] [(.ref a1)])) rfl rfl (hb hby d6_8)
  obtain ⟨T9, h9, X9, e9, W9, st9⟩ := stI X8 hx hZ e8 (Ar_ww.other W6 n_qw.symm) (j := p2) hin13 (g := (mkF m 13 #[.val (.ref a1), .val (.int p2), .val (.int p3)] [(.int p3), (.int p2), (.ref ww)])) rfl rfl (hb hby d6_13)
  have N9 := Fr.snoc X9 N6 g_ww
  have K9 : Keep h0 h9 [qq, ww] := K6.wr W9 (Or.inl (List.mem_of_getElem? (i := 1) rfl))
  obtain ⟨fs, hr, hrun, hended, hW, hsame⟩ := X9.leave (v := none) (fun _ => rfl)
  refine ⟨_, _, pre0 _ ?_, hrun, hended, _, _, rfl, ?_, ⟨_, rfl⟩, hW, hsame.mono (by decide) (by decide)⟩
  · show Steps p.tables e below (s₁.setTop (mkF m 0 #[.val (.ref a1), .val (.int p2), .val (.int p3)] [])) _
    refine XS.aloadN X0.here hx rfl (hb hby d6_0) rfl rfl ?_
    show Steps p.tables e below (s₁.setTop (mkF m 1 #[.val (.ref a1), .val (.int p2), .val (.int p3)] [(.ref a1)])) _
    refine st5 _ ?_
    show Steps p.tables e below (T5.setTop (mkF m 4 #[.val (.ref a1), .val (.int p2), .val (.int p3)] [(.ref qq)])) _
    refine XS.iloadN X5.here hx rfl (hb hby d6_4) rfl ?_
    show Steps p.tables e below (T5.setTop (mkF m 5 #[.val (.ref a1), .val (.int p2), .val (.int p3)] [(.int p3), (.ref qq)])) _
    refine XS.iloadN X5.here hx rfl (hb hby d6_5) rfl ?_
    show Steps p.tables e below (T5.setTop (mkF m 6 #[.val (.ref a1), .val (.int p2), .val (.int p3)] [(.int p2), (.int p3), (.ref qq)])) _
    refine st6 _ ?_
    show Steps p.tables e below (T6.setTop (mkF m 7 #[.val (.ref a1), .val (.int p2), .val (.int p3)] [])) _
    refine XS.aloadN X6.here hx rfl (hb hby d6_7) rfl rfl ?_
    show Steps p.tables e below (T6.setTop (mkF m 8 #[.val (.ref a1), .val (.int p2), .val (.int p3)] [(.ref a1)])) _
    refine st8 _ ?_
    show Steps p.tables e below (T8.setTop (mkF m 11 #[.val (.ref a1), .val (.int p2), .val (.int p3)] [(.ref ww)])) _
    refine XS.iloadN X8.here hx rfl (hb hby d6_11) rfl ?_
    show Steps p.tables e below (T8.setTop (mkF m 12 #[.val (.ref a1), .val (.int p2), .val (.int p3)] [(.int p2), (.ref ww)])) _
    refine XS.iloadN X8.here hx rfl (hb hby d6_12) rfl ?_
    show Steps p.tables e below (T8.setTop (mkF m 13 #[.val (.ref a1), .val (.int p2), .val (.int p3)] [(.int p3), (.int p2), (.ref ww)])) _
    refine st9 _ ?_
    show Steps p.tables e below (T9.setTop (mkF m 14 #[.val (.ref a1), .val (.int p2), .val (.int p3)] [])) _
    exact X9.returnOut hx Bd.returns (hb hby d6_14) hr
  · show Q6 Z a1 p2 p3 kk qq ww sz ky fh gp h0 n0 _ T9.heap _
    rw [e9]
    exact ⟨rfl, N9, K9, (H.wq NN v3 W6).ww NN v2 W9⟩
theorem d5_0 : decode prog_10_method_6_code 0 = .ok (.aload_n 0, 1) := by decide +kernel
theorem d5_1 : decode prog_10_method_6_code 1 = .ok (.getfield 7, 3) := by decide +kernel
theorem d5_4 : decode prog_10_method_6_code 4 = .ok (.iload_n 1, 1) := by decide +kernel
theorem d5_5 : decode prog_10_method_6_code 5 = .ok (.daload, 1) := by decide +kernel
theorem d5_6 : decode prog_10_method_6_code 6 = .ok (.dstore_n 3, 1) := by decide +kernel
theorem d5_7 : decode prog_10_method_6_code 7 = .ok (.iload_n 2, 1) := by decide +kernel
theorem d5_8 : decode prog_10_method_6_code 8 = .ok (.ifCond .le 48, 3) := by decide +kernel
theorem d5_56 : decode prog_10_method_6_code 56 = .ok (.aload_n 0, 1) := by decide +kernel
theorem d5_57 : decode prog_10_method_6_code 57 = .ok (.iload_n 1, 1) := by decide +kernel
theorem d5_58 : decode prog_10_method_6_code 58 = .ok (.iload_n 2, 1) := by decide +kernel
theorem d5_59 : decode prog_10_method_6_code 59 = .ok (.invokevirtual 37, 3) := by decide +kernel
theorem d5_62 : decode prog_10_method_6_code 62 = .ok (.return_, 1) := by decide +kernel
theorem pn_5 : plainName "com/example/slotweave/slotweave/alloc/NodeHeap" = true := by first | (simp [plainName, overriddenIn]; done) | decide +kernel
theorem pd_5_4 : parseMethodDescriptor "(II)V" = some ⟨[.int, .int], none⟩ := by decide +kernel
theorem ef_5 (m : MethodId) (x0 : Addr) (x1 : Int32) (x2 : Int32) : entryFrame m #[(.ref x0), (.int x1), (.int x2)] 6 = mkF m 0 #[.val (.ref x0), .val (.int x1), .val (.int x2), .unset, .unset, .unset] [] := by first | (simp [entryFrame, mkF, argsToLocals, Value.category]; done) | rfl
def Q5 (Z : State) (a1 : Addr) (p2 : Int32) (p3 : Int32) (kk qq ww : Addr) (sz : Int32) (ky : Int32 → Int64) (fh gp : Int32 → Int32) (h0 : Heap) (n0 : Nat) (v : Option Value) (h : Heap) (L : List Loc) : Prop := v = none ∧ Fr n0 L ∧ Keep h0 h [qq, ww] ∧ own_H Z h a1 kk qq ww sz ky (own_suf ky fh p2 p3) (own_sug ky fh gp p2 p3)
set_option maxRecDepth 65536 in
set_option maxHeartbeats 40000000 in
theorem rm5_t (l : Launch) (Z : State) (a0 : Array Value) (hw : ∀ d ∈ tables_1, d.before a0 Z = true) (ws : List Jvm.Cond) (a1 : Addr) (p2 : Int32) (p3 : Int32) (kk qq ww : Addr) (sz : Int32) (ky : Int32 → Int64) (fh gp : Int32 → Int32) (h0 : Heap) (n0 : Nat) (Z0 : n0 ≤ h0.size) (H : own_H Z h0 a1 kk qq ww sz ky fh gp) (NN : own_N n0 a1 kk qq ww) (v2 : own_v p2) (v3 : own_v p3) (vf : (0 : Int32) < p3 → own_v (fh 0)) (hc8 : ¬ ((0 : Int32) < p3)) :
    MetFree l (⟨"com/example/slotweave/slotweave/alloc/NodeHeap", "siftUp", "(II)V"⟩ : MethodName) (head1 (Jvm.Cond.code (⟨"com/example/slotweave/slotweave/alloc/NodeHeap", "siftUp", "(II)V"⟩ : MethodName) prog_10_method_6_code 6 none :: ws) ({ frames := 1, cells := 0, slots := 0, locals := 14 } : Room)) (fun a U => a = #[(.ref a1), (.int p2), (.int p3)] ∧ Z.Warmed39 U.vm ∧ U.heap = h0) (fun _ _ _ _ _ => True) (fun _ U o U' => ∃ v L, o = .returned v ∧ Q5 Z a1 p2 p3 kk qq ww sz ky fh gp h0 n0 v U'.heap L ∧ FrameEnd U o U' L ({ frames := 1, cells := 0, slots := 0, locals := 14 } : Room).cells ({ frames := 1, cells := 0, slots := 0, locals := 14 } : Room).slots) := by
  refine MetFree.of_bodySF (plainFor_of_name pn_5) hisR ?_
  intro p e s m args below meth c s₁ Bd hml0 hP hK
  obtain ⟨rfl, hZ, hh⟩ := hP
  have hx := Bd.exec
  have hby := Bd.bytes
  have hml : c.maxLocals = 6 := hml0
  have hown : s.vm.findClass "com/example/slotweave/slotweave/alloc/NodeHeap" = some m.cls := findClass_of_methodNamed Bd.named
  have hnm := (name_of_methodNamed Bd.named Bd.method).1
  have X0 : Stand p l e ({ frames := 1, cells := 0, slots := 0, locals := 14 } : Room) s m #[(.ref a1), (.int p2), (.int p3)] below meth c s₁ [] 0 0 := Stand.of_body Bd
  have e0 : s₁.heap = h0 := by rw [← hh, Bd.state]; rfl
  have N0 := Fr.nil n0
  have pre0 : ∀ t, Steps p.tables e below (s₁.setTop (mkF m 0 #[.val (.ref a1), .val (.int p2), .val (.int p3), .unset, .unset, .unset] [])) t → Steps p.tables e below (s₁.setTop (entryFrame m #[(.ref a1), (.int p2), (.int p3)] 6)) t := fun t k => castTop (ef_5 m a1 p2 p3) k
  have HH := H
  have NNc := NN
  obtain ⟨E_a1, F_keys_a1, F_heap_a1, F_place_a1, F_size_a1, ⟨cl_kk, Ar_kk, S_kk, H_kk⟩, ⟨cl_qq, Ar_qq, S_qq, H_qq⟩, ⟨cl_ww, Ar_ww, S_ww, H_ww⟩⟩ := HH
  obtain ⟨n_aq, n_aw, n_qw, n_ka, n_kq, n_kw, g_a1, g_qq, g_ww⟩ := NNc
  have hin5 : ¬ (p2 < 0 ∨ cl_kk.slots.size ≤ (p2).toNatClampNeg) := own_in v2 S_kk
  have hat5 : cl_kk.slots[(p2).toNatClampNeg]? = some (.double (FP.l2d (ky p2))) := (H_kk p2 v2).1
  obtain ⟨T5, X5, e5, st5⟩ := getF X0 hx hZ hown (host := "") (Or.inl (hw _ (List.mem_of_getElem? (i := 10) rfl))) Via.refl e0 F_keys_a1 (g := (mkF m 1 #[.val (.ref a1), .val (.int p2), .val (.int p3), .unset, .unset, .unset] [(.ref a1)])) rfl rfl (hb hby d5_1)
  obtain ⟨cq7, q7, q7'⟩ := E_a1.cell
  obtain ⟨_, _, ⟨T7, L7, k7, n7⟩, -, X7, ⟨Lc7, hQ7, l7, y7, z7⟩, st7⟩ := X5.privateBack hx (y := (⟨"com/example/slotweave/slotweave/alloc/NodeHeap", "put", "(II)V"⟩ : MethodName)) hown (mvT hZ (hw _ (List.mem_of_getElem? (i := 32) rfl))) (mvT hZ (hw _ (List.mem_of_getElem? (i := 33) rfl))) (own_sel (mvT hZ (hw _ (List.mem_of_getElem? (i := 2) rfl))) (Cond.privateMethod_at (mvP hZ (hw _ (List.mem_of_getElem? (i := 34) rfl)) (args := #[]))) (mvT hZ (hw _ (List.mem_of_getElem? (i := 33) rfl))) (by decide)) (Cond.privateMethod_at (mvP hZ (hw _ (List.mem_of_getElem? (i := 34) rfl)) (args := #[]))) (mvT hZ (hw _ (List.mem_of_getElem? (i := 35) rfl))) (by decide) (backOf (W := 0) (rm6 l Z a0 hw [] a1 p2 p3 kk qq ww sz ky fh gp h0 n0 Z0 H NN v2 v3) hZ (hw _ (List.mem_of_getElem? (i := 35) rfl)) (hw _ (List.mem_of_getElem? (i := 3) rfl)) (by decide) (by decide)) (g := (mkF m 59 #[.val (.ref a1), .val (.int p2), .val (.int p3), .val (.double (FP.l2d (ky p2))), .second, .unset] [(.int p3), (.int p2), (.ref a1)])) rfl (by rw [hml]; rfl) (Steps.refl _) (a := a1) (by rw [e5]; exact q7) q7' (argsL := [(.int p2), (.int p3)]) (rest := []) (lenOf pd_5_4 rfl) rfl (by show 2 * 0 + _ ≤ _; exact Nat.le_of_eq rfl) (hb hby d5_59) (fun _ _ => ⟨rfl, e5, (by decide : 0 + 0 ≤ _), (by decide : 0 + 0 ≤ _)⟩)
  dsimp only [Pt.U, Pt.locs, Pt.cells, Pt.slots] at X7 l7 y7 z7 st7 hQ7
  subst l7 y7 z7
  obtain ⟨rfl, N7q, Kc, Hc⟩ := hQ7
  have N7 := Fr.app N0 N7q
  obtain ⟨fs, hr, hrun, hended, hW, hsame⟩ := X7.leave (v := none) (fun _ => rfl)
  refine ⟨_, _, pre0 _ ?_, hrun, hended, _, _, rfl, ?_, ⟨_, rfl⟩, hW, hsame.mono (by decide) (by decide)⟩
  · show Steps p.tables e below (s₁.setTop (mkF m 0 #[.val (.ref a1), .val (.int p2), .val (.int p3), .unset, .unset, .unset] [])) _
    refine XS.aloadN X0.here hx rfl (hb hby d5_0) rfl rfl ?_
    show Steps p.tables e below (s₁.setTop (mkF m 1 #[.val (.ref a1), .val (.int p2), .val (.int p3), .unset, .unset, .unset] [(.ref a1)])) _
    refine st5 _ ?_
    show Steps p.tables e below (T5.setTop (mkF m 4 #[.val (.ref a1), .val (.int p2), .val (.int p3), .unset, .unset, .unset] [(.ref kk)])) _
    refine XS.iloadN X5.here hx rfl (hb hby d5_4) rfl ?_
    show Steps p.tables e below (T5.setTop (mkF m 5 #[.val (.ref a1), .val (.int p2), .val (.int p3), .unset, .unset, .unset] [(.int p2), (.ref kk)])) _
    refine X5.daload hx (j := p2) (v := (.double (FP.l2d (ky p2)))) (by rw [e5]; exact Ar_kk.1) (State.isArrayOf_alike hZ.alike Ar_kk.2.1) Ar_kk.2.2 hin5 hat5 (g := (mkF m 5 #[.val (.ref a1), .val (.int p2), .val (.int p3), .unset, .unset, .unset] [(.int p2), (.ref kk)])) rfl rfl (hb hby d5_5) _ ?_
    show Steps p.tables e below (T5.setTop (mkF m 6 #[.val (.ref a1), .val (.int p2), .val (.int p3), .unset, .unset, .unset] [(.double (FP.l2d (ky p2)))])) _
    refine XS.dstoreN X5.here hx rfl (hb hby d5_6) rfl (l' := #[.val (.ref a1), .val (.int p2), .val (.int p3), .val (.double (FP.l2d (ky p2))), .second, .unset]) rfl ?_
    show Steps p.tables e below (T5.setTop (mkF m 7 #[.val (.ref a1), .val (.int p2), .val (.int p3), .val (.double (FP.l2d (ky p2))), .second, .unset] [])) _
    refine XS.iloadN X5.here hx rfl (hb hby d5_7) rfl ?_
    show Steps p.tables e below (T5.setTop (mkF m 8 #[.val (.ref a1), .val (.int p2), .val (.int p3), .val (.double (FP.l2d (ky p2))), .second, .unset] [(.int p3)])) _
    refine XS.ifYes X5.here hx rfl (pc0 := 8) (pc' := 56) rfl (hb hby d5_8) rfl ((if0 _ _).trans (flt hc8).2.2.2) (by decide) (by decide) ?_
    show Steps p.tables e below (T5.setTop (mkF m 56 #[.val (.ref a1), .val (.int p2), .val (.int p3), .val (.double (FP.l2d (ky p2))), .second, .unset] [])) _
    refine XS.aloadN X5.here hx rfl (hb hby d5_56) rfl rfl ?_
    show Steps p.tables e below (T5.setTop (mkF m 57 #[.val (.ref a1), .val (.int p2), .val (.int p3), .val (.double (FP.l2d (ky p2))), .second, .unset] [(.ref a1)])) _
    refine XS.iloadN X5.here hx rfl (hb hby d5_57) rfl ?_
    show Steps p.tables e below (T5.setTop (mkF m 58 #[.val (.ref a1), .val (.int p2), .val (.int p3), .val (.double (FP.l2d (ky p2))), .second, .unset] [(.int p2), (.ref a1)])) _
    refine XS.iloadN X5.here hx rfl (hb hby d5_58) rfl ?_
    show Steps p.tables e below (T5.setTop (mkF m 59 #[.val (.ref a1), .val (.int p2), .val (.int p3), .val (.double (FP.l2d (ky p2))), .second, .unset] [(.int p3), (.int p2), (.ref a1)])) _
    refine st7.trans ?_
    show Steps p.tables e below (T7.setTop (mkF m 62 #[.val (.ref a1), .val (.int p2), .val (.int p3), .val (.double (FP.l2d (ky p2))), .second, .unset] [])) _
    exact X7.returnOut hx Bd.returns (hb hby d5_62) hr
  · show Q5 Z a1 p2 p3 kk qq ww sz ky fh gp h0 n0 _ T7.heap _
    unfold Q5 own_suf own_sug
    rw [if_neg (fun q => hc8 q.1), if_neg (fun q => hc8 q.1)]
    exact ⟨rfl, N7, Kc, Hc⟩
theorem d5_11 : decode prog_10_method_6_code 11 = .ok (.iload_n 2, 1) := by decide +kernel
theorem d5_12 : decode prog_10_method_6_code 12 = .ok (.iconst 1, 1) := by decide +kernel
theorem d5_13 : decode prog_10_method_6_code 13 = .ok (.isub, 1) := by decide +kernel
theorem d5_14 : decode prog_10_method_6_code 14 = .ok (.iconst 1, 1) := by decide +kernel
theorem d5_15 : decode prog_10_method_6_code 15 = .ok (.iushr, 1) := by decide +kernel
theorem d5_16 : decode prog_10_method_6_code 16 = .ok (.istore 5, 2) := by decide +kernel
theorem d5_18 : decode prog_10_method_6_code 18 = .ok (.aload_n 0, 1) := by decide +kernel
theorem d5_19 : decode prog_10_method_6_code 19 = .ok (.getfield 7, 3) := by decide +kernel
theorem d5_22 : decode prog_10_method_6_code 22 = .ok (.aload_n 0, 1) := by decide +kernel
theorem d5_23 : decode prog_10_method_6_code 23 = .ok (.getfield 13, 3) := by decide +kernel
theorem d5_26 : decode prog_10_method_6_code 26 = .ok (.iload 5, 2) := by decide +kernel
theorem d5_28 : decode prog_10_method_6_code 28 = .ok (.iaload, 1) := by decide +kernel
theorem d5_29 : decode prog_10_method_6_code 29 = .ok (.daload, 1) := by decide +kernel
theorem d5_30 : decode prog_10_method_6_code 30 = .ok (.dload_n 3, 1) := by decide +kernel
theorem d5_31 : decode prog_10_method_6_code 31 = .ok (.dcmp .g, 1) := by decide +kernel
theorem d5_32 : decode prog_10_method_6_code 32 = .ok (.ifCond .gt 6, 3) := by decide +kernel
theorem d5_35 : decode prog_10_method_6_code 35 = .ok (.goto 21, 3) := by decide +kernel

set_option maxRecDepth 65536 in
set_option maxHeartbeats 40000000 in
theorem rm5_ff (l : Launch) (Z : State) (a0 : Array Value) (hw : ∀ d ∈ tables_1, d.before a0 Z = true) (ws : List Jvm.Cond) (a1 : Addr) (p2 : Int32) (p3 : Int32) (kk qq ww : Addr) (sz : Int32) (ky : Int32 → Int64) (fh gp : Int32 → Int32) (h0 : Heap) (n0 : Nat) (Z0 : n0 ≤ h0.size) (H : own_H Z h0 a1 kk qq ww sz ky fh gp) (NN : own_N n0 a1 kk qq ww) (v2 : own_v p2) (v3 : own_v p3) (vf : (0 : Int32) < p3 → own_v (fh 0)) (hc8 : (0 : Int32) < p3) (hc32 : ¬ ((0 : Int32) < lcmpW (ky (fh 0)) (ky p2))) :
    MetFree l (⟨"com/example/slotweave/slotweave/alloc/NodeHeap", "siftUp", "(II)V"⟩ : MethodName) (head1 (Jvm.Cond.code (⟨"com/example/slotweave/slotweave/alloc/NodeHeap", "siftUp", "(II)V"⟩ : MethodName) prog_10_method_6_code 6 none :: ws) ({ frames := 1, cells := 0, slots := 0, locals := 14 } : Room)) (fun a U => a = #[(.ref a1), (.int p2), (.int p3)] ∧ Z.Warmed39 U.vm ∧ U.heap = h0) (fun _ _ _ _ _ => True) (fun _ U o U' => ∃ v L, o = .returned v ∧ Q5 Z a1 p2 p3 kk qq ww sz ky fh gp h0 n0 v U'.heap L ∧ FrameEnd U o U' L ({ frames := 1, cells := 0, slots := 0, locals := 14 } : Room).cells ({ frames := 1, cells := 0, slots := 0, locals := 14 } : Room).slots) := by
  refine MetFree.of_bodySF (plainFor_of_name pn_5) hisR ?_
  intro p e s m args below meth c s₁ Bd hml0 hP hK
  obtain ⟨rfl, hZ, hh⟩ := hP
  have hx := Bd.exec
  have hby := Bd.bytes
  have hml : c.maxLocals = 6 := hml0
  have hown : s.vm.findClass "com/example/slotweave/slotweave/alloc/NodeHeap" = some m.cls := findClass_of_methodNamed Bd.named
  have hnm := (name_of_methodNamed Bd.named Bd.method).1
  have X0 : Stand p l e ({ frames := 1, cells := 0, slots := 0, locals := 14 } : Room) s m #[(.ref a1), (.int p2), (.int p3)] below meth c s₁ [] 0 0 := Stand.of_body Bd
  have e0 : s₁.heap = h0 := by rw [← hh, Bd.state]; rfl
  have N0 := Fr.nil n0
  have pre0 : ∀ t, Steps p.tables e below (s₁.setTop (mkF m 0 #[.val (.ref a1), .val (.int p2), .val (.int p3), .unset, .unset, .unset] [])) t → Steps p.tables e below (s₁.setTop (entryFrame m #[(.ref a1), (.int p2), (.int p3)] 6)) t := fun t k => castTop (ef_5 m a1 p2 p3) k
  have HH := H
  have NNc := NN
  obtain ⟨E_a1, F_keys_a1, F_heap_a1, F_place_a1, F_size_a1, ⟨cl_kk, Ar_kk, S_kk, H_kk⟩, ⟨cl_qq, Ar_qq, S_qq, H_qq⟩, ⟨cl_ww, Ar_ww, S_ww, H_ww⟩⟩ := HH
  obtain ⟨n_aq, n_aw, n_qw, n_ka, n_kq, n_kw, g_a1, g_qq, g_ww⟩ := NNc
  have hin5 : ¬ (p2 < 0 ∨ cl_kk.slots.size ≤ (p2).toNatClampNeg) := own_in v2 S_kk
  have hat5 : cl_kk.slots[(p2).toNatClampNeg]? = some (.double (FP.l2d (ky p2))) := (H_kk p2 v2).1
  have hin28 : ¬ ((((p3 - (1 : Int32)).toUInt32 >>> ((1 : Int32) &&& 31).toUInt32).toInt32) < 0 ∨ cl_qq.slots.size ≤ ((((p3 - (1 : Int32)).toUInt32 >>> ((1 : Int32) &&& 31).toUInt32).toInt32)).toNatClampNeg) := by rw [own_par v3 hc8]; exact own_in own_v0 S_qq
  have hat28 : cl_qq.slots[((((p3 - (1 : Int32)).toUInt32 >>> ((1 : Int32) &&& 31).toUInt32).toInt32)).toNatClampNeg]? = some (.int (fh 0)) := by rw [own_par v3 hc8]; exact H_qq 0 own_v0
  have hin29 : ¬ ((fh 0) < 0 ∨ cl_kk.slots.size ≤ ((fh 0)).toNatClampNeg) := own_in (vf hc8) S_kk
  have hat29 : cl_kk.slots[((fh 0)).toNatClampNeg]? = some (.double (FP.l2d (ky (fh 0)))) := (H_kk (fh 0) (vf hc8)).1
  have vf0 : own_v (fh 0) := vf hc8
  have hpar := own_par v3 hc8
  obtain ⟨T5, X5, e5, st5⟩ := getF X0 hx hZ hown (host := "") (Or.inl (hw _ (List.mem_of_getElem? (i := 10) rfl))) Via.refl e0 F_keys_a1 (g := (mkF m 1 #[.val (.ref a1), .val (.int p2), .val (.int p3), .unset, .unset, .unset] [(.ref a1)])) rfl rfl (hb hby d5_1)
  obtain ⟨T7, X7, e7, st7⟩ := getF X5 hx hZ hown (host := "") (Or.inl (hw _ (List.mem_of_getElem? (i := 10) rfl))) Via.refl e5 F_keys_a1 (g := (mkF m 19 #[.val (.ref a1), .val (.int p2), .val (.int p3), .val (.double (FP.l2d (ky p2))), .second, .val (.int (((p3 - (1 : Int32)).toUInt32 >>> ((1 : Int32) &&& 31).toUInt32).toInt32))] [(.ref a1)])) rfl rfl (hb hby d5_19)
  obtain ⟨T9, X9, e9, st9⟩ := getF X7 hx hZ hown (host := "") (Or.inl (hw _ (List.mem_of_getElem? (i := 13) rfl))) Via.refl e7 F_heap_a1 (g := (mkF m 23 #[.val (.ref a1), .val (.int p2), .val (.int p3), .val (.double (FP.l2d (ky p2))), .second, .val (.int (((p3 - (1 : Int32)).toUInt32 >>> ((1 : Int32) &&& 31).toUInt32).toInt32))] [(.ref a1), (.ref kk)])) rfl rfl (hb hby d5_23)
  obtain ⟨cq12, q12, q12'⟩ := E_a1.cell
  obtain ⟨_, _, ⟨T12, L12, k12, n12⟩, -, X12, ⟨Lc12, hQ12, l12, y12, z12⟩, st12⟩ := X9.privateBack hx (y := (⟨"com/example/slotweave/slotweave/alloc/NodeHeap", "put", "(II)V"⟩ : MethodName)) hown (mvT hZ (hw _ (List.mem_of_getElem? (i := 32) rfl))) (mvT hZ (hw _ (List.mem_of_getElem? (i := 33) rfl))) (own_sel (mvT hZ (hw _ (List.mem_of_getElem? (i := 2) rfl))) (Cond.privateMethod_at (mvP hZ (hw _ (List.mem_of_getElem? (i := 34) rfl)) (args := #[]))) (mvT hZ (hw _ (List.mem_of_getElem? (i := 33) rfl))) (by decide)) (Cond.privateMethod_at (mvP hZ (hw _ (List.mem_of_getElem? (i := 34) rfl)) (args := #[]))) (mvT hZ (hw _ (List.mem_of_getElem? (i := 35) rfl))) (by decide) (backOf (W := 0) (rm6 l Z a0 hw [] a1 p2 p3 kk qq ww sz ky fh gp h0 n0 Z0 H NN v2 v3) hZ (hw _ (List.mem_of_getElem? (i := 35) rfl)) (hw _ (List.mem_of_getElem? (i := 3) rfl)) (by decide) (by decide)) (g := (mkF m 59 #[.val (.ref a1), .val (.int p2), .val (.int p3), .val (.double (FP.l2d (ky p2))), .second, .val (.int (((p3 - (1 : Int32)).toUInt32 >>> ((1 : Int32) &&& 31).toUInt32).toInt32))] [(.int p3), (.int p2), (.ref a1)])) rfl (by rw [hml]; rfl) (Steps.refl _) (a := a1) (by rw [e9]; exact q12) q12' (argsL := [(.int p2), (.int p3)]) (rest := []) (lenOf pd_5_4 rfl) rfl (by show 2 * 0 + _ ≤ _; exact Nat.le_of_eq rfl) (hb hby d5_59) (fun _ _ => ⟨rfl, e9, (by decide : 0 + 0 ≤ _), (by decide : 0 + 0 ≤ _)⟩)
  dsimp only [Pt.U, Pt.locs, Pt.cells, Pt.slots] at X12 l12 y12 z12 st12 hQ12
  subst l12 y12 z12
  obtain ⟨rfl, N12q, Kc, Hc⟩ := hQ12
  have N12 := Fr.app N0 N12q
  obtain ⟨fs, hr, hrun, hended, hW, hsame⟩ := X12.leave (v := none) (fun _ => rfl)
  refine ⟨_, _, pre0 _ ?_, hrun, hended, _, _, rfl, ?_, ⟨_, rfl⟩, hW, hsame.mono (by decide) (by decide)⟩
  · show Steps p.tables e below (s₁.setTop (mkF m 0 #[.val (.ref a1), .val (.int p2), .val (.int p3), .unset, .unset, .unset] [])) _
    refine XS.aloadN X0.here hx rfl (hb hby d5_0) rfl rfl ?_
    show Steps p.tables e below (s₁.setTop (mkF m 1 #[.val (.ref a1), .val (.int p2), .val (.int p3), .unset, .unset, .unset] [(.ref a1)])) _
    refine st5 _ ?_
    show Steps p.tables e below (T5.setTop (mkF m 4 #[.val (.ref a1), .val (.int p2), .val (.int p3), .unset, .unset, .unset] [(.ref kk)])) _
    refine XS.iloadN X5.here hx rfl (hb hby d5_4) rfl ?_
    show Steps p.tables e below (T5.setTop (mkF m 5 #[.val (.ref a1), .val (.int p2), .val (.int p3), .unset, .unset, .unset] [(.int p2), (.ref kk)])) _
    refine X5.daload hx (j := p2) (v := (.double (FP.l2d (ky p2)))) (by rw [e5]; exact Ar_kk.1) (State.isArrayOf_alike hZ.alike Ar_kk.2.1) Ar_kk.2.2 hin5 hat5 (g := (mkF m 5 #[.val (.ref a1), .val (.int p2), .val (.int p3), .unset, .unset, .unset] [(.int p2), (.ref kk)])) rfl rfl (hb hby d5_5) _ ?_
    show Steps p.tables e below (T5.setTop (mkF m 6 #[.val (.ref a1), .val (.int p2), .val (.int p3), .unset, .unset, .unset] [(.double (FP.l2d (ky p2)))])) _
    refine XS.dstoreN X5.here hx rfl (hb hby d5_6) rfl (l' := #[.val (.ref a1), .val (.int p2), .val (.int p3), .val (.double (FP.l2d (ky p2))), .second, .unset]) rfl ?_
    show Steps p.tables e below (T5.setTop (mkF m 7 #[.val (.ref a1), .val (.int p2), .val (.int p3), .val (.double (FP.l2d (ky p2))), .second, .unset] [])) _
    refine XS.iloadN X5.here hx rfl (hb hby d5_7) rfl ?_
    show Steps p.tables e below (T5.setTop (mkF m 8 #[.val (.ref a1), .val (.int p2), .val (.int p3), .val (.double (FP.l2d (ky p2))), .second, .unset] [(.int p3)])) _
    refine XS.ifNo X5.here hx rfl (hb hby d5_8) rfl ((if0 _ _).trans (tlt hc8).2.2.2) ?_
    show Steps p.tables e below (T5.setTop (mkF m 11 #[.val (.ref a1), .val (.int p2), .val (.int p3), .val (.double (FP.l2d (ky p2))), .second, .unset] [])) _
    refine XS.iloadN X5.here hx rfl (hb hby d5_11) rfl ?_
    show Steps p.tables e below (T5.setTop (mkF m 12 #[.val (.ref a1), .val (.int p2), .val (.int p3), .val (.double (FP.l2d (ky p2))), .second, .unset] [(.int p3)])) _
    refine XS.iconst X5.here hx rfl (hb hby d5_12) ?_
    show Steps p.tables e below (T5.setTop (mkF m 13 #[.val (.ref a1), .val (.int p2), .val (.int p3), .val (.double (FP.l2d (ky p2))), .second, .unset] [(.int (1 : Int32)), (.int p3)])) _
    refine XS.isub X5.here hx rfl (hb hby d5_13) rfl ?_
    show Steps p.tables e below (T5.setTop (mkF m 14 #[.val (.ref a1), .val (.int p2), .val (.int p3), .val (.double (FP.l2d (ky p2))), .second, .unset] [(.int (p3 - (1 : Int32)))])) _
    refine XS.iconst X5.here hx rfl (hb hby d5_14) ?_
    show Steps p.tables e below (T5.setTop (mkF m 15 #[.val (.ref a1), .val (.int p2), .val (.int p3), .val (.double (FP.l2d (ky p2))), .second, .unset] [(.int (1 : Int32)), (.int (p3 - (1 : Int32)))])) _
    refine XS.iushr X5.here hx rfl (hb hby d5_15) rfl ?_
    show Steps p.tables e below (T5.setTop (mkF m 16 #[.val (.ref a1), .val (.int p2), .val (.int p3), .val (.double (FP.l2d (ky p2))), .second, .unset] [(.int (((p3 - (1 : Int32)).toUInt32 >>> ((1 : Int32) &&& 31).toUInt32).toInt32))])) _
    refine XS.istore X5.here hx rfl (hb hby d5_16) rfl (l' := #[.val (.ref a1), .val (.int p2), .val (.int p3), .val (.double (FP.l2d (ky p2))), .second, .val (.int (((p3 - (1 : Int32)).toUInt32 >>> ((1 : Int32) &&& 31).toUInt32).toInt32))]) rfl ?_
    show Steps p.tables e below (T5.setTop (mkF m 18 #[.val (.ref a1), .val (.int p2), .val (.int p3), .val (.double (FP.l2d (ky p2))), .second, .val (.int (((p3 - (1 : Int32)).toUInt32 >>> ((1 : Int32) &&& 31).toUInt32).toInt32))] [])) _
    refine XS.aloadN X5.here hx rfl (hb hby d5_18) rfl rfl ?_
    show Steps p.tables e below (T5.setTop (mkF m 19 #[.val (.ref a1), .val (.int p2), .val (.int p3), .val (.double (FP.l2d (ky p2))), .second, .val (.int (((p3 - (1 : Int32)).toUInt32 >>> ((1 : Int32) &&& 31).toUInt32).toInt32))] [(.ref a1)])) _
    refine st7 _ ?_
    show Steps p.tables e below (T7.setTop (mkF m 22 #[.val (.ref a1), .val (.int p2), .val (.int p3), .val (.double (FP.l2d (ky p2))), .second, .val (.int (((p3 - (1 : Int32)).toUInt32 >>> ((1 : Int32) &&& 31).toUInt32).toInt32))] [(.ref kk)])) _
    refine XS.aloadN X7.here hx rfl (hb hby d5_22) rfl rfl ?_
    show Steps p.tables e below (T7.setTop (mkF m 23 #[.val (.ref a1), .val (.int p2), .val (.int p3), .val (.double (FP.l2d (ky p2))), .second, .val (.int (((p3 - (1 : Int32)).toUInt32 >>> ((1 : Int32) &&& 31).toUInt32).toInt32))] [(.ref a1), (.ref kk)])) _
    refine st9 _ ?_
    show Steps p.tables e below (T9.setTop (mkF m 26 #[.val (.ref a1), .val (.int p2), .val (.int p3), .val (.double (FP.l2d (ky p2))), .second, .val (.int (((p3 - (1 : Int32)).toUInt32 >>> ((1 : Int32) &&& 31).toUInt32).toInt32))] [(.ref qq), (.ref kk)])) _
    refine XS.iload X9.here hx rfl (hb hby d5_26) rfl ?_
    show Steps p.tables e below (T9.setTop (mkF m 28 #[.val (.ref a1), .val (.int p2), .val (.int p3), .val (.double (FP.l2d (ky p2))), .second, .val (.int (((p3 - (1 : Int32)).toUInt32 >>> ((1 : Int32) &&& 31).toUInt32).toInt32))] [(.int (((p3 - (1 : Int32)).toUInt32 >>> ((1 : Int32) &&& 31).toUInt32).toInt32)), (.ref qq), (.ref kk)])) _
    refine X9.iaload hx (j := (((p3 - (1 : Int32)).toUInt32 >>> ((1 : Int32) &&& 31).toUInt32).toInt32)) (v := (.int (fh 0))) (by rw [e9]; exact Ar_qq.1) (State.isArrayOf_alike hZ.alike Ar_qq.2.1) Ar_qq.2.2 hin28 hat28 (g := (mkF m 28 #[.val (.ref a1), .val (.int p2), .val (.int p3), .val (.double (FP.l2d (ky p2))), .second, .val (.int (((p3 - (1 : Int32)).toUInt32 >>> ((1 : Int32) &&& 31).toUInt32).toInt32))] [(.int (((p3 - (1 : Int32)).toUInt32 >>> ((1 : Int32) &&& 31).toUInt32).toInt32)), (.ref qq), (.ref kk)])) rfl rfl (hb hby d5_28) _ ?_
    show Steps p.tables e below (T9.setTop (mkF m 29 #[.val (.ref a1), .val (.int p2), .val (.int p3), .val (.double (FP.l2d (ky p2))), .second, .val (.int (((p3 - (1 : Int32)).toUInt32 >>> ((1 : Int32) &&& 31).toUInt32).toInt32))] [(.int (fh 0)), (.ref kk)])) _
    refine X9.daload hx (j := (fh 0)) (v := (.double (FP.l2d (ky (fh 0))))) (by rw [e9]; exact Ar_kk.1) (State.isArrayOf_alike hZ.alike Ar_kk.2.1) Ar_kk.2.2 hin29 hat29 (g := (mkF m 29 #[.val (.ref a1), .val (.int p2), .val (.int p3), .val (.double (FP.l2d (ky p2))), .second, .val (.int (((p3 - (1 : Int32)).toUInt32 >>> ((1 : Int32) &&& 31).toUInt32).toInt32))] [(.int (fh 0)), (.ref kk)])) rfl rfl (hb hby d5_29) _ ?_
    show Steps p.tables e below (T9.setTop (mkF m 30 #[.val (.ref a1), .val (.int p2), .val (.int p3), .val (.double (FP.l2d (ky p2))), .second, .val (.int (((p3 - (1 : Int32)).toUInt32 >>> ((1 : Int32) &&& 31).toUInt32).toInt32))] [(.double (FP.l2d (ky (fh 0))))])) _
    refine XS.dloadN X9.here hx rfl (hb hby d5_30) rfl ?_
    show Steps p.tables e below (T9.setTop (mkF m 31 #[.val (.ref a1), .val (.int p2), .val (.int p3), .val (.double (FP.l2d (ky p2))), .second, .val (.int (((p3 - (1 : Int32)).toUInt32 >>> ((1 : Int32) &&& 31).toUInt32).toInt32))] [(.double (FP.l2d (ky p2))), (.double (FP.l2d (ky (fh 0))))])) _
    refine XS.dcmpS X9.here hx rfl (hb hby d5_31) rfl (dcmpV_w (H_kk (fh 0) vf0).2 (H_kk p2 v2).2 .g) ?_
    show Steps p.tables e below (T9.setTop (mkF m 32 #[.val (.ref a1), .val (.int p2), .val (.int p3), .val (.double (FP.l2d (ky p2))), .second, .val (.int (((p3 - (1 : Int32)).toUInt32 >>> ((1 : Int32) &&& 31).toUInt32).toInt32))] [(.int (lcmpW (ky (fh 0)) (ky p2)))])) _
    refine XS.ifNo X9.here hx rfl (hb hby d5_32) rfl ((if0 _ _).trans (flt hc32).2.2.1) ?_
    show Steps p.tables e below (T9.setTop (mkF m 35 #[.val (.ref a1), .val (.int p2), .val (.int p3), .val (.double (FP.l2d (ky p2))), .second, .val (.int (((p3 - (1 : Int32)).toUInt32 >>> ((1 : Int32) &&& 31).toUInt32).toInt32))] [])) _
    refine XS.goto X9.here hx rfl (pc0 := 35) (pc' := 56) rfl (hb hby d5_35) (by decide) (by decide) ?_
    show Steps p.tables e below (T9.setTop (mkF m 56 #[.val (.ref a1), .val (.int p2), .val (.int p3), .val (.double (FP.l2d (ky p2))), .second, .val (.int (((p3 - (1 : Int32)).toUInt32 >>> ((1 : Int32) &&& 31).toUInt32).toInt32))] [])) _
    refine XS.aloadN X9.here hx rfl (hb hby d5_56) rfl rfl ?_
    show Steps p.tables e below (T9.setTop (mkF m 57 #[.val (.ref a1), .val (.int p2), .val (.int p3), .val (.double (FP.l2d (ky p2))), .second, .val (.int (((p3 - (1 : Int32)).toUInt32 >>> ((1 : Int32) &&& 31).toUInt32).toInt32))] [(.ref a1)])) _
    refine XS.iloadN X9.here hx rfl (hb hby d5_57) rfl ?_
    show Steps p.tables e below (T9.setTop (mkF m 58 #[.val (.ref a1), .val (.int p2), .val (.int p3), .val (.double (FP.l2d (ky p2))), .second, .val (.int (((p3 - (1 : Int32)).toUInt32 >>> ((1 : Int32) &&& 31).toUInt32).toInt32))] [(.int p2), (.ref a1)])) _
    refine XS.iloadN X9.here hx rfl (hb hby d5_58) rfl ?_
    show Steps p.tables e below (T9.setTop (mkF m 59 #[.val (.ref a1), .val (.int p2), .val (.int p3), .val (.double (FP.l2d (ky p2))), .second, .val (.int (((p3 - (1 : Int32)).toUInt32 >>> ((1 : Int32) &&& 31).toUInt32).toInt32))] [(.int p3), (.int p2), (.ref a1)])) _
    refine st12.trans ?_
    show Steps p.tables e below (T12.setTop (mkF m 62 #[.val (.ref a1), .val (.int p2), .val (.int p3), .val (.double (FP.l2d (ky p2))), .second, .val (.int (((p3 - (1 : Int32)).toUInt32 >>> ((1 : Int32) &&& 31).toUInt32).toInt32))] [])) _
    exact X12.returnOut hx Bd.returns (hb hby d5_62) hr
  · show Q5 Z a1 p2 p3 kk qq ww sz ky fh gp h0 n0 _ T12.heap _
    unfold Q5 own_suf own_sug
    rw [if_neg (fun q => hc32 q.2), if_neg (fun q => hc32 q.2)]
    exact ⟨rfl, N12, Kc, Hc⟩
theorem d5_38 : decode prog_10_method_6_code 38 = .ok (.aload_n 0, 1) := by decide +kernel
theorem d5_39 : decode prog_10_method_6_code 39 = .ok (.aload_n 0, 1) := by decide +kernel
theorem d5_40 : decode prog_10_method_6_code 40 = .ok (.getfield 13, 3) := by decide +kernel
theorem d5_43 : decode prog_10_method_6_code 43 = .ok (.iload 5, 2) := by decide +kernel
theorem d5_45 : decode prog_10_method_6_code 45 = .ok (.iaload, 1) := by decide +kernel
theorem d5_46 : decode prog_10_method_6_code 46 = .ok (.iload_n 2, 1) := by decide +kernel
theorem d5_47 : decode prog_10_method_6_code 47 = .ok (.invokevirtual 37, 3) := by decide +kernel
theorem d5_50 : decode prog_10_method_6_code 50 = .ok (.iload 5, 2) := by decide +kernel
theorem d5_52 : decode prog_10_method_6_code 52 = .ok (.istore_n 2, 1) := by decide +kernel
theorem d5_53 : decode prog_10_method_6_code 53 = .ok (.goto (-46), 3) := by decide +kernel

set_option maxRecDepth 65536 in
set_option maxHeartbeats 40000000 in
theorem rm5_ft (l : Launch) (Z : State) (a0 : Array Value) (hw : ∀ d ∈ tables_1, d.before a0 Z = true) (ws : List Jvm.Cond) (a1 : Addr) (p2 : Int32) (p3 : Int32) (kk qq ww : Addr) (sz : Int32) (ky : Int32 → Int64) (fh gp : Int32 → Int32) (h0 : Heap) (n0 : Nat) (Z0 : n0 ≤ h0.size) (H : own_H Z h0 a1 kk qq ww sz ky fh gp) (NN : own_N n0 a1 kk qq ww) (v2 : own_v p2) (v3 : own_v p3) (vf : (0 : Int32) < p3 → own_v (fh 0)) (hc8 : (0 : Int32) < p3) (hc32 : (0 : Int32) < lcmpW (ky (fh 0)) (ky p2)) :
    MetFree l (⟨"com/example/slotweave/slotweave/alloc/NodeHeap", "siftUp", "(II)V"⟩ : MethodName) (head1 (Jvm.Cond.code (⟨"com/example/slotweave/slotweave/alloc/NodeHeap", "siftUp", "(II)V"⟩ : MethodName) prog_10_method_6_code 6 none :: ws) ({ frames := 1, cells := 0, slots := 0, locals := 14 } : Room)) (fun a U => a = #[(.ref a1), (.int p2), (.int p3)] ∧ Z.Warmed39 U.vm ∧ U.heap = h0) (fun _ _ _ _ _ => True) (fun _ U o U' => ∃ v L, o = .returned v ∧ Q5 Z a1 p2 p3 kk qq ww sz ky fh gp h0 n0 v U'.heap L ∧ FrameEnd U o U' L ({ frames := 1, cells := 0, slots := 0, locals := 14 } : Room).cells ({ frames := 1, cells := 0, slots := 0, locals := 14 } : Room).slots) := by
  refine MetFree.of_bodySF (plainFor_of_name pn_5) hisR ?_
  intro p e s m args below meth c s₁ Bd hml0 hP hK
  obtain ⟨rfl, hZ, hh⟩ := hP
  have hx := Bd.exec
  have hby := Bd.bytes
  have hml : c.maxLocals = 6 := hml0
  have hown : s.vm.findClass "com/example/slotweave/slotweave/alloc/NodeHeap" = some m.cls := findClass_of_methodNamed Bd.named
  have hnm := (name_of_methodNamed Bd.named Bd.method).1
  have X0 : Stand p l e ({ frames := 1, cells := 0, slots := 0, locals := 14 } : Room) s m #[(.ref a1), (.int p2), (.int p3)] below meth c s₁ [] 0 0 := Stand.of_body Bd
  have e0 : s₁.heap = h0 := by rw [← hh, Bd.state]; rfl
  have N0 := Fr.nil n0
  have pre0 : ∀ t, Steps p.tables e below (s₁.setTop (mkF m 0 #[.val (.ref a1), .val (.int p2), .val (.int p3), .unset, .unset, .unset] [])) t → Steps p.tables e below (s₁.setTop (entryFrame m #[(.ref a1), (.int p2), (.int p3)] 6)) t := fun t k => castTop (ef_5 m a1 p2 p3) k
  have HH := H
  have NNc := NN
  obtain ⟨E_a1, F_keys_a1, F_heap_a1, F_place_a1, F_size_a1, ⟨cl_kk, Ar_kk, S_kk, H_kk⟩, ⟨cl_qq, Ar_qq, S_qq, H_qq⟩, ⟨cl_ww, Ar_ww, S_ww, H_ww⟩⟩ := HH
  obtain ⟨n_aq, n_aw, n_qw, n_ka, n_kq, n_kw, g_a1, g_qq, g_ww⟩ := NNc
  have hin5 : ¬ (p2 < 0 ∨ cl_kk.slots.size ≤ (p2).toNatClampNeg) := own_in v2 S_kk
  have hat5 : cl_kk.slots[(p2).toNatClampNeg]? = some (.double (FP.l2d (ky p2))) := (H_kk p2 v2).1
  have hin28 : ¬ ((((p3 - (1 : Int32)).toUInt32 >>> ((1 : Int32) &&& 31).toUInt32).toInt32) < 0 ∨ cl_qq.slots.size ≤ ((((p3 - (1 : Int32)).toUInt32 >>> ((1 : Int32) &&& 31).toUInt32).toInt32)).toNatClampNeg) := by rw [own_par v3 hc8]; exact own_in own_v0 S_qq
  have hat28 : cl_qq.slots[((((p3 - (1 : Int32)).toUInt32 >>> ((1 : Int32) &&& 31).toUInt32).toInt32)).toNatClampNeg]? = some (.int (fh 0)) := by rw [own_par v3 hc8]; exact H_qq 0 own_v0
  have hin29 : ¬ ((fh 0) < 0 ∨ cl_kk.slots.size ≤ ((fh 0)).toNatClampNeg) := own_in (vf hc8) S_kk
  have hat29 : cl_kk.slots[((fh 0)).toNatClampNeg]? = some (.double (FP.l2d (ky (fh 0)))) := (H_kk (fh 0) (vf hc8)).1
  have hin45 : ¬ ((((p3 - (1 : Int32)).toUInt32 >>> ((1 : Int32) &&& 31).toUInt32).toInt32) < 0 ∨ cl_qq.slots.size ≤ ((((p3 - (1 : Int32)).toUInt32 >>> ((1 : Int32) &&& 31).toUInt32).toInt32)).toNatClampNeg) := by rw [own_par v3 hc8]; exact own_in own_v0 S_qq
  have hat45 : cl_qq.slots[((((p3 - (1 : Int32)).toUInt32 >>> ((1 : Int32) &&& 31).toUInt32).toInt32)).toNatClampNeg]? = some (.int (fh 0)) := by rw [own_par v3 hc8]; exact H_qq 0 own_v0
  have vf0 : own_v (fh 0) := vf hc8
  have hpar := own_par v3 hc8
  obtain ⟨T5, X5, e5, st5⟩ := getF X0 hx hZ hown (host := "") (Or.inl (hw _ (List.mem_of_getElem? (i := 10) rfl))) Via.refl e0 F_keys_a1 (g := (mkF m 1 #[.val (.ref a1), .val (.int p2), .val (.int p3), .unset, .unset, .unset] [(.ref a1)])) rfl rfl (hb hby d5_1)
  obtain ⟨T7, X7, e7, st7⟩ := getF X5 hx hZ hown (host := "") (Or.inl (hw _ (List.mem_of_getElem? (i := 10) rfl))) Via.refl e5 F_keys_a1 (g := (mkF m 19 #[.val (.ref a1), .val (.int p2), .val (.int p3), .val (.double (FP.l2d (ky p2))), .second, .val (.int (((p3 - (1 : Int32)).toUInt32 >>> ((1 : Int32) &&& 31).toUInt32).toInt32))] [(.ref a1)])) rfl rfl (hb hby d5_19)
  obtain ⟨T9, X9, e9, st9⟩ := getF X7 hx hZ hown (host := "") (Or.inl (hw _ (List.mem_of_getElem? (i := 13) rfl))) Via.refl e7 F_heap_a1 (g := (mkF m 23 #[.val (.ref a1), .val (.int p2), .val (.int p3), .val (.double (FP.l2d (ky p2))), .second, .val (.int (((p3 - (1 : Int32)).toUInt32 >>> ((1 : Int32) &&& 31).toUInt32).toInt32))] [(.ref a1), (.ref kk)])) rfl rfl (hb hby d5_23)
  obtain ⟨T12, X12, e12, st12⟩ := getF X9 hx hZ hown (host := "") (Or.inl (hw _ (List.mem_of_getElem? (i := 13) rfl))) Via.refl e9 F_heap_a1 (g := (mkF m 40 #[.val (.ref a1), .val (.int p2), .val (.int p3), .val (.double (FP.l2d (ky p2))), .second, .val (.int (((p3 - (1 : Int32)).toUInt32 >>> ((1 : Int32) &&& 31).toUInt32).toInt32))] [(.ref a1), (.ref a1)])) rfl rfl (hb hby d5_40)
  obtain ⟨cq14, q14, q14'⟩ := E_a1.cell
  obtain ⟨_, _, ⟨T14, L14, k14, n14⟩, -, X14, ⟨Lc14, hQ14, l14, y14, z14⟩, st14⟩ := X12.privateBack hx (y := (⟨"com/example/slotweave/slotweave/alloc/NodeHeap", "put", "(II)V"⟩ : MethodName)) hown (mvT hZ (hw _ (List.mem_of_getElem? (i := 32) rfl))) (mvT hZ (hw _ (List.mem_of_getElem? (i := 33) rfl))) (own_sel (mvT hZ (hw _ (List.mem_of_getElem? (i := 2) rfl))) (Cond.privateMethod_at (mvP hZ (hw _ (List.mem_of_getElem? (i := 34) rfl)) (args := #[]))) (mvT hZ (hw _ (List.mem_of_getElem? (i := 33) rfl))) (by decide)) (Cond.privateMethod_at (mvP hZ (hw _ (List.mem_of_getElem? (i := 34) rfl)) (args := #[]))) (mvT hZ (hw _ (List.mem_of_getElem? (i := 35) rfl))) (by decide) (backOf (W := 0) (rm6 l Z a0 hw [] a1 (fh 0) p3 kk qq ww sz ky fh gp h0 n0 Z0 H NN vf0 v3) hZ (hw _ (List.mem_of_getElem? (i := 35) rfl)) (hw _ (List.mem_of_getElem? (i := 3) rfl)) (by decide) (by decide)) (g := (mkF m 47 #[.val (.ref a1), .val (.int p2), .val (.int p3), .val (.double (FP.l2d (ky p2))), .second, .val (.int (((p3 - (1 : Int32)).toUInt32 >>> ((1 : Int32) &&& 31).toUInt32).toInt32))] [(.int p3), (.int (fh 0)), (.ref a1)])) rfl (by rw [hml]; rfl) (Steps.refl _) (a := a1) (by rw [e12]; exact q14) q14' (argsL := [(.int (fh 0)), (.int p3)]) (rest := []) (lenOf pd_5_4 rfl) rfl (by show 2 * 0 + _ ≤ _; exact Nat.le_of_eq rfl) (hb hby d5_47) (fun _ _ => ⟨rfl, e12, (by decide : 0 + 0 ≤ _), (by decide : 0 + 0 ≤ _)⟩)
  dsimp only [Pt.U, Pt.locs, Pt.cells, Pt.slots] at X14 l14 y14 z14 st14 hQ14
  subst l14 y14 z14
  obtain ⟨rfl, N14q, Kc, Hc⟩ := hQ14
  have N14 := Fr.app N0 N14q
  obtain ⟨cq15, q15, q15'⟩ := (E_a1.keep Kc).cell
  obtain ⟨_, _, ⟨T15, L15, k15, n15⟩, -, X15, ⟨Lc15, hQ15, l15, y15, z15⟩, st15⟩ := X14.privateBack hx (y := (⟨"com/example/slotweave/slotweave/alloc/NodeHeap", "put", "(II)V"⟩ : MethodName)) hown (mvT hZ (hw _ (List.mem_of_getElem? (i := 32) rfl))) (mvT hZ (hw _ (List.mem_of_getElem? (i := 33) rfl))) (own_sel (mvT hZ (hw _ (List.mem_of_getElem? (i := 2) rfl))) (Cond.privateMethod_at (mvP hZ (hw _ (List.mem_of_getElem? (i := 34) rfl)) (args := #[]))) (mvT hZ (hw _ (List.mem_of_getElem? (i := 33) rfl))) (by decide)) (Cond.privateMethod_at (mvP hZ (hw _ (List.mem_of_getElem? (i := 34) rfl)) (args := #[]))) (mvT hZ (hw _ (List.mem_of_getElem? (i := 35) rfl))) (by decide) (backOf (W := 0) (rm6 l Z a0 hw [] a1 p2 (((p3 - (1 : Int32)).toUInt32 >>> ((1 : Int32) &&& 31).toUInt32).toInt32) kk qq ww sz ky (own_up fh p3 (fh 0)) (own_up gp (fh 0) p3) T14.heap n0 (Nat.le_trans Z0 Kc.1) Hc NN v2 (by rw [hpar]; exact own_v0)) hZ (hw _ (List.mem_of_getElem? (i := 35) rfl)) (hw _ (List.mem_of_getElem? (i := 3) rfl)) (by decide) (by decide)) (g := (mkF m 59 #[.val (.ref a1), .val (.int p2), .val (.int (((p3 - (1 : Int32)).toUInt32 >>> ((1 : Int32) &&& 31).toUInt32).toInt32)), .val (.double (FP.l2d (ky p2))), .second, .val (.int (((p3 - (1 : Int32)).toUInt32 >>> ((1 : Int32) &&& 31).toUInt32).toInt32))] [(.int (((p3 - (1 : Int32)).toUInt32 >>> ((1 : Int32) &&& 31).toUInt32).toInt32)), (.int p2), (.ref a1)])) rfl (by rw [hml]; rfl) (Steps.refl _) (a := a1) q15 q15' (argsL := [(.int p2), (.int (((p3 - (1 : Int32)).toUInt32 >>> ((1 : Int32) &&& 31).toUInt32).toInt32))]) (rest := []) (lenOf pd_5_4 rfl) rfl (by show 2 * 0 + _ ≤ _; exact Nat.le_of_eq rfl) (hb hby d5_59) (fun _ _ => ⟨rfl, rfl, (by decide : 0 + 0 ≤ _), (by decide : 0 + 0 ≤ _)⟩)
  dsimp only [Pt.U, Pt.locs, Pt.cells, Pt.slots] at X15 l15 y15 z15 st15 hQ15
  subst l15 y15 z15
  obtain ⟨rfl, N15q, Kd, Hd⟩ := hQ15
  rw [hpar] at Hd
  have N15 := Fr.app N14 N15q
  obtain ⟨fs, hr, hrun, hended, hW, hsame⟩ := X15.leave (v := none) (fun _ => rfl)
  refine ⟨_, _, pre0 _ ?_, hrun, hended, _, _, rfl, ?_, ⟨_, rfl⟩, hW, hsame.mono (by decide) (by decide)⟩
  · show Steps p.tables e below (s₁.setTop (mkF m 0 #[.val (.ref a1), .val (.int p2), .val (.int p3), .unset, .unset, .unset] [])) _
    refine XS.aloadN X0.here hx rfl (hb hby d5_0) rfl rfl ?_
    show Steps p.tables e below (s₁.setTop (mkF m 1 #[.val (.ref a1), .val (.int p2), .val (.int p3), .unset, .unset, .unset] [(.ref a1)])) _
    refine st5 _ ?_
    show Steps p.tables e below (T5.setTop (mkF m 4 #[.val (.ref a1), .val (.int p2), .val (.int p3), .unset, .unset, .unset] [(.ref kk)])) _
    refine XS.iloadN X5.here hx rfl (hb hby d5_4) rfl ?_
    show Steps p.tables e below (T5.setTop (mkF m 5 #[.val (.ref a1), .val (.int p2), .val (.int p3), .unset, .unset, .unset] [(.int p2), (.ref kk)])) _
    refine X5.daload hx (j := p2) (v := (.double (FP.l2d (ky p2)))) (by rw [e5]; exact Ar_kk.1) (State.isArrayOf_alike hZ.alike Ar_kk.2.1) Ar_kk.2.2 hin5 hat5 (g := (mkF m 5 #[.val (.ref a1), .val (.int p2), .val (.int p3), .unset, .unset, .unset] [(.int p2), (.ref kk)])) rfl rfl (hb hby d5_5) _ ?_
    show Steps p.tables e below (T5.setTop (mkF m 6 #[.val (.ref a1), .val (.int p2), .val (.int p3), .unset, .unset, .unset] [(.double (FP.l2d (ky p2)))])) _
    refine XS.dstoreN X5.here hx rfl (hb hby d5_6) rfl (l' := #[.val (.ref a1), .val (.int p2), .val (.int p3), .val (.double (FP.l2d (ky p2))), .second, .unset]) rfl ?_
    show Steps p.tables e below (T5.setTop (mkF m 7 #[.val (.ref a1), .val (.int p2), .val (.int p3), .val (.double (FP.l2d (ky p2))), .second, .unset] [])) _
    refine XS.iloadN X5.here hx rfl (hb hby d5_7) rfl ?_
    show Steps p.tables e below (T5.setTop (mkF m 8 #[.val (.ref a1), .val (.int p2), .val (.int p3), .val (.double (FP.l2d (ky p2))), .second, .unset] [(.int p3)])) _
    refine XS.ifNo X5.here hx rfl (hb hby d5_8) rfl ((if0 _ _).trans (tlt hc8).2.2.2) ?_
    show Steps p.tables e below (T5.setTop (mkF m 11 #[.val (.ref a1), .val (.int p2), .val (.int p3), .val (.double (FP.l2d (ky p2))), .second, .unset] [])) _
    refine XS.iloadN X5.here hx rfl (hb hby d5_11) rfl ?_
    show Steps p.tables e below (T5.setTop (mkF m 12 #[.val (.ref a1), .val (.int p2), .val (.int p3), .val (.double (FP.l2d (ky p2))), .second, .unset] [(.int p3)])) _
    refine XS.iconst X5.here hx rfl (hb hby d5_12) ?_
    show Steps p.tables e below (T5.setTop (mkF m 13 #[.val (.ref a1), .val (.int p2), .val (.int p3), .val (.double (FP.l2d (ky p2))), .second, .unset] [(.int (1 : Int32)), (.int p3)])) _
    refine XS.isub X5.here hx rfl (hb hby d5_13) rfl ?_
    show Steps p.tables e below (T5.setTop (mkF m 14 #[.val (.ref a1), .val (.int p2), .val (.int p3), .val (.double (FP.l2d (ky p2))), .second, .unset] [(.int (p3 - (1 : Int32)))])) _
    refine XS.iconst X5.here hx rfl (hb hby d5_14) ?_
    show Steps p.tables e below (T5.setTop (mkF m 15 #[.val (.ref a1), .val (.int p2), .val (.int p3), .val (.double (FP.l2d (ky p2))), .second, .unset] [(.int (1 : Int32)), (.int (p3 - (1 : Int32)))])) _
    refine XS.iushr X5.here hx rfl (hb hby d5_15) rfl ?_
    show Steps p.tables e below (T5.setTop (mkF m 16 #[.val (.ref a1), .val (.int p2), .val (.int p3), .val (.double (FP.l2d (ky p2))), .second, .unset] [(.int (((p3 - (1 : Int32)).toUInt32 >>> ((1 : Int32) &&& 31).toUInt32).toInt32))])) _
    refine XS.istore X5.here hx rfl (hb hby d5_16) rfl (l' := #[.val (.ref a1), .val (.int p2), .val (.int p3), .val (.double (FP.l2d (ky p2))), .second, .val (.int (((p3 - (1 : Int32)).toUInt32 >>> ((1 : Int32) &&& 31).toUInt32).toInt32))]) rfl ?_
    show Steps p.tables e below (T5.setTop (mkF m 18 #[.val (.ref a1), .val (.int p2), .val (.int p3), .val (.double (FP.l2d (ky p2))), .second, .val (.int (((p3 - (1 : Int32)).toUInt32 >>> ((1 : Int32) &&& 31).toUInt32).toInt32))] [])) _
    refine XS.aloadN X5.here hx rfl (hb hby d5_18) rfl rfl ?_
    show Steps p.tables e below (T5.setTop (mkF m 19 #[.val (.ref a1), .val (.int p2), .val (.int p3), .val (.double (FP.l2d (ky p2))), .second, .val (.int (((p3 - (1 : Int32)).toUInt32 >>> ((1 : Int32) &&& 31).toUInt32).toInt32))] [(.ref a1)])) _
    refine st7 _ ?_
    show Steps p.tables e below (T7.setTop (mkF m 22 #[.val (.ref a1), .val (.int p2), .val (.int p3), .val (.double (FP.l2d (ky p2))), .second, .val (.int (((p3 - (1 : Int32)).toUInt32 >>> ((1 : Int32) &&& 31).toUInt32).toInt32))] [(.ref kk)])) _
    refine XS.aloadN X7.here hx rfl (hb hby d5_22) rfl rfl ?_
    show Steps p.tables e below (T7.setTop (mkF m 23 #[.val (.ref a1), .val (.int p2), .val (.int p3), .val (.double (FP.l2d (ky p2))), .second, .val (.int (((p3 - (1 : Int32)).toUInt32 >>> ((1 : Int32) &&& 31).toUInt32).toInt32))] [(.ref a1), (.ref kk)])) _
    refine st9 _ ?_
    show Steps p.tables e below (T9.setTop (mkF m 26 #[.val (.ref a1), .val (.int p2), .val (.int p3), .val (.double (FP.l2d (ky p2))), .second, .val (.int (((p3 - (1 : Int32)).toUInt32 >>> ((1 : Int32) &&& 31).toUInt32).toInt32))] [(.ref qq), (.ref kk)])) _
    refine XS.iload X9.here hx rfl (hb hby d5_26) rfl ?_
    show Steps p.tables e below (T9.setTop (mkF m 28 #[.val (.ref a1), .val (.int p2), .val (.int p3), .val (.double (FP.l2d (ky p2))), .second, .val (.int (((p3 - (1 : Int32)).toUInt32 >>> ((1 : Int32) &&& 31).toUInt32).toInt32))] [(.int (((p3 - (1 : Int32)).toUInt32 >>> ((1 : Int32) &&& 31).toUInt32).toInt32)), (.ref qq), (.ref kk)])) _
    refine X9.iaload hx (j := (((p3 - (1 : Int32)).toUInt32 >>> ((1 : Int32) &&& 31).toUInt32).toInt32)) (v := (.int (fh 0))) (by rw [e9]; exact Ar_qq.1) (State.isArrayOf_alike hZ.alike Ar_qq.2.1) Ar_qq.2.2 hin28 hat28 (g := (mkF m 28 #[.val (.ref a1), .val (.int p2), .val (.int p3), .val (.double (FP.l2d (ky p2))), .second, .val (.int (((p3 - (1 : Int32)).toUInt32 >>> ((1 : Int32) &&& 31).toUInt32).toInt32))] [(.int (((p3 - (1 : Int32)).toUInt32 >>> ((1 : Int32) &&& 31).toUInt32).toInt32)), (.ref qq), (.ref kk)])) rfl rfl (hb hby d5_28) _ ?_
    show Steps p.tables e below (T9.setTop (mkF m 29 #[.val (.ref a1), .val (.int p2), .val (.int p3), .val (.double (FP.l2d (ky p2))), .second, .val (.int (((p3 - (1 : Int32)).toUInt32 >>> ((1 : Int32) &&& 31).toUInt32).toInt32))] [(.int (fh 0)), (.ref kk)])) _
    refine X9.daload hx (j := (fh 0)) (v := (.double (FP.l2d (ky (fh 0))))) (by rw [e9]; exact Ar_kk.1) (State.isArrayOf_alike hZ.alike Ar_kk.2.1) Ar_kk.2.2 hin29 hat29 (g := (mkF m 29 #[.val (.ref a1), .val (.int p2), .val (.int p3), .val (.double (FP.l2d (ky p2))), .second, .val (.int (((p3 - (1 : Int32)).toUInt32 >>> ((1 : Int32) &&& 31).toUInt32).toInt32))] [(.int (fh 0)), (.ref kk)])) rfl rfl (hb hby d5_29) _ ?_
    show Steps p.tables e below (T9.setTop (mkF m 30 #[.val (.ref a1), .val (.int p2), .val (.int p3), .val (.double (FP.l2d (ky p2))), .second, .val (.int (((p3 - (1 : Int32)).toUInt32 >>> ((1 : Int32) &&& 31).toUInt32).toInt32))] [(.double (FP.l2d (ky (fh 0))))])) _
    refine XS.dloadN X9.here hx rfl (hb hby d5_30) rfl ?_
    show Steps p.tables e below (T9.setTop (mkF m 31 #[.val (.ref a1), .val (.int p2), .val (.int p3), .val (.double (FP.l2d (ky p2))), .second, .val (.int (((p3 - (1 : Int32)).toUInt32 >>> ((1 : Int32) &&& 31).toUInt32).toInt32))] [(.double (FP.l2d (ky p2))), (.double (FP.l2d (ky (fh 0))))])) _
    refine XS.dcmpS X9.here hx rfl (hb hby d5_31) rfl (dcmpV_w (H_kk (fh 0) vf0).2 (H_kk p2 v2).2 .g) ?_
    show Steps p.tables e below (T9.setTop (mkF m 32 #[.val (.ref a1), .val (.int p2), .val (.int p3), .val (.double (FP.l2d (ky p2))), .second, .val (.int (((p3 - (1 : Int32)).toUInt32 >>> ((1 : Int32) &&& 31).toUInt32).toInt32))] [(.int (lcmpW (ky (fh 0)) (ky p2)))])) _
    refine XS.ifYes X9.here hx rfl (pc0 := 32) (pc' := 38) rfl (hb hby d5_32) rfl ((if0 _ _).trans (tlt hc32).2.2.1) (by decide) (by decide) ?_
    show Steps p.tables e below (T9.setTop (mkF m 38 #[.val (.ref a1), .val (.int p2), .val (.int p3), .val (.double (FP.l2d (ky p2))), .second, .val (.int (((p3 - (1 : Int32)).toUInt32 >>> ((1 : Int32) &&& 31).toUInt32).toInt32))] [])) _
    refine XS.aloadN X9.here hx rfl (hb hby d5_38) rfl rfl ?_
    show Steps p.tables e below (T9.setTop (mkF m 39 #[.val (.ref a1), .val (.int p2), .val (.int p3), .val (.double (FP.l2d (ky p2))), .second, .val (.int (((p3 - (1 : Int32)).toUInt32 >>> ((1 : Int32) &&& 31).toUInt32).toInt32))] [(.ref a1)])) _
    refine XS.aloadN X9.here hx rfl (hb hby d5_39) rfl rfl ?_
    show Steps p.tables e below (T9.setTop (mkF m 40 #[.val (.ref a1), .val (.int p2), .val (.int p3), .val (.double (FP.l2d (ky p2))), .second, .val (.int (((p3 - (1 : Int32)).toUInt32 >>> ((1 : Int32) &&& 31).toUInt32).toInt32))] [(.ref a1), (.ref a1)])) _
    refine st12 _ ?_
    show Steps p.tables e below (T12.setTop (mkF m 43 #[.val (.ref a1), .val (.int p2), .val (.int p3), .val (.double (FP.l2d (ky p2))), .second, .val (.int (((p3 - (1 : Int32)).toUInt32 >>> ((1 : Int32) &&& 31).toUInt32).toInt32))] [(.ref qq), (.ref a1)])) _
    refine XS.iload X12.here hx rfl (hb hby d5_43) rfl ?_
    show Steps p.tables e below (T12.setTop (mkF m 45 #[.val (.ref a1), .val (.int p2), .val (.int p3), .val (.double (FP.l2d (ky p2))), .second, .val (.int (((p3 - (1 : Int32)).toUInt32 >>> ((1 : Int32) &&& 31).toUInt32).toInt32))] [(.int (((p3 - (1 : Int32)).toUInt32 >>> ((1 : Int32) &&& 31).toUInt32).toInt32)), (.ref qq), (.ref a1)])) _
    refine X12.iaload hx (j := (((p3 - (1 : Int32)).toUInt32 >>> ((1 : Int32) &&& 31).toUInt32).toInt32)) (v := (.int (fh 0))) (by rw [e12]; exact Ar_qq.1) (State.isArrayOf_alike hZ.alike Ar_qq.2.1) Ar_qq.2.2 hin45 hat45 (g := (mkF m 45 #[.val (.ref a1), .val (.int p2), .val (.int p3), .val (.double (FP.l2d (ky p2))), .second, .val (.int (((p3 - (1 : Int32)).toUInt32 >>> ((1 : Int32) &&& 31).toUInt32).toInt32))] [(.int (((p3 - (1 : Int32)).toUInt32 >>> ((1 : Int32) &&& 31).toUInt32).toInt32)), (.ref qq), (.ref a1)])) rfl rfl (hb hby d5_45) _ ?_
    show Steps p.tables e below (T12.setTop (mkF m 46 #[.val (.ref a1), .val (.int p2), .val (.int p3), .val (.double (FP.l2d (ky p2))), .second, .val (.int (((p3 - (1 : Int32)).toUInt32 >>> ((1 : Int32) &&& 31).toUInt32).toInt32))] [(.int (fh 0)), (.ref a1)])) _
    refine XS.iloadN X12.here hx rfl (hb hby d5_46) rfl ?_
    show Steps p.tables e below (T12.setTop (mkF m 47 #[.val (.ref a1), .val (.int p2), .val (.int p3), .val (.double (FP.l2d (ky p2))), .second, .val (.int (((p3 - (1 : Int32)).toUInt32 >>> ((1 : Int32) &&& 31).toUInt32).toInt32))] [(.int p3), (.int (fh 0)), (.ref a1)])) _
    refine st14.trans ?_
    show Steps p.tables e below (T14.setTop (mkF m 50 #[.val (.ref a1), .val (.int p2), .val (.int p3), .val (.double (FP.l2d (ky p2))), .second, .val (.int (((p3 - (1 : Int32)).toUInt32 >>> ((1 : Int32) &&& 31).toUInt32).toInt32))] [])) _
    refine XS.iload X14.here hx rfl (hb hby d5_50) rfl ?_
    show Steps p.tables e below (T14.setTop (mkF m 52 #[.val (.ref a1), .val (.int p2), .val (.int p3), .val (.double (FP.l2d (ky p2))), .second, .val (.int (((p3 - (1 : Int32)).toUInt32 >>> ((1 : Int32) &&& 31).toUInt32).toInt32))] [(.int (((p3 - (1 : Int32)).toUInt32 >>> ((1 : Int32) &&& 31).toUInt32).toInt32))])) _
    refine XS.istoreN X14.here hx rfl (hb hby d5_52) rfl (l' := #[.val (.ref a1), .val (.int p2), .val (.int (((p3 - (1 : Int32)).toUInt32 >>> ((1 : Int32) &&& 31).toUInt32).toInt32)), .val (.double (FP.l2d (ky p2))), .second, .val (.int (((p3 - (1 : Int32)).toUInt32 >>> ((1 : Int32) &&& 31).toUInt32).toInt32))]) rfl ?_
    show Steps p.tables e below (T14.setTop (mkF m 53 #[.val (.ref a1), .val (.int p2), .val (.int (((p3 - (1 : Int32)).toUInt32 >>> ((1 : Int32) &&& 31).toUInt32).toInt32)), .val (.double (FP.l2d (ky p2))), .second, .val (.int (((p3 - (1 : Int32)).toUInt32 >>> ((1 : Int32) &&& 31).toUInt32).toInt32))] [])) _
    refine XS.goto X14.here hx rfl (pc0 := 53) (pc' := 7) rfl (hb hby d5_53) (by decide) (by decide) ?_
    show Steps p.tables e below (T14.setTop (mkF m 7 #[.val (.ref a1), .val (.int p2), .val (.int (((p3 - (1 : Int32)).toUInt32 >>> ((1 : Int32) &&& 31).toUInt32).toInt32)), .val (.double (FP.l2d (ky p2))), .second, .val (.int (((p3 - (1 : Int32)).toUInt32 >>> ((1 : Int32) &&& 31).toUInt32).toInt32))] [])) _
    refine XS.iloadN X14.here hx rfl (hb hby d5_7) rfl ?_
    show Steps p.tables e below (T14.setTop (mkF m 8 #[.val (.ref a1), .val (.int p2), .val (.int (((p3 - (1 : Int32)).toUInt32 >>> ((1 : Int32) &&& 31).toUInt32).toInt32)), .val (.double (FP.l2d (ky p2))), .second, .val (.int (((p3 - (1 : Int32)).toUInt32 >>> ((1 : Int32) &&& 31).toUInt32).toInt32))] [(.int (((p3 - (1 : Int32)).toUInt32 >>> ((1 : Int32) &&& 31).toUInt32).toInt32))])) _
    refine XS.ifYes X14.here hx rfl (pc0 := 8) (pc' := 56) rfl (hb hby d5_8) rfl ((if0 _ _).trans (flt (show ¬ ((0 : Int32) < (((p3 - (1 : Int32)).toUInt32 >>> ((1 : Int32) &&& 31).toUInt32).toInt32)) from by rw [hpar]; decide)).2.2.2) (by decide) (by decide) ?_
    show Steps p.tables e below (T14.setTop (mkF m 56 #[.val (.ref a1), .val (.int p2), .val (.int (((p3 - (1 : Int32)).toUInt32 >>> ((1 : Int32) &&& 31).toUInt32).toInt32)), .val (.double (FP.l2d (ky p2))), .second, .val (.int (((p3 - (1 : Int32)).toUInt32 >>> ((1 : Int32) &&& 31).toUInt32).toInt32))] [])) _
    refine XS.aloadN X14.here hx rfl (hb hby d5_56) rfl rfl ?_
    show Steps p.tables e below (T14.setTop (mkF m 57 #[.val (.ref a1), .val (.int p2), .val (.int (((p3 - (1 : Int32)).toUInt32 >>> ((1 : Int32) &&& 31).toUInt32).toInt32)), .val (.double (FP.l2d (ky p2))), .second, .val (.int (((p3 - (1 : Int32)).toUInt32 >>> ((1 : Int32) &&& 31).toUInt32).toInt32))] [(.ref a1)])) _
    refine XS.iloadN X14.here hx rfl (hb hby d5_57) rfl ?_
    show Steps p.tables e below (T14.setTop (mkF m 58 #[.val (.ref a1), .val (.int p2), .val (.int (((p3 - (1 : Int32)).toUInt32 >>> ((1 : Int32) &&& 31).toUInt32).toInt32)), .val (.double (FP.l2d (ky p2))), .second, .val (.int (((p3 - (1 : Int32)).toUInt32 >>> ((1 : Int32) &&& 31).toUInt32).toInt32))] [(.int p2), (.ref a1)])) _
    refine XS.iloadN X14.here hx rfl (hb hby d5_58) rfl ?_
    show Steps p.tables e below (T14.setTop (mkF m 59 #[.val (.ref a1), .val (.int p2), .val (.int (((p3 - (1 : Int32)).toUInt32 >>> ((1 : Int32) &&& 31).toUInt32).toInt32)), .val (.double (FP.l2d (ky p2))), .second, .val (.int (((p3 - (1 : Int32)).toUInt32 >>> ((1 : Int32) &&& 31).toUInt32).toInt32))] [(.int (((p3 - (1 : Int32)).toUInt32 >>> ((1 : Int32) &&& 31).toUInt32).toInt32)), (.int p2), (.ref a1)])) _
    refine st15.trans ?_
    show Steps p.tables e below (T15.setTop (mkF m 62 #[.val (.ref a1), .val (.int p2), .val (.int (((p3 - (1 : Int32)).toUInt32 >>> ((1 : Int32) &&& 31).toUInt32).toInt32)), .val (.double (FP.l2d (ky p2))), .second, .val (.int (((p3 - (1 : Int32)).toUInt32 >>> ((1 : Int32) &&& 31).toUInt32).toInt32))] [])) _
    exact X15.returnOut hx Bd.returns (hb hby d5_62) hr
  · show Q5 Z a1 p2 p3 kk qq ww sz ky fh gp h0 n0 _ T15.heap _
    unfold Q5 own_suf own_sug
    rw [if_pos ⟨hc8, hc32⟩, if_pos ⟨hc8, hc32⟩]
    exact ⟨rfl, N15, Kc.trans Kd (fun x hx => Or.inl hx), Hd⟩
theorem rm5 (l : Launch) (Z : State) (a0 : Array Value) (hw : ∀ d ∈ tables_1, d.before a0 Z = true) (ws : List Jvm.Cond) (a1 : Addr) (p2 : Int32) (p3 : Int32) (kk qq ww : Addr) (sz : Int32) (ky : Int32 → Int64) (fh gp : Int32 → Int32) (h0 : Heap) (n0 : Nat) (Z0 : n0 ≤ h0.size) (H : own_H Z h0 a1 kk qq ww sz ky fh gp) (NN : own_N n0 a1 kk qq ww) (v2 : own_v p2) (v3 : own_v p3) (vf : (0 : Int32) < p3 → own_v (fh 0)) :
    MetFree l (⟨"com/example/slotweave/slotweave/alloc/NodeHeap", "siftUp", "(II)V"⟩ : MethodName) (head1 (Jvm.Cond.code (⟨"com/example/slotweave/slotweave/alloc/NodeHeap", "siftUp", "(II)V"⟩ : MethodName) prog_10_method_6_code 6 none :: ws) ({ frames := 1, cells := 0, slots := 0, locals := 14 } : Room)) (fun a U => a = #[(.ref a1), (.int p2), (.int p3)] ∧ Z.Warmed39 U.vm ∧ U.heap = h0) (fun _ _ _ _ _ => True) (fun _ U o U' => ∃ v L, o = .returned v ∧ Q5 Z a1 p2 p3 kk qq ww sz ky fh gp h0 n0 v U'.heap L ∧ FrameEnd U o U' L ({ frames := 1, cells := 0, slots := 0, locals := 14 } : Room).cells ({ frames := 1, cells := 0, slots := 0, locals := 14 } : Room).slots) := by
  by_cases hc8 : (0 : Int32) < p3
  · by_cases hc32 : (0 : Int32) < lcmpW (ky (fh 0)) (ky p2)
    · exact rm5_ft l Z a0 hw ws a1 p2 p3 kk qq ww sz ky fh gp h0 n0 Z0 H NN v2 v3 vf hc8 hc32
    · exact rm5_ff l Z a0 hw ws a1 p2 p3 kk qq ww sz ky fh gp h0 n0 Z0 H NN v2 v3 vf hc8 hc32
  · exact rm5_t l Z a0 hw ws a1 p2 p3 kk qq ww sz ky fh gp h0 n0 Z0 H NN v2 v3 vf hc8
theorem d10_0 : decode prog_10_method_7_code 0 = .ok (.aload_n 0, 1) := by decide +kernel
theorem d10_1 : decode prog_10_method_7_code 1 = .ok (.getfield 7, 3) := by decide +kernel
theorem d10_4 : decode prog_10_method_7_code 4 = .ok (.iload_n 1, 1) := by decide +kernel
theorem d10_5 : decode prog_10_method_7_code 5 = .ok (.daload, 1) := by decide +kernel
theorem d10_6 : decode prog_10_method_7_code 6 = .ok (.dstore_n 3, 1) := by decide +kernel
theorem d10_7 : decode prog_10_method_7_code 7 = .ok (.iconst 2, 1) := by decide +kernel
theorem d10_8 : decode prog_10_method_7_code 8 = .ok (.iload_n 2, 1) := by decide +kernel
theorem d10_9 : decode prog_10_method_7_code 9 = .ok (.imul, 1) := by decide +kernel
theorem d10_10 : decode prog_10_method_7_code 10 = .ok (.iconst 1, 1) := by decide +kernel
theorem d10_11 : decode prog_10_method_7_code 11 = .ok (.iadd, 1) := by decide +kernel
theorem d10_12 : decode prog_10_method_7_code 12 = .ok (.istore 5, 2) := by decide +kernel
theorem d10_14 : decode prog_10_method_7_code 14 = .ok (.iload 5, 2) := by decide +kernel
theorem d10_16 : decode prog_10_method_7_code 16 = .ok (.aload_n 0, 1) := by decide +kernel
theorem d10_17 : decode prog_10_method_7_code 17 = .ok (.getfield 26, 3) := by decide +kernel
theorem d10_20 : decode prog_10_method_7_code 20 = .ok (.if_icmp .lt 6, 3) := by decide +kernel
theorem d10_23 : decode prog_10_method_7_code 23 = .ok (.goto 85, 3) := by decide +kernel
theorem d10_108 : decode prog_10_method_7_code 108 = .ok (.aload_n 0, 1) := by decide +kernel
theorem d10_109 : decode prog_10_method_7_code 109 = .ok (.iload_n 1, 1) := by decide +kernel
theorem d10_110 : decode prog_10_method_7_code 110 = .ok (.iload_n 2, 1) := by decide +kernel
theorem d10_111 : decode prog_10_method_7_code 111 = .ok (.invokevirtual 37, 3) := by decide +kernel
theorem d10_114 : decode prog_10_method_7_code 114 = .ok (.return_, 1) := by decide +kernel
theorem pn_10 : plainName "com/example/slotweave/slotweave/alloc/NodeHeap" = true := by first | (simp [plainName, overriddenIn]; done) | decide +kernel
theorem pd_10_4 : parseMethodDescriptor "(II)V" = some ⟨[.int, .int], none⟩ := by decide +kernel
theorem ef_10 (m : MethodId) (x0 : Addr) (x1 : Int32) (x2 : Int32) : entryFrame m #[(.ref x0), (.int x1), (.int x2)] 6 = mkF m 0 #[.val (.ref x0), .val (.int x1), .val (.int x2), .unset, .unset, .unset] [] := by first | (simp [entryFrame, mkF, argsToLocals, Value.category]; done) | rfl
def Q10 (Z : State) (a1 : Addr) (p2 : Int32) (p3 : Int32) (kk qq ww : Addr) (sz : Int32) (ky : Int32 → Int64) (fh gp : Int32 → Int32) (h0 : Heap) (n0 : Nat) (v : Option Value) (h : Heap) (L : List Loc) : Prop := v = none ∧ Fr n0 L ∧ Keep h0 h [qq, ww] ∧ own_H Z h a1 kk qq ww sz ky (own_up fh p3 p2) (own_up gp p2 p3)
set_option maxRecDepth 65536 in
set_option maxHeartbeats 40000000 in
theorem rm10 (l : Launch) (Z : State) (a0 : Array Value) (hw : ∀ d ∈ tables_1, d.before a0 Z = true) (ws : List Jvm.Cond) (a1 : Addr) (p2 : Int32) (p3 : Int32) (kk qq ww : Addr) (sz : Int32) (ky : Int32 → Int64) (fh gp : Int32 → Int32) (h0 : Heap) (n0 : Nat) (Z0 : n0 ≤ h0.size) (H : own_H Z h0 a1 kk qq ww sz ky fh gp) (NN : own_N n0 a1 kk qq ww) (v2 : own_v p2) (v3 : own_v p3) (hc20 : ¬ ((((2 : Int32) * p3) + (1 : Int32)) < sz)) :
    MetFree l (⟨"com/example/slotweave/slotweave/alloc/NodeHeap", "siftDown", "(II)V"⟩ : MethodName) (head1 (Jvm.Cond.code (⟨"com/example/slotweave/slotweave/alloc/NodeHeap", "siftDown", "(II)V"⟩ : MethodName) prog_10_method_7_code 6 none :: ws) ({ frames := 1, cells := 0, slots := 0, locals := 14 } : Room)) (fun a U => a = #[(.ref a1), (.int p2), (.int p3)] ∧ Z.Warmed39 U.vm ∧ U.heap = h0) (fun _ _ _ _ _ => True) (fun _ U o U' => ∃ v L, o = .returned v ∧ Q10 Z a1 p2 p3 kk qq ww sz ky fh gp h0 n0 v U'.heap L ∧ FrameEnd U o U' L ({ frames := 1, cells := 0, slots := 0, locals := 14 } : Room).cells ({ frames := 1, cells := 0, slots := 0, locals := 14 } : Room).slots) := by
  refine MetFree.of_bodySF (plainFor_of_name pn_10) hisR ?_
  intro p e s m args below meth c s₁ Bd hml0 hP hK
  obtain ⟨rfl, hZ, hh⟩ := hP
  have hx := Bd.exec
  have hby := Bd.bytes
  have hml : c.maxLocals = 6 := hml0
  have hown : s.vm.findClass "com/example/slotweave/slotweave/alloc/NodeHeap" = some m.cls := findClass_of_methodNamed Bd.named
  have hnm := (name_of_methodNamed Bd.named Bd.method).1
  have X0 : Stand p l e ({ frames := 1, cells := 0, slots := 0, locals := 14 } : Room) s m #[(.ref a1), (.int p2), (.int p3)] below meth c s₁ [] 0 0 := Stand.of_body Bd
  have e0 : s₁.heap = h0 := by rw [← hh, Bd.state]; rfl
  have N0 := Fr.nil n0
  have pre0 : ∀ t, Steps p.tables e below (s₁.setTop (mkF m 0 #[.val (.ref a1), .val (.int p2), .val (.int p3), .unset, .unset, .unset] [])) t → Steps p.tables e below (s₁.setTop (entryFrame m #[(.ref a1), (.int p2), (.int p3)] 6)) t := fun t k => castTop (ef_10 m a1 p2 p3) k
  have HH := H
  have NNc := NN
  obtain ⟨E_a1, F_keys_a1, F_heap_a1, F_place_a1, F_size_a1, ⟨cl_kk, Ar_kk, S_kk, H_kk⟩, ⟨cl_qq, Ar_qq, S_qq, H_qq⟩, ⟨cl_ww, Ar_ww, S_ww, H_ww⟩⟩ := HH
  obtain ⟨n_aq, n_aw, n_qw, n_ka, n_kq, n_kw, g_a1, g_qq, g_ww⟩ := NNc
  have hin5 : ¬ (p2 < 0 ∨ cl_kk.slots.size ≤ (p2).toNatClampNeg) := own_in v2 S_kk
  have hat5 : cl_kk.slots[(p2).toNatClampNeg]? = some (.double (FP.l2d (ky p2))) := (H_kk p2 v2).1
  obtain ⟨T5, X5, e5, st5⟩ := getF X0 hx hZ hown (host := "") (Or.inl (hw _ (List.mem_of_getElem? (i := 10) rfl))) Via.refl e0 F_keys_a1 (g := (mkF m 1 #[.val (.ref a1), .val (.int p2), .val (.int p3), .unset, .unset, .unset] [(.ref a1)])) rfl rfl (hb hby d10_1)
  obtain ⟨T8, X8, e8, st8⟩ := getF X5 hx hZ hown (host := "") (Or.inl (hw _ (List.mem_of_getElem? (i := 26) rfl))) Via.refl e5 F_size_a1 (g := (mkF m 17 #[.val (.ref a1), .val (.int p2), .val (.int p3), .val (.double (FP.l2d (ky p2))), .second, .val (.int (((2 : Int32) * p3) + (1 : Int32)))] [(.ref a1), (.int (((2 : Int32) * p3) + (1 : Int32)))])) rfl rfl (hb hby d10_17)
  obtain ⟨cq9, q9, q9'⟩ := E_a1.cell
  obtain ⟨_, _, ⟨T9, L9, k9, n9⟩, -, X9, ⟨Lc9, hQ9, l9, y9, z9⟩, st9⟩ := X8.privateBack hx (y := (⟨"com/example/slotweave/slotweave/alloc/NodeHeap", "put", "(II)V"⟩ : MethodName)) hown (mvT hZ (hw _ (List.mem_of_getElem? (i := 32) rfl))) (mvT hZ (hw _ (List.mem_of_getElem? (i := 33) rfl))) (own_sel (mvT hZ (hw _ (List.mem_of_getElem? (i := 2) rfl))) (Cond.privateMethod_at (mvP hZ (hw _ (List.mem_of_getElem? (i := 34) rfl)) (args := #[]))) (mvT hZ (hw _ (List.mem_of_getElem? (i := 33) rfl))) (by decide)) (Cond.privateMethod_at (mvP hZ (hw _ (List.mem_of_getElem? (i := 34) rfl)) (args := #[]))) (mvT hZ (hw _ (List.mem_of_getElem? (i := 35) rfl))) (by decide) (backOf (W := 0) (rm6 l Z a0 hw [] a1 p2 p3 kk qq ww sz ky fh gp h0 n0 Z0 H NN v2 v3) hZ (hw _ (List.mem_of_getElem? (i := 35) rfl)) (hw _ (List.mem_of_getElem? (i := 3) rfl)) (by decide) (by decide)) (g := (mkF m 111 #[.val (.ref a1), .val (.int p2), .val (.int p3), .val (.double (FP.l2d (ky p2))), .second, .val (.int (((2 : Int32) * p3) + (1 : Int32)))] [(.int p3), (.int p2), (.ref a1)])) rfl (by rw [hml]; rfl) (Steps.refl _) (a := a1) (by rw [e8]; exact q9) q9' (argsL := [(.int p2), (.int p3)]) (rest := []) (lenOf pd_10_4 rfl) rfl (by show 2 * 0 + _ ≤ _; exact Nat.le_of_eq rfl) (hb hby d10_111) (fun _ _ => ⟨rfl, e8, (by decide : 0 + 0 ≤ _), (by decide : 0 + 0 ≤ _)⟩)
  dsimp only [Pt.U, Pt.locs, Pt.cells, Pt.slots] at X9 l9 y9 z9 st9 hQ9
  subst l9 y9 z9
  obtain ⟨rfl, N9q, Kc, Hc⟩ := hQ9
  have N9 := Fr.app N0 N9q
  obtain ⟨fs, hr, hrun, hended, hW, hsame⟩ := X9.leave (v := none) (fun _ => rfl)
  refine ⟨_, _, pre0 _ ?_, hrun, hended, _, _, rfl, ?_, ⟨_, rfl⟩, hW, hsame.mono (by decide) (by decide)⟩
  · show Steps p.tables e below (s₁.setTop (mkF m 0 #[.val (.ref a1), .val (.int p2), .val (.int p3), .unset, .unset, .unset] [])) _
    refine XS.aloadN X0.here hx rfl (hb hby d10_0) rfl rfl ?_
    show Steps p.tables e below (s₁.setTop (mkF m 1 #[.val (.ref a1), .val (.int p2), .val (.int p3), .unset, .unset, .unset] [(.ref a1)])) _
    refine st5 _ ?_
    show Steps p.tables e below (T5.setTop (mkF m 4 #[.val (.ref a1), .val (.int p2), .val (.int p3), .unset, .unset, .unset] [(.ref kk)])) _
    refine XS.iloadN X5.here hx rfl (hb hby d10_4) rfl ?_
    show Steps p.tables e below (T5.setTop (mkF m 5 #[.val (.ref a1), .val (.int p2), .val (.int p3), .unset, .unset, .unset] [(.int p2), (.ref kk)])) _
    refine X5.daload hx (j := p2) (v := (.double (FP.l2d (ky p2)))) (by rw [e5]; exact Ar_kk.1) (State.isArrayOf_alike hZ.alike Ar_kk.2.1) Ar_kk.2.2 hin5 hat5 (g := (mkF m 5 #[.val (.ref a1), .val (.int p2), .val (.int p3), .unset, .unset, .unset] [(.int p2), (.ref kk)])) rfl rfl (hb hby d10_5) _ ?_
    show Steps p.tables e below (T5.setTop (mkF m 6 #[.val (.ref a1), .val (.int p2), .val (.int p3), .unset, .unset, .unset] [(.double (FP.l2d (ky p2)))])) _
    refine XS.dstoreN X5.here hx rfl (hb hby d10_6) rfl (l' := #[.val (.ref a1), .val (.int p2), .val (.int p3), .val (.double (FP.l2d (ky p2))), .second, .unset]) rfl ?_
    show Steps p.tables e below (T5.setTop (mkF m 7 #[.val (.ref a1), .val (.int p2), .val (.int p3), .val (.double (FP.l2d (ky p2))), .second, .unset] [])) _
    refine XS.iconst X5.here hx rfl (hb hby d10_7) ?_
    show Steps p.tables e below (T5.setTop (mkF m 8 #[.val (.ref a1), .val (.int p2), .val (.int p3), .val (.double (FP.l2d (ky p2))), .second, .unset] [(.int (2 : Int32))])) _
    refine XS.iloadN X5.here hx rfl (hb hby d10_8) rfl ?_
    show Steps p.tables e below (T5.setTop (mkF m 9 #[.val (.ref a1), .val (.int p2), .val (.int p3), .val (.double (FP.l2d (ky p2))), .second, .unset] [(.int p3), (.int (2 : Int32))])) _
    refine XS.imul X5.here hx rfl (hb hby d10_9) rfl ?_
    show Steps p.tables e below (T5.setTop (mkF m 10 #[.val (.ref a1), .val (.int p2), .val (.int p3), .val (.double (FP.l2d (ky p2))), .second, .unset] [(.int ((2 : Int32) * p3))])) _
    refine XS.iconst X5.here hx rfl (hb hby d10_10) ?_
    show Steps p.tables e below (T5.setTop (mkF m 11 #[.val (.ref a1), .val (.int p2), .val (.int p3), .val (.double (FP.l2d (ky p2))), .second, .unset] [(.int (1 : Int32)), (.int ((2 : Int32) * p3))])) _
    refine XS.iadd X5.here hx rfl (hb hby d10_11) rfl ?_
    show Steps p.tables e below (T5.setTop (mkF m 12 #[.val (.ref a1), .val (.int p2), .val (.int p3), .val (.double (FP.l2d (ky p2))), .second, .unset] [(.int (((2 : Int32) * p3) + (1 : Int32)))])) _
    refine XS.istore X5.here hx rfl (hb hby d10_12) rfl (l' := #[.val (.ref a1), .val (.int p2), .val (.int p3), .val (.double (FP.l2d (ky p2))), .second, .val (.int (((2 : Int32) * p3) + (1 : Int32)))]) rfl ?_
    show Steps p.tables e below (T5.setTop (mkF m 14 #[.val (.ref a1), .val (.int p2), .val (.int p3), .val (.double (FP.l2d (ky p2))), .second, .val (.int (((2 : Int32) * p3) + (1 : Int32)))] [])) _
    refine XS.iload X5.here hx rfl (hb hby d10_14) rfl ?_
    show Steps p.tables e below (T5.setTop (mkF m 16 #[.val (.ref a1), .val (.int p2), .val (.int p3), .val (.double (FP.l2d (ky p2))), .second, .val (.int (((2 : Int32) * p3) + (1 : Int32)))] [(.int (((2 : Int32) * p3) + (1 : Int32)))])) _
    refine XS.aloadN X5.here hx rfl (hb hby d10_16) rfl rfl ?_
    show Steps p.tables e below (T5.setTop (mkF m 17 #[.val (.ref a1), .val (.int p2), .val (.int p3), .val (.double (FP.l2d (ky p2))), .second, .val (.int (((2 : Int32) * p3) + (1 : Int32)))] [(.ref a1), (.int (((2 : Int32) * p3) + (1 : Int32)))])) _
    refine st8 _ ?_
    show Steps p.tables e below (T8.setTop (mkF m 20 #[.val (.ref a1), .val (.int p2), .val (.int p3), .val (.double (FP.l2d (ky p2))), .second, .val (.int (((2 : Int32) * p3) + (1 : Int32)))] [(.int sz), (.int (((2 : Int32) * p3) + (1 : Int32)))])) _
    refine XS.icmpNo X8.here hx rfl (hb hby d10_20) rfl (flt hc20).1 ?_
    show Steps p.tables e below (T8.setTop (mkF m 23 #[.val (.ref a1), .val (.int p2), .val (.int p3), .val (.double (FP.l2d (ky p2))), .second, .val (.int (((2 : Int32) * p3) + (1 : Int32)))] [])) _
    refine XS.goto X8.here hx rfl (pc0 := 23) (pc' := 108) rfl (hb hby d10_23) (by decide) (by decide) ?_
    show Steps p.tables e below (T8.setTop (mkF m 108 #[.val (.ref a1), .val (.int p2), .val (.int p3), .val (.double (FP.l2d (ky p2))), .second, .val (.int (((2 : Int32) * p3) + (1 : Int32)))] [])) _
    refine XS.aloadN X8.here hx rfl (hb hby d10_108) rfl rfl ?_
    show Steps p.tables e below (T8.setTop (mkF m 109 #[.val (.ref a1), .val (.int p2), .val (.int p3), .val (.double (FP.l2d (ky p2))), .second, .val (.int (((2 : Int32) * p3) + (1 : Int32)))] [(.ref a1)])) _
    refine XS.iloadN X8.here hx rfl (hb hby d10_109) rfl ?_
    show Steps p.tables e below (T8.setTop (mkF m 110 #[.val (.ref a1), .val (.int p2), .val (.int p3), .val (.double (FP.l2d (ky p2))), .second, .val (.int (((2 : Int32) * p3) + (1 : Int32)))] [(.int p2), (.ref a1)])) _
    refine XS.iloadN X8.here hx rfl (hb hby d10_110) rfl ?_
    show Steps p.tables e below (T8.setTop (mkF m 111 #[.val (.ref a1), .val (.int p2), .val (.int p3), .val (.double (FP.l2d (ky p2))), .second, .val (.int (((2 : Int32) * p3) + (1 : Int32)))] [(.int p3), (.int p2), (.ref a1)])) _
    refine st9.trans ?_
    show Steps p.tables e below (T9.setTop (mkF m 114 #[.val (.ref a1), .val (.int p2), .val (.int p3), .val (.double (FP.l2d (ky p2))), .second, .val (.int (((2 : Int32) * p3) + (1 : Int32)))] [])) _
    exact X9.returnOut hx Bd.returns (hb hby d10_114) hr
  · show Q10 Z a1 p2 p3 kk qq ww sz ky fh gp h0 n0 _ T9.heap _
    exact ⟨rfl, N9, Kc, Hc⟩
theorem d4_0 : decode prog_10_method_3_code 0 = .ok (.aload_n 0, 1) := by decide +kernel
theorem d4_1 : decode prog_10_method_3_code 1 = .ok (.getfield 17, 3) := by decide +kernel
theorem d4_4 : decode prog_10_method_3_code 4 = .ok (.iload_n 1, 1) := by decide +kernel
theorem d4_5 : decode prog_10_method_3_code 5 = .ok (.iaload, 1) := by decide +kernel
theorem d4_6 : decode prog_10_method_3_code 6 = .ok (.istore_n 2, 1) := by decide +kernel
theorem d4_7 : decode prog_10_method_3_code 7 = .ok (.iload_n 2, 1) := by decide +kernel
theorem d4_8 : decode prog_10_method_3_code 8 = .ok (.ifCond .ge 18, 3) := by decide +kernel
theorem d4_26 : decode prog_10_method_3_code 26 = .ok (.aload_n 0, 1) := by decide +kernel
theorem d4_27 : decode prog_10_method_3_code 27 = .ok (.iload_n 1, 1) := by decide +kernel
theorem d4_28 : decode prog_10_method_3_code 28 = .ok (.iload_n 2, 1) := by decide +kernel
theorem d4_29 : decode prog_10_method_3_code 29 = .ok (.invokevirtual 30, 3) := by decide +kernel
theorem d4_32 : decode prog_10_method_3_code 32 = .ok (.return_, 1) := by decide +kernel
theorem pn_4 : plainName "com/example/slotweave/slotweave/alloc/NodeHeap" = true := by first | (simp [plainName, overriddenIn]; done) | decide +kernel
theorem pd_4_4 : parseMethodDescriptor "(II)V" = some ⟨[.int, .int], none⟩ := by decide +kernel
theorem ef_4 (m : MethodId) (x0 : Addr) (x1 : Int32) : entryFrame m #[(.ref x0), (.int x1)] 3 = mkF m 0 #[.val (.ref x0), .val (.int x1), .unset] [] := by first | (simp [entryFrame, mkF, argsToLocals, Value.category]; done) | rfl
def Q4 (Z : State) (a1 : Addr) (p2 : Int32) (kk qq ww : Addr) (sz : Int32) (ky : Int32 → Int64) (fh gp : Int32 → Int32) (h0 : Heap) (n0 : Nat) (v : Option Value) (h : Heap) (L : List Loc) : Prop := v = none ∧ Fr n0 L ∧ Keep h0 h [a1, qq, ww] ∧ own_H Z h a1 kk qq ww (own_ls gp sz p2) ky (own_suf ky fh p2 (own_li gp sz p2)) (own_sug ky fh gp p2 (own_li gp sz p2))
set_option maxRecDepth 65536 in
set_option maxHeartbeats 40000000 in
theorem rm4_t (l : Launch) (Z : State) (a0 : Array Value) (hw : ∀ d ∈ tables_1, d.before a0 Z = true) (ws : List Jvm.Cond) (a1 : Addr) (p2 : Int32) (kk qq ww : Addr) (sz : Int32) (ky : Int32 → Int64) (fh gp : Int32 → Int32) (h0 : Heap) (n0 : Nat) (Z0 : n0 ≤ h0.size) (H : own_H Z h0 a1 kk qq ww sz ky fh gp) (NN : own_N n0 a1 kk qq ww) (v2 : own_v p2) (vi : own_v (own_li gp sz p2)) (vf : (0 : Int32) < own_li gp sz p2 → own_v (fh 0)) (hc8 : ¬ (gp p2 < (0 : Int32))) :
    MetFree l (⟨"com/example/slotweave/slotweave/alloc/NodeHeap", "lowered", "(I)V"⟩ : MethodName) (head1 (Jvm.Cond.code (⟨"com/example/slotweave/slotweave/alloc/NodeHeap", "lowered", "(I)V"⟩ : MethodName) prog_10_method_3_code 3 none :: ws) ({ frames := 2, cells := 0, slots := 0, locals := 31 } : Room)) (fun a U => a = #[(.ref a1), (.int p2)] ∧ Z.Warmed39 U.vm ∧ U.heap = h0) (fun _ _ _ _ _ => True) (fun _ U o U' => ∃ v L, o = .returned v ∧ Q4 Z a1 p2 kk qq ww sz ky fh gp h0 n0 v U'.heap L ∧ FrameEnd U o U' L ({ frames := 2, cells := 0, slots := 0, locals := 31 } : Room).cells ({ frames := 2, cells := 0, slots := 0, locals := 31 } : Room).slots) := by
  refine MetFree.of_bodySF (plainFor_of_name pn_4) hisR ?_
  intro p e s m args below meth c s₁ Bd hml0 hP hK
  obtain ⟨rfl, hZ, hh⟩ := hP
  have hx := Bd.exec
  have hby := Bd.bytes
  have hml : c.maxLocals = 3 := hml0
  have hown : s.vm.findClass "com/example/slotweave/slotweave/alloc/NodeHeap" = some m.cls := findClass_of_methodNamed Bd.named
  have hnm := (name_of_methodNamed Bd.named Bd.method).1
  have X0 : Stand p l e ({ frames := 2, cells := 0, slots := 0, locals := 31 } : Room) s m #[(.ref a1), (.int p2)] below meth c s₁ [] 0 0 := Stand.of_body Bd
  have e0 : s₁.heap = h0 := by rw [← hh, Bd.state]; rfl
  have N0 := Fr.nil n0
  have pre0 : ∀ t, Steps p.tables e below (s₁.setTop (mkF m 0 #[.val (.ref a1), .val (.int p2), .unset] [])) t → Steps p.tables e below (s₁.setTop (entryFrame m #[(.ref a1), (.int p2)] 3)) t := fun t k => castTop (ef_4 m a1 p2) k
  have HH := H
  have NNc := NN
  obtain ⟨E_a1, F_keys_a1, F_heap_a1, F_place_a1, F_size_a1, ⟨cl_kk, Ar_kk, S_kk, H_kk⟩, ⟨cl_qq, Ar_qq, S_qq, H_qq⟩, ⟨cl_ww, Ar_ww, S_ww, H_ww⟩⟩ := HH
  obtain ⟨n_aq, n_aw, n_qw, n_ka, n_kq, n_kw, g_a1, g_qq, g_ww⟩ := NNc
  have hin5 : ¬ (p2 < 0 ∨ cl_ww.slots.size ≤ (p2).toNatClampNeg) := own_in v2 S_ww
  have hat5 : cl_ww.slots[(p2).toNatClampNeg]? = some (.int (gp p2)) := H_ww p2 v2
  have hli : own_li gp sz p2 = gp p2 := if_neg hc8
  obtain ⟨T4, X4, e4, st4⟩ := getF X0 hx hZ hown (host := "") (Or.inl (hw _ (List.mem_of_getElem? (i := 15) rfl))) Via.refl e0 F_place_a1 (g := (mkF m 1 #[.val (.ref a1), .val (.int p2), .unset] [(.ref a1)])) rfl rfl (hb hby d4_1)
  obtain ⟨cq6, q6, q6'⟩ := E_a1.cell
  obtain ⟨_, _, ⟨T6, L6, k6, n6⟩, -, X6, ⟨Lc6, hQ6, l6, y6, z6⟩, st6⟩ := X4.privateBack hx (y := (⟨"com/example/slotweave/slotweave/alloc/NodeHeap", "siftUp", "(II)V"⟩ : MethodName)) hown (mvT hZ (hw _ (List.mem_of_getElem? (i := 28) rfl))) (mvT hZ (hw _ (List.mem_of_getElem? (i := 29) rfl))) (own_sel (mvT hZ (hw _ (List.mem_of_getElem? (i := 2) rfl))) (Cond.privateMethod_at (mvP hZ (hw _ (List.mem_of_getElem? (i := 30) rfl)) (args := #[]))) (mvT hZ (hw _ (List.mem_of_getElem? (i := 29) rfl))) (by decide)) (Cond.privateMethod_at (mvP hZ (hw _ (List.mem_of_getElem? (i := 30) rfl)) (args := #[]))) (mvT hZ (hw _ (List.mem_of_getElem? (i := 31) rfl))) (by decide) (backOf (W := 0) (rm5 l Z a0 hw [] a1 p2 (gp p2) kk qq ww sz ky fh gp h0 n0 Z0 H NN v2 (hli ▸ vi) (fun q => vf (hli.symm ▸ q))) hZ (hw _ (List.mem_of_getElem? (i := 31) rfl)) (hw _ (List.mem_of_getElem? (i := 3) rfl)) (by decide) (by decide)) (g := (mkF m 29 #[.val (.ref a1), .val (.int p2), .val (.int (gp p2))] [(.int (gp p2)), (.int p2), (.ref a1)])) rfl (by rw [hml]; rfl) (Steps.refl _) (a := a1) (by rw [e4]; exact q6) q6' (argsL := [(.int p2), (.int (gp p2))]) (rest := []) (lenOf pd_4_4 rfl) rfl (by show 2 * 0 + _ ≤ _; exact Nat.le_of_eq rfl) (hb hby d4_29) (fun _ _ => ⟨rfl, e4, (by decide : 0 + 0 ≤ _), (by decide : 0 + 0 ≤ _)⟩)
  dsimp only [Pt.U, Pt.locs, Pt.cells, Pt.slots] at X6 l6 y6 z6 st6 hQ6
  subst l6 y6 z6
  obtain ⟨rfl, N6q, Kc, Hc⟩ := hQ6
  have N6 := Fr.app N0 N6q
  obtain ⟨fs, hr, hrun, hended, hW, hsame⟩ := X6.leave (v := none) (fun _ => rfl)
  refine ⟨_, _, pre0 _ ?_, hrun, hended, _, _, rfl, ?_, ⟨_, rfl⟩, hW, hsame.mono (by decide) (by decide)⟩
  · show Steps p.tables e below (s₁.setTop (mkF m 0 #[.val (.ref a1), .val (.int p2), .unset] [])) _
    refine XS.aloadN X0.here hx rfl (hb hby d4_0) rfl rfl ?_
    show Steps p.tables e below (s₁.setTop (mkF m 1 #[.val (.ref a1), .val (.int p2), .unset] [(.ref a1)])) _
    refine st4 _ ?_
    show Steps p.tables e below (T4.setTop (mkF m 4 #[.val (.ref a1), .val (.int p2), .unset] [(.ref ww)])) _
    refine XS.iloadN X4.here hx rfl (hb hby d4_4) rfl ?_
    show Steps p.tables e below (T4.setTop (mkF m 5 #[.val (.ref a1), .val (.int p2), .unset] [(.int p2), (.ref ww)])) _
    refine X4.iaload hx (j := p2) (v := (.int (gp p2))) (by rw [e4]; exact Ar_ww.1) (State.isArrayOf_alike hZ.alike Ar_ww.2.1) Ar_ww.2.2 hin5 hat5 (g := (mkF m 5 #[.val (.ref a1), .val (.int p2), .unset] [(.int p2), (.ref ww)])) rfl rfl (hb hby d4_5) _ ?_
    show Steps p.tables e below (T4.setTop (mkF m 6 #[.val (.ref a1), .val (.int p2), .unset] [(.int (gp p2))])) _
    refine XS.istoreN X4.here hx rfl (hb hby d4_6) rfl (l' := #[.val (.ref a1), .val (.int p2), .val (.int (gp p2))]) rfl ?_
    show Steps p.tables e below (T4.setTop (mkF m 7 #[.val (.ref a1), .val (.int p2), .val (.int (gp p2))] [])) _
    refine XS.iloadN X4.here hx rfl (hb hby d4_7) rfl ?_
    show Steps p.tables e below (T4.setTop (mkF m 8 #[.val (.ref a1), .val (.int p2), .val (.int (gp p2))] [(.int (gp p2))])) _
    refine XS.ifYes X4.here hx rfl (pc0 := 8) (pc' := 26) rfl (hb hby d4_8) rfl ((if0 _ _).trans (flt hc8).2.1) (by decide) (by decide) ?_
    show Steps p.tables e below (T4.setTop (mkF m 26 #[.val (.ref a1), .val (.int p2), .val (.int (gp p2))] [])) _
    refine XS.aloadN X4.here hx rfl (hb hby d4_26) rfl rfl ?_
    show Steps p.tables e below (T4.setTop (mkF m 27 #[.val (.ref a1), .val (.int p2), .val (.int (gp p2))] [(.ref a1)])) _
    refine XS.iloadN X4.here hx rfl (hb hby d4_27) rfl ?_
    show Steps p.tables e below (T4.setTop (mkF m 28 #[.val (.ref a1), .val (.int p2), .val (.int (gp p2))] [(.int p2), (.ref a1)])) _
    refine XS.iloadN X4.here hx rfl (hb hby d4_28) rfl ?_
    show Steps p.tables e below (T4.setTop (mkF m 29 #[.val (.ref a1), .val (.int p2), .val (.int (gp p2))] [(.int (gp p2)), (.int p2), (.ref a1)])) _
    refine st6.trans ?_
    show Steps p.tables e below (T6.setTop (mkF m 32 #[.val (.ref a1), .val (.int p2), .val (.int (gp p2))] [])) _
    exact X6.returnOut hx Bd.returns (hb hby d4_32) hr
  · show Q4 Z a1 p2 kk qq ww sz ky fh gp h0 n0 _ T6.heap _
    unfold Q4
    rw [hli, show own_ls gp sz p2 = sz from if_neg hc8]
    exact ⟨rfl, N6, (Keep.refl h0 [a1, qq, ww]).trans Kc (fun x hx => Or.inl (List.mem_cons_of_mem _ hx)), Hc⟩
theorem d4_11 : decode prog_10_method_3_code 11 = .ok (.aload_n 0, 1) := by decide +kernel
theorem d4_12 : decode prog_10_method_3_code 12 = .ok (.getfield 26, 3) := by decide +kernel
theorem d4_15 : decode prog_10_method_3_code 15 = .ok (.istore_n 2, 1) := by decide +kernel
theorem d4_16 : decode prog_10_method_3_code 16 = .ok (.aload_n 0, 1) := by decide +kernel
theorem d4_17 : decode prog_10_method_3_code 17 = .ok (.dup, 1) := by decide +kernel
theorem d4_18 : decode prog_10_method_3_code 18 = .ok (.getfield 26, 3) := by decide +kernel
theorem d4_21 : decode prog_10_method_3_code 21 = .ok (.iconst 1, 1) := by decide +kernel
theorem d4_22 : decode prog_10_method_3_code 22 = .ok (.iadd, 1) := by decide +kernel
theorem d4_23 : decode prog_10_method_3_code 23 = .ok (.putfield 26, 3) := by decide +kernel

set_option maxRecDepth 65536 in
set_option maxHeartbeats 40000000 in
theorem rm4_f (l : Launch) (Z : State) (a0 : Array Value) (hw : ∀ d ∈ tables_1, d.before a0 Z = true) (ws : List Jvm.Cond) (a1 : Addr) (p2 : Int32) (kk qq ww : Addr) (sz : Int32) (ky : Int32 → Int64) (fh gp : Int32 → Int32) (h0 : Heap) (n0 : Nat) (Z0 : n0 ≤ h0.size) (H : own_H Z h0 a1 kk qq ww sz ky fh gp) (NN : own_N n0 a1 kk qq ww) (v2 : own_v p2) (vi : own_v (own_li gp sz p2)) (vf : (0 : Int32) < own_li gp sz p2 → own_v (fh 0)) (hc8 : gp p2 < (0 : Int32)) :
    MetFree l (⟨"com/example/slotweave/slotweave/alloc/NodeHeap", "lowered", "(I)V"⟩ : MethodName) (head1 (Jvm.Cond.code (⟨"com/example/slotweave/slotweave/alloc/NodeHeap", "lowered", "(I)V"⟩ : MethodName) prog_10_method_3_code 3 none :: ws) ({ frames := 2, cells := 0, slots := 0, locals := 31 } : Room)) (fun a U => a = #[(.ref a1), (.int p2)] ∧ Z.Warmed39 U.vm ∧ U.heap = h0) (fun _ _ _ _ _ => True) (fun _ U o U' => ∃ v L, o = .returned v ∧ Q4 Z a1 p2 kk qq ww sz ky fh gp h0 n0 v U'.heap L ∧ FrameEnd U o U' L ({ frames := 2, cells := 0, slots := 0, locals := 31 } : Room).cells ({ frames := 2, cells := 0, slots := 0, locals := 31 } : Room).slots) := by
  refine MetFree.of_bodySF (plainFor_of_name pn_4) hisR ?_
  intro p e s m args below meth c s₁ Bd hml0 hP hK
  obtain ⟨rfl, hZ, hh⟩ := hP
  have hx := Bd.exec
  have hby := Bd.bytes
  have hml : c.maxLocals = 3 := hml0
  have hown : s.vm.findClass "com/example/slotweave/slotweave/alloc/NodeHeap" = some m.cls := findClass_of_methodNamed Bd.named
  have hnm := (name_of_methodNamed Bd.named Bd.method).1
  have X0 : Stand p l e ({ frames := 2, cells := 0, slots := 0, locals := 31 } : Room) s m #[(.ref a1), (.int p2)] below meth c s₁ [] 0 0 := Stand.of_body Bd
  have e0 : s₁.heap = h0 := by rw [← hh, Bd.state]; rfl
  have N0 := Fr.nil n0
  have pre0 : ∀ t, Steps p.tables e below (s₁.setTop (mkF m 0 #[.val (.ref a1), .val (.int p2), .unset] [])) t → Steps p.tables e below (s₁.setTop (entryFrame m #[(.ref a1), (.int p2)] 3)) t := fun t k => castTop (ef_4 m a1 p2) k
  have HH := H
  have NNc := NN
  obtain ⟨E_a1, F_keys_a1, F_heap_a1, F_place_a1, F_size_a1, ⟨cl_kk, Ar_kk, S_kk, H_kk⟩, ⟨cl_qq, Ar_qq, S_qq, H_qq⟩, ⟨cl_ww, Ar_ww, S_ww, H_ww⟩⟩ := HH
  obtain ⟨n_aq, n_aw, n_qw, n_ka, n_kq, n_kw, g_a1, g_qq, g_ww⟩ := NNc
  have hin5 : ¬ (p2 < 0 ∨ cl_ww.slots.size ≤ (p2).toNatClampNeg) := own_in v2 S_ww
  have hat5 : cl_ww.slots[(p2).toNatClampNeg]? = some (.int (gp p2)) := H_ww p2 v2
  have hli : own_li gp sz p2 = sz := if_pos hc8
  obtain ⟨T4, X4, e4, st4⟩ := getF X0 hx hZ hown (host := "") (Or.inl (hw _ (List.mem_of_getElem? (i := 15) rfl))) Via.refl e0 F_place_a1 (g := (mkF m 1 #[.val (.ref a1), .val (.int p2), .unset] [(.ref a1)])) rfl rfl (hb hby d4_1)
  obtain ⟨T7, X7, e7, st7⟩ := getF X4 hx hZ hown (host := "") (Or.inl (hw _ (List.mem_of_getElem? (i := 26) rfl))) Via.refl e4 F_size_a1 (g := (mkF m 12 #[.val (.ref a1), .val (.int p2), .val (.int (gp p2))] [(.ref a1)])) rfl rfl (hb hby d4_12)
  obtain ⟨T8, X8, e8, st8⟩ := getF X7 hx hZ hown (host := "") (Or.inl (hw _ (List.mem_of_getElem? (i := 26) rfl))) Via.refl e7 F_size_a1 (g := (mkF m 18 #[.val (.ref a1), .val (.int p2), .val (.int sz)] [(.ref a1), (.ref a1)])) rfl rfl (hb hby d4_18)
  obtain ⟨T9, h9, X9, e9, W9, st9⟩ := putF X8 hx hZ hown (host := "") (Or.inl (hw _ (List.mem_of_getElem? (i := 26) rfl))) Via.refl e8 F_size_a1 E_a1 (Or.inl (hw _ (List.mem_of_getElem? (i := 27) rfl))) (hw _ (List.mem_of_getElem? (i := 2) rfl)) (ty := .int) (by decide) rfl rfl (g := (mkF m 23 #[.val (.ref a1), .val (.int p2), .val (.int sz)] [(.int (sz + (1 : Int32))), (.ref a1)])) rfl rfl (hb hby d4_23)
  have Fw9 := F_size_a1.same W9
  have K9 : Keep h0 h9 [a1] := (Keep.refl h0 [a1]).wr W9 (Or.inl (List.mem_of_getElem? (i := 0) rfl))
  have N9 := Fr.snoc X9 N0 g_a1
  obtain ⟨cq10, q10, q10'⟩ := (E_a1.wr W9).cell
  obtain ⟨_, _, ⟨T10, L10, k10, n10⟩, -, X10, ⟨Lc10, hQ10, l10, y10, z10⟩, st10⟩ := X9.privateBack hx (y := (⟨"com/example/slotweave/slotweave/alloc/NodeHeap", "siftUp", "(II)V"⟩ : MethodName)) hown (mvT hZ (hw _ (List.mem_of_getElem? (i := 28) rfl))) (mvT hZ (hw _ (List.mem_of_getElem? (i := 29) rfl))) (own_sel (mvT hZ (hw _ (List.mem_of_getElem? (i := 2) rfl))) (Cond.privateMethod_at (mvP hZ (hw _ (List.mem_of_getElem? (i := 30) rfl)) (args := #[]))) (mvT hZ (hw _ (List.mem_of_getElem? (i := 29) rfl))) (by decide)) (Cond.privateMethod_at (mvP hZ (hw _ (List.mem_of_getElem? (i := 30) rfl)) (args := #[]))) (mvT hZ (hw _ (List.mem_of_getElem? (i := 31) rfl))) (by decide) (backOf (W := 0) (rm5 l Z a0 hw [] a1 p2 sz kk qq ww (sz + (1 : Int32)) ky fh gp h9 n0 (Nat.le_trans Z0 K9.1) (H.ws hw NN W9) NN v2 (hli ▸ vi) (fun q => vf (hli.symm ▸ q))) hZ (hw _ (List.mem_of_getElem? (i := 31) rfl)) (hw _ (List.mem_of_getElem? (i := 3) rfl)) (by decide) (by decide)) (g := (mkF m 29 #[.val (.ref a1), .val (.int p2), .val (.int sz)] [(.int sz), (.int p2), (.ref a1)])) rfl (by rw [hml]; rfl) (Steps.refl _) (a := a1) (by rw [e9]; exact q10) q10' (argsL := [(.int p2), (.int sz)]) (rest := []) (lenOf pd_4_4 rfl) rfl (by show 2 * 0 + _ ≤ _; exact Nat.le_of_eq rfl) (hb hby d4_29) (fun _ _ => ⟨rfl, e9, (by decide : 0 + 0 ≤ _), (by decide : 0 + 0 ≤ _)⟩)
  dsimp only [Pt.U, Pt.locs, Pt.cells, Pt.slots] at X10 l10 y10 z10 st10 hQ10
  subst l10 y10 z10
  obtain ⟨rfl, N10q, Kc, Hc⟩ := hQ10
  have N10 := Fr.app N9 N10q
  obtain ⟨fs, hr, hrun, hended, hW, hsame⟩ := X10.leave (v := none) (fun _ => rfl)
  refine ⟨_, _, pre0 _ ?_, hrun, hended, _, _, rfl, ?_, ⟨_, rfl⟩, hW, hsame.mono (by decide) (by decide)⟩
  · show Steps p.tables e below (s₁.setTop (mkF m 0 #[.val (.ref a1), .val (.int p2), .unset] [])) _
    refine XS.aloadN X0.here hx rfl (hb hby d4_0) rfl rfl ?_
    show Steps p.tables e below (s₁.setTop (mkF m 1 #[.val (.ref a1), .val (.int p2), .unset] [(.ref a1)])) _
    refine st4 _ ?_
    show Steps p.tables e below (T4.setTop (mkF m 4 #[.val (.ref a1), .val (.int p2), .unset] [(.ref ww)])) _
    refine XS.iloadN X4.here hx rfl (hb hby d4_4) rfl ?_
    show Steps p.tables e below (T4.setTop (mkF m 5 #[.val (.ref a1), .val (.int p2), .unset] [(.int p2), (.ref ww)])) _
    refine X4.iaload hx (j := p2) (v := (.int (gp p2))) (by rw [e4]; exact Ar_ww.1) (State.isArrayOf_alike hZ.alike Ar_ww.2.1) Ar_ww.2.2 hin5 hat5 (g := (mkF m 5 #[.val (.ref a1), .val (.int p2), .unset] [(.int p2), (.ref ww)])) rfl rfl (hb hby d4_5) _ ?_
    show Steps p.tables e below (T4.setTop (mkF m 6 #[.val (.ref a1), .val (.int p2), .unset] [(.int (gp p2))])) _
    refine XS.istoreN X4.here hx rfl (hb hby d4_6) rfl (l' := #[.val (.ref a1), .val (.int p2), .val (.int (gp p2))]) rfl ?_
    show Steps p.tables e below (T4.setTop (mkF m 7 #[.val (.ref a1), .val (.int p2), .val (.int (gp p2))] [])) _
    refine XS.iloadN X4.here hx rfl (hb hby d4_7) rfl ?_
    show Steps p.tables e below (T4.setTop (mkF m 8 #[.val (.ref a1), .val (.int p2), .val (.int (gp p2))] [(.int (gp p2))])) _
    refine XS.ifNo X4.here hx rfl (hb hby d4_8) rfl ((if0 _ _).trans (tlt hc8).2.1) ?_
    show Steps p.tables e below (T4.setTop (mkF m 11 #[.val (.ref a1), .val (.int p2), .val (.int (gp p2))] [])) _
    refine XS.aloadN X4.here hx rfl (hb hby d4_11) rfl rfl ?_
    show Steps p.tables e below (T4.setTop (mkF m 12 #[.val (.ref a1), .val (.int p2), .val (.int (gp p2))] [(.ref a1)])) _
    refine st7 _ ?_
    show Steps p.tables e below (T7.setTop (mkF m 15 #[.val (.ref a1), .val (.int p2), .val (.int (gp p2))] [(.int sz)])) _
    refine XS.istoreN X7.here hx rfl (hb hby d4_15) rfl (l' := #[.val (.ref a1), .val (.int p2), .val (.int sz)]) rfl ?_
    show Steps p.tables e below (T7.setTop (mkF m 16 #[.val (.ref a1), .val (.int p2), .val (.int sz)] [])) _
    refine XS.aloadN X7.here hx rfl (hb hby d4_16) rfl rfl ?_
    show Steps p.tables e below (T7.setTop (mkF m 17 #[.val (.ref a1), .val (.int p2), .val (.int sz)] [(.ref a1)])) _
    refine XS.dup X7.here hx rfl (hb hby d4_17) rfl rfl ?_
    show Steps p.tables e below (T7.setTop (mkF m 18 #[.val (.ref a1), .val (.int p2), .val (.int sz)] [(.ref a1), (.ref a1)])) _
    refine st8 _ ?_
    show Steps p.tables e below (T8.setTop (mkF m 21 #[.val (.ref a1), .val (.int p2), .val (.int sz)] [(.int sz), (.ref a1)])) _
    refine XS.iconst X8.here hx rfl (hb hby d4_21) ?_
    show Steps p.tables e below (T8.setTop (mkF m 22 #[.val (.ref a1), .val (.int p2), .val (.int sz)] [(.int (1 : Int32)), (.int sz), (.ref a1)])) _
    refine XS.iadd X8.here hx rfl (hb hby d4_22) rfl ?_
    show Steps p.tables e below (T8.setTop (mkF m 23 #[.val (.ref a1), .val (.int p2), .val (.int sz)] [(.int (sz + (1 : Int32))), (.ref a1)])) _
    refine st9 _ ?_
    show Steps p.tables e below (T9.setTop (mkF m 26 #[.val (.ref a1), .val (.int p2), .val (.int sz)] [])) _
    refine XS.aloadN X9.here hx rfl (hb hby d4_26) rfl rfl ?_
    show Steps p.tables e below (T9.setTop (mkF m 27 #[.val (.ref a1), .val (.int p2), .val (.int sz)] [(.ref a1)])) _
    refine XS.iloadN X9.here hx rfl (hb hby d4_27) rfl ?_
    show Steps p.tables e below (T9.setTop (mkF m 28 #[.val (.ref a1), .val (.int p2), .val (.int sz)] [(.int p2), (.ref a1)])) _
    refine XS.iloadN X9.here hx rfl (hb hby d4_28) rfl ?_
    show Steps p.tables e below (T9.setTop (mkF m 29 #[.val (.ref a1), .val (.int p2), .val (.int sz)] [(.int sz), (.int p2), (.ref a1)])) _
    refine st10.trans ?_
    show Steps p.tables e below (T10.setTop (mkF m 32 #[.val (.ref a1), .val (.int p2), .val (.int sz)] [])) _
    exact X10.returnOut hx Bd.returns (hb hby d4_32) hr
  · show Q4 Z a1 p2 kk qq ww sz ky fh gp h0 n0 _ T10.heap _
    unfold Q4
    rw [hli, show own_ls gp sz p2 = sz + 1 from if_pos hc8]
    exact ⟨rfl, N10, ((Keep.refl h0 [a1, qq, ww]).wr W9 (Or.inl (List.mem_cons_self ..))).trans Kc (fun x hx => Or.inl (List.mem_cons_of_mem _ hx)), Hc⟩
theorem rm4 (l : Launch) (Z : State) (a0 : Array Value) (hw : ∀ d ∈ tables_1, d.before a0 Z = true) (ws : List Jvm.Cond) (a1 : Addr) (p2 : Int32) (kk qq ww : Addr) (sz : Int32) (ky : Int32 → Int64) (fh gp : Int32 → Int32) (h0 : Heap) (n0 : Nat) (Z0 : n0 ≤ h0.size) (H : own_H Z h0 a1 kk qq ww sz ky fh gp) (NN : own_N n0 a1 kk qq ww) (v2 : own_v p2) (vi : own_v (own_li gp sz p2)) (vf : (0 : Int32) < own_li gp sz p2 → own_v (fh 0)) :
    MetFree l (⟨"com/example/slotweave/slotweave/alloc/NodeHeap", "lowered", "(I)V"⟩ : MethodName) (head1 (Jvm.Cond.code (⟨"com/example/slotweave/slotweave/alloc/NodeHeap", "lowered", "(I)V"⟩ : MethodName) prog_10_method_3_code 3 none :: ws) ({ frames := 2, cells := 0, slots := 0, locals := 31 } : Room)) (fun a U => a = #[(.ref a1), (.int p2)] ∧ Z.Warmed39 U.vm ∧ U.heap = h0) (fun _ _ _ _ _ => True) (fun _ U o U' => ∃ v L, o = .returned v ∧ Q4 Z a1 p2 kk qq ww sz ky fh gp h0 n0 v U'.heap L ∧ FrameEnd U o U' L ({ frames := 2, cells := 0, slots := 0, locals := 31 } : Room).cells ({ frames := 2, cells := 0, slots := 0, locals := 31 } : Room).slots) := by
  by_cases hc8 : gp p2 < (0 : Int32)
  · exact rm4_f l Z a0 hw ws a1 p2 kk qq ww sz ky fh gp h0 n0 Z0 H NN v2 vi vf hc8
  · exact rm4_t l Z a0 hw ws a1 p2 kk qq ww sz ky fh gp h0 n0 Z0 H NN v2 vi vf hc8
theorem d9_0 : decode prog_10_method_4_code 0 = .ok (.aload_n 0, 1) := by decide +kernel
theorem d9_1 : decode prog_10_method_4_code 1 = .ok (.getfield 13, 3) := by decide +kernel
theorem d9_4 : decode prog_10_method_4_code 4 = .ok (.iconst 0, 1) := by decide +kernel
theorem d9_5 : decode prog_10_method_4_code 5 = .ok (.iaload, 1) := by decide +kernel
theorem d9_6 : decode prog_10_method_4_code 6 = .ok (.istore_n 1, 1) := by decide +kernel
theorem d9_7 : decode prog_10_method_4_code 7 = .ok (.aload_n 0, 1) := by decide +kernel
theorem d9_8 : decode prog_10_method_4_code 8 = .ok (.getfield 17, 3) := by decide +kernel
theorem d9_11 : decode prog_10_method_4_code 11 = .ok (.iload_n 1, 1) := by decide +kernel
theorem d9_12 : decode prog_10_method_4_code 12 = .ok (.iconst (-1), 1) := by decide +kernel
theorem d9_13 : decode prog_10_method_4_code 13 = .ok (.iastore, 1) := by decide +kernel
theorem d9_14 : decode prog_10_method_4_code 14 = .ok (.aload_n 0, 1) := by decide +kernel
theorem d9_15 : decode prog_10_method_4_code 15 = .ok (.dup, 1) := by decide +kernel
theorem d9_16 : decode prog_10_method_4_code 16 = .ok (.getfield 26, 3) := by decide +kernel
theorem d9_19 : decode prog_10_method_4_code 19 = .ok (.iconst 1, 1) := by decide +kernel
theorem d9_20 : decode prog_10_method_4_code 20 = .ok (.isub, 1) := by decide +kernel
theorem d9_21 : decode prog_10_method_4_code 21 = .ok (.putfield 26, 3) := by decide +kernel
theorem d9_24 : decode prog_10_method_4_code 24 = .ok (.aload_n 0, 1) := by decide +kernel
theorem d9_25 : decode prog_10_method_4_code 25 = .ok (.getfield 26, 3) := by decide +kernel
theorem d9_28 : decode prog_10_method_4_code 28 = .ok (.ifCond .le 17, 3) := by decide +kernel
theorem d9_45 : decode prog_10_method_4_code 45 = .ok (.iload_n 1, 1) := by decide +kernel
theorem d9_46 : decode prog_10_method_4_code 46 = .ok (.ireturn, 1) := by decide +kernel
theorem pn_9 : plainName "com/example/slotweave/slotweave/alloc/NodeHeap" = true := by first | (simp [plainName, overriddenIn]; done) | decide +kernel
theorem ef_9 (m : MethodId) (x0 : Addr) : entryFrame m #[(.ref x0)] 2 = mkF m 0 #[.val (.ref x0), .unset] [] := by first | (simp [entryFrame, mkF, argsToLocals, Value.category]; done) | rfl
def Q9_t (Z : State) (a1 : Addr) (kk qq ww : Addr) (sz : Int32) (ky : Int32 → Int64) (fh gp : Int32 → Int32) (h0 : Heap) (n0 : Nat) (v : Option Value) (h : Heap) (L : List Loc) : Prop := v = some (.int (fh 0)) ∧ Fr n0 L ∧ Keep h0 h [ww, a1] ∧ own_H Z h a1 kk qq ww (sz - (1 : Int32)) ky fh (own_up gp (fh 0) (-1 : Int32))
set_option maxRecDepth 65536 in
set_option maxHeartbeats 40000000 in
theorem rm9_t (l : Launch) (Z : State) (a0 : Array Value) (hw : ∀ d ∈ tables_1, d.before a0 Z = true) (ws : List Jvm.Cond) (a1 : Addr) (kk qq ww : Addr) (sz : Int32) (ky : Int32 → Int64) (fh gp : Int32 → Int32) (h0 : Heap) (n0 : Nat) (Z0 : n0 ≤ h0.size) (H : own_H Z h0 a1 kk qq ww sz ky fh gp) (NN : own_N n0 a1 kk qq ww) (v0 : own_v (fh 0)) (hc28 : ¬ ((0 : Int32) < (sz - (1 : Int32)))) :
    MetFree l (⟨"com/example/slotweave/slotweave/alloc/NodeHeap", "poll", "()I"⟩ : MethodName) (head1 (Jvm.Cond.code (⟨"com/example/slotweave/slotweave/alloc/NodeHeap", "poll", "()I"⟩ : MethodName) prog_10_method_4_code 2 (some .int) :: ws) ({ frames := 0, cells := 0, slots := 0, locals := 0 } : Room)) (fun a U => a = #[(.ref a1)] ∧ Z.Warmed39 U.vm ∧ U.heap = h0) (fun _ _ _ _ _ => True) (fun _ U o U' => ∃ v L, o = .returned v ∧ Q9_t Z a1 kk qq ww sz ky fh gp h0 n0 v U'.heap L ∧ FrameEnd U o U' L ({ frames := 0, cells := 0, slots := 0, locals := 0 } : Room).cells ({ frames := 0, cells := 0, slots := 0, locals := 0 } : Room).slots) := by
  refine MetFree.of_bodySF (plainFor_of_name pn_9) hisR ?_
  intro p e s m args below meth c s₁ Bd hml0 hP hK
  obtain ⟨rfl, hZ, hh⟩ := hP
  have hx := Bd.exec
  have hby := Bd.bytes
  have hml : c.maxLocals = 2 := hml0
  have hown : s.vm.findClass "com/example/slotweave/slotweave/alloc/NodeHeap" = some m.cls := findClass_of_methodNamed Bd.named
  have hnm := (name_of_methodNamed Bd.named Bd.method).1
  have X0 : Stand p l e ({ frames := 0, cells := 0, slots := 0, locals := 0 } : Room) s m #[(.ref a1)] below meth c s₁ [] 0 0 := Stand.of_body Bd
  have e0 : s₁.heap = h0 := by rw [← hh, Bd.state]; rfl
  have N0 := Fr.nil n0
  have pre0 : ∀ t, Steps p.tables e below (s₁.setTop (mkF m 0 #[.val (.ref a1), .unset] [])) t → Steps p.tables e below (s₁.setTop (entryFrame m #[(.ref a1)] 2)) t := fun t k => castTop (ef_9 m a1) k
  have HH := H
  have NNc := NN
  obtain ⟨E_a1, F_keys_a1, F_heap_a1, F_place_a1, F_size_a1, ⟨cl_kk, Ar_kk, S_kk, H_kk⟩, ⟨cl_qq, Ar_qq, S_qq, H_qq⟩, ⟨cl_ww, Ar_ww, S_ww, H_ww⟩⟩ := HH
  obtain ⟨n_aq, n_aw, n_qw, n_ka, n_kq, n_kw, g_a1, g_qq, g_ww⟩ := NNc
  have hin5 : ¬ ((0 : Int32) < 0 ∨ cl_qq.slots.size ≤ ((0 : Int32)).toNatClampNeg) := own_in own_v0 S_qq
  have hat5 : cl_qq.slots[((0 : Int32)).toNatClampNeg]? = some (.int (fh 0)) := H_qq 0 own_v0
  have hin13 : ¬ ((fh 0) < 0 ∨ cl_ww.slots.size ≤ ((fh 0)).toNatClampNeg) := own_in v0 S_ww
  obtain ⟨T3, X3, e3, st3⟩ := getF X0 hx hZ hown (host := "") (Or.inl (hw _ (List.mem_of_getElem? (i := 13) rfl))) Via.refl e0 F_heap_a1 (g := (mkF m 1 #[.val (.ref a1), .unset] [(.ref a1)])) rfl rfl (hb hby d9_1)
  obtain ⟨T6, X6, e6, st6⟩ := getF X3 hx hZ hown (host := "") (Or.inl (hw _ (List.mem_of_getElem? (i := 15) rfl))) Via.refl e3 F_place_a1 (g := (mkF m 8 #[.val (.ref a1), .val (.int (fh 0))] [(.ref a1)])) rfl rfl (hb hby d9_8)
  obtain ⟨T7, h7, X7, e7, W7, st7⟩ := stI X6 hx hZ e6 Ar_ww (j := (fh 0)) hin13 (g := (mkF m 13 #[.val (.ref a1), .val (.int (fh 0))] [(.int (-1 : Int32)), (.int (fh 0)), (.ref ww)])) rfl rfl (hb hby d9_13)
  have N7 := Fr.snoc X7 N0 g_ww
  have K7 : Keep h0 h7 [ww, a1] := (Keep.refl h0 [ww, a1]).wr W7 (Or.inl (List.mem_of_getElem? (i := 0) rfl))
  obtain ⟨T9, X9, e9, st9⟩ := getF X7 hx hZ hown (host := "") (Or.inl (hw _ (List.mem_of_getElem? (i := 26) rfl))) Via.refl e7 (F_size_a1.other W7 (Or.inl n_aw)) (g := (mkF m 16 #[.val (.ref a1), .val (.int (fh 0))] [(.ref a1), (.ref a1)])) rfl rfl (hb hby d9_16)
  obtain ⟨T10, h10, X10, e10, W10, st10⟩ := putF X9 hx hZ hown (host := "") (Or.inl (hw _ (List.mem_of_getElem? (i := 26) rfl))) Via.refl e9 (F_size_a1.other W7 (Or.inl n_aw)) (E_a1.wr W7) (Or.inl (hw _ (List.mem_of_getElem? (i := 27) rfl))) (hw _ (List.mem_of_getElem? (i := 2) rfl)) (ty := .int) (by decide) rfl rfl (g := (mkF m 21 #[.val (.ref a1), .val (.int (fh 0))] [(.int (sz - (1 : Int32))), (.ref a1)])) rfl rfl (hb hby d9_21)
  have Fw10 := (F_size_a1.other W7 (Or.inl n_aw)).same W10
  have K10 : Keep h0 h10 [ww, a1] := K7.wr W10 (Or.inl (List.mem_of_getElem? (i := 1) rfl))
  have N10 := Fr.snoc X10 N7 g_a1
  obtain ⟨T11, X11, e11, st11⟩ := getF X10 hx hZ hown (host := "") (Or.inl (hw _ (List.mem_of_getElem? (i := 26) rfl))) Via.refl e10 Fw10 (g := (mkF m 25 #[.val (.ref a1), .val (.int (fh 0))] [(.ref a1)])) rfl rfl (hb hby d9_25)
  obtain ⟨fs, hr, hrun, hended, hW, hsame⟩ := X11.leave (v := some (.int (fh 0))) (fun h => by rw [Bd.returns] at h; cases h)
  refine ⟨_, _, pre0 _ ?_, hrun, hended, _, _, rfl, ?_, ⟨_, rfl⟩, hW, hsame.mono (by decide) (by decide)⟩
  · show Steps p.tables e below (s₁.setTop (mkF m 0 #[.val (.ref a1), .unset] [])) _
    refine XS.aloadN X0.here hx rfl (hb hby d9_0) rfl rfl ?_
    show Steps p.tables e below (s₁.setTop (mkF m 1 #[.val (.ref a1), .unset] [(.ref a1)])) _
    refine st3 _ ?_
    show Steps p.tables e below (T3.setTop (mkF m 4 #[.val (.ref a1), .unset] [(.ref qq)])) _
    refine XS.iconst X3.here hx rfl (hb hby d9_4) ?_
    show Steps p.tables e below (T3.setTop (mkF m 5 #[.val (.ref a1), .unset] [(.int (0 : Int32)), (.ref qq)])) _
    refine X3.iaload hx (j := (0 : Int32)) (v := (.int (fh 0))) (by rw [e3]; exact Ar_qq.1) (State.isArrayOf_alike hZ.alike Ar_qq.2.1) Ar_qq.2.2 hin5 hat5 (g := (mkF m 5 #[.val (.ref a1), .unset] [(.int (0 : Int32)), (.ref qq)])) rfl rfl (hb hby d9_5) _ ?_
    show Steps p.tables e below (T3.setTop (mkF m 6 #[.val (.ref a1), .unset] [(.int (fh 0))])) _
    refine XS.istoreN X3.here hx rfl (hb hby d9_6) rfl (l' := #[.val (.ref a1), .val (.int (fh 0))]) rfl ?_
    show Steps p.tables e below (T3.setTop (mkF m 7 #[.val (.ref a1), .val (.int (fh 0))] [])) _
    refine XS.aloadN X3.here hx rfl (hb hby d9_7) rfl rfl ?_
    show Steps p.tables e below (T3.setTop (mkF m 8 #[.val (.ref a1), .val (.int (fh 0))] [(.ref a1)])) _
    refine st6 _ ?_
    show Steps p.tables e below (T6.setTop (mkF m 11 #[.val (.ref a1), .val (.int (fh 0))] [(.ref ww)])) _
    refine XS.iloadN X6.here hx rfl (hb hby d9_11) rfl ?_
    show Steps p.tables e below (T6.setTop (mkF m 12 #[.val (.ref a1), .val (.int (fh 0))] [(.int (fh 0)), (.ref ww)])) _
    refine XS.iconst X6.here hx rfl (hb hby d9_12) ?_
    show Steps p.tables e below (T6.setTop (mkF m 13 #[.val (.ref a1), .val (.int (fh 0))] [(.int (-1 : Int32)), (.int (fh 0)), (.ref ww)])) _
    refine st7 _ ?_
    show Steps p.tables e below (T7.setTop (mkF m 14 #[.val (.ref a1), .val (.int (fh 0))] [])) _
    refine XS.aloadN X7.here hx rfl (hb hby d9_14) rfl rfl ?_
    show Steps p.tables e below (T7.setTop (mkF m 15 #[.val (.ref a1), .val (.int (fh 0))] [(.ref a1)])) _
    refine XS.dup X7.here hx rfl (hb hby d9_15) rfl rfl ?_
    show Steps p.tables e below (T7.setTop (mkF m 16 #[.val (.ref a1), .val (.int (fh 0))] [(.ref a1), (.ref a1)])) _
    refine st9 _ ?_
    show Steps p.tables e below (T9.setTop (mkF m 19 #[.val (.ref a1), .val (.int (fh 0))] [(.int sz), (.ref a1)])) _
    refine XS.iconst X9.here hx rfl (hb hby d9_19) ?_
    show Steps p.tables e below (T9.setTop (mkF m 20 #[.val (.ref a1), .val (.int (fh 0))] [(.int (1 : Int32)), (.int sz), (.ref a1)])) _
    refine XS.isub X9.here hx rfl (hb hby d9_20) rfl ?_
    show Steps p.tables e below (T9.setTop (mkF m 21 #[.val (.ref a1), .val (.int (fh 0))] [(.int (sz - (1 : Int32))), (.ref a1)])) _
    refine st10 _ ?_
    show Steps p.tables e below (T10.setTop (mkF m 24 #[.val (.ref a1), .val (.int (fh 0))] [])) _
    refine XS.aloadN X10.here hx rfl (hb hby d9_24) rfl rfl ?_
    show Steps p.tables e below (T10.setTop (mkF m 25 #[.val (.ref a1), .val (.int (fh 0))] [(.ref a1)])) _
    refine st11 _ ?_
    show Steps p.tables e below (T11.setTop (mkF m 28 #[.val (.ref a1), .val (.int (fh 0))] [(.int (sz - (1 : Int32)))])) _
    refine XS.ifYes X11.here hx rfl (pc0 := 28) (pc' := 45) rfl (hb hby d9_28) rfl ((if0 _ _).trans (flt hc28).2.2.2) (by decide) (by decide) ?_
    show Steps p.tables e below (T11.setTop (mkF m 45 #[.val (.ref a1), .val (.int (fh 0))] [])) _
    refine XS.iloadN X11.here hx rfl (hb hby d9_45) rfl ?_
    show Steps p.tables e below (T11.setTop (mkF m 46 #[.val (.ref a1), .val (.int (fh 0))] [(.int (fh 0))])) _
    exact retI X11 hx Bd.returns (hb hby d9_46) hr
  · show Q9_t Z a1 kk qq ww sz ky fh gp h0 n0 _ T11.heap _
    rw [e11]
    exact ⟨rfl, N10, K10, (H.ww NN v0 W7).ws hw NN W10⟩
theorem d9_31 : decode prog_10_method_4_code 31 = .ok (.aload_n 0, 1) := by decide +kernel
theorem d9_32 : decode prog_10_method_4_code 32 = .ok (.aload_n 0, 1) := by decide +kernel
theorem d9_33 : decode prog_10_method_4_code 33 = .ok (.getfield 13, 3) := by decide +kernel
theorem d9_36 : decode prog_10_method_4_code 36 = .ok (.aload_n 0, 1) := by decide +kernel
theorem d9_37 : decode prog_10_method_4_code 37 = .ok (.getfield 26, 3) := by decide +kernel
theorem d9_40 : decode prog_10_method_4_code 40 = .ok (.iaload, 1) := by decide +kernel
theorem d9_41 : decode prog_10_method_4_code 41 = .ok (.iconst 0, 1) := by decide +kernel
theorem d9_42 : decode prog_10_method_4_code 42 = .ok (.invokevirtual 34, 3) := by decide +kernel
theorem pd_9_4 : parseMethodDescriptor "(II)V" = some ⟨[.int, .int], none⟩ := by decide +kernel
def Q9_f (Z : State) (a1 : Addr) (kk qq ww : Addr) (sz : Int32) (ky : Int32 → Int64) (fh gp : Int32 → Int32) (h0 : Heap) (n0 : Nat) (v : Option Value) (h : Heap) (L : List Loc) : Prop := v = some (.int (fh 0)) ∧ Fr n0 L ∧ Keep h0 h [qq, ww, a1] ∧ own_H Z h a1 kk qq ww (sz - (1 : Int32)) ky (own_up fh 0 (fh (sz - (1 : Int32)))) (own_up (own_up gp (fh 0) (-1 : Int32)) (fh (sz - (1 : Int32))) 0)
set_option maxRecDepth 65536 in
set_option maxHeartbeats 40000000 in
theorem rm9_f (l : Launch) (Z : State) (a0 : Array Value) (hw : ∀ d ∈ tables_1, d.before a0 Z = true) (ws : List Jvm.Cond) (a1 : Addr) (kk qq ww : Addr) (sz : Int32) (ky : Int32 → Int64) (fh gp : Int32 → Int32) (h0 : Heap) (n0 : Nat) (Z0 : n0 ≤ h0.size) (H : own_H Z h0 a1 kk qq ww sz ky fh gp) (NN : own_N n0 a1 kk qq ww) (v0 : own_v (fh 0)) (v1 : own_v (sz - (1 : Int32))) (v2 : own_v (fh (sz - (1 : Int32)))) (hs : ¬ ((((2 : Int32) * (0 : Int32)) + (1 : Int32)) < sz - (1 : Int32))) (hc28 : (0 : Int32) < (sz - (1 : Int32))) :
    MetFree l (⟨"com/example/slotweave/slotweave/alloc/NodeHeap", "poll", "()I"⟩ : MethodName) (head1 (Jvm.Cond.code (⟨"com/example/slotweave/slotweave/alloc/NodeHeap", "poll", "()I"⟩ : MethodName) prog_10_method_4_code 2 (some .int) :: ws) ({ frames := 2, cells := 0, slots := 0, locals := 31 } : Room)) (fun a U => a = #[(.ref a1)] ∧ Z.Warmed39 U.vm ∧ U.heap = h0) (fun _ _ _ _ _ => True) (fun _ U o U' => ∃ v L, o = .returned v ∧ Q9_f Z a1 kk qq ww sz ky fh gp h0 n0 v U'.heap L ∧ FrameEnd U o U' L ({ frames := 2, cells := 0, slots := 0, locals := 31 } : Room).cells ({ frames := 2, cells := 0, slots := 0, locals := 31 } : Room).slots) := by
  refine MetFree.of_bodySF (plainFor_of_name pn_9) hisR ?_
  intro p e s m args below meth c s₁ Bd hml0 hP hK
  obtain ⟨rfl, hZ, hh⟩ := hP
  have hx := Bd.exec
  have hby := Bd.bytes
  have hml : c.maxLocals = 2 := hml0
  have hown : s.vm.findClass "com/example/slotweave/slotweave/alloc/NodeHeap" = some m.cls := findClass_of_methodNamed Bd.named
  have hnm := (name_of_methodNamed Bd.named Bd.method).1
  have X0 : Stand p l e ({ frames := 2, cells := 0, slots := 0, locals := 31 } : Room) s m #[(.ref a1)] below meth c s₁ [] 0 0 := Stand.of_body Bd
  have e0 : s₁.heap = h0 := by rw [← hh, Bd.state]; rfl
  have N0 := Fr.nil n0
  have pre0 : ∀ t, Steps p.tables e below (s₁.setTop (mkF m 0 #[.val (.ref a1), .unset] [])) t → Steps p.tables e below (s₁.setTop (entryFrame m #[(.ref a1)] 2)) t := fun t k => castTop (ef_9 m a1) k
  have HH := H
  have NNc := NN
  obtain ⟨E_a1, F_keys_a1, F_heap_a1, F_place_a1, F_size_a1, ⟨cl_kk, Ar_kk, S_kk, H_kk⟩, ⟨cl_qq, Ar_qq, S_qq, H_qq⟩, ⟨cl_ww, Ar_ww, S_ww, H_ww⟩⟩ := HH
  obtain ⟨n_aq, n_aw, n_qw, n_ka, n_kq, n_kw, g_a1, g_qq, g_ww⟩ := NNc
  have hin5 : ¬ ((0 : Int32) < 0 ∨ cl_qq.slots.size ≤ ((0 : Int32)).toNatClampNeg) := own_in own_v0 S_qq
  have hat5 : cl_qq.slots[((0 : Int32)).toNatClampNeg]? = some (.int (fh 0)) := H_qq 0 own_v0
  have hin13 : ¬ ((fh 0) < 0 ∨ cl_ww.slots.size ≤ ((fh 0)).toNatClampNeg) := own_in v0 S_ww
  have hin40 : ¬ ((sz - (1 : Int32)) < 0 ∨ cl_qq.slots.size ≤ ((sz - (1 : Int32))).toNatClampNeg) := own_in v1 S_qq
  have hat40 : cl_qq.slots[((sz - (1 : Int32))).toNatClampNeg]? = some (.int (fh (sz - (1 : Int32)))) := H_qq _ v1
  obtain ⟨T3, X3, e3, st3⟩ := getF X0 hx hZ hown (host := "") (Or.inl (hw _ (List.mem_of_getElem? (i := 13) rfl))) Via.refl e0 F_heap_a1 (g := (mkF m 1 #[.val (.ref a1), .unset] [(.ref a1)])) rfl rfl (hb hby d9_1)
  obtain ⟨T6, X6, e6, st6⟩ := getF X3 hx hZ hown (host := "") (Or.inl (hw _ (List.mem_of_getElem? (i := 15) rfl))) Via.refl e3 F_place_a1 (g := (mkF m 8 #[.val (.ref a1), .val (.int (fh 0))] [(.ref a1)])) rfl rfl (hb hby d9_8)
  obtain ⟨T7, h7, X7, e7, W7, st7⟩ := stI X6 hx hZ e6 Ar_ww (j := (fh 0)) hin13 (g := (mkF m 13 #[.val (.ref a1), .val (.int (fh 0))] [(.int (-1 : Int32)), (.int (fh 0)), (.ref ww)])) rfl rfl (hb hby d9_13)
  have N7 := Fr.snoc X7 N0 g_ww
  have K7 : Keep h0 h7 [ww, a1] := (Keep.refl h0 [ww, a1]).wr W7 (Or.inl (List.mem_of_getElem? (i := 0) rfl))
  obtain ⟨T9, X9, e9, st9⟩ := getF X7 hx hZ hown (host := "") (Or.inl (hw _ (List.mem_of_getElem? (i := 26) rfl))) Via.refl e7 (F_size_a1.other W7 (Or.inl n_aw)) (g := (mkF m 16 #[.val (.ref a1), .val (.int (fh 0))] [(.ref a1), (.ref a1)])) rfl rfl (hb hby d9_16)
  obtain ⟨T10, h10, X10, e10, W10, st10⟩ := putF X9 hx hZ hown (host := "") (Or.inl (hw _ (List.mem_of_getElem? (i := 26) rfl))) Via.refl e9 (F_size_a1.other W7 (Or.inl n_aw)) (E_a1.wr W7) (Or.inl (hw _ (List.mem_of_getElem? (i := 27) rfl))) (hw _ (List.mem_of_getElem? (i := 2) rfl)) (ty := .int) (by decide) rfl rfl (g := (mkF m 21 #[.val (.ref a1), .val (.int (fh 0))] [(.int (sz - (1 : Int32))), (.ref a1)])) rfl rfl (hb hby d9_21)
  have Fw10 := (F_size_a1.other W7 (Or.inl n_aw)).same W10
  have K10 : Keep h0 h10 [ww, a1] := K7.wr W10 (Or.inl (List.mem_of_getElem? (i := 1) rfl))
  have N10 := Fr.snoc X10 N7 g_a1
  obtain ⟨T11, X11, e11, st11⟩ := getF X10 hx hZ hown (host := "") (Or.inl (hw _ (List.mem_of_getElem? (i := 26) rfl))) Via.refl e10 Fw10 (g := (mkF m 25 #[.val (.ref a1), .val (.int (fh 0))] [(.ref a1)])) rfl rfl (hb hby d9_25)
  obtain ⟨T12, X12, e12, st12⟩ := getF X11 hx hZ hown (host := "") (Or.inl (hw _ (List.mem_of_getElem? (i := 13) rfl))) Via.refl e11 ((F_heap_a1.other W7 (Or.inl n_aw)).other W10 (Or.inr (slot_ne (Or.inr (hw _ (List.mem_of_getElem? (i := 14) rfl))) (Or.inl (hw _ (List.mem_of_getElem? (i := 27) rfl))) (by decide) (t := (.array .int)) (t' := .int) (by decide) (by decide)))) (g := (mkF m 33 #[.val (.ref a1), .val (.int (fh 0))] [(.ref a1), (.ref a1)])) rfl rfl (hb hby d9_33)
  obtain ⟨T13, X13, e13, st13⟩ := getF X12 hx hZ hown (host := "") (Or.inl (hw _ (List.mem_of_getElem? (i := 26) rfl))) Via.refl e12 Fw10 (g := (mkF m 37 #[.val (.ref a1), .val (.int (fh 0))] [(.ref a1), (.ref qq), (.ref a1)])) rfl rfl (hb hby d9_37)
  have Ar_q2 := (Ar_qq.other W7 n_qw).other W10 n_aq.symm
  obtain ⟨cq15, q15, q15'⟩ := ((E_a1.wr W7).wr W10).cell
  obtain ⟨_, _, ⟨T15, L15, k15, n15⟩, -, X15, ⟨Lc15, hQ15, l15, y15, z15⟩, st15⟩ := X13.privateBack hx (y := (⟨"com/example/slotweave/slotweave/alloc/NodeHeap", "siftDown", "(II)V"⟩ : MethodName)) hown (mvT hZ (hw _ (List.mem_of_getElem? (i := 52) rfl))) (mvT hZ (hw _ (List.mem_of_getElem? (i := 53) rfl))) (own_sel (mvT hZ (hw _ (List.mem_of_getElem? (i := 2) rfl))) (Cond.privateMethod_at (mvP hZ (hw _ (List.mem_of_getElem? (i := 54) rfl)) (args := #[]))) (mvT hZ (hw _ (List.mem_of_getElem? (i := 53) rfl))) (by decide)) (Cond.privateMethod_at (mvP hZ (hw _ (List.mem_of_getElem? (i := 54) rfl)) (args := #[]))) (mvT hZ (hw _ (List.mem_of_getElem? (i := 55) rfl))) (by decide) (backOf (W := 0) (rm10 l Z a0 hw [] a1 (fh (sz - (1 : Int32))) (0 : Int32) kk qq ww (sz - (1 : Int32)) ky fh (own_up gp (fh 0) (-1 : Int32)) h10 n0 (Nat.le_trans Z0 K10.1) ((H.ww NN v0 W7).ws hw NN W10) NN v2 own_v0 hs) hZ (hw _ (List.mem_of_getElem? (i := 55) rfl)) (hw _ (List.mem_of_getElem? (i := 3) rfl)) (by decide) (by decide)) (g := (mkF m 42 #[.val (.ref a1), .val (.int (fh 0))] [(.int (0 : Int32)), (.int (fh (sz - (1 : Int32)))), (.ref a1)])) rfl (by rw [hml]; rfl) (Steps.refl _) (a := a1) (by rw [e13]; exact q15) q15' (argsL := [(.int (fh (sz - (1 : Int32)))), (.int (0 : Int32))]) (rest := []) (lenOf pd_9_4 rfl) rfl (by show 2 * 0 + _ ≤ _; exact Nat.le_of_eq rfl) (hb hby d9_42) (fun _ _ => ⟨rfl, e13, (by decide : 0 + 0 ≤ _), (by decide : 0 + 0 ≤ _)⟩)
  dsimp only [Pt.U, Pt.locs, Pt.cells, Pt.slots] at X15 l15 y15 z15 st15 hQ15
  subst l15 y15 z15
  obtain ⟨rfl, N15q, Kc, Hc⟩ := hQ15
  have N15 := Fr.app N10 N15q
  obtain ⟨fs, hr, hrun, hended, hW, hsame⟩ := X15.leave (v := some (.int (fh 0))) (fun h => by rw [Bd.returns] at h; cases h)
  refine ⟨_, _, pre0 _ ?_, hrun, hended, _, _, rfl, ?_, ⟨_, rfl⟩, hW, hsame.mono (by decide) (by decide)⟩
  · show Steps p.tables e below (s₁.setTop (mkF m 0 #[.val (.ref a1), .unset] [])) _
    refine XS.aloadN X0.here hx rfl (hb hby d9_0) rfl rfl ?_
    show Steps p.tables e below (s₁.setTop (mkF m 1 #[.val (.ref a1), .unset] [(.ref a1)])) _
    refine st3 _ ?_
    show Steps p.tables e below (T3.setTop (mkF m 4 #[.val (.ref a1), .unset] [(.ref qq)])) _
    refine XS.iconst X3.here hx rfl (hb hby d9_4) ?_
    show Steps p.tables e below (T3.setTop (mkF m 5 #[.val (.ref a1), .unset] [(.int (0 : Int32)), (.ref qq)])) _
    refine X3.iaload hx (j := (0 : Int32)) (v := (.int (fh 0))) (by rw [e3]; exact Ar_qq.1) (State.isArrayOf_alike hZ.alike Ar_qq.2.1) Ar_qq.2.2 hin5 hat5 (g := (mkF m 5 #[.val (.ref a1), .unset] [(.int (0 : Int32)), (.ref qq)])) rfl rfl (hb hby d9_5) _ ?_
    show Steps p.tables e below (T3.setTop (mkF m 6 #[.val (.ref a1), .unset] [(.int (fh 0))])) _
    refine XS.istoreN X3.here hx rfl (hb hby d9_6) rfl (l' := #[.val (.ref a1), .val (.int (fh 0))]) rfl ?_
    show Steps p.tables e below (T3.setTop (mkF m 7 #[.val (.ref a1), .val (.int (fh 0))] [])) _
    refine XS.aloadN X3.here hx rfl (hb hby d9_7) rfl rfl ?_
    show Steps p.tables e below (T3.setTop (mkF m 8 #[.val (.ref a1), .val (.int (fh 0))] [(.ref a1)])) _
    refine st6 _ ?_
    show Steps p.tables e below (T6.setTop (mkF m 11 #[.val (.ref a1), .val (.int (fh 0))] [(.ref ww)])) _
    refine XS.iloadN X6.here hx rfl (hb hby d9_11) rfl ?_
    show Steps p.tables e below (T6.setTop (mkF m 12 #[.val (.ref a1), .val (.int (fh 0))] [(.int (fh 0)), (.ref ww)])) _
    refine XS.iconst X6.here hx rfl (hb hby d9_12) ?_
    show Steps p.tables e below (T6.setTop (mkF m 13 #[.val (.ref a1), .val (.int (fh 0))] [(.int (-1 : Int32)), (.int (fh 0)), (.ref ww)])) _
    refine st7 _ ?_
    show Steps p.tables e below (T7.setTop (mkF m 14 #[.val (.ref a1), .val (.int (fh 0))] [])) _
    refine XS.aloadN X7.here hx rfl (hb hby d9_14) rfl rfl ?_
    show Steps p.tables e below (T7.setTop (mkF m 15 #[.val (.ref a1), .val (.int (fh 0))] [(.ref a1)])) _
    refine XS.dup X7.here hx rfl (hb hby d9_15) rfl rfl ?_
    show Steps p.tables e below (T7.setTop (mkF m 16 #[.val (.ref a1), .val (.int (fh 0))] [(.ref a1), (.ref a1)])) _
    refine st9 _ ?_
    show Steps p.tables e below (T9.setTop (mkF m 19 #[.val (.ref a1), .val (.int (fh 0))] [(.int sz), (.ref a1)])) _
    refine XS.iconst X9.here hx rfl (hb hby d9_19) ?_
    show Steps p.tables e below (T9.setTop (mkF m 20 #[.val (.ref a1), .val (.int (fh 0))] [(.int (1 : Int32)), (.int sz), (.ref a1)])) _
    refine XS.isub X9.here hx rfl (hb hby d9_20) rfl ?_
    show Steps p.tables e below (T9.setTop (mkF m 21 #[.val (.ref a1), .val (.int (fh 0))] [(.int (sz - (1 : Int32))), (.ref a1)])) _
    refine st10 _ ?_
    show Steps p.tables e below (T10.setTop (mkF m 24 #[.val (.ref a1), .val (.int (fh 0))] [])) _
    refine XS.aloadN X10.here hx rfl (hb hby d9_24) rfl rfl ?_
    show Steps p.tables e below (T10.setTop (mkF m 25 #[.val (.ref a1), .val (.int (fh 0))] [(.ref a1)])) _
    refine st11 _ ?_
    show Steps p.tables e below (T11.setTop (mkF m 28 #[.val (.ref a1), .val (.int (fh 0))] [(.int (sz - (1 : Int32)))])) _
    refine XS.ifNo X11.here hx rfl (hb hby d9_28) rfl ((if0 _ _).trans (tlt hc28).2.2.2) ?_
    show Steps p.tables e below (T11.setTop (mkF m 31 #[.val (.ref a1), .val (.int (fh 0))] [])) _
    refine XS.aloadN X11.here hx rfl (hb hby d9_31) rfl rfl ?_
    show Steps p.tables e below (T11.setTop (mkF m 32 #[.val (.ref a1), .val (.int (fh 0))] [(.ref a1)])) _
    refine XS.aloadN X11.here hx rfl (hb hby d9_32) rfl rfl ?_
    show Steps p.tables e below (T11.setTop (mkF m 33 #[.val (.ref a1), .val (.int (fh 0))] [(.ref a1), (.ref a1)])) _
    refine st12 _ ?_
    show Steps p.tables e below (T12.setTop (mkF m 36 #[.val (.ref a1), .val (.int (fh 0))] [(.ref qq), (.ref a1)])) _
    refine XS.aloadN X12.here hx rfl (hb hby d9_36) rfl rfl ?_
    show Steps p.tables e below (T12.setTop (mkF m 37 #[.val (.ref a1), .val (.int (fh 0))] [(.ref a1), (.ref qq), (.ref a1)])) _
    refine st13 _ ?_
    show Steps p.tables e below (T13.setTop (mkF m 40 #[.val (.ref a1), .val (.int (fh 0))] [(.int (sz - (1 : Int32))), (.ref qq), (.ref a1)])) _
    refine X13.iaload hx (j := (sz - (1 : Int32))) (v := (.int (fh (sz - (1 : Int32))))) (by rw [e13]; exact Ar_q2.1) (State.isArrayOf_alike hZ.alike Ar_q2.2.1) Ar_q2.2.2 hin40 hat40 (g := (mkF m 40 #[.val (.ref a1), .val (.int (fh 0))] [(.int (sz - (1 : Int32))), (.ref qq), (.ref a1)])) rfl rfl (hb hby d9_40) _ ?_
    show Steps p.tables e below (T13.setTop (mkF m 41 #[.val (.ref a1), .val (.int (fh 0))] [(.int (fh (sz - (1 : Int32)))), (.ref a1)])) _
    refine XS.iconst X13.here hx rfl (hb hby d9_41) ?_
    show Steps p.tables e below (T13.setTop (mkF m 42 #[.val (.ref a1), .val (.int (fh 0))] [(.int (0 : Int32)), (.int (fh (sz - (1 : Int32)))), (.ref a1)])) _
    refine st15.trans ?_
    show Steps p.tables e below (T15.setTop (mkF m 45 #[.val (.ref a1), .val (.int (fh 0))] [])) _
    refine XS.iloadN X15.here hx rfl (hb hby d9_45) rfl ?_
    show Steps p.tables e below (T15.setTop (mkF m 46 #[.val (.ref a1), .val (.int (fh 0))] [(.int (fh 0))])) _
    exact retI X15 hx Bd.returns (hb hby d9_46) hr
  · show Q9_f Z a1 kk qq ww sz ky fh gp h0 n0 _ T15.heap _
    exact ⟨rfl, N15, (((Keep.refl h0 [qq, ww, a1]).wr W7 (Or.inl (by simp))).wr W10 (Or.inl (by simp))).trans Kc (fun x hx => Or.inl (by simp at hx; rcases hx with rfl | rfl <;> simp)), Hc⟩
def val8 (a1 : Addr) (w2 : Int32) : Int32 := (if w2 = (0 : Int32) then (1 : Int32) else (0 : Int32))
def Q8 (Z : State) (a1 : Addr) (w2 : Int32) (h0 : Heap) (n0 : Nat) (v : Option Value) (h : Heap) (L : List Loc) : Prop := v = some (.int (val8 a1 w2)) ∧ Fr n0 L ∧ h = h0
theorem d8_0 : decode prog_10_method_2_code 0 = .ok (.aload_n 0, 1) := by decide +kernel
theorem d8_1 : decode prog_10_method_2_code 1 = .ok (.getfield 26, 3) := by decide +kernel
theorem d8_4 : decode prog_10_method_2_code 4 = .ok (.ifCond .ne 7, 3) := by decide +kernel
theorem d8_11 : decode prog_10_method_2_code 11 = .ok (.iconst 0, 1) := by decide +kernel
theorem d8_12 : decode prog_10_method_2_code 12 = .ok (.ireturn, 1) := by decide +kernel
theorem pn_8 : plainName "com/example/slotweave/slotweave/alloc/NodeHeap" = true := by first | (simp [plainName, overriddenIn]; done) | decide +kernel
theorem ef_8 (m : MethodId) (x0 : Addr) : entryFrame m #[(.ref x0)] 1 = mkF m 0 #[.val (.ref x0)] [] := by first | (simp [entryFrame, mkF, argsToLocals, Value.category]; done) | rfl

set_option maxRecDepth 65536 in
set_option maxHeartbeats 40000000 in
theorem rm8_t (l : Launch) (Z : State) (a0 : Array Value) (hw : ∀ d ∈ tables_1, d.before a0 Z = true) (ws : List Jvm.Cond) (a1 : Addr) (w2 : Int32) (h0 : Heap) (n0 : Nat) (Z0 : n0 ≤ h0.size) (F_size_a1 : Fld Z h0 a1 "com/example/slotweave/slotweave/alloc/NodeHeap" "size" "I" (.int w2)) (hc4 : ¬ (w2 = (0 : Int32))) :
    MetFree l (⟨"com/example/slotweave/slotweave/alloc/NodeHeap", "isEmpty", "()Z"⟩ : MethodName) (head1 (Jvm.Cond.code (⟨"com/example/slotweave/slotweave/alloc/NodeHeap", "isEmpty", "()Z"⟩ : MethodName) prog_10_method_2_code 1 (some .boolean) :: ws) ({ frames := 0, cells := 0, slots := 0, locals := 0 } : Room)) (fun a U => a = #[(.ref a1)] ∧ Z.Warmed39 U.vm ∧ U.heap = h0) (fun _ _ _ _ _ => True) (fun _ U o U' => ∃ v L, o = .returned v ∧ Q8 Z a1 w2 h0 n0 v U'.heap L ∧ FrameEnd U o U' L ({ frames := 0, cells := 0, slots := 0, locals := 0 } : Room).cells ({ frames := 0, cells := 0, slots := 0, locals := 0 } : Room).slots) := by
  refine MetFree.of_bodySF (plainFor_of_name pn_8) hisR ?_
  intro p e s m args below meth c s₁ Bd hml0 hP hK
  obtain ⟨rfl, hZ, hh⟩ := hP
  have hx := Bd.exec
  have hby := Bd.bytes
  have hml : c.maxLocals = 1 := hml0
  have hown : s.vm.findClass "com/example/slotweave/slotweave/alloc/NodeHeap" = some m.cls := findClass_of_methodNamed Bd.named
  have hnm := (name_of_methodNamed Bd.named Bd.method).1
  have X0 : Stand p l e ({ frames := 0, cells := 0, slots := 0, locals := 0 } : Room) s m #[(.ref a1)] below meth c s₁ [] 0 0 := Stand.of_body Bd
  have e0 : s₁.heap = h0 := by rw [← hh, Bd.state]; rfl
  have N0 := Fr.nil n0
  have pre0 : ∀ t, Steps p.tables e below (s₁.setTop (mkF m 0 #[.val (.ref a1)] [])) t → Steps p.tables e below (s₁.setTop (entryFrame m #[(.ref a1)] 1)) t := fun t k => castTop (ef_8 m a1) k
  obtain ⟨T3, X3, e3, st3⟩ := getF X0 hx hZ hown (host := "") (Or.inl (hw _ (List.mem_of_getElem? (i := 26) rfl))) Via.refl e0 F_size_a1 (g := (mkF m 1 #[.val (.ref a1)] [(.ref a1)])) rfl rfl (hb hby d8_1)
  obtain ⟨fs, hr, hrun, hended, hW, hsame⟩ := X3.leave (v := some (.int (0 : Int32))) (fun h => by rw [Bd.returns] at h; cases h)
  refine ⟨_, _, pre0 _ ?_, hrun, hended, _, _, rfl, ?_, ⟨_, rfl⟩, hW, hsame.mono (by decide) (by decide)⟩
  · show Steps p.tables e below (s₁.setTop (mkF m 0 #[.val (.ref a1)] [])) _
    refine XS.aloadN X0.here hx rfl (hb hby d8_0) rfl rfl ?_
    show Steps p.tables e below (s₁.setTop (mkF m 1 #[.val (.ref a1)] [(.ref a1)])) _
    refine st3 _ ?_
    show Steps p.tables e below (T3.setTop (mkF m 4 #[.val (.ref a1)] [(.int w2)])) _
    refine XS.ifYes X3.here hx rfl (pc0 := 4) (pc' := 11) rfl (hb hby d8_4) rfl ((if0 _ _).trans (feq hc4).2) (by decide) (by decide) ?_
    show Steps p.tables e below (T3.setTop (mkF m 11 #[.val (.ref a1)] [])) _
    refine XS.iconst X3.here hx rfl (hb hby d8_11) ?_
    show Steps p.tables e below (T3.setTop (mkF m 12 #[.val (.ref a1)] [(.int (0 : Int32))])) _
    exact retN X3 hx (t := .boolean) Bd.returns (by simp) (hb hby d8_12) hr
  · show Q8 Z a1 w2 h0 n0 _ T3.heap _
    rw [e3]
    exact ⟨by rw [show val8 a1 w2 = (0 : Int32) from by unfold val8; rw [if_neg hc4]], N0, rfl⟩
theorem d8_7 : decode prog_10_method_2_code 7 = .ok (.iconst 1, 1) := by decide +kernel
theorem d8_8 : decode prog_10_method_2_code 8 = .ok (.goto 4, 3) := by decide +kernel

set_option maxRecDepth 65536 in
set_option maxHeartbeats 40000000 in
theorem rm8_f (l : Launch) (Z : State) (a0 : Array Value) (hw : ∀ d ∈ tables_1, d.before a0 Z = true) (ws : List Jvm.Cond) (a1 : Addr) (w2 : Int32) (h0 : Heap) (n0 : Nat) (Z0 : n0 ≤ h0.size) (F_size_a1 : Fld Z h0 a1 "com/example/slotweave/slotweave/alloc/NodeHeap" "size" "I" (.int w2)) (hc4 : w2 = (0 : Int32)) :
    MetFree l (⟨"com/example/slotweave/slotweave/alloc/NodeHeap", "isEmpty", "()Z"⟩ : MethodName) (head1 (Jvm.Cond.code (⟨"com/example/slotweave/slotweave/alloc/NodeHeap", "isEmpty", "()Z"⟩ : MethodName) prog_10_method_2_code 1 (some .boolean) :: ws) ({ frames := 0, cells := 0, slots := 0, locals := 0 } : Room)) (fun a U => a = #[(.ref a1)] ∧ Z.Warmed39 U.vm ∧ U.heap = h0) (fun _ _ _ _ _ => True) (fun _ U o U' => ∃ v L, o = .returned v ∧ Q8 Z a1 w2 h0 n0 v U'.heap L ∧ FrameEnd U o U' L ({ frames := 0, cells := 0, slots := 0, locals := 0 } : Room).cells ({ frames := 0, cells := 0, slots := 0, locals := 0 } : Room).slots) := by
  refine MetFree.of_bodySF (plainFor_of_name pn_8) hisR ?_
  intro p e s m args below meth c s₁ Bd hml0 hP hK
  obtain ⟨rfl, hZ, hh⟩ := hP
  have hx := Bd.exec
  have hby := Bd.bytes
  have hml : c.maxLocals = 1 := hml0
  have hown : s.vm.findClass "com/example/slotweave/slotweave/alloc/NodeHeap" = some m.cls := findClass_of_methodNamed Bd.named
  have hnm := (name_of_methodNamed Bd.named Bd.method).1
  have X0 : Stand p l e ({ frames := 0, cells := 0, slots := 0, locals := 0 } : Room) s m #[(.ref a1)] below meth c s₁ [] 0 0 := Stand.of_body Bd
  have e0 : s₁.heap = h0 := by rw [← hh, Bd.state]; rfl
  have N0 := Fr.nil n0
  have pre0 : ∀ t, Steps p.tables e below (s₁.setTop (mkF m 0 #[.val (.ref a1)] [])) t → Steps p.tables e below (s₁.setTop (entryFrame m #[(.ref a1)] 1)) t := fun t k => castTop (ef_8 m a1) k
  obtain ⟨T3, X3, e3, st3⟩ := getF X0 hx hZ hown (host := "") (Or.inl (hw _ (List.mem_of_getElem? (i := 26) rfl))) Via.refl e0 F_size_a1 (g := (mkF m 1 #[.val (.ref a1)] [(.ref a1)])) rfl rfl (hb hby d8_1)
  obtain ⟨fs, hr, hrun, hended, hW, hsame⟩ := X3.leave (v := some (.int (1 : Int32))) (fun h => by rw [Bd.returns] at h; cases h)
  refine ⟨_, _, pre0 _ ?_, hrun, hended, _, _, rfl, ?_, ⟨_, rfl⟩, hW, hsame.mono (by decide) (by decide)⟩
  · show Steps p.tables e below (s₁.setTop (mkF m 0 #[.val (.ref a1)] [])) _
    refine XS.aloadN X0.here hx rfl (hb hby d8_0) rfl rfl ?_
    show Steps p.tables e below (s₁.setTop (mkF m 1 #[.val (.ref a1)] [(.ref a1)])) _
    refine st3 _ ?_
    show Steps p.tables e below (T3.setTop (mkF m 4 #[.val (.ref a1)] [(.int w2)])) _
    refine XS.ifNo X3.here hx rfl (hb hby d8_4) rfl ((if0 _ _).trans (teq hc4).2) ?_
    show Steps p.tables e below (T3.setTop (mkF m 7 #[.val (.ref a1)] [])) _
    refine XS.iconst X3.here hx rfl (hb hby d8_7) ?_
    show Steps p.tables e below (T3.setTop (mkF m 8 #[.val (.ref a1)] [(.int (1 : Int32))])) _
    refine XS.goto X3.here hx rfl (pc0 := 8) (pc' := 12) rfl (hb hby d8_8) (by decide) (by decide) ?_
    show Steps p.tables e below (T3.setTop (mkF m 12 #[.val (.ref a1)] [(.int (1 : Int32))])) _
    exact retN X3 hx (t := .boolean) Bd.returns (by simp) (hb hby d8_12) hr
  · show Q8 Z a1 w2 h0 n0 _ T3.heap _
    rw [e3]
    exact ⟨by rw [show val8 a1 w2 = (1 : Int32) from by unfold val8; rw [if_pos hc4]], N0, rfl⟩
theorem rm8 (l : Launch) (Z : State) (a0 : Array Value) (hw : ∀ d ∈ tables_1, d.before a0 Z = true) (ws : List Jvm.Cond) (a1 : Addr) (w2 : Int32) (h0 : Heap) (n0 : Nat) (Z0 : n0 ≤ h0.size) (F_size_a1 : Fld Z h0 a1 "com/example/slotweave/slotweave/alloc/NodeHeap" "size" "I" (.int w2)) :
    MetFree l (⟨"com/example/slotweave/slotweave/alloc/NodeHeap", "isEmpty", "()Z"⟩ : MethodName) (head1 (Jvm.Cond.code (⟨"com/example/slotweave/slotweave/alloc/NodeHeap", "isEmpty", "()Z"⟩ : MethodName) prog_10_method_2_code 1 (some .boolean) :: ws) ({ frames := 0, cells := 0, slots := 0, locals := 0 } : Room)) (fun a U => a = #[(.ref a1)] ∧ Z.Warmed39 U.vm ∧ U.heap = h0) (fun _ _ _ _ _ => True) (fun _ U o U' => ∃ v L, o = .returned v ∧ Q8 Z a1 w2 h0 n0 v U'.heap L ∧ FrameEnd U o U' L ({ frames := 0, cells := 0, slots := 0, locals := 0 } : Room).cells ({ frames := 0, cells := 0, slots := 0, locals := 0 } : Room).slots) := by
  by_cases hc4 : w2 = (0 : Int32)
  · exact rm8_f l Z a0 hw ws a1 w2 h0 n0 Z0 F_size_a1 hc4
  · exact rm8_t l Z a0 hw ws a1 w2 h0 n0 Z0 F_size_a1 hc4
theorem own_upm {f : Int32 → Int32} {i n : Int32} (h : f n = -1) : own_up f i (-1 : Int32) n = -1 := by unfold own_up; split <;> first | rfl | exact h
theorem own_ups {f : Int32 → Int32} {i n : Int32} (h : i = n) : own_up f i (-1 : Int32) n = -1 := if_pos h.symm
def own_inv (sz : Int32) (fh gp : Int32 → Int32) : Prop := (sz = 0 ∨ sz = 1 ∨ sz = 2 ∨ sz = 3) ∧ (∀ i, own_v i → i < sz → own_v (fh i) ∧ gp (fh i) = i) ∧ (∀ n, own_v n → gp n = -1 ∨ (own_v (gp n) ∧ gp n < sz ∧ fh (gp n) = n))
theorem d7_2 : decode prog_10_method_5_code 2 = .ok (.iload_n 1, 1) := by decide +kernel
theorem d7_3 : decode prog_10_method_5_code 3 = .ok (.aload_n 0, 1) := by decide +kernel
theorem d7_4 : decode prog_10_method_5_code 4 = .ok (.getfield 26, 3) := by decide +kernel
theorem d7_7 : decode prog_10_method_5_code 7 = .ok (.if_icmp .ge 21, 3) := by decide +kernel
theorem d7_10 : decode prog_10_method_5_code 10 = .ok (.aload_n 0, 1) := by decide +kernel
theorem d7_11 : decode prog_10_method_5_code 11 = .ok (.getfield 17, 3) := by decide +kernel
theorem d7_14 : decode prog_10_method_5_code 14 = .ok (.aload_n 0, 1) := by decide +kernel
theorem d7_15 : decode prog_10_method_5_code 15 = .ok (.getfield 13, 3) := by decide +kernel
theorem d7_18 : decode prog_10_method_5_code 18 = .ok (.iload_n 1, 1) := by decide +kernel
theorem d7_19 : decode prog_10_method_5_code 19 = .ok (.iaload, 1) := by decide +kernel
theorem d7_20 : decode prog_10_method_5_code 20 = .ok (.iconst (-1), 1) := by decide +kernel
theorem d7_21 : decode prog_10_method_5_code 21 = .ok (.iastore, 1) := by decide +kernel
theorem d7_22 : decode prog_10_method_5_code 22 = .ok (.iinc 1 1, 3) := by decide +kernel
theorem d7_25 : decode prog_10_method_5_code 25 = .ok (.goto (-23), 3) := by decide +kernel
set_option maxRecDepth 65536 in
set_option maxHeartbeats 40000000 in
theorem own_tc {p : Program} {l : Launch} {e : Env} {R : Room} {s : State} {m : MethodId} {args : Array Value} {below : List Frame} {meth : Method} {c : Code} {T0 : State} {locs : List Loc} {cells slots : Nat} {Z : State} {a0 : Array Value} {h0 : Heap} {n0 : Nat} (a1 : Addr) (i1 i2 : Int32) (kk qq ww : Addr) (sz : Int32) (ky : Int32 → Int64) (fh gp : Int32 → Int32)
    (X0 : Stand p l e R s m args below meth c T0 locs cells slots) (hx : p.tables.exec = Jvm.exec) (hZ : Z.Warmed39 s.vm) (hw : ∀ d ∈ tables_1, d.before a0 Z = true) (hby : c.code = prog_10_method_5_code) (hml : c.maxLocals = 2) (hown : s.vm.findClass "com/example/slotweave/slotweave/alloc/NodeHeap" = some m.cls) (e0 : T0.heap = h0) (N0 : Fr n0 locs) (H : own_H Z h0 a1 kk qq ww sz ky fh gp) (NN : own_N n0 a1 kk qq ww) (vi : own_v i1) (vf : own_v (fh i1)) (hc7 : i1 < sz) (h12 : i1 + (1 : Int32) = i2) :
    ∃ (T' : State) (h' : Heap) (L' : List Loc), Stand p l e R s m args below meth c T' L' cells slots ∧ T'.heap = h' ∧ Fr n0 L' ∧ Keep h0 h' [ww, a1] ∧ own_H Z h' a1 kk qq ww sz ky fh (own_up gp (fh i1) (-1 : Int32)) ∧
      ∀ target, Steps p.tables e below (T'.setTop (mkF m 2 #[.val (.ref a1), .val (.int i2)] [])) target → Steps p.tables e below (T0.setTop (mkF m 2 #[.val (.ref a1), .val (.int i1)] [])) target := by
  subst h12
  have HH := H
  have NNc := NN
  obtain ⟨E_a1, F_keys_a1, F_heap_a1, F_place_a1, F_size_a1, ⟨cl_kk, Ar_kk, S_kk, H_kk⟩, ⟨cl_qq, Ar_qq, S_qq, H_qq⟩, ⟨cl_ww, Ar_ww, S_ww, H_ww⟩⟩ := HH
  obtain ⟨n_aq, n_aw, n_qw, n_ka, n_kq, n_kw, g_a1, g_qq, g_ww⟩ := NNc
  have hin19 := own_in vi S_qq
  have hat19 := H_qq i1 vi
  have hin21 := own_in vf S_ww
  obtain ⟨T3, X3, e3, st3⟩ := getF X0 hx hZ hown (host := "") (Or.inl (hw _ (List.mem_of_getElem? (i := 26) rfl))) Via.refl e0 F_size_a1 (g := (mkF m 4 #[.val (.ref a1), .val (.int i1)] [(.ref a1), (.int i1)])) rfl rfl (hb hby d7_4)
  obtain ⟨T5, X5, e5, st5⟩ := getF X3 hx hZ hown (host := "") (Or.inl (hw _ (List.mem_of_getElem? (i := 15) rfl))) Via.refl e3 F_place_a1 (g := (mkF m 11 #[.val (.ref a1), .val (.int i1)] [(.ref a1)])) rfl rfl (hb hby d7_11)
  obtain ⟨T7, X7, e7, st7⟩ := getF X5 hx hZ hown (host := "") (Or.inl (hw _ (List.mem_of_getElem? (i := 13) rfl))) Via.refl e5 F_heap_a1 (g := (mkF m 15 #[.val (.ref a1), .val (.int i1)] [(.ref a1), (.ref ww)])) rfl rfl (hb hby d7_15)
  obtain ⟨T9, h9, X9, e9, W9, st9⟩ := stI X7 hx hZ e7 Ar_ww (j := (fh i1)) hin21 (g := (mkF m 21 #[.val (.ref a1), .val (.int i1)] [(.int (-1 : Int32)), (.int (fh i1)), (.ref ww)])) rfl rfl (hb hby d7_21)
  have N9 := Fr.snoc X9 N0 g_ww
  have K9 : Keep h0 h9 [ww] := (Keep.refl h0 [ww]).wr W9 (Or.inl (List.mem_of_getElem? (i := 0) rfl))
  refine ⟨T9, _, _, X9, e9, N9, (Keep.refl h0 [ww, a1]).wr W9 (Or.inl (List.mem_cons_self ..)), H.ww NN vf W9, fun target kt => ?_⟩
  show Steps p.tables e below (T0.setTop (mkF m 2 #[.val (.ref a1), .val (.int i1)] [])) _
  refine XS.iloadN X0.here hx rfl (hb hby d7_2) rfl ?_
  show Steps p.tables e below (T0.setTop (mkF m 3 #[.val (.ref a1), .val (.int i1)] [(.int i1)])) _
  refine XS.aloadN X0.here hx rfl (hb hby d7_3) rfl rfl ?_
  show Steps p.tables e below (T0.setTop (mkF m 4 #[.val (.ref a1), .val (.int i1)] [(.ref a1), (.int i1)])) _
  refine st3 _ ?_
  show Steps p.tables e below (T3.setTop (mkF m 7 #[.val (.ref a1), .val (.int i1)] [(.int sz), (.int i1)])) _
  refine XS.icmpNo X3.here hx rfl (hb hby d7_7) rfl (tlt hc7).2.1 ?_
  show Steps p.tables e below (T3.setTop (mkF m 10 #[.val (.ref a1), .val (.int i1)] [])) _
  refine XS.aloadN X3.here hx rfl (hb hby d7_10) rfl rfl ?_
  show Steps p.tables e below (T3.setTop (mkF m 11 #[.val (.ref a1), .val (.int i1)] [(.ref a1)])) _
  refine st5 _ ?_
  show Steps p.tables e below (T5.setTop (mkF m 14 #[.val (.ref a1), .val (.int i1)] [(.ref ww)])) _
  refine XS.aloadN X5.here hx rfl (hb hby d7_14) rfl rfl ?_
  show Steps p.tables e below (T5.setTop (mkF m 15 #[.val (.ref a1), .val (.int i1)] [(.ref a1), (.ref ww)])) _
  refine st7 _ ?_
  show Steps p.tables e below (T7.setTop (mkF m 18 #[.val (.ref a1), .val (.int i1)] [(.ref qq), (.ref ww)])) _
  refine XS.iloadN X7.here hx rfl (hb hby d7_18) rfl ?_
  show Steps p.tables e below (T7.setTop (mkF m 19 #[.val (.ref a1), .val (.int i1)] [(.int i1), (.ref qq), (.ref ww)])) _
  refine X7.iaload hx (j := i1) (v := (.int (fh i1))) (by rw [e7]; exact Ar_qq.1) (State.isArrayOf_alike hZ.alike Ar_qq.2.1) Ar_qq.2.2 hin19 hat19 (g := (mkF m 19 #[.val (.ref a1), .val (.int i1)] [(.int i1), (.ref qq), (.ref ww)])) rfl rfl (hb hby d7_19) _ ?_
  show Steps p.tables e below (T7.setTop (mkF m 20 #[.val (.ref a1), .val (.int i1)] [(.int (fh i1)), (.ref ww)])) _
  refine XS.iconst X7.here hx rfl (hb hby d7_20) ?_
  show Steps p.tables e below (T7.setTop (mkF m 21 #[.val (.ref a1), .val (.int i1)] [(.int (-1 : Int32)), (.int (fh i1)), (.ref ww)])) _
  refine st9 _ ?_
  show Steps p.tables e below (T9.setTop (mkF m 22 #[.val (.ref a1), .val (.int i1)] [])) _
  refine XS.iinc X9.here hx rfl (hb hby d7_22) rfl (l' := #[.val (.ref a1), .val (.int (i1 + (1 : Int32)))]) rfl ?_
  show Steps p.tables e below (T9.setTop (mkF m 25 #[.val (.ref a1), .val (.int (i1 + (1 : Int32)))] [])) _
  refine XS.goto X9.here hx rfl (pc0 := 25) (pc' := 2) rfl (hb hby d7_25) (by decide) (by decide) ?_
  exact kt
set_option maxRecDepth 65536 in
set_option maxHeartbeats 40000000 in
theorem own_te {p : Program} {l : Launch} {e : Env} {R : Room} {s : State} {m : MethodId} {args : Array Value} {below : List Frame} {meth : Method} {c : Code} {T0 : State} {locs : List Loc} {cells slots : Nat} {Z : State} {a0 : Array Value} {h0 : Heap} (a1 : Addr) (i1 : Int32) (sz : Int32)
    (X0 : Stand p l e R s m args below meth c T0 locs cells slots) (hx : p.tables.exec = Jvm.exec) (hZ : Z.Warmed39 s.vm) (hw : ∀ d ∈ tables_1, d.before a0 Z = true) (hby : c.code = prog_10_method_5_code) (hml : c.maxLocals = 2) (hown : s.vm.findClass "com/example/slotweave/slotweave/alloc/NodeHeap" = some m.cls) (e0 : T0.heap = h0) (F_size_a1 : Fld Z h0 a1 "com/example/slotweave/slotweave/alloc/NodeHeap" "size" "I" (.int sz)) (hc7 : ¬ (i1 < sz)) :
    ∃ (T' : State), Stand p l e R s m args below meth c T' locs cells slots ∧ T'.heap = h0 ∧
      ∀ target, Steps p.tables e below (T'.setTop (mkF m 28 #[.val (.ref a1), .val (.int i1)] [])) target → Steps p.tables e below (T0.setTop (mkF m 2 #[.val (.ref a1), .val (.int i1)] [])) target := by
  obtain ⟨T3, X3, e3, st3⟩ := getF X0 hx hZ hown (host := "") (Or.inl (hw _ (List.mem_of_getElem? (i := 26) rfl))) Via.refl e0 F_size_a1 (g := (mkF m 4 #[.val (.ref a1), .val (.int i1)] [(.ref a1), (.int i1)])) rfl rfl (hb hby d7_4)
  refine ⟨T3, X3, e3, fun target kt => ?_⟩
  show Steps p.tables e below (T0.setTop (mkF m 2 #[.val (.ref a1), .val (.int i1)] [])) _
  refine XS.iloadN X0.here hx rfl (hb hby d7_2) rfl ?_
  show Steps p.tables e below (T0.setTop (mkF m 3 #[.val (.ref a1), .val (.int i1)] [(.int i1)])) _
  refine XS.aloadN X0.here hx rfl (hb hby d7_3) rfl rfl ?_
  show Steps p.tables e below (T0.setTop (mkF m 4 #[.val (.ref a1), .val (.int i1)] [(.ref a1), (.int i1)])) _
  refine st3 _ ?_
  show Steps p.tables e below (T3.setTop (mkF m 7 #[.val (.ref a1), .val (.int i1)] [(.int sz), (.int i1)])) _
  refine XS.icmpYes X3.here hx rfl (pc0 := 7) (pc' := 28) rfl (hb hby d7_7) rfl (flt hc7).2.1 (by decide) (by decide) ?_
  exact kt
theorem own_c0 {fh gp : Int32 → Int32} (I : own_inv 0 fh gp) : ∀ n, own_v n → gp n = -1 := fun n hn => by
  rcases I.2.2 n hn with h | ⟨h1, h2, h3⟩
  · exact h
  · rcases h1 with e | e | e <;> rw [e] at h2 <;> exact absurd h2 (by decide)
theorem own_c1 {fh gp : Int32 → Int32} (I : own_inv 1 fh gp) : ∀ n, own_v n → own_up gp (fh 0) (-1 : Int32) n = -1 := fun n hn => by
  rcases I.2.2 n hn with h | ⟨h1, h2, h3⟩
  · exact own_upm h
  · rcases h1 with e | e | e <;> rw [e] at h2 h3
    · exact own_ups h3
    · exact absurd h2 (by decide)
    · exact absurd h2 (by decide)
theorem own_c2 {fh gp : Int32 → Int32} (I : own_inv 2 fh gp) : ∀ n, own_v n → own_up (own_up gp (fh 0) (-1 : Int32)) (fh 1) (-1 : Int32) n = -1 := fun n hn => by
  rcases I.2.2 n hn with h | ⟨h1, h2, h3⟩
  · exact own_upm (own_upm h)
  · rcases h1 with e | e | e <;> rw [e] at h2 h3
    · exact own_upm (own_ups h3)
    · exact own_ups h3
    · exact absurd h2 (by decide)
theorem own_c3 {fh gp : Int32 → Int32} (I : own_inv 3 fh gp) : ∀ n, own_v n → own_up (own_up (own_up gp (fh 0) (-1 : Int32)) (fh 1) (-1 : Int32)) (fh 2) (-1 : Int32) n = -1 := fun n hn => by
  rcases I.2.2 n hn with h | ⟨h1, h2, h3⟩
  · exact own_upm (own_upm (own_upm h))
  · rcases h1 with e | e | e <;> rw [e] at h2 h3
    · exact own_upm (own_upm (own_ups h3))
    · exact own_upm (own_ups h3)
    · exact own_ups h3
theorem own_sub {a b : Addr} : ∀ x ∈ [a, b], x ∈ [a, b] ∨ (0 : Nat) ≤ x := fun x hx => Or.inl hx
theorem own_cl {p : Program} {l : Launch} {e : Env} {R : Room} {s : State} {m : MethodId} {args : Array Value} {below : List Frame} {meth : Method} {c : Code} {T0 : State} {locs : List Loc} {cells slots : Nat} {Z : State} {a0 : Array Value} {h0 : Heap} {n0 : Nat} (a1 : Addr) (kk qq ww : Addr) (sz : Int32) (ky : Int32 → Int64) (fh gp : Int32 → Int32) (X0 : Stand p l e R s m args below meth c T0 locs cells slots) (hx : p.tables.exec = Jvm.exec) (hZ : Z.Warmed39 s.vm) (hw : ∀ d ∈ tables_1, d.before a0 Z = true) (hby : c.code = prog_10_method_5_code) (hml : c.maxLocals = 2) (hown : s.vm.findClass "com/example/slotweave/slotweave/alloc/NodeHeap" = some m.cls) (e0 : T0.heap = h0) (N0 : Fr n0 locs) (H : own_H Z h0 a1 kk qq ww sz ky fh gp) (NN : own_N n0 a1 kk qq ww) (I : own_inv sz fh gp) :
    ∃ (T' : State) (h' : Heap) (L' : List Loc) (gq : Int32 → Int32), Stand p l e R s m args below meth c T' L' cells slots ∧ T'.heap = h' ∧ Fr n0 L' ∧ Keep h0 h' [ww, a1] ∧ own_H Z h' a1 kk qq ww sz ky fh gq ∧ (∀ n, own_v n → gq n = -1) ∧
      ∀ target, Steps p.tables e below (T'.setTop (mkF m 28 #[.val (.ref a1), .val (.int sz)] [])) target → Steps p.tables e below (T0.setTop (mkF m 2 #[.val (.ref a1), .val (.int (0 : Int32))] [])) target := by
  obtain ⟨Is, I2, I3⟩ := id I
  rcases Is with rfl | rfl | rfl | rfl
  · obtain ⟨Te, Xe, ee, ste⟩ := own_te a1 0 0 X0 hx hZ hw hby hml hown e0 H.2.2.2.2.1 (by decide)
    exact ⟨Te, _, _, gp, Xe, ee, N0, Keep.refl _ _, H, own_c0 I, ste⟩
  · obtain ⟨T1, h1, L1, X1, e1, N1, K1, H1, st1⟩ := own_tc a1 0 1 kk qq ww 1 ky fh gp X0 hx hZ hw hby hml hown e0 N0 H NN own_v0 (I2 0 own_v0 (by decide)).1 (by decide) (by decide)
    obtain ⟨Te, Xe, ee, ste⟩ := own_te a1 1 1 X1 hx hZ hw hby hml hown e1 H1.2.2.2.2.1 (by decide)
    exact ⟨Te, _, _, _, Xe, ee, N1, K1, H1, own_c1 I, fun t k => st1 t (ste t k)⟩
  · obtain ⟨T1, h1, L1, X1, e1, N1, K1, H1, st1⟩ := own_tc a1 0 1 kk qq ww 2 ky fh gp X0 hx hZ hw hby hml hown e0 N0 H NN own_v0 (I2 0 own_v0 (by decide)).1 (by decide) (by decide)
    obtain ⟨T2, h2, L2, X2, e2, N2, K2, H2, st2⟩ := own_tc a1 1 2 kk qq ww 2 ky fh _ X1 hx hZ hw hby hml hown e1 N1 H1 NN own_v1 (I2 1 own_v1 (by decide)).1 (by decide) (by decide)
    obtain ⟨Te, Xe, ee, ste⟩ := own_te a1 2 2 X2 hx hZ hw hby hml hown e2 H2.2.2.2.2.1 (by decide)
    exact ⟨Te, _, _, _, Xe, ee, N2, K1.trans K2 (fun x hx => Or.inl hx), H2, own_c2 I, fun t k => st1 t (st2 t (ste t k))⟩
  · obtain ⟨T1, h1, L1, X1, e1, N1, K1, H1, st1⟩ := own_tc a1 0 1 kk qq ww 3 ky fh gp X0 hx hZ hw hby hml hown e0 N0 H NN own_v0 (I2 0 own_v0 (by decide)).1 (by decide) (by decide)
    obtain ⟨T2, h2, L2, X2, e2, N2, K2, H2, st2⟩ := own_tc a1 1 2 kk qq ww 3 ky fh _ X1 hx hZ hw hby hml hown e1 N1 H1 NN own_v1 (I2 1 own_v1 (by decide)).1 (by decide) (by decide)
    obtain ⟨T3, h3, L3, X3, e3, N3, K3, H3, st3⟩ := own_tc a1 2 3 kk qq ww 3 ky fh _ X2 hx hZ hw hby hml hown e2 N2 H2 NN own_v2 (I2 2 own_v2 (by decide)).1 (by decide) (by decide)
    obtain ⟨Te, Xe, ee, ste⟩ := own_te a1 3 3 X3 hx hZ hw hby hml hown e3 H3.2.2.2.2.1 (by decide)
    exact ⟨Te, _, _, _, Xe, ee, N3, (K1.trans K2 (fun x hx => Or.inl hx)).trans K3 (fun x hx => Or.inl hx), H3, own_c3 I, fun t k => st1 t (st2 t (st3 t (ste t k)))⟩
theorem d7_0 : decode prog_10_method_5_code 0 = .ok (.iconst 0, 1) := by decide +kernel
theorem d7_1 : decode prog_10_method_5_code 1 = .ok (.istore_n 1, 1) := by decide +kernel
theorem d7_28 : decode prog_10_method_5_code 28 = .ok (.aload_n 0, 1) := by decide +kernel
theorem d7_29 : decode prog_10_method_5_code 29 = .ok (.iconst 0, 1) := by decide +kernel
theorem d7_30 : decode prog_10_method_5_code 30 = .ok (.putfield 26, 3) := by decide +kernel
theorem d7_33 : decode prog_10_method_5_code 33 = .ok (.return_, 1) := by decide +kernel
theorem pn_7 : plainName "com/example/slotweave/slotweave/alloc/NodeHeap" = true := by first | (simp [plainName, overriddenIn]; done) | decide +kernel
theorem ef_7 (m : MethodId) (x0 : Addr) : entryFrame m #[(.ref x0)] 2 = mkF m 0 #[.val (.ref x0), .unset] [] := by first | (simp [entryFrame, mkF, argsToLocals, Value.category]; done) | rfl
def Q7 (Z : State) (a1 : Addr) (kk qq ww : Addr) (sz : Int32) (ky : Int32 → Int64) (fh gp : Int32 → Int32) (h0 : Heap) (n0 : Nat) (v : Option Value) (h : Heap) (L : List Loc) : Prop := ∃ gq : Int32 → Int32, v = none ∧ Fr n0 L ∧ Keep h0 h [ww, a1] ∧ own_H Z h a1 kk qq ww (0 : Int32) ky fh gq ∧ ∀ n, own_v n → gq n = -1
set_option maxRecDepth 65536 in
set_option maxHeartbeats 40000000 in
theorem rm7 (l : Launch) (Z : State) (a0 : Array Value) (hw : ∀ d ∈ tables_1, d.before a0 Z = true) (ws : List Jvm.Cond) (a1 : Addr) (kk qq ww : Addr) (sz : Int32) (ky : Int32 → Int64) (fh gp : Int32 → Int32) (h0 : Heap) (n0 : Nat) (Z0 : n0 ≤ h0.size) (H : own_H Z h0 a1 kk qq ww sz ky fh gp) (NN : own_N n0 a1 kk qq ww) (I : own_inv sz fh gp) :
    MetFree l (⟨"com/example/slotweave/slotweave/alloc/NodeHeap", "clear", "()V"⟩ : MethodName) (head1 (Jvm.Cond.code (⟨"com/example/slotweave/slotweave/alloc/NodeHeap", "clear", "()V"⟩ : MethodName) prog_10_method_5_code 2 none :: ws) ({ frames := 0, cells := 0, slots := 0, locals := 0 } : Room)) (fun a U => a = #[(.ref a1)] ∧ Z.Warmed39 U.vm ∧ U.heap = h0) (fun _ _ _ _ _ => True) (fun _ U o U' => ∃ v L, o = .returned v ∧ Q7 Z a1 kk qq ww sz ky fh gp h0 n0 v U'.heap L ∧ FrameEnd U o U' L ({ frames := 0, cells := 0, slots := 0, locals := 0 } : Room).cells ({ frames := 0, cells := 0, slots := 0, locals := 0 } : Room).slots) := by
  refine MetFree.of_bodySF (plainFor_of_name pn_7) hisR ?_
  intro p e s m args below meth c s₁ Bd hml0 hP hK
  obtain ⟨rfl, hZ, hh⟩ := hP
  have hx := Bd.exec
  have hby := Bd.bytes
  have hml : c.maxLocals = 2 := hml0
  have hown : s.vm.findClass "com/example/slotweave/slotweave/alloc/NodeHeap" = some m.cls := findClass_of_methodNamed Bd.named
  have hnm := (name_of_methodNamed Bd.named Bd.method).1
  have X0 : Stand p l e ({ frames := 0, cells := 0, slots := 0, locals := 0 } : Room) s m #[(.ref a1)] below meth c s₁ [] 0 0 := Stand.of_body Bd
  have e0 : s₁.heap = h0 := by rw [← hh, Bd.state]; rfl
  have N0 := Fr.nil n0
  have pre0 : ∀ t, Steps p.tables e below (s₁.setTop (mkF m 0 #[.val (.ref a1), .unset] [])) t → Steps p.tables e below (s₁.setTop (entryFrame m #[(.ref a1)] 2)) t := fun t k => castTop (ef_7 m a1) k
  have HH := H
  have NNc := NN
  obtain ⟨E_a1, F_keys_a1, F_heap_a1, F_place_a1, F_size_a1, ⟨cl_kk, Ar_kk, S_kk, H_kk⟩, ⟨cl_qq, Ar_qq, S_qq, H_qq⟩, ⟨cl_ww, Ar_ww, S_ww, H_ww⟩⟩ := HH
  obtain ⟨n_aq, n_aw, n_qw, n_ka, n_kq, n_kw, g_a1, g_qq, g_ww⟩ := NNc
  obtain ⟨T3, h3, L3, gq, X3, e3, N3, K3, H3, hgq, st3⟩ := own_cl a1 kk qq ww sz ky fh gp X0 hx hZ hw hby hml hown e0 N0 H NN I
  obtain ⟨E3, -, -, -, F3, -⟩ := id H3
  obtain ⟨T4, h4, X4, e4, W4, st4⟩ := putF X3 hx hZ hown (host := "") (Or.inl (hw _ (List.mem_of_getElem? (i := 26) rfl))) Via.refl e3 F3 E3 (Or.inl (hw _ (List.mem_of_getElem? (i := 27) rfl))) (hw _ (List.mem_of_getElem? (i := 2) rfl)) (ty := .int) (by decide) rfl rfl (g := (mkF m 30 #[.val (.ref a1), .val (.int sz)] [(.int (0 : Int32)), (.ref a1)])) rfl rfl (hb hby d7_30)
  have Fw4 := F3.same W4
  have K4 : Keep h0 h4 [ww, a1] := K3.wr W4 (Or.inl (by simp))
  have N4 := Fr.snoc X4 N3 g_a1
  obtain ⟨fs, hr, hrun, hended, hW, hsame⟩ := X4.leave (v := none) (fun _ => rfl)
  refine ⟨_, _, pre0 _ ?_, hrun, hended, _, _, rfl, ?_, ⟨_, rfl⟩, hW, hsame.mono (by decide) (by decide)⟩
  · show Steps p.tables e below (s₁.setTop (mkF m 0 #[.val (.ref a1), .unset] [])) _
    refine XS.iconst X0.here hx rfl (hb hby d7_0) ?_
    show Steps p.tables e below (s₁.setTop (mkF m 1 #[.val (.ref a1), .unset] [(.int (0 : Int32))])) _
    refine XS.istoreN X0.here hx rfl (hb hby d7_1) rfl (l' := #[.val (.ref a1), .val (.int (0 : Int32))]) rfl ?_
    show Steps p.tables e below (s₁.setTop (mkF m 2 #[.val (.ref a1), .val (.int (0 : Int32))] [])) _
    refine st3 _ ?_
    show Steps p.tables e below (T3.setTop (mkF m 28 #[.val (.ref a1), .val (.int sz)] [])) _
    refine XS.aloadN X3.here hx rfl (hb hby d7_28) rfl rfl ?_
    show Steps p.tables e below (T3.setTop (mkF m 29 #[.val (.ref a1), .val (.int sz)] [(.ref a1)])) _
    refine XS.iconst X3.here hx rfl (hb hby d7_29) ?_
    show Steps p.tables e below (T3.setTop (mkF m 30 #[.val (.ref a1), .val (.int sz)] [(.int (0 : Int32)), (.ref a1)])) _
    refine st4 _ ?_
    show Steps p.tables e below (T4.setTop (mkF m 33 #[.val (.ref a1), .val (.int sz)] [])) _
    exact X4.returnOut hx Bd.returns (hb hby d7_33) hr
  · show Q7 Z a1 kk qq ww sz ky fh gp h0 n0 _ T4.heap _
    rw [e4]
    exact ⟨gq, rfl, N4, K4, H3.ws hw NN W4, hgq⟩
theorem own_I.congr {Z : State} {h : Heap} {b : Addr} {f g : Int32 → Int32} (I : own_I Z h b f) (q : ∀ i, own_v i → f i = g i) : own_I Z h b g := by
  obtain ⟨c, A, S, H⟩ := I; exact ⟨c, A, S, fun i hi => by rw [← q i hi]; exact H i hi⟩
theorem d3_5 : decode jdk_65_method_103_code 5 = .ok (.iload_n 2, 1) := by decide +kernel
theorem d3_6 : decode jdk_65_method_103_code 6 = .ok (.iload_n 3, 1) := by decide +kernel
theorem d3_7 : decode jdk_65_method_103_code 7 = .ok (.if_icmp .ge 13, 3) := by decide +kernel
theorem d3_10 : decode jdk_65_method_103_code 10 = .ok (.aload_n 0, 1) := by decide +kernel
theorem d3_11 : decode jdk_65_method_103_code 11 = .ok (.iload_n 2, 1) := by decide +kernel
theorem d3_12 : decode jdk_65_method_103_code 12 = .ok (.iload_n 1, 1) := by decide +kernel
theorem d3_13 : decode jdk_65_method_103_code 13 = .ok (.iastore, 1) := by decide +kernel
theorem d3_14 : decode jdk_65_method_103_code 14 = .ok (.iinc 2 1, 3) := by decide +kernel
theorem d3_17 : decode jdk_65_method_103_code 17 = .ok (.goto (-12), 3) := by decide +kernel
set_option maxRecDepth 65536 in
set_option maxHeartbeats 40000000 in
theorem own_ft {p : Program} {l : Launch} {e : Env} {R : Room} {s : State} {m : MethodId} {args : Array Value} {below : List Frame} {meth : Method} {c : Code} {T0 : State} {locs : List Loc} {cells slots : Nat} {Z : State} {a0 : Array Value} {h0 : Heap} {n0 : Nat} (a1 : Addr) (i1 i2 i3 i4 : Int32) (f : Int32 → Int32)
    (X0 : Stand p l e R s m args below meth c T0 locs cells slots) (hx : p.tables.exec = Jvm.exec) (hZ : Z.Warmed39 s.vm) (hw : ∀ d ∈ tables_1, d.before a0 Z = true) (hby : c.code = jdk_65_method_103_code) (hml : c.maxLocals = 4) (hown : s.vm.findClass "java/util/Arrays" = some m.cls) (e0 : T0.heap = h0) (N0 : Fr n0 locs) (I : own_I Z h0 a1 f) (g_a1 : n0 ≤ a1) (vi : own_v i2) (hc7 : i2 < i3) (h24 : i2 + (1 : Int32) = i4) :
    ∃ (T' : State) (h' : Heap) (L' : List Loc), Stand p l e R s m args below meth c T' L' cells slots ∧ T'.heap = h' ∧ Fr n0 L' ∧ Keep h0 h' [a1] ∧ own_I Z h' a1 (own_up f i2 i1) ∧
      ∀ target, Steps p.tables e below (T'.setTop (mkF m 5 #[.val (.ref a1), .val (.int i1), .val (.int i4), .val (.int i3)] [])) target → Steps p.tables e below (T0.setTop (mkF m 5 #[.val (.ref a1), .val (.int i1), .val (.int i2), .val (.int i3)] [])) target := by
  subst h24
  obtain ⟨cl_a1, Ar_a1, S_a1, H_a1⟩ := id I
  have hin13 := own_in vi S_a1
  obtain ⟨T3, h3, X3, e3, W3, st3⟩ := stI X0 hx hZ e0 Ar_a1 (j := i2) hin13 (g := (mkF m 13 #[.val (.ref a1), .val (.int i1), .val (.int i2), .val (.int i3)] [(.int i1), (.int i2), (.ref a1)])) rfl rfl (hb hby d3_13)
  have N3 := Fr.snoc X3 N0 g_a1
  have K3 : Keep h0 h3 [a1] := (Keep.refl h0 [a1]).wr W3 (Or.inl (List.mem_of_getElem? (i := 0) rfl))
  refine ⟨T3, _, _, X3, e3, N3, K3, I.set vi W3, fun target kt => ?_⟩
  show Steps p.tables e below (T0.setTop (mkF m 5 #[.val (.ref a1), .val (.int i1), .val (.int i2), .val (.int i3)] [])) _
  refine XS.iloadN X0.here hx rfl (hb hby d3_5) rfl ?_
  show Steps p.tables e below (T0.setTop (mkF m 6 #[.val (.ref a1), .val (.int i1), .val (.int i2), .val (.int i3)] [(.int i2)])) _
  refine XS.iloadN X0.here hx rfl (hb hby d3_6) rfl ?_
  show Steps p.tables e below (T0.setTop (mkF m 7 #[.val (.ref a1), .val (.int i1), .val (.int i2), .val (.int i3)] [(.int i3), (.int i2)])) _
  refine XS.icmpNo X0.here hx rfl (hb hby d3_7) rfl (tlt hc7).2.1 ?_
  show Steps p.tables e below (T0.setTop (mkF m 10 #[.val (.ref a1), .val (.int i1), .val (.int i2), .val (.int i3)] [])) _
  refine XS.aloadN X0.here hx rfl (hb hby d3_10) rfl rfl ?_
  show Steps p.tables e below (T0.setTop (mkF m 11 #[.val (.ref a1), .val (.int i1), .val (.int i2), .val (.int i3)] [(.ref a1)])) _
  refine XS.iloadN X0.here hx rfl (hb hby d3_11) rfl ?_
  show Steps p.tables e below (T0.setTop (mkF m 12 #[.val (.ref a1), .val (.int i1), .val (.int i2), .val (.int i3)] [(.int i2), (.ref a1)])) _
  refine XS.iloadN X0.here hx rfl (hb hby d3_12) rfl ?_
  show Steps p.tables e below (T0.setTop (mkF m 13 #[.val (.ref a1), .val (.int i1), .val (.int i2), .val (.int i3)] [(.int i1), (.int i2), (.ref a1)])) _
  refine st3 _ ?_
  show Steps p.tables e below (T3.setTop (mkF m 14 #[.val (.ref a1), .val (.int i1), .val (.int i2), .val (.int i3)] [])) _
  refine XS.iinc X3.here hx rfl (hb hby d3_14) rfl (l' := #[.val (.ref a1), .val (.int i1), .val (.int (i2 + (1 : Int32))), .val (.int i3)]) rfl ?_
  show Steps p.tables e below (T3.setTop (mkF m 17 #[.val (.ref a1), .val (.int i1), .val (.int (i2 + (1 : Int32))), .val (.int i3)] [])) _
  refine XS.goto X3.here hx rfl (pc0 := 17) (pc' := 5) rfl (hb hby d3_17) (by decide) (by decide) ?_
  exact kt
theorem d3_0 : decode jdk_65_method_103_code 0 = .ok (.iconst 0, 1) := by decide +kernel
theorem d3_1 : decode jdk_65_method_103_code 1 = .ok (.istore_n 2, 1) := by decide +kernel
theorem d3_2 : decode jdk_65_method_103_code 2 = .ok (.aload_n 0, 1) := by decide +kernel
theorem d3_3 : decode jdk_65_method_103_code 3 = .ok (.arraylength, 1) := by decide +kernel
theorem d3_4 : decode jdk_65_method_103_code 4 = .ok (.istore_n 3, 1) := by decide +kernel
theorem d3_20 : decode jdk_65_method_103_code 20 = .ok (.return_, 1) := by decide +kernel
theorem pn_3 : plainName "java/util/Arrays" = true := by first | (simp [plainName, overriddenIn]; done) | decide +kernel
theorem ef_3 (m : MethodId) (x0 : Addr) (x1 : Int32) : entryFrame m #[(.ref x0), (.int x1)] 4 = mkF m 0 #[.val (.ref x0), .val (.int x1), .unset, .unset] [] := by first | (simp [entryFrame, mkF, argsToLocals, Value.category]; done) | rfl
def Q3 (Z : State) (a1 : Addr) (p2 : Int32) (f : Int32 → Int32) (h0 : Heap) (n0 : Nat) (v : Option Value) (h : Heap) (L : List Loc) : Prop := v = none ∧ Fr n0 L ∧ Keep h0 h [a1] ∧ own_I Z h a1 (fun _ => p2)
set_option maxRecDepth 65536 in
set_option maxHeartbeats 40000000 in
theorem rm3 (l : Launch) (Z : State) (a0 : Array Value) (hw : ∀ d ∈ tables_1, d.before a0 Z = true) (ws : List Jvm.Cond) (a1 : Addr) (p2 : Int32) (f : Int32 → Int32) (h0 : Heap) (n0 : Nat) (Z0 : n0 ≤ h0.size) (I : own_I Z h0 a1 f) (g_a1 : n0 ≤ a1) :
    MetFree l (⟨"java/util/Arrays", "fill", "([II)V"⟩ : MethodName) (head1 (Jvm.Cond.code (⟨"java/util/Arrays", "fill", "([II)V"⟩ : MethodName) jdk_65_method_103_code 4 none :: ws) ({ frames := 0, cells := 0, slots := 0, locals := 0 } : Room)) (fun a U => a = #[(.ref a1), (.int p2)] ∧ Z.Warmed39 U.vm ∧ U.heap = h0) (fun _ _ _ _ _ => True) (fun _ U o U' => ∃ v L, o = .returned v ∧ Q3 Z a1 p2 f h0 n0 v U'.heap L ∧ FrameEnd U o U' L ({ frames := 0, cells := 0, slots := 0, locals := 0 } : Room).cells ({ frames := 0, cells := 0, slots := 0, locals := 0 } : Room).slots) := by
  refine MetFree.of_bodySF (plainFor_of_name pn_3) hisR ?_
  intro p e s m args below meth c s₁ Bd hml0 hP hK
  obtain ⟨rfl, hZ, hh⟩ := hP
  have hx := Bd.exec
  have hby := Bd.bytes
  have hml : c.maxLocals = 4 := hml0
  have hown : s.vm.findClass "java/util/Arrays" = some m.cls := findClass_of_methodNamed Bd.named
  have hnm := (name_of_methodNamed Bd.named Bd.method).1
  have X0 : Stand p l e ({ frames := 0, cells := 0, slots := 0, locals := 0 } : Room) s m #[(.ref a1), (.int p2)] below meth c s₁ [] 0 0 := Stand.of_body Bd
  have e0 : s₁.heap = h0 := by rw [← hh, Bd.state]; rfl
  have N0 := Fr.nil n0
  have pre0 : ∀ t, Steps p.tables e below (s₁.setTop (mkF m 0 #[.val (.ref a1), .val (.int p2), .unset, .unset] [])) t → Steps p.tables e below (s₁.setTop (entryFrame m #[(.ref a1), (.int p2)] 4)) t := fun t k => castTop (ef_3 m a1 p2) k
  obtain ⟨cl_a1, Ar_a1, S_a1', H_a1⟩ := id I
  have S_a1 : cl_a1.slots.size = (3 : Int32).toNatClampNeg := S_a1'
  have N_a1 : ¬ (3 : Int32) < 0 := by decide
  obtain ⟨T1, h1, L1, X1, e1, N1, K1, I1, st1⟩ := own_ft a1 p2 0 3 1 f X0 hx hZ hw hby hml hown e0 N0 I g_a1 own_v0 (by decide) (by decide)
  obtain ⟨T2, h2, L2, X2, e2, N2, K2, I2, st2⟩ := own_ft a1 p2 1 3 2 _ X1 hx hZ hw hby hml hown e1 N1 I1 g_a1 own_v1 (by decide) (by decide)
  obtain ⟨T3, h3, L3, X3, e3, N3, K3, I3, st3⟩ := own_ft a1 p2 2 3 3 _ X2 hx hZ hw hby hml hown e2 N2 I2 g_a1 own_v2 (by decide) (by decide)

  obtain ⟨fs, hr, hrun, hended, hW, hsame⟩ := X3.leave (v := none) (fun _ => rfl)
  refine ⟨_, _, pre0 _ ?_, hrun, hended, _, _, rfl, ?_, ⟨_, rfl⟩, hW, hsame.mono (by decide) (by decide)⟩
  · show Steps p.tables e below (s₁.setTop (mkF m 0 #[.val (.ref a1), .val (.int p2), .unset, .unset] [])) _
    refine XS.iconst X0.here hx rfl (hb hby d3_0) ?_
    show Steps p.tables e below (s₁.setTop (mkF m 1 #[.val (.ref a1), .val (.int p2), .unset, .unset] [(.int (0 : Int32))])) _
    refine XS.istoreN X0.here hx rfl (hb hby d3_1) rfl (l' := #[.val (.ref a1), .val (.int p2), .val (.int (0 : Int32)), .unset]) rfl ?_
    show Steps p.tables e below (s₁.setTop (mkF m 2 #[.val (.ref a1), .val (.int p2), .val (.int (0 : Int32)), .unset] [])) _
    refine XS.aloadN X0.here hx rfl (hb hby d3_2) rfl rfl ?_
    show Steps p.tables e below (s₁.setTop (mkF m 3 #[.val (.ref a1), .val (.int p2), .val (.int (0 : Int32)), .unset] [(.ref a1)])) _
    refine X0.arraylength hx (by rw [e0]; exact Ar_a1.1) (State.isArrayOf_alike hZ.alike Ar_a1.2.1) (g := (mkF m 3 #[.val (.ref a1), .val (.int p2), .val (.int (0 : Int32)), .unset] [(.ref a1)])) rfl rfl (hb hby d3_3) _ ?_
    rw [len_of S_a1 N_a1]
    show Steps p.tables e below (s₁.setTop (mkF m 4 #[.val (.ref a1), .val (.int p2), .val (.int (0 : Int32)), .unset] [(.int (3 : Int32))])) _
    refine XS.istoreN X0.here hx rfl (hb hby d3_4) rfl (l' := #[.val (.ref a1), .val (.int p2), .val (.int (0 : Int32)), .val (.int (3 : Int32))]) rfl ?_
    show Steps p.tables e below (s₁.setTop (mkF m 5 #[.val (.ref a1), .val (.int p2), .val (.int (0 : Int32)), .val (.int (3 : Int32))] [])) _
    refine st1 _ (st2 _ (st3 _ ?_))
    show Steps p.tables e below (T3.setTop (mkF m 5 #[.val (.ref a1), .val (.int p2), .val (.int (3 : Int32)), .val (.int (3 : Int32))] [])) _
    refine XS.iloadN X3.here hx rfl (hb hby d3_5) rfl ?_
    show Steps p.tables e below (T3.setTop (mkF m 6 #[.val (.ref a1), .val (.int p2), .val (.int (3 : Int32)), .val (.int (3 : Int32))] [(.int (3 : Int32))])) _
    refine XS.iloadN X3.here hx rfl (hb hby d3_6) rfl ?_
    show Steps p.tables e below (T3.setTop (mkF m 7 #[.val (.ref a1), .val (.int p2), .val (.int (3 : Int32)), .val (.int (3 : Int32))] [(.int (3 : Int32)), (.int (3 : Int32))])) _
    refine XS.icmpYes X3.here hx rfl (pc0 := 7) (pc' := 20) rfl (hb hby d3_7) rfl (flt (show ¬ ((3 : Int32) < (3 : Int32)) by decide)).2.1 (by decide) (by decide) ?_
    show Steps p.tables e below (T3.setTop (mkF m 20 #[.val (.ref a1), .val (.int p2), .val (.int (3 : Int32)), .val (.int (3 : Int32))] [])) _
    exact X3.returnOut hx Bd.returns (hb hby d3_20) hr
  · show Q3 Z a1 p2 f h0 n0 _ T3.heap _
    rw [e3]
    exact ⟨rfl, N3, (K1.trans K2 (fun x hx => Or.inl hx)).trans K3 (fun x hx => Or.inl hx), I3.congr (fun i hi => by rcases hi with rfl | rfl | rfl <;> rfl)⟩
theorem own_I.ext {Z : State} {h h' : Heap} {b : Addr} {f : Int32 → Int32} (I : own_I Z h b f) (E : Ext h h') : own_I Z h' b f := by
  obtain ⟨c, A, r⟩ := I; exact ⟨c, A.ext E, r⟩
theorem own_D.ext {Z : State} {h h' : Heap} {b : Addr} {f : Int32 → Int64} (I : own_D Z h b f) (E : Ext h h') : own_D Z h' b f := by
  obtain ⟨c, A, r⟩ := I; exact ⟨c, A.ext E, r⟩
theorem own_new {Z : State} {h : Heap} {b : Addr} {k : ClassId} (V : Arv Z h b k .int (3 : Int32) [] (defaultValue .int)) : own_I Z h b (fun _ => 0) := by
  obtain ⟨c, A, -, S, -, H, -⟩ := V
  exact ⟨c, A, S, fun i hi => H i.toNatClampNeg (Nat.lt_of_not_le fun q => own_in hi (show c.slots.size = 3 from S) (Or.inr q))⟩
theorem d1_0 : decode prog_10_method_1_code 0 = .ok (.aload_n 0, 1) := by decide +kernel
theorem d1_1 : decode prog_10_method_1_code 1 = .ok (.invokespecial 1, 3) := by decide +kernel
theorem d1_4 : decode prog_10_method_1_code 4 = .ok (.aload_n 0, 1) := by decide +kernel
theorem d1_5 : decode prog_10_method_1_code 5 = .ok (.aload_n 1, 1) := by decide +kernel
theorem d1_6 : decode prog_10_method_1_code 6 = .ok (.putfield 7, 3) := by decide +kernel
theorem d1_9 : decode prog_10_method_1_code 9 = .ok (.aload_n 0, 1) := by decide +kernel
theorem d1_10 : decode prog_10_method_1_code 10 = .ok (.aload_n 1, 1) := by decide +kernel
theorem d1_11 : decode prog_10_method_1_code 11 = .ok (.arraylength, 1) := by decide +kernel
theorem d1_12 : decode prog_10_method_1_code 12 = .ok (.newarray .int, 2) := by decide +kernel
theorem d1_14 : decode prog_10_method_1_code 14 = .ok (.putfield 13, 3) := by decide +kernel
theorem d1_17 : decode prog_10_method_1_code 17 = .ok (.aload_n 0, 1) := by decide +kernel
theorem d1_18 : decode prog_10_method_1_code 18 = .ok (.aload_n 1, 1) := by decide +kernel
theorem d1_19 : decode prog_10_method_1_code 19 = .ok (.arraylength, 1) := by decide +kernel
theorem d1_20 : decode prog_10_method_1_code 20 = .ok (.newarray .int, 2) := by decide +kernel
theorem d1_22 : decode prog_10_method_1_code 22 = .ok (.putfield 17, 3) := by decide +kernel
theorem d1_25 : decode prog_10_method_1_code 25 = .ok (.aload_n 0, 1) := by decide +kernel
theorem d1_26 : decode prog_10_method_1_code 26 = .ok (.getfield 17, 3) := by decide +kernel
theorem d1_29 : decode prog_10_method_1_code 29 = .ok (.iconst (-1), 1) := by decide +kernel
theorem d1_30 : decode prog_10_method_1_code 30 = .ok (.invokestatic 20, 3) := by decide +kernel
theorem d1_33 : decode prog_10_method_1_code 33 = .ok (.return_, 1) := by decide +kernel
theorem pn_1 : plainName "com/example/slotweave/slotweave/alloc/NodeHeap" = true := by first | (simp [plainName, overriddenIn]; done) | decide +kernel
theorem pd_1_2 : parseMethodDescriptor "([II)V" = some ⟨[(.array .int), .int], none⟩ := by decide +kernel
theorem ef_1 (m : MethodId) (x0 : Addr) (x1 : Addr) : entryFrame m #[(.ref x0), (.ref x1)] 2 = mkF m 0 #[.val (.ref x0), .val (.ref x1)] [] := by first | (simp [entryFrame, mkF, argsToLocals, Value.category]; done) | rfl
def Q1 (Z : State) (a1 : Addr) (a2 : Addr) (ky : Int32 → Int64) (h0 : Heap) (n0 : Nat) (v : Option Value) (h : Heap) (L : List Loc) : Prop := ∃ qq ww : Addr, v = none ∧ Fr n0 L ∧ Keep h0 h [a1] ∧ own_H Z h a1 a2 qq ww (0 : Int32) ky (fun _ => 0) (fun _ => -1) ∧ h0.size ≤ qq ∧ h0.size ≤ ww ∧ qq ≠ ww
set_option maxRecDepth 65536 in
set_option maxHeartbeats 40000000 in
theorem rm1 (l : Launch) (Z : State) (a0 : Array Value) (hw : ∀ d ∈ tables_1, d.before a0 Z = true) (ws : List Jvm.Cond) (a1 : Addr) (a2 : Addr) (u_keys_a1 u_heap_a1 u_place_a1 : Value) (ky : Int32 → Int64) (h0 : Heap) (n0 : Nat) (Z0 : n0 ≤ h0.size) (E_a1 : Exa Z h0 a1 "com/example/slotweave/slotweave/alloc/NodeHeap") (F_keys_a1 : Fld Z h0 a1 "com/example/slotweave/slotweave/alloc/NodeHeap" "keys" "[D" u_keys_a1) (g_a1 : n0 ≤ a1) (F_heap_a1 : Fld Z h0 a1 "com/example/slotweave/slotweave/alloc/NodeHeap" "heap" "[I" u_heap_a1) (F_place_a1 : Fld Z h0 a1 "com/example/slotweave/slotweave/alloc/NodeHeap" "place" "[I" u_place_a1) (F_size_a1 : Fld Z h0 a1 "com/example/slotweave/slotweave/alloc/NodeHeap" "size" "I" (.int (0 : Int32))) (DD : own_D Z h0 a2 ky) (n_12 : a2 ≠ a1) :
    MetFree l (⟨"com/example/slotweave/slotweave/alloc/NodeHeap", "<init>", "([D)V"⟩ : MethodName) (head1 (Jvm.Cond.code (⟨"com/example/slotweave/slotweave/alloc/NodeHeap", "<init>", "([D)V"⟩ : MethodName) prog_10_method_1_code 2 none :: ws) ({ frames := 2, cells := 2, slots := 6, locals := 24 } : Room)) (fun a U => a = #[(.ref a1), (.ref a2)] ∧ Z.Warmed39 U.vm ∧ U.heap = h0) (fun _ _ _ _ _ => True) (fun _ U o U' => ∃ v L, o = .returned v ∧ Q1 Z a1 a2 ky h0 n0 v U'.heap L ∧ FrameEnd U o U' L ({ frames := 2, cells := 2, slots := 6, locals := 24 } : Room).cells ({ frames := 2, cells := 2, slots := 6, locals := 24 } : Room).slots) := by
  refine MetFree.of_bodySF (plainFor_of_name pn_1) hisR ?_
  intro p e s m args below meth c s₁ Bd hml0 hP hK
  obtain ⟨rfl, hZ, hh⟩ := hP
  have hx := Bd.exec
  have hby := Bd.bytes
  have hml : c.maxLocals = 2 := hml0
  have hown : s.vm.findClass "com/example/slotweave/slotweave/alloc/NodeHeap" = some m.cls := findClass_of_methodNamed Bd.named
  have hnm := (name_of_methodNamed Bd.named Bd.method).1
  have X0 : Stand p l e ({ frames := 2, cells := 2, slots := 6, locals := 24 } : Room) s m #[(.ref a1), (.ref a2)] below meth c s₁ [] 0 0 := Stand.of_body Bd
  have e0 : s₁.heap = h0 := by rw [← hh, Bd.state]; rfl
  have N0 := Fr.nil n0
  have pre0 : ∀ t, Steps p.tables e below (s₁.setTop (mkF m 0 #[.val (.ref a1), .val (.ref a2)] [])) t → Steps p.tables e below (s₁.setTop (entryFrame m #[(.ref a1), (.ref a2)] 2)) t := fun t k => castTop (ef_1 m a1 a2) k
  obtain ⟨cl_a2, Ar_a2, S_a2', H_a2⟩ := id DD
  have S_a2 : cl_a2.slots.size = (3 : Int32).toNatClampNeg := S_a2'
  have N_a2 : ¬ (3 : Int32) < 0 := by decide
  obtain ⟨T3, X3, e3, st3⟩ := initO X0 hx hZ hown (hw _ (List.mem_of_getElem? (i := 7) rfl)) (hw _ (List.mem_of_getElem? (i := 8) rfl)) (hw _ (List.mem_of_getElem? (i := 9) rfl)) e0 (g := (mkF m 1 #[.val (.ref a1), .val (.ref a2)] [(.ref a1)])) rfl (by rw [hml]; rfl) rfl (hb hby d1_1) (by decide) (W := 0) (by show 2 * 0 + _ ≤ _; exact Nat.le_of_eq rfl) (by decide)
  obtain ⟨T4, h4, X4, e4, W4, st4⟩ := putF X3 hx hZ hown (host := "") (Or.inl (hw _ (List.mem_of_getElem? (i := 10) rfl))) Via.refl e3 F_keys_a1 E_a1 (Or.inr ⟨(hw _ (List.mem_of_getElem? (i := 11) rfl)), rfl, hnm⟩) (hw _ (List.mem_of_getElem? (i := 2) rfl)) (ty := (.array .double)) (by decide) rfl rfl (g := (mkF m 6 #[.val (.ref a1), .val (.ref a2)] [(.ref a2), (.ref a1)])) rfl rfl (hb hby d1_6)
  have Fw4 := F_keys_a1.same W4
  have K4 : Keep h0 h4 [a1] := (Keep.refl h0 [a1]).wr W4 (Or.inl (List.mem_of_getElem? (i := 0) rfl))
  have N4 := Fr.snoc X4 N0 g_a1
  have Ar_a2_4 := Ar_a2.other W4 n_12
  obtain ⟨T5, h5, k5, X5, e5, E5, A5, st5⟩ := newP X4 hx hZ (hw _ (List.mem_of_getElem? (i := 12) rfl)) e4 (g := (mkF m 12 #[.val (.ref a1), .val (.ref a2)] [(.int (3 : Int32)), (.ref a1)])) rfl (hb hby d1_12) rfl (by decide) (cap := 3) (by decide) (by decide) (by decide) (by decide)
  obtain ⟨b5, g5⟩ : ∃ z, z = h4.size := ⟨_, rfl⟩
  rw [← g5] at A5 st5
  have V_b5 := Arv.new A5 (by decide)
  have g_b5 : n0 ≤ b5 := Nat.le_trans (Nat.le_trans Z0 (Keep.of_wr W4).1) (Nat.le_of_eq g5.symm)
  have sz_b5 : h0.size ≤ b5 := (Nat.le_trans K4.1 (Nat.le_of_eq g5.symm))
  have K5 : Keep h0 h5 [a1] := K4.ext E5
  obtain ⟨T6, h6, X6, e6, W6, st6⟩ := putF X5 hx hZ hown (host := "") (Or.inl (hw _ (List.mem_of_getElem? (i := 13) rfl))) Via.refl e5 ((F_heap_a1.other W4 (Or.inr (slot_ne (Or.inr (hw _ (List.mem_of_getElem? (i := 14) rfl))) (Or.inr (hw _ (List.mem_of_getElem? (i := 11) rfl))) (by decide) (t := (.array .int)) (t' := (.array .double)) (by decide) (by decide)))).ext E5) ((E_a1.wr W4).ext E5) (Or.inr ⟨(hw _ (List.mem_of_getElem? (i := 14) rfl)), rfl, hnm⟩) (hw _ (List.mem_of_getElem? (i := 2) rfl)) (ty := (.array .int)) (by decide) rfl rfl (g := (mkF m 14 #[.val (.ref a1), .val (.ref a2)] [(.ref b5), (.ref a1)])) rfl rfl (hb hby d1_14)
  have Fw6 := ((F_heap_a1.other W4 (Or.inr (slot_ne (Or.inr (hw _ (List.mem_of_getElem? (i := 14) rfl))) (Or.inr (hw _ (List.mem_of_getElem? (i := 11) rfl))) (by decide) (t := (.array .int)) (t' := (.array .double)) (by decide) (by decide)))).ext E5).same W6
  have K6 : Keep h0 h6 [a1] := K5.wr W6 (Or.inl (List.mem_of_getElem? (i := 0) rfl))
  have N6 := Fr.snoc X6 N4 g_a1
  have Ar_a2_6 := (Ar_a2_4.ext E5).other W6 n_12
  obtain ⟨T7, h7, k7, X7, e7, E7, A7, st7⟩ := newP X6 hx hZ (hw _ (List.mem_of_getElem? (i := 12) rfl)) e6 (g := (mkF m 20 #[.val (.ref a1), .val (.ref a2)] [(.int (3 : Int32)), (.ref a1)])) rfl (hb hby d1_20) rfl (by decide) (cap := 3) (by decide) (by decide) (by decide) (by decide)
  obtain ⟨b7, g7⟩ : ∃ z, z = h6.size := ⟨_, rfl⟩
  rw [← g7] at A7 st7
  have V_b7 := Arv.new A7 (by decide)
  have g_b7 : n0 ≤ b7 := Nat.le_trans (Nat.le_trans (Nat.le_trans (Nat.le_trans Z0 (Keep.of_wr W4).1) E5.1) (Keep.of_wr W6).1) (Nat.le_of_eq g7.symm)
  have sz_b7 : h0.size ≤ b7 := (Nat.le_trans K6.1 (Nat.le_of_eq g7.symm))
  have K7 : Keep h0 h7 [a1] := K6.ext E7
  obtain ⟨T8, h8, X8, e8, W8, st8⟩ := putF X7 hx hZ hown (host := "") (Or.inl (hw _ (List.mem_of_getElem? (i := 15) rfl))) Via.refl e7 ((((F_place_a1.other W4 (Or.inr (slot_ne (Or.inr (hw _ (List.mem_of_getElem? (i := 16) rfl))) (Or.inr (hw _ (List.mem_of_getElem? (i := 11) rfl))) (by decide) (t := (.array .int)) (t' := (.array .double)) (by decide) (by decide)))).ext E5).other W6 (Or.inr (slot_ne (Or.inr (hw _ (List.mem_of_getElem? (i := 16) rfl))) (Or.inr (hw _ (List.mem_of_getElem? (i := 14) rfl))) (by decide) (t := (.array .int)) (t' := (.array .int)) (by decide) (by decide)))).ext E7) ((((E_a1.wr W4).ext E5).wr W6).ext E7) (Or.inr ⟨(hw _ (List.mem_of_getElem? (i := 16) rfl)), rfl, hnm⟩) (hw _ (List.mem_of_getElem? (i := 2) rfl)) (ty := (.array .int)) (by decide) rfl rfl (g := (mkF m 22 #[.val (.ref a1), .val (.ref a2)] [(.ref b7), (.ref a1)])) rfl rfl (hb hby d1_22)
  have Fw8 := ((((F_place_a1.other W4 (Or.inr (slot_ne (Or.inr (hw _ (List.mem_of_getElem? (i := 16) rfl))) (Or.inr (hw _ (List.mem_of_getElem? (i := 11) rfl))) (by decide) (t := (.array .int)) (t' := (.array .double)) (by decide) (by decide)))).ext E5).other W6 (Or.inr (slot_ne (Or.inr (hw _ (List.mem_of_getElem? (i := 16) rfl))) (Or.inr (hw _ (List.mem_of_getElem? (i := 14) rfl))) (by decide) (t := (.array .int)) (t' := (.array .int)) (by decide) (by decide)))).ext E7).same W8
  have K8 : Keep h0 h8 [a1] := K7.wr W8 (Or.inl (List.mem_of_getElem? (i := 0) rfl))
  have N8 := Fr.snoc X8 N6 g_a1
  have n_b5 : b5 ≠ a1 := fun q => Nat.lt_irrefl _ (Nat.lt_of_lt_of_le E_a1.lt (q ▸ sz_b5))
  have n_b7 : b7 ≠ a1 := fun q => Nat.lt_irrefl _ (Nat.lt_of_lt_of_le E_a1.lt (q ▸ sz_b7))
  have n_57 : b5 ≠ b7 := fun q => Nat.lt_irrefl _ (Nat.lt_of_lt_of_le ((V_b5.other W6 n_b5).lt) (q ▸ Nat.le_of_eq g7.symm))
  have n_72 : b7 ≠ a2 := fun q => Nat.lt_irrefl _ (Nat.lt_of_lt_of_le Ar_a2.lt (q ▸ sz_b7))
  have n_52 : b5 ≠ a2 := fun q => Nat.lt_irrefl _ (Nat.lt_of_lt_of_le Ar_a2.lt (q ▸ sz_b5))
  have I5 : own_I Z h8 b5 (fun _ => 0) := (((own_new V_b5).other W6 n_b5).ext E7).other W8 n_b5
  have I8 : own_I Z h8 b7 (fun _ => 0) := (own_new V_b7).other W8 n_b7
  have D8 : own_D Z h8 a2 ky := ((((DD.other W4 n_12).ext E5).other W6 n_12).ext E7).other W8 n_12
  have Fs8 : Fld Z h8 a1 "com/example/slotweave/slotweave/alloc/NodeHeap" "size" "I" (.int (0 : Int32)) := ((((F_size_a1.other W4 (Or.inr (slot_ne (Or.inl (hw _ (List.mem_of_getElem? (i := 27) rfl))) (Or.inr (hw _ (List.mem_of_getElem? (i := 11) rfl))) (by decide) (t := .int) (t' := (.array .double)) (by decide) (by decide)))).ext E5).other W6 (Or.inr (slot_ne (Or.inl (hw _ (List.mem_of_getElem? (i := 27) rfl))) (Or.inr (hw _ (List.mem_of_getElem? (i := 14) rfl))) (by decide) (t := .int) (t' := (.array .int)) (by decide) (by decide)))).ext E7).other W8 (Or.inr (slot_ne (Or.inl (hw _ (List.mem_of_getElem? (i := 27) rfl))) (Or.inr (hw _ (List.mem_of_getElem? (i := 16) rfl))) (by decide) (t := .int) (t' := (.array .int)) (by decide) (by decide)))
  have Fk8 : Fld Z h8 a1 "com/example/slotweave/slotweave/alloc/NodeHeap" "keys" "[D" (.ref a2) := (((Fw4.ext E5).other W6 (Or.inr (slot_ne (Or.inr (hw _ (List.mem_of_getElem? (i := 11) rfl))) (Or.inr (hw _ (List.mem_of_getElem? (i := 14) rfl))) (by decide) (t := (.array .double)) (t' := (.array .int)) (by decide) (by decide)))).ext E7).other W8 (Or.inr (slot_ne (Or.inr (hw _ (List.mem_of_getElem? (i := 11) rfl))) (Or.inr (hw _ (List.mem_of_getElem? (i := 16) rfl))) (by decide) (t := (.array .double)) (t' := (.array .int)) (by decide) (by decide)))
  have Fh8 : Fld Z h8 a1 "com/example/slotweave/slotweave/alloc/NodeHeap" "heap" "[I" (.ref b5) := (Fw6.ext E7).other W8 (Or.inr (slot_ne (Or.inr (hw _ (List.mem_of_getElem? (i := 14) rfl))) (Or.inr (hw _ (List.mem_of_getElem? (i := 16) rfl))) (by decide) (t := (.array .int)) (t' := (.array .int)) (by decide) (by decide)))
  obtain ⟨T9, X9, e9, st9⟩ := getF X8 hx hZ hown (host := "") (Or.inl (hw _ (List.mem_of_getElem? (i := 15) rfl))) Via.refl e8 Fw8 (g := (mkF m 26 #[.val (.ref a1), .val (.ref a2)] [(.ref a1)])) rfl rfl (hb hby d1_26)
  obtain ⟨_, _, ⟨T10, L10, k10, n10⟩, -, X10, ⟨Lc10, hQ10, l10, y10, z10⟩, st10⟩ := Jvm.LawKit.callS X9 hx (y := (⟨"java/util/Arrays", "fill", "([II)V"⟩ : MethodName)) hown (mvT hZ (hw _ (List.mem_of_getElem? (i := 17) rfl))) (mvT hZ (hw _ (List.mem_of_getElem? (i := 18) rfl))) (mvT hZ (hw _ (List.mem_of_getElem? (i := 19) rfl))) (mvT hZ (hw _ (List.mem_of_getElem? (i := 20) rfl))) (by decide) (backOf (W := 0) (rm3 l Z a0 hw [] b7 (-1 : Int32) (fun _ => 0) h8 n0 (Nat.le_trans Z0 K8.1) I8 g_b7) hZ (hw _ (List.mem_of_getElem? (i := 20) rfl)) (hw _ (List.mem_of_getElem? (i := 19) rfl)) (by decide) (by decide)) (g := (mkF m 30 #[.val (.ref a1), .val (.ref a2)] [(.int (-1 : Int32)), (.ref b7)])) rfl (by rw [hml]; rfl) (argsL := [(.ref b7), (.int (-1 : Int32))]) (rest := []) (lenOf pd_1_2 rfl) rfl (by show 2 * 0 + _ ≤ _; exact Nat.le_of_eq rfl) (hb hby d1_30) (fun _ _ => ⟨rfl, e9, (by decide : 2 + 0 ≤ _), (by decide : 6 + 0 ≤ _)⟩)
  dsimp only [Pt.U, Pt.locs, Pt.cells, Pt.slots] at X10 l10 y10 z10 st10 hQ10
  subst l10 y10 z10
  obtain ⟨rfl, N10q, Kc, Ic⟩ := hQ10
  have N10 := Fr.app N8 N10q
  obtain ⟨fs, hr, hrun, hended, hW, hsame⟩ := X10.leave (v := none) (fun _ => rfl)
  refine ⟨_, _, pre0 _ ?_, hrun, hended, _, _, rfl, ?_, ⟨_, rfl⟩, hW, hsame.mono (by decide) (by decide)⟩
  · show Steps p.tables e below (s₁.setTop (mkF m 0 #[.val (.ref a1), .val (.ref a2)] [])) _
    refine XS.aloadN X0.here hx rfl (hb hby d1_0) rfl rfl ?_
    show Steps p.tables e below (s₁.setTop (mkF m 1 #[.val (.ref a1), .val (.ref a2)] [(.ref a1)])) _
    refine st3 _ ?_
    show Steps p.tables e below (T3.setTop (mkF m 4 #[.val (.ref a1), .val (.ref a2)] [])) _
    refine XS.aloadN X3.here hx rfl (hb hby d1_4) rfl rfl ?_
    show Steps p.tables e below (T3.setTop (mkF m 5 #[.val (.ref a1), .val (.ref a2)] [(.ref a1)])) _
    refine XS.aloadN X3.here hx rfl (hb hby d1_5) rfl rfl ?_
    show Steps p.tables e below (T3.setTop (mkF m 6 #[.val (.ref a1), .val (.ref a2)] [(.ref a2), (.ref a1)])) _
    refine st4 _ ?_
    show Steps p.tables e below (T4.setTop (mkF m 9 #[.val (.ref a1), .val (.ref a2)] [])) _
    refine XS.aloadN X4.here hx rfl (hb hby d1_9) rfl rfl ?_
    show Steps p.tables e below (T4.setTop (mkF m 10 #[.val (.ref a1), .val (.ref a2)] [(.ref a1)])) _
    refine XS.aloadN X4.here hx rfl (hb hby d1_10) rfl rfl ?_
    show Steps p.tables e below (T4.setTop (mkF m 11 #[.val (.ref a1), .val (.ref a2)] [(.ref a2), (.ref a1)])) _
    refine X4.arraylength hx (by rw [e4]; exact Ar_a2_4.1) (State.isArrayOf_alike hZ.alike Ar_a2_4.2.1) (g := (mkF m 11 #[.val (.ref a1), .val (.ref a2)] [(.ref a2), (.ref a1)])) rfl rfl (hb hby d1_11) _ ?_
    rw [len_of S_a2 N_a2]
    show Steps p.tables e below (T4.setTop (mkF m 12 #[.val (.ref a1), .val (.ref a2)] [(.int (3 : Int32)), (.ref a1)])) _
    refine st5 _ ?_
    show Steps p.tables e below (T5.setTop (mkF m 14 #[.val (.ref a1), .val (.ref a2)] [(.ref b5), (.ref a1)])) _
    refine st6 _ ?_
    show Steps p.tables e below (T6.setTop (mkF m 17 #[.val (.ref a1), .val (.ref a2)] [])) _
    refine XS.aloadN X6.here hx rfl (hb hby d1_17) rfl rfl ?_
    show Steps p.tables e below (T6.setTop (mkF m 18 #[.val (.ref a1), .val (.ref a2)] [(.ref a1)])) _
    refine XS.aloadN X6.here hx rfl (hb hby d1_18) rfl rfl ?_
    show Steps p.tables e below (T6.setTop (mkF m 19 #[.val (.ref a1), .val (.ref a2)] [(.ref a2), (.ref a1)])) _
    refine X6.arraylength hx (by rw [e6]; exact Ar_a2_6.1) (State.isArrayOf_alike hZ.alike Ar_a2_6.2.1) (g := (mkF m 19 #[.val (.ref a1), .val (.ref a2)] [(.ref a2), (.ref a1)])) rfl rfl (hb hby d1_19) _ ?_
    rw [len_of S_a2 N_a2]
    show Steps p.tables e below (T6.setTop (mkF m 20 #[.val (.ref a1), .val (.ref a2)] [(.int (3 : Int32)), (.ref a1)])) _
    refine st7 _ ?_
    show Steps p.tables e below (T7.setTop (mkF m 22 #[.val (.ref a1), .val (.ref a2)] [(.ref b7), (.ref a1)])) _
    refine st8 _ ?_
    show Steps p.tables e below (T8.setTop (mkF m 25 #[.val (.ref a1), .val (.ref a2)] [])) _
    refine XS.aloadN X8.here hx rfl (hb hby d1_25) rfl rfl ?_
    show Steps p.tables e below (T8.setTop (mkF m 26 #[.val (.ref a1), .val (.ref a2)] [(.ref a1)])) _
    refine st9 _ ?_
    show Steps p.tables e below (T9.setTop (mkF m 29 #[.val (.ref a1), .val (.ref a2)] [(.ref b7)])) _
    refine XS.iconst X9.here hx rfl (hb hby d1_29) ?_
    show Steps p.tables e below (T9.setTop (mkF m 30 #[.val (.ref a1), .val (.ref a2)] [(.int (-1 : Int32)), (.ref b7)])) _
    refine st10 _ ?_
    show Steps p.tables e below (T10.setTop (mkF m 33 #[.val (.ref a1), .val (.ref a2)] [])) _
    exact X10.returnOut hx Bd.returns (hb hby d1_33) hr
  · show Q1 Z a1 a2 ky h0 n0 _ T10.heap _
    have q7 : ∀ x : Addr, x ≠ b7 → x ∉ [b7] := fun x hx => ninS hx nin0
    exact ⟨b5, b7, rfl, N10, K8.trans Kc (allS (Or.inr sz_b7) all0), ⟨((((((E_a1.wr W4).ext E5).wr W6).ext E7).wr W8).keep Kc), Fk8.keep Kc (q7 _ n_b7.symm), Fh8.keep Kc (q7 _ n_b7.symm), Fw8.keep Kc (q7 _ n_b7.symm), Fs8.keep Kc (q7 _ n_b7.symm), D8.keep Kc (q7 _ n_72.symm), I5.keep Kc (q7 _ n_57), Ic⟩, sz_b5, sz_b7, n_57⟩
def own_m (x : Int32) : Int32 := (x &&& (2147483647 : Int32)) - ((x &&& (2147483647 : Int32)) / (3 : Int32)) * (3 : Int32)
theorem own_mv (x : Int32) : own_v (own_m x) := by
  have h0 : 0 ≤ (x &&& (2147483647 : Int32)).toInt := by rw [c_mask x 2147483647 31 (by decide) (by decide)]; exact Int.emod_nonneg _ (by decide)
  have e : own_m x = (x &&& (2147483647 : Int32)) % 3 := irem_eq_mod _ _
  have t : (own_m x).toInt = (x &&& (2147483647 : Int32)).toInt.tmod 3 := by rw [e]; exact Int32.toInt_mod _ _
  rw [Int.tmod_eq_emod_of_nonneg h0] at t
  have l0 := Int.emod_nonneg (x &&& (2147483647 : Int32)).toInt (show (3 : Int) ≠ 0 by decide)
  have l1 := Int.emod_lt_of_pos (x &&& (2147483647 : Int32)).toInt (show (0 : Int) < 3 by decide)
  have c : (own_m x).toInt = 0 ∨ (own_m x).toInt = 1 ∨ (own_m x).toInt = 2 := by omega
  rcases c with c | c | c
  · exact Or.inl (Int32.toInt_inj.mp c)
  · exact Or.inr (Or.inl (Int32.toInt_inj.mp c))
  · exact Or.inr (Or.inr (Int32.toInt_inj.mp c))
theorem own_b53 (x : Int32) : B53 x.toInt64 := by
  have e : x.toInt64.toInt = x.toInt := Int32.toInt_toInt64 x
  have r := rng32 x
  unfold B53; rw [e]; omega
theorem own_anti {a b : Int64} (h : (0 : Int32) < lcmpW a b) : ¬ (0 : Int32) < lcmpW b a := by
  unfold lcmpW at *
  by_cases c1 : a > b
  · have c2 : ¬ b > a := fun q => by
      have c1 : b < a := c1
      have q : a < b := q
      rw [Int64.lt_iff_toInt_lt] at c1 q; omega
    have c3 : ¬ b = a := fun q => by
      have c1 : b < a := c1
      rw [Int64.lt_iff_toInt_lt, q] at c1; omega
    rw [if_neg c2, if_neg c3]; decide
  · rw [if_neg c1] at h
    by_cases c2 : a = b
    · rw [if_pos c2] at h; exact absurd h (by decide)
    · rw [if_neg c2] at h; exact absurd h (by decide)
theorem own_low {sz x : Int32} {ky : Int32 → Int64} {fh gp : Int32 → Int32} (I : own_inv sz fh gp) (hx : own_v x) (hg : gp x = -1) (hs : own_v sz) :
    own_inv (sz + 1) (own_suf ky fh x sz) (own_sug ky fh gp x sz) ∧ ∀ n, own_v n → n ≠ x → gp n = -1 → own_sug ky fh gp x sz n = -1 := by
  obtain ⟨-, I2, I3⟩ := I
  have lt1 : ∀ i, own_v i → i < sz + 1 → i < sz ∨ i = sz := by
    intro i hi h; rcases hi with rfl | rfl | rfl <;> rcases hs with rfl | rfl | rfl <;> revert h <;> decide
  have lt2 : ∀ i, own_v i → i < sz → i < sz + 1 := by
    intro i hi h; rcases hi with rfl | rfl | rfl <;> rcases hs with rfl | rfl | rfl <;> revert h <;> decide
  have lt3 : sz < sz + 1 := by rcases hs with rfl | rfl | rfl <;> decide
  have ir : ∀ i, own_v i → i < sz → i ≠ sz := by
    intro i hi h q; subst q; rcases hi with rfl | rfl | rfl <;> exact absurd h (by decide)
  have hsz : sz + 1 = 0 ∨ sz + 1 = 1 ∨ sz + 1 = 2 ∨ sz + 1 = 3 := by rcases hs with rfl | rfl | rfl <;> decide
  have nm : ∀ i, own_v i → i ≠ -1 := by intro i hi; rcases hi with rfl | rfl | rfl <;> decide
  have ne : ∀ i, own_v i → i < sz → fh i ≠ x := fun i hi h q => nm i hi (by rw [← (I2 i hi h).2, q, hg])
  by_cases sw : (0 : Int32) < sz ∧ (0 : Int32) < lcmpW (ky (fh 0)) (ky x)
  · have r0 := I2 0 own_v0 sw.1
    have rx : fh 0 ≠ x := ne 0 own_v0 sw.1
    have s0 : sz ≠ 0 := fun q => by rw [q] at sw; exact absurd sw.1 (by decide)
    have z1 : (0 : Int32) < sz + 1 := lt2 0 own_v0 sw.1
    unfold own_suf own_sug
    rw [if_pos sw, if_pos sw]
    refine ⟨⟨hsz, fun i hi h => ?_, fun n hn => ?_⟩, fun n hn h1 h2 => ?_⟩
    · by_cases i0 : i = 0
      · rw [i0, own_up_s, own_up_s]; exact ⟨hx, rfl⟩
      · rw [own_up_o i0]
        rcases lt1 i hi h with h' | h'
        · rw [own_up_o (ir i hi h')]
          have q := I2 i hi h'
          rw [own_up_o (ne i hi h'), own_up_o (fun z => i0 (by rw [← q.2, z, r0.2]))]
          exact q
        · rw [h', own_up_s, own_up_o rx, own_up_s]; exact ⟨r0.1, rfl⟩
    · by_cases n1 : n = x
      · rw [n1, own_up_s, own_up_s]; exact Or.inr ⟨own_v0, z1, rfl⟩
      · rw [own_up_o n1]
        by_cases n2 : n = fh 0
        · rw [n2, own_up_s, own_up_o s0, own_up_s]; exact Or.inr ⟨hs, lt3, rfl⟩
        · rw [own_up_o n2]
          rcases I3 n hn with q | ⟨q1, q2, q3⟩
          · exact Or.inl q
          · refine Or.inr ⟨q1, lt2 _ q1 q2, ?_⟩
            rw [own_up_o (fun z => n2 (by rw [← q3, z])), own_up_o (ir _ q1 q2)]; exact q3
    · rw [own_up_o h1, own_up_o (fun z => nm 0 own_v0 (by rw [← r0.2, ← z, h2]))]; exact h2
  · unfold own_suf own_sug
    rw [if_neg sw, if_neg sw]
    refine ⟨⟨hsz, fun i hi h => ?_, fun n hn => ?_⟩, fun n hn h1 h2 => ?_⟩
    · rcases lt1 i hi h with h' | h'
      · rw [own_up_o (ir i hi h'), own_up_o (ne i hi h')]; exact I2 i hi h'
      · rw [h', own_up_s, own_up_s]; exact ⟨hx, rfl⟩
    · by_cases n1 : n = x
      · rw [n1, own_up_s, own_up_s]; exact Or.inr ⟨hs, lt3, rfl⟩
      · rw [own_up_o n1]
        rcases I3 n hn with q | ⟨q1, q2, q3⟩
        · exact Or.inl q
        · refine Or.inr ⟨q1, lt2 _ q1 q2, ?_⟩
          rw [own_up_o (ir _ q1 q2)]; exact q3
    · rw [own_up_o h1]; exact h2
def own_st (k sz : Int32) (fh gp : Int32 → Int32) : Prop := own_inv sz fh gp ∧ ¬ k < sz ∧ ∀ n, own_v n → ¬ n < k → gp n = -1
theorem own_st0 : own_st 0 0 (fun _ => 0) (fun _ => -1) := ⟨⟨Or.inl rfl, fun i hi h => by rcases hi with rfl | rfl | rfl <;> exact absurd h (by decide), fun _ _ => Or.inl rfl⟩, by decide, fun _ _ _ => rfl⟩
theorem own_stv {k sz : Int32} {fh gp : Int32 → Int32} (hk : own_v k) (S : own_st k sz fh gp) : own_v sz := by
  have h := S.2.1
  rcases S.1.1 with rfl | rfl | rfl | rfl
  · exact own_v0
  · exact own_v1
  · exact own_v2
  · rcases hk with rfl | rfl | rfl <;> exact absurd h (by decide)
theorem own_sts {k k' sz : Int32} {fh gp : Int32 → Int32} (hk : own_v k) (e : k + 1 = k') (S : own_st k sz fh gp) : own_st k' sz fh gp := by
  subst e
  refine ⟨S.1, ?_, fun n hn h => S.2.2 n hn ?_⟩
  · have h := S.2.1; have hv := own_stv hk S
    rcases hk with rfl | rfl | rfl <;> rcases hv with rfl | rfl | rfl <;> revert h <;> decide
  · rcases hk with rfl | rfl | rfl <;> rcases hn with rfl | rfl | rfl <;> revert h <;> decide
theorem own_stl {k k' sz : Int32} {ky : Int32 → Int64} {fh gp : Int32 → Int32} (hk : own_v k) (e : k + 1 = k') (S : own_st k sz fh gp) :
    own_li gp sz k = sz ∧ own_ls gp sz k = sz + 1 ∧ own_st k' (sz + 1) (own_suf ky fh k sz) (own_sug ky fh gp k sz) := by
  have hv := own_stv hk S
  have hg : gp k = -1 := S.2.2 k hk (by rcases hk with rfl | rfl | rfl <;> decide)
  have hneg : gp k < (0 : Int32) := by rw [hg]; decide
  have L := own_low (ky := ky) S.1 hk hg hv
  refine ⟨if_pos hneg, if_pos hneg, L.1, ?_, fun n hn h => L.2 n hn ?_ ?_⟩
  · subst e; have h := S.2.1
    rcases hk with rfl | rfl | rfl <;> rcases hv with rfl | rfl | rfl <;> revert h <;> decide
  · subst e; rintro rfl; rcases hk with rfl | rfl | rfl <;> exact absurd (by decide) h
  · refine S.2.2 n hn ?_
    subst e
    rcases hk with rfl | rfl | rfl <;> rcases hn with rfl | rfl | rfl <;> revert h <;> decide
theorem own_A {a : Int32} {ky : Int32 → Int64} {fh gq : Int32 → Int32} (hg : ∀ n, own_v n → gq n = -1) (va : own_v a) : own_li gq 0 a = 0 ∧ own_ls gq 0 a = 1 ∧ own_suf ky fh a 0 = own_up fh 0 a ∧ own_sug ky fh gq a 0 = own_up gq a 0 := by
  have hneg : gq a < (0 : Int32) := by rw [hg a va]; decide
  exact ⟨if_pos hneg, if_pos hneg, if_neg (fun q => absurd q.1 (by decide)), if_neg (fun q => absurd q.1 (by decide))⟩
theorem own_BE {a b : Int32} {ky : Int32 → Int64} {fh gq : Int32 → Int32} (h : a = b) : own_li (own_up gq a 0) 1 b = 0 ∧ own_ls (own_up gq a 0) 1 b = 1 ∧ (own_suf ky (own_up fh 0 a) b 0) 0 = a := by
  subst h
  have hneg : ¬ own_up gq a 0 a < (0 : Int32) := by rw [own_up_s]; decide
  refine ⟨(if_neg hneg).trans own_up_s, if_neg hneg, ?_⟩
  unfold own_suf; rw [if_neg (fun q => absurd q.1 (by decide)), own_up_s]
theorem own_BN {a b : Int32} {fh gq : Int32 → Int32} (hg : ∀ n, own_v n → gq n = -1) (vb : own_v b) (h : ¬ a = b) : own_li (own_up gq a 0) 1 b = 1 ∧ own_ls (own_up gq a 0) 1 b = 2 := by
  have hneg : own_up gq a 0 b < (0 : Int32) := by rw [own_up_o (fun q => h q.symm), hg b vb]; decide
  exact ⟨if_pos hneg, if_pos hneg⟩
theorem own_N1 {a b : Int32} {ky : Int32 → Int64} {fh : Int32 → Int32} (h : ¬ (0 : Int32) < lcmpW (ky a) (ky b)) : (own_suf ky (own_up fh 0 a) b 1) 0 = a ∧ (own_suf ky (own_up fh 0 a) b 1) 1 = b := by
  unfold own_suf; rw [own_up_s, if_neg (fun q => h q.2)]
  exact ⟨by rw [own_up_o (by decide), own_up_s], own_up_s⟩
theorem own_N2 {a b : Int32} {ky : Int32 → Int64} {fh : Int32 → Int32} (h : (0 : Int32) < lcmpW (ky a) (ky b)) : (own_suf ky (own_up fh 0 a) b 1) 0 = b ∧ (own_suf ky (own_up fh 0 a) b 1) 1 = a := by
  unfold own_suf; rw [own_up_s, if_pos ⟨by decide, h⟩]
  exact ⟨own_up_s, by rw [own_up_o (by decide), own_up_s]⟩
set_option maxRecDepth 65536 in
set_option maxHeartbeats 40000000 in
theorem own_s0 {p : Program} {l : Launch} {e : Env} {s : State} {m : MethodId} {args : Array Value} {below : List Frame} {meth : Method} {c : Code} {T0 : State} {locs : List Loc} {Z : State} {a0 : Array Value} {h0 : Heap} (s0 : Slot) (s1 : Slot) (s2 : Slot) (i3 : Int32) (s4 : Slot) (s5 : Slot) (s6 : Slot) (s7 : Slot) (s8 : Slot) (s9 : Slot) (s10 : Slot) (s11 : Slot) (s12 : Slot)
    (X0 : Stand p l e room_1 s m args below meth c T0 locs 4 13) (hx : p.tables.exec = Jvm.exec) (hZ : Z.Warmed39 s.vm) (hw : ∀ d ∈ tables_1, d.before a0 Z = true) (hby : c.code = code) (hml : c.maxLocals = 13) (hown : s.vm.findClass "com/example/slotweave/slotweave/alloc/NodeHeapClearPinLaw" = some m.cls) (e0 : T0.heap = h0) (hc46 : (i3 &&& (1 : Int32)) = (0 : Int32)) :
    ∃ (T' : State), Stand p l e room_1 s m args below meth c T' locs 4 13 ∧ T'.heap = h0 ∧
      ∀ target, Steps p.tables e below (T'.setTop (mkF m 55 #[s0, s1, s2, .val (.int i3), s4, s5, s6, s7, s8, s9, s10, s11, s12] [])) target → Steps p.tables e below (T0.setTop (mkF m 43 #[s0, s1, s2, .val (.int i3), s4, s5, s6, s7, s8, s9, s10, s11, s12] [])) target := by

  refine ⟨T0, X0, e0, fun target kt => ?_⟩
  show Steps p.tables e below (T0.setTop (mkF m 43 #[s0, s1, s2, .val (.int i3), s4, s5, s6, s7, s8, s9, s10, s11, s12] [])) _
  refine XS.iloadN X0.here hx rfl (hb hby at_43) rfl ?_
  show Steps p.tables e below (T0.setTop (mkF m 44 #[s0, s1, s2, .val (.int i3), s4, s5, s6, s7, s8, s9, s10, s11, s12] [(.int i3)])) _
  refine XS.iconst X0.here hx rfl (hb hby at_44) ?_
  show Steps p.tables e below (T0.setTop (mkF m 45 #[s0, s1, s2, .val (.int i3), s4, s5, s6, s7, s8, s9, s10, s11, s12] [(.int (1 : Int32)), (.int i3)])) _
  refine XS.iand X0.here hx rfl (hb hby at_45) rfl ?_
  show Steps p.tables e below (T0.setTop (mkF m 46 #[s0, s1, s2, .val (.int i3), s4, s5, s6, s7, s8, s9, s10, s11, s12] [(.int (i3 &&& (1 : Int32)))])) _
  refine XS.ifYes X0.here hx rfl (pc0 := 46) (pc' := 55) rfl (hb hby at_46) rfl ((if0 _ _).trans (teq hc46).1) (by decide) (by decide) ?_
  exact kt
theorem pd_0_3 : parseMethodDescriptor "(I)V" = some ⟨[.int], none⟩ := by decide +kernel
set_option maxRecDepth 65536 in
set_option maxHeartbeats 40000000 in
theorem own_l0 {p : Program} {l : Launch} {e : Env} {s : State} {m : MethodId} {args : Array Value} {below : List Frame} {meth : Method} {c : Code} {T0 : State} {locs : List Loc} {Z : State} {a0 : Array Value} {h0 : Heap} {n0 : Nat} (s0 s1 s2 : Slot) (i3 : Int32) (s4 s5 s6 : Slot) (o7 : Addr) (s8 s9 s10 s11 s12 : Slot) (kk qq ww : Addr) (sz : Int32) (ky : Int32 → Int64) (fh gp : Int32 → Int32)
    (X0 : Stand p l e room_1 s m args below meth c T0 locs 4 13) (hx : p.tables.exec = Jvm.exec) (hZ : Z.Warmed39 s.vm) (hw : ∀ d ∈ tables_1, d.before a0 Z = true) (hby : c.code = code) (hml : c.maxLocals = 13) (hown : s.vm.findClass "com/example/slotweave/slotweave/alloc/NodeHeapClearPinLaw" = some m.cls) (e0 : T0.heap = h0) (N0 : Fr n0 locs) (Z0 : n0 ≤ h0.size) (H : own_H Z h0 o7 kk qq ww sz ky fh gp) (NN : own_N n0 o7 kk qq ww) (S : own_st 0 sz fh gp) (hc46 : ¬ ((i3 &&& (1 : Int32)) = (0 : Int32))) :
    ∃ (T' : State) (h' : Heap) (L' : List Loc) (sz' : Int32) (fh' gp' : Int32 → Int32), Stand p l e room_1 s m args below meth c T' L' 4 13 ∧ T'.heap = h' ∧ Fr n0 L' ∧ n0 ≤ h'.size ∧ own_H Z h' o7 kk qq ww sz' ky fh' gp' ∧ own_st 1 sz' fh' gp' ∧
      ∀ target, Steps p.tables e below (T'.setTop (mkF m 55 #[s0, s1, s2, .val (.int i3), s4, s5, s6, .val (.ref o7), s8, s9, s10, s11, s12] [])) target → Steps p.tables e below (T0.setTop (mkF m 43 #[s0, s1, s2, .val (.int i3), s4, s5, s6, .val (.ref o7), s8, s9, s10, s11, s12] [])) target := by
  have vs := own_stv own_v0 S
  have L := own_stl (ky := ky) own_v0 (k' := 1) (by decide) S
  have E_o7 := H.1
  obtain ⟨cq7, kq7, q7a, q7b, q7c⟩ := isOf hZ e0 E_o7
  obtain ⟨_, _, ⟨T7, L7, k7, n7⟩, -, X7, ⟨Lc7, hQ7, l7, y7, z7⟩, st7⟩ := X0.virtualBack hx (y := (⟨"com/example/slotweave/slotweave/alloc/NodeHeap", "lowered", "(I)V"⟩ : MethodName)) (z := (⟨"com/example/slotweave/slotweave/alloc/NodeHeap", "lowered", "(I)V"⟩ : MethodName)) hown (mvT hZ (hw _ (List.mem_of_getElem? (i := 21) rfl))) (mvT hZ (hw _ (List.mem_of_getElem? (i := 22) rfl))) (notFace_of_selects (args := #[]) (mvT hZ (hw _ (List.mem_of_getElem? (i := 24) rfl)))) (mvT hZ (hw _ (List.mem_of_getElem? (i := 24) rfl))) (mvT hZ (hw _ (List.mem_of_getElem? (i := 23) rfl))) (by decide) (backOf (W := 0) (rm4 l Z a0 hw [] o7 (0 : Int32) kk qq ww sz ky fh gp h0 n0 Z0 H NN own_v0 (by rw [L.1]; exact vs) (fun q => (S.1.2.1 0 own_v0 (L.1 ▸ q)).1)) hZ (hw _ (List.mem_of_getElem? (i := 25) rfl)) (hw _ (List.mem_of_getElem? (i := 3) rfl)) (by decide) (by decide)) q7a q7c (g := (mkF m 52 #[s0, s1, s2, .val (.int i3), s4, s5, s6, .val (.ref o7), s8, s9, s10, s11, s12] [(.int (0 : Int32)), (.ref o7)])) rfl (by rw [hml]; rfl) (Steps.refl _) (argsL := [(.int (0 : Int32))]) (rest := []) (lenOf pd_0_3 rfl) rfl (by show 2 * 0 + _ ≤ _; exact Nat.le_of_eq rfl) (hb hby at_52) (fun _ _ => ⟨rfl, e0, (by decide : 4 + 0 ≤ 16), (by decide : 13 + 0 ≤ 128)⟩)
  dsimp only [Pt.U, Pt.locs, Pt.cells, Pt.slots] at X7 l7 y7 z7 st7 hQ7
  subst l7 y7 z7
  obtain ⟨rfl, N7q, Kc, Hc⟩ := hQ7
  rw [L.1, L.2.1] at Hc
  have N7 := Fr.app N0 N7q
  refine ⟨T7, _, _, _, _, _, X7, rfl, N7, Nat.le_trans Z0 Kc.1, Hc, L.2.2, fun target kt => ?_⟩
  show Steps p.tables e below (T0.setTop (mkF m 43 #[s0, s1, s2, .val (.int i3), s4, s5, s6, .val (.ref o7), s8, s9, s10, s11, s12] [])) _
  refine XS.iloadN X0.here hx rfl (hb hby at_43) rfl ?_
  show Steps p.tables e below (T0.setTop (mkF m 44 #[s0, s1, s2, .val (.int i3), s4, s5, s6, .val (.ref o7), s8, s9, s10, s11, s12] [(.int i3)])) _
  refine XS.iconst X0.here hx rfl (hb hby at_44) ?_
  show Steps p.tables e below (T0.setTop (mkF m 45 #[s0, s1, s2, .val (.int i3), s4, s5, s6, .val (.ref o7), s8, s9, s10, s11, s12] [(.int (1 : Int32)), (.int i3)])) _
  refine XS.iand X0.here hx rfl (hb hby at_45) rfl ?_
  show Steps p.tables e below (T0.setTop (mkF m 46 #[s0, s1, s2, .val (.int i3), s4, s5, s6, .val (.ref o7), s8, s9, s10, s11, s12] [(.int (i3 &&& (1 : Int32)))])) _
  refine XS.ifNo X0.here hx rfl (hb hby at_46) rfl ((if0 _ _).trans (feq hc46).1) ?_
  show Steps p.tables e below (T0.setTop (mkF m 49 #[s0, s1, s2, .val (.int i3), s4, s5, s6, .val (.ref o7), s8, s9, s10, s11, s12] [])) _
  refine XS.aload X0.here hx rfl (hb hby at_49) rfl rfl ?_
  show Steps p.tables e below (T0.setTop (mkF m 51 #[s0, s1, s2, .val (.int i3), s4, s5, s6, .val (.ref o7), s8, s9, s10, s11, s12] [(.ref o7)])) _
  refine XS.iconst X0.here hx rfl (hb hby at_51) ?_
  show Steps p.tables e below (T0.setTop (mkF m 52 #[s0, s1, s2, .val (.int i3), s4, s5, s6, .val (.ref o7), s8, s9, s10, s11, s12] [(.int (0 : Int32)), (.ref o7)])) _
  refine st7.trans ?_
  exact kt
theorem own_p0 {p : Program} {l : Launch} {e : Env} {s : State} {m : MethodId} {args : Array Value} {below : List Frame} {meth : Method} {c : Code} {T0 : State} {locs : List Loc} {Z : State} {a0 : Array Value} {h0 : Heap} {n0 : Nat} (s0 s1 s2 : Slot) (i3 : Int32) (s4 s5 s6 : Slot) (o7 : Addr) (s8 s9 s10 s11 s12 : Slot) (kk qq ww : Addr) (sz : Int32) (ky : Int32 → Int64) (fh gp : Int32 → Int32) (X0 : Stand p l e room_1 s m args below meth c T0 locs 4 13) (hx : p.tables.exec = Jvm.exec) (hZ : Z.Warmed39 s.vm) (hw : ∀ d ∈ tables_1, d.before a0 Z = true) (hby : c.code = code) (hml : c.maxLocals = 13) (hown : s.vm.findClass "com/example/slotweave/slotweave/alloc/NodeHeapClearPinLaw" = some m.cls) (e0 : T0.heap = h0) (N0 : Fr n0 locs) (Z0 : n0 ≤ h0.size) (H : own_H Z h0 o7 kk qq ww sz ky fh gp) (NN : own_N n0 o7 kk qq ww) (S : own_st 0 sz fh gp) :
    ∃ (T' : State) (h' : Heap) (L' : List Loc) (sz' : Int32) (fh' gp' : Int32 → Int32), Stand p l e room_1 s m args below meth c T' L' 4 13 ∧ T'.heap = h' ∧ Fr n0 L' ∧ n0 ≤ h'.size ∧ own_H Z h' o7 kk qq ww sz' ky fh' gp' ∧ own_st 1 sz' fh' gp' ∧
      ∀ target, Steps p.tables e below (T'.setTop (mkF m 55 #[s0, s1, s2, .val (.int i3), s4, s5, s6, .val (.ref o7), s8, s9, s10, s11, s12] [])) target → Steps p.tables e below (T0.setTop (mkF m 43 #[s0, s1, s2, .val (.int i3), s4, s5, s6, .val (.ref o7), s8, s9, s10, s11, s12] [])) target := by
  by_cases hc : (i3 &&& (1 : Int32)) = (0 : Int32)
  · obtain ⟨T', X', e', st⟩ := own_s0 s0 s1 s2 i3 s4 s5 s6 (.val (.ref o7)) s8 s9 s10 s11 s12 X0 hx hZ hw hby hml hown e0 hc
    exact ⟨T', _, _, sz, fh, gp, X', e', N0, Z0, H, own_sts own_v0 (by decide) S, st⟩
  · exact own_l0 s0 s1 s2 i3 s4 s5 s6 o7 s8 s9 s10 s11 s12 kk qq ww sz ky fh gp X0 hx hZ hw hby hml hown e0 N0 Z0 H NN S hc
set_option maxRecDepth 65536 in
set_option maxHeartbeats 40000000 in
theorem own_s1 {p : Program} {l : Launch} {e : Env} {s : State} {m : MethodId} {args : Array Value} {below : List Frame} {meth : Method} {c : Code} {T0 : State} {locs : List Loc} {Z : State} {a0 : Array Value} {h0 : Heap} (s0 : Slot) (s1 : Slot) (s2 : Slot) (i3 : Int32) (s4 : Slot) (s5 : Slot) (s6 : Slot) (s7 : Slot) (s8 : Slot) (s9 : Slot) (s10 : Slot) (s11 : Slot) (s12 : Slot)
    (X0 : Stand p l e room_1 s m args below meth c T0 locs 4 13) (hx : p.tables.exec = Jvm.exec) (hZ : Z.Warmed39 s.vm) (hw : ∀ d ∈ tables_1, d.before a0 Z = true) (hby : c.code = code) (hml : c.maxLocals = 13) (hown : s.vm.findClass "com/example/slotweave/slotweave/alloc/NodeHeapClearPinLaw" = some m.cls) (e0 : T0.heap = h0) (hc58 : (i3 &&& (2 : Int32)) = (0 : Int32)) :
    ∃ (T' : State), Stand p l e room_1 s m args below meth c T' locs 4 13 ∧ T'.heap = h0 ∧
      ∀ target, Steps p.tables e below (T'.setTop (mkF m 67 #[s0, s1, s2, .val (.int i3), s4, s5, s6, s7, s8, s9, s10, s11, s12] [])) target → Steps p.tables e below (T0.setTop (mkF m 55 #[s0, s1, s2, .val (.int i3), s4, s5, s6, s7, s8, s9, s10, s11, s12] [])) target := by

  refine ⟨T0, X0, e0, fun target kt => ?_⟩
  show Steps p.tables e below (T0.setTop (mkF m 55 #[s0, s1, s2, .val (.int i3), s4, s5, s6, s7, s8, s9, s10, s11, s12] [])) _
  refine XS.iloadN X0.here hx rfl (hb hby at_55) rfl ?_
  show Steps p.tables e below (T0.setTop (mkF m 56 #[s0, s1, s2, .val (.int i3), s4, s5, s6, s7, s8, s9, s10, s11, s12] [(.int i3)])) _
  refine XS.iconst X0.here hx rfl (hb hby at_56) ?_
  show Steps p.tables e below (T0.setTop (mkF m 57 #[s0, s1, s2, .val (.int i3), s4, s5, s6, s7, s8, s9, s10, s11, s12] [(.int (2 : Int32)), (.int i3)])) _
  refine XS.iand X0.here hx rfl (hb hby at_57) rfl ?_
  show Steps p.tables e below (T0.setTop (mkF m 58 #[s0, s1, s2, .val (.int i3), s4, s5, s6, s7, s8, s9, s10, s11, s12] [(.int (i3 &&& (2 : Int32)))])) _
  refine XS.ifYes X0.here hx rfl (pc0 := 58) (pc' := 67) rfl (hb hby at_58) rfl ((if0 _ _).trans (teq hc58).1) (by decide) (by decide) ?_
  exact kt
set_option maxRecDepth 65536 in
set_option maxHeartbeats 40000000 in
theorem own_l1 {p : Program} {l : Launch} {e : Env} {s : State} {m : MethodId} {args : Array Value} {below : List Frame} {meth : Method} {c : Code} {T0 : State} {locs : List Loc} {Z : State} {a0 : Array Value} {h0 : Heap} {n0 : Nat} (s0 s1 s2 : Slot) (i3 : Int32) (s4 s5 s6 : Slot) (o7 : Addr) (s8 s9 s10 s11 s12 : Slot) (kk qq ww : Addr) (sz : Int32) (ky : Int32 → Int64) (fh gp : Int32 → Int32)
    (X0 : Stand p l e room_1 s m args below meth c T0 locs 4 13) (hx : p.tables.exec = Jvm.exec) (hZ : Z.Warmed39 s.vm) (hw : ∀ d ∈ tables_1, d.before a0 Z = true) (hby : c.code = code) (hml : c.maxLocals = 13) (hown : s.vm.findClass "com/example/slotweave/slotweave/alloc/NodeHeapClearPinLaw" = some m.cls) (e0 : T0.heap = h0) (N0 : Fr n0 locs) (Z0 : n0 ≤ h0.size) (H : own_H Z h0 o7 kk qq ww sz ky fh gp) (NN : own_N n0 o7 kk qq ww) (S : own_st 1 sz fh gp) (hc58 : ¬ ((i3 &&& (2 : Int32)) = (0 : Int32))) :
    ∃ (T' : State) (h' : Heap) (L' : List Loc) (sz' : Int32) (fh' gp' : Int32 → Int32), Stand p l e room_1 s m args below meth c T' L' 4 13 ∧ T'.heap = h' ∧ Fr n0 L' ∧ n0 ≤ h'.size ∧ own_H Z h' o7 kk qq ww sz' ky fh' gp' ∧ own_st 2 sz' fh' gp' ∧
      ∀ target, Steps p.tables e below (T'.setTop (mkF m 67 #[s0, s1, s2, .val (.int i3), s4, s5, s6, .val (.ref o7), s8, s9, s10, s11, s12] [])) target → Steps p.tables e below (T0.setTop (mkF m 55 #[s0, s1, s2, .val (.int i3), s4, s5, s6, .val (.ref o7), s8, s9, s10, s11, s12] [])) target := by
  have vs := own_stv own_v1 S
  have L := own_stl (ky := ky) own_v1 (k' := 2) (by decide) S
  have E_o7 := H.1
  obtain ⟨cq7, kq7, q7a, q7b, q7c⟩ := isOf hZ e0 E_o7
  obtain ⟨_, _, ⟨T7, L7, k7, n7⟩, -, X7, ⟨Lc7, hQ7, l7, y7, z7⟩, st7⟩ := X0.virtualBack hx (y := (⟨"com/example/slotweave/slotweave/alloc/NodeHeap", "lowered", "(I)V"⟩ : MethodName)) (z := (⟨"com/example/slotweave/slotweave/alloc/NodeHeap", "lowered", "(I)V"⟩ : MethodName)) hown (mvT hZ (hw _ (List.mem_of_getElem? (i := 21) rfl))) (mvT hZ (hw _ (List.mem_of_getElem? (i := 22) rfl))) (notFace_of_selects (args := #[]) (mvT hZ (hw _ (List.mem_of_getElem? (i := 24) rfl)))) (mvT hZ (hw _ (List.mem_of_getElem? (i := 24) rfl))) (mvT hZ (hw _ (List.mem_of_getElem? (i := 23) rfl))) (by decide) (backOf (W := 0) (rm4 l Z a0 hw [] o7 (1 : Int32) kk qq ww sz ky fh gp h0 n0 Z0 H NN own_v1 (by rw [L.1]; exact vs) (fun q => (S.1.2.1 0 own_v0 (L.1 ▸ q)).1)) hZ (hw _ (List.mem_of_getElem? (i := 25) rfl)) (hw _ (List.mem_of_getElem? (i := 3) rfl)) (by decide) (by decide)) q7a q7c (g := (mkF m 64 #[s0, s1, s2, .val (.int i3), s4, s5, s6, .val (.ref o7), s8, s9, s10, s11, s12] [(.int (1 : Int32)), (.ref o7)])) rfl (by rw [hml]; rfl) (Steps.refl _) (argsL := [(.int (1 : Int32))]) (rest := []) (lenOf pd_0_3 rfl) rfl (by show 2 * 0 + _ ≤ _; exact Nat.le_of_eq rfl) (hb hby at_64) (fun _ _ => ⟨rfl, e0, (by decide : 4 + 0 ≤ 16), (by decide : 13 + 0 ≤ 128)⟩)
  dsimp only [Pt.U, Pt.locs, Pt.cells, Pt.slots] at X7 l7 y7 z7 st7 hQ7
  subst l7 y7 z7
  obtain ⟨rfl, N7q, Kc, Hc⟩ := hQ7
  rw [L.1, L.2.1] at Hc
  have N7 := Fr.app N0 N7q
  refine ⟨T7, _, _, _, _, _, X7, rfl, N7, Nat.le_trans Z0 Kc.1, Hc, L.2.2, fun target kt => ?_⟩
  show Steps p.tables e below (T0.setTop (mkF m 55 #[s0, s1, s2, .val (.int i3), s4, s5, s6, .val (.ref o7), s8, s9, s10, s11, s12] [])) _
  refine XS.iloadN X0.here hx rfl (hb hby at_55) rfl ?_
  show Steps p.tables e below (T0.setTop (mkF m 56 #[s0, s1, s2, .val (.int i3), s4, s5, s6, .val (.ref o7), s8, s9, s10, s11, s12] [(.int i3)])) _
  refine XS.iconst X0.here hx rfl (hb hby at_56) ?_
  show Steps p.tables e below (T0.setTop (mkF m 57 #[s0, s1, s2, .val (.int i3), s4, s5, s6, .val (.ref o7), s8, s9, s10, s11, s12] [(.int (2 : Int32)), (.int i3)])) _
  refine XS.iand X0.here hx rfl (hb hby at_57) rfl ?_
  show Steps p.tables e below (T0.setTop (mkF m 58 #[s0, s1, s2, .val (.int i3), s4, s5, s6, .val (.ref o7), s8, s9, s10, s11, s12] [(.int (i3 &&& (2 : Int32)))])) _
  refine XS.ifNo X0.here hx rfl (hb hby at_58) rfl ((if0 _ _).trans (feq hc58).1) ?_
  show Steps p.tables e below (T0.setTop (mkF m 61 #[s0, s1, s2, .val (.int i3), s4, s5, s6, .val (.ref o7), s8, s9, s10, s11, s12] [])) _
  refine XS.aload X0.here hx rfl (hb hby at_61) rfl rfl ?_
  show Steps p.tables e below (T0.setTop (mkF m 63 #[s0, s1, s2, .val (.int i3), s4, s5, s6, .val (.ref o7), s8, s9, s10, s11, s12] [(.ref o7)])) _
  refine XS.iconst X0.here hx rfl (hb hby at_63) ?_
  show Steps p.tables e below (T0.setTop (mkF m 64 #[s0, s1, s2, .val (.int i3), s4, s5, s6, .val (.ref o7), s8, s9, s10, s11, s12] [(.int (1 : Int32)), (.ref o7)])) _
  refine st7.trans ?_
  exact kt
theorem own_p1 {p : Program} {l : Launch} {e : Env} {s : State} {m : MethodId} {args : Array Value} {below : List Frame} {meth : Method} {c : Code} {T0 : State} {locs : List Loc} {Z : State} {a0 : Array Value} {h0 : Heap} {n0 : Nat} (s0 s1 s2 : Slot) (i3 : Int32) (s4 s5 s6 : Slot) (o7 : Addr) (s8 s9 s10 s11 s12 : Slot) (kk qq ww : Addr) (sz : Int32) (ky : Int32 → Int64) (fh gp : Int32 → Int32) (X0 : Stand p l e room_1 s m args below meth c T0 locs 4 13) (hx : p.tables.exec = Jvm.exec) (hZ : Z.Warmed39 s.vm) (hw : ∀ d ∈ tables_1, d.before a0 Z = true) (hby : c.code = code) (hml : c.maxLocals = 13) (hown : s.vm.findClass "com/example/slotweave/slotweave/alloc/NodeHeapClearPinLaw" = some m.cls) (e0 : T0.heap = h0) (N0 : Fr n0 locs) (Z0 : n0 ≤ h0.size) (H : own_H Z h0 o7 kk qq ww sz ky fh gp) (NN : own_N n0 o7 kk qq ww) (S : own_st 1 sz fh gp) :
    ∃ (T' : State) (h' : Heap) (L' : List Loc) (sz' : Int32) (fh' gp' : Int32 → Int32), Stand p l e room_1 s m args below meth c T' L' 4 13 ∧ T'.heap = h' ∧ Fr n0 L' ∧ n0 ≤ h'.size ∧ own_H Z h' o7 kk qq ww sz' ky fh' gp' ∧ own_st 2 sz' fh' gp' ∧
      ∀ target, Steps p.tables e below (T'.setTop (mkF m 67 #[s0, s1, s2, .val (.int i3), s4, s5, s6, .val (.ref o7), s8, s9, s10, s11, s12] [])) target → Steps p.tables e below (T0.setTop (mkF m 55 #[s0, s1, s2, .val (.int i3), s4, s5, s6, .val (.ref o7), s8, s9, s10, s11, s12] [])) target := by
  by_cases hc : (i3 &&& (2 : Int32)) = (0 : Int32)
  · obtain ⟨T', X', e', st⟩ := own_s1 s0 s1 s2 i3 s4 s5 s6 (.val (.ref o7)) s8 s9 s10 s11 s12 X0 hx hZ hw hby hml hown e0 hc
    exact ⟨T', _, _, sz, fh, gp, X', e', N0, Z0, H, own_sts own_v1 (by decide) S, st⟩
  · exact own_l1 s0 s1 s2 i3 s4 s5 s6 o7 s8 s9 s10 s11 s12 kk qq ww sz ky fh gp X0 hx hZ hw hby hml hown e0 N0 Z0 H NN S hc
set_option maxRecDepth 65536 in
set_option maxHeartbeats 40000000 in
theorem own_s2 {p : Program} {l : Launch} {e : Env} {s : State} {m : MethodId} {args : Array Value} {below : List Frame} {meth : Method} {c : Code} {T0 : State} {locs : List Loc} {Z : State} {a0 : Array Value} {h0 : Heap} (s0 : Slot) (s1 : Slot) (s2 : Slot) (i3 : Int32) (s4 : Slot) (s5 : Slot) (s6 : Slot) (s7 : Slot) (s8 : Slot) (s9 : Slot) (s10 : Slot) (s11 : Slot) (s12 : Slot)
    (X0 : Stand p l e room_1 s m args below meth c T0 locs 4 13) (hx : p.tables.exec = Jvm.exec) (hZ : Z.Warmed39 s.vm) (hw : ∀ d ∈ tables_1, d.before a0 Z = true) (hby : c.code = code) (hml : c.maxLocals = 13) (hown : s.vm.findClass "com/example/slotweave/slotweave/alloc/NodeHeapClearPinLaw" = some m.cls) (e0 : T0.heap = h0) (hc70 : (i3 &&& (4 : Int32)) = (0 : Int32)) :
    ∃ (T' : State), Stand p l e room_1 s m args below meth c T' locs 4 13 ∧ T'.heap = h0 ∧
      ∀ target, Steps p.tables e below (T'.setTop (mkF m 79 #[s0, s1, s2, .val (.int i3), s4, s5, s6, s7, s8, s9, s10, s11, s12] [])) target → Steps p.tables e below (T0.setTop (mkF m 67 #[s0, s1, s2, .val (.int i3), s4, s5, s6, s7, s8, s9, s10, s11, s12] [])) target := by

  refine ⟨T0, X0, e0, fun target kt => ?_⟩
  show Steps p.tables e below (T0.setTop (mkF m 67 #[s0, s1, s2, .val (.int i3), s4, s5, s6, s7, s8, s9, s10, s11, s12] [])) _
  refine XS.iloadN X0.here hx rfl (hb hby at_67) rfl ?_
  show Steps p.tables e below (T0.setTop (mkF m 68 #[s0, s1, s2, .val (.int i3), s4, s5, s6, s7, s8, s9, s10, s11, s12] [(.int i3)])) _
  refine XS.iconst X0.here hx rfl (hb hby at_68) ?_
  show Steps p.tables e below (T0.setTop (mkF m 69 #[s0, s1, s2, .val (.int i3), s4, s5, s6, s7, s8, s9, s10, s11, s12] [(.int (4 : Int32)), (.int i3)])) _
  refine XS.iand X0.here hx rfl (hb hby at_69) rfl ?_
  show Steps p.tables e below (T0.setTop (mkF m 70 #[s0, s1, s2, .val (.int i3), s4, s5, s6, s7, s8, s9, s10, s11, s12] [(.int (i3 &&& (4 : Int32)))])) _
  refine XS.ifYes X0.here hx rfl (pc0 := 70) (pc' := 79) rfl (hb hby at_70) rfl ((if0 _ _).trans (teq hc70).1) (by decide) (by decide) ?_
  exact kt
set_option maxRecDepth 65536 in
set_option maxHeartbeats 40000000 in
theorem own_l2 {p : Program} {l : Launch} {e : Env} {s : State} {m : MethodId} {args : Array Value} {below : List Frame} {meth : Method} {c : Code} {T0 : State} {locs : List Loc} {Z : State} {a0 : Array Value} {h0 : Heap} {n0 : Nat} (s0 s1 s2 : Slot) (i3 : Int32) (s4 s5 s6 : Slot) (o7 : Addr) (s8 s9 s10 s11 s12 : Slot) (kk qq ww : Addr) (sz : Int32) (ky : Int32 → Int64) (fh gp : Int32 → Int32)
    (X0 : Stand p l e room_1 s m args below meth c T0 locs 4 13) (hx : p.tables.exec = Jvm.exec) (hZ : Z.Warmed39 s.vm) (hw : ∀ d ∈ tables_1, d.before a0 Z = true) (hby : c.code = code) (hml : c.maxLocals = 13) (hown : s.vm.findClass "com/example/slotweave/slotweave/alloc/NodeHeapClearPinLaw" = some m.cls) (e0 : T0.heap = h0) (N0 : Fr n0 locs) (Z0 : n0 ≤ h0.size) (H : own_H Z h0 o7 kk qq ww sz ky fh gp) (NN : own_N n0 o7 kk qq ww) (S : own_st 2 sz fh gp) (hc70 : ¬ ((i3 &&& (4 : Int32)) = (0 : Int32))) :
    ∃ (T' : State) (h' : Heap) (L' : List Loc) (sz' : Int32) (fh' gp' : Int32 → Int32), Stand p l e room_1 s m args below meth c T' L' 4 13 ∧ T'.heap = h' ∧ Fr n0 L' ∧ n0 ≤ h'.size ∧ own_H Z h' o7 kk qq ww sz' ky fh' gp' ∧ own_st 3 sz' fh' gp' ∧
      ∀ target, Steps p.tables e below (T'.setTop (mkF m 79 #[s0, s1, s2, .val (.int i3), s4, s5, s6, .val (.ref o7), s8, s9, s10, s11, s12] [])) target → Steps p.tables e below (T0.setTop (mkF m 67 #[s0, s1, s2, .val (.int i3), s4, s5, s6, .val (.ref o7), s8, s9, s10, s11, s12] [])) target := by
  have vs := own_stv own_v2 S
  have L := own_stl (ky := ky) own_v2 (k' := 3) (by decide) S
  have E_o7 := H.1
  obtain ⟨cq7, kq7, q7a, q7b, q7c⟩ := isOf hZ e0 E_o7
  obtain ⟨_, _, ⟨T7, L7, k7, n7⟩, -, X7, ⟨Lc7, hQ7, l7, y7, z7⟩, st7⟩ := X0.virtualBack hx (y := (⟨"com/example/slotweave/slotweave/alloc/NodeHeap", "lowered", "(I)V"⟩ : MethodName)) (z := (⟨"com/example/slotweave/slotweave/alloc/NodeHeap", "lowered", "(I)V"⟩ : MethodName)) hown (mvT hZ (hw _ (List.mem_of_getElem? (i := 21) rfl))) (mvT hZ (hw _ (List.mem_of_getElem? (i := 22) rfl))) (notFace_of_selects (args := #[]) (mvT hZ (hw _ (List.mem_of_getElem? (i := 24) rfl)))) (mvT hZ (hw _ (List.mem_of_getElem? (i := 24) rfl))) (mvT hZ (hw _ (List.mem_of_getElem? (i := 23) rfl))) (by decide) (backOf (W := 0) (rm4 l Z a0 hw [] o7 (2 : Int32) kk qq ww sz ky fh gp h0 n0 Z0 H NN own_v2 (by rw [L.1]; exact vs) (fun q => (S.1.2.1 0 own_v0 (L.1 ▸ q)).1)) hZ (hw _ (List.mem_of_getElem? (i := 25) rfl)) (hw _ (List.mem_of_getElem? (i := 3) rfl)) (by decide) (by decide)) q7a q7c (g := (mkF m 76 #[s0, s1, s2, .val (.int i3), s4, s5, s6, .val (.ref o7), s8, s9, s10, s11, s12] [(.int (2 : Int32)), (.ref o7)])) rfl (by rw [hml]; rfl) (Steps.refl _) (argsL := [(.int (2 : Int32))]) (rest := []) (lenOf pd_0_3 rfl) rfl (by show 2 * 0 + _ ≤ _; exact Nat.le_of_eq rfl) (hb hby at_76) (fun _ _ => ⟨rfl, e0, (by decide : 4 + 0 ≤ 16), (by decide : 13 + 0 ≤ 128)⟩)
  dsimp only [Pt.U, Pt.locs, Pt.cells, Pt.slots] at X7 l7 y7 z7 st7 hQ7
  subst l7 y7 z7
  obtain ⟨rfl, N7q, Kc, Hc⟩ := hQ7
  rw [L.1, L.2.1] at Hc
  have N7 := Fr.app N0 N7q
  refine ⟨T7, _, _, _, _, _, X7, rfl, N7, Nat.le_trans Z0 Kc.1, Hc, L.2.2, fun target kt => ?_⟩
  show Steps p.tables e below (T0.setTop (mkF m 67 #[s0, s1, s2, .val (.int i3), s4, s5, s6, .val (.ref o7), s8, s9, s10, s11, s12] [])) _
  refine XS.iloadN X0.here hx rfl (hb hby at_67) rfl ?_
  show Steps p.tables e below (T0.setTop (mkF m 68 #[s0, s1, s2, .val (.int i3), s4, s5, s6, .val (.ref o7), s8, s9, s10, s11, s12] [(.int i3)])) _
  refine XS.iconst X0.here hx rfl (hb hby at_68) ?_
  show Steps p.tables e below (T0.setTop (mkF m 69 #[s0, s1, s2, .val (.int i3), s4, s5, s6, .val (.ref o7), s8, s9, s10, s11, s12] [(.int (4 : Int32)), (.int i3)])) _
  refine XS.iand X0.here hx rfl (hb hby at_69) rfl ?_
  show Steps p.tables e below (T0.setTop (mkF m 70 #[s0, s1, s2, .val (.int i3), s4, s5, s6, .val (.ref o7), s8, s9, s10, s11, s12] [(.int (i3 &&& (4 : Int32)))])) _
  refine XS.ifNo X0.here hx rfl (hb hby at_70) rfl ((if0 _ _).trans (feq hc70).1) ?_
  show Steps p.tables e below (T0.setTop (mkF m 73 #[s0, s1, s2, .val (.int i3), s4, s5, s6, .val (.ref o7), s8, s9, s10, s11, s12] [])) _
  refine XS.aload X0.here hx rfl (hb hby at_73) rfl rfl ?_
  show Steps p.tables e below (T0.setTop (mkF m 75 #[s0, s1, s2, .val (.int i3), s4, s5, s6, .val (.ref o7), s8, s9, s10, s11, s12] [(.ref o7)])) _
  refine XS.iconst X0.here hx rfl (hb hby at_75) ?_
  show Steps p.tables e below (T0.setTop (mkF m 76 #[s0, s1, s2, .val (.int i3), s4, s5, s6, .val (.ref o7), s8, s9, s10, s11, s12] [(.int (2 : Int32)), (.ref o7)])) _
  refine st7.trans ?_
  exact kt
theorem own_p2 {p : Program} {l : Launch} {e : Env} {s : State} {m : MethodId} {args : Array Value} {below : List Frame} {meth : Method} {c : Code} {T0 : State} {locs : List Loc} {Z : State} {a0 : Array Value} {h0 : Heap} {n0 : Nat} (s0 s1 s2 : Slot) (i3 : Int32) (s4 s5 s6 : Slot) (o7 : Addr) (s8 s9 s10 s11 s12 : Slot) (kk qq ww : Addr) (sz : Int32) (ky : Int32 → Int64) (fh gp : Int32 → Int32) (X0 : Stand p l e room_1 s m args below meth c T0 locs 4 13) (hx : p.tables.exec = Jvm.exec) (hZ : Z.Warmed39 s.vm) (hw : ∀ d ∈ tables_1, d.before a0 Z = true) (hby : c.code = code) (hml : c.maxLocals = 13) (hown : s.vm.findClass "com/example/slotweave/slotweave/alloc/NodeHeapClearPinLaw" = some m.cls) (e0 : T0.heap = h0) (N0 : Fr n0 locs) (Z0 : n0 ≤ h0.size) (H : own_H Z h0 o7 kk qq ww sz ky fh gp) (NN : own_N n0 o7 kk qq ww) (S : own_st 2 sz fh gp) :
    ∃ (T' : State) (h' : Heap) (L' : List Loc) (sz' : Int32) (fh' gp' : Int32 → Int32), Stand p l e room_1 s m args below meth c T' L' 4 13 ∧ T'.heap = h' ∧ Fr n0 L' ∧ n0 ≤ h'.size ∧ own_H Z h' o7 kk qq ww sz' ky fh' gp' ∧ own_st 3 sz' fh' gp' ∧
      ∀ target, Steps p.tables e below (T'.setTop (mkF m 79 #[s0, s1, s2, .val (.int i3), s4, s5, s6, .val (.ref o7), s8, s9, s10, s11, s12] [])) target → Steps p.tables e below (T0.setTop (mkF m 67 #[s0, s1, s2, .val (.int i3), s4, s5, s6, .val (.ref o7), s8, s9, s10, s11, s12] [])) target := by
  by_cases hc : (i3 &&& (4 : Int32)) = (0 : Int32)
  · obtain ⟨T', X', e', st⟩ := own_s2 s0 s1 s2 i3 s4 s5 s6 (.val (.ref o7)) s8 s9 s10 s11 s12 X0 hx hZ hw hby hml hown e0 hc
    exact ⟨T', _, _, sz, fh, gp, X', e', N0, Z0, H, own_sts own_v2 (by decide) S, st⟩
  · exact own_l2 s0 s1 s2 i3 s4 s5 s6 o7 s8 s9 s10 s11 s12 kk qq ww sz ky fh gp X0 hx hZ hw hby hml hown e0 N0 Z0 H NN S hc
theorem pd_0_1 : parseMethodDescriptor "()V" = some ⟨[], none⟩ := by decide +kernel
theorem pd_0_5 : parseMethodDescriptor "()Z" = some ⟨[], some .boolean⟩ := by decide +kernel
theorem pd_0_6 : parseMethodDescriptor "()I" = some ⟨[], some .int⟩ := by decide +kernel
set_option maxRecDepth 65536 in
set_option maxHeartbeats 40000000 in
theorem own_bE {p : Program} {l : Launch} {e : Env} {s : State} {m : MethodId} {args : Array Value} {below : List Frame} {meth : Method} {c : Code} {T0 : State} {locs : List Loc} {Z : State} {a0 : Array Value} {h0 : Heap} {n0 : Nat} (s0 s1 s2 s3 : Slot) (i4 i5 : Int32) (o7 : Addr) (kk qq ww : Addr) (sz : Int32) (ky : Int32 → Int64) (fh gp : Int32 → Int32)
    (X0 : Stand p l e room_1 s m args below meth c T0 locs 4 13) (hx : p.tables.exec = Jvm.exec) (hZ : Z.Warmed39 s.vm) (hw : ∀ d ∈ tables_1, d.before a0 Z = true) (hby : c.code = code) (hml : c.maxLocals = 13) (hown : s.vm.findClass "com/example/slotweave/slotweave/alloc/NodeHeapClearPinLaw" = some m.cls) (e0 : T0.heap = h0) (N0 : Fr n0 locs) (Z0 : n0 ≤ h0.size) (H : own_H Z h0 o7 kk qq ww sz ky fh gp) (NN : own_N n0 o7 kk qq ww) (I : own_inv sz fh gp) (hc147 : (own_m i4) = (own_m i5)) :
    ∃ (T' : State) (h' : Heap) (L' : List Loc) (Ls' : Array Slot), Stand p l e room_1 s m args below meth c T' L' 4 13 ∧ T'.heap = h' ∧ Fr n0 L' ∧ True ∧
      ∀ target, Steps p.tables e below (T'.setTop (mkF m 170 Ls' [(.int (1 : Int32))])) target → Steps p.tables e below (T0.setTop (mkF m 79 #[s0, s1, s2, s3, .val (.int i4), .val (.int i5), .val (.ref kk), .val (.ref o7), .unset, .unset, .unset, .unset, .unset] [])) target := by
  have va := own_mv i4
  have vb := own_mv i5
  have E_o7 := H.1
  obtain ⟨cq7, kq7, q7a, q7b, q7c⟩ := isOf hZ e0 E_o7
  obtain ⟨_, _, ⟨T7, L7, k7, n7⟩, -, X7, ⟨Lc7, hQ7, l7, y7, z7⟩, st7⟩ := X0.virtualBack hx (y := (⟨"com/example/slotweave/slotweave/alloc/NodeHeap", "clear", "()V"⟩ : MethodName)) (z := (⟨"com/example/slotweave/slotweave/alloc/NodeHeap", "clear", "()V"⟩ : MethodName)) hown (mvT hZ (hw _ (List.mem_of_getElem? (i := 36) rfl))) (mvT hZ (hw _ (List.mem_of_getElem? (i := 37) rfl))) (notFace_of_selects (args := #[]) (mvT hZ (hw _ (List.mem_of_getElem? (i := 39) rfl)))) (mvT hZ (hw _ (List.mem_of_getElem? (i := 39) rfl))) (mvT hZ (hw _ (List.mem_of_getElem? (i := 38) rfl))) (by decide) (backOf (W := 0) (rm7 l Z a0 hw [] o7 kk qq ww sz ky fh gp h0 n0 Z0 H NN I) hZ (hw _ (List.mem_of_getElem? (i := 40) rfl)) (hw _ (List.mem_of_getElem? (i := 3) rfl)) (by decide) (by decide)) q7a q7c (g := (mkF m 81 #[s0, s1, s2, s3, .val (.int i4), .val (.int i5), .val (.ref kk), .val (.ref o7), .unset, .unset, .unset, .unset, .unset] [(.ref o7)])) rfl (by rw [hml]; rfl) (Steps.refl _) (argsL := []) (rest := []) (lenOf pd_0_1 rfl) rfl (by show 2 * 0 + _ ≤ _; exact Nat.le_of_eq rfl) (hb hby at_81) (fun _ _ => ⟨rfl, e0, (by decide : 4 + 0 ≤ 16), (by decide : 13 + 0 ≤ 128)⟩)
  dsimp only [Pt.U, Pt.locs, Pt.cells, Pt.slots] at X7 l7 y7 z7 st7 hQ7
  subst l7 y7 z7
  obtain ⟨gq, rfl, N7q, K7c, H7, hgq⟩ := hQ7
  have zz7 : n0 ≤ T7.heap.size := Nat.le_trans Z0 K7c.1
  have hA := own_A (ky := ky) (fh := fh) hgq va
  have N7 := Fr.app N0 N7q
  obtain ⟨cq8, kq8, q8a, q8b, q8c⟩ := isOf hZ rfl (E_o7.keep K7c)
  obtain ⟨_, _, ⟨T8, L8, k8, n8⟩, -, X8, ⟨Lc8, hQ8, l8, y8, z8⟩, st8⟩ := X7.virtualBack hx (y := (⟨"com/example/slotweave/slotweave/alloc/NodeHeap", "isEmpty", "()Z"⟩ : MethodName)) (z := (⟨"com/example/slotweave/slotweave/alloc/NodeHeap", "isEmpty", "()Z"⟩ : MethodName)) hown (mvT hZ (hw _ (List.mem_of_getElem? (i := 41) rfl))) (mvT hZ (hw _ (List.mem_of_getElem? (i := 42) rfl))) (notFace_of_selects (args := #[]) (mvT hZ (hw _ (List.mem_of_getElem? (i := 44) rfl)))) (mvT hZ (hw _ (List.mem_of_getElem? (i := 44) rfl))) (mvT hZ (hw _ (List.mem_of_getElem? (i := 43) rfl))) (by decide) (backOf (W := 0) (rm8 l Z a0 hw [] o7 (0 : Int32) T7.heap n0 zz7 H7.2.2.2.2.1) hZ (hw _ (List.mem_of_getElem? (i := 45) rfl)) (hw _ (List.mem_of_getElem? (i := 3) rfl)) (by decide) (by decide)) q8a q8c (g := (mkF m 86 #[s0, s1, s2, s3, .val (.int i4), .val (.int i5), .val (.ref kk), .val (.ref o7), .unset, .unset, .unset, .unset, .unset] [(.ref o7)])) rfl (by rw [hml]; rfl) (Steps.refl _) (argsL := []) (rest := []) (lenOf pd_0_5 rfl) rfl (by show 2 * 0 + _ ≤ _; exact Nat.le_of_eq rfl) (hb hby at_86) (fun _ _ => ⟨rfl, rfl, (by decide : 4 + 0 ≤ 16), (by decide : 13 + 0 ≤ 128)⟩)
  dsimp only [Pt.U, Pt.locs, Pt.cells, Pt.slots] at X8 l8 y8 z8 st8 hQ8
  subst l8 y8 z8
  obtain ⟨rfl, N8q, w8⟩ := hQ8
  have K8c : Keep T7.heap T8.heap [] := by rw [w8]; exact Keep.refl _ _
  have zz8 : n0 ≤ T8.heap.size := by rw [w8]; exact zz7
  have H8 := H7
  rw [← w8] at H8
  have N8 := Fr.app N7 N8q
  obtain ⟨cq9, kq9, q9a, q9b, q9c⟩ := isOf hZ rfl ((E_o7.keep K7c).keep K8c)
  obtain ⟨_, _, ⟨T9, L9, k9, n9⟩, -, X9, ⟨Lc9, hQ9, l9, y9, z9⟩, st9⟩ := X8.virtualBack hx (y := (⟨"com/example/slotweave/slotweave/alloc/NodeHeap", "lowered", "(I)V"⟩ : MethodName)) (z := (⟨"com/example/slotweave/slotweave/alloc/NodeHeap", "lowered", "(I)V"⟩ : MethodName)) hown (mvT hZ (hw _ (List.mem_of_getElem? (i := 21) rfl))) (mvT hZ (hw _ (List.mem_of_getElem? (i := 22) rfl))) (notFace_of_selects (args := #[]) (mvT hZ (hw _ (List.mem_of_getElem? (i := 24) rfl)))) (mvT hZ (hw _ (List.mem_of_getElem? (i := 24) rfl))) (mvT hZ (hw _ (List.mem_of_getElem? (i := 23) rfl))) (by decide) (backOf (W := 0) (rm4 l Z a0 hw [] o7 (own_m i4) kk qq ww (0 : Int32) ky fh gq T8.heap n0 zz8 H8 NN va (by rw [hA.1]; exact own_v0) (fun q => absurd (hA.1 ▸ q) (by decide))) hZ (hw _ (List.mem_of_getElem? (i := 25) rfl)) (hw _ (List.mem_of_getElem? (i := 3) rfl)) (by decide) (by decide)) q9a q9c (g := (mkF m 116 #[s0, s1, s2, s3, .val (.int i4), .val (.int i5), .val (.ref kk), .val (.ref o7), .val (.int (own_m i4)), .val (.int (own_m i5)), .unset, .unset, .unset] [(.int (own_m i4)), (.ref o7)])) rfl (by rw [hml]; rfl) (Steps.refl _) (argsL := [(.int (own_m i4))]) (rest := []) (lenOf pd_0_3 rfl) rfl (by show 2 * 0 + _ ≤ _; exact Nat.le_of_eq rfl) (hb hby at_116) (fun _ _ => ⟨rfl, rfl, (by decide : 4 + 0 ≤ 16), (by decide : 13 + 0 ≤ 128)⟩)
  dsimp only [Pt.U, Pt.locs, Pt.cells, Pt.slots] at X9 l9 y9 z9 st9 hQ9
  subst l9 y9 z9
  obtain ⟨rfl, N9q, K9c, H9⟩ := hQ9
  rw [hA.1, hA.2.1, hA.2.2.1, hA.2.2.2] at H9
  have zz9 : n0 ≤ T9.heap.size := Nat.le_trans zz8 K9c.1
  have hB := own_BE (ky := ky) (fh := fh) (gq := gq) hc147
  have N9 := Fr.app N8 N9q
  obtain ⟨cq10, kq10, q10a, q10b, q10c⟩ := isOf hZ rfl (((E_o7.keep K7c).keep K8c).keep K9c)
  obtain ⟨_, _, ⟨T10, L10, k10, n10⟩, -, X10, ⟨Lc10, hQ10, l10, y10, z10⟩, st10⟩ := X9.virtualBack hx (y := (⟨"com/example/slotweave/slotweave/alloc/NodeHeap", "lowered", "(I)V"⟩ : MethodName)) (z := (⟨"com/example/slotweave/slotweave/alloc/NodeHeap", "lowered", "(I)V"⟩ : MethodName)) hown (mvT hZ (hw _ (List.mem_of_getElem? (i := 21) rfl))) (mvT hZ (hw _ (List.mem_of_getElem? (i := 22) rfl))) (notFace_of_selects (args := #[]) (mvT hZ (hw _ (List.mem_of_getElem? (i := 24) rfl)))) (mvT hZ (hw _ (List.mem_of_getElem? (i := 24) rfl))) (mvT hZ (hw _ (List.mem_of_getElem? (i := 23) rfl))) (by decide) (backOf (W := 0) (rm4 l Z a0 hw [] o7 (own_m i5) kk qq ww (1 : Int32) ky (own_up fh 0 (own_m i4)) (own_up gq (own_m i4) 0) T9.heap n0 zz9 H9 NN vb (by rw [hB.1]; exact own_v0) (fun q => absurd (hB.1 ▸ q) (by decide))) hZ (hw _ (List.mem_of_getElem? (i := 25) rfl)) (hw _ (List.mem_of_getElem? (i := 3) rfl)) (by decide) (by decide)) q10a q10c (g := (mkF m 123 #[s0, s1, s2, s3, .val (.int i4), .val (.int i5), .val (.ref kk), .val (.ref o7), .val (.int (own_m i4)), .val (.int (own_m i5)), .unset, .unset, .unset] [(.int (own_m i5)), (.ref o7)])) rfl (by rw [hml]; rfl) (Steps.refl _) (argsL := [(.int (own_m i5))]) (rest := []) (lenOf pd_0_3 rfl) rfl (by show 2 * 0 + _ ≤ _; exact Nat.le_of_eq rfl) (hb hby at_123) (fun _ _ => ⟨rfl, rfl, (by decide : 4 + 0 ≤ 16), (by decide : 13 + 0 ≤ 128)⟩)
  dsimp only [Pt.U, Pt.locs, Pt.cells, Pt.slots] at X10 l10 y10 z10 st10 hQ10
  subst l10 y10 z10
  obtain ⟨rfl, N10q, K10c, H10⟩ := hQ10
  rw [hB.1, hB.2.1] at H10
  have zz10 : n0 ≤ T10.heap.size := Nat.le_trans zz9 K10c.1
  obtain ⟨f2, hf2⟩ : ∃ f, f = own_suf ky (own_up fh 0 (own_m i4)) (own_m i5) 0 := ⟨_, rfl⟩
  obtain ⟨g2, hg2⟩ : ∃ g, g = own_sug ky (own_up fh 0 (own_m i4)) (own_up gq (own_m i4) 0) (own_m i5) 0 := ⟨_, rfl⟩
  rw [← hf2, ← hg2] at H10
  have hf0 : f2 0 = (own_m i4) := by rw [hf2]; exact hB.2.2
  have N10 := Fr.app N9 N10q
  obtain ⟨cq11, kq11, q11a, q11b, q11c⟩ := isOf hZ rfl ((((E_o7.keep K7c).keep K8c).keep K9c).keep K10c)
  obtain ⟨_, _, ⟨T11, L11, k11, n11⟩, -, X11, ⟨Lc11, hQ11, l11, y11, z11⟩, st11⟩ := X10.virtualBack hx (y := (⟨"com/example/slotweave/slotweave/alloc/NodeHeap", "isEmpty", "()Z"⟩ : MethodName)) (z := (⟨"com/example/slotweave/slotweave/alloc/NodeHeap", "isEmpty", "()Z"⟩ : MethodName)) hown (mvT hZ (hw _ (List.mem_of_getElem? (i := 41) rfl))) (mvT hZ (hw _ (List.mem_of_getElem? (i := 42) rfl))) (notFace_of_selects (args := #[]) (mvT hZ (hw _ (List.mem_of_getElem? (i := 44) rfl)))) (mvT hZ (hw _ (List.mem_of_getElem? (i := 44) rfl))) (mvT hZ (hw _ (List.mem_of_getElem? (i := 43) rfl))) (by decide) (backOf (W := 0) (rm8 l Z a0 hw [] o7 (1 : Int32) T10.heap n0 zz10 H10.2.2.2.2.1) hZ (hw _ (List.mem_of_getElem? (i := 45) rfl)) (hw _ (List.mem_of_getElem? (i := 3) rfl)) (by decide) (by decide)) q11a q11c (g := (mkF m 128 #[s0, s1, s2, s3, .val (.int i4), .val (.int i5), .val (.ref kk), .val (.ref o7), .val (.int (own_m i4)), .val (.int (own_m i5)), .unset, .unset, .unset] [(.ref o7)])) rfl (by rw [hml]; rfl) (Steps.refl _) (argsL := []) (rest := []) (lenOf pd_0_5 rfl) rfl (by show 2 * 0 + _ ≤ _; exact Nat.le_of_eq rfl) (hb hby at_128) (fun _ _ => ⟨rfl, rfl, (by decide : 4 + 0 ≤ 16), (by decide : 13 + 0 ≤ 128)⟩)
  dsimp only [Pt.U, Pt.locs, Pt.cells, Pt.slots] at X11 l11 y11 z11 st11 hQ11
  subst l11 y11 z11
  obtain ⟨rfl, N11q, w11⟩ := hQ11
  have K11c : Keep T10.heap T11.heap [] := by rw [w11]; exact Keep.refl _ _
  have zz11 : n0 ≤ T11.heap.size := by rw [w11]; exact zz10
  have H11 := H10
  rw [← w11] at H11
  have N11 := Fr.app N10 N11q
  obtain ⟨cq12, kq12, q12a, q12b, q12c⟩ := isOf hZ rfl (((((E_o7.keep K7c).keep K8c).keep K9c).keep K10c).keep K11c)
  obtain ⟨_, _, ⟨T12, L12, k12, n12⟩, -, X12, ⟨Lc12, hQ12, l12, y12, z12⟩, st12⟩ := X11.virtualBack hx (y := (⟨"com/example/slotweave/slotweave/alloc/NodeHeap", "poll", "()I"⟩ : MethodName)) (z := (⟨"com/example/slotweave/slotweave/alloc/NodeHeap", "poll", "()I"⟩ : MethodName)) hown (mvT hZ (hw _ (List.mem_of_getElem? (i := 47) rfl))) (mvT hZ (hw _ (List.mem_of_getElem? (i := 48) rfl))) (notFace_of_selects (args := #[]) (mvT hZ (hw _ (List.mem_of_getElem? (i := 50) rfl)))) (mvT hZ (hw _ (List.mem_of_getElem? (i := 50) rfl))) (mvT hZ (hw _ (List.mem_of_getElem? (i := 49) rfl))) (by decide) (backOf (W := 0) (rm9_t l Z a0 hw [] o7 kk qq ww (1 : Int32) ky f2 g2 T11.heap n0 zz11 H11 NN (by rw [hf0]; exact va) (by decide)) hZ (hw _ (List.mem_of_getElem? (i := 51) rfl)) (hw _ (List.mem_of_getElem? (i := 3) rfl)) (by decide) (by decide)) q12a q12c (g := (mkF m 138 #[s0, s1, s2, s3, .val (.int i4), .val (.int i5), .val (.ref kk), .val (.ref o7), .val (.int (own_m i4)), .val (.int (own_m i5)), .unset, .unset, .unset] [(.ref o7)])) rfl (by rw [hml]; rfl) (Steps.refl _) (argsL := []) (rest := []) (lenOf pd_0_6 rfl) rfl (by show 2 * 0 + _ ≤ _; exact Nat.le_of_eq rfl) (hb hby at_138) (fun _ _ => ⟨rfl, rfl, (by decide : 4 + 0 ≤ 16), (by decide : 13 + 0 ≤ 128)⟩)
  dsimp only [Pt.U, Pt.locs, Pt.cells, Pt.slots] at X12 l12 y12 z12 st12 hQ12
  subst l12 y12 z12
  obtain ⟨rfl, N12q, K12c, H12⟩ := hQ12
  rw [hf0] at st12
  have zz12 : n0 ≤ T12.heap.size := Nat.le_trans zz11 K12c.1
  have N12 := Fr.app N11 N12q
  obtain ⟨cq13, kq13, q13a, q13b, q13c⟩ := isOf hZ rfl ((((((E_o7.keep K7c).keep K8c).keep K9c).keep K10c).keep K11c).keep K12c)
  obtain ⟨_, _, ⟨T13, L13, k13, n13⟩, -, X13, ⟨Lc13, hQ13, l13, y13, z13⟩, st13⟩ := X12.virtualBack hx (y := (⟨"com/example/slotweave/slotweave/alloc/NodeHeap", "isEmpty", "()Z"⟩ : MethodName)) (z := (⟨"com/example/slotweave/slotweave/alloc/NodeHeap", "isEmpty", "()Z"⟩ : MethodName)) hown (mvT hZ (hw _ (List.mem_of_getElem? (i := 41) rfl))) (mvT hZ (hw _ (List.mem_of_getElem? (i := 42) rfl))) (notFace_of_selects (args := #[]) (mvT hZ (hw _ (List.mem_of_getElem? (i := 44) rfl)))) (mvT hZ (hw _ (List.mem_of_getElem? (i := 44) rfl))) (mvT hZ (hw _ (List.mem_of_getElem? (i := 43) rfl))) (by decide) (backOf (W := 0) (rm8 l Z a0 hw [] o7 ((1 : Int32) - (1 : Int32)) T12.heap n0 zz12 H12.2.2.2.2.1) hZ (hw _ (List.mem_of_getElem? (i := 45) rfl)) (hw _ (List.mem_of_getElem? (i := 3) rfl)) (by decide) (by decide)) q13a q13c (g := (mkF m 159 #[s0, s1, s2, s3, .val (.int i4), .val (.int i5), .val (.ref kk), .val (.ref o7), .val (.int (own_m i4)), .val (.int (own_m i5)), .val (.int (own_m i4)), .unset, .unset] [(.ref o7)])) rfl (by rw [hml]; rfl) (Steps.refl _) (argsL := []) (rest := []) (lenOf pd_0_5 rfl) rfl (by show 2 * 0 + _ ≤ _; exact Nat.le_of_eq rfl) (hb hby at_159) (fun _ _ => ⟨rfl, rfl, (by decide : 4 + 0 ≤ 16), (by decide : 13 + 0 ≤ 128)⟩)
  dsimp only [Pt.U, Pt.locs, Pt.cells, Pt.slots] at X13 l13 y13 z13 st13 hQ13
  subst l13 y13 z13
  obtain ⟨rfl, N13q, w13⟩ := hQ13
  have K13c : Keep T12.heap T13.heap [] := by rw [w13]; exact Keep.refl _ _
  have zz13 : n0 ≤ T13.heap.size := by rw [w13]; exact zz12
  have H13 := H12
  rw [← w13] at H13
  have N13 := Fr.app N12 N13q
  refine ⟨T13, _, _, #[s0, s1, s2, s3, .val (.int i4), .val (.int i5), .val (.ref kk), .val (.ref o7), .val (.int (own_m i4)), .val (.int (own_m i5)), .val (.int (own_m i4)), .unset, .unset], X13, rfl, N13, trivial, fun target kt => ?_⟩
  show Steps p.tables e below (T0.setTop (mkF m 79 #[s0, s1, s2, s3, .val (.int i4), .val (.int i5), .val (.ref kk), .val (.ref o7), .unset, .unset, .unset, .unset, .unset] [])) _
  refine XS.aload X0.here hx rfl (hb hby at_79) rfl rfl ?_
  show Steps p.tables e below (T0.setTop (mkF m 81 #[s0, s1, s2, s3, .val (.int i4), .val (.int i5), .val (.ref kk), .val (.ref o7), .unset, .unset, .unset, .unset, .unset] [(.ref o7)])) _
  refine st7.trans ?_
  show Steps p.tables e below (T7.setTop (mkF m 84 #[s0, s1, s2, s3, .val (.int i4), .val (.int i5), .val (.ref kk), .val (.ref o7), .unset, .unset, .unset, .unset, .unset] [])) _
  refine XS.aload X7.here hx rfl (hb hby at_84) rfl rfl ?_
  show Steps p.tables e below (T7.setTop (mkF m 86 #[s0, s1, s2, s3, .val (.int i4), .val (.int i5), .val (.ref kk), .val (.ref o7), .unset, .unset, .unset, .unset, .unset] [(.ref o7)])) _
  refine st8.trans ?_
  show Steps p.tables e below (T8.setTop (mkF m 89 #[s0, s1, s2, s3, .val (.int i4), .val (.int i5), .val (.ref kk), .val (.ref o7), .unset, .unset, .unset, .unset, .unset] [(.int (val8 o7 (0 : Int32)))])) _
  refine XS.ifYes X8.here hx rfl (pc0 := 89) (pc' := 94) rfl (hb hby at_89) rfl ((if0 _ _).trans (feq (by unfold val8; decide : ¬ ((val8 o7 (0 : Int32)) = (0 : Int32)))).2) (by decide) (by decide) ?_
  show Steps p.tables e below (T8.setTop (mkF m 94 #[s0, s1, s2, s3, .val (.int i4), .val (.int i5), .val (.ref kk), .val (.ref o7), .unset, .unset, .unset, .unset, .unset] [])) _
  refine XS.iload X8.here hx rfl (hb hby at_94) rfl ?_
  show Steps p.tables e below (T8.setTop (mkF m 96 #[s0, s1, s2, s3, .val (.int i4), .val (.int i5), .val (.ref kk), .val (.ref o7), .unset, .unset, .unset, .unset, .unset] [(.int i4)])) _
  refine X8.ldcInt hx hown (mvT hZ (hw _ (List.mem_of_getElem? (i := 46) rfl))) (g := (mkF m 96 #[s0, s1, s2, s3, .val (.int i4), .val (.int i5), .val (.ref kk), .val (.ref o7), .unset, .unset, .unset, .unset, .unset] [(.int i4)])) rfl (hb hby at_96) _ ?_
  show Steps p.tables e below (T8.setTop (mkF m 98 #[s0, s1, s2, s3, .val (.int i4), .val (.int i5), .val (.ref kk), .val (.ref o7), .unset, .unset, .unset, .unset, .unset] [(.int (2147483647 : Int32)), (.int i4)])) _
  refine XS.iand X8.here hx rfl (hb hby at_98) rfl ?_
  show Steps p.tables e below (T8.setTop (mkF m 99 #[s0, s1, s2, s3, .val (.int i4), .val (.int i5), .val (.ref kk), .val (.ref o7), .unset, .unset, .unset, .unset, .unset] [(.int (i4 &&& (2147483647 : Int32)))])) _
  refine XS.iconst X8.here hx rfl (hb hby at_99) ?_
  show Steps p.tables e below (T8.setTop (mkF m 100 #[s0, s1, s2, s3, .val (.int i4), .val (.int i5), .val (.ref kk), .val (.ref o7), .unset, .unset, .unset, .unset, .unset] [(.int (3 : Int32)), (.int (i4 &&& (2147483647 : Int32)))])) _
  refine XS.irem X8.here hx rfl (hb hby at_100) rfl (by decide) ?_
  show Steps p.tables e below (T8.setTop (mkF m 101 #[s0, s1, s2, s3, .val (.int i4), .val (.int i5), .val (.ref kk), .val (.ref o7), .unset, .unset, .unset, .unset, .unset] [(.int (own_m i4))])) _
  refine XS.istore X8.here hx rfl (hb hby at_101) rfl (l' := #[s0, s1, s2, s3, .val (.int i4), .val (.int i5), .val (.ref kk), .val (.ref o7), .val (.int (own_m i4)), .unset, .unset, .unset, .unset]) rfl ?_
  show Steps p.tables e below (T8.setTop (mkF m 103 #[s0, s1, s2, s3, .val (.int i4), .val (.int i5), .val (.ref kk), .val (.ref o7), .val (.int (own_m i4)), .unset, .unset, .unset, .unset] [])) _
  refine XS.iload X8.here hx rfl (hb hby at_103) rfl ?_
  show Steps p.tables e below (T8.setTop (mkF m 105 #[s0, s1, s2, s3, .val (.int i4), .val (.int i5), .val (.ref kk), .val (.ref o7), .val (.int (own_m i4)), .unset, .unset, .unset, .unset] [(.int i5)])) _
  refine X8.ldcInt hx hown (mvT hZ (hw _ (List.mem_of_getElem? (i := 46) rfl))) (g := (mkF m 105 #[s0, s1, s2, s3, .val (.int i4), .val (.int i5), .val (.ref kk), .val (.ref o7), .val (.int (own_m i4)), .unset, .unset, .unset, .unset] [(.int i5)])) rfl (hb hby at_105) _ ?_
  show Steps p.tables e below (T8.setTop (mkF m 107 #[s0, s1, s2, s3, .val (.int i4), .val (.int i5), .val (.ref kk), .val (.ref o7), .val (.int (own_m i4)), .unset, .unset, .unset, .unset] [(.int (2147483647 : Int32)), (.int i5)])) _
  refine XS.iand X8.here hx rfl (hb hby at_107) rfl ?_
  show Steps p.tables e below (T8.setTop (mkF m 108 #[s0, s1, s2, s3, .val (.int i4), .val (.int i5), .val (.ref kk), .val (.ref o7), .val (.int (own_m i4)), .unset, .unset, .unset, .unset] [(.int (i5 &&& (2147483647 : Int32)))])) _
  refine XS.iconst X8.here hx rfl (hb hby at_108) ?_
  show Steps p.tables e below (T8.setTop (mkF m 109 #[s0, s1, s2, s3, .val (.int i4), .val (.int i5), .val (.ref kk), .val (.ref o7), .val (.int (own_m i4)), .unset, .unset, .unset, .unset] [(.int (3 : Int32)), (.int (i5 &&& (2147483647 : Int32)))])) _
  refine XS.irem X8.here hx rfl (hb hby at_109) rfl (by decide) ?_
  show Steps p.tables e below (T8.setTop (mkF m 110 #[s0, s1, s2, s3, .val (.int i4), .val (.int i5), .val (.ref kk), .val (.ref o7), .val (.int (own_m i4)), .unset, .unset, .unset, .unset] [(.int (own_m i5))])) _
  refine XS.istore X8.here hx rfl (hb hby at_110) rfl (l' := #[s0, s1, s2, s3, .val (.int i4), .val (.int i5), .val (.ref kk), .val (.ref o7), .val (.int (own_m i4)), .val (.int (own_m i5)), .unset, .unset, .unset]) rfl ?_
  show Steps p.tables e below (T8.setTop (mkF m 112 #[s0, s1, s2, s3, .val (.int i4), .val (.int i5), .val (.ref kk), .val (.ref o7), .val (.int (own_m i4)), .val (.int (own_m i5)), .unset, .unset, .unset] [])) _
  refine XS.aload X8.here hx rfl (hb hby at_112) rfl rfl ?_
  show Steps p.tables e below (T8.setTop (mkF m 114 #[s0, s1, s2, s3, .val (.int i4), .val (.int i5), .val (.ref kk), .val (.ref o7), .val (.int (own_m i4)), .val (.int (own_m i5)), .unset, .unset, .unset] [(.ref o7)])) _
  refine XS.iload X8.here hx rfl (hb hby at_114) rfl ?_
  show Steps p.tables e below (T8.setTop (mkF m 116 #[s0, s1, s2, s3, .val (.int i4), .val (.int i5), .val (.ref kk), .val (.ref o7), .val (.int (own_m i4)), .val (.int (own_m i5)), .unset, .unset, .unset] [(.int (own_m i4)), (.ref o7)])) _
  refine st9.trans ?_
  show Steps p.tables e below (T9.setTop (mkF m 119 #[s0, s1, s2, s3, .val (.int i4), .val (.int i5), .val (.ref kk), .val (.ref o7), .val (.int (own_m i4)), .val (.int (own_m i5)), .unset, .unset, .unset] [])) _
  refine XS.aload X9.here hx rfl (hb hby at_119) rfl rfl ?_
  show Steps p.tables e below (T9.setTop (mkF m 121 #[s0, s1, s2, s3, .val (.int i4), .val (.int i5), .val (.ref kk), .val (.ref o7), .val (.int (own_m i4)), .val (.int (own_m i5)), .unset, .unset, .unset] [(.ref o7)])) _
  refine XS.iload X9.here hx rfl (hb hby at_121) rfl ?_
  show Steps p.tables e below (T9.setTop (mkF m 123 #[s0, s1, s2, s3, .val (.int i4), .val (.int i5), .val (.ref kk), .val (.ref o7), .val (.int (own_m i4)), .val (.int (own_m i5)), .unset, .unset, .unset] [(.int (own_m i5)), (.ref o7)])) _
  refine st10.trans ?_
  show Steps p.tables e below (T10.setTop (mkF m 126 #[s0, s1, s2, s3, .val (.int i4), .val (.int i5), .val (.ref kk), .val (.ref o7), .val (.int (own_m i4)), .val (.int (own_m i5)), .unset, .unset, .unset] [])) _
  refine XS.aload X10.here hx rfl (hb hby at_126) rfl rfl ?_
  show Steps p.tables e below (T10.setTop (mkF m 128 #[s0, s1, s2, s3, .val (.int i4), .val (.int i5), .val (.ref kk), .val (.ref o7), .val (.int (own_m i4)), .val (.int (own_m i5)), .unset, .unset, .unset] [(.ref o7)])) _
  refine st11.trans ?_
  show Steps p.tables e below (T11.setTop (mkF m 131 #[s0, s1, s2, s3, .val (.int i4), .val (.int i5), .val (.ref kk), .val (.ref o7), .val (.int (own_m i4)), .val (.int (own_m i5)), .unset, .unset, .unset] [(.int (val8 o7 (1 : Int32)))])) _
  refine XS.ifYes X11.here hx rfl (pc0 := 131) (pc' := 136) rfl (hb hby at_131) rfl ((if0 _ _).trans (teq (by unfold val8; decide : (val8 o7 (1 : Int32)) = (0 : Int32))).1) (by decide) (by decide) ?_
  show Steps p.tables e below (T11.setTop (mkF m 136 #[s0, s1, s2, s3, .val (.int i4), .val (.int i5), .val (.ref kk), .val (.ref o7), .val (.int (own_m i4)), .val (.int (own_m i5)), .unset, .unset, .unset] [])) _
  refine XS.aload X11.here hx rfl (hb hby at_136) rfl rfl ?_
  show Steps p.tables e below (T11.setTop (mkF m 138 #[s0, s1, s2, s3, .val (.int i4), .val (.int i5), .val (.ref kk), .val (.ref o7), .val (.int (own_m i4)), .val (.int (own_m i5)), .unset, .unset, .unset] [(.ref o7)])) _
  refine st12.trans ?_
  show Steps p.tables e below (T12.setTop (mkF m 141 #[s0, s1, s2, s3, .val (.int i4), .val (.int i5), .val (.ref kk), .val (.ref o7), .val (.int (own_m i4)), .val (.int (own_m i5)), .unset, .unset, .unset] [(.int (own_m i4))])) _
  refine XS.istore X12.here hx rfl (hb hby at_141) rfl (l' := #[s0, s1, s2, s3, .val (.int i4), .val (.int i5), .val (.ref kk), .val (.ref o7), .val (.int (own_m i4)), .val (.int (own_m i5)), .val (.int (own_m i4)), .unset, .unset]) rfl ?_
  show Steps p.tables e below (T12.setTop (mkF m 143 #[s0, s1, s2, s3, .val (.int i4), .val (.int i5), .val (.ref kk), .val (.ref o7), .val (.int (own_m i4)), .val (.int (own_m i5)), .val (.int (own_m i4)), .unset, .unset] [])) _
  refine XS.iload X12.here hx rfl (hb hby at_143) rfl ?_
  show Steps p.tables e below (T12.setTop (mkF m 145 #[s0, s1, s2, s3, .val (.int i4), .val (.int i5), .val (.ref kk), .val (.ref o7), .val (.int (own_m i4)), .val (.int (own_m i5)), .val (.int (own_m i4)), .unset, .unset] [(.int (own_m i4))])) _
  refine XS.iload X12.here hx rfl (hb hby at_145) rfl ?_
  show Steps p.tables e below (T12.setTop (mkF m 147 #[s0, s1, s2, s3, .val (.int i4), .val (.int i5), .val (.ref kk), .val (.ref o7), .val (.int (own_m i4)), .val (.int (own_m i5)), .val (.int (own_m i4)), .unset, .unset] [(.int (own_m i5)), (.int (own_m i4))])) _
  refine XS.icmpNo X12.here hx rfl (hb hby at_147) rfl (teq hc147).2 ?_
  show Steps p.tables e below (T12.setTop (mkF m 150 #[s0, s1, s2, s3, .val (.int i4), .val (.int i5), .val (.ref kk), .val (.ref o7), .val (.int (own_m i4)), .val (.int (own_m i5)), .val (.int (own_m i4)), .unset, .unset] [])) _
  refine XS.iload X12.here hx rfl (hb hby at_150) rfl ?_
  show Steps p.tables e below (T12.setTop (mkF m 152 #[s0, s1, s2, s3, .val (.int i4), .val (.int i5), .val (.ref kk), .val (.ref o7), .val (.int (own_m i4)), .val (.int (own_m i5)), .val (.int (own_m i4)), .unset, .unset] [(.int (own_m i4))])) _
  refine XS.iload X12.here hx rfl (hb hby at_152) rfl ?_
  show Steps p.tables e below (T12.setTop (mkF m 154 #[s0, s1, s2, s3, .val (.int i4), .val (.int i5), .val (.ref kk), .val (.ref o7), .val (.int (own_m i4)), .val (.int (own_m i5)), .val (.int (own_m i4)), .unset, .unset] [(.int (own_m i4)), (.int (own_m i4))])) _
  refine XS.icmpNo X12.here hx rfl (hb hby at_154) rfl (teq (rfl : (own_m i4) = (own_m i4))).2 ?_
  show Steps p.tables e below (T12.setTop (mkF m 157 #[s0, s1, s2, s3, .val (.int i4), .val (.int i5), .val (.ref kk), .val (.ref o7), .val (.int (own_m i4)), .val (.int (own_m i5)), .val (.int (own_m i4)), .unset, .unset] [])) _
  refine XS.aload X12.here hx rfl (hb hby at_157) rfl rfl ?_
  show Steps p.tables e below (T12.setTop (mkF m 159 #[s0, s1, s2, s3, .val (.int i4), .val (.int i5), .val (.ref kk), .val (.ref o7), .val (.int (own_m i4)), .val (.int (own_m i5)), .val (.int (own_m i4)), .unset, .unset] [(.ref o7)])) _
  refine st13.trans ?_
  show Steps p.tables e below (T13.setTop (mkF m 162 #[s0, s1, s2, s3, .val (.int i4), .val (.int i5), .val (.ref kk), .val (.ref o7), .val (.int (own_m i4)), .val (.int (own_m i5)), .val (.int (own_m i4)), .unset, .unset] [(.int (val8 o7 ((1 : Int32) - (1 : Int32))))])) _
  refine XS.ifNo X13.here hx rfl (hb hby at_162) rfl ((if0 _ _).trans (feq (by unfold val8; decide : ¬ ((val8 o7 ((1 : Int32) - (1 : Int32))) = (0 : Int32)))).1) ?_
  show Steps p.tables e below (T13.setTop (mkF m 165 #[s0, s1, s2, s3, .val (.int i4), .val (.int i5), .val (.ref kk), .val (.ref o7), .val (.int (own_m i4)), .val (.int (own_m i5)), .val (.int (own_m i4)), .unset, .unset] [])) _
  refine XS.iconst X13.here hx rfl (hb hby at_165) ?_
  show Steps p.tables e below (T13.setTop (mkF m 166 #[s0, s1, s2, s3, .val (.int i4), .val (.int i5), .val (.ref kk), .val (.ref o7), .val (.int (own_m i4)), .val (.int (own_m i5)), .val (.int (own_m i4)), .unset, .unset] [(.int (1 : Int32))])) _
  refine XS.goto X13.here hx rfl (pc0 := 166) (pc' := 170) rfl (hb hby at_166) (by decide) (by decide) ?_
  exact kt

set_option maxRecDepth 65536 in
set_option maxHeartbeats 40000000 in
theorem own_bN1 {p : Program} {l : Launch} {e : Env} {s : State} {m : MethodId} {args : Array Value} {below : List Frame} {meth : Method} {c : Code} {T0 : State} {locs : List Loc} {Z : State} {a0 : Array Value} {h0 : Heap} {n0 : Nat} (s0 s1 s2 s3 : Slot) (i4 i5 : Int32) (o7 : Addr) (kk qq ww : Addr) (sz : Int32) (ky : Int32 → Int64) (fh gp : Int32 → Int32)
    (X0 : Stand p l e room_1 s m args below meth c T0 locs 4 13) (hx : p.tables.exec = Jvm.exec) (hZ : Z.Warmed39 s.vm) (hw : ∀ d ∈ tables_1, d.before a0 Z = true) (hby : c.code = code) (hml : c.maxLocals = 13) (hown : s.vm.findClass "com/example/slotweave/slotweave/alloc/NodeHeapClearPinLaw" = some m.cls) (e0 : T0.heap = h0) (N0 : Fr n0 locs) (Z0 : n0 ≤ h0.size) (H : own_H Z h0 o7 kk qq ww sz ky fh gp) (NN : own_N n0 o7 kk qq ww) (I : own_inv sz fh gp) (hc147 : ¬ ((own_m i4) = (own_m i5))) (hc239 : ¬ ((0 : Int32) < lcmpW (ky (own_m i4)) (ky (own_m i5)))) :
    ∃ (T' : State) (h' : Heap) (L' : List Loc) (Ls' : Array Slot), Stand p l e room_1 s m args below meth c T' L' 4 13 ∧ T'.heap = h' ∧ Fr n0 L' ∧ True ∧
      ∀ target, Steps p.tables e below (T'.setTop (mkF m 255 Ls' [(.int (1 : Int32))])) target → Steps p.tables e below (T0.setTop (mkF m 79 #[s0, s1, s2, s3, .val (.int i4), .val (.int i5), .val (.ref kk), .val (.ref o7), .unset, .unset, .unset, .unset, .unset] [])) target := by
  have va := own_mv i4
  have vb := own_mv i5
  have E_o7 := H.1
  have h21 : (2 : Int32) - (1 : Int32) = 1 := by decide
  have vp := own_mv i4
  have vq := own_mv i5
  obtain ⟨cq7, kq7, q7a, q7b, q7c⟩ := isOf hZ e0 E_o7
  obtain ⟨_, _, ⟨T7, L7, k7, n7⟩, -, X7, ⟨Lc7, hQ7, l7, y7, z7⟩, st7⟩ := X0.virtualBack hx (y := (⟨"com/example/slotweave/slotweave/alloc/NodeHeap", "clear", "()V"⟩ : MethodName)) (z := (⟨"com/example/slotweave/slotweave/alloc/NodeHeap", "clear", "()V"⟩ : MethodName)) hown (mvT hZ (hw _ (List.mem_of_getElem? (i := 36) rfl))) (mvT hZ (hw _ (List.mem_of_getElem? (i := 37) rfl))) (notFace_of_selects (args := #[]) (mvT hZ (hw _ (List.mem_of_getElem? (i := 39) rfl)))) (mvT hZ (hw _ (List.mem_of_getElem? (i := 39) rfl))) (mvT hZ (hw _ (List.mem_of_getElem? (i := 38) rfl))) (by decide) (backOf (W := 0) (rm7 l Z a0 hw [] o7 kk qq ww sz ky fh gp h0 n0 Z0 H NN I) hZ (hw _ (List.mem_of_getElem? (i := 40) rfl)) (hw _ (List.mem_of_getElem? (i := 3) rfl)) (by decide) (by decide)) q7a q7c (g := (mkF m 81 #[s0, s1, s2, s3, .val (.int i4), .val (.int i5), .val (.ref kk), .val (.ref o7), .unset, .unset, .unset, .unset, .unset] [(.ref o7)])) rfl (by rw [hml]; rfl) (Steps.refl _) (argsL := []) (rest := []) (lenOf pd_0_1 rfl) rfl (by show 2 * 0 + _ ≤ _; exact Nat.le_of_eq rfl) (hb hby at_81) (fun _ _ => ⟨rfl, e0, (by decide : 4 + 0 ≤ 16), (by decide : 13 + 0 ≤ 128)⟩)
  dsimp only [Pt.U, Pt.locs, Pt.cells, Pt.slots] at X7 l7 y7 z7 st7 hQ7
  subst l7 y7 z7
  obtain ⟨gq, rfl, N7q, K7c, H7, hgq⟩ := hQ7
  have zz7 : n0 ≤ T7.heap.size := Nat.le_trans Z0 K7c.1
  have hA := own_A (ky := ky) (fh := fh) hgq va
  have N7 := Fr.app N0 N7q
  obtain ⟨cq8, kq8, q8a, q8b, q8c⟩ := isOf hZ rfl (E_o7.keep K7c)
  obtain ⟨_, _, ⟨T8, L8, k8, n8⟩, -, X8, ⟨Lc8, hQ8, l8, y8, z8⟩, st8⟩ := X7.virtualBack hx (y := (⟨"com/example/slotweave/slotweave/alloc/NodeHeap", "isEmpty", "()Z"⟩ : MethodName)) (z := (⟨"com/example/slotweave/slotweave/alloc/NodeHeap", "isEmpty", "()Z"⟩ : MethodName)) hown (mvT hZ (hw _ (List.mem_of_getElem? (i := 41) rfl))) (mvT hZ (hw _ (List.mem_of_getElem? (i := 42) rfl))) (notFace_of_selects (args := #[]) (mvT hZ (hw _ (List.mem_of_getElem? (i := 44) rfl)))) (mvT hZ (hw _ (List.mem_of_getElem? (i := 44) rfl))) (mvT hZ (hw _ (List.mem_of_getElem? (i := 43) rfl))) (by decide) (backOf (W := 0) (rm8 l Z a0 hw [] o7 (0 : Int32) T7.heap n0 zz7 H7.2.2.2.2.1) hZ (hw _ (List.mem_of_getElem? (i := 45) rfl)) (hw _ (List.mem_of_getElem? (i := 3) rfl)) (by decide) (by decide)) q8a q8c (g := (mkF m 86 #[s0, s1, s2, s3, .val (.int i4), .val (.int i5), .val (.ref kk), .val (.ref o7), .unset, .unset, .unset, .unset, .unset] [(.ref o7)])) rfl (by rw [hml]; rfl) (Steps.refl _) (argsL := []) (rest := []) (lenOf pd_0_5 rfl) rfl (by show 2 * 0 + _ ≤ _; exact Nat.le_of_eq rfl) (hb hby at_86) (fun _ _ => ⟨rfl, rfl, (by decide : 4 + 0 ≤ 16), (by decide : 13 + 0 ≤ 128)⟩)
  dsimp only [Pt.U, Pt.locs, Pt.cells, Pt.slots] at X8 l8 y8 z8 st8 hQ8
  subst l8 y8 z8
  obtain ⟨rfl, N8q, w8⟩ := hQ8
  have K8c : Keep T7.heap T8.heap [] := by rw [w8]; exact Keep.refl _ _
  have zz8 : n0 ≤ T8.heap.size := by rw [w8]; exact zz7
  have H8 := H7
  rw [← w8] at H8
  have N8 := Fr.app N7 N8q
  obtain ⟨cq9, kq9, q9a, q9b, q9c⟩ := isOf hZ rfl ((E_o7.keep K7c).keep K8c)
  obtain ⟨_, _, ⟨T9, L9, k9, n9⟩, -, X9, ⟨Lc9, hQ9, l9, y9, z9⟩, st9⟩ := X8.virtualBack hx (y := (⟨"com/example/slotweave/slotweave/alloc/NodeHeap", "lowered", "(I)V"⟩ : MethodName)) (z := (⟨"com/example/slotweave/slotweave/alloc/NodeHeap", "lowered", "(I)V"⟩ : MethodName)) hown (mvT hZ (hw _ (List.mem_of_getElem? (i := 21) rfl))) (mvT hZ (hw _ (List.mem_of_getElem? (i := 22) rfl))) (notFace_of_selects (args := #[]) (mvT hZ (hw _ (List.mem_of_getElem? (i := 24) rfl)))) (mvT hZ (hw _ (List.mem_of_getElem? (i := 24) rfl))) (mvT hZ (hw _ (List.mem_of_getElem? (i := 23) rfl))) (by decide) (backOf (W := 0) (rm4 l Z a0 hw [] o7 (own_m i4) kk qq ww (0 : Int32) ky fh gq T8.heap n0 zz8 H8 NN va (by rw [hA.1]; exact own_v0) (fun q => absurd (hA.1 ▸ q) (by decide))) hZ (hw _ (List.mem_of_getElem? (i := 25) rfl)) (hw _ (List.mem_of_getElem? (i := 3) rfl)) (by decide) (by decide)) q9a q9c (g := (mkF m 116 #[s0, s1, s2, s3, .val (.int i4), .val (.int i5), .val (.ref kk), .val (.ref o7), .val (.int (own_m i4)), .val (.int (own_m i5)), .unset, .unset, .unset] [(.int (own_m i4)), (.ref o7)])) rfl (by rw [hml]; rfl) (Steps.refl _) (argsL := [(.int (own_m i4))]) (rest := []) (lenOf pd_0_3 rfl) rfl (by show 2 * 0 + _ ≤ _; exact Nat.le_of_eq rfl) (hb hby at_116) (fun _ _ => ⟨rfl, rfl, (by decide : 4 + 0 ≤ 16), (by decide : 13 + 0 ≤ 128)⟩)
  dsimp only [Pt.U, Pt.locs, Pt.cells, Pt.slots] at X9 l9 y9 z9 st9 hQ9
  subst l9 y9 z9
  obtain ⟨rfl, N9q, K9c, H9⟩ := hQ9
  rw [hA.1, hA.2.1, hA.2.2.1, hA.2.2.2] at H9
  have zz9 : n0 ≤ T9.heap.size := Nat.le_trans zz8 K9c.1
  have hB := own_BN (fh := fh) hgq vb hc147
  have N9 := Fr.app N8 N9q
  obtain ⟨cq10, kq10, q10a, q10b, q10c⟩ := isOf hZ rfl (((E_o7.keep K7c).keep K8c).keep K9c)
  obtain ⟨_, _, ⟨T10, L10, k10, n10⟩, -, X10, ⟨Lc10, hQ10, l10, y10, z10⟩, st10⟩ := X9.virtualBack hx (y := (⟨"com/example/slotweave/slotweave/alloc/NodeHeap", "lowered", "(I)V"⟩ : MethodName)) (z := (⟨"com/example/slotweave/slotweave/alloc/NodeHeap", "lowered", "(I)V"⟩ : MethodName)) hown (mvT hZ (hw _ (List.mem_of_getElem? (i := 21) rfl))) (mvT hZ (hw _ (List.mem_of_getElem? (i := 22) rfl))) (notFace_of_selects (args := #[]) (mvT hZ (hw _ (List.mem_of_getElem? (i := 24) rfl)))) (mvT hZ (hw _ (List.mem_of_getElem? (i := 24) rfl))) (mvT hZ (hw _ (List.mem_of_getElem? (i := 23) rfl))) (by decide) (backOf (W := 0) (rm4 l Z a0 hw [] o7 (own_m i5) kk qq ww (1 : Int32) ky (own_up fh 0 (own_m i4)) (own_up gq (own_m i4) 0) T9.heap n0 zz9 H9 NN vb (by rw [hB.1]; exact own_v1) (fun q => by rw [own_up_s]; exact va)) hZ (hw _ (List.mem_of_getElem? (i := 25) rfl)) (hw _ (List.mem_of_getElem? (i := 3) rfl)) (by decide) (by decide)) q10a q10c (g := (mkF m 123 #[s0, s1, s2, s3, .val (.int i4), .val (.int i5), .val (.ref kk), .val (.ref o7), .val (.int (own_m i4)), .val (.int (own_m i5)), .unset, .unset, .unset] [(.int (own_m i5)), (.ref o7)])) rfl (by rw [hml]; rfl) (Steps.refl _) (argsL := [(.int (own_m i5))]) (rest := []) (lenOf pd_0_3 rfl) rfl (by show 2 * 0 + _ ≤ _; exact Nat.le_of_eq rfl) (hb hby at_123) (fun _ _ => ⟨rfl, rfl, (by decide : 4 + 0 ≤ 16), (by decide : 13 + 0 ≤ 128)⟩)
  dsimp only [Pt.U, Pt.locs, Pt.cells, Pt.slots] at X10 l10 y10 z10 st10 hQ10
  subst l10 y10 z10
  obtain ⟨rfl, N10q, K10c, H10⟩ := hQ10
  rw [hB.1, hB.2] at H10
  have zz10 : n0 ≤ T10.heap.size := Nat.le_trans zz9 K10c.1
  obtain ⟨f2, hf2⟩ : ∃ f, f = own_suf ky (own_up fh 0 (own_m i4)) (own_m i5) 1 := ⟨_, rfl⟩
  obtain ⟨g2, hg2⟩ : ∃ g, g = own_sug ky (own_up fh 0 (own_m i4)) (own_up gq (own_m i4) 0) (own_m i5) 1 := ⟨_, rfl⟩
  rw [← hf2, ← hg2] at H10
  have hf0 : f2 0 = (own_m i4) := by rw [hf2]; exact (own_N1 hc239).1
  have hf1 : f2 1 = (own_m i5) := by rw [hf2]; exact (own_N1 hc239).2
  have N10 := Fr.app N9 N10q
  obtain ⟨cq11, kq11, q11a, q11b, q11c⟩ := isOf hZ rfl ((((E_o7.keep K7c).keep K8c).keep K9c).keep K10c)
  obtain ⟨_, _, ⟨T11, L11, k11, n11⟩, -, X11, ⟨Lc11, hQ11, l11, y11, z11⟩, st11⟩ := X10.virtualBack hx (y := (⟨"com/example/slotweave/slotweave/alloc/NodeHeap", "isEmpty", "()Z"⟩ : MethodName)) (z := (⟨"com/example/slotweave/slotweave/alloc/NodeHeap", "isEmpty", "()Z"⟩ : MethodName)) hown (mvT hZ (hw _ (List.mem_of_getElem? (i := 41) rfl))) (mvT hZ (hw _ (List.mem_of_getElem? (i := 42) rfl))) (notFace_of_selects (args := #[]) (mvT hZ (hw _ (List.mem_of_getElem? (i := 44) rfl)))) (mvT hZ (hw _ (List.mem_of_getElem? (i := 44) rfl))) (mvT hZ (hw _ (List.mem_of_getElem? (i := 43) rfl))) (by decide) (backOf (W := 0) (rm8 l Z a0 hw [] o7 (2 : Int32) T10.heap n0 zz10 H10.2.2.2.2.1) hZ (hw _ (List.mem_of_getElem? (i := 45) rfl)) (hw _ (List.mem_of_getElem? (i := 3) rfl)) (by decide) (by decide)) q11a q11c (g := (mkF m 128 #[s0, s1, s2, s3, .val (.int i4), .val (.int i5), .val (.ref kk), .val (.ref o7), .val (.int (own_m i4)), .val (.int (own_m i5)), .unset, .unset, .unset] [(.ref o7)])) rfl (by rw [hml]; rfl) (Steps.refl _) (argsL := []) (rest := []) (lenOf pd_0_5 rfl) rfl (by show 2 * 0 + _ ≤ _; exact Nat.le_of_eq rfl) (hb hby at_128) (fun _ _ => ⟨rfl, rfl, (by decide : 4 + 0 ≤ 16), (by decide : 13 + 0 ≤ 128)⟩)
  dsimp only [Pt.U, Pt.locs, Pt.cells, Pt.slots] at X11 l11 y11 z11 st11 hQ11
  subst l11 y11 z11
  obtain ⟨rfl, N11q, w11⟩ := hQ11
  have K11c : Keep T10.heap T11.heap [] := by rw [w11]; exact Keep.refl _ _
  have zz11 : n0 ≤ T11.heap.size := by rw [w11]; exact zz10
  have H11 := H10
  rw [← w11] at H11
  have N11 := Fr.app N10 N11q
  obtain ⟨cq12, kq12, q12a, q12b, q12c⟩ := isOf hZ rfl (((((E_o7.keep K7c).keep K8c).keep K9c).keep K10c).keep K11c)
  obtain ⟨_, _, ⟨T12, L12, k12, n12⟩, -, X12, ⟨Lc12, hQ12, l12, y12, z12⟩, st12⟩ := X11.virtualBack hx (y := (⟨"com/example/slotweave/slotweave/alloc/NodeHeap", "poll", "()I"⟩ : MethodName)) (z := (⟨"com/example/slotweave/slotweave/alloc/NodeHeap", "poll", "()I"⟩ : MethodName)) hown (mvT hZ (hw _ (List.mem_of_getElem? (i := 47) rfl))) (mvT hZ (hw _ (List.mem_of_getElem? (i := 48) rfl))) (notFace_of_selects (args := #[]) (mvT hZ (hw _ (List.mem_of_getElem? (i := 50) rfl)))) (mvT hZ (hw _ (List.mem_of_getElem? (i := 50) rfl))) (mvT hZ (hw _ (List.mem_of_getElem? (i := 49) rfl))) (by decide) (backOf (W := 0) (rm9_f l Z a0 hw [] o7 kk qq ww (2 : Int32) ky f2 g2 T11.heap n0 zz11 H11 NN (by rw [hf0]; exact vp) (Or.inr (Or.inl (by decide))) (by rw [h21, hf1]; exact vq) (by decide) (by decide)) hZ (hw _ (List.mem_of_getElem? (i := 51) rfl)) (hw _ (List.mem_of_getElem? (i := 3) rfl)) (by decide) (by decide)) q12a q12c (g := (mkF m 138 #[s0, s1, s2, s3, .val (.int i4), .val (.int i5), .val (.ref kk), .val (.ref o7), .val (.int (own_m i4)), .val (.int (own_m i5)), .unset, .unset, .unset] [(.ref o7)])) rfl (by rw [hml]; rfl) (Steps.refl _) (argsL := []) (rest := []) (lenOf pd_0_6 rfl) rfl (by show 2 * 0 + _ ≤ _; exact Nat.le_of_eq rfl) (hb hby at_138) (fun _ _ => ⟨rfl, rfl, (by decide : 4 + 0 ≤ 16), (by decide : 13 + 0 ≤ 128)⟩)
  dsimp only [Pt.U, Pt.locs, Pt.cells, Pt.slots] at X12 l12 y12 z12 st12 hQ12
  subst l12 y12 z12
  obtain ⟨rfl, N12q, K12c, H12⟩ := hQ12
  rw [hf0] at st12
  have zz12 : n0 ≤ T12.heap.size := Nat.le_trans zz11 K12c.1
  have hq : own_up f2 0 (f2 ((2 : Int32) - (1 : Int32))) 0 = (own_m i5) := by rw [own_up_s, h21, hf1]
  have N12 := Fr.app N11 N12q
  obtain ⟨cq13, kq13, q13a, q13b, q13c⟩ := isOf hZ rfl ((((((E_o7.keep K7c).keep K8c).keep K9c).keep K10c).keep K11c).keep K12c)
  obtain ⟨_, _, ⟨T13, L13, k13, n13⟩, -, X13, ⟨Lc13, hQ13, l13, y13, z13⟩, st13⟩ := X12.virtualBack hx (y := (⟨"com/example/slotweave/slotweave/alloc/NodeHeap", "isEmpty", "()Z"⟩ : MethodName)) (z := (⟨"com/example/slotweave/slotweave/alloc/NodeHeap", "isEmpty", "()Z"⟩ : MethodName)) hown (mvT hZ (hw _ (List.mem_of_getElem? (i := 41) rfl))) (mvT hZ (hw _ (List.mem_of_getElem? (i := 42) rfl))) (notFace_of_selects (args := #[]) (mvT hZ (hw _ (List.mem_of_getElem? (i := 44) rfl)))) (mvT hZ (hw _ (List.mem_of_getElem? (i := 44) rfl))) (mvT hZ (hw _ (List.mem_of_getElem? (i := 43) rfl))) (by decide) (backOf (W := 0) (rm8 l Z a0 hw [] o7 ((2 : Int32) - (1 : Int32)) T12.heap n0 zz12 H12.2.2.2.2.1) hZ (hw _ (List.mem_of_getElem? (i := 45) rfl)) (hw _ (List.mem_of_getElem? (i := 3) rfl)) (by decide) (by decide)) q13a q13c (g := (mkF m 173 #[s0, s1, s2, s3, .val (.int i4), .val (.int i5), .val (.ref kk), .val (.ref o7), .val (.int (own_m i4)), .val (.int (own_m i5)), .val (.int (own_m i4)), .unset, .unset] [(.ref o7)])) rfl (by rw [hml]; rfl) (Steps.refl _) (argsL := []) (rest := []) (lenOf pd_0_5 rfl) rfl (by show 2 * 0 + _ ≤ _; exact Nat.le_of_eq rfl) (hb hby at_173) (fun _ _ => ⟨rfl, rfl, (by decide : 4 + 0 ≤ 16), (by decide : 13 + 0 ≤ 128)⟩)
  dsimp only [Pt.U, Pt.locs, Pt.cells, Pt.slots] at X13 l13 y13 z13 st13 hQ13
  subst l13 y13 z13
  obtain ⟨rfl, N13q, w13⟩ := hQ13
  have K13c : Keep T12.heap T13.heap [] := by rw [w13]; exact Keep.refl _ _
  have zz13 : n0 ≤ T13.heap.size := by rw [w13]; exact zz12
  have H13 := H12
  rw [← w13] at H13
  have N13 := Fr.app N12 N13q
  obtain ⟨cq14, kq14, q14a, q14b, q14c⟩ := isOf hZ rfl (((((((E_o7.keep K7c).keep K8c).keep K9c).keep K10c).keep K11c).keep K12c).keep K13c)
  obtain ⟨_, _, ⟨T14, L14, k14, n14⟩, -, X14, ⟨Lc14, hQ14, l14, y14, z14⟩, st14⟩ := X13.virtualBack hx (y := (⟨"com/example/slotweave/slotweave/alloc/NodeHeap", "poll", "()I"⟩ : MethodName)) (z := (⟨"com/example/slotweave/slotweave/alloc/NodeHeap", "poll", "()I"⟩ : MethodName)) hown (mvT hZ (hw _ (List.mem_of_getElem? (i := 47) rfl))) (mvT hZ (hw _ (List.mem_of_getElem? (i := 48) rfl))) (notFace_of_selects (args := #[]) (mvT hZ (hw _ (List.mem_of_getElem? (i := 50) rfl)))) (mvT hZ (hw _ (List.mem_of_getElem? (i := 50) rfl))) (mvT hZ (hw _ (List.mem_of_getElem? (i := 49) rfl))) (by decide) (backOf (W := 0) (rm9_t l Z a0 hw [] o7 kk qq ww ((2 : Int32) - (1 : Int32)) ky (own_up f2 0 (f2 ((2 : Int32) - (1 : Int32)))) _ T13.heap n0 zz13 H13 NN (by rw [hq]; exact vq) (by decide)) hZ (hw _ (List.mem_of_getElem? (i := 51) rfl)) (hw _ (List.mem_of_getElem? (i := 3) rfl)) (by decide) (by decide)) q14a q14c (g := (mkF m 183 #[s0, s1, s2, s3, .val (.int i4), .val (.int i5), .val (.ref kk), .val (.ref o7), .val (.int (own_m i4)), .val (.int (own_m i5)), .val (.int (own_m i4)), .unset, .unset] [(.ref o7)])) rfl (by rw [hml]; rfl) (Steps.refl _) (argsL := []) (rest := []) (lenOf pd_0_6 rfl) rfl (by show 2 * 0 + _ ≤ _; exact Nat.le_of_eq rfl) (hb hby at_183) (fun _ _ => ⟨rfl, rfl, (by decide : 4 + 0 ≤ 16), (by decide : 13 + 0 ≤ 128)⟩)
  dsimp only [Pt.U, Pt.locs, Pt.cells, Pt.slots] at X14 l14 y14 z14 st14 hQ14
  subst l14 y14 z14
  obtain ⟨rfl, N14q, K14c, H14⟩ := hQ14
  rw [hq] at st14
  have zz14 : n0 ≤ T14.heap.size := Nat.le_trans zz13 K14c.1
  obtain ⟨cl_kk, Ar_kk, S_kk, H_kk⟩ := H14.2.2.2.2.2.1
  have hin232 := own_in vp S_kk
  have hat232 := (H_kk (own_m i4) vp).1
  have hin237 := own_in vq S_kk
  have hat237 := (H_kk (own_m i5) vq).1
  have N14 := Fr.app N13 N14q
  obtain ⟨cq17, kq17, q17a, q17b, q17c⟩ := isOf hZ rfl ((((((((E_o7.keep K7c).keep K8c).keep K9c).keep K10c).keep K11c).keep K12c).keep K13c).keep K14c)
  obtain ⟨_, _, ⟨T17, L17, k17, n17⟩, -, X17, ⟨Lc17, hQ17, l17, y17, z17⟩, st17⟩ := X14.virtualBack hx (y := (⟨"com/example/slotweave/slotweave/alloc/NodeHeap", "isEmpty", "()Z"⟩ : MethodName)) (z := (⟨"com/example/slotweave/slotweave/alloc/NodeHeap", "isEmpty", "()Z"⟩ : MethodName)) hown (mvT hZ (hw _ (List.mem_of_getElem? (i := 41) rfl))) (mvT hZ (hw _ (List.mem_of_getElem? (i := 42) rfl))) (notFace_of_selects (args := #[]) (mvT hZ (hw _ (List.mem_of_getElem? (i := 44) rfl)))) (mvT hZ (hw _ (List.mem_of_getElem? (i := 44) rfl))) (mvT hZ (hw _ (List.mem_of_getElem? (i := 43) rfl))) (by decide) (backOf (W := 0) (rm8 l Z a0 hw [] o7 (((2 : Int32) - (1 : Int32)) - (1 : Int32)) T14.heap n0 zz14 H14.2.2.2.2.1) hZ (hw _ (List.mem_of_getElem? (i := 45) rfl)) (hw _ (List.mem_of_getElem? (i := 3) rfl)) (by decide) (by decide)) q17a q17c (g := (mkF m 244 #[s0, s1, s2, s3, .val (.int i4), .val (.int i5), .val (.ref kk), .val (.ref o7), .val (.int (own_m i4)), .val (.int (own_m i5)), .val (.int (own_m i4)), .val (.int (own_m i5)), .val (.int (1 : Int32))] [(.ref o7)])) rfl (by rw [hml]; rfl) (Steps.refl _) (argsL := []) (rest := []) (lenOf pd_0_5 rfl) rfl (by show 2 * 0 + _ ≤ _; exact Nat.le_of_eq rfl) (hb hby at_244) (fun _ _ => ⟨rfl, rfl, (by decide : 4 + 0 ≤ 16), (by decide : 13 + 0 ≤ 128)⟩)
  dsimp only [Pt.U, Pt.locs, Pt.cells, Pt.slots] at X17 l17 y17 z17 st17 hQ17
  subst l17 y17 z17
  obtain ⟨rfl, N17q, w17⟩ := hQ17
  have K17c : Keep T14.heap T17.heap [] := by rw [w17]; exact Keep.refl _ _
  have zz17 : n0 ≤ T17.heap.size := by rw [w17]; exact zz14
  have H17 := H14
  rw [← w17] at H17
  have N17 := Fr.app N14 N17q
  refine ⟨T17, _, _, #[s0, s1, s2, s3, .val (.int i4), .val (.int i5), .val (.ref kk), .val (.ref o7), .val (.int (own_m i4)), .val (.int (own_m i5)), .val (.int (own_m i4)), .val (.int (own_m i5)), .val (.int (1 : Int32))], X17, rfl, N17, trivial, fun target kt => ?_⟩
  show Steps p.tables e below (T0.setTop (mkF m 79 #[s0, s1, s2, s3, .val (.int i4), .val (.int i5), .val (.ref kk), .val (.ref o7), .unset, .unset, .unset, .unset, .unset] [])) _
  refine XS.aload X0.here hx rfl (hb hby at_79) rfl rfl ?_
  show Steps p.tables e below (T0.setTop (mkF m 81 #[s0, s1, s2, s3, .val (.int i4), .val (.int i5), .val (.ref kk), .val (.ref o7), .unset, .unset, .unset, .unset, .unset] [(.ref o7)])) _
  refine st7.trans ?_
  show Steps p.tables e below (T7.setTop (mkF m 84 #[s0, s1, s2, s3, .val (.int i4), .val (.int i5), .val (.ref kk), .val (.ref o7), .unset, .unset, .unset, .unset, .unset] [])) _
  refine XS.aload X7.here hx rfl (hb hby at_84) rfl rfl ?_
  show Steps p.tables e below (T7.setTop (mkF m 86 #[s0, s1, s2, s3, .val (.int i4), .val (.int i5), .val (.ref kk), .val (.ref o7), .unset, .unset, .unset, .unset, .unset] [(.ref o7)])) _
  refine st8.trans ?_
  show Steps p.tables e below (T8.setTop (mkF m 89 #[s0, s1, s2, s3, .val (.int i4), .val (.int i5), .val (.ref kk), .val (.ref o7), .unset, .unset, .unset, .unset, .unset] [(.int (val8 o7 (0 : Int32)))])) _
  refine XS.ifYes X8.here hx rfl (pc0 := 89) (pc' := 94) rfl (hb hby at_89) rfl ((if0 _ _).trans (feq (by unfold val8; decide : ¬ ((val8 o7 (0 : Int32)) = (0 : Int32)))).2) (by decide) (by decide) ?_
  show Steps p.tables e below (T8.setTop (mkF m 94 #[s0, s1, s2, s3, .val (.int i4), .val (.int i5), .val (.ref kk), .val (.ref o7), .unset, .unset, .unset, .unset, .unset] [])) _
  refine XS.iload X8.here hx rfl (hb hby at_94) rfl ?_
  show Steps p.tables e below (T8.setTop (mkF m 96 #[s0, s1, s2, s3, .val (.int i4), .val (.int i5), .val (.ref kk), .val (.ref o7), .unset, .unset, .unset, .unset, .unset] [(.int i4)])) _
  refine X8.ldcInt hx hown (mvT hZ (hw _ (List.mem_of_getElem? (i := 46) rfl))) (g := (mkF m 96 #[s0, s1, s2, s3, .val (.int i4), .val (.int i5), .val (.ref kk), .val (.ref o7), .unset, .unset, .unset, .unset, .unset] [(.int i4)])) rfl (hb hby at_96) _ ?_
  show Steps p.tables e below (T8.setTop (mkF m 98 #[s0, s1, s2, s3, .val (.int i4), .val (.int i5), .val (.ref kk), .val (.ref o7), .unset, .unset, .unset, .unset, .unset] [(.int (2147483647 : Int32)), (.int i4)])) _
  refine XS.iand X8.here hx rfl (hb hby at_98) rfl ?_
  show Steps p.tables e below (T8.setTop (mkF m 99 #[s0, s1, s2, s3, .val (.int i4), .val (.int i5), .val (.ref kk), .val (.ref o7), .unset, .unset, .unset, .unset, .unset] [(.int (i4 &&& (2147483647 : Int32)))])) _
  refine XS.iconst X8.here hx rfl (hb hby at_99) ?_
  show Steps p.tables e below (T8.setTop (mkF m 100 #[s0, s1, s2, s3, .val (.int i4), .val (.int i5), .val (.ref kk), .val (.ref o7), .unset, .unset, .unset, .unset, .unset] [(.int (3 : Int32)), (.int (i4 &&& (2147483647 : Int32)))])) _
  refine XS.irem X8.here hx rfl (hb hby at_100) rfl (by decide) ?_
  show Steps p.tables e below (T8.setTop (mkF m 101 #[s0, s1, s2, s3, .val (.int i4), .val (.int i5), .val (.ref kk), .val (.ref o7), .unset, .unset, .unset, .unset, .unset] [(.int (own_m i4))])) _
  refine XS.istore X8.here hx rfl (hb hby at_101) rfl (l' := #[s0, s1, s2, s3, .val (.int i4), .val (.int i5), .val (.ref kk), .val (.ref o7), .val (.int (own_m i4)), .unset, .unset, .unset, .unset]) rfl ?_
  show Steps p.tables e below (T8.setTop (mkF m 103 #[s0, s1, s2, s3, .val (.int i4), .val (.int i5), .val (.ref kk), .val (.ref o7), .val (.int (own_m i4)), .unset, .unset, .unset, .unset] [])) _
  refine XS.iload X8.here hx rfl (hb hby at_103) rfl ?_
  show Steps p.tables e below (T8.setTop (mkF m 105 #[s0, s1, s2, s3, .val (.int i4), .val (.int i5), .val (.ref kk), .val (.ref o7), .val (.int (own_m i4)), .unset, .unset, .unset, .unset] [(.int i5)])) _
  refine X8.ldcInt hx hown (mvT hZ (hw _ (List.mem_of_getElem? (i := 46) rfl))) (g := (mkF m 105 #[s0, s1, s2, s3, .val (.int i4), .val (.int i5), .val (.ref kk), .val (.ref o7), .val (.int (own_m i4)), .unset, .unset, .unset, .unset] [(.int i5)])) rfl (hb hby at_105) _ ?_
  show Steps p.tables e below (T8.setTop (mkF m 107 #[s0, s1, s2, s3, .val (.int i4), .val (.int i5), .val (.ref kk), .val (.ref o7), .val (.int (own_m i4)), .unset, .unset, .unset, .unset] [(.int (2147483647 : Int32)), (.int i5)])) _
  refine XS.iand X8.here hx rfl (hb hby at_107) rfl ?_
  show Steps p.tables e below (T8.setTop (mkF m 108 #[s0, s1, s2, s3, .val (.int i4), .val (.int i5), .val (.ref kk), .val (.ref o7), .val (.int (own_m i4)), .unset, .unset, .unset, .unset] [(.int (i5 &&& (2147483647 : Int32)))])) _
  refine XS.iconst X8.here hx rfl (hb hby at_108) ?_
  show Steps p.tables e below (T8.setTop (mkF m 109 #[s0, s1, s2, s3, .val (.int i4), .val (.int i5), .val (.ref kk), .val (.ref o7), .val (.int (own_m i4)), .unset, .unset, .unset, .unset] [(.int (3 : Int32)), (.int (i5 &&& (2147483647 : Int32)))])) _
  refine XS.irem X8.here hx rfl (hb hby at_109) rfl (by decide) ?_
  show Steps p.tables e below (T8.setTop (mkF m 110 #[s0, s1, s2, s3, .val (.int i4), .val (.int i5), .val (.ref kk), .val (.ref o7), .val (.int (own_m i4)), .unset, .unset, .unset, .unset] [(.int (own_m i5))])) _
  refine XS.istore X8.here hx rfl (hb hby at_110) rfl (l' := #[s0, s1, s2, s3, .val (.int i4), .val (.int i5), .val (.ref kk), .val (.ref o7), .val (.int (own_m i4)), .val (.int (own_m i5)), .unset, .unset, .unset]) rfl ?_
  show Steps p.tables e below (T8.setTop (mkF m 112 #[s0, s1, s2, s3, .val (.int i4), .val (.int i5), .val (.ref kk), .val (.ref o7), .val (.int (own_m i4)), .val (.int (own_m i5)), .unset, .unset, .unset] [])) _
  refine XS.aload X8.here hx rfl (hb hby at_112) rfl rfl ?_
  show Steps p.tables e below (T8.setTop (mkF m 114 #[s0, s1, s2, s3, .val (.int i4), .val (.int i5), .val (.ref kk), .val (.ref o7), .val (.int (own_m i4)), .val (.int (own_m i5)), .unset, .unset, .unset] [(.ref o7)])) _
  refine XS.iload X8.here hx rfl (hb hby at_114) rfl ?_
  show Steps p.tables e below (T8.setTop (mkF m 116 #[s0, s1, s2, s3, .val (.int i4), .val (.int i5), .val (.ref kk), .val (.ref o7), .val (.int (own_m i4)), .val (.int (own_m i5)), .unset, .unset, .unset] [(.int (own_m i4)), (.ref o7)])) _
  refine st9.trans ?_
  show Steps p.tables e below (T9.setTop (mkF m 119 #[s0, s1, s2, s3, .val (.int i4), .val (.int i5), .val (.ref kk), .val (.ref o7), .val (.int (own_m i4)), .val (.int (own_m i5)), .unset, .unset, .unset] [])) _
  refine XS.aload X9.here hx rfl (hb hby at_119) rfl rfl ?_
  show Steps p.tables e below (T9.setTop (mkF m 121 #[s0, s1, s2, s3, .val (.int i4), .val (.int i5), .val (.ref kk), .val (.ref o7), .val (.int (own_m i4)), .val (.int (own_m i5)), .unset, .unset, .unset] [(.ref o7)])) _
  refine XS.iload X9.here hx rfl (hb hby at_121) rfl ?_
  show Steps p.tables e below (T9.setTop (mkF m 123 #[s0, s1, s2, s3, .val (.int i4), .val (.int i5), .val (.ref kk), .val (.ref o7), .val (.int (own_m i4)), .val (.int (own_m i5)), .unset, .unset, .unset] [(.int (own_m i5)), (.ref o7)])) _
  refine st10.trans ?_
  show Steps p.tables e below (T10.setTop (mkF m 126 #[s0, s1, s2, s3, .val (.int i4), .val (.int i5), .val (.ref kk), .val (.ref o7), .val (.int (own_m i4)), .val (.int (own_m i5)), .unset, .unset, .unset] [])) _
  refine XS.aload X10.here hx rfl (hb hby at_126) rfl rfl ?_
  show Steps p.tables e below (T10.setTop (mkF m 128 #[s0, s1, s2, s3, .val (.int i4), .val (.int i5), .val (.ref kk), .val (.ref o7), .val (.int (own_m i4)), .val (.int (own_m i5)), .unset, .unset, .unset] [(.ref o7)])) _
  refine st11.trans ?_
  show Steps p.tables e below (T11.setTop (mkF m 131 #[s0, s1, s2, s3, .val (.int i4), .val (.int i5), .val (.ref kk), .val (.ref o7), .val (.int (own_m i4)), .val (.int (own_m i5)), .unset, .unset, .unset] [(.int (val8 o7 (2 : Int32)))])) _
  refine XS.ifYes X11.here hx rfl (pc0 := 131) (pc' := 136) rfl (hb hby at_131) rfl ((if0 _ _).trans (teq (by unfold val8; decide : (val8 o7 (2 : Int32)) = (0 : Int32))).1) (by decide) (by decide) ?_
  show Steps p.tables e below (T11.setTop (mkF m 136 #[s0, s1, s2, s3, .val (.int i4), .val (.int i5), .val (.ref kk), .val (.ref o7), .val (.int (own_m i4)), .val (.int (own_m i5)), .unset, .unset, .unset] [])) _
  refine XS.aload X11.here hx rfl (hb hby at_136) rfl rfl ?_
  show Steps p.tables e below (T11.setTop (mkF m 138 #[s0, s1, s2, s3, .val (.int i4), .val (.int i5), .val (.ref kk), .val (.ref o7), .val (.int (own_m i4)), .val (.int (own_m i5)), .unset, .unset, .unset] [(.ref o7)])) _
  refine st12.trans ?_
  show Steps p.tables e below (T12.setTop (mkF m 141 #[s0, s1, s2, s3, .val (.int i4), .val (.int i5), .val (.ref kk), .val (.ref o7), .val (.int (own_m i4)), .val (.int (own_m i5)), .unset, .unset, .unset] [(.int (own_m i4))])) _
  refine XS.istore X12.here hx rfl (hb hby at_141) rfl (l' := #[s0, s1, s2, s3, .val (.int i4), .val (.int i5), .val (.ref kk), .val (.ref o7), .val (.int (own_m i4)), .val (.int (own_m i5)), .val (.int (own_m i4)), .unset, .unset]) rfl ?_
  show Steps p.tables e below (T12.setTop (mkF m 143 #[s0, s1, s2, s3, .val (.int i4), .val (.int i5), .val (.ref kk), .val (.ref o7), .val (.int (own_m i4)), .val (.int (own_m i5)), .val (.int (own_m i4)), .unset, .unset] [])) _
  refine XS.iload X12.here hx rfl (hb hby at_143) rfl ?_
  show Steps p.tables e below (T12.setTop (mkF m 145 #[s0, s1, s2, s3, .val (.int i4), .val (.int i5), .val (.ref kk), .val (.ref o7), .val (.int (own_m i4)), .val (.int (own_m i5)), .val (.int (own_m i4)), .unset, .unset] [(.int (own_m i4))])) _
  refine XS.iload X12.here hx rfl (hb hby at_145) rfl ?_
  show Steps p.tables e below (T12.setTop (mkF m 147 #[s0, s1, s2, s3, .val (.int i4), .val (.int i5), .val (.ref kk), .val (.ref o7), .val (.int (own_m i4)), .val (.int (own_m i5)), .val (.int (own_m i4)), .unset, .unset] [(.int (own_m i5)), (.int (own_m i4))])) _
  refine XS.icmpYes X12.here hx rfl (pc0 := 147) (pc' := 171) rfl (hb hby at_147) rfl (feq hc147).2 (by decide) (by decide) ?_
  show Steps p.tables e below (T12.setTop (mkF m 171 #[s0, s1, s2, s3, .val (.int i4), .val (.int i5), .val (.ref kk), .val (.ref o7), .val (.int (own_m i4)), .val (.int (own_m i5)), .val (.int (own_m i4)), .unset, .unset] [])) _
  refine XS.aload X12.here hx rfl (hb hby at_171) rfl rfl ?_
  show Steps p.tables e below (T12.setTop (mkF m 173 #[s0, s1, s2, s3, .val (.int i4), .val (.int i5), .val (.ref kk), .val (.ref o7), .val (.int (own_m i4)), .val (.int (own_m i5)), .val (.int (own_m i4)), .unset, .unset] [(.ref o7)])) _
  refine st13.trans ?_
  show Steps p.tables e below (T13.setTop (mkF m 176 #[s0, s1, s2, s3, .val (.int i4), .val (.int i5), .val (.ref kk), .val (.ref o7), .val (.int (own_m i4)), .val (.int (own_m i5)), .val (.int (own_m i4)), .unset, .unset] [(.int (val8 o7 ((2 : Int32) - (1 : Int32))))])) _
  refine XS.ifYes X13.here hx rfl (pc0 := 176) (pc' := 181) rfl (hb hby at_176) rfl ((if0 _ _).trans (teq (by unfold val8; decide : (val8 o7 ((2 : Int32) - (1 : Int32))) = (0 : Int32))).1) (by decide) (by decide) ?_
  show Steps p.tables e below (T13.setTop (mkF m 181 #[s0, s1, s2, s3, .val (.int i4), .val (.int i5), .val (.ref kk), .val (.ref o7), .val (.int (own_m i4)), .val (.int (own_m i5)), .val (.int (own_m i4)), .unset, .unset] [])) _
  refine XS.aload X13.here hx rfl (hb hby at_181) rfl rfl ?_
  show Steps p.tables e below (T13.setTop (mkF m 183 #[s0, s1, s2, s3, .val (.int i4), .val (.int i5), .val (.ref kk), .val (.ref o7), .val (.int (own_m i4)), .val (.int (own_m i5)), .val (.int (own_m i4)), .unset, .unset] [(.ref o7)])) _
  refine st14.trans ?_
  show Steps p.tables e below (T14.setTop (mkF m 186 #[s0, s1, s2, s3, .val (.int i4), .val (.int i5), .val (.ref kk), .val (.ref o7), .val (.int (own_m i4)), .val (.int (own_m i5)), .val (.int (own_m i4)), .unset, .unset] [(.int (own_m i5))])) _
  refine XS.istore X14.here hx rfl (hb hby at_186) rfl (l' := #[s0, s1, s2, s3, .val (.int i4), .val (.int i5), .val (.ref kk), .val (.ref o7), .val (.int (own_m i4)), .val (.int (own_m i5)), .val (.int (own_m i4)), .val (.int (own_m i5)), .unset]) rfl ?_
  show Steps p.tables e below (T14.setTop (mkF m 188 #[s0, s1, s2, s3, .val (.int i4), .val (.int i5), .val (.ref kk), .val (.ref o7), .val (.int (own_m i4)), .val (.int (own_m i5)), .val (.int (own_m i4)), .val (.int (own_m i5)), .unset] [])) _
  refine XS.iload X14.here hx rfl (hb hby at_188) rfl ?_
  show Steps p.tables e below (T14.setTop (mkF m 190 #[s0, s1, s2, s3, .val (.int i4), .val (.int i5), .val (.ref kk), .val (.ref o7), .val (.int (own_m i4)), .val (.int (own_m i5)), .val (.int (own_m i4)), .val (.int (own_m i5)), .unset] [(.int (own_m i4))])) _
  refine XS.iload X14.here hx rfl (hb hby at_190) rfl ?_
  show Steps p.tables e below (T14.setTop (mkF m 192 #[s0, s1, s2, s3, .val (.int i4), .val (.int i5), .val (.ref kk), .val (.ref o7), .val (.int (own_m i4)), .val (.int (own_m i5)), .val (.int (own_m i4)), .val (.int (own_m i5)), .unset] [(.int (own_m i4)), (.int (own_m i4))])) _
  refine XS.icmpNo X14.here hx rfl (hb hby at_192) rfl (teq (rfl : (own_m i4) = (own_m i4))).2 ?_
  show Steps p.tables e below (T14.setTop (mkF m 195 #[s0, s1, s2, s3, .val (.int i4), .val (.int i5), .val (.ref kk), .val (.ref o7), .val (.int (own_m i4)), .val (.int (own_m i5)), .val (.int (own_m i4)), .val (.int (own_m i5)), .unset] [])) _
  refine XS.iload X14.here hx rfl (hb hby at_195) rfl ?_
  show Steps p.tables e below (T14.setTop (mkF m 197 #[s0, s1, s2, s3, .val (.int i4), .val (.int i5), .val (.ref kk), .val (.ref o7), .val (.int (own_m i4)), .val (.int (own_m i5)), .val (.int (own_m i4)), .val (.int (own_m i5)), .unset] [(.int (own_m i5))])) _
  refine XS.iload X14.here hx rfl (hb hby at_197) rfl ?_
  show Steps p.tables e below (T14.setTop (mkF m 199 #[s0, s1, s2, s3, .val (.int i4), .val (.int i5), .val (.ref kk), .val (.ref o7), .val (.int (own_m i4)), .val (.int (own_m i5)), .val (.int (own_m i4)), .val (.int (own_m i5)), .unset] [(.int (own_m i5)), (.int (own_m i5))])) _
  refine XS.icmpYes X14.here hx rfl (pc0 := 199) (pc' := 216) rfl (hb hby at_199) rfl (teq (rfl : (own_m i5) = (own_m i5))).1 (by decide) (by decide) ?_
  show Steps p.tables e below (T14.setTop (mkF m 216 #[s0, s1, s2, s3, .val (.int i4), .val (.int i5), .val (.ref kk), .val (.ref o7), .val (.int (own_m i4)), .val (.int (own_m i5)), .val (.int (own_m i4)), .val (.int (own_m i5)), .unset] [])) _
  refine XS.iconst X14.here hx rfl (hb hby at_216) ?_
  show Steps p.tables e below (T14.setTop (mkF m 217 #[s0, s1, s2, s3, .val (.int i4), .val (.int i5), .val (.ref kk), .val (.ref o7), .val (.int (own_m i4)), .val (.int (own_m i5)), .val (.int (own_m i4)), .val (.int (own_m i5)), .unset] [(.int (1 : Int32))])) _
  refine XS.goto X14.here hx rfl (pc0 := 217) (pc' := 221) rfl (hb hby at_217) (by decide) (by decide) ?_
  show Steps p.tables e below (T14.setTop (mkF m 221 #[s0, s1, s2, s3, .val (.int i4), .val (.int i5), .val (.ref kk), .val (.ref o7), .val (.int (own_m i4)), .val (.int (own_m i5)), .val (.int (own_m i4)), .val (.int (own_m i5)), .unset] [(.int (1 : Int32))])) _
  refine XS.istore X14.here hx rfl (hb hby at_221) rfl (l' := #[s0, s1, s2, s3, .val (.int i4), .val (.int i5), .val (.ref kk), .val (.ref o7), .val (.int (own_m i4)), .val (.int (own_m i5)), .val (.int (own_m i4)), .val (.int (own_m i5)), .val (.int (1 : Int32))]) rfl ?_
  show Steps p.tables e below (T14.setTop (mkF m 223 #[s0, s1, s2, s3, .val (.int i4), .val (.int i5), .val (.ref kk), .val (.ref o7), .val (.int (own_m i4)), .val (.int (own_m i5)), .val (.int (own_m i4)), .val (.int (own_m i5)), .val (.int (1 : Int32))] [])) _
  refine XS.iload X14.here hx rfl (hb hby at_223) rfl ?_
  show Steps p.tables e below (T14.setTop (mkF m 225 #[s0, s1, s2, s3, .val (.int i4), .val (.int i5), .val (.ref kk), .val (.ref o7), .val (.int (own_m i4)), .val (.int (own_m i5)), .val (.int (own_m i4)), .val (.int (own_m i5)), .val (.int (1 : Int32))] [(.int (1 : Int32))])) _
  refine XS.ifNo X14.here hx rfl (hb hby at_225) rfl ((if0 _ _).trans (feq (show ¬ ((1 : Int32) = (0 : Int32)) by decide)).1) ?_
  show Steps p.tables e below (T14.setTop (mkF m 228 #[s0, s1, s2, s3, .val (.int i4), .val (.int i5), .val (.ref kk), .val (.ref o7), .val (.int (own_m i4)), .val (.int (own_m i5)), .val (.int (own_m i4)), .val (.int (own_m i5)), .val (.int (1 : Int32))] [])) _
  refine XS.aload X14.here hx rfl (hb hby at_228) rfl rfl ?_
  show Steps p.tables e below (T14.setTop (mkF m 230 #[s0, s1, s2, s3, .val (.int i4), .val (.int i5), .val (.ref kk), .val (.ref o7), .val (.int (own_m i4)), .val (.int (own_m i5)), .val (.int (own_m i4)), .val (.int (own_m i5)), .val (.int (1 : Int32))] [(.ref kk)])) _
  refine XS.iload X14.here hx rfl (hb hby at_230) rfl ?_
  show Steps p.tables e below (T14.setTop (mkF m 232 #[s0, s1, s2, s3, .val (.int i4), .val (.int i5), .val (.ref kk), .val (.ref o7), .val (.int (own_m i4)), .val (.int (own_m i5)), .val (.int (own_m i4)), .val (.int (own_m i5)), .val (.int (1 : Int32))] [(.int (own_m i4)), (.ref kk)])) _
  refine X14.daload hx (j := (own_m i4)) (v := (.double (FP.l2d (ky (own_m i4))))) Ar_kk.1 (State.isArrayOf_alike hZ.alike Ar_kk.2.1) Ar_kk.2.2 hin232 hat232 (g := (mkF m 232 #[s0, s1, s2, s3, .val (.int i4), .val (.int i5), .val (.ref kk), .val (.ref o7), .val (.int (own_m i4)), .val (.int (own_m i5)), .val (.int (own_m i4)), .val (.int (own_m i5)), .val (.int (1 : Int32))] [(.int (own_m i4)), (.ref kk)])) rfl rfl (hb hby at_232) _ ?_
  show Steps p.tables e below (T14.setTop (mkF m 233 #[s0, s1, s2, s3, .val (.int i4), .val (.int i5), .val (.ref kk), .val (.ref o7), .val (.int (own_m i4)), .val (.int (own_m i5)), .val (.int (own_m i4)), .val (.int (own_m i5)), .val (.int (1 : Int32))] [(.double (FP.l2d (ky (own_m i4))))])) _
  refine XS.aload X14.here hx rfl (hb hby at_233) rfl rfl ?_
  show Steps p.tables e below (T14.setTop (mkF m 235 #[s0, s1, s2, s3, .val (.int i4), .val (.int i5), .val (.ref kk), .val (.ref o7), .val (.int (own_m i4)), .val (.int (own_m i5)), .val (.int (own_m i4)), .val (.int (own_m i5)), .val (.int (1 : Int32))] [(.ref kk), (.double (FP.l2d (ky (own_m i4))))])) _
  refine XS.iload X14.here hx rfl (hb hby at_235) rfl ?_
  show Steps p.tables e below (T14.setTop (mkF m 237 #[s0, s1, s2, s3, .val (.int i4), .val (.int i5), .val (.ref kk), .val (.ref o7), .val (.int (own_m i4)), .val (.int (own_m i5)), .val (.int (own_m i4)), .val (.int (own_m i5)), .val (.int (1 : Int32))] [(.int (own_m i5)), (.ref kk), (.double (FP.l2d (ky (own_m i4))))])) _
  refine X14.daload hx (j := (own_m i5)) (v := (.double (FP.l2d (ky (own_m i5))))) Ar_kk.1 (State.isArrayOf_alike hZ.alike Ar_kk.2.1) Ar_kk.2.2 hin237 hat237 (g := (mkF m 237 #[s0, s1, s2, s3, .val (.int i4), .val (.int i5), .val (.ref kk), .val (.ref o7), .val (.int (own_m i4)), .val (.int (own_m i5)), .val (.int (own_m i4)), .val (.int (own_m i5)), .val (.int (1 : Int32))] [(.int (own_m i5)), (.ref kk), (.double (FP.l2d (ky (own_m i4))))])) rfl rfl (hb hby at_237) _ ?_
  show Steps p.tables e below (T14.setTop (mkF m 238 #[s0, s1, s2, s3, .val (.int i4), .val (.int i5), .val (.ref kk), .val (.ref o7), .val (.int (own_m i4)), .val (.int (own_m i5)), .val (.int (own_m i4)), .val (.int (own_m i5)), .val (.int (1 : Int32))] [(.double (FP.l2d (ky (own_m i5)))), (.double (FP.l2d (ky (own_m i4))))])) _
  refine XS.dcmpS X14.here hx rfl (hb hby at_238) rfl (dcmpV_w (H_kk _ vp).2 (H_kk _ vq).2 .g) ?_
  show Steps p.tables e below (T14.setTop (mkF m 239 #[s0, s1, s2, s3, .val (.int i4), .val (.int i5), .val (.ref kk), .val (.ref o7), .val (.int (own_m i4)), .val (.int (own_m i5)), .val (.int (own_m i4)), .val (.int (own_m i5)), .val (.int (1 : Int32))] [(.int (lcmpW (ky (own_m i4)) (ky (own_m i5))))])) _
  refine XS.ifNo X14.here hx rfl (hb hby at_239) rfl ((if0 _ _).trans (flt hc239).2.2.1) ?_
  show Steps p.tables e below (T14.setTop (mkF m 242 #[s0, s1, s2, s3, .val (.int i4), .val (.int i5), .val (.ref kk), .val (.ref o7), .val (.int (own_m i4)), .val (.int (own_m i5)), .val (.int (own_m i4)), .val (.int (own_m i5)), .val (.int (1 : Int32))] [])) _
  refine XS.aload X14.here hx rfl (hb hby at_242) rfl rfl ?_
  show Steps p.tables e below (T14.setTop (mkF m 244 #[s0, s1, s2, s3, .val (.int i4), .val (.int i5), .val (.ref kk), .val (.ref o7), .val (.int (own_m i4)), .val (.int (own_m i5)), .val (.int (own_m i4)), .val (.int (own_m i5)), .val (.int (1 : Int32))] [(.ref o7)])) _
  refine st17.trans ?_
  show Steps p.tables e below (T17.setTop (mkF m 247 #[s0, s1, s2, s3, .val (.int i4), .val (.int i5), .val (.ref kk), .val (.ref o7), .val (.int (own_m i4)), .val (.int (own_m i5)), .val (.int (own_m i4)), .val (.int (own_m i5)), .val (.int (1 : Int32))] [(.int (val8 o7 (((2 : Int32) - (1 : Int32)) - (1 : Int32))))])) _
  refine XS.ifNo X17.here hx rfl (hb hby at_247) rfl ((if0 _ _).trans (feq (by unfold val8; decide : ¬ ((val8 o7 (((2 : Int32) - (1 : Int32)) - (1 : Int32))) = (0 : Int32)))).1) ?_
  show Steps p.tables e below (T17.setTop (mkF m 250 #[s0, s1, s2, s3, .val (.int i4), .val (.int i5), .val (.ref kk), .val (.ref o7), .val (.int (own_m i4)), .val (.int (own_m i5)), .val (.int (own_m i4)), .val (.int (own_m i5)), .val (.int (1 : Int32))] [])) _
  refine XS.iconst X17.here hx rfl (hb hby at_250) ?_
  show Steps p.tables e below (T17.setTop (mkF m 251 #[s0, s1, s2, s3, .val (.int i4), .val (.int i5), .val (.ref kk), .val (.ref o7), .val (.int (own_m i4)), .val (.int (own_m i5)), .val (.int (own_m i4)), .val (.int (own_m i5)), .val (.int (1 : Int32))] [(.int (1 : Int32))])) _
  refine XS.goto X17.here hx rfl (pc0 := 251) (pc' := 255) rfl (hb hby at_251) (by decide) (by decide) ?_
  exact kt

set_option maxRecDepth 65536 in
set_option maxHeartbeats 40000000 in
theorem own_bN2 {p : Program} {l : Launch} {e : Env} {s : State} {m : MethodId} {args : Array Value} {below : List Frame} {meth : Method} {c : Code} {T0 : State} {locs : List Loc} {Z : State} {a0 : Array Value} {h0 : Heap} {n0 : Nat} (s0 s1 s2 s3 : Slot) (i4 i5 : Int32) (o7 : Addr) (kk qq ww : Addr) (sz : Int32) (ky : Int32 → Int64) (fh gp : Int32 → Int32)
    (X0 : Stand p l e room_1 s m args below meth c T0 locs 4 13) (hx : p.tables.exec = Jvm.exec) (hZ : Z.Warmed39 s.vm) (hw : ∀ d ∈ tables_1, d.before a0 Z = true) (hby : c.code = code) (hml : c.maxLocals = 13) (hown : s.vm.findClass "com/example/slotweave/slotweave/alloc/NodeHeapClearPinLaw" = some m.cls) (e0 : T0.heap = h0) (N0 : Fr n0 locs) (Z0 : n0 ≤ h0.size) (H : own_H Z h0 o7 kk qq ww sz ky fh gp) (NN : own_N n0 o7 kk qq ww) (I : own_inv sz fh gp) (hc147 : ¬ ((own_m i4) = (own_m i5))) (hsw : (0 : Int32) < lcmpW (ky (own_m i4)) (ky (own_m i5))) :
    ∃ (T' : State) (h' : Heap) (L' : List Loc) (Ls' : Array Slot), Stand p l e room_1 s m args below meth c T' L' 4 13 ∧ T'.heap = h' ∧ Fr n0 L' ∧ True ∧
      ∀ target, Steps p.tables e below (T'.setTop (mkF m 255 Ls' [(.int (1 : Int32))])) target → Steps p.tables e below (T0.setTop (mkF m 79 #[s0, s1, s2, s3, .val (.int i4), .val (.int i5), .val (.ref kk), .val (.ref o7), .unset, .unset, .unset, .unset, .unset] [])) target := by
  have va := own_mv i4
  have vb := own_mv i5
  have E_o7 := H.1
  have h21 : (2 : Int32) - (1 : Int32) = 1 := by decide
  have vp := own_mv i5
  have vq := own_mv i4
  obtain ⟨cq7, kq7, q7a, q7b, q7c⟩ := isOf hZ e0 E_o7
  obtain ⟨_, _, ⟨T7, L7, k7, n7⟩, -, X7, ⟨Lc7, hQ7, l7, y7, z7⟩, st7⟩ := X0.virtualBack hx (y := (⟨"com/example/slotweave/slotweave/alloc/NodeHeap", "clear", "()V"⟩ : MethodName)) (z := (⟨"com/example/slotweave/slotweave/alloc/NodeHeap", "clear", "()V"⟩ : MethodName)) hown (mvT hZ (hw _ (List.mem_of_getElem? (i := 36) rfl))) (mvT hZ (hw _ (List.mem_of_getElem? (i := 37) rfl))) (notFace_of_selects (args := #[]) (mvT hZ (hw _ (List.mem_of_getElem? (i := 39) rfl)))) (mvT hZ (hw _ (List.mem_of_getElem? (i := 39) rfl))) (mvT hZ (hw _ (List.mem_of_getElem? (i := 38) rfl))) (by decide) (backOf (W := 0) (rm7 l Z a0 hw [] o7 kk qq ww sz ky fh gp h0 n0 Z0 H NN I) hZ (hw _ (List.mem_of_getElem? (i := 40) rfl)) (hw _ (List.mem_of_getElem? (i := 3) rfl)) (by decide) (by decide)) q7a q7c (g := (mkF m 81 #[s0, s1, s2, s3, .val (.int i4), .val (.int i5), .val (.ref kk), .val (.ref o7), .unset, .unset, .unset, .unset, .unset] [(.ref o7)])) rfl (by rw [hml]; rfl) (Steps.refl _) (argsL := []) (rest := []) (lenOf pd_0_1 rfl) rfl (by show 2 * 0 + _ ≤ _; exact Nat.le_of_eq rfl) (hb hby at_81) (fun _ _ => ⟨rfl, e0, (by decide : 4 + 0 ≤ 16), (by decide : 13 + 0 ≤ 128)⟩)
  dsimp only [Pt.U, Pt.locs, Pt.cells, Pt.slots] at X7 l7 y7 z7 st7 hQ7
  subst l7 y7 z7
  obtain ⟨gq, rfl, N7q, K7c, H7, hgq⟩ := hQ7
  have zz7 : n0 ≤ T7.heap.size := Nat.le_trans Z0 K7c.1
  have hA := own_A (ky := ky) (fh := fh) hgq va
  have N7 := Fr.app N0 N7q
  obtain ⟨cq8, kq8, q8a, q8b, q8c⟩ := isOf hZ rfl (E_o7.keep K7c)
  obtain ⟨_, _, ⟨T8, L8, k8, n8⟩, -, X8, ⟨Lc8, hQ8, l8, y8, z8⟩, st8⟩ := X7.virtualBack hx (y := (⟨"com/example/slotweave/slotweave/alloc/NodeHeap", "isEmpty", "()Z"⟩ : MethodName)) (z := (⟨"com/example/slotweave/slotweave/alloc/NodeHeap", "isEmpty", "()Z"⟩ : MethodName)) hown (mvT hZ (hw _ (List.mem_of_getElem? (i := 41) rfl))) (mvT hZ (hw _ (List.mem_of_getElem? (i := 42) rfl))) (notFace_of_selects (args := #[]) (mvT hZ (hw _ (List.mem_of_getElem? (i := 44) rfl)))) (mvT hZ (hw _ (List.mem_of_getElem? (i := 44) rfl))) (mvT hZ (hw _ (List.mem_of_getElem? (i := 43) rfl))) (by decide) (backOf (W := 0) (rm8 l Z a0 hw [] o7 (0 : Int32) T7.heap n0 zz7 H7.2.2.2.2.1) hZ (hw _ (List.mem_of_getElem? (i := 45) rfl)) (hw _ (List.mem_of_getElem? (i := 3) rfl)) (by decide) (by decide)) q8a q8c (g := (mkF m 86 #[s0, s1, s2, s3, .val (.int i4), .val (.int i5), .val (.ref kk), .val (.ref o7), .unset, .unset, .unset, .unset, .unset] [(.ref o7)])) rfl (by rw [hml]; rfl) (Steps.refl _) (argsL := []) (rest := []) (lenOf pd_0_5 rfl) rfl (by show 2 * 0 + _ ≤ _; exact Nat.le_of_eq rfl) (hb hby at_86) (fun _ _ => ⟨rfl, rfl, (by decide : 4 + 0 ≤ 16), (by decide : 13 + 0 ≤ 128)⟩)
  dsimp only [Pt.U, Pt.locs, Pt.cells, Pt.slots] at X8 l8 y8 z8 st8 hQ8
  subst l8 y8 z8
  obtain ⟨rfl, N8q, w8⟩ := hQ8
  have K8c : Keep T7.heap T8.heap [] := by rw [w8]; exact Keep.refl _ _
  have zz8 : n0 ≤ T8.heap.size := by rw [w8]; exact zz7
  have H8 := H7
  rw [← w8] at H8
  have N8 := Fr.app N7 N8q
  obtain ⟨cq9, kq9, q9a, q9b, q9c⟩ := isOf hZ rfl ((E_o7.keep K7c).keep K8c)
  obtain ⟨_, _, ⟨T9, L9, k9, n9⟩, -, X9, ⟨Lc9, hQ9, l9, y9, z9⟩, st9⟩ := X8.virtualBack hx (y := (⟨"com/example/slotweave/slotweave/alloc/NodeHeap", "lowered", "(I)V"⟩ : MethodName)) (z := (⟨"com/example/slotweave/slotweave/alloc/NodeHeap", "lowered", "(I)V"⟩ : MethodName)) hown (mvT hZ (hw _ (List.mem_of_getElem? (i := 21) rfl))) (mvT hZ (hw _ (List.mem_of_getElem? (i := 22) rfl))) (notFace_of_selects (args := #[]) (mvT hZ (hw _ (List.mem_of_getElem? (i := 24) rfl)))) (mvT hZ (hw _ (List.mem_of_getElem? (i := 24) rfl))) (mvT hZ (hw _ (List.mem_of_getElem? (i := 23) rfl))) (by decide) (backOf (W := 0) (rm4 l Z a0 hw [] o7 (own_m i4) kk qq ww (0 : Int32) ky fh gq T8.heap n0 zz8 H8 NN va (by rw [hA.1]; exact own_v0) (fun q => absurd (hA.1 ▸ q) (by decide))) hZ (hw _ (List.mem_of_getElem? (i := 25) rfl)) (hw _ (List.mem_of_getElem? (i := 3) rfl)) (by decide) (by decide)) q9a q9c (g := (mkF m 116 #[s0, s1, s2, s3, .val (.int i4), .val (.int i5), .val (.ref kk), .val (.ref o7), .val (.int (own_m i4)), .val (.int (own_m i5)), .unset, .unset, .unset] [(.int (own_m i4)), (.ref o7)])) rfl (by rw [hml]; rfl) (Steps.refl _) (argsL := [(.int (own_m i4))]) (rest := []) (lenOf pd_0_3 rfl) rfl (by show 2 * 0 + _ ≤ _; exact Nat.le_of_eq rfl) (hb hby at_116) (fun _ _ => ⟨rfl, rfl, (by decide : 4 + 0 ≤ 16), (by decide : 13 + 0 ≤ 128)⟩)
  dsimp only [Pt.U, Pt.locs, Pt.cells, Pt.slots] at X9 l9 y9 z9 st9 hQ9
  subst l9 y9 z9
  obtain ⟨rfl, N9q, K9c, H9⟩ := hQ9
  rw [hA.1, hA.2.1, hA.2.2.1, hA.2.2.2] at H9
  have zz9 : n0 ≤ T9.heap.size := Nat.le_trans zz8 K9c.1
  have hB := own_BN (fh := fh) hgq vb hc147
  have N9 := Fr.app N8 N9q
  obtain ⟨cq10, kq10, q10a, q10b, q10c⟩ := isOf hZ rfl (((E_o7.keep K7c).keep K8c).keep K9c)
  obtain ⟨_, _, ⟨T10, L10, k10, n10⟩, -, X10, ⟨Lc10, hQ10, l10, y10, z10⟩, st10⟩ := X9.virtualBack hx (y := (⟨"com/example/slotweave/slotweave/alloc/NodeHeap", "lowered", "(I)V"⟩ : MethodName)) (z := (⟨"com/example/slotweave/slotweave/alloc/NodeHeap", "lowered", "(I)V"⟩ : MethodName)) hown (mvT hZ (hw _ (List.mem_of_getElem? (i := 21) rfl))) (mvT hZ (hw _ (List.mem_of_getElem? (i := 22) rfl))) (notFace_of_selects (args := #[]) (mvT hZ (hw _ (List.mem_of_getElem? (i := 24) rfl)))) (mvT hZ (hw _ (List.mem_of_getElem? (i := 24) rfl))) (mvT hZ (hw _ (List.mem_of_getElem? (i := 23) rfl))) (by decide) (backOf (W := 0) (rm4 l Z a0 hw [] o7 (own_m i5) kk qq ww (1 : Int32) ky (own_up fh 0 (own_m i4)) (own_up gq (own_m i4) 0) T9.heap n0 zz9 H9 NN vb (by rw [hB.1]; exact own_v1) (fun q => by rw [own_up_s]; exact va)) hZ (hw _ (List.mem_of_getElem? (i := 25) rfl)) (hw _ (List.mem_of_getElem? (i := 3) rfl)) (by decide) (by decide)) q10a q10c (g := (mkF m 123 #[s0, s1, s2, s3, .val (.int i4), .val (.int i5), .val (.ref kk), .val (.ref o7), .val (.int (own_m i4)), .val (.int (own_m i5)), .unset, .unset, .unset] [(.int (own_m i5)), (.ref o7)])) rfl (by rw [hml]; rfl) (Steps.refl _) (argsL := [(.int (own_m i5))]) (rest := []) (lenOf pd_0_3 rfl) rfl (by show 2 * 0 + _ ≤ _; exact Nat.le_of_eq rfl) (hb hby at_123) (fun _ _ => ⟨rfl, rfl, (by decide : 4 + 0 ≤ 16), (by decide : 13 + 0 ≤ 128)⟩)
  dsimp only [Pt.U, Pt.locs, Pt.cells, Pt.slots] at X10 l10 y10 z10 st10 hQ10
  subst l10 y10 z10
  obtain ⟨rfl, N10q, K10c, H10⟩ := hQ10
  rw [hB.1, hB.2] at H10
  have zz10 : n0 ≤ T10.heap.size := Nat.le_trans zz9 K10c.1
  obtain ⟨f2, hf2⟩ : ∃ f, f = own_suf ky (own_up fh 0 (own_m i4)) (own_m i5) 1 := ⟨_, rfl⟩
  obtain ⟨g2, hg2⟩ : ∃ g, g = own_sug ky (own_up fh 0 (own_m i4)) (own_up gq (own_m i4) 0) (own_m i5) 1 := ⟨_, rfl⟩
  rw [← hf2, ← hg2] at H10
  have hf0 : f2 0 = (own_m i5) := by rw [hf2]; exact (own_N2 hsw).1
  have hf1 : f2 1 = (own_m i4) := by rw [hf2]; exact (own_N2 hsw).2
  have hc239 : ¬ ((0 : Int32) < lcmpW (ky (own_m i5)) (ky (own_m i4))) := own_anti hsw
  have N10 := Fr.app N9 N10q
  obtain ⟨cq11, kq11, q11a, q11b, q11c⟩ := isOf hZ rfl ((((E_o7.keep K7c).keep K8c).keep K9c).keep K10c)
  obtain ⟨_, _, ⟨T11, L11, k11, n11⟩, -, X11, ⟨Lc11, hQ11, l11, y11, z11⟩, st11⟩ := X10.virtualBack hx (y := (⟨"com/example/slotweave/slotweave/alloc/NodeHeap", "isEmpty", "()Z"⟩ : MethodName)) (z := (⟨"com/example/slotweave/slotweave/alloc/NodeHeap", "isEmpty", "()Z"⟩ : MethodName)) hown (mvT hZ (hw _ (List.mem_of_getElem? (i := 41) rfl))) (mvT hZ (hw _ (List.mem_of_getElem? (i := 42) rfl))) (notFace_of_selects (args := #[]) (mvT hZ (hw _ (List.mem_of_getElem? (i := 44) rfl)))) (mvT hZ (hw _ (List.mem_of_getElem? (i := 44) rfl))) (mvT hZ (hw _ (List.mem_of_getElem? (i := 43) rfl))) (by decide) (backOf (W := 0) (rm8 l Z a0 hw [] o7 (2 : Int32) T10.heap n0 zz10 H10.2.2.2.2.1) hZ (hw _ (List.mem_of_getElem? (i := 45) rfl)) (hw _ (List.mem_of_getElem? (i := 3) rfl)) (by decide) (by decide)) q11a q11c (g := (mkF m 128 #[s0, s1, s2, s3, .val (.int i4), .val (.int i5), .val (.ref kk), .val (.ref o7), .val (.int (own_m i4)), .val (.int (own_m i5)), .unset, .unset, .unset] [(.ref o7)])) rfl (by rw [hml]; rfl) (Steps.refl _) (argsL := []) (rest := []) (lenOf pd_0_5 rfl) rfl (by show 2 * 0 + _ ≤ _; exact Nat.le_of_eq rfl) (hb hby at_128) (fun _ _ => ⟨rfl, rfl, (by decide : 4 + 0 ≤ 16), (by decide : 13 + 0 ≤ 128)⟩)
  dsimp only [Pt.U, Pt.locs, Pt.cells, Pt.slots] at X11 l11 y11 z11 st11 hQ11
  subst l11 y11 z11
  obtain ⟨rfl, N11q, w11⟩ := hQ11
  have K11c : Keep T10.heap T11.heap [] := by rw [w11]; exact Keep.refl _ _
  have zz11 : n0 ≤ T11.heap.size := by rw [w11]; exact zz10
  have H11 := H10
  rw [← w11] at H11
  have N11 := Fr.app N10 N11q
  obtain ⟨cq12, kq12, q12a, q12b, q12c⟩ := isOf hZ rfl (((((E_o7.keep K7c).keep K8c).keep K9c).keep K10c).keep K11c)
  obtain ⟨_, _, ⟨T12, L12, k12, n12⟩, -, X12, ⟨Lc12, hQ12, l12, y12, z12⟩, st12⟩ := X11.virtualBack hx (y := (⟨"com/example/slotweave/slotweave/alloc/NodeHeap", "poll", "()I"⟩ : MethodName)) (z := (⟨"com/example/slotweave/slotweave/alloc/NodeHeap", "poll", "()I"⟩ : MethodName)) hown (mvT hZ (hw _ (List.mem_of_getElem? (i := 47) rfl))) (mvT hZ (hw _ (List.mem_of_getElem? (i := 48) rfl))) (notFace_of_selects (args := #[]) (mvT hZ (hw _ (List.mem_of_getElem? (i := 50) rfl)))) (mvT hZ (hw _ (List.mem_of_getElem? (i := 50) rfl))) (mvT hZ (hw _ (List.mem_of_getElem? (i := 49) rfl))) (by decide) (backOf (W := 0) (rm9_f l Z a0 hw [] o7 kk qq ww (2 : Int32) ky f2 g2 T11.heap n0 zz11 H11 NN (by rw [hf0]; exact vp) (Or.inr (Or.inl (by decide))) (by rw [h21, hf1]; exact vq) (by decide) (by decide)) hZ (hw _ (List.mem_of_getElem? (i := 51) rfl)) (hw _ (List.mem_of_getElem? (i := 3) rfl)) (by decide) (by decide)) q12a q12c (g := (mkF m 138 #[s0, s1, s2, s3, .val (.int i4), .val (.int i5), .val (.ref kk), .val (.ref o7), .val (.int (own_m i4)), .val (.int (own_m i5)), .unset, .unset, .unset] [(.ref o7)])) rfl (by rw [hml]; rfl) (Steps.refl _) (argsL := []) (rest := []) (lenOf pd_0_6 rfl) rfl (by show 2 * 0 + _ ≤ _; exact Nat.le_of_eq rfl) (hb hby at_138) (fun _ _ => ⟨rfl, rfl, (by decide : 4 + 0 ≤ 16), (by decide : 13 + 0 ≤ 128)⟩)
  dsimp only [Pt.U, Pt.locs, Pt.cells, Pt.slots] at X12 l12 y12 z12 st12 hQ12
  subst l12 y12 z12
  obtain ⟨rfl, N12q, K12c, H12⟩ := hQ12
  rw [hf0] at st12
  have zz12 : n0 ≤ T12.heap.size := Nat.le_trans zz11 K12c.1
  have hq : own_up f2 0 (f2 ((2 : Int32) - (1 : Int32))) 0 = (own_m i4) := by rw [own_up_s, h21, hf1]
  have N12 := Fr.app N11 N12q
  obtain ⟨cq13, kq13, q13a, q13b, q13c⟩ := isOf hZ rfl ((((((E_o7.keep K7c).keep K8c).keep K9c).keep K10c).keep K11c).keep K12c)
  obtain ⟨_, _, ⟨T13, L13, k13, n13⟩, -, X13, ⟨Lc13, hQ13, l13, y13, z13⟩, st13⟩ := X12.virtualBack hx (y := (⟨"com/example/slotweave/slotweave/alloc/NodeHeap", "isEmpty", "()Z"⟩ : MethodName)) (z := (⟨"com/example/slotweave/slotweave/alloc/NodeHeap", "isEmpty", "()Z"⟩ : MethodName)) hown (mvT hZ (hw _ (List.mem_of_getElem? (i := 41) rfl))) (mvT hZ (hw _ (List.mem_of_getElem? (i := 42) rfl))) (notFace_of_selects (args := #[]) (mvT hZ (hw _ (List.mem_of_getElem? (i := 44) rfl)))) (mvT hZ (hw _ (List.mem_of_getElem? (i := 44) rfl))) (mvT hZ (hw _ (List.mem_of_getElem? (i := 43) rfl))) (by decide) (backOf (W := 0) (rm8 l Z a0 hw [] o7 ((2 : Int32) - (1 : Int32)) T12.heap n0 zz12 H12.2.2.2.2.1) hZ (hw _ (List.mem_of_getElem? (i := 45) rfl)) (hw _ (List.mem_of_getElem? (i := 3) rfl)) (by decide) (by decide)) q13a q13c (g := (mkF m 173 #[s0, s1, s2, s3, .val (.int i4), .val (.int i5), .val (.ref kk), .val (.ref o7), .val (.int (own_m i4)), .val (.int (own_m i5)), .val (.int (own_m i5)), .unset, .unset] [(.ref o7)])) rfl (by rw [hml]; rfl) (Steps.refl _) (argsL := []) (rest := []) (lenOf pd_0_5 rfl) rfl (by show 2 * 0 + _ ≤ _; exact Nat.le_of_eq rfl) (hb hby at_173) (fun _ _ => ⟨rfl, rfl, (by decide : 4 + 0 ≤ 16), (by decide : 13 + 0 ≤ 128)⟩)
  dsimp only [Pt.U, Pt.locs, Pt.cells, Pt.slots] at X13 l13 y13 z13 st13 hQ13
  subst l13 y13 z13
  obtain ⟨rfl, N13q, w13⟩ := hQ13
  have K13c : Keep T12.heap T13.heap [] := by rw [w13]; exact Keep.refl _ _
  have zz13 : n0 ≤ T13.heap.size := by rw [w13]; exact zz12
  have H13 := H12
  rw [← w13] at H13
  have N13 := Fr.app N12 N13q
  obtain ⟨cq14, kq14, q14a, q14b, q14c⟩ := isOf hZ rfl (((((((E_o7.keep K7c).keep K8c).keep K9c).keep K10c).keep K11c).keep K12c).keep K13c)
  obtain ⟨_, _, ⟨T14, L14, k14, n14⟩, -, X14, ⟨Lc14, hQ14, l14, y14, z14⟩, st14⟩ := X13.virtualBack hx (y := (⟨"com/example/slotweave/slotweave/alloc/NodeHeap", "poll", "()I"⟩ : MethodName)) (z := (⟨"com/example/slotweave/slotweave/alloc/NodeHeap", "poll", "()I"⟩ : MethodName)) hown (mvT hZ (hw _ (List.mem_of_getElem? (i := 47) rfl))) (mvT hZ (hw _ (List.mem_of_getElem? (i := 48) rfl))) (notFace_of_selects (args := #[]) (mvT hZ (hw _ (List.mem_of_getElem? (i := 50) rfl)))) (mvT hZ (hw _ (List.mem_of_getElem? (i := 50) rfl))) (mvT hZ (hw _ (List.mem_of_getElem? (i := 49) rfl))) (by decide) (backOf (W := 0) (rm9_t l Z a0 hw [] o7 kk qq ww ((2 : Int32) - (1 : Int32)) ky (own_up f2 0 (f2 ((2 : Int32) - (1 : Int32)))) _ T13.heap n0 zz13 H13 NN (by rw [hq]; exact vq) (by decide)) hZ (hw _ (List.mem_of_getElem? (i := 51) rfl)) (hw _ (List.mem_of_getElem? (i := 3) rfl)) (by decide) (by decide)) q14a q14c (g := (mkF m 183 #[s0, s1, s2, s3, .val (.int i4), .val (.int i5), .val (.ref kk), .val (.ref o7), .val (.int (own_m i4)), .val (.int (own_m i5)), .val (.int (own_m i5)), .unset, .unset] [(.ref o7)])) rfl (by rw [hml]; rfl) (Steps.refl _) (argsL := []) (rest := []) (lenOf pd_0_6 rfl) rfl (by show 2 * 0 + _ ≤ _; exact Nat.le_of_eq rfl) (hb hby at_183) (fun _ _ => ⟨rfl, rfl, (by decide : 4 + 0 ≤ 16), (by decide : 13 + 0 ≤ 128)⟩)
  dsimp only [Pt.U, Pt.locs, Pt.cells, Pt.slots] at X14 l14 y14 z14 st14 hQ14
  subst l14 y14 z14
  obtain ⟨rfl, N14q, K14c, H14⟩ := hQ14
  rw [hq] at st14
  have zz14 : n0 ≤ T14.heap.size := Nat.le_trans zz13 K14c.1
  obtain ⟨cl_kk, Ar_kk, S_kk, H_kk⟩ := H14.2.2.2.2.2.1
  have hin232 := own_in vp S_kk
  have hat232 := (H_kk (own_m i5) vp).1
  have hin237 := own_in vq S_kk
  have hat237 := (H_kk (own_m i4) vq).1
  have N14 := Fr.app N13 N14q
  obtain ⟨cq17, kq17, q17a, q17b, q17c⟩ := isOf hZ rfl ((((((((E_o7.keep K7c).keep K8c).keep K9c).keep K10c).keep K11c).keep K12c).keep K13c).keep K14c)
  obtain ⟨_, _, ⟨T17, L17, k17, n17⟩, -, X17, ⟨Lc17, hQ17, l17, y17, z17⟩, st17⟩ := X14.virtualBack hx (y := (⟨"com/example/slotweave/slotweave/alloc/NodeHeap", "isEmpty", "()Z"⟩ : MethodName)) (z := (⟨"com/example/slotweave/slotweave/alloc/NodeHeap", "isEmpty", "()Z"⟩ : MethodName)) hown (mvT hZ (hw _ (List.mem_of_getElem? (i := 41) rfl))) (mvT hZ (hw _ (List.mem_of_getElem? (i := 42) rfl))) (notFace_of_selects (args := #[]) (mvT hZ (hw _ (List.mem_of_getElem? (i := 44) rfl)))) (mvT hZ (hw _ (List.mem_of_getElem? (i := 44) rfl))) (mvT hZ (hw _ (List.mem_of_getElem? (i := 43) rfl))) (by decide) (backOf (W := 0) (rm8 l Z a0 hw [] o7 (((2 : Int32) - (1 : Int32)) - (1 : Int32)) T14.heap n0 zz14 H14.2.2.2.2.1) hZ (hw _ (List.mem_of_getElem? (i := 45) rfl)) (hw _ (List.mem_of_getElem? (i := 3) rfl)) (by decide) (by decide)) q17a q17c (g := (mkF m 244 #[s0, s1, s2, s3, .val (.int i4), .val (.int i5), .val (.ref kk), .val (.ref o7), .val (.int (own_m i4)), .val (.int (own_m i5)), .val (.int (own_m i5)), .val (.int (own_m i4)), .val (.int (1 : Int32))] [(.ref o7)])) rfl (by rw [hml]; rfl) (Steps.refl _) (argsL := []) (rest := []) (lenOf pd_0_5 rfl) rfl (by show 2 * 0 + _ ≤ _; exact Nat.le_of_eq rfl) (hb hby at_244) (fun _ _ => ⟨rfl, rfl, (by decide : 4 + 0 ≤ 16), (by decide : 13 + 0 ≤ 128)⟩)
  dsimp only [Pt.U, Pt.locs, Pt.cells, Pt.slots] at X17 l17 y17 z17 st17 hQ17
  subst l17 y17 z17
  obtain ⟨rfl, N17q, w17⟩ := hQ17
  have K17c : Keep T14.heap T17.heap [] := by rw [w17]; exact Keep.refl _ _
  have zz17 : n0 ≤ T17.heap.size := by rw [w17]; exact zz14
  have H17 := H14
  rw [← w17] at H17
  have N17 := Fr.app N14 N17q
  refine ⟨T17, _, _, #[s0, s1, s2, s3, .val (.int i4), .val (.int i5), .val (.ref kk), .val (.ref o7), .val (.int (own_m i4)), .val (.int (own_m i5)), .val (.int (own_m i5)), .val (.int (own_m i4)), .val (.int (1 : Int32))], X17, rfl, N17, trivial, fun target kt => ?_⟩
  show Steps p.tables e below (T0.setTop (mkF m 79 #[s0, s1, s2, s3, .val (.int i4), .val (.int i5), .val (.ref kk), .val (.ref o7), .unset, .unset, .unset, .unset, .unset] [])) _
  refine XS.aload X0.here hx rfl (hb hby at_79) rfl rfl ?_
  show Steps p.tables e below (T0.setTop (mkF m 81 #[s0, s1, s2, s3, .val (.int i4), .val (.int i5), .val (.ref kk), .val (.ref o7), .unset, .unset, .unset, .unset, .unset] [(.ref o7)])) _
  refine st7.trans ?_
  show Steps p.tables e below (T7.setTop (mkF m 84 #[s0, s1, s2, s3, .val (.int i4), .val (.int i5), .val (.ref kk), .val (.ref o7), .unset, .unset, .unset, .unset, .unset] [])) _
  refine XS.aload X7.here hx rfl (hb hby at_84) rfl rfl ?_
  show Steps p.tables e below (T7.setTop (mkF m 86 #[s0, s1, s2, s3, .val (.int i4), .val (.int i5), .val (.ref kk), .val (.ref o7), .unset, .unset, .unset, .unset, .unset] [(.ref o7)])) _
  refine st8.trans ?_
  show Steps p.tables e below (T8.setTop (mkF m 89 #[s0, s1, s2, s3, .val (.int i4), .val (.int i5), .val (.ref kk), .val (.ref o7), .unset, .unset, .unset, .unset, .unset] [(.int (val8 o7 (0 : Int32)))])) _
  refine XS.ifYes X8.here hx rfl (pc0 := 89) (pc' := 94) rfl (hb hby at_89) rfl ((if0 _ _).trans (feq (by unfold val8; decide : ¬ ((val8 o7 (0 : Int32)) = (0 : Int32)))).2) (by decide) (by decide) ?_
  show Steps p.tables e below (T8.setTop (mkF m 94 #[s0, s1, s2, s3, .val (.int i4), .val (.int i5), .val (.ref kk), .val (.ref o7), .unset, .unset, .unset, .unset, .unset] [])) _
  refine XS.iload X8.here hx rfl (hb hby at_94) rfl ?_
  show Steps p.tables e below (T8.setTop (mkF m 96 #[s0, s1, s2, s3, .val (.int i4), .val (.int i5), .val (.ref kk), .val (.ref o7), .unset, .unset, .unset, .unset, .unset] [(.int i4)])) _
  refine X8.ldcInt hx hown (mvT hZ (hw _ (List.mem_of_getElem? (i := 46) rfl))) (g := (mkF m 96 #[s0, s1, s2, s3, .val (.int i4), .val (.int i5), .val (.ref kk), .val (.ref o7), .unset, .unset, .unset, .unset, .unset] [(.int i4)])) rfl (hb hby at_96) _ ?_
  show Steps p.tables e below (T8.setTop (mkF m 98 #[s0, s1, s2, s3, .val (.int i4), .val (.int i5), .val (.ref kk), .val (.ref o7), .unset, .unset, .unset, .unset, .unset] [(.int (2147483647 : Int32)), (.int i4)])) _
  refine XS.iand X8.here hx rfl (hb hby at_98) rfl ?_
  show Steps p.tables e below (T8.setTop (mkF m 99 #[s0, s1, s2, s3, .val (.int i4), .val (.int i5), .val (.ref kk), .val (.ref o7), .unset, .unset, .unset, .unset, .unset] [(.int (i4 &&& (2147483647 : Int32)))])) _
  refine XS.iconst X8.here hx rfl (hb hby at_99) ?_
  show Steps p.tables e below (T8.setTop (mkF m 100 #[s0, s1, s2, s3, .val (.int i4), .val (.int i5), .val (.ref kk), .val (.ref o7), .unset, .unset, .unset, .unset, .unset] [(.int (3 : Int32)), (.int (i4 &&& (2147483647 : Int32)))])) _
  refine XS.irem X8.here hx rfl (hb hby at_100) rfl (by decide) ?_
  show Steps p.tables e below (T8.setTop (mkF m 101 #[s0, s1, s2, s3, .val (.int i4), .val (.int i5), .val (.ref kk), .val (.ref o7), .unset, .unset, .unset, .unset, .unset] [(.int (own_m i4))])) _
  refine XS.istore X8.here hx rfl (hb hby at_101) rfl (l' := #[s0, s1, s2, s3, .val (.int i4), .val (.int i5), .val (.ref kk), .val (.ref o7), .val (.int (own_m i4)), .unset, .unset, .unset, .unset]) rfl ?_
  show Steps p.tables e below (T8.setTop (mkF m 103 #[s0, s1, s2, s3, .val (.int i4), .val (.int i5), .val (.ref kk), .val (.ref o7), .val (.int (own_m i4)), .unset, .unset, .unset, .unset] [])) _
  refine XS.iload X8.here hx rfl (hb hby at_103) rfl ?_
  show Steps p.tables e below (T8.setTop (mkF m 105 #[s0, s1, s2, s3, .val (.int i4), .val (.int i5), .val (.ref kk), .val (.ref o7), .val (.int (own_m i4)), .unset, .unset, .unset, .unset] [(.int i5)])) _
  refine X8.ldcInt hx hown (mvT hZ (hw _ (List.mem_of_getElem? (i := 46) rfl))) (g := (mkF m 105 #[s0, s1, s2, s3, .val (.int i4), .val (.int i5), .val (.ref kk), .val (.ref o7), .val (.int (own_m i4)), .unset, .unset, .unset, .unset] [(.int i5)])) rfl (hb hby at_105) _ ?_
  show Steps p.tables e below (T8.setTop (mkF m 107 #[s0, s1, s2, s3, .val (.int i4), .val (.int i5), .val (.ref kk), .val (.ref o7), .val (.int (own_m i4)), .unset, .unset, .unset, .unset] [(.int (2147483647 : Int32)), (.int i5)])) _
  refine XS.iand X8.here hx rfl (hb hby at_107) rfl ?_
  show Steps p.tables e below (T8.setTop (mkF m 108 #[s0, s1, s2, s3, .val (.int i4), .val (.int i5), .val (.ref kk), .val (.ref o7), .val (.int (own_m i4)), .unset, .unset, .unset, .unset] [(.int (i5 &&& (2147483647 : Int32)))])) _
  refine XS.iconst X8.here hx rfl (hb hby at_108) ?_
  show Steps p.tables e below (T8.setTop (mkF m 109 #[s0, s1, s2, s3, .val (.int i4), .val (.int i5), .val (.ref kk), .val (.ref o7), .val (.int (own_m i4)), .unset, .unset, .unset, .unset] [(.int (3 : Int32)), (.int (i5 &&& (2147483647 : Int32)))])) _
  refine XS.irem X8.here hx rfl (hb hby at_109) rfl (by decide) ?_
  show Steps p.tables e below (T8.setTop (mkF m 110 #[s0, s1, s2, s3, .val (.int i4), .val (.int i5), .val (.ref kk), .val (.ref o7), .val (.int (own_m i4)), .unset, .unset, .unset, .unset] [(.int (own_m i5))])) _
  refine XS.istore X8.here hx rfl (hb hby at_110) rfl (l' := #[s0, s1, s2, s3, .val (.int i4), .val (.int i5), .val (.ref kk), .val (.ref o7), .val (.int (own_m i4)), .val (.int (own_m i5)), .unset, .unset, .unset]) rfl ?_
  show Steps p.tables e below (T8.setTop (mkF m 112 #[s0, s1, s2, s3, .val (.int i4), .val (.int i5), .val (.ref kk), .val (.ref o7), .val (.int (own_m i4)), .val (.int (own_m i5)), .unset, .unset, .unset] [])) _
  refine XS.aload X8.here hx rfl (hb hby at_112) rfl rfl ?_
  show Steps p.tables e below (T8.setTop (mkF m 114 #[s0, s1, s2, s3, .val (.int i4), .val (.int i5), .val (.ref kk), .val (.ref o7), .val (.int (own_m i4)), .val (.int (own_m i5)), .unset, .unset, .unset] [(.ref o7)])) _
  refine XS.iload X8.here hx rfl (hb hby at_114) rfl ?_
  show Steps p.tables e below (T8.setTop (mkF m 116 #[s0, s1, s2, s3, .val (.int i4), .val (.int i5), .val (.ref kk), .val (.ref o7), .val (.int (own_m i4)), .val (.int (own_m i5)), .unset, .unset, .unset] [(.int (own_m i4)), (.ref o7)])) _
  refine st9.trans ?_
  show Steps p.tables e below (T9.setTop (mkF m 119 #[s0, s1, s2, s3, .val (.int i4), .val (.int i5), .val (.ref kk), .val (.ref o7), .val (.int (own_m i4)), .val (.int (own_m i5)), .unset, .unset, .unset] [])) _
  refine XS.aload X9.here hx rfl (hb hby at_119) rfl rfl ?_
  show Steps p.tables e below (T9.setTop (mkF m 121 #[s0, s1, s2, s3, .val (.int i4), .val (.int i5), .val (.ref kk), .val (.ref o7), .val (.int (own_m i4)), .val (.int (own_m i5)), .unset, .unset, .unset] [(.ref o7)])) _
  refine XS.iload X9.here hx rfl (hb hby at_121) rfl ?_
  show Steps p.tables e below (T9.setTop (mkF m 123 #[s0, s1, s2, s3, .val (.int i4), .val (.int i5), .val (.ref kk), .val (.ref o7), .val (.int (own_m i4)), .val (.int (own_m i5)), .unset, .unset, .unset] [(.int (own_m i5)), (.ref o7)])) _
  refine st10.trans ?_
  show Steps p.tables e below (T10.setTop (mkF m 126 #[s0, s1, s2, s3, .val (.int i4), .val (.int i5), .val (.ref kk), .val (.ref o7), .val (.int (own_m i4)), .val (.int (own_m i5)), .unset, .unset, .unset] [])) _
  refine XS.aload X10.here hx rfl (hb hby at_126) rfl rfl ?_
  show Steps p.tables e below (T10.setTop (mkF m 128 #[s0, s1, s2, s3, .val (.int i4), .val (.int i5), .val (.ref kk), .val (.ref o7), .val (.int (own_m i4)), .val (.int (own_m i5)), .unset, .unset, .unset] [(.ref o7)])) _
  refine st11.trans ?_
  show Steps p.tables e below (T11.setTop (mkF m 131 #[s0, s1, s2, s3, .val (.int i4), .val (.int i5), .val (.ref kk), .val (.ref o7), .val (.int (own_m i4)), .val (.int (own_m i5)), .unset, .unset, .unset] [(.int (val8 o7 (2 : Int32)))])) _
  refine XS.ifYes X11.here hx rfl (pc0 := 131) (pc' := 136) rfl (hb hby at_131) rfl ((if0 _ _).trans (teq (by unfold val8; decide : (val8 o7 (2 : Int32)) = (0 : Int32))).1) (by decide) (by decide) ?_
  show Steps p.tables e below (T11.setTop (mkF m 136 #[s0, s1, s2, s3, .val (.int i4), .val (.int i5), .val (.ref kk), .val (.ref o7), .val (.int (own_m i4)), .val (.int (own_m i5)), .unset, .unset, .unset] [])) _
  refine XS.aload X11.here hx rfl (hb hby at_136) rfl rfl ?_
  show Steps p.tables e below (T11.setTop (mkF m 138 #[s0, s1, s2, s3, .val (.int i4), .val (.int i5), .val (.ref kk), .val (.ref o7), .val (.int (own_m i4)), .val (.int (own_m i5)), .unset, .unset, .unset] [(.ref o7)])) _
  refine st12.trans ?_
  show Steps p.tables e below (T12.setTop (mkF m 141 #[s0, s1, s2, s3, .val (.int i4), .val (.int i5), .val (.ref kk), .val (.ref o7), .val (.int (own_m i4)), .val (.int (own_m i5)), .unset, .unset, .unset] [(.int (own_m i5))])) _
  refine XS.istore X12.here hx rfl (hb hby at_141) rfl (l' := #[s0, s1, s2, s3, .val (.int i4), .val (.int i5), .val (.ref kk), .val (.ref o7), .val (.int (own_m i4)), .val (.int (own_m i5)), .val (.int (own_m i5)), .unset, .unset]) rfl ?_
  show Steps p.tables e below (T12.setTop (mkF m 143 #[s0, s1, s2, s3, .val (.int i4), .val (.int i5), .val (.ref kk), .val (.ref o7), .val (.int (own_m i4)), .val (.int (own_m i5)), .val (.int (own_m i5)), .unset, .unset] [])) _
  refine XS.iload X12.here hx rfl (hb hby at_143) rfl ?_
  show Steps p.tables e below (T12.setTop (mkF m 145 #[s0, s1, s2, s3, .val (.int i4), .val (.int i5), .val (.ref kk), .val (.ref o7), .val (.int (own_m i4)), .val (.int (own_m i5)), .val (.int (own_m i5)), .unset, .unset] [(.int (own_m i4))])) _
  refine XS.iload X12.here hx rfl (hb hby at_145) rfl ?_
  show Steps p.tables e below (T12.setTop (mkF m 147 #[s0, s1, s2, s3, .val (.int i4), .val (.int i5), .val (.ref kk), .val (.ref o7), .val (.int (own_m i4)), .val (.int (own_m i5)), .val (.int (own_m i5)), .unset, .unset] [(.int (own_m i5)), (.int (own_m i4))])) _
  refine XS.icmpYes X12.here hx rfl (pc0 := 147) (pc' := 171) rfl (hb hby at_147) rfl (feq hc147).2 (by decide) (by decide) ?_
  show Steps p.tables e below (T12.setTop (mkF m 171 #[s0, s1, s2, s3, .val (.int i4), .val (.int i5), .val (.ref kk), .val (.ref o7), .val (.int (own_m i4)), .val (.int (own_m i5)), .val (.int (own_m i5)), .unset, .unset] [])) _
  refine XS.aload X12.here hx rfl (hb hby at_171) rfl rfl ?_
  show Steps p.tables e below (T12.setTop (mkF m 173 #[s0, s1, s2, s3, .val (.int i4), .val (.int i5), .val (.ref kk), .val (.ref o7), .val (.int (own_m i4)), .val (.int (own_m i5)), .val (.int (own_m i5)), .unset, .unset] [(.ref o7)])) _
  refine st13.trans ?_
  show Steps p.tables e below (T13.setTop (mkF m 176 #[s0, s1, s2, s3, .val (.int i4), .val (.int i5), .val (.ref kk), .val (.ref o7), .val (.int (own_m i4)), .val (.int (own_m i5)), .val (.int (own_m i5)), .unset, .unset] [(.int (val8 o7 ((2 : Int32) - (1 : Int32))))])) _
  refine XS.ifYes X13.here hx rfl (pc0 := 176) (pc' := 181) rfl (hb hby at_176) rfl ((if0 _ _).trans (teq (by unfold val8; decide : (val8 o7 ((2 : Int32) - (1 : Int32))) = (0 : Int32))).1) (by decide) (by decide) ?_
  show Steps p.tables e below (T13.setTop (mkF m 181 #[s0, s1, s2, s3, .val (.int i4), .val (.int i5), .val (.ref kk), .val (.ref o7), .val (.int (own_m i4)), .val (.int (own_m i5)), .val (.int (own_m i5)), .unset, .unset] [])) _
  refine XS.aload X13.here hx rfl (hb hby at_181) rfl rfl ?_
  show Steps p.tables e below (T13.setTop (mkF m 183 #[s0, s1, s2, s3, .val (.int i4), .val (.int i5), .val (.ref kk), .val (.ref o7), .val (.int (own_m i4)), .val (.int (own_m i5)), .val (.int (own_m i5)), .unset, .unset] [(.ref o7)])) _
  refine st14.trans ?_
  show Steps p.tables e below (T14.setTop (mkF m 186 #[s0, s1, s2, s3, .val (.int i4), .val (.int i5), .val (.ref kk), .val (.ref o7), .val (.int (own_m i4)), .val (.int (own_m i5)), .val (.int (own_m i5)), .unset, .unset] [(.int (own_m i4))])) _
  refine XS.istore X14.here hx rfl (hb hby at_186) rfl (l' := #[s0, s1, s2, s3, .val (.int i4), .val (.int i5), .val (.ref kk), .val (.ref o7), .val (.int (own_m i4)), .val (.int (own_m i5)), .val (.int (own_m i5)), .val (.int (own_m i4)), .unset]) rfl ?_
  show Steps p.tables e below (T14.setTop (mkF m 188 #[s0, s1, s2, s3, .val (.int i4), .val (.int i5), .val (.ref kk), .val (.ref o7), .val (.int (own_m i4)), .val (.int (own_m i5)), .val (.int (own_m i5)), .val (.int (own_m i4)), .unset] [])) _
  refine XS.iload X14.here hx rfl (hb hby at_188) rfl ?_
  show Steps p.tables e below (T14.setTop (mkF m 190 #[s0, s1, s2, s3, .val (.int i4), .val (.int i5), .val (.ref kk), .val (.ref o7), .val (.int (own_m i4)), .val (.int (own_m i5)), .val (.int (own_m i5)), .val (.int (own_m i4)), .unset] [(.int (own_m i5))])) _
  refine XS.iload X14.here hx rfl (hb hby at_190) rfl ?_
  show Steps p.tables e below (T14.setTop (mkF m 192 #[s0, s1, s2, s3, .val (.int i4), .val (.int i5), .val (.ref kk), .val (.ref o7), .val (.int (own_m i4)), .val (.int (own_m i5)), .val (.int (own_m i5)), .val (.int (own_m i4)), .unset] [(.int (own_m i4)), (.int (own_m i5))])) _
  refine XS.icmpYes X14.here hx rfl (pc0 := 192) (pc' := 202) rfl (hb hby at_192) rfl (feq (fun q => hc147 q.symm)).2 (by decide) (by decide) ?_
  show Steps p.tables e below (T14.setTop (mkF m 202 #[s0, s1, s2, s3, .val (.int i4), .val (.int i5), .val (.ref kk), .val (.ref o7), .val (.int (own_m i4)), .val (.int (own_m i5)), .val (.int (own_m i5)), .val (.int (own_m i4)), .unset] [])) _
  refine XS.iload X14.here hx rfl (hb hby at_202) rfl ?_
  show Steps p.tables e below (T14.setTop (mkF m 204 #[s0, s1, s2, s3, .val (.int i4), .val (.int i5), .val (.ref kk), .val (.ref o7), .val (.int (own_m i4)), .val (.int (own_m i5)), .val (.int (own_m i5)), .val (.int (own_m i4)), .unset] [(.int (own_m i5))])) _
  refine XS.iload X14.here hx rfl (hb hby at_204) rfl ?_
  show Steps p.tables e below (T14.setTop (mkF m 206 #[s0, s1, s2, s3, .val (.int i4), .val (.int i5), .val (.ref kk), .val (.ref o7), .val (.int (own_m i4)), .val (.int (own_m i5)), .val (.int (own_m i5)), .val (.int (own_m i4)), .unset] [(.int (own_m i5)), (.int (own_m i5))])) _
  refine XS.icmpNo X14.here hx rfl (hb hby at_206) rfl (teq (rfl : (own_m i5) = (own_m i5))).2 ?_
  show Steps p.tables e below (T14.setTop (mkF m 209 #[s0, s1, s2, s3, .val (.int i4), .val (.int i5), .val (.ref kk), .val (.ref o7), .val (.int (own_m i4)), .val (.int (own_m i5)), .val (.int (own_m i5)), .val (.int (own_m i4)), .unset] [])) _
  refine XS.iload X14.here hx rfl (hb hby at_209) rfl ?_
  show Steps p.tables e below (T14.setTop (mkF m 211 #[s0, s1, s2, s3, .val (.int i4), .val (.int i5), .val (.ref kk), .val (.ref o7), .val (.int (own_m i4)), .val (.int (own_m i5)), .val (.int (own_m i5)), .val (.int (own_m i4)), .unset] [(.int (own_m i4))])) _
  refine XS.iload X14.here hx rfl (hb hby at_211) rfl ?_
  show Steps p.tables e below (T14.setTop (mkF m 213 #[s0, s1, s2, s3, .val (.int i4), .val (.int i5), .val (.ref kk), .val (.ref o7), .val (.int (own_m i4)), .val (.int (own_m i5)), .val (.int (own_m i5)), .val (.int (own_m i4)), .unset] [(.int (own_m i4)), (.int (own_m i4))])) _
  refine XS.icmpNo X14.here hx rfl (hb hby at_213) rfl (teq (rfl : (own_m i4) = (own_m i4))).2 ?_
  show Steps p.tables e below (T14.setTop (mkF m 216 #[s0, s1, s2, s3, .val (.int i4), .val (.int i5), .val (.ref kk), .val (.ref o7), .val (.int (own_m i4)), .val (.int (own_m i5)), .val (.int (own_m i5)), .val (.int (own_m i4)), .unset] [])) _
  refine XS.iconst X14.here hx rfl (hb hby at_216) ?_
  show Steps p.tables e below (T14.setTop (mkF m 217 #[s0, s1, s2, s3, .val (.int i4), .val (.int i5), .val (.ref kk), .val (.ref o7), .val (.int (own_m i4)), .val (.int (own_m i5)), .val (.int (own_m i5)), .val (.int (own_m i4)), .unset] [(.int (1 : Int32))])) _
  refine XS.goto X14.here hx rfl (pc0 := 217) (pc' := 221) rfl (hb hby at_217) (by decide) (by decide) ?_
  show Steps p.tables e below (T14.setTop (mkF m 221 #[s0, s1, s2, s3, .val (.int i4), .val (.int i5), .val (.ref kk), .val (.ref o7), .val (.int (own_m i4)), .val (.int (own_m i5)), .val (.int (own_m i5)), .val (.int (own_m i4)), .unset] [(.int (1 : Int32))])) _
  refine XS.istore X14.here hx rfl (hb hby at_221) rfl (l' := #[s0, s1, s2, s3, .val (.int i4), .val (.int i5), .val (.ref kk), .val (.ref o7), .val (.int (own_m i4)), .val (.int (own_m i5)), .val (.int (own_m i5)), .val (.int (own_m i4)), .val (.int (1 : Int32))]) rfl ?_
  show Steps p.tables e below (T14.setTop (mkF m 223 #[s0, s1, s2, s3, .val (.int i4), .val (.int i5), .val (.ref kk), .val (.ref o7), .val (.int (own_m i4)), .val (.int (own_m i5)), .val (.int (own_m i5)), .val (.int (own_m i4)), .val (.int (1 : Int32))] [])) _
  refine XS.iload X14.here hx rfl (hb hby at_223) rfl ?_
  show Steps p.tables e below (T14.setTop (mkF m 225 #[s0, s1, s2, s3, .val (.int i4), .val (.int i5), .val (.ref kk), .val (.ref o7), .val (.int (own_m i4)), .val (.int (own_m i5)), .val (.int (own_m i5)), .val (.int (own_m i4)), .val (.int (1 : Int32))] [(.int (1 : Int32))])) _
  refine XS.ifNo X14.here hx rfl (hb hby at_225) rfl ((if0 _ _).trans (feq (show ¬ ((1 : Int32) = (0 : Int32)) by decide)).1) ?_
  show Steps p.tables e below (T14.setTop (mkF m 228 #[s0, s1, s2, s3, .val (.int i4), .val (.int i5), .val (.ref kk), .val (.ref o7), .val (.int (own_m i4)), .val (.int (own_m i5)), .val (.int (own_m i5)), .val (.int (own_m i4)), .val (.int (1 : Int32))] [])) _
  refine XS.aload X14.here hx rfl (hb hby at_228) rfl rfl ?_
  show Steps p.tables e below (T14.setTop (mkF m 230 #[s0, s1, s2, s3, .val (.int i4), .val (.int i5), .val (.ref kk), .val (.ref o7), .val (.int (own_m i4)), .val (.int (own_m i5)), .val (.int (own_m i5)), .val (.int (own_m i4)), .val (.int (1 : Int32))] [(.ref kk)])) _
  refine XS.iload X14.here hx rfl (hb hby at_230) rfl ?_
  show Steps p.tables e below (T14.setTop (mkF m 232 #[s0, s1, s2, s3, .val (.int i4), .val (.int i5), .val (.ref kk), .val (.ref o7), .val (.int (own_m i4)), .val (.int (own_m i5)), .val (.int (own_m i5)), .val (.int (own_m i4)), .val (.int (1 : Int32))] [(.int (own_m i5)), (.ref kk)])) _
  refine X14.daload hx (j := (own_m i5)) (v := (.double (FP.l2d (ky (own_m i5))))) Ar_kk.1 (State.isArrayOf_alike hZ.alike Ar_kk.2.1) Ar_kk.2.2 hin232 hat232 (g := (mkF m 232 #[s0, s1, s2, s3, .val (.int i4), .val (.int i5), .val (.ref kk), .val (.ref o7), .val (.int (own_m i4)), .val (.int (own_m i5)), .val (.int (own_m i5)), .val (.int (own_m i4)), .val (.int (1 : Int32))] [(.int (own_m i5)), (.ref kk)])) rfl rfl (hb hby at_232) _ ?_
  show Steps p.tables e below (T14.setTop (mkF m 233 #[s0, s1, s2, s3, .val (.int i4), .val (.int i5), .val (.ref kk), .val (.ref o7), .val (.int (own_m i4)), .val (.int (own_m i5)), .val (.int (own_m i5)), .val (.int (own_m i4)), .val (.int (1 : Int32))] [(.double (FP.l2d (ky (own_m i5))))])) _
  refine XS.aload X14.here hx rfl (hb hby at_233) rfl rfl ?_
  show Steps p.tables e below (T14.setTop (mkF m 235 #[s0, s1, s2, s3, .val (.int i4), .val (.int i5), .val (.ref kk), .val (.ref o7), .val (.int (own_m i4)), .val (.int (own_m i5)), .val (.int (own_m i5)), .val (.int (own_m i4)), .val (.int (1 : Int32))] [(.ref kk), (.double (FP.l2d (ky (own_m i5))))])) _
  refine XS.iload X14.here hx rfl (hb hby at_235) rfl ?_
  show Steps p.tables e below (T14.setTop (mkF m 237 #[s0, s1, s2, s3, .val (.int i4), .val (.int i5), .val (.ref kk), .val (.ref o7), .val (.int (own_m i4)), .val (.int (own_m i5)), .val (.int (own_m i5)), .val (.int (own_m i4)), .val (.int (1 : Int32))] [(.int (own_m i4)), (.ref kk), (.double (FP.l2d (ky (own_m i5))))])) _
  refine X14.daload hx (j := (own_m i4)) (v := (.double (FP.l2d (ky (own_m i4))))) Ar_kk.1 (State.isArrayOf_alike hZ.alike Ar_kk.2.1) Ar_kk.2.2 hin237 hat237 (g := (mkF m 237 #[s0, s1, s2, s3, .val (.int i4), .val (.int i5), .val (.ref kk), .val (.ref o7), .val (.int (own_m i4)), .val (.int (own_m i5)), .val (.int (own_m i5)), .val (.int (own_m i4)), .val (.int (1 : Int32))] [(.int (own_m i4)), (.ref kk), (.double (FP.l2d (ky (own_m i5))))])) rfl rfl (hb hby at_237) _ ?_
  show Steps p.tables e below (T14.setTop (mkF m 238 #[s0, s1, s2, s3, .val (.int i4), .val (.int i5), .val (.ref kk), .val (.ref o7), .val (.int (own_m i4)), .val (.int (own_m i5)), .val (.int (own_m i5)), .val (.int (own_m i4)), .val (.int (1 : Int32))] [(.double (FP.l2d (ky (own_m i4)))), (.double (FP.l2d (ky (own_m i5))))])) _
  refine XS.dcmpS X14.here hx rfl (hb hby at_238) rfl (dcmpV_w (H_kk _ vp).2 (H_kk _ vq).2 .g) ?_
  show Steps p.tables e below (T14.setTop (mkF m 239 #[s0, s1, s2, s3, .val (.int i4), .val (.int i5), .val (.ref kk), .val (.ref o7), .val (.int (own_m i4)), .val (.int (own_m i5)), .val (.int (own_m i5)), .val (.int (own_m i4)), .val (.int (1 : Int32))] [(.int (lcmpW (ky (own_m i5)) (ky (own_m i4))))])) _
  refine XS.ifNo X14.here hx rfl (hb hby at_239) rfl ((if0 _ _).trans (flt hc239).2.2.1) ?_
  show Steps p.tables e below (T14.setTop (mkF m 242 #[s0, s1, s2, s3, .val (.int i4), .val (.int i5), .val (.ref kk), .val (.ref o7), .val (.int (own_m i4)), .val (.int (own_m i5)), .val (.int (own_m i5)), .val (.int (own_m i4)), .val (.int (1 : Int32))] [])) _
  refine XS.aload X14.here hx rfl (hb hby at_242) rfl rfl ?_
  show Steps p.tables e below (T14.setTop (mkF m 244 #[s0, s1, s2, s3, .val (.int i4), .val (.int i5), .val (.ref kk), .val (.ref o7), .val (.int (own_m i4)), .val (.int (own_m i5)), .val (.int (own_m i5)), .val (.int (own_m i4)), .val (.int (1 : Int32))] [(.ref o7)])) _
  refine st17.trans ?_
  show Steps p.tables e below (T17.setTop (mkF m 247 #[s0, s1, s2, s3, .val (.int i4), .val (.int i5), .val (.ref kk), .val (.ref o7), .val (.int (own_m i4)), .val (.int (own_m i5)), .val (.int (own_m i5)), .val (.int (own_m i4)), .val (.int (1 : Int32))] [(.int (val8 o7 (((2 : Int32) - (1 : Int32)) - (1 : Int32))))])) _
  refine XS.ifNo X17.here hx rfl (hb hby at_247) rfl ((if0 _ _).trans (feq (by unfold val8; decide : ¬ ((val8 o7 (((2 : Int32) - (1 : Int32)) - (1 : Int32))) = (0 : Int32)))).1) ?_
  show Steps p.tables e below (T17.setTop (mkF m 250 #[s0, s1, s2, s3, .val (.int i4), .val (.int i5), .val (.ref kk), .val (.ref o7), .val (.int (own_m i4)), .val (.int (own_m i5)), .val (.int (own_m i5)), .val (.int (own_m i4)), .val (.int (1 : Int32))] [])) _
  refine XS.iconst X17.here hx rfl (hb hby at_250) ?_
  show Steps p.tables e below (T17.setTop (mkF m 251 #[s0, s1, s2, s3, .val (.int i4), .val (.int i5), .val (.ref kk), .val (.ref o7), .val (.int (own_m i4)), .val (.int (own_m i5)), .val (.int (own_m i5)), .val (.int (own_m i4)), .val (.int (1 : Int32))] [(.int (1 : Int32))])) _
  refine XS.goto X17.here hx rfl (pc0 := 251) (pc' := 255) rfl (hb hby at_251) (by decide) (by decide) ?_
  exact kt
theorem own_b {p : Program} {l : Launch} {e : Env} {s : State} {m : MethodId} {args : Array Value} {below : List Frame} {meth : Method} {c : Code} {T0 : State} {locs : List Loc} {Z : State} {a0 : Array Value} {h0 : Heap} {n0 : Nat} (s0 s1 s2 s3 : Slot) (i4 i5 : Int32) (o7 : Addr) (kk qq ww : Addr) (sz : Int32) (ky : Int32 → Int64) (fh gp : Int32 → Int32) (X0 : Stand p l e room_1 s m args below meth c T0 locs 4 13) (hx : p.tables.exec = Jvm.exec) (hZ : Z.Warmed39 s.vm) (hw : ∀ d ∈ tables_1, d.before a0 Z = true) (hby : c.code = code) (hml : c.maxLocals = 13) (hown : s.vm.findClass "com/example/slotweave/slotweave/alloc/NodeHeapClearPinLaw" = some m.cls) (e0 : T0.heap = h0) (N0 : Fr n0 locs) (Z0 : n0 ≤ h0.size) (H : own_H Z h0 o7 kk qq ww sz ky fh gp) (NN : own_N n0 o7 kk qq ww) (I : own_inv sz fh gp) :
    ∃ (T' : State) (h' : Heap) (L' : List Loc) (Ls' : Array Slot) (pc' : Nat), decode c.code pc' = .ok (.ireturn, 1) ∧ Stand p l e room_1 s m args below meth c T' L' 4 13 ∧ T'.heap = h' ∧ Fr n0 L' ∧
      ∀ target, Steps p.tables e below (T'.setTop (mkF m pc' Ls' [(.int (1 : Int32))])) target → Steps p.tables e below (T0.setTop (mkF m 79 #[s0, s1, s2, s3, .val (.int i4), .val (.int i5), .val (.ref kk), .val (.ref o7), .unset, .unset, .unset, .unset, .unset] [])) target := by
  by_cases hc147 : own_m i4 = own_m i5
  · obtain ⟨T', h', L', Ls', X', e', N', -, st⟩ := own_bE s0 s1 s2 s3 i4 i5 o7 kk qq ww sz ky fh gp X0 hx hZ hw hby hml hown e0 N0 Z0 H NN I hc147
    exact ⟨T', h', L', Ls', _, hb hby at_170, X', e', N', st⟩
  · by_cases hsw : (0 : Int32) < lcmpW (ky (own_m i4)) (ky (own_m i5))
    · obtain ⟨T', h', L', Ls', X', e', N', -, st⟩ := own_bN2 s0 s1 s2 s3 i4 i5 o7 kk qq ww sz ky fh gp X0 hx hZ hw hby hml hown e0 N0 Z0 H NN I hc147 hsw
      exact ⟨T', h', L', Ls', _, hb hby at_255, X', e', N', st⟩
    · obtain ⟨T', h', L', Ls', X', e', N', -, st⟩ := own_bN1 s0 s1 s2 s3 i4 i5 o7 kk qq ww sz ky fh gp X0 hx hZ hw hby hml hown e0 N0 Z0 H NN I hc147 hsw
      exact ⟨T', h', L', Ls', _, hb hby at_255, X', e', N', st⟩
def own_ky (p1 p2 p3 : Int32) : Int32 → Int64 := fun i => if i = 0 then (p1 - (p1 / (100 : Int32)) * (100 : Int32)).toInt64 else if i = 1 then (p2 - (p2 / (100 : Int32)) * (100 : Int32)).toInt64 else (p3 - (p3 / (100 : Int32)) * (100 : Int32)).toInt64
theorem own_keys {Z : State} {h : Heap} {b : Addr} {k : ClassId} {p1 p2 p3 : Int32} {d : Value} (V : Arv Z h b k .double (3 : Int32) [(.double (FP.l2d ((p1 - (p1 / (100 : Int32)) * (100 : Int32)).toInt64))), (.double (FP.l2d ((p2 - (p2 / (100 : Int32)) * (100 : Int32)).toInt64))), (.double (FP.l2d ((p3 - (p3 / (100 : Int32)) * (100 : Int32)).toInt64)))] d) : own_D Z h b (own_ky p1 p2 p3) := by
  obtain ⟨c, A, -, S, -, H, -⟩ := V
  have S' : c.slots.size = 3 := S
  refine ⟨c, A, S', fun i hi => ?_⟩
  rcases hi with rfl | rfl | rfl
  · exact ⟨H 0 (by rw [S']; decide), own_b53 _⟩
  · exact ⟨H 1 (by rw [S']; decide), own_b53 _⟩
  · exact ⟨H 2 (by rw [S']; decide), own_b53 _⟩
theorem pn_0 : plainName "com/example/slotweave/slotweave/alloc/NodeHeapClearPinLaw" = true := by first | (simp [plainName, overriddenIn]; done) | decide +kernel
theorem pd_0_0 : parseMethodDescriptor "([D)V" = some ⟨[(.array .double)], none⟩ := by decide +kernel
theorem ef_0 (m : MethodId) (x0 : Int32) (x1 : Int32) (x2 : Int32) (x3 : Int32) (x4 : Int32) (x5 : Int32) : entryFrame m #[(.int x0), (.int x1), (.int x2), (.int x3), (.int x4), (.int x5)] maxLocals = mkF m 0 #[.val (.int x0), .val (.int x1), .val (.int x2), .val (.int x3), .val (.int x4), .val (.int x5), .unset, .unset, .unset, .unset, .unset, .unset, .unset] [] := by first | (simp [entryFrame, mkF, argsToLocals, Value.category, maxLocals]; done) | rfl
def Q0 (Z : State) (p1 : Int32) (p2 : Int32) (p3 : Int32) (p4 : Int32) (p5 : Int32) (p6 : Int32) (h0 : Heap) (n0 : Nat) (v : Option Value) (h : Heap) (L : List Loc) : Prop := v = some (.int (1 : Int32)) ∧ Fr n0 L
set_option maxRecDepth 65536 in
set_option maxHeartbeats 40000000 in
theorem rm0 (l : Launch) (Z : State) (a0 : Array Value) (hw : ∀ d ∈ tables_1, d.before a0 Z = true) (ws : List Jvm.Cond) (p1 : Int32) (p2 : Int32) (p3 : Int32) (p4 : Int32) (p5 : Int32) (p6 : Int32) (h0 : Heap) (n0 : Nat) (Z0 : n0 ≤ h0.size) :
    MetFree l x (head1 (Jvm.Cond.code x code maxLocals ret :: ws) room_1) (fun a U => a = #[(.int p1), (.int p2), (.int p3), (.int p4), (.int p5), (.int p6)] ∧ Z.Warmed39 U.vm ∧ U.heap = h0) (fun _ _ _ _ _ => True) (fun _ U o U' => ∃ v L, o = .returned v ∧ Q0 Z p1 p2 p3 p4 p5 p6 h0 n0 v U'.heap L ∧ FrameEnd U o U' L room_1.cells room_1.slots) := by
  refine MetFree.of_bodySF (plainFor_of_name pn_0) hisR ?_
  intro p e s m args below meth c s₁ Bd hml0 hP hK
  obtain ⟨rfl, hZ, hh⟩ := hP
  have hx := Bd.exec
  have hby := Bd.bytes
  have hml : c.maxLocals = 13 := hml0
  have hown : s.vm.findClass "com/example/slotweave/slotweave/alloc/NodeHeapClearPinLaw" = some m.cls := findClass_of_methodNamed Bd.named
  have hnm := (name_of_methodNamed Bd.named Bd.method).1
  have X0 : Stand p l e room_1 s m #[(.int p1), (.int p2), (.int p3), (.int p4), (.int p5), (.int p6)] below meth c s₁ [] 0 0 := Stand.of_body Bd
  have e0 : s₁.heap = h0 := by rw [← hh, Bd.state]; rfl
  have N0 := Fr.nil n0
  have pre0 : ∀ t, Steps p.tables e below (s₁.setTop (mkF m 0 #[.val (.int p1), .val (.int p2), .val (.int p3), .val (.int p4), .val (.int p5), .val (.int p6), .unset, .unset, .unset, .unset, .unset, .unset, .unset] [])) t → Steps p.tables e below (s₁.setTop (entryFrame m #[(.int p1), (.int p2), (.int p3), (.int p4), (.int p5), (.int p6)] maxLocals)) t := fun t k => castTop (ef_0 m p1 p2 p3 p4 p5 p6) k
  obtain ⟨T7, h7, k7, X7, e7, E7, A7, st7⟩ := newP X0 hx hZ (hw _ (List.mem_of_getElem? (i := 0) rfl)) e0 (g := (mkF m 1 #[.val (.int p1), .val (.int p2), .val (.int p3), .val (.int p4), .val (.int p5), .val (.int p6), .unset, .unset, .unset, .unset, .unset, .unset, .unset] [(.int (3 : Int32))])) rfl (hb hby at_1) rfl (by decide) (cap := 3) (by decide) (by decide) (by decide) (by decide)
  obtain ⟨b7, g7⟩ : ∃ z, z = h0.size := ⟨_, rfl⟩
  rw [← g7] at A7 st7
  have V_b7 : Arv Z h7 b7 k7 .double (3 : Int32) [(.double (FP.l2d 0)), (.double (FP.l2d 0)), (.double (FP.l2d 0))] (.double (FP.l2d 0)) := (Arv.newD A7 (by decide)).pad (pad_rep [] (.double (FP.l2d 0)) 3)
  have g_b7 : n0 ≤ b7 := Nat.le_trans Z0 (Nat.le_of_eq g7.symm)
  have sz_b7 : h0.size ≤ b7 := (Nat.le_trans (Keep.refl h0 []).1 (Nat.le_of_eq g7.symm))
  have K7 : Keep h0 h7 [] := (Keep.refl h0 []).ext E7
  obtain ⟨cl_b7_13, Ar_b7, q_b7, S_b7, N_b7, H_b7, G_b7⟩ := V_b7
  have hin13 : ¬ ((0 : Int32) < 0 ∨ cl_b7_13.slots.size ≤ ((0 : Int32)).toNatClampNeg) := inb_of S_b7 ⟨by decide, by decide⟩
  obtain ⟨T8, h8, X8, e8, W8, st8⟩ := stD X7 hx hZ e7 Ar_b7 (j := (0 : Int32)) hin13 (g := (mkF m 13 #[.val (.int p1), .val (.int p2), .val (.int p3), .val (.int p4), .val (.int p5), .val (.int p6), .val (.ref b7), .unset, .unset, .unset, .unset, .unset, .unset] [(.double (FP.l2d ((p1 - (p1 / (100 : Int32)) * (100 : Int32)).toInt64))), (.int (0 : Int32)), (.ref b7)])) rfl rfl (hb hby at_13)
  have V_b7_8 := Arv.set Ar_b7 q_b7 S_b7 N_b7 H_b7 G_b7 rfl W8 0 rfl (Nat.le_of_ble_eq_true rfl)
  have K8 : Keep h0 h8 [] := K7.wr W8 (Or.inr sz_b7)
  have N8 := Fr.snoc X8 N0 g_b7
  obtain ⟨cl_b7_22, Ar_b7, q_b7, S_b7, N_b7, H_b7, G_b7⟩ := V_b7_8
  have hin22 : ¬ ((1 : Int32) < 0 ∨ cl_b7_22.slots.size ≤ ((1 : Int32)).toNatClampNeg) := inb_of S_b7 ⟨by decide, by decide⟩
  obtain ⟨T9, h9, X9, e9, W9, st9⟩ := stD X8 hx hZ e8 Ar_b7 (j := (1 : Int32)) hin22 (g := (mkF m 22 #[.val (.int p1), .val (.int p2), .val (.int p3), .val (.int p4), .val (.int p5), .val (.int p6), .val (.ref b7), .unset, .unset, .unset, .unset, .unset, .unset] [(.double (FP.l2d ((p2 - (p2 / (100 : Int32)) * (100 : Int32)).toInt64))), (.int (1 : Int32)), (.ref b7)])) rfl rfl (hb hby at_22)
  have V_b7_9 := Arv.set Ar_b7 q_b7 S_b7 N_b7 H_b7 G_b7 rfl W9 1 rfl (Nat.le_of_ble_eq_true rfl)
  have K9 : Keep h0 h9 [] := K8.wr W9 (Or.inr sz_b7)
  have N9 := Fr.snoc X9 N8 g_b7
  obtain ⟨cl_b7_31, Ar_b7, q_b7, S_b7, N_b7, H_b7, G_b7⟩ := V_b7_9
  have hin31 : ¬ ((2 : Int32) < 0 ∨ cl_b7_31.slots.size ≤ ((2 : Int32)).toNatClampNeg) := inb_of S_b7 ⟨by decide, by decide⟩
  obtain ⟨T10, h10, X10, e10, W10, st10⟩ := stD X9 hx hZ e9 Ar_b7 (j := (2 : Int32)) hin31 (g := (mkF m 31 #[.val (.int p1), .val (.int p2), .val (.int p3), .val (.int p4), .val (.int p5), .val (.int p6), .val (.ref b7), .unset, .unset, .unset, .unset, .unset, .unset] [(.double (FP.l2d ((p3 - (p3 / (100 : Int32)) * (100 : Int32)).toInt64))), (.int (2 : Int32)), (.ref b7)])) rfl rfl (hb hby at_31)
  have V_b7_10 := Arv.set Ar_b7 q_b7 S_b7 N_b7 H_b7 G_b7 rfl W10 2 rfl (Nat.le_of_ble_eq_true rfl)
  have K10 : Keep h0 h10 [] := K9.wr W10 (Or.inr sz_b7)
  have N10 := Fr.snoc X10 N9 g_b7
  obtain ⟨T11, h11, X11, e11, E11, A11, D11, -, st11⟩ := newO X10 hx hZ hown (hw _ (List.mem_of_getElem? (i := 1) rfl)) (hw _ (List.mem_of_getElem? (i := 2) rfl)) (hw _ (List.mem_of_getElem? (i := 3) rfl)) e10 (g := (mkF m 32 #[.val (.int p1), .val (.int p2), .val (.int p3), .val (.int p4), .val (.int p5), .val (.int p6), .val (.ref b7), .unset, .unset, .unset, .unset, .unset, .unset] [])) rfl (hb hby at_32) (by decide) (by decide)
  obtain ⟨b11, g11⟩ : ∃ z, z = h10.size := ⟨_, rfl⟩
  rw [← g11] at A11 D11 st11
  have F_keys_b11 : Fld Z h11 b11 "com/example/slotweave/slotweave/alloc/NodeHeap" "keys" "[D" .null := D11 (Or.inr (hw _ (List.mem_of_getElem? (i := 11) rfl))) (ty := (.array .double)) (by decide)
  have F_heap_b11 : Fld Z h11 b11 "com/example/slotweave/slotweave/alloc/NodeHeap" "heap" "[I" .null := D11 (Or.inr (hw _ (List.mem_of_getElem? (i := 14) rfl))) (ty := (.array .int)) (by decide)
  have F_place_b11 : Fld Z h11 b11 "com/example/slotweave/slotweave/alloc/NodeHeap" "place" "[I" .null := D11 (Or.inr (hw _ (List.mem_of_getElem? (i := 16) rfl))) (ty := (.array .int)) (by decide)
  have F_size_b11 : Fld Z h11 b11 "com/example/slotweave/slotweave/alloc/NodeHeap" "size" "I" (.int (0 : Int32)) := D11 (Or.inl (hw _ (List.mem_of_getElem? (i := 27) rfl))) (ty := .int) (by decide)
  have E_b11 := A11
  have g_b11 : n0 ≤ b11 := Nat.le_trans (Nat.le_trans (Nat.le_trans (Nat.le_trans (Nat.le_trans Z0 E7.1) (Keep.of_wr W8).1) (Keep.of_wr W9).1) (Keep.of_wr W10).1) (Nat.le_of_eq g11.symm)
  have sz_b11 : h0.size ≤ b11 := (Nat.le_trans K10.1 (Nat.le_of_eq g11.symm))
  have K11 : Keep h0 h11 [] := K10.ext E11
  have n_kb : b7 ≠ b11 := fun q => Nat.lt_irrefl _ (Nat.lt_of_lt_of_le V_b7_10.lt (q ▸ Nat.le_of_eq g11.symm))
  have D11k := (own_keys V_b7_10).ext E11
  obtain ⟨_, _, ⟨T12, L12, k12, n12⟩, -, X12, ⟨Lc12, hQ12, l12, y12, z12⟩, st12⟩ := X11.specialBack hx (y := (⟨"com/example/slotweave/slotweave/alloc/NodeHeap", "<init>", "([D)V"⟩ : MethodName)) rfl hown (mvT hZ (hw _ (List.mem_of_getElem? (i := 4) rfl))) (mvT hZ (hw _ (List.mem_of_getElem? (i := 5) rfl))) (mvT hZ (hw _ (List.mem_of_getElem? (i := 6) rfl))) (by decide) (backOf (W := 1) (rm1 l Z a0 hw [] b11 b7 _ _ _ (own_ky p1 p2 p3) h11 n0 (Nat.le_trans Z0 K11.1) E_b11 F_keys_b11 g_b11 F_heap_b11 F_place_b11 F_size_b11 D11k n_kb) hZ (hw _ (List.mem_of_getElem? (i := 6) rfl)) (hw _ (List.mem_of_getElem? (i := 3) rfl)) (by decide) (by decide)) (g := (mkF m 38 #[.val (.int p1), .val (.int p2), .val (.int p3), .val (.int p4), .val (.int p5), .val (.int p6), .val (.ref b7), .unset, .unset, .unset, .unset, .unset, .unset] [(.ref b7), (.ref b11), (.ref b11)])) rfl (by rw [hml]; rfl) (Steps.refl _) (a := b11) (argsL := [(.ref b7)]) (rest := [(.ref b11)]) (lenOf pd_0_0 rfl) rfl (by show 2 * 0 + _ ≤ _; exact Nat.le_of_eq rfl) (hb hby at_38) (fun _ _ => ⟨rfl, e11, (by decide : 2 + 2 ≤ _), (by decide : 7 + 6 ≤ _)⟩)
  dsimp only [Pt.U, Pt.locs, Pt.cells, Pt.slots] at X12 l12 y12 z12 st12 hQ12
  subst l12 y12 z12
  obtain ⟨qq, ww, rfl, N12q, K12c, H12, g_qq, g_ww, n_qw⟩ := hQ12
  have N12 := Fr.app N10 N12q
  have zz12 : n0 ≤ T12.heap.size := Nat.le_trans (Nat.le_trans Z0 K11.1) K12c.1
  have g0 : n0 ≤ h11.size := Nat.le_trans Z0 K11.1
  have n_b : ∀ {y : Addr}, h11.size ≤ y → b11 ≠ y := fun hy q => Nat.lt_irrefl _ (Nat.lt_of_lt_of_le E_b11.lt (q ▸ hy))
  have n_k : ∀ {y : Addr}, h11.size ≤ y → b7 ≠ y := fun hy q => Nat.lt_irrefl _ (Nat.lt_of_lt_of_le (V_b7_10.ext E11).lt (q ▸ hy))
  have NN : own_N n0 b11 b7 qq ww := ⟨n_b g_qq, n_b g_ww, n_qw, n_kb, n_k g_qq, n_k g_ww, g_b11, Nat.le_trans g0 g_qq, Nat.le_trans g0 g_ww⟩
  obtain ⟨T13, h13, L13, z13, f13, g13, X13, e13, N13, Z13, H13, S13, st13⟩ := own_p0 (.val (.int p1)) (.val (.int p2)) (.val (.int p3)) p4 (.val (.int p5)) (.val (.int p6)) (.val (.ref b7)) b11 .unset .unset .unset .unset .unset b7 qq ww (0 : Int32) (own_ky p1 p2 p3) (fun _ => 0) (fun _ => -1) X12 hx hZ hw hby hml hown rfl N12 zz12 H12 NN own_st0
  obtain ⟨T14, h14, L14, z14, f14, g14, X14, e14, N14, Z14, H14, S14, st14⟩ := own_p1 (.val (.int p1)) (.val (.int p2)) (.val (.int p3)) p4 (.val (.int p5)) (.val (.int p6)) (.val (.ref b7)) b11 .unset .unset .unset .unset .unset b7 qq ww z13 (own_ky p1 p2 p3) f13 g13 X13 hx hZ hw hby hml hown e13 N13 Z13 H13 NN S13
  obtain ⟨T15, h15, L15, z15, f15, g15, X15, e15, N15, Z15, H15, S15, st15⟩ := own_p2 (.val (.int p1)) (.val (.int p2)) (.val (.int p3)) p4 (.val (.int p5)) (.val (.int p6)) (.val (.ref b7)) b11 .unset .unset .unset .unset .unset b7 qq ww z14 (own_ky p1 p2 p3) f14 g14 X14 hx hZ hw hby hml hown e14 N14 Z14 H14 NN S14
  obtain ⟨T19, h19, L19, Ls, pcr, dr, X19, e19, N19, st19⟩ := own_b (.val (.int p1)) (.val (.int p2)) (.val (.int p3)) (.val (.int p4)) p5 p6 b11 b7 qq ww z15 (own_ky p1 p2 p3) f15 g15 X15 hx hZ hw hby hml hown e15 N15 Z15 H15 NN S15.1
  obtain ⟨fs, hr, hrun, hended, hW, hsame⟩ := X19.leave (v := some (.int (1 : Int32))) (fun h => by rw [Bd.returns] at h; cases h)
  refine ⟨_, _, pre0 _ ?_, hrun, hended, _, _, rfl, ?_, ⟨_, rfl⟩, hW, hsame.mono (by decide) (by decide)⟩
  · show Steps p.tables e below (s₁.setTop (mkF m 0 #[.val (.int p1), .val (.int p2), .val (.int p3), .val (.int p4), .val (.int p5), .val (.int p6), .unset, .unset, .unset, .unset, .unset, .unset, .unset] [])) _
    refine XS.iconst X0.here hx rfl (hb hby at_0) ?_
    show Steps p.tables e below (s₁.setTop (mkF m 1 #[.val (.int p1), .val (.int p2), .val (.int p3), .val (.int p4), .val (.int p5), .val (.int p6), .unset, .unset, .unset, .unset, .unset, .unset, .unset] [(.int (3 : Int32))])) _
    refine st7 _ ?_
    show Steps p.tables e below (T7.setTop (mkF m 3 #[.val (.int p1), .val (.int p2), .val (.int p3), .val (.int p4), .val (.int p5), .val (.int p6), .unset, .unset, .unset, .unset, .unset, .unset, .unset] [(.ref b7)])) _
    refine XS.astore X7.here hx rfl (hb hby at_3) rfl rfl (l' := #[.val (.int p1), .val (.int p2), .val (.int p3), .val (.int p4), .val (.int p5), .val (.int p6), .val (.ref b7), .unset, .unset, .unset, .unset, .unset, .unset]) rfl ?_
    show Steps p.tables e below (T7.setTop (mkF m 5 #[.val (.int p1), .val (.int p2), .val (.int p3), .val (.int p4), .val (.int p5), .val (.int p6), .val (.ref b7), .unset, .unset, .unset, .unset, .unset, .unset] [])) _
    refine XS.aload X7.here hx rfl (hb hby at_5) rfl rfl ?_
    show Steps p.tables e below (T7.setTop (mkF m 7 #[.val (.int p1), .val (.int p2), .val (.int p3), .val (.int p4), .val (.int p5), .val (.int p6), .val (.ref b7), .unset, .unset, .unset, .unset, .unset, .unset] [(.ref b7)])) _
    refine XS.iconst X7.here hx rfl (hb hby at_7) ?_
    show Steps p.tables e below (T7.setTop (mkF m 8 #[.val (.int p1), .val (.int p2), .val (.int p3), .val (.int p4), .val (.int p5), .val (.int p6), .val (.ref b7), .unset, .unset, .unset, .unset, .unset, .unset] [(.int (0 : Int32)), (.ref b7)])) _
    refine XS.iloadN X7.here hx rfl (hb hby at_8) rfl ?_
    show Steps p.tables e below (T7.setTop (mkF m 9 #[.val (.int p1), .val (.int p2), .val (.int p3), .val (.int p4), .val (.int p5), .val (.int p6), .val (.ref b7), .unset, .unset, .unset, .unset, .unset, .unset] [(.int p1), (.int (0 : Int32)), (.ref b7)])) _
    refine XS.bipush X7.here hx rfl (hb hby at_9) ?_
    show Steps p.tables e below (T7.setTop (mkF m 11 #[.val (.int p1), .val (.int p2), .val (.int p3), .val (.int p4), .val (.int p5), .val (.int p6), .val (.ref b7), .unset, .unset, .unset, .unset, .unset, .unset] [(.int (100 : Int32)), (.int p1), (.int (0 : Int32)), (.ref b7)])) _
    refine XS.irem X7.here hx rfl (hb hby at_11) rfl (by decide) ?_
    show Steps p.tables e below (T7.setTop (mkF m 12 #[.val (.int p1), .val (.int p2), .val (.int p3), .val (.int p4), .val (.int p5), .val (.int p6), .val (.ref b7), .unset, .unset, .unset, .unset, .unset, .unset] [(.int (p1 - (p1 / (100 : Int32)) * (100 : Int32))), (.int (0 : Int32)), (.ref b7)])) _
    refine XS.i2dS X7.here hx rfl (hb hby at_12) rfl (i2d_w _) ?_
    show Steps p.tables e below (T7.setTop (mkF m 13 #[.val (.int p1), .val (.int p2), .val (.int p3), .val (.int p4), .val (.int p5), .val (.int p6), .val (.ref b7), .unset, .unset, .unset, .unset, .unset, .unset] [(.double (FP.l2d ((p1 - (p1 / (100 : Int32)) * (100 : Int32)).toInt64))), (.int (0 : Int32)), (.ref b7)])) _
    refine st8 _ ?_
    show Steps p.tables e below (T8.setTop (mkF m 14 #[.val (.int p1), .val (.int p2), .val (.int p3), .val (.int p4), .val (.int p5), .val (.int p6), .val (.ref b7), .unset, .unset, .unset, .unset, .unset, .unset] [])) _
    refine XS.aload X8.here hx rfl (hb hby at_14) rfl rfl ?_
    show Steps p.tables e below (T8.setTop (mkF m 16 #[.val (.int p1), .val (.int p2), .val (.int p3), .val (.int p4), .val (.int p5), .val (.int p6), .val (.ref b7), .unset, .unset, .unset, .unset, .unset, .unset] [(.ref b7)])) _
    refine XS.iconst X8.here hx rfl (hb hby at_16) ?_
    show Steps p.tables e below (T8.setTop (mkF m 17 #[.val (.int p1), .val (.int p2), .val (.int p3), .val (.int p4), .val (.int p5), .val (.int p6), .val (.ref b7), .unset, .unset, .unset, .unset, .unset, .unset] [(.int (1 : Int32)), (.ref b7)])) _
    refine XS.iloadN X8.here hx rfl (hb hby at_17) rfl ?_
    show Steps p.tables e below (T8.setTop (mkF m 18 #[.val (.int p1), .val (.int p2), .val (.int p3), .val (.int p4), .val (.int p5), .val (.int p6), .val (.ref b7), .unset, .unset, .unset, .unset, .unset, .unset] [(.int p2), (.int (1 : Int32)), (.ref b7)])) _
    refine XS.bipush X8.here hx rfl (hb hby at_18) ?_
    show Steps p.tables e below (T8.setTop (mkF m 20 #[.val (.int p1), .val (.int p2), .val (.int p3), .val (.int p4), .val (.int p5), .val (.int p6), .val (.ref b7), .unset, .unset, .unset, .unset, .unset, .unset] [(.int (100 : Int32)), (.int p2), (.int (1 : Int32)), (.ref b7)])) _
    refine XS.irem X8.here hx rfl (hb hby at_20) rfl (by decide) ?_
    show Steps p.tables e below (T8.setTop (mkF m 21 #[.val (.int p1), .val (.int p2), .val (.int p3), .val (.int p4), .val (.int p5), .val (.int p6), .val (.ref b7), .unset, .unset, .unset, .unset, .unset, .unset] [(.int (p2 - (p2 / (100 : Int32)) * (100 : Int32))), (.int (1 : Int32)), (.ref b7)])) _
    refine XS.i2dS X8.here hx rfl (hb hby at_21) rfl (i2d_w _) ?_
    show Steps p.tables e below (T8.setTop (mkF m 22 #[.val (.int p1), .val (.int p2), .val (.int p3), .val (.int p4), .val (.int p5), .val (.int p6), .val (.ref b7), .unset, .unset, .unset, .unset, .unset, .unset] [(.double (FP.l2d ((p2 - (p2 / (100 : Int32)) * (100 : Int32)).toInt64))), (.int (1 : Int32)), (.ref b7)])) _
    refine st9 _ ?_
    show Steps p.tables e below (T9.setTop (mkF m 23 #[.val (.int p1), .val (.int p2), .val (.int p3), .val (.int p4), .val (.int p5), .val (.int p6), .val (.ref b7), .unset, .unset, .unset, .unset, .unset, .unset] [])) _
    refine XS.aload X9.here hx rfl (hb hby at_23) rfl rfl ?_
    show Steps p.tables e below (T9.setTop (mkF m 25 #[.val (.int p1), .val (.int p2), .val (.int p3), .val (.int p4), .val (.int p5), .val (.int p6), .val (.ref b7), .unset, .unset, .unset, .unset, .unset, .unset] [(.ref b7)])) _
    refine XS.iconst X9.here hx rfl (hb hby at_25) ?_
    show Steps p.tables e below (T9.setTop (mkF m 26 #[.val (.int p1), .val (.int p2), .val (.int p3), .val (.int p4), .val (.int p5), .val (.int p6), .val (.ref b7), .unset, .unset, .unset, .unset, .unset, .unset] [(.int (2 : Int32)), (.ref b7)])) _
    refine XS.iloadN X9.here hx rfl (hb hby at_26) rfl ?_
    show Steps p.tables e below (T9.setTop (mkF m 27 #[.val (.int p1), .val (.int p2), .val (.int p3), .val (.int p4), .val (.int p5), .val (.int p6), .val (.ref b7), .unset, .unset, .unset, .unset, .unset, .unset] [(.int p3), (.int (2 : Int32)), (.ref b7)])) _
    refine XS.bipush X9.here hx rfl (hb hby at_27) ?_
    show Steps p.tables e below (T9.setTop (mkF m 29 #[.val (.int p1), .val (.int p2), .val (.int p3), .val (.int p4), .val (.int p5), .val (.int p6), .val (.ref b7), .unset, .unset, .unset, .unset, .unset, .unset] [(.int (100 : Int32)), (.int p3), (.int (2 : Int32)), (.ref b7)])) _
    refine XS.irem X9.here hx rfl (hb hby at_29) rfl (by decide) ?_
    show Steps p.tables e below (T9.setTop (mkF m 30 #[.val (.int p1), .val (.int p2), .val (.int p3), .val (.int p4), .val (.int p5), .val (.int p6), .val (.ref b7), .unset, .unset, .unset, .unset, .unset, .unset] [(.int (p3 - (p3 / (100 : Int32)) * (100 : Int32))), (.int (2 : Int32)), (.ref b7)])) _
    refine XS.i2dS X9.here hx rfl (hb hby at_30) rfl (i2d_w _) ?_
    show Steps p.tables e below (T9.setTop (mkF m 31 #[.val (.int p1), .val (.int p2), .val (.int p3), .val (.int p4), .val (.int p5), .val (.int p6), .val (.ref b7), .unset, .unset, .unset, .unset, .unset, .unset] [(.double (FP.l2d ((p3 - (p3 / (100 : Int32)) * (100 : Int32)).toInt64))), (.int (2 : Int32)), (.ref b7)])) _
    refine st10 _ ?_
    show Steps p.tables e below (T10.setTop (mkF m 32 #[.val (.int p1), .val (.int p2), .val (.int p3), .val (.int p4), .val (.int p5), .val (.int p6), .val (.ref b7), .unset, .unset, .unset, .unset, .unset, .unset] [])) _
    refine st11 _ ?_
    show Steps p.tables e below (T11.setTop (mkF m 35 #[.val (.int p1), .val (.int p2), .val (.int p3), .val (.int p4), .val (.int p5), .val (.int p6), .val (.ref b7), .unset, .unset, .unset, .unset, .unset, .unset] [(.ref b11)])) _
    refine XS.dup X11.here hx rfl (hb hby at_35) rfl rfl ?_
    show Steps p.tables e below (T11.setTop (mkF m 36 #[.val (.int p1), .val (.int p2), .val (.int p3), .val (.int p4), .val (.int p5), .val (.int p6), .val (.ref b7), .unset, .unset, .unset, .unset, .unset, .unset] [(.ref b11), (.ref b11)])) _
    refine XS.aload X11.here hx rfl (hb hby at_36) rfl rfl ?_
    show Steps p.tables e below (T11.setTop (mkF m 38 #[.val (.int p1), .val (.int p2), .val (.int p3), .val (.int p4), .val (.int p5), .val (.int p6), .val (.ref b7), .unset, .unset, .unset, .unset, .unset, .unset] [(.ref b7), (.ref b11), (.ref b11)])) _
    refine st12.trans ?_
    show Steps p.tables e below (T12.setTop (mkF m 41 #[.val (.int p1), .val (.int p2), .val (.int p3), .val (.int p4), .val (.int p5), .val (.int p6), .val (.ref b7), .unset, .unset, .unset, .unset, .unset, .unset] [(.ref b11)])) _
    refine XS.astore X12.here hx rfl (hb hby at_41) rfl rfl (l' := #[.val (.int p1), .val (.int p2), .val (.int p3), .val (.int p4), .val (.int p5), .val (.int p6), .val (.ref b7), .val (.ref b11), .unset, .unset, .unset, .unset, .unset]) rfl ?_
    show Steps p.tables e below (T12.setTop (mkF m 43 #[.val (.int p1), .val (.int p2), .val (.int p3), .val (.int p4), .val (.int p5), .val (.int p6), .val (.ref b7), .val (.ref b11), .unset, .unset, .unset, .unset, .unset] [])) _
    refine st13 _ (st14 _ (st15 _ (st19 _ ?_)))
    exact retN X19 hx (t := .boolean) Bd.returns (by simp) dr hr
  · show Q0 Z p1 p2 p3 p4 p5 p6 h0 n0 _ T19.heap _
    exact ⟨rfl, N19⟩
set_option maxRecDepth 65536 in
set_option maxHeartbeats 40000000 in
theorem comes_1 {Post : Tables → Env → Array Value → State → Outcome → State → Prop} (hpost : ∀ tb e args s v u, (limb_1_1.after args s (.returned v) u = true ∧ limb_1_2.after args s (.returned v) u = true ∧ True) → FrameEnd s (.returned v) u (Jvm.fieldLocs frame_1_writes args s ++ Jvm.arrayLocs frame_1_arrays args s ++ Jvm.staticLocs frame_1_statics s) 16 128 → Post tb e args s (.returned v) u) :
    ArmFor flags0 classFile x code maxLocals ret World_1 tables_1 room_1 Calls_1 rest_1 Pre_1 Post := by
  intro l hfl _ _ p e ha hc hk s m args below hf hA hF happ hP
  obtain ⟨hcalls, hrest, hpre⟩ := hP
  obtain ⟨-, -, -, hnamed, -, -, -, hat⟩ := (Spec.applies_iff hf).mp happ
  obtain ⟨hg, hn⟩ := and_e (Cond.before_iff.mp (show (Jvm.Cond.and given_1 narrow_1).before args s = true from hpre))
  obtain ⟨g20, g21⟩ := and_e hg
  obtain ⟨g22, g23⟩ := and_e g21
  obtain ⟨g24, g25⟩ := and_e g23
  obtain ⟨g26, g27⟩ := and_e g25
  obtain ⟨g28, g29⟩ := and_e g27
  obtain ⟨g30, g31⟩ := and_e g29
  obtain ⟨w0, w1, w2, w3, w4, w5, rfl⟩ : ∃ w0 w1 w2 w3 w4 w5 : Value, args = #[w0, w1, w2, w3, w4, w5] := by
    have hs : args.size = 6 := by simpa [Cond.value, given_1] using g20
    obtain ⟨L⟩ := args
    match L, hs with
    | [w0, w1, w2, w3, w4, w5], _ => exact ⟨w0, w1, w2, w3, w4, w5, rfl⟩
  have hw := fun d (hd : d ∈ tables_1) => atoms_spec (ws := Jvm.Cond.code x code maxLocals ret :: tables_1) hat d (List.mem_cons_of_mem _ hd)
  have hfit : Fit s := fun {y c} hc i hi => by
    obtain ⟨ha, rfl⟩ := Array.getElem?_eq_some_iff.mp hc
    have q := List.all_eq_true.mp ((Array.all_eq_true_iff_forall_mem.mp hF) _ (Array.getElem_mem ha)) i (List.mem_range.mpr hi)
    simpa [Array.getElem?_eq_getElem hi] using q
  obtain ⟨i0, ei0⟩ := is_v g22
  obtain rfl : w0 = (.int i0) := Option.some.inj ei0
  obtain ⟨i1, ei1⟩ := is_v g24
  obtain rfl : w1 = (.int i1) := Option.some.inj ei1
  obtain ⟨i2, ei2⟩ := is_v g26
  obtain rfl : w2 = (.int i2) := Option.some.inj ei2
  obtain ⟨i3, ei3⟩ := is_v g28
  obtain rfl : w3 = (.int i3) := Option.some.inj ei3
  obtain ⟨i4, ei4⟩ := is_v g30
  obtain rfl : w4 = (.int i4) := Option.some.inj ei4
  obtain ⟨i5, ei5⟩ := is_v g31
  obtain rfl : w5 = (.int i5) := Option.some.inj ei5
  obtain ⟨n, o, h1, h2, h3, _, L, rfl, ⟨rfl, N⟩, hq⟩ := rm0 l s _ hw tables_1 i0 i1 i2 i3 i4 i5 s.heap s.heap.size (Nat.le_refl _) p e ha hc hk s m _ below hf ((Spec.applies_iff_loose hf).mp happ).1 ⟨rfl, State.Warmed39.refl s, rfl⟩ trivial
  refine ⟨n, _, h1, h2, h3, hpost _ _ _ _ _ _ ⟨Cond.after_iff.mpr rfl, Cond.after_iff.mpr (eq_i res_at (Term.int_eval (1)) rfl), trivial⟩ ⟨hq.1, hq.2.1, (hq.2.2.sift fun y hy => Or.inr (N y hy)).mono (by decide) (by decide)⟩⟩
theorem main_1_1 : Claimed_1_1 := comes_1 fun _ _ _ _ _ _ h hF => ⟨h.1, hF⟩
theorem main_1_2 : Claimed_1_2 := comes_1 fun _ _ _ _ _ _ h hF => ⟨h.2.1, hF⟩
end Jvm.Pilot.@@N@@
namespace Jvm.Pilot.@@N@@
open Jvm Jvm.ClassFile Sem Op Lib Jvm.Free Jvm.Stand Jvm.Pilot.@@N@@.Jvm.D
/-! MADE BY PROGRAM (witnessworld.py) out of the Statement's table words and the real class files: 10 classes; the members and pool entries that the words name. The judged class is class 1, her method 1. -/
namespace start1
open Jvm.ClassFile
def u (s : String) : CpInfo := .utf8 (stringToUtf16 s)
/-- a pool by its gaps: so many unusable entries, then the entry; so many at the end -/
def gap : Nat → List CpInfo → List CpInfo
  | 0, r => r
  | n + 1, r => .unusable :: gap n r
def poolList (es : List (Nat × CpInfo)) (last : Nat) : List CpInfo := es.foldr (fun e r => gap e.1 (e.2 :: r)) (gap last [])
def pool (es : List (Nat × CpInfo)) (last : Nat) : Array CpInfo := ⟨poolList es last⟩
def fileOf (pool : Array CpInfo) (this : Nat) (attrs : Array Attribute := #[]) (ms : Array MethodInfo := #[]) (fl : Nat := 33) (sup : Nat := 0) (ifs : Array Nat := #[]) (fds : Array FieldInfo := #[]) : ClassFile where
  minorVersion := 0
  majorVersion := 65
  constantPool := pool
  accessFlags := fl
  thisClass := this
  superClass := sup
  interfaces := ifs
  fields := fds
  methods := ms
  attributes := attrs
def plain (name : String) (sup : Option ClassId) : Class where
  name := name
  kind := .ordinary
  loader := none
  accessFlags := 33
  super := sup
  interfaces := #[]
  cf := none
  fields := #[]
  methods := #[]
  instanceTypes := #[]
  staticTypes := #[]
  resolved := #[]
  callSites := []
  init := .initialized
  statics := none
  mirror := none

def pool0 : Array CpInfo := pool [(5, u "<init>"), (0, u "()V"), (1, .class_ 10), (1, u "java/lang/Object")] 113

def k0c0 : Code := { maxStack := 0, maxLocals := 1, code := object_method_1_code, exceptionTable := #[], attributes := #[] }
def k0m0 : Method := { name := "<init>", desc := "()V", sig := { parameters := [], returnType := none }, accessFlags := 1, code := some k0c0 }
/-- java/lang/Object -/
def k0 : Class := { plain "java/lang/Object" none with
  accessFlags := 33
  interfaces := #[]
  cf := some (fileOf pool0 8 #[] #[{ accessFlags := 1, nameIndex := 5, descriptorIndex := 6, attributes := #[] }] 33 0 #[] #[])
  fields := #[]
  methods := #[k0m0]
  instanceTypes := #[]
  staticTypes := #[]
  resolved := Array.replicate 124 none
  statics := none }

def pool1 : Array CpInfo := pool [(2, .class_ 4), (1, u "java/lang/Object"), (0, u "<init>"), (0, u "()V"), (0, .class_ 8), (0, u "com/example/slotweave/slotweave/alloc/NodeHeap"), (0, .methodref 7 10), (0, .nameAndType 5 11), (0, u "([D)V"), (0, .methodref 7 13), (0, .nameAndType 14 15), (0, u "lowered"), (0, u "(I)V"), (0, .methodref 7 17), (0, .nameAndType 18 6), (0, u "clear"), (0, .methodref 7 20), (0, .nameAndType 21 22), (0, u "isEmpty"), (0, u "()Z"), (0, .integer 2147483647), (0, .methodref 7 25), (0, .nameAndType 26 27), (0, u "poll"), (0, u "()I"), (0, .class_ 29), (0, u "com/example/slotweave/slotweave/alloc/NodeHeapClearPinLaw"), (2, u "law"), (0, u "(IIIIII)Z")] 5

def k1m0 : Method := { name := "<init>", desc := "()V", sig := { parameters := [], returnType := none }, accessFlags := 1, code := none }
def k1c1 : Code := { maxStack := 4, maxLocals := 13, code := code, exceptionTable := #[], attributes := #[] }
def k1m1 : Method := { name := "law", desc := "(IIIIII)Z", sig := { parameters := [.int, .int, .int, .int, .int, .int], returnType := some .boolean }, accessFlags := 9, code := some k1c1 }
/-- com/example/slotweave/slotweave/alloc/NodeHeapClearPinLaw -/
def k1 : Class := { plain "com/example/slotweave/slotweave/alloc/NodeHeapClearPinLaw" (some 0) with
  accessFlags := 49
  interfaces := #[]
  cf := some (fileOf pool1 28 #[] #[{ accessFlags := 1, nameIndex := 5, descriptorIndex := 6, attributes := #[] }, { accessFlags := 9, nameIndex := 32, descriptorIndex := 33, attributes := #[] }] 49 2 #[] #[])
  fields := #[]
  methods := #[k1m0, k1m1]
  instanceTypes := #[]
  staticTypes := #[]
  resolved := Array.replicate 39 none
  statics := none }

def pool2 : Array CpInfo := pool [(1, .methodref 2 3), (0, .class_ 4), (0, .nameAndType 5 6), (0, u "java/lang/Object"), (0, u "<init>"), (0, u "()V"), (0, .fieldref 8 9), (0, .class_ 10), (0, .nameAndType 11 12), (0, u "com/example/slotweave/slotweave/alloc/NodeHeap"), (0, u "keys"), (0, u "[D"), (0, .fieldref 8 14), (0, .nameAndType 15 16), (0, u "heap"), (0, u "[I"), (0, .fieldref 8 18), (0, .nameAndType 19 16), (0, u "place"), (0, .methodref 21 22), (0, .class_ 23), (0, .nameAndType 24 25), (0, u "java/util/Arrays"), (0, u "fill"), (0, u "([II)V"), (0, .fieldref 8 27), (0, .nameAndType 28 29), (0, u "size"), (0, u "I"), (0, .methodref 8 31), (0, .nameAndType 32 33), (0, u "siftUp"), (0, u "(II)V"), (0, .methodref 8 35), (0, .nameAndType 36 33), (0, u "siftDown"), (0, .methodref 8 38), (0, .nameAndType 39 33), (0, u "put"), (0, u "([D)V"), (2, u "isEmpty"), (0, u "()Z"), (1, u "lowered"), (0, u "(I)V"), (0, u "poll"), (0, u "()I"), (0, u "clear")] 2

def k2c0 : Code := { maxStack := 2, maxLocals := 2, code := prog_10_method_1_code, exceptionTable := #[], attributes := #[] }
def k2m0 : Method := { name := "<init>", desc := "([D)V", sig := { parameters := [(.array .double)], returnType := none }, accessFlags := 0, code := some k2c0 }
def k2c1 : Code := { maxStack := 1, maxLocals := 1, code := prog_10_method_2_code, exceptionTable := #[], attributes := #[] }
def k2m1 : Method := { name := "isEmpty", desc := "()Z", sig := { parameters := [], returnType := some .boolean }, accessFlags := 0, code := some k2c1 }
def k2c2 : Code := { maxStack := 3, maxLocals := 3, code := prog_10_method_3_code, exceptionTable := #[], attributes := #[] }
def k2m2 : Method := { name := "lowered", desc := "(I)V", sig := { parameters := [.int], returnType := none }, accessFlags := 0, code := some k2c2 }
def k2c3 : Code := { maxStack := 3, maxLocals := 2, code := prog_10_method_4_code, exceptionTable := #[], attributes := #[] }
def k2m3 : Method := { name := "poll", desc := "()I", sig := { parameters := [], returnType := some .int }, accessFlags := 0, code := some k2c3 }
def k2c4 : Code := { maxStack := 3, maxLocals := 2, code := prog_10_method_5_code, exceptionTable := #[], attributes := #[] }
def k2m4 : Method := { name := "clear", desc := "()V", sig := { parameters := [], returnType := none }, accessFlags := 0, code := some k2c4 }
def k2c5 : Code := { maxStack := 4, maxLocals := 6, code := prog_10_method_6_code, exceptionTable := #[], attributes := #[] }
def k2m5 : Method := { name := "siftUp", desc := "(II)V", sig := { parameters := [.int, .int], returnType := none }, accessFlags := 2, code := some k2c5 }
def k2c6 : Code := { maxStack := 5, maxLocals := 6, code := prog_10_method_7_code, exceptionTable := #[], attributes := #[] }
def k2m6 : Method := { name := "siftDown", desc := "(II)V", sig := { parameters := [.int, .int], returnType := none }, accessFlags := 2, code := some k2c6 }
def k2c7 : Code := { maxStack := 3, maxLocals := 3, code := prog_10_method_8_code, exceptionTable := #[], attributes := #[] }
def k2m7 : Method := { name := "put", desc := "(II)V", sig := { parameters := [.int, .int], returnType := none }, accessFlags := 2, code := some k2c7 }
/-- com/example/slotweave/slotweave/alloc/NodeHeap -/
def k2 : Class := { plain "com/example/slotweave/slotweave/alloc/NodeHeap" (some 0) with
  accessFlags := 48
  interfaces := #[]
  cf := some (fileOf pool2 8 #[] #[{ accessFlags := 0, nameIndex := 5, descriptorIndex := 40, attributes := #[] }, { accessFlags := 0, nameIndex := 43, descriptorIndex := 44, attributes := #[] }, { accessFlags := 0, nameIndex := 46, descriptorIndex := 47, attributes := #[] }, { accessFlags := 0, nameIndex := 48, descriptorIndex := 49, attributes := #[] }, { accessFlags := 0, nameIndex := 50, descriptorIndex := 6, attributes := #[] }, { accessFlags := 2, nameIndex := 32, descriptorIndex := 33, attributes := #[] }, { accessFlags := 2, nameIndex := 36, descriptorIndex := 33, attributes := #[] }, { accessFlags := 2, nameIndex := 39, descriptorIndex := 33, attributes := #[] }] 48 2 #[] #[{ accessFlags := 18, nameIndex := 11, descriptorIndex := 12, attributes := #[] }, { accessFlags := 18, nameIndex := 15, descriptorIndex := 16, attributes := #[] }, { accessFlags := 18, nameIndex := 19, descriptorIndex := 16, attributes := #[] }, { accessFlags := 2, nameIndex := 28, descriptorIndex := 29, attributes := #[] }])
  fields := #[{ name := "keys", type := (.array .double), accessFlags := 18, slot := 0, constantValue := 0 }, { name := "heap", type := (.array .int), accessFlags := 18, slot := 1, constantValue := 0 }, { name := "place", type := (.array .int), accessFlags := 18, slot := 2, constantValue := 0 }, { name := "size", type := .int, accessFlags := 2, slot := 3, constantValue := 0 }]
  methods := #[k2m0, k2m1, k2m2, k2m3, k2m4, k2m5, k2m6, k2m7]
  instanceTypes := #[(.array .double), (.array .int), (.array .int), .int]
  staticTypes := #[]
  resolved := Array.replicate 53 none
  statics := none }

def pool3 : Array CpInfo := pool [(2, .class_ 4), (1, u "java/lang/Object"), (0, u "<init>"), (0, u "()V"), (7, .class_ 16), (1, u "java/util/Arrays"), (57, .class_ 76), (1, u "java/util/Arrays$NaturalOrder"), (36, .class_ 115), (1, u "java/util/Arrays$LegacyMergeSort"), (1, u "Z"), (257, .class_ 376), (0, u "java/util/Arrays$ArrayList"), (68, u "$assertionsDisabled"), (269, u "MIN_ARRAY_SORT_GRAN"), (0, u "I"), (2, u "INSERTIONSORT_THRESHOLD"), (120, u "fill"), (4, u "([II)V"), (129, .class_ 976), (0, u "java/util/Arrays$ArrayItr")] 52

def k3m0 : Method := { name := "<init>", desc := "()V", sig := { parameters := [], returnType := none }, accessFlags := 2, code := none }
def k3c1 : Code := { maxStack := 3, maxLocals := 4, code := jdk_65_method_103_code, exceptionTable := #[], attributes := #[] }
def k3m1 : Method := { name := "fill", desc := "([II)V", sig := { parameters := [(.array .int), .int], returnType := none }, accessFlags := 9, code := some k3c1 }
/-- java/util/Arrays -/
def k3 : Class := { plain "java/util/Arrays" (some 0) with
  accessFlags := 49
  interfaces := #[]
  cf := some (fileOf pool3 14 #[.nestMembers #[975, 375, 113, 74]] #[{ accessFlags := 2, nameIndex := 5, descriptorIndex := 6, attributes := #[] }, { accessFlags := 9, nameIndex := 840, descriptorIndex := 845, attributes := #[] }] 49 2 #[] #[{ accessFlags := 26, nameIndex := 715, descriptorIndex := 716, attributes := #[] }, { accessFlags := 26, nameIndex := 719, descriptorIndex := 716, attributes := #[] }, { accessFlags := 4120, nameIndex := 445, descriptorIndex := 117, attributes := #[] }])
  fields := #[{ name := "MIN_ARRAY_SORT_GRAN", type := .int, accessFlags := 26, slot := 0, constantValue := 0 }, { name := "INSERTIONSORT_THRESHOLD", type := .int, accessFlags := 26, slot := 1, constantValue := 0 }, { name := "$assertionsDisabled", type := .boolean, accessFlags := 4120, slot := 2, constantValue := 0 }]
  methods := #[k3m0, k3m1]
  instanceTypes := #[]
  staticTypes := #[.int, .int, .boolean]
  resolved := Array.replicate 1029 none
  statics := none }

def pool4 : Array CpInfo := pool [(1, u "java/lang/Cloneable"), (0, .class_ 1), (0, u "java/lang/Object"), (0, .class_ 3)] 3

/-- java/lang/Cloneable -/
def k4 : Class := { plain "java/lang/Cloneable" (some 0) with
  accessFlags := 1537
  interfaces := #[]
  cf := some (fileOf pool4 2 #[] #[] 1537 4 #[] #[])
  fields := #[]
  methods := #[]
  instanceTypes := #[]
  staticTypes := #[]
  resolved := Array.replicate 8 none
  statics := none }

def pool5 : Array CpInfo := pool [(1, u "java/io/Serializable"), (0, .class_ 1), (0, u "java/lang/Object"), (0, .class_ 3)] 3

/-- java/io/Serializable -/
def k5 : Class := { plain "java/io/Serializable" (some 0) with
  accessFlags := 1537
  interfaces := #[]
  cf := some (fileOf pool5 2 #[] #[] 1537 4 #[] #[])
  fields := #[]
  methods := #[]
  instanceTypes := #[]
  staticTypes := #[]
  resolved := Array.replicate 8 none
  statics := none }

/-- the primitive byte -/
def k6 : Class := { plain "byte" none with kind := .primitive 'B', accessFlags := 0x411 }
/-- [B -/
def k7 : Class := { plain "[B" (some 0) with kind := .array 6 .byte, interfaces := #[4, 5], accessFlags := 1041 }

/-- the primitive int -/
def k8 : Class := { plain "int" none with kind := .primitive 'I', accessFlags := 0x411 }
/-- [I -/
def k9 : Class := { plain "[I" (some 0) with kind := .array 8 .int, interfaces := #[4, 5], accessFlags := 1041 }

/-- the primitive double -/
def k10 : Class := { plain "double" none with kind := .primitive 'D', accessFlags := 0x411 }
/-- [D -/
def k11 : Class := { plain "[D" (some 0) with kind := .array 10 .double, interfaces := #[4, 5], accessFlags := 1041 }

def heap : Heap := #[]
def classes : Array Class := #[k0, k1, k2, k3, k4, k5, k6, k7, k8, k9, k10, k11]
def interned : List (Array UInt16 × Addr) := []
def slotsUsed : Nat := 0
def theMethod : MethodId := ⟨1, 1⟩
def args0 : Array Value := #[.int 5, .int 7, .int 8, .int 3, .int 4, .int 6]
def aboutOver (below : List Frame) : State where
  vm := { classes := classes, interned := interned.toArray }
  heap := heap
  slotsUsed := slotsUsed
  threads := #[{ frames := .invoking theMethod args0 :: below }]
def below0 : List Frame := [.native { method := ⟨0, 0⟩, args := #[] }]
def about1 : State := aboutOver below0
def p0 : Program := .bare "" "" ""
def e0 : Env := launch0.env 0 0 0
theorem w_frames : about1.frames = Frame.invoking theMethod args0 :: below0 := rfl
set_option maxRecDepth 65536 in
theorem w_args : argsFit about1.vm theMethod args0 = true := by decide +kernel
set_option maxRecDepth 65536 in
theorem w_heap : heapFits about1 = true := by decide +kernel
set_option maxRecDepth 65536 in
theorem w_runnable : about1.curStatus? = some .runnable := by decide +kernel
set_option maxRecDepth 65536 in
theorem w_alone : about1.alone = true := by decide +kernel
set_option maxRecDepth 65536 in
theorem w_named : about1.methodNamed? x = some theMethod := by decide +kernel
set_option maxRecDepth 65536 in
theorem w_hears : about1.hears theMethod below0 = true := by decide +kernel
set_option maxRecDepth 65536 in
theorem w_ripe : about1.ripe theMethod args0 below0 = true := by decide +kernel
theorem w_running : about1.status = .running := rfl
set_option maxRecDepth 65536 in
theorem w_room : about1.hasRoom e0.platform room_1 = true :=
  launch0.hasRoom_least _ room_1 (by decide +kernel) (by decide +kernel) (by decide +kernel) (by decide +kernel) (by decide +kernel) (by decide +kernel)
theorem allAtoms_all (ts : List Jvm.Cond) (a : Array Jvm.Value) (st : Jvm.State) : (allAtoms ts).before a st = ts.all (fun c => c.before a st) := by
  induction ts with
  | nil => rfl
  | cons c t ih =>
    show (Jvm.Cond.and c (allAtoms t)).before a st = _
    rw [Jvm.Cond.before_and, ih, List.all_cons]
def words1 : List Jvm.Cond := Jvm.Cond.code x code maxLocals ret :: tables_1
/-- a 'code' word, met by the world's own term for the bytes: nothing is compared byte by byte -/
theorem code_word {y : MethodName} {bytes : ByteArray} {mx : Nat} {rt : Option FieldType} {a : Array Value} {s : State} {m : MethodId} {meth : Method} {c : Code} (h1 : s.methodNamed? y = some m) (h2 : s.vm.method? m = some meth) (h3 : meth.code = some c) (h4 : c.code = bytes)
    (h5 : (c.maxLocals == mx && c.exceptionTable.isEmpty && decide (c.maxStack ≤ mostOperands) && decide (meth.sig.returnType = rt) && !meth.locks && decide (parseMethodDescriptor y.desc = some meth.sig)) = true) : (Jvm.Cond.code y bytes mx rt).before a s = true := by
  simp only [Bool.and_eq_true, beq_iff_eq, Bool.not_eq_true', decide_eq_true_eq] at h5
  obtain ⟨⟨⟨⟨⟨g1, g2⟩, g3⟩, g4⟩, g5⟩, g6⟩ := h5
  simp [Cond.before, Cond.holds, Cond.value, h1, h2, h3, h4, g1, g2, g3, g4, g5, g6]
def isCode : Jvm.Cond → Bool
  | .code _ _ _ _ => true
  | _ => false
theorem all_split {L : List Jvm.Cond} {P : Jvm.Cond → Bool} (h1 : L.all (fun c => isCode c || P c) = true) (h2 : ∀ c ∈ L.filter isCode, P c = true) : L.all P = true := by
  refine List.all_eq_true.mpr fun c hc => ?_
  have h := List.all_eq_true.mp h1 c hc
  rcases Bool.eq_false_or_eq_true (isCode c) with hi | hi
  · exact h2 c (List.mem_filter.mpr ⟨hc, hi⟩)
  · simpa [hi] using h
set_option maxRecDepth 65536 in
theorem w_c0 : (Jvm.Cond.code x code maxLocals ret).before args0 about1 = true := code_word (m := ⟨1, 1⟩) (meth := k1m1) (c := k1c1) (by decide +kernel) rfl rfl rfl (by decide +kernel)
set_option maxRecDepth 65536 in
theorem w_c1 : (Jvm.Cond.code ({ cls := "com/example/slotweave/slotweave/alloc/NodeHeap", name := "<init>", desc := "([D)V" } : Jvm.MethodName) prog_10_method_1_code (2 : Nat) (Option.none : Option Jvm.ClassFile.FieldType)).before args0 about1 = true := code_word (m := ⟨2, 0⟩) (meth := k2m0) (c := k2c0) (by decide +kernel) rfl rfl rfl (by decide +kernel)
set_option maxRecDepth 65536 in
theorem w_c2 : (Jvm.Cond.code ({ cls := "java/lang/Object", name := "<init>", desc := "()V" } : Jvm.MethodName) object_method_1_code (1 : Nat) (Option.none : Option Jvm.ClassFile.FieldType)).before args0 about1 = true := code_word (m := ⟨0, 0⟩) (meth := k0m0) (c := k0c0) (by decide +kernel) rfl rfl rfl (by decide +kernel)
set_option maxRecDepth 65536 in
theorem w_c3 : (Jvm.Cond.code ({ cls := "java/util/Arrays", name := "fill", desc := "([II)V" } : Jvm.MethodName) jdk_65_method_103_code (4 : Nat) (Option.none : Option Jvm.ClassFile.FieldType)).before args0 about1 = true := code_word (m := ⟨3, 1⟩) (meth := k3m1) (c := k3c1) (by decide +kernel) rfl rfl rfl (by decide +kernel)
set_option maxRecDepth 65536 in
theorem w_c4 : (Jvm.Cond.code ({ cls := "com/example/slotweave/slotweave/alloc/NodeHeap", name := "lowered", desc := "(I)V" } : Jvm.MethodName) prog_10_method_3_code (3 : Nat) (Option.none : Option Jvm.ClassFile.FieldType)).before args0 about1 = true := code_word (m := ⟨2, 2⟩) (meth := k2m2) (c := k2c2) (by decide +kernel) rfl rfl rfl (by decide +kernel)
set_option maxRecDepth 65536 in
theorem w_c5 : (Jvm.Cond.code ({ cls := "com/example/slotweave/slotweave/alloc/NodeHeap", name := "siftUp", desc := "(II)V" } : Jvm.MethodName) prog_10_method_6_code (6 : Nat) (Option.none : Option Jvm.ClassFile.FieldType)).before args0 about1 = true := code_word (m := ⟨2, 5⟩) (meth := k2m5) (c := k2c5) (by decide +kernel) rfl rfl rfl (by decide +kernel)
set_option maxRecDepth 65536 in
theorem w_c6 : (Jvm.Cond.code ({ cls := "com/example/slotweave/slotweave/alloc/NodeHeap", name := "put", desc := "(II)V" } : Jvm.MethodName) prog_10_method_8_code (3 : Nat) (Option.none : Option Jvm.ClassFile.FieldType)).before args0 about1 = true := code_word (m := ⟨2, 7⟩) (meth := k2m7) (c := k2c7) (by decide +kernel) rfl rfl rfl (by decide +kernel)
set_option maxRecDepth 65536 in
theorem w_c7 : (Jvm.Cond.code ({ cls := "com/example/slotweave/slotweave/alloc/NodeHeap", name := "clear", desc := "()V" } : Jvm.MethodName) prog_10_method_5_code (2 : Nat) (Option.none : Option Jvm.ClassFile.FieldType)).before args0 about1 = true := code_word (m := ⟨2, 4⟩) (meth := k2m4) (c := k2c4) (by decide +kernel) rfl rfl rfl (by decide +kernel)
set_option maxRecDepth 65536 in
theorem w_c8 : (Jvm.Cond.code ({ cls := "com/example/slotweave/slotweave/alloc/NodeHeap", name := "isEmpty", desc := "()Z" } : Jvm.MethodName) prog_10_method_2_code (1 : Nat) (Option.some Jvm.ClassFile.FieldType.boolean)).before args0 about1 = true := code_word (m := ⟨2, 1⟩) (meth := k2m1) (c := k2c1) (by decide +kernel) rfl rfl rfl (by decide +kernel)
set_option maxRecDepth 65536 in
theorem w_c9 : (Jvm.Cond.code ({ cls := "com/example/slotweave/slotweave/alloc/NodeHeap", name := "poll", desc := "()I" } : Jvm.MethodName) prog_10_method_4_code (2 : Nat) (Option.some Jvm.ClassFile.FieldType.int)).before args0 about1 = true := code_word (m := ⟨2, 3⟩) (meth := k2m3) (c := k2c3) (by decide +kernel) rfl rfl rfl (by decide +kernel)
set_option maxRecDepth 65536 in
theorem w_c10 : (Jvm.Cond.code ({ cls := "com/example/slotweave/slotweave/alloc/NodeHeap", name := "siftDown", desc := "(II)V" } : Jvm.MethodName) prog_10_method_7_code (6 : Nat) (Option.none : Option Jvm.ClassFile.FieldType)).before args0 about1 = true := code_word (m := ⟨2, 6⟩) (meth := k2m6) (c := k2c6) (by decide +kernel) rfl rfl rfl (by decide +kernel)
def codes1 : List Jvm.Cond := [Jvm.Cond.code x code maxLocals ret, Jvm.Cond.code ({ cls := "com/example/slotweave/slotweave/alloc/NodeHeap", name := "<init>", desc := "([D)V" } : Jvm.MethodName) prog_10_method_1_code (2 : Nat) (Option.none : Option Jvm.ClassFile.FieldType), Jvm.Cond.code ({ cls := "java/lang/Object", name := "<init>", desc := "()V" } : Jvm.MethodName) object_method_1_code (1 : Nat) (Option.none : Option Jvm.ClassFile.FieldType), Jvm.Cond.code ({ cls := "java/util/Arrays", name := "fill", desc := "([II)V" } : Jvm.MethodName) jdk_65_method_103_code (4 : Nat) (Option.none : Option Jvm.ClassFile.FieldType), Jvm.Cond.code ({ cls := "com/example/slotweave/slotweave/alloc/NodeHeap", name := "lowered", desc := "(I)V" } : Jvm.MethodName) prog_10_method_3_code (3 : Nat) (Option.none : Option Jvm.ClassFile.FieldType), Jvm.Cond.code ({ cls := "com/example/slotweave/slotweave/alloc/NodeHeap", name := "siftUp", desc := "(II)V" } : Jvm.MethodName) prog_10_method_6_code (6 : Nat) (Option.none : Option Jvm.ClassFile.FieldType), Jvm.Cond.code ({ cls := "com/example/slotweave/slotweave/alloc/NodeHeap", name := "put", desc := "(II)V" } : Jvm.MethodName) prog_10_method_8_code (3 : Nat) (Option.none : Option Jvm.ClassFile.FieldType), Jvm.Cond.code ({ cls := "com/example/slotweave/slotweave/alloc/NodeHeap", name := "clear", desc := "()V" } : Jvm.MethodName) prog_10_method_5_code (2 : Nat) (Option.none : Option Jvm.ClassFile.FieldType), Jvm.Cond.code ({ cls := "com/example/slotweave/slotweave/alloc/NodeHeap", name := "isEmpty", desc := "()Z" } : Jvm.MethodName) prog_10_method_2_code (1 : Nat) (Option.some Jvm.ClassFile.FieldType.boolean), Jvm.Cond.code ({ cls := "com/example/slotweave/slotweave/alloc/NodeHeap", name := "poll", desc := "()I" } : Jvm.MethodName) prog_10_method_4_code (2 : Nat) (Option.some Jvm.ClassFile.FieldType.int), Jvm.Cond.code ({ cls := "com/example/slotweave/slotweave/alloc/NodeHeap", name := "siftDown", desc := "(II)V" } : Jvm.MethodName) prog_10_method_7_code (6 : Nat) (Option.none : Option Jvm.ClassFile.FieldType)]
set_option maxRecDepth 65536 in
theorem codes_eq : words1.filter isCode = codes1 := rfl
theorem w_codes : ∀ c ∈ words1.filter isCode, c.before args0 about1 = true := by
  rw [codes_eq]
  intro c hc
  simp only [codes1, List.mem_cons, List.not_mem_nil, or_false] at hc
  rcases hc with rfl | rfl | rfl | rfl | rfl | rfl | rfl | rfl | rfl | rfl | rfl
  · exact w_c0
  · exact w_c1
  · exact w_c2
  · exact w_c3
  · exact w_c4
  · exact w_c5
  · exact w_c6
  · exact w_c7
  · exact w_c8
  · exact w_c9
  · exact w_c10
set_option maxRecDepth 65536 in
theorem w_t1 : (words1.take 24).all (fun c => isCode c || c.before args0 about1) = true := by decide +kernel
set_option maxRecDepth 65536 in
theorem w_t2 : ((words1.drop 24).take 24).all (fun c => isCode c || c.before args0 about1) = true := by decide +kernel
set_option maxRecDepth 65536 in
theorem w_t3 : ((words1.drop 24).drop 24).all (fun c => isCode c || c.before args0 about1) = true := by decide +kernel
theorem w_tables : (allAtoms (Jvm.Cond.code x code maxLocals ret :: tables_1)).before args0 about1 = true := by
  rw [allAtoms_all]
  show words1.all (fun c => c.before args0 about1) = true
  refine all_split ?_ w_codes
  rw [← List.take_append_drop 24 words1, List.all_append, w_t1, ← List.take_append_drop 24 (words1.drop 24), List.all_append, w_t2, w_t3]
  rfl
set_option maxRecDepth 65536 in
theorem w_case : (Jvm.Cond.and given_1 narrow_1).before args0 about1 = true := by decide +kernel
theorem w_applies : (headSpec (Jvm.Cond.code x code maxLocals ret :: tables_1) room_1).applies x e0.platform about1 = true :=
  (Spec.applies_iff w_frames).mpr ⟨w_running, w_runnable, w_alone, w_named, w_hears, w_ripe, w_room, w_tables⟩
theorem atStart : AtStart classFile x code maxLocals ret World_1 tables_1 room_1 Calls_1 rest_1 Pre_1 launch0 p0 e0 about1 theMethod args0 below0 :=
  ⟨lists_1, trivial, launch0.admits_env _ _ _, launch0.least_env, fairChoices_fair.cas, fairChoices_fair.clock, w_frames, w_args, w_heap, w_applies, trivial, trivial, w_case⟩
end start1
theorem witness_1 : WitnessClaimed_1 := ⟨start1.p0, start1.e0, start1.about1, start1.theMethod, start1.args0, start1.below0, start1.atStart⟩
end Jvm.Pilot.@@N@@
