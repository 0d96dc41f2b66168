import JvmDerived
import JvmDerived.Pilot.@@N@@Statement
import JvmDerived.Pilot.@@N@@Code
set_option linter.unusedVariables false
set_option linter.unusedSimpArgs false
namespace Jvm.RoadKit
open Sem ClassFile Op Lib Jvm.Stand Jvm.Free Jvm.LawKit
section New
variable {p : Program} {l : Launch} {e : Env} {R : Room} {s : State} {m : MethodId} {args : Array Value} {below : List Frame} {meth : Method} {c : Code} {T : State} {locs : List Loc} {cells slots : Nat}
theorem retI (X : Stand p l e R s m args below meth c T locs cells slots) (hx : p.tables.exec = Jvm.exec) {pc : Nat} {Ls : Array Slot} {z : Int32} {rest : List Value} (hret : meth.sig.returnType = some .int) (hd : decode c.code pc = .ok (.ireturn, 1)) {fs : List Frame}
    (hl : ∀ (f : JFrame) (acts : List Action), f.method = m → f.locked = none → f.entered = [] → (doReturn e (T.setTop f) acts (some (.int z))).1 = T.setFrames fs) : Steps p.tables e below (T.setTop (mkF m pc Ls (.int z :: rest))) (T.setFrames fs) := by
  have hm' : T.vm.method? m = some meth := X.method'
  have hn : narrow .int (.int z) = .int z := rfl
  show Steps p.tables e below (T.setTop { method := m, pc := pc, locals := Ls, stack := _ :: rest, locked := none }) _
  jvm_step X.here [X.here.top, hx, hd, hm', hret, hn]
  first | (intro acts; rw [hl _ acts rfl rfl rfl]) | rw [hl _ _ rfl rfl rfl]
  exact Steps.refl _
end New
end Jvm.RoadKit
/- laws to paste: Road.backV, Road.lenW, Road.chN, Road.codOf (cut by pick.py; bodies as the Statement names them) -/
namespace Jvm.Pilot.@@N@@
namespace StrChars
open Jvm Sem ClassFile Op Lib Jvm.Stand Jvm.Free.XT Jvm.Free.ALB Jvm.Free.JM Jvm.Free
open Jvm.Lib.Cold (StaticIs)
/-- a char array whose places are chars -/
def Ch (a : Addr) (A : Cell) (U : State) : Prop := Arr .char a A U ∧ Typed .char A
theorem Ch.mv {a : Addr} {A : Cell} {U U' : State} (h : Ch a A U) (hal : U.vm.Alike U'.vm) (hh : U'.heap = U.heap) : Ch a A U' := ⟨h.1.mv hal hh, h.2⟩
theorem Ch.keep {a : Addr} {A : Cell} {U U' : State} (h : Ch a A U) (hal : U.vm.Alike U'.vm) (hk : U'.heap[a]? = some A) : Ch a A U' := ⟨h.1.keep hal hk, h.2⟩
/-- what place i of a char[]'s cell holds -/
def cv (A : Cell) (i : Nat) : Int32 := match A.slots[i]? with | some (.int x) => x | _ => 0
theorem Ch.get {a : Addr} {A : Cell} {U : State} (h : Ch a A U) {i : Nat} (hi : i < A.slots.size) : A.slots[i]? = some (.int (cv A i)) := by
  have e := Array.getElem?_eq_getElem hi
  have f := h.2 i _ e
  unfold cv; rw [e]
  generalize A.slots[i] = v at f
  cases v <;> simp [fits] at f ⊢
/-- the byte that i2b leaves of a char -/
def lo8 (x : Int32) : Int32 := x.toInt8.toInt32
theorem fits_lo8 (y : Int32) : fits .byte (.int (lo8 y)) = true := by
  have h1 := y.toInt8.le_toInt
  have h2 := y.toInt8.toInt_lt
  simp only [lo8, fits, Bool.and_eq_true, decide_eq_true_eq, Int32.le_iff_toInt_le, Int8.toInt_toInt32, show (-128 : Int32).toInt = -128 from by decide, show (127 : Int32).toInt = 127 from by decide]
  omega
/-- A' is A but that each place j of lo .. hi - 1 holds f j -/
def Laid (A A' : Cell) (lo hi : Nat) (f : Nat → Value) : Prop := A'.cls = A.cls ∧ A'.vm = A.vm ∧ A'.slots.size = A.slots.size ∧ ∀ i, A'.slots[i]? = if lo ≤ i ∧ i < hi then some (f i) else A.slots[i]?
theorem Laid.zero (A : Cell) (lo : Nat) (f : Nat → Value) : Laid A A lo (lo + 0) f := ⟨rfl, rfl, rfl, fun i => by rw [if_neg (by omega)]⟩
theorem Laid.step {A Ak : Cell} {lo k : Nat} {f : Nat → Value} {v : Value} (h : Laid A Ak lo k f) (hlo : lo ≤ k) (hk : k < Ak.slots.size) (hv : v = f k) : Laid A (Ak.setSlot k v) lo (k + 1) f := by
  refine ⟨h.1, h.2.1, by simpa [Cell.setSlot] using h.2.2.1, fun i => ?_⟩
  by_cases e : k = i
  · subst e; rw [Cell.slots_setSlot_self v hk, if_pos (by omega), hv]
  · rw [Cell.slots_setSlot_ne v e, h.2.2.2 i]
    by_cases q : lo ≤ i ∧ i < k
    · rw [if_pos q, if_pos (by omega)]
    · rw [if_neg q, if_neg (by omega)]
def U16 : String := "java/lang/StringUTF16"
namespace Cmp5
def yN : MethodName := ⟨"java/lang/StringUTF16", "compress", "([CI[BII)I"⟩
abbrev yB : ByteArray := jdk_52_method_21_code
theorem d0 : decode yB 0 = .ok (.iconst 0, 1) := by decide +kernel
theorem d1 : decode yB 1 = .ok (.istore 5, 2) := by decide +kernel
theorem d3 : decode yB 3 = .ok (.iload 5, 2) := by decide +kernel
theorem d5 : decode yB 5 = .ok (.iload 4, 2) := by decide +kernel
theorem d7 : decode yB 7 = .ok (.if_icmp (.ge) 37, 3) := by decide +kernel
theorem d10 : decode yB 10 = .ok (.aload_n 0, 1) := by decide +kernel
theorem d11 : decode yB 11 = .ok (.iload_n 1, 1) := by decide +kernel
theorem d12 : decode yB 12 = .ok (.caload, 1) := by decide +kernel
theorem d13 : decode yB 13 = .ok (.istore 6, 2) := by decide +kernel
theorem d15 : decode yB 15 = .ok (.iload 6, 2) := by decide +kernel
theorem d17 : decode yB 17 = .ok (.sipush 255, 3) := by decide +kernel
theorem d20 : decode yB 20 = .ok (.if_icmp (.le) 6, 3) := by decide +kernel
theorem d26 : decode yB 26 = .ok (.aload_n 2, 1) := by decide +kernel
theorem d27 : decode yB 27 = .ok (.iload_n 3, 1) := by decide +kernel
theorem d28 : decode yB 28 = .ok (.iload 6, 2) := by decide +kernel
theorem d30 : decode yB 30 = .ok (.i2b, 1) := by decide +kernel
theorem d31 : decode yB 31 = .ok (.bastore, 1) := by decide +kernel
theorem d32 : decode yB 32 = .ok (.iinc 1 1, 3) := by decide +kernel
theorem d35 : decode yB 35 = .ok (.iinc 3 1, 3) := by decide +kernel
theorem d38 : decode yB 38 = .ok (.iinc 5 1, 3) := by decide +kernel
theorem d41 : decode yB 41 = .ok (.goto (-38), 3) := by decide +kernel
theorem d44 : decode yB 44 = .ok (.iload 4, 2) := by decide +kernel
theorem d46 : decode yB 46 = .ok (.ireturn, 1) := by decide +kernel
def site : List Cond := []
def tab : Cond := tabOf yN yB 7 (some .int) site
def P (b : Addr) (A : Cell) (d : Addr) (B : Cell) (o q len : Nat) (args : Array Value) (s : State) : Prop := args = #[.ref b, .int (Int32.ofNat o), .ref d, .int (Int32.ofNat q), .int (Int32.ofNat len)] ∧ Ch b A s ∧ Arr .byte d B s ∧ b ≠ d ∧ o + len ≤ A.slots.size ∧ q + len ≤ B.slots.size ∧ ∀ i, i < len → ¬ 255 < cv A (o + i)
def E (b : Addr) (A : Cell) (d : Addr) (B : Cell) (o q len : Nat) (r : Option Value) (s u : State) : Prop := r = some (.int (Int32.ofNat len)) ∧ ∃ B', Put d B' s u ∧ Laid B B' q (q + len) (fun j => Value.int (lo8 (cv A (o + (j - q)))))
/-- no char of the range above 255: len; the places written hold each char's low byte -/
theorem law (l : Launch) (b : Addr) (A : Cell) (d : Addr) (B : Cell) (o q len : Nat) : Law l yN 5 5 0 0 yB 7 (some .int) site (P b A d B o q len) (E b A d B o q len) (copyLocs d q len) 0 0 := by
  refine Law.of_walk (plainFor_of_name (by decide +kernel)) (by decide +kernel) (by decide +kernel) (by decide) (fun _ _ h => by rw [h.1]; rfl) (fun _ U U' hal hh h => ⟨h.1, h.2.1.mv hal hh, h.2.2.1.mv hal hh, h.2.2.2⟩) (fun r U U' V V' h1 hal h2 h => ⟨h.1, h.2.elim fun B' q => ⟨B', q.1.mv h1 h2, q.2⟩⟩) ?_
  intro p e s m args below meth c s₁ X0 hexec hbytes hml hret hlk hnm hown hh0 W hP
  obtain ⟨rfl, hA, hB, hne, l1, l2, hp⟩ := hP
  have c1 : Steps p.tables e below (s₁.setTop (entryFrame m #[.ref b, .int (Int32.ofNat o), .ref d, .int (Int32.ofNat q), .int (Int32.ofNat len)] 7)) (s₁.setTop (mkF m 0 #[.val (.ref b), .val (.int (Int32.ofNat o)), .val (.ref d), .val (.int (Int32.ofNat q)), .val (.int (Int32.ofNat len)), .unset, .unset] [])) := entry rfl
  have hA0 := hA.1.mv X0.warmed.alike hh0
  have hB0 := hB.mv X0.warmed.alike hh0
  have a31 := hA.1.2.2.2
  have c2 : Steps p.tables e below (s₁.setTop (entryFrame m #[.ref b, .int (Int32.ofNat o), .ref d, .int (Int32.ofNat q), .int (Int32.ofNat len)] 7)) (s₁.setTop (mkF m 3 #[.val (.ref b), .val (.int (Int32.ofNat o)), .val (.ref d), .val (.int (Int32.ofNat q)), .val (.int (Int32.ofNat len)), .val (.int 0), .unset] [])) := c1.trans (by
    refine iconstV X0.here hexec rfl 0 (hb hbytes d0) (by decide) ?_
    refine XS.istore X0.here hexec rfl (hb hbytes d1) rfl rfl ?_
    exact Steps.refl _)
  have loop : ∀ (r i : Nat), i + r = len → ∀ (z : Slot), (z = .unset ∨ ∃ w, z = .val w ∧ w.category = 1) → ∀ (Tl : State) (Bk : Cell), Stand p l e { frames := 0, locals := 0, cells := 0, slots := 0 } s m #[.ref b, .int (Int32.ofNat o), .ref d, .int (Int32.ofNat q), .int (Int32.ofNat len)] below meth c Tl ([] ++ copyLocs d q i) 0 0 → Put d Bk s₁ Tl → Laid B Bk q (q + i) (fun j => Value.int (lo8 (cv A (o + (j - q))))) →
      Steps p.tables e below (s₁.setTop (entryFrame m #[.ref b, .int (Int32.ofNat o), .ref d, .int (Int32.ofNat q), .int (Int32.ofNat len)] 7)) (Tl.setTop (mkF m 3 #[.val (.ref b), .val (.int (Int32.ofNat (o + i))), .val (.ref d), .val (.int (Int32.ofNat (q + i))), .val (.int (Int32.ofNat len)), .val (.int (Int32.ofNat i)), z] [])) → ∃ (T' : State) (B' : Cell) (z' : Slot), Stand p l e { frames := 0, locals := 0, cells := 0, slots := 0 } s m #[.ref b, .int (Int32.ofNat o), .ref d, .int (Int32.ofNat q), .int (Int32.ofNat len)] below meth c T' ([] ++ copyLocs d q len) 0 0 ∧ Put d B' s₁ T' ∧ Laid B B' q (q + len) (fun j => Value.int (lo8 (cv A (o + (j - q))))) ∧
      Steps p.tables e below (s₁.setTop (entryFrame m #[.ref b, .int (Int32.ofNat o), .ref d, .int (Int32.ofNat q), .int (Int32.ofNat len)] 7)) (T'.setTop (mkF m 3 #[.val (.ref b), .val (.int (Int32.ofNat (o + len))), .val (.ref d), .val (.int (Int32.ofNat (q + len))), .val (.int (Int32.ofNat len)), .val (.int (Int32.ofNat len)), z'] [])) := by
    intro r
    induction r with
    | zero =>
      intro i hi z hz Tl Bk Xl pl fl cl
      have hil : i = len := by omega
      rw [hil] at Xl fl cl
      exact ⟨Tl, Bk, z, Xl, pl, fl, cl⟩
    | succ r ih =>
      intro i hi z hz Tl Bk Xl pl fl cl
      have all := X0.warmed.alike.symm.trans Xl.warmed.alike
      have hAl := hA0.keep all (pl.other hne hA0.1)
      have hBk := hB0.like all pl.1 fl.1 fl.2.1 fl.2.2.1
      have hlt : q + i < Bk.slots.size := by rw [fl.2.2.1]; omega
      have c3 : Steps p.tables e below (s₁.setTop (entryFrame m #[.ref b, .int (Int32.ofNat o), .ref d, .int (Int32.ofNat q), .int (Int32.ofNat len)] 7)) (Tl.setTop (mkF m 12 #[.val (.ref b), .val (.int (Int32.ofNat (o + i))), .val (.ref d), .val (.int (Int32.ofNat (q + i))), .val (.int (Int32.ofNat len)), .val (.int (Int32.ofNat i)), z] [.int (Int32.ofNat (o + i)), .ref b])) := cl.trans (by
        refine XS.iload Xl.here hexec rfl (hb hbytes d3) rfl ?_
        refine XS.iload Xl.here hexec rfl (hb hbytes d5) rfl ?_
        refine XS.icmpNo Xl.here hexec rfl (hb hbytes d7) rfl (ii_ge_f (lt32 (by omega) (by omega))) ?_
        refine XS.aloadN Xl.here hexec rfl (hb hbytes d10) rfl rfl ?_
        refine XS.iloadN Xl.here hexec rfl (hb hbytes d11) rfl ?_
        exact Steps.refl _)
      have c4 : Steps p.tables e below (s₁.setTop (entryFrame m #[.ref b, .int (Int32.ofNat o), .ref d, .int (Int32.ofNat q), .int (Int32.ofNat len)] 7)) (Tl.setTop (mkF m 13 #[.val (.ref b), .val (.int (Int32.ofNat (o + i))), .val (.ref d), .val (.int (Int32.ofNat (q + i))), .val (.int (Int32.ofNat len)), .val (.int (Int32.ofNat i)), z] [.int (cv A (o + i))])) := c3.trans (by
        refine Xl.aget hexec hAl rfl (hA.get (i := o + i) (by omega)) rfl rfl (hb hbytes d12) ?_
        exact Steps.refl _)
      have c5 : Steps p.tables e below (s₁.setTop (entryFrame m #[.ref b, .int (Int32.ofNat o), .ref d, .int (Int32.ofNat q), .int (Int32.ofNat len)] 7)) (Tl.setTop (mkF m 15 #[.val (.ref b), .val (.int (Int32.ofNat (o + i))), .val (.ref d), .val (.int (Int32.ofNat (q + i))), .val (.int (Int32.ofNat len)), .val (.int (Int32.ofNat i)), .val (.int (cv A (o + i)))] [])) := c4.trans (by
        refine XS.istoreS Xl.here hexec rfl (hb hbytes d13) rfl rfl hz ?_
        exact Steps.refl _)
      have c6 : Steps p.tables e below (s₁.setTop (entryFrame m #[.ref b, .int (Int32.ofNat o), .ref d, .int (Int32.ofNat q), .int (Int32.ofNat len)] 7)) (Tl.setTop (mkF m 31 #[.val (.ref b), .val (.int (Int32.ofNat (o + i))), .val (.ref d), .val (.int (Int32.ofNat (q + i))), .val (.int (Int32.ofNat len)), .val (.int (Int32.ofNat i)), .val (.int (cv A (o + i)))] [.int (lo8 (cv A (o + i))), .int (Int32.ofNat (q + i)), .ref d])) := c5.trans (by
        refine XS.iload Xl.here hexec rfl (hb hbytes d15) rfl ?_
        refine sipushV Xl.here hexec rfl 255 (hb hbytes d17) (by decide) ?_
        refine XS.icmpYes Xl.here hexec rfl (pc0 := 20) rfl (hb hbytes d20) rfl (ii_le_t (hp i (by omega))) (by decide) rfl ?_
        refine XS.aloadN Xl.here hexec rfl (hb hbytes d26) rfl rfl ?_
        refine XS.iloadN Xl.here hexec rfl (hb hbytes d27) rfl ?_
        refine XS.iload Xl.here hexec rfl (hb hbytes d28) rfl ?_
        refine i2b Xl.here hexec rfl (hb hbytes d30) rfl ?_
        exact Steps.refl _)
      obtain ⟨T7, X7, p7, st7⟩ := Xl.aput hexec hBk rfl hlt rfl (fits_lo8 (cv A (o + i))) (g := (mkF m 31 #[.val (.ref b), .val (.int (Int32.ofNat (o + i))), .val (.ref d), .val (.int (Int32.ofNat (q + i))), .val (.int (Int32.ofNat len)), .val (.int (Int32.ofNat i)), .val (.int (cv A (o + i)))] [.int (lo8 (cv A (o + i))), .int (Int32.ofNat (q + i)), .ref d])) rfl (rest := []) rfl (hb hbytes d31)
      have c8 : Steps p.tables e below (s₁.setTop (entryFrame m #[.ref b, .int (Int32.ofNat o), .ref d, .int (Int32.ofNat q), .int (Int32.ofNat len)] 7)) (T7.setTop (mkF m 32 #[.val (.ref b), .val (.int (Int32.ofNat (o + i))), .val (.ref d), .val (.int (Int32.ofNat (q + i))), .val (.int (Int32.ofNat len)), .val (.int (Int32.ofNat i)), .val (.int (cv A (o + i)))] [])) := c6.trans (st7 _ (Steps.refl _))
      have c9 : Steps p.tables e below (s₁.setTop (entryFrame m #[.ref b, .int (Int32.ofNat o), .ref d, .int (Int32.ofNat q), .int (Int32.ofNat len)] 7)) (T7.setTop (mkF m 3 #[.val (.ref b), .val (.int (Int32.ofNat (o + i) + 1)), .val (.ref d), .val (.int (Int32.ofNat (q + i) + 1)), .val (.int (Int32.ofNat len)), .val (.int (Int32.ofNat i + 1)), .val (.int (cv A (o + i)))] [])) := c8.trans (by
        refine iincV X7.here hexec rfl 1 (hb hbytes d32) (by decide) rfl rfl ?_
        refine iincV X7.here hexec rfl 1 (hb hbytes d35) (by decide) rfl rfl ?_
        refine iincV X7.here hexec rfl 1 (hb hbytes d38) (by decide) rfl rfl ?_
        refine XS.goto X7.here hexec rfl (pc0 := 41) rfl (hb hbytes d41) (by decide) rfl ?_
        exact Steps.refl _)
      have c10 : Steps p.tables e below (s₁.setTop (entryFrame m #[.ref b, .int (Int32.ofNat o), .ref d, .int (Int32.ofNat q), .int (Int32.ofNat len)] 7)) (T7.setTop (mkF m 3 #[.val (.ref b), .val (.int (Int32.ofNat (o + (i + 1)))), .val (.ref d), .val (.int (Int32.ofNat (q + (i + 1)))), .val (.int (Int32.ofNat len)), .val (.int (Int32.ofNat (i + 1))), .val (.int (cv A (o + i)))] [])) := by
        have := c9
        rw [succ32, succ32, succ32] at this
        exact this
      exact ih (i + 1) (by omega) _ (Or.inr ⟨_, rfl, rfl⟩) T7 _ (by rw [copyLocs_step, ← List.append_assoc]; exact X7) (pl.trans p7) (fl.step (by omega) hlt (by simp)) c10
  obtain ⟨T9, B9, z9, X9, p9, f9, g9⟩ := loop len 0 (by omega) .unset (Or.inl rfl) s₁ B (by simpa [copyLocs] using X0) ⟨hB0.1, fun _ _ => rfl, rfl⟩ (Laid.zero _ _ _) c2
  have c11 : Steps p.tables e below (s₁.setTop (entryFrame m #[.ref b, .int (Int32.ofNat o), .ref d, .int (Int32.ofNat q), .int (Int32.ofNat len)] 7)) (T9.setTop (mkF m 46 #[.val (.ref b), .val (.int (Int32.ofNat (o + len))), .val (.ref d), .val (.int (Int32.ofNat (q + len))), .val (.int (Int32.ofNat len)), .val (.int (Int32.ofNat len)), z9] [.int (Int32.ofNat len)])) := g9.trans (by
    refine XS.iload X9.here hexec rfl (hb hbytes d3) rfl ?_
    refine XS.iload X9.here hexec rfl (hb hbytes d5) rfl ?_
    refine XS.icmpYes X9.here hexec rfl (pc0 := 7) rfl (hb hbytes d7) rfl (ii_ge_t (nlt32 (by omega) (Nat.le_refl _))) (by decide) rfl ?_
    refine XS.iload X9.here hexec rfl (hb hbytes d44) rfl ?_
    exact Steps.refl _)
  exact ⟨T9, some (.int (Int32.ofNat len)), _, _, _, X9, by simp, rfl, rfl, (fun h => by cases h), ⟨rfl, B9, p9.from hh0, f9⟩, fun fs hl => c11.trans (X9.ireturnOut hexec hret rfl (Or.inl rfl) (hb hbytes d46) hl)⟩
end Cmp5
namespace Cmp3
def yN : MethodName := ⟨"java/lang/StringUTF16", "compress", "([CII)[B"⟩
abbrev yB : ByteArray := jdk_52_method_16_code
theorem d0 : decode yB 0 = .ok (.iload_n 2, 1) := by decide +kernel
theorem d1 : decode yB 1 = .ok (.newarray .byte, 2) := by decide +kernel
theorem d3 : decode yB 3 = .ok (.astore_n 3, 1) := by decide +kernel
theorem d4 : decode yB 4 = .ok (.aload_n 0, 1) := by decide +kernel
theorem d5 : decode yB 5 = .ok (.iload_n 1, 1) := by decide +kernel
theorem d6 : decode yB 6 = .ok (.aload_n 3, 1) := by decide +kernel
theorem d7 : decode yB 7 = .ok (.iconst 0, 1) := by decide +kernel
theorem d8 : decode yB 8 = .ok (.iload_n 2, 1) := by decide +kernel
theorem d9 : decode yB 9 = .ok (.invokestatic 115, 3) := by decide +kernel
theorem d12 : decode yB 12 = .ok (.istore 4, 2) := by decide +kernel
theorem d14 : decode yB 14 = .ok (.iload 4, 2) := by decide +kernel
theorem d16 : decode yB 16 = .ok (.iload_n 2, 1) := by decide +kernel
theorem d17 : decode yB 17 = .ok (.if_icmp (.eq) 40, 3) := by decide +kernel
theorem d57 : decode yB 57 = .ok (.aload_n 3, 1) := by decide +kernel
theorem d58 : decode yB 58 = .ok (.areturn, 1) := by decide +kernel
def site : List Cond := [.arrayClass .byte, Cmp5.tab] ++ staticW U16 115 Cmp5.yN
def tab : Cond := tabOf yN yB 6 (some (.array .byte)) site
def P (b : Addr) (A : Cell) (o len : Nat) (args : Array Value) (s : State) : Prop := args = #[.ref b, .int (Int32.ofNat o), .int (Int32.ofNat len)] ∧ Ch b A s ∧ o + len ≤ A.slots.size ∧ len ≤ 536870912 ∧ ∀ i, i < len → ¬ 255 < cv A (o + i)
def E (b : Addr) (A : Cell) (o len : Nat) (r : Option Value) (s u : State) : Prop := NewArr .byte "[B" len (fun j => .int (lo8 (cv A (o + j)))) r s u ∧ u.heap.size = s.heap.size + 1
/-- no char of the range above 255: a new byte[] of their low bytes -/
theorem law (l : Launch) (b : Addr) (A : Cell) (o len : Nat) : Law l yN 3 3 1 18 yB 6 (some (.array .byte)) site (P b A o len) (E b A o len) [] 1 len := by
  refine Law.of_walk (plainFor_of_name (by decide +kernel)) (by decide +kernel) (by decide +kernel) (by decide) (fun _ _ h => by rw [h.1]; rfl) (fun _ U U' hal hh h => ⟨h.1, h.2.1.mv hal hh, h.2.2⟩) (fun r U U' V V' h1 hal h2 h => ⟨NewArr.mv r U U' V V' h1 hal h2 h.1, by rw [h1, h2]; exact h.2⟩) ?_
  intro p e s m args below meth c s₁ X0 hexec hbytes hml hret hlk hnm hown hh0 W hP
  obtain ⟨rfl, hA, l1, l2, hp⟩ := hP
  have a31 := hA.1.2.2.2
  have c1 : Steps p.tables e below (s₁.setTop (entryFrame m #[.ref b, .int (Int32.ofNat o), .int (Int32.ofNat len)] 6)) (s₁.setTop (mkF m 0 #[.val (.ref b), .val (.int (Int32.ofNat o)), .val (.int (Int32.ofNat len)), .unset, .unset, .unset] [])) := entry rfl
  have c2 : Steps p.tables e below (s₁.setTop (entryFrame m #[.ref b, .int (Int32.ofNat o), .int (Int32.ofNat len)] 6)) (s₁.setTop (mkF m 1 #[.val (.ref b), .val (.int (Int32.ofNat o)), .val (.int (Int32.ofNat len)), .unset, .unset, .unset] [.int (Int32.ofNat len)])) := c1.trans (by
    refine XS.iloadN X0.here hexec rfl (hb hbytes d0) rfl ?_
    exact Steps.refl _)
  obtain ⟨T3, B3, X3, ba3, bs3, bv3, bh3, bf3, st3⟩ := X0.anew hexec (atype := .byte) (wk W (.arrayClass .byte)) rfl (by show len * 1 ≤ _; omega) (by omega) (g := (mkF m 1 #[.val (.ref b), .val (.int (Int32.ofNat o)), .val (.int (Int32.ofNat len)), .unset, .unset, .unset] [.int (Int32.ofNat len)])) rfl (hb hbytes d1) (rest := []) rfl (Nat.le_refl _) (by show 0 + len ≤ len; omega)
  rw [hh0] at ba3 st3
  have kp3 : XT.Kept s T3 := (XT.Kept.of_eq hh0).push bh3
  have hA3 := hA.keep X3.warmed.alike (kp3 _ _ hA.1.1)
  have hne : b ≠ s.heap.size := hA.1.ne
  have c4 : Steps p.tables e below (s₁.setTop (entryFrame m #[.ref b, .int (Int32.ofNat o), .int (Int32.ofNat len)] 6)) (T3.setTop (mkF m 3 #[.val (.ref b), .val (.int (Int32.ofNat o)), .val (.int (Int32.ofNat len)), .unset, .unset, .unset] [.ref s.heap.size])) := c2.trans (st3 _ (Steps.refl _))
  have c5 : Steps p.tables e below (s₁.setTop (entryFrame m #[.ref b, .int (Int32.ofNat o), .int (Int32.ofNat len)] 6)) (T3.setTop (mkF m 9 #[.val (.ref b), .val (.int (Int32.ofNat o)), .val (.int (Int32.ofNat len)), .val (.ref s.heap.size), .unset, .unset] [.int (Int32.ofNat len), .int 0, .ref s.heap.size, .int (Int32.ofNat o), .ref b])) := c4.trans (by
    refine XS.astoreN X3.here hexec rfl (hb hbytes d3) rfl rfl rfl ?_
    refine XS.aloadN X3.here hexec rfl (hb hbytes d4) rfl rfl ?_
    refine XS.iloadN X3.here hexec rfl (hb hbytes d5) rfl ?_
    refine XS.aloadN X3.here hexec rfl (hb hbytes d6) rfl rfl ?_
    refine iconstV X3.here hexec rfl 0 (hb hbytes d7) (by decide) ?_
    refine XS.iloadN X3.here hexec rfl (hb hbytes d8) rfl ?_
    exact Steps.refl _)
  obtain ⟨v6, T6, X6, E6, g6⟩ := X3.callS hexec (Cmp5.law l b A s.heap.size B3 o 0 len) hown (wks W (staticW U16 115 Cmp5.yN)) (wk W Cmp5.tab) (W := 0) (Nat.le_of_ble_eq_true rfl) (Nat.le_of_ble_eq_true rfl) (Nat.le_refl _) (by show 0 + len + 0 ≤ len; omega) (g := (mkF m 9 #[.val (.ref b), .val (.int (Int32.ofNat o)), .val (.int (Int32.ofNat len)), .val (.ref s.heap.size), .unset, .unset] [.int (Int32.ofNat len), .int (Int32.ofNat 0), .ref s.heap.size, .int (Int32.ofNat o), .ref b])) rfl (by rw [hml]; rfl) c5 (argsL := [.ref b, .int (Int32.ofNat o), .ref s.heap.size, .int (Int32.ofNat 0), .int (Int32.ofNat len)]) (rest := []) rfl rfl (by show 2 * 0 + 0 ≤ _; decide) (hb hbytes d9) (⟨rfl, hA3, ba3, hne, l1, by rw [bs3]; simp, hp⟩)
  obtain ⟨rfl, B6, p6, f6⟩ := E6
  have c7 : Steps p.tables e below (s₁.setTop (entryFrame m #[.ref b, .int (Int32.ofNat o), .int (Int32.ofNat len)] 6)) (T6.setTop (mkF m 12 #[.val (.ref b), .val (.int (Int32.ofNat o)), .val (.int (Int32.ofNat len)), .val (.ref s.heap.size), .unset, .unset] [.int (Int32.ofNat len)])) := g6
  have c8 : Steps p.tables e below (s₁.setTop (entryFrame m #[.ref b, .int (Int32.ofNat o), .int (Int32.ofNat len)] 6)) (T6.setTop (mkF m 58 #[.val (.ref b), .val (.int (Int32.ofNat o)), .val (.int (Int32.ofNat len)), .val (.ref s.heap.size), .val (.int (Int32.ofNat len)), .unset] [.ref s.heap.size])) := c7.trans (by
    refine XS.istore X6.here hexec rfl (hb hbytes d12) rfl rfl ?_
    refine XS.iload X6.here hexec rfl (hb hbytes d14) rfl ?_
    refine XS.iloadN X6.here hexec rfl (hb hbytes d16) rfl ?_
    refine XS.icmpYes X6.here hexec rfl (pc0 := 17) rfl (hb hbytes d17) rfl (ii_eq_t rfl) (by decide) rfl ?_
    refine XS.aloadN X6.here hexec rfl (hb hbytes d57) rfl rfl ?_
    exact Steps.refl _)
  have X8 := X6.wide (L' := []) (cells' := 1) (slots' := len) (fun x hx hlt => by
    simp only [List.nil_append, copyLocs, List.mem_map, List.mem_range] at hx
    obtain ⟨i, -, rfl⟩ := hx
    exact absurd hlt (Nat.lt_irrefl _)) (Nat.le_refl _) (by omega)
  exact ⟨T6, some (.ref s.heap.size), _, _, _, X8, rfl, rfl, rfl, (fun h => by cases h), ⟨⟨rfl, B6, ba3.like (X3.warmed.alike.symm.trans X6.warmed.alike) p6.1 f6.1 f6.2.1 f6.2.2.1, f6.2.1.trans bv3, by rw [X6.warmed.alike.findClass, f6.1]; exact bf3, by rw [f6.2.2.1, bs3]; simp, fun j hj => by rw [f6.2.2.2 j, if_pos (by omega)]; rfl, kp3.put p6 (Nat.le_refl _)⟩, by rw [p6.2.2, bh3, hh0]; simp⟩, fun fs hl => c8.trans (X8.areturnOut hexec rfl hret rfl (hb hbytes d58) hl)⟩
end Cmp3
namespace CodL
def yN : MethodName := ⟨"java/lang/StringUTF16", "coderFromArrayLen", "([BI)B"⟩
abbrev yB : ByteArray := jdk_52_method_15_code
theorem d0 : decode yB 0 = .ok (.iload_n 1, 1) := by decide +kernel
theorem d1 : decode yB 1 = .ok (.aload_n 0, 1) := by decide +kernel
theorem d2 : decode yB 2 = .ok (.arraylength, 1) := by decide +kernel
theorem d3 : decode yB 3 = .ok (.isub, 1) := by decide +kernel
theorem d4 : decode yB 4 = .ok (.bipush 31, 2) := by decide +kernel
theorem d6 : decode yB 6 = .ok (.iushr, 1) := by decide +kernel
theorem d7 : decode yB 7 = .ok (.i2b, 1) := by decide +kernel
theorem d8 : decode yB 8 = .ok (.ireturn, 1) := by decide +kernel
def site : List Cond := []
def tab : Cond := tabOf yN yB 2 (some .byte) site
def P (d : Addr) (B : Cell) (args : Array Value) (s : State) : Prop := args = #[.ref d, .int (Int32.ofNat B.slots.size)] ∧ Arr .byte d B s
def E (r : Option Value) (s u : State) : Prop := XT.PureE (some (.int 0)) r s u
/-- an array as long as the number of chars: LATIN1 -/
theorem law (l : Launch) (d : Addr) (B : Cell) : Law l yN 2 2 0 0 yB 2 (some .byte) site (P d B) E [] 0 0 := by
  refine Law.of_walk (plainFor_of_name (by decide +kernel)) (by decide +kernel) (by decide +kernel) (by decide) (fun _ _ h => by rw [h.1]; rfl) (fun _ U U' hal hh h => ⟨h.1, h.2.mv hal hh⟩) (fun r U U' V V' h1 hal h2 h => XT.PureE.mv r U U' V V' h1 hal h2 h) ?_
  intro p e s m args below meth c s₁ X0 hexec hbytes hml hret hlk hnm hown hh0 W hP
  obtain ⟨rfl, hB⟩ := hP
  have hB0 := hB.mv X0.warmed.alike hh0
  have c1 : Steps p.tables e below (s₁.setTop (entryFrame m #[.ref d, .int (Int32.ofNat B.slots.size)] 2)) (s₁.setTop (mkF m 0 #[.val (.ref d), .val (.int (Int32.ofNat B.slots.size))] [])) := entry rfl
  have c2 : Steps p.tables e below (s₁.setTop (entryFrame m #[.ref d, .int (Int32.ofNat B.slots.size)] 2)) (s₁.setTop (mkF m 2 #[.val (.ref d), .val (.int (Int32.ofNat B.slots.size))] [.ref d, .int (Int32.ofNat B.slots.size)])) := c1.trans (by
    refine XS.iloadN X0.here hexec rfl (hb hbytes d0) rfl ?_
    refine XS.aloadN X0.here hexec rfl (hb hbytes d1) rfl rfl ?_
    exact Steps.refl _)
  have c3 : Steps p.tables e below (s₁.setTop (entryFrame m #[.ref d, .int (Int32.ofNat B.slots.size)] 2)) (s₁.setTop (mkF m 8 #[.val (.ref d), .val (.int (Int32.ofNat B.slots.size))] [.int (lo8 (ushr (Int32.ofNat B.slots.size - Int32.ofNat B.slots.size) 31))])) := c2.trans (by
    refine X0.alen hexec hB0 rfl rfl (hb hbytes d2) ?_
    refine XS.isub X0.here hexec rfl (hb hbytes d3) rfl ?_
    refine bipushV X0.here hexec rfl 31 (hb hbytes d4) (by decide) ?_
    refine iushr X0.here hexec rfl (hb hbytes d6) rfl ?_
    refine i2b X0.here hexec rfl (hb hbytes d7) rfl ?_
    exact Steps.refl _)
  have e0 : lo8 (ushr (Int32.ofNat B.slots.size - Int32.ofNat B.slots.size) 31) = 0 := by rw [Int32.sub_self]; decide
  rw [e0] at c3
  exact ⟨s₁, some (.int 0), _, _, _, X0, rfl, rfl, rfl, (fun h => by cases h), ⟨rfl, hh0⟩, fun fs hl => c3.trans (X0.ireturnOut hexec hret rfl (Or.inr (Or.inr (Or.inl rfl))) (hb hbytes d8) hl)⟩
end CodL
/-- the String at a is Latin-1 over a new byte[] (the heap's one new cell): the low bytes of the len chars of A from o on; every cell but a is kept -/
def Got (a : Addr) (D : Cell) (fV fC : Field) (A : Cell) (o len : Nat) (r : Option Value) (s u : State) : Prop := r = none ∧ ∃ D' V : Cell, Blank "java/lang/String" a D' u ∧ Same D D' [fV.slot, fC.slot] ∧ D'.slots[fV.slot]? = some (.ref s.heap.size) ∧ D'.slots[fC.slot]? = some (.int 0) ∧ Arr .byte s.heap.size V u ∧ V.vm = .none ∧ u.vm.findClass "[B" = some V.cls ∧ V.slots.size = len ∧ (∀ j, j < len → V.slots[j]? = some (.int (lo8 (cv A (o + j))))) ∧ (∀ (y : Addr) (c : Cell), y ≠ a → s.heap[y]? = some c → u.heap[y]? = some c) ∧ u.heap.size = s.heap.size + 1
theorem Got.mv {a : Addr} {D A : Cell} {fV fC : Field} {o len : Nat} : ∀ r (U U' V V' : State), U'.heap = U.heap → V.vm.Alike V'.vm → V'.heap = V.heap → Got a D fV fC A o len r U V → Got a D fV fC A o len r U' V' :=
  fun r U U' V V' h1 hal h2 ⟨e0, D', X, a1, a2, a3, a4, a5, a6, a7, a8, a9, a10, a11⟩ => ⟨e0, D', X, a1.mv hal h2, a2, by rw [h1]; exact a3, a4, by rw [h1]; exact a5.mv hal h2, a6, by rw [hal.findClass]; exact a7, a8, a9, by rw [h1, h2]; exact a10, by rw [h1, h2]; exact a11⟩
namespace New4
def yN : MethodName := ⟨"java/lang/String", "<init>", "([CIILjava/lang/Void;)V"⟩
abbrev yB : ByteArray := jdk_42_method_149_code
theorem d0 : decode yB 0 = .ok (.aload_n 0, 1) := by decide +kernel
theorem d1 : decode yB 1 = .ok (.invokespecial 1, 3) := by decide +kernel
theorem d4 : decode yB 4 = .ok (.iload_n 3, 1) := by decide +kernel
theorem d5 : decode yB 5 = .ok (.ifCond (.ne) 22, 3) := by decide +kernel
theorem d27 : decode yB 27 = .ok (.getstatic 38, 3) := by decide +kernel
theorem d30 : decode yB 30 = .ok (.ifCond (.eq) 28, 3) := by decide +kernel
theorem d33 : decode yB 33 = .ok (.aload_n 1, 1) := by decide +kernel
theorem d34 : decode yB 34 = .ok (.iload_n 2, 1) := by decide +kernel
theorem d35 : decode yB 35 = .ok (.iload_n 3, 1) := by decide +kernel
theorem d36 : decode yB 36 = .ok (.invokestatic 177, 3) := by decide +kernel
theorem d39 : decode yB 39 = .ok (.astore 5, 2) := by decide +kernel
theorem d41 : decode yB 41 = .ok (.aload_n 0, 1) := by decide +kernel
theorem d42 : decode yB 42 = .ok (.aload 5, 2) := by decide +kernel
theorem d44 : decode yB 44 = .ok (.iload_n 3, 1) := by decide +kernel
theorem d45 : decode yB 45 = .ok (.invokestatic 47, 3) := by decide +kernel
theorem d48 : decode yB 48 = .ok (.putfield 15, 3) := by decide +kernel
theorem d51 : decode yB 51 = .ok (.aload_n 0, 1) := by decide +kernel
theorem d52 : decode yB 52 = .ok (.aload 5, 2) := by decide +kernel
theorem d54 : decode yB 54 = .ok (.putfield 9, 3) := by decide +kernel
theorem d57 : decode yB 57 = .ok (.return_, 1) := by decide +kernel
def site : List Cond := [.fieldLink "java/lang/String" 38 "java/lang/String" "COMPACT_STRINGS" "Z", Cmp3.tab, CodL.tab, .laysFinal "java/lang/String" "java/lang/String" "value" "[B", .fieldLink "java/lang/String" 9 "java/lang/String" "value" "[B", .laysFinal "java/lang/String" "java/lang/String" "coder" "B", .fieldLink "java/lang/String" 15 "java/lang/String" "coder" "B"] ++ objW "java/lang/String" 1 ++ staticW "java/lang/String" 177 Cmp3.yN ++ staticW "java/lang/String" 47 CodL.yN
def tab : Cond := tabOf yN yB 6 none site
def P (a : Addr) (D : Cell) (fV fC : Field) (b : Addr) (A : Cell) (z : Int32) (o len : Nat) (args : Array Value) (s : State) : Prop := args = #[.ref a, .ref b, .int (Int32.ofNat o), .int (Int32.ofNat len), .null] ∧ Blank "java/lang/String" a D s ∧ Found "java/lang/String" "value" "[B" fV s ∧ Found "java/lang/String" "coder" "B" fC s ∧ Ch b A s ∧ StaticIs s "java/lang/String" "COMPACT_STRINGS" "Z" (.int z) ∧ ¬ z = 0 ∧ 0 < len ∧ o + len ≤ A.slots.size ∧ len ≤ 536870912 ∧ ∀ i, i < len → ¬ 255 < cv A (o + i)
def E (a : Addr) (D : Cell) (fV fC : Field) (A : Cell) (o len : Nat) (r : Option Value) (s u : State) : Prop := Got a D fV fC A o len r s u
/-- len > 0, no char of the range above 255: a Latin-1 String of their low bytes -/
theorem law (l : Launch) (a : Addr) (D : Cell) (fV fC : Field) (b : Addr) (A : Cell) (z : Int32) (o len : Nat) : Law l yN 5 4 2 35 yB 6 none site (P a D fV fC b A z o len) (E a D fV fC A o len) [⟨a, fC.slot⟩, ⟨a, fV.slot⟩] 1 len := by
  refine Law.of_walk (plainFor_of_name (by decide +kernel)) (by decide +kernel) (by decide +kernel) (by decide) (fun _ _ h => by rw [h.1]; rfl) (fun _ U U' hal hh h => ⟨h.1, h.2.1.mv hal hh, h.2.2.1.al hal, h.2.2.2.1.al hal, h.2.2.2.2.1.mv hal hh, h.2.2.2.2.2.1.there hal hh, h.2.2.2.2.2.2⟩) (fun r U U' V V' h1 hal h2 h => Got.mv r U U' V V' h1 hal h2 h) ?_
  intro p e s m args below meth c s₁ X0 hexec hbytes hml hret hlk hnm hown hh0 W hP
  obtain ⟨rfl, hB, f1, f2, hA, s1, hz, l0, l1, l2, hp⟩ := hP
  have a31 := hA.1.2.2.2
  have c1 : Steps p.tables e below (s₁.setTop (entryFrame m #[.ref a, .ref b, .int (Int32.ofNat o), .int (Int32.ofNat len), .null] 6)) (s₁.setTop (mkF m 0 #[.val (.ref a), .val (.ref b), .val (.int (Int32.ofNat o)), .val (.int (Int32.ofNat len)), .val .null, .unset] [])) := entry rfl
  have c2 : Steps p.tables e below (s₁.setTop (entryFrame m #[.ref a, .ref b, .int (Int32.ofNat o), .int (Int32.ofNat len), .null] 6)) (s₁.setTop (mkF m 1 #[.val (.ref a), .val (.ref b), .val (.int (Int32.ofNat o)), .val (.int (Int32.ofNat len)), .val .null, .unset] [.ref a])) := c1.trans (by
    refine XS.aloadN X0.here hexec rfl (hb hbytes d0) rfl rfl ?_
    exact Steps.refl _)
  obtain ⟨T3, X3, q3, st3⟩ := X0.oinit hexec hown (wks W (objW "java/lang/String" 1)) (g := (mkF m 1 #[.val (.ref a), .val (.ref b), .val (.int (Int32.ofNat o)), .val (.int (Int32.ofNat len)), .val .null, .unset] [.ref a])) rfl (by rw [hml]; rfl) (rest := []) rfl (hb hbytes d1) (W := 0) (by show 2 * 0 + 0 ≤ _; decide) (Nat.le_of_ble_eq_true rfl) (Nat.le_of_ble_eq_true rfl)
  have hh3 := q3.trans hh0
  have c4 : Steps p.tables e below (s₁.setTop (entryFrame m #[.ref a, .ref b, .int (Int32.ofNat o), .int (Int32.ofNat len), .null] 6)) (T3.setTop (mkF m 27 #[.val (.ref a), .val (.ref b), .val (.int (Int32.ofNat o)), .val (.int (Int32.ofNat len)), .val .null, .unset] [])) := (c2.trans (st3 _ (Steps.refl _))).trans (by
    refine XS.iloadN X3.here hexec rfl (hb hbytes d4) rfl ?_
    refine XS.ifYes X3.here hexec rfl (pc0 := 5) rfl (hb hbytes d5) rfl (i0_ne_t (nz32 (by omega) l0)) (by decide) rfl ?_
    exact Steps.refl _)
  obtain ⟨T5, X5, q5, st5⟩ := X3.sget hexec hown (wk W (.fieldLink "java/lang/String" 38 "java/lang/String" "COMPACT_STRINGS" "Z")) s1 (fun _ _ h => by rw [hh3]; exact h) (g := (mkF m 27 #[.val (.ref a), .val (.ref b), .val (.int (Int32.ofNat o)), .val (.int (Int32.ofNat len)), .val .null, .unset] [])) rfl (hb hbytes d27)
  have hh5 := q5.trans hh3
  have c6 : Steps p.tables e below (s₁.setTop (entryFrame m #[.ref a, .ref b, .int (Int32.ofNat o), .int (Int32.ofNat len), .null] 6)) (T5.setTop (mkF m 30 #[.val (.ref a), .val (.ref b), .val (.int (Int32.ofNat o)), .val (.int (Int32.ofNat len)), .val .null, .unset] [.int z])) := c4.trans (st5 _ (Steps.refl _))
  have c7 : Steps p.tables e below (s₁.setTop (entryFrame m #[.ref a, .ref b, .int (Int32.ofNat o), .int (Int32.ofNat len), .null] 6)) (T5.setTop (mkF m 36 #[.val (.ref a), .val (.ref b), .val (.int (Int32.ofNat o)), .val (.int (Int32.ofNat len)), .val .null, .unset] [.int (Int32.ofNat len), .int (Int32.ofNat o), .ref b])) := c6.trans (by
    refine XS.ifNo X5.here hexec rfl (hb hbytes d30) rfl (i0_eq_f hz) ?_
    refine XS.aloadN X5.here hexec rfl (hb hbytes d33) rfl rfl ?_
    refine XS.iloadN X5.here hexec rfl (hb hbytes d34) rfl ?_
    refine XS.iloadN X5.here hexec rfl (hb hbytes d35) rfl ?_
    exact Steps.refl _)
  obtain ⟨v8, T8, X8, E8, g8⟩ := X5.callS hexec (Cmp3.law l b A o len) hown (wks W (staticW "java/lang/String" 177 Cmp3.yN)) (wk W Cmp3.tab) (W := 0) (Nat.le_of_ble_eq_true rfl) (Nat.le_of_ble_eq_true rfl) (Nat.le_refl _) (by show 0 + len ≤ len; omega) (g := (mkF m 36 #[.val (.ref a), .val (.ref b), .val (.int (Int32.ofNat o)), .val (.int (Int32.ofNat len)), .val .null, .unset] [.int (Int32.ofNat len), .int (Int32.ofNat o), .ref b])) rfl (by rw [hml]; rfl) c7 (argsL := [.ref b, .int (Int32.ofNat o), .int (Int32.ofNat len)]) (rest := []) rfl rfl (by show 2 * 0 + 0 ≤ _; decide) (hb hbytes d36) (⟨rfl, hA.mv X5.warmed.alike hh5, l1, l2, hp⟩)
  obtain ⟨e8, z8⟩ := E8
  obtain ⟨rfl, N, n1, n2, n3, n4, n5, n6⟩ := NewArr.mv _ T5 s _ _ hh5.symm (Vm.Alike.refl _) rfl e8
  rw [hh5] at z8
  have hB1 := hB.keep X8.warmed.alike (n6 _ _ hB.1)
  have hne : s.heap.size ≠ a := (Nat.ne_of_lt (Array.getElem?_eq_some_iff.mp hB.1).1).symm
  have c9 : Steps p.tables e below (s₁.setTop (entryFrame m #[.ref a, .ref b, .int (Int32.ofNat o), .int (Int32.ofNat len), .null] 6)) (T8.setTop (mkF m 39 #[.val (.ref a), .val (.ref b), .val (.int (Int32.ofNat o)), .val (.int (Int32.ofNat len)), .val .null, .unset] [.ref s.heap.size])) := g8
  have c10 : Steps p.tables e below (s₁.setTop (entryFrame m #[.ref a, .ref b, .int (Int32.ofNat o), .int (Int32.ofNat len), .null] 6)) (T8.setTop (mkF m 45 #[.val (.ref a), .val (.ref b), .val (.int (Int32.ofNat o)), .val (.int (Int32.ofNat len)), .val .null, .val (.ref s.heap.size)] [.int (Int32.ofNat N.slots.size), .ref s.heap.size, .ref a])) := by
    have hc : Steps p.tables e below (s₁.setTop (entryFrame m #[.ref a, .ref b, .int (Int32.ofNat o), .int (Int32.ofNat len), .null] 6)) (T8.setTop (mkF m 45 #[.val (.ref a), .val (.ref b), .val (.int (Int32.ofNat o)), .val (.int (Int32.ofNat len)), .val .null, .val (.ref s.heap.size)] [.int (Int32.ofNat len), .ref s.heap.size, .ref a])) := c9.trans (by
      refine XS.astore X8.here hexec rfl (hb hbytes d39) rfl rfl rfl ?_
      refine XS.aloadN X8.here hexec rfl (hb hbytes d41) rfl rfl ?_
      refine XS.aload X8.here hexec rfl (hb hbytes d42) rfl rfl ?_
      refine XS.iloadN X8.here hexec rfl (hb hbytes d44) rfl ?_
      exact Steps.refl _)
    rw [n4]; exact hc
  obtain ⟨v11, T11, X11, E11, g11⟩ := X8.callS hexec (CodL.law l s.heap.size N) hown (wks W (staticW "java/lang/String" 47 CodL.yN)) (wk W CodL.tab) (W := 1) (Nat.le_of_ble_eq_true rfl) (Nat.le_of_ble_eq_true rfl) (Nat.le_refl _) (by show 0 + len + 0 ≤ len; omega) (g := (mkF m 45 #[.val (.ref a), .val (.ref b), .val (.int (Int32.ofNat o)), .val (.int (Int32.ofNat len)), .val .null, .val (.ref s.heap.size)] [.int (Int32.ofNat N.slots.size), .ref s.heap.size, .ref a])) rfl (by rw [hml]; rfl) c10 (argsL := [.ref s.heap.size, .int (Int32.ofNat N.slots.size)]) (rest := [.ref a]) rfl rfl (by show 2 * 0 + (1 + 0) ≤ _; decide) (hb hbytes d45) (⟨rfl, n1⟩)
  obtain ⟨rfl, q11⟩ := E11
  have hB11 := hB1.mv (X8.warmed.alike.symm.trans X11.warmed.alike) q11
  have c12 : Steps p.tables e below (s₁.setTop (entryFrame m #[.ref a, .ref b, .int (Int32.ofNat o), .int (Int32.ofNat len), .null] 6)) (T11.setTop (mkF m 48 #[.val (.ref a), .val (.ref b), .val (.int (Int32.ofNat o)), .val (.int (Int32.ofNat len)), .val .null, .val (.ref s.heap.size)] [.int 0, .ref a])) := g11
  obtain ⟨T13, X13, p13, bl13, sl13, st13⟩ := X11.finit hexec hown (wk W (.fieldLink "java/lang/String" 15 "java/lang/String" "coder" "B")) (Or.inr ⟨_, (wk W (.laysFinal "java/lang/String" "java/lang/String" "coder" "B"))⟩) (Or.inl ⟨rfl, hnm⟩) f2 (Or.inl rfl) hB11 (t := .byte) (by decide +kernel) rfl (g := (mkF m 48 #[.val (.ref a), .val (.ref b), .val (.int (Int32.ofNat o)), .val (.int (Int32.ofNat len)), .val .null, .val (.ref s.heap.size)] [.int 0, .ref a])) rfl (rest := []) rfl (hb hbytes d48)
  have c14 : Steps p.tables e below (s₁.setTop (entryFrame m #[.ref a, .ref b, .int (Int32.ofNat o), .int (Int32.ofNat len), .null] 6)) (T13.setTop (mkF m 54 #[.val (.ref a), .val (.ref b), .val (.int (Int32.ofNat o)), .val (.int (Int32.ofNat len)), .val .null, .val (.ref s.heap.size)] [.ref s.heap.size, .ref a])) := (c12.trans (st13 _ (Steps.refl _))).trans (by
    refine XS.aloadN X13.here hexec rfl (hb hbytes d51) rfl rfl ?_
    refine XS.aload X13.here hexec rfl (hb hbytes d52) rfl rfl ?_
    exact Steps.refl _)
  obtain ⟨T15, X15, p15, bl15, sl15, st15⟩ := X13.finit hexec hown (wk W (.fieldLink "java/lang/String" 9 "java/lang/String" "value" "[B")) (Or.inr ⟨_, (wk W (.laysFinal "java/lang/String" "java/lang/String" "value" "[B"))⟩) (Or.inl ⟨rfl, hnm⟩) f1 (Or.inl rfl) bl13 (t := (.array .byte)) (by decide +kernel) rfl (g := (mkF m 54 #[.val (.ref a), .val (.ref b), .val (.int (Int32.ofNat o)), .val (.int (Int32.ofNat len)), .val .null, .val (.ref s.heap.size)] [.ref s.heap.size, .ref a])) rfl (rest := []) rfl (hb hbytes d54)
  have c16 : Steps p.tables e below (s₁.setTop (entryFrame m #[.ref a, .ref b, .int (Int32.ofNat o), .int (Int32.ofNat len), .null] 6)) (T15.setTop (mkF m 57 #[.val (.ref a), .val (.ref b), .val (.int (Int32.ofNat o)), .val (.int (Int32.ofNat len)), .val .null, .val (.ref s.heap.size)] [])) := c14.trans (st15 _ (Steps.refl _))
  have ap := apart (Or.inr ⟨_, (wk W (.laysFinal "java/lang/String" "java/lang/String" "value" "[B"))⟩) (Or.inr ⟨_, (wk W (.laysFinal "java/lang/String" "java/lang/String" "coder" "B"))⟩) f1 f2 (t₁ := .array .byte) (t₂ := .byte) (by decide +kernel) (by decide +kernel) (by decide)
  have al := X8.warmed.alike.symm.trans X15.warmed.alike
  have n7 : T11.heap[s.heap.size]? = some N := by rw [q11]; exact n1.1
  exact ⟨T15, none, _, _, _, X15, by simp, rfl, by omega, (fun _ => rfl), ⟨rfl, _, N, bl15, ((Same.refl D _).set _ (by simp)).set _ (by simp), sl15, (Cell.slots_setSlot_ne _ ap).trans sl13, n1.keep al (p15.other hne (p13.other hne n7)), n2, by rw [al.findClass]; exact n3, n4, n5, fun y c h1 h2 => p15.other h1 (p13.other h1 (by rw [q11]; exact n6 y c h2)), by rw [p15.2.2, p13.2.2, q11]; exact z8⟩, fun fs hl => c16.trans (X15.returnOut hexec hret (hb hbytes d57) hl)⟩
end New4
namespace New1
def yN : MethodName := ⟨"java/lang/String", "<init>", "([C)V"⟩
abbrev yB : ByteArray := jdk_42_method_3_code
theorem d0 : decode yB 0 = .ok (.aload_n 0, 1) := by decide +kernel
theorem d1 : decode yB 1 = .ok (.aload_n 1, 1) := by decide +kernel
theorem d2 : decode yB 2 = .ok (.iconst 0, 1) := by decide +kernel
theorem d3 : decode yB 3 = .ok (.aload_n 1, 1) := by decide +kernel
theorem d4 : decode yB 4 = .ok (.arraylength, 1) := by decide +kernel
theorem d5 : decode yB 5 = .ok (.aconst_null, 1) := by decide +kernel
theorem d6 : decode yB 6 = .ok (.invokespecial 27, 3) := by decide +kernel
theorem d9 : decode yB 9 = .ok (.return_, 1) := by decide +kernel
def site : List Cond := [New4.tab] ++ initW "java/lang/String" 27 New4.yN
def tab : Cond := tabOf yN yB 2 none site
def P (a : Addr) (D : Cell) (fV fC : Field) (b : Addr) (A : Cell) (z : Int32) (args : Array Value) (s : State) : Prop := args = #[.ref a, .ref b] ∧ Blank "java/lang/String" a D s ∧ Found "java/lang/String" "value" "[B" fV s ∧ Found "java/lang/String" "coder" "B" fC s ∧ Ch b A s ∧ StaticIs s "java/lang/String" "COMPACT_STRINGS" "Z" (.int z) ∧ ¬ z = 0 ∧ 0 < A.slots.size ∧ A.slots.size ≤ 536870912 ∧ ∀ i, i < A.slots.size → ¬ 255 < cv A i
def E (a : Addr) (D : Cell) (fV fC : Field) (A : Cell) (r : Option Value) (s u : State) : Prop := Got a D fV fC A 0 A.slots.size r s u
/-- new String(chars), not empty, no char above 255: a Latin-1 String of their low bytes -/
theorem law (l : Launch) (a : Addr) (D : Cell) (fV fC : Field) (b : Addr) (A : Cell) (z : Int32) : Law l yN 2 1 3 52 yB 2 none site (P a D fV fC b A z) (E a D fV fC A) [⟨a, fC.slot⟩, ⟨a, fV.slot⟩] 1 A.slots.size := by
  refine Law.of_walk (plainFor_of_name (by decide +kernel)) (by decide +kernel) (by decide +kernel) (by decide) (fun _ _ h => by rw [h.1]; rfl) (fun _ U U' hal hh h => ⟨h.1, h.2.1.mv hal hh, h.2.2.1.al hal, h.2.2.2.1.al hal, h.2.2.2.2.1.mv hal hh, h.2.2.2.2.2.1.there hal hh, h.2.2.2.2.2.2⟩) (fun r U U' V V' h1 hal h2 h => Got.mv r U U' V V' h1 hal h2 h) ?_
  intro p e s m args below meth c s₁ X0 hexec hbytes hml hret hlk hnm hown hh0 W hP
  obtain ⟨rfl, hB, f1, f2, hA, s1, hz, l0, l2, hp⟩ := hP
  have c1 : Steps p.tables e below (s₁.setTop (entryFrame m #[.ref a, .ref b] 2)) (s₁.setTop (mkF m 0 #[.val (.ref a), .val (.ref b)] [])) := entry rfl
  have c2 : Steps p.tables e below (s₁.setTop (entryFrame m #[.ref a, .ref b] 2)) (s₁.setTop (mkF m 6 #[.val (.ref a), .val (.ref b)] [.null, .int (Int32.ofNat A.slots.size), .int 0, .ref b, .ref a])) := c1.trans (by
    refine XS.aloadN X0.here hexec rfl (hb hbytes d0) rfl rfl ?_
    refine XS.aloadN X0.here hexec rfl (hb hbytes d1) rfl rfl ?_
    refine iconstV X0.here hexec rfl 0 (hb hbytes d2) (by decide) ?_
    refine XS.aloadN X0.here hexec rfl (hb hbytes d3) rfl rfl ?_
    refine X0.alen hexec (hA.1.mv X0.warmed.alike hh0) rfl rfl (hb hbytes d4) ?_
    refine XS.aconstNull X0.here hexec rfl (hb hbytes d5) ?_
    exact Steps.refl _)
  obtain ⟨v3, T3, X3, E3, g3⟩ := X0.callN hexec (New4.law l a D fV fC b A z 0 A.slots.size) rfl hown (wks W (initW "java/lang/String" 27 New4.yN)) (W New4.tab (by simp only [site, List.mem_cons, List.mem_append, true_or, or_true])) (W := 0) (Nat.le_of_ble_eq_true rfl) (Nat.le_of_ble_eq_true rfl) (Nat.le_refl _) (by show 0 + A.slots.size ≤ A.slots.size; omega) (g := (mkF m 6 #[.val (.ref a), .val (.ref b)] [.null, .int (Int32.ofNat A.slots.size), .int (Int32.ofNat 0), .ref b, .ref a])) rfl (by rw [hml]; rfl) c2 (argsL := [.ref b, .int (Int32.ofNat 0), .int (Int32.ofNat A.slots.size), .null]) (rest := []) rfl rfl (by show 2 * 0 + 0 ≤ _; decide) (hb hbytes d6) (⟨rfl, hB.mv X0.warmed.alike hh0, f1.al X0.warmed.alike, f2.al X0.warmed.alike, hA.mv X0.warmed.alike hh0, s1.there X0.warmed.alike hh0, hz, l0, by omega, l2, fun i hi => by rw [Nat.zero_add]; exact hp i hi⟩)
  have e0 := Got.mv _ s₁ s _ _ hh0.symm (Vm.Alike.refl _) rfl E3
  obtain rfl := e0.1
  have c4 : Steps p.tables e below (s₁.setTop (entryFrame m #[.ref a, .ref b] 2)) (T3.setTop (mkF m 9 #[.val (.ref a), .val (.ref b)] [])) := g3
  exact ⟨T3, none, _, _, _, X3, by simp, rfl, by omega, (fun _ => rfl), e0, fun fs hl => c4.trans (X3.returnOut hexec hret (hb hbytes d9) hl)⟩
theorem pays {l : Launch} {R : Room} {p : Program} {e : Env} {below : List Frame} {s : State} {sargs : Array Value} {len W : Nat} (a : Addr) (D : Cell) (fV fC : Field) (b : Addr) (A : Cell) (z : Int32) (htab : tab.before sargs s = true) (hfr : 4 ≤ R.frames) (hlo : W + 65 ≤ R.locals) :
    Back l R p e below s sargs yN len W (fun A₁ a₁ => A₁.cells + 1 ≤ R.cells ∧ A₁.slots + A.slots.size ≤ R.slots ∧ P a D fV fC b A z a₁ A₁.U) (fun A₁ _ v₁ B₁ => E a D fV fC A v₁ A₁.U B₁.U ∧ B₁.locs = A₁.locs ++ [⟨a, fC.slot⟩, ⟨a, fV.slot⟩] ∧ B₁.cells = A₁.cells + 1 ∧ B₁.slots = A₁.slots + A.slots.size) :=
  (law l a D fV fC b A z).pays htab hfr (by omega)
end New1
/-- the byte, read back as charAt reads it, is the char -/
theorem lo8_mask {x : Int32} (h0 : ¬ x < 0) (h1 : ¬ 255 < x) : lo8 x &&& 255 = x := by
  have t : ∀ k : Fin 256, lo8 (Int32.ofNat k.val) &&& 255 = Int32.ofNat k.val := by decide +kernel
  rw [Int32.lt_iff_toInt_lt] at h0 h1
  have e0 : (0 : Int32).toInt = 0 := rfl
  have e1 : (255 : Int32).toInt = 255 := rfl
  obtain ⟨k, hk⟩ : ∃ k : Nat, x.toInt = k := ⟨x.toInt.toNat, by omega⟩
  have hx : x = Int32.ofNat k := Int32.toInt_inj.mp (by rw [hk, Int32.toInt_ofNat_small (by omega)])
  rw [hx]
  exact t ⟨k, by omega⟩
end StrChars
namespace StrChars.Road
open Jvm Sem ClassFile Op Lib Jvm.Stand Jvm.Free Jvm.Free.XT
open Jvm.Lib.Cold (StaticIs)
abbrev ST : String := "java/lang/String"
/-- every table word that New1's law asks, flat -/
abbrev words : List Jvm.Cond := [.code New1.yN New1.yB 2 none, .initialized ST, .methodLink ST 27 New4.yN, .instanceMethod New4.yN,
  .code New4.yN New4.yB 6 none, .fieldLink ST 38 ST "COMPACT_STRINGS" "Z", .laysFinal ST ST "value" "[B", .fieldLink ST 9 ST "value" "[B", .laysFinal ST ST "coder" "B", .fieldLink ST 15 ST "coder" "B",
  .methodLink ST 1 Lib.objectInit, .instanceMethod Lib.objectInit, .code Lib.objectInit ⟨#[0xb1]⟩ 1 none, .methodLink ST 177 Cmp3.yN, .static Cmp3.yN, .methodLink ST 47 CodL.yN, .static CodL.yN,
  .code Cmp3.yN Cmp3.yB 6 (some (.array .byte)), .initialized U16, .arrayClass .byte, .methodLink U16 115 Cmp5.yN, .static Cmp5.yN, .code Cmp5.yN Cmp5.yB 7 (some .int), .code CodL.yN CodL.yB 2 (some .byte)]
theorem tab_of {a : Array Value} {s : State} (h : ∀ w ∈ words, w.before a s = true) : New1.tab.before a s = true := by
  have h5 : Cmp5.tab.before a s = true := unparts (wk h (.code Cmp5.yN Cmp5.yB 7 (some .int))) (wks h (.initialized Cmp5.yN.cls :: Cmp5.site))
  have hc : CodL.tab.before a s = true := unparts (wk h (.code CodL.yN CodL.yB 2 (some .byte))) (wks h (.initialized CodL.yN.cls :: CodL.site))
  have q5 : ∀ w ∈ Cmp5.tab :: words, w.before a s = true := fun w hw => (List.mem_cons.mp hw).elim (fun e => e ▸ h5) (h w)
  have h3 : Cmp3.tab.before a s = true := unparts (wk q5 (.code Cmp3.yN Cmp3.yB 6 (some (.array .byte)))) (wks q5 (.initialized Cmp3.yN.cls :: Cmp3.site))
  have q3 : ∀ w ∈ Cmp3.tab :: CodL.tab :: words, w.before a s = true := fun w hw => (List.mem_cons.mp hw).elim (fun e => e ▸ h3) fun hw => (List.mem_cons.mp hw).elim (fun e => e ▸ hc) (h w)
  have h4 : New4.tab.before a s = true := unparts (wk q3 (.code New4.yN New4.yB 6 none)) (wks q3 (.initialized New4.yN.cls :: New4.site))
  have q4 : ∀ w ∈ New4.tab :: words, w.before a s = true := fun w hw => (List.mem_cons.mp hw).elim (fun e => e ▸ h4) (h w)
  exact unparts (wk q4 (.code New1.yN New1.yB 2 none)) (wks q4 (.initialized New1.yN.cls :: New1.site))
/-- the words ride from the start Z to the walk's own state -/
theorem moved {Z s : State} {a0 args : Array Value} (hZ : Z.Warmed39 s.vm) (hw : ∀ d ∈ words, d.before a0 Z = true) : ∀ d ∈ words, d.before args s = true := fun d hd => by
  have q := hw d hd
  have t : ∀ d ∈ words, d = .arrayClass .byte ∨ (d.onTables && d.keepsFace) = true := by decide +kernel
  rcases t d hd with rfl | t
  · exact RoadKit.mvA hZ q
  · exact RoadKit.mv hZ q t
/-- WHAT COMES BACK, over the tables of the start Z: h the heap at the call, h' behind it -/
def Q (Z : State) (x : Addr) (A : Cell) (h : Heap) (v : Option Value) (h' : Heap) (L : List Loc) : Prop := v = none ∧ (∀ y ∈ L, y.base = x) ∧ RoadKit.Keep h h' [x] ∧ h'.size = h.size + 1 ∧ RoadKit.Exa Z h' x ST ∧ RoadKit.Fld Z h' x ST "value" "[B" (.ref h.size) ∧ RoadKit.Fld Z h' x ST "coder" "B" (.int 0) ∧
  (∃ V : Cell, RoadKit.Arr Z h' h.size V .byte ∧ V.vm = .none ∧ Z.vm.findClass "[B" = some V.cls ∧ V.slots.size = A.slots.size ∧ ∀ j, j < A.slots.size → V.slots[j]? = some (.int (lo8 (cv A j)))) ∧
  ∀ (O n d : String) (w : Value), RoadKit.Fld Z h x O n d w → RoadKit.slotOf Z O n d ≠ RoadKit.slotOf Z ST "value" "[B" → RoadKit.slotOf Z O n d ≠ RoadKit.slotOf Z ST "coder" "B" → RoadKit.Fld Z h' x O n d w
/-- **new String(chars) AT A CALL, IN THE ROAD'S FORM**: for specialBack behind newO: x the fresh String, b the char[] with the cell A -/
theorem back {p : Program} {l : Launch} {e : Env} {R : Room} {s : State} {args : Array Value} {below : List Frame} {len W : Nat} {Z : State} {a0 : Array Value} {h : Heap} (hZ : Z.Warmed39 s.vm) (hw : ∀ d ∈ words, d.before a0 Z = true) {kI : Nat} (wi : (Jvm.Cond.instantiable ST kI).before a0 Z = true)
    {x b : Addr} {A : Cell} {z : Int32} {v0 c0 : Value} (E : RoadKit.Exa Z h x ST) (V : RoadKit.Fld Z h x ST "value" "[B" v0) (C : RoadKit.Fld Z h x ST "coder" "B" c0) (K : RoadKit.Arr Z h b A .char) (hty : Typed .char A) (S : RoadKit.Sta Z h ST "COMPACT_STRINGS" "Z" (.int z)) (hz : ¬ z = 0)
    (l0 : 0 < A.slots.size) (l2 : A.slots.size ≤ 536870912) (hp : ∀ i, i < A.slots.size → ¬ 255 < cv A i) (hfr : 4 ≤ R.frames) (hlo : W + 65 ≤ R.locals) :
    Back l R p e below s args New1.yN len W (fun P a => a = #[.ref x, .ref b] ∧ P.U.heap = h ∧ P.cells + 1 ≤ R.cells ∧ P.slots + A.slots.size ≤ R.slots)
      (fun P _ v B => ∃ L, Q Z x A h v B.U.heap L ∧ B.locs = P.locs ++ L ∧ B.cells = P.cells + 1 ∧ B.slots = P.slots + A.slots.size) := by
  intro m meth c P g ig mk a X hg hsize hdg hW hn hp'
  obtain ⟨rfl, rfl, r1, r2⟩ := hp'
  have al : Z.vm.Alike P.U.vm := hZ.alike.trans X.warmed.alike
  obtain ⟨D, cfV, kV, iV, fV, hD, gV, stV, knV, obV, asV, slV⟩ := id V
  obtain ⟨D', cfC, kC, iC, fC, hD', gC, stC, -, -, asC, slC⟩ := id C
  cases hD.symm.trans hD'
  obtain ⟨D2, kD, e1, e2, e3, e4, e5⟩ := id E
  cases hD.symm.trans e1
  obtain ⟨c2, k2, i1, i2, i3, -⟩ := Cond.instantiable_spec wi
  cases e2.symm.trans i1
  cases e3.symm.trans i2
  obtain ⟨kU, u1, u2⟩ := al.2.2 _ _ e3
  have hB : Blank ST x D P.U := ⟨hD, ⟨knV, fun q hq => by rw [hq] at obV; cases obV⟩, by rw [al.findClass]; exact e2, kU, u1, by rw [u2]; exact i3, by rw [u2]; exact e5 i3⟩
  have F1 : Found ST "value" "[B" fV P.U := ⟨SBG.found_only al ⟨cfV, kV, iV, gV⟩, stV⟩
  have F2 : Found ST "coder" "B" fC P.U := ⟨SBG.found_only al ⟨cfC, kC, iC, gC⟩, stC⟩
  have hA : Ch b A P.U := ⟨⟨K.1, State.isArrayOf_alike al K.2.1, K.2.2, by omega⟩, hty⟩
  have hS : StaticIs P.U ST "COMPACT_STRINGS" "Z" (.int z) := by
    obtain ⟨cfS, iS, kS, fS, st, cS, t1, t2, t3, t4, t5, t6, t7⟩ := S
    exact StaticIs.there (s := { Z with heap := P.U.heap }) ⟨cfS, iS, kS, fS, st, cS, t1, t2, t3, t4, t5, (fun q => by rw [q] at t6; cases t6), t7⟩ al rfl
  obtain ⟨v, B, X', ⟨⟨hv, E', V', q1, q2, q3, q4, q5, q6, q7, q8, q9, q10, q11⟩, hl, hc, hs⟩, st⟩ := New1.pays x D fV fC b A z (tab_of (moved hZ hw)) hfr hlo m meth c P g ig mk _ X hg hsize hdg hW hn ⟨r1, r2, rfl, hB, F1, F2, hA, hS, hz, l0, l2, hp⟩
  have al' : Z.vm.Alike B.U.vm := hZ.alike.trans X'.warmed.alike
  have hsz : E'.slots.size = D.slots.size := by
    obtain ⟨-, -, -, kB, w1, w2, w3⟩ := q1
    obtain ⟨kB', y1, y2⟩ := al'.2.2 _ _ e3
    rw [q2.2.1] at w1
    cases w1.symm.trans y1
    rw [w3, e5 i3, y2]
  refine ⟨v, B, X', ⟨_, ⟨hv, ?_, ⟨by omega, fun y cy hy hn' => q10 y cy (by simpa using hn') hy, fun y cy hy => ?_⟩, q11, ⟨E', _, q1.1, by rw [q2.2.1]; exact e2, by rw [q2.2.1]; exact e3, by rw [q2.1]; exact obV, fun _ => by rw [hsz]; exact e5 i3⟩,
    ⟨E', cfV, kV, iV, fV, q1.1, gV, stV, by rw [q2.1]; exact knV, by rw [q2.1]; exact obV, by rw [q2.2.1]; exact asV, q3⟩, ⟨E', cfC, kC, iC, fC, q1.1, gC, stC, by rw [q2.1]; exact knV, by rw [q2.1]; exact obV, by rw [q2.2.1]; exact asC, q4⟩,
    ⟨V', ⟨q5.1, State.isArrayOf_alike al'.symm q5.2.1, q5.2.2.1⟩, q6, by rw [← al'.findClass]; exact q7, q8, fun j hj => by have := q9 j hj; rwa [Nat.zero_add] at this⟩, fun O n d w F n1 n2 => ?_⟩, hl, hc, hs⟩, st⟩
  · intro y hy
    simp only [List.mem_cons, List.not_mem_nil, or_false] at hy
    rcases hy with rfl | rfl <;> rfl
  · by_cases q : y = x
    · subst q
      cases hD.symm.trans hy
      exact ⟨E', q1.1, q2.2.1, q2.1, hsz⟩
    · exact ⟨cy, q10 y cy q hy, rfl, rfl, rfl⟩
  · obtain ⟨D3, cf, k, i, f, g1, g2, g3, g4, g5, g6, g7⟩ := F
    cases hD.symm.trans g1
    simp only [RoadKit.slotOf, g2, gV, gC, Option.map_some, Option.getD_some] at n1 n2
    exact ⟨E', cf, k, i, f, q1.1, g2, g3, by rw [q2.1]; exact g4, by rw [q2.1]; exact g5, by rw [q2.2.1]; exact g6, by rw [q2.2.2 f.slot (by simp [n1, n2])]; exact g7⟩
end StrChars.Road
namespace StrChars.Road
open Jvm Sem ClassFile Op Lib Jvm.Stand Jvm.Free Jvm.Free.XT
/-- WHAT COMES BACK, the byte[] as a list of values -/
def QA (Z : State) (x : Addr) (zn : Int32) (cs : List Int32) (h : Heap) (v : Option Value) (h' : Heap) (L : List Loc) : Prop := v = none ∧ (∀ y ∈ L, y.base = x) ∧ RoadKit.Keep h h' [x] ∧ h'.size = h.size + 1 ∧ RoadKit.Exa Z h' x ST ∧ RoadKit.Fld Z h' x ST "value" "[B" (.ref h.size) ∧ RoadKit.Fld Z h' x ST "coder" "B" (.int 0) ∧
  (∃ kb, Z.vm.findClass "[B" = some kb ∧ RoadKit.Arv Z h' h.size kb .byte zn (cs.map fun c => .int (lo8 c)) (.int 0)) ∧
  ∀ (O n d : String) (w : Value), RoadKit.Fld Z h x O n d w → RoadKit.slotOf Z O n d ≠ RoadKit.slotOf Z ST "value" "[B" → RoadKit.slotOf Z O n d ≠ RoadKit.slotOf Z ST "coder" "B" → RoadKit.Fld Z h' x O n d w
/-- **new String(chars) AT A CALL, THE ARRAYS AS LISTS**: the char[] at b holds cs, not empty, no char above 255 -/
theorem backArv {p : Program} {l : Launch} {e : Env} {R : Room} {s : State} {args : Array Value} {below : List Frame} {len W : Nat} {Z : State} {a0 : Array Value} {h : Heap} (hZ : Z.Warmed39 s.vm) (hw : ∀ d ∈ words, d.before a0 Z = true) {kI : Nat} (wi : (Jvm.Cond.instantiable ST kI).before a0 Z = true)
    {x b : Addr} {k : ClassId} {zn z : Int32} {cs : List Int32} {dv v0 c0 : Value} (E : RoadKit.Exa Z h x ST) (V : RoadKit.Fld Z h x ST "value" "[B" v0) (C : RoadKit.Fld Z h x ST "coder" "B" c0) (K : RoadKit.Arv Z h b k .char zn (cs.map Value.int) dv) (S : RoadKit.Sta Z h ST "COMPACT_STRINGS" "Z" (.int z)) (hz : ¬ z = 0)
    (hlen : zn.toNatClampNeg = cs.length) (h0 : 0 < cs.length) (hbig : cs.length ≤ 536870912) (hall : ∀ c ∈ cs, ¬ 255 < c) (hfr : 4 ≤ R.frames) (hlo : W + 65 ≤ R.locals) :
    Back l R p e below s args New1.yN len W (fun P a => a = #[.ref x, .ref b] ∧ P.U.heap = h ∧ P.cells + 1 ≤ R.cells ∧ P.slots + cs.length ≤ R.slots)
      (fun P _ v B => ∃ L, QA Z x zn cs h v B.U.heap L ∧ B.locs = P.locs ++ L ∧ B.cells = P.cells + 1 ∧ B.slots = P.slots + cs.length) := by
  obtain ⟨A, K1, K2, K3, K4, K5, K6⟩ := K
  have e : A.slots.size = cs.length := K3.trans hlen
  have hat : ∀ (i : Nat) (hi : i < cs.length), A.slots[i]? = some (.int cs[i]) := fun i hi => by rw [K5 i (by omega)]; simp [List.getD_eq_getElem?_getD, hi]
  have hcv : ∀ (i : Nat) (hi : i < cs.length), cv A i = cs[i] := fun i hi => by unfold cv; rw [hat i hi]
  have hty : Typed .char A := fun i v hv => by
    have hi : i < A.slots.size := (Array.getElem?_eq_some_iff.mp hv).1
    have q := K5 i hi
    rw [hv] at q
    rw [Option.some.inj q]
    exact K6 i hi
  refine Back.mono (back hZ hw wi E V C K1 hty S hz (by omega) (by omega) (fun i hi => by rw [hcv i (by omega)]; exact hall _ (List.getElem_mem _)) hfr hlo) (fun P a hp => ⟨hp.1, hp.2.1, hp.2.2.1, by rw [e]; exact hp.2.2.2⟩) (fun P a v B hp hq => ?_)
  obtain ⟨L, ⟨q1, q2, q3, q4, q5, q6, q7, ⟨V', v1, v2, v3, v4, v5⟩, q9⟩, hl, hc, hs⟩ := hq
  refine ⟨L, ⟨q1, q2, q3, q4, q5, q6, q7, ⟨V'.cls, v3, V', v1, rfl, by rw [v4, e, hlen], K4, fun i hi => ?_, fun i hi => ?_⟩, q9⟩, hl, hc, by rw [hs, e]⟩
  · have hi' : i < cs.length := by omega
    rw [v5 i (by omega), hcv i hi']; simp [List.getD_eq_getElem?_getD, hi']
  · have hi' : i < cs.length := by omega
    simp only [List.getD_eq_getElem?_getD, List.getElem?_map, List.getElem?_eq_getElem hi', Option.map_some, Option.getD_some]
    exact fits_lo8 _
end StrChars.Road
namespace StrChars.Road
open Jvm Sem ClassFile Op Lib Jvm.Stand Jvm.Free Jvm.Free.XT
/-- WHAT COMES BACK, in the writer's own shape -/
def QV (Z : State) (x : Addr) (N : Int32) (bs : List Int32) (h : Heap) (n0 : Nat) (v : Option Value) (h' : Heap) (L : List Loc) : Prop := v = none ∧ RoadKit.Fr n0 L ∧ RoadKit.Keep h h' [x] ∧ RoadKit.Exa Z h' x ST ∧ RoadKit.Fld Z h' x ST "coder" "B" (.int 0) ∧
  ∃ (t : Addr) (kb : ClassId), n0 ≤ t ∧ h.size ≤ t ∧ ¬ t = x ∧ RoadKit.Fld Z h' x ST "value" "[B" (.ref t) ∧ RoadKit.Arv Z h' t kb .byte N (bs.map Value.int) (.int 0)
/-- **new String(chars) AT A CALL, FOR THE WRITER**: a char[] of n known ints, each 0 to 255 -/
theorem backV {p : Program} {l : Launch} {e : Env} {R : Room} {s : State} {args : Array Value} {below : List Frame} {len W : Nat} {Z : State} {a0 : Array Value} {h : Heap} (hZ : Z.Warmed39 s.vm) (hw : ∀ d ∈ words, d.before a0 Z = true) {kI : Nat} (wi : (Jvm.Cond.instantiable ST kI).before a0 Z = true)
    {x b : Addr} {kC : ClassId} {cs bs : List Int32} {d v0 c0 : Value} {z N : Int32} {n n0 : Nat} (hx0 : n0 ≤ x) (hh0 : n0 ≤ h.size) (E : RoadKit.Exa Z h x ST) (V : RoadKit.Fld Z h x ST "value" "[B" v0) (C : RoadKit.Fld Z h x ST "coder" "B" c0) (K : RoadKit.Arv Z h b kC .char N (cs.map Value.int) d) (S : RoadKit.Sta Z h ST "COMPACT_STRINGS" "Z" (.int z)) (hz : ¬ z = 0)
    (hn : cs.length = n) (hN : N = Int32.ofNat n) (l0 : 0 < n) (l2 : n ≤ 4000) (hp : ∀ c ∈ cs, ¬ c < 0 ∧ ¬ (255 : Int32) < c) (hb : bs = cs.map (fun c => c.toInt8.toInt32)) (hfr : 4 ≤ R.frames) (hlo : W + 65 ≤ R.locals) :
    Back l R p e below s args (⟨"java/lang/String", "<init>", "([C)V"⟩ : MethodName) len W (fun P a => a = #[.ref x, .ref b] ∧ P.U.heap = h ∧ P.cells + 1 ≤ R.cells ∧ P.slots + n ≤ R.slots)
      (fun P _ v B => ∃ L, QV Z x N bs h n0 v B.U.heap L ∧ B.locs = P.locs ++ L ∧ B.cells = P.cells + 1 ∧ B.slots = P.slots + n) := by
  subst hn hN hb
  refine Back.mono (backArv hZ hw wi E V C K S hz (n32 (by omega)) l0 (by omega) (fun c hc => (hp c hc).2) hfr hlo) (fun P a hp => hp) (fun P a v B hp hq => ?_)
  obtain ⟨L, ⟨q1, q2, q3, q4, q5, q6, q7, ⟨kb, v1, v2⟩, q9⟩, hl, hc, hs⟩ := hq
  exact ⟨L, ⟨q1, fun y hy => by rw [q2 y hy]; exact hx0, q3, q5, q7, h.size, kb, hh0, Nat.le_refl _, Nat.ne_of_gt E.lt, q6, by rw [List.map_map]; exact v2⟩, hl, hc, hs⟩
end StrChars.Road
namespace StrChars
open Jvm Sem ClassFile Op Lib Jvm.Stand Jvm.Free.XT Jvm.Free.ALB Jvm.Free.JM Jvm.Free
open Jvm.Lib.Cold (StaticIs)
def hi8 (x : Int32) : Int32 := lo8 (x >>> ((8 : Int32) &&& 31))
/-- what StringUTF16.getChar makes of two bytes -/
def pairCh (u v : Int32) : Int32 := (((u &&& 255) <<< ((0 : Int32) &&& 31)) ||| ((v &&& 255) <<< ((8 : Int32) &&& 31))).toUInt32.toUInt16.toUInt32.toInt32
theorem shr0 (c : Int32) : c >>> ((0 : Int32) &&& 31) = c := by
  have e : ((0 : Int32) &&& 31) = 0 := by decide
  rw [e]
  apply Int32.toBitVec_inj.mp
  rw [Int32.toBitVec_shiftRight]
  have e1 : ((0 : Int32).toBitVec.smod 32) = 0#32 := by decide
  rw [e1, BitVec.sshiftRight_eq']
  exact BitVec.sshiftRight_zero
theorem lo8_and (x : Int32) : (lo8 x &&& 255).toBitVec.toNat = x.toBitVec.toNat % 256 := by
  have h : (lo8 x).toBitVec = (x.toBitVec.signExtend 8).signExtend 32 := by rw [lo8, Int8.toBitVec_toInt32, Int32.toBitVec_toInt8]
  rw [Int32.toBitVec_and, BitVec.toNat_and, h]
  have e : ((x.toBitVec.signExtend 8).signExtend 32).toNat % 256 = x.toBitVec.toNat % 256 := by
    rw [BitVec.toNat_signExtend]
    have hlt := x.toBitVec.isLt
    simp only [BitVec.toNat_setWidth, BitVec.toNat_signExtend]
    split <;> split <;> omega
  rw [← e]
  exact Nat.and_two_pow_sub_one_eq_mod _ 8
theorem pair_says {c : Int32} (h0 : ¬ c < 0) (h1 : ¬ 65535 < c) : pairCh (lo8 c) (hi8 c) = c := by
  rw [Int32.lt_iff_toInt_lt] at h0 h1
  have e0 : (0 : Int32).toInt = 0 := rfl
  have e1 : (65535 : Int32).toInt = 65535 := rfl
  have hc : c.toInt = c.toBitVec.toNat := by
    have := c.toBitVec.isLt
    have e : c.toInt = c.toBitVec.toInt := rfl
    rw [e] at h0 h1
    rw [e]
    rw [BitVec.toInt_eq_toNat_cond] at h0 h1 ⊢
    split at h0 <;> split <;> omega
  have hn : c.toBitVec.toNat < 65536 := by omega
  have a1 := lo8_and c
  have a2 : (hi8 c &&& 255).toBitVec.toNat = c.toBitVec.toNat / 256 := by
    rw [hi8, lo8_and]
    have e : ((8 : Int32) &&& 31) = 8 := by decide
    rw [e, Int32.toBitVec_shiftRight]
    have e2 : ((8 : Int32).toBitVec.smod 32) = 8#32 := by decide
    rw [e2, BitVec.sshiftRight_eq', BitVec.toNat_sshiftRight_of_msb_false (by rw [BitVec.msb_eq_false_iff_two_mul_lt]; omega)]
    show c.toBitVec.toNat >>> 8 % 256 = _
    rw [Nat.shiftRight_eq_div_pow]
    omega
  unfold pairCh
  apply Int32.toBitVec_inj.mp
  apply BitVec.eq_of_toNat_eq
  have f0 : ((0 : Int32) &&& 31) = 0 := by decide
  have f8 : ((8 : Int32) &&& 31) = 8 := by decide
  rw [f0, f8]
  have g : (((lo8 c &&& 255) <<< (0 : Int32)) ||| ((hi8 c &&& 255) <<< (8 : Int32))).toBitVec.toNat = c.toBitVec.toNat := by
    rw [Int32.toBitVec_or, Int32.toBitVec_shiftLeft, Int32.toBitVec_shiftLeft]
    have s0 : ((0 : Int32).toBitVec.smod 32) = 0#32 := by decide
    have s8 : ((8 : Int32).toBitVec.smod 32) = 8#32 := by decide
    rw [s0, s8, BitVec.toNat_or]
    simp only [BitVec.shiftLeft_eq', BitVec.toNat_shiftLeft, a1, a2]
    show (c.toBitVec.toNat % 256) <<< 0 % 2 ^ 32 ||| (c.toBitVec.toNat / 256) <<< 8 % 2 ^ 32 = _
    rw [Nat.shiftLeft_zero, Nat.mod_eq_of_lt (show c.toBitVec.toNat % 256 < 2 ^ 32 by omega), Nat.mod_eq_of_lt (show (c.toBitVec.toNat / 256) <<< 8 < 2 ^ 32 by rw [Nat.shiftLeft_eq]; omega), Nat.or_comm, ← Nat.shiftLeft_add_eq_or_of_lt (by omega), Nat.shiftLeft_eq]
    omega
  show BitVec.toNat (((((lo8 c &&& 255) <<< (0 : Int32)) ||| ((hi8 c &&& 255) <<< (8 : Int32))).toBitVec.setWidth 16).setWidth 32) = _
  rw [BitVec.toNat_setWidth, BitVec.toNat_setWidth, g]
  omega
end StrChars
namespace StrChars
open Jvm Sem ClassFile Op Lib Jvm.Stand Jvm.Free.XT Jvm.Free.ALB Jvm.Free.JM Jvm.Free
open Jvm.Lib.Cold (StaticIs)
theorem shr1 {n : Nat} (h : 2 * n < 2 ^ 31) : Int32.ofNat (2 * n) >>> ((1 : Int32) &&& 31) = Int32.ofNat n := by
  have e : ((1 : Int32) &&& 31) = 1 := by decide
  rw [e]
  apply Int32.toBitVec_inj.mp
  rw [Int32.toBitVec_shiftRight]
  have e1 : ((1 : Int32).toBitVec.smod 32) = 1#32 := by decide
  have hm : (BitVec.ofNat 32 (2 * n)).toNat = 2 * n := by rw [BitVec.toNat_ofNat, Nat.mod_eq_of_lt (by omega)]
  rw [e1, BitVec.sshiftRight_eq']
  apply BitVec.eq_of_toNat_eq
  show ((BitVec.ofNat 32 (2 * n)).sshiftRight 1).toNat = (BitVec.ofNat 32 n).toNat
  rw [BitVec.toNat_sshiftRight_of_msb_false (by rw [BitVec.msb_eq_false_iff_two_mul_lt, hm]; omega), hm, BitVec.toNat_ofNat, Nat.shiftRight_eq_div_pow]
  omega
/-- charAt's cast of a byte read back -/
def chr8 (u : Int32) : Int32 := (u &&& 255).toUInt32.toUInt16.toUInt32.toInt32
theorem chr8_lo8 {c : Int32} (h0 : ¬ c < 0) (h1 : ¬ 255 < c) : chr8 (lo8 c) = c := by
  have t : ∀ k : Fin 256, (Int32.ofNat k.val).toUInt32.toUInt16.toUInt32.toInt32 = Int32.ofNat k.val := by decide +kernel
  unfold chr8
  rw [lo8_mask h0 h1]
  rw [Int32.lt_iff_toInt_lt] at h0 h1
  have e0 : (0 : Int32).toInt = 0 := rfl
  have e1 : (255 : Int32).toInt = 255 := rfl
  obtain ⟨k, hk⟩ : ∃ k : Nat, c.toInt = k := ⟨c.toInt.toNat, by omega⟩
  have hx : c = Int32.ofNat k := Int32.toInt_inj.mp (by rw [hk, Int32.toInt_ofNat_small (by omega)])
  rw [hx]
  exact t ⟨k, by omega⟩
theorem narrow_ch {c : Int32} (h0 : ¬ c < 0) (h1 : ¬ 65535 < c) : narrow .char (.int c) = .int c := by
  have q : narrow .char (.int (pairCh (lo8 c) (hi8 c))) = .int (pairCh (lo8 c) (hi8 c)) := narrow_c _
  rwa [pair_says h0 h1] at q
/-- the array's cell V codes the n chars f 0 .. f (n - 1) by the coder cd, as the JDK does: coder 1 just where some char is above 255 -/
def Cod (cd : Int32) (n : Nat) (f : Nat → Int32) (V : Cell) : Prop := (cd = 0 ∧ V.slots.size = n ∧ ∀ j, j < n → V.slots[j]? = some (.int (lo8 (f j))) ∧ ¬ 255 < f j) ∨ (cd = 1 ∧ V.slots.size = 2 * n ∧ (∀ j, j < n → V.slots[2 * j]? = some (.int (lo8 (f j))) ∧ V.slots[2 * j + 1]? = some (.int (hi8 (f j)))) ∧ ∃ j, j < n ∧ 255 < f j)
theorem Cod.cd {cd : Int32} {n : Nat} {f : Nat → Int32} {V : Cell} (h : Cod cd n f V) : cd = 0 ∨ cd = 1 := h.imp (fun q => q.1) fun q => q.1
theorem Cod.len {cd : Int32} {n : Nat} {f : Nat → Int32} {V : Cell} (h : Cod cd n f V) (hs : V.slots.size < 2 ^ 31) : Int32.ofNat V.slots.size >>> (cd &&& 31) = Int32.ofNat n := by
  rcases h with ⟨rfl, h, -⟩ | ⟨rfl, h, -⟩
  · rw [shr0, h]
  · rw [h, shr1 (by omega)]
/-- **x is a String of the n chars f 0 .. f (n - 1)**, Latin-1 or UTF-16; its array at t has the cell V -/
def Txt (x t : Addr) (V : Cell) (cd : Int32) (n : Nat) (f : Nat → Int32) (U : State) : Prop := Exact "java/lang/String" x U ∧ Has x "java/lang/String" "value" "[B" (.ref t) U ∧ Has x "java/lang/String" "coder" "B" (.int cd) U ∧ XT.Arr .byte t V U ∧ Cod cd n f V ∧ ∀ j, j < n → ¬ f j < 0 ∧ ¬ 65535 < f j
theorem Txt.mv {x t : Addr} {V : Cell} {cd : Int32} {n : Nat} {f : Nat → Int32} {U U' : State} (h : Txt x t V cd n f U) (hal : U.vm.Alike U'.vm) (hh : U'.heap = U.heap) : Txt x t V cd n f U' := ⟨h.1.mv hal hh, h.2.1.mv hal hh, h.2.2.1.mv hal hh, h.2.2.2.1.mv hal hh, h.2.2.2.2⟩
namespace Cdr
def yN : MethodName := ⟨"java/lang/String", "coder", "()B"⟩
abbrev yB : ByteArray := jdk_42_method_152_code
theorem d0 : decode yB 0 = .ok (.getstatic 38, 3) := by decide +kernel
theorem d3 : decode yB 3 = .ok (.ifCond (.eq) 10, 3) := by decide +kernel
theorem d6 : decode yB 6 = .ok (.aload_n 0, 1) := by decide +kernel
theorem d7 : decode yB 7 = .ok (.getfield 15, 3) := by decide +kernel
theorem d10 : decode yB 10 = .ok (.goto 4, 3) := by decide +kernel
theorem d14 : decode yB 14 = .ok (.ireturn, 1) := by decide +kernel
def site : List Cond := [.fieldLink "java/lang/String" 38 "java/lang/String" "COMPACT_STRINGS" "Z", .fieldLink "java/lang/String" 15 "java/lang/String" "coder" "B"]
def tab : Cond := tabOf yN yB 1 (some .byte) site
def P (x : Addr) (cd z : Int32) (args : Array Value) (s : State) : Prop := args = #[.ref x] ∧ Has x "java/lang/String" "coder" "B" (.int cd) s ∧ (cd = 0 ∨ cd = 1) ∧ StaticIs s "java/lang/String" "COMPACT_STRINGS" "Z" (.int z) ∧ ¬ z = 0
def E (cd : Int32) (r : Option Value) (s u : State) : Prop := XT.PureE (some (.int cd)) r s u
theorem law (l : Launch) (x : Addr) (cd z : Int32) : Law l yN 1 0 0 0 yB 1 (some .byte) site (P x cd z) (E cd) [] 0 0 := by
  refine Law.of_walk (plainFor_of_name (by decide +kernel)) (by decide +kernel) (by decide +kernel) (by decide) (fun _ _ h => by rw [h.1]; rfl) (fun _ U U' hal hh h => ⟨h.1, h.2.1.mv hal hh, h.2.2.1, h.2.2.2.1.there hal hh, h.2.2.2.2⟩) (fun r U U' V V' h1 hal h2 h => XT.PureE.mv r U U' V V' h1 hal h2 h) ?_
  intro p e s m args below meth c s₁ X0 hexec hbytes hml hret hlk hnm hown hh0 W hP
  obtain ⟨rfl, hx, hc, s1, hz⟩ := hP
  have c1 : Steps p.tables e below (s₁.setTop (entryFrame m #[.ref x] 1)) (s₁.setTop (mkF m 0 #[.val (.ref x)] [])) := entry rfl
  obtain ⟨T2, X2, q2, st2⟩ := X0.sget hexec hown (wk W (.fieldLink "java/lang/String" 38 "java/lang/String" "COMPACT_STRINGS" "Z")) s1 (fun _ _ h => by rw [hh0]; exact h) (g := (mkF m 0 #[.val (.ref x)] [])) rfl (hb hbytes d0)
  have hh2 := q2.trans hh0
  have c3 : Steps p.tables e below (s₁.setTop (entryFrame m #[.ref x] 1)) (T2.setTop (mkF m 7 #[.val (.ref x)] [.ref x])) := (c1.trans (st2 _ (Steps.refl _))).trans (by
    refine XS.ifNo X2.here hexec rfl (hb hbytes d3) rfl (i0_eq_f hz) ?_
    refine XS.aloadN X2.here hexec rfl (hb hbytes d6) rfl rfl ?_
    exact Steps.refl _)
  obtain ⟨T4, X4, q4, st4⟩ := X2.hget hexec hown (wk W (.fieldLink "java/lang/String" 15 "java/lang/String" "coder" "B")) (hx.mv X2.warmed.alike hh2) (g := (mkF m 7 #[.val (.ref x)] [.ref x])) rfl (rest := []) rfl (hb hbytes d7)
  have c5 : Steps p.tables e below (s₁.setTop (entryFrame m #[.ref x] 1)) (T4.setTop (mkF m 14 #[.val (.ref x)] [.int cd])) := (c3.trans (st4 _ (Steps.refl _))).trans (by
    refine XS.goto X4.here hexec rfl (pc0 := 10) rfl (hb hbytes d10) (by decide) rfl ?_
    exact Steps.refl _)
  exact ⟨T4, some (.int cd), _, _, _, X4, rfl, rfl, rfl, (fun h => by cases h), ⟨rfl, q4.trans hh2⟩, fun fs hl => c5.trans (X4.ireturnOut hexec hret (by rcases hc with rfl | rfl <;> rfl) (Or.inr (Or.inr (Or.inl rfl))) (hb hbytes d14) hl)⟩
end Cdr
namespace Len
def yN : MethodName := ⟨"java/lang/String", "length", "()I"⟩
abbrev yB : ByteArray := jdk_42_method_54_code
theorem d0 : decode yB 0 = .ok (.aload_n 0, 1) := by decide +kernel
theorem d1 : decode yB 1 = .ok (.getfield 9, 3) := by decide +kernel
theorem d4 : decode yB 4 = .ok (.arraylength, 1) := by decide +kernel
theorem d5 : decode yB 5 = .ok (.aload_n 0, 1) := by decide +kernel
theorem d6 : decode yB 6 = .ok (.invokevirtual 335, 3) := by decide +kernel
theorem d9 : decode yB 9 = .ok (.ishr, 1) := by decide +kernel
theorem d10 : decode yB 10 = .ok (.ireturn, 1) := by decide +kernel
def site : List Cond := [.fieldLink "java/lang/String" 9 "java/lang/String" "value" "[B", Cdr.tab] ++ virtW "java/lang/String" 335 "java/lang/String" Cdr.yN Cdr.yN
def tab : Cond := tabOf yN yB 1 (some .int) site
def P (x t : Addr) (V : Cell) (cd : Int32) (n : Nat) (f : Nat → Int32) (z : Int32) (args : Array Value) (s : State) : Prop := args = #[.ref x] ∧ Txt x t V cd n f s ∧ StaticIs s "java/lang/String" "COMPACT_STRINGS" "Z" (.int z) ∧ ¬ z = 0
def E (n : Nat) (r : Option Value) (s u : State) : Prop := XT.PureE (some (.int (Int32.ofNat n))) r s u
/-- length() of a String of n chars, in either coding -/
theorem law (l : Launch) (x t : Addr) (V : Cell) (cd : Int32) (n : Nat) (f : Nat → Int32) (z : Int32) : Law l yN 1 0 1 13 yB 1 (some .int) site (P x t V cd n f z) (E n) [] 0 0 := by
  refine Law.of_walk (plainFor_of_name (by decide +kernel)) (by decide +kernel) (by decide +kernel) (by decide) (fun _ _ h => by rw [h.1]; rfl) (fun _ U U' hal hh h => ⟨h.1, h.2.1.mv hal hh, h.2.2.1.there hal hh, h.2.2.2⟩) (fun r U U' V V' h1 hal h2 h => XT.PureE.mv r U U' V V' h1 hal h2 h) ?_
  intro p e s m args below meth c s₁ X0 hexec hbytes hml hret hlk hnm hown hh0 W hP
  obtain ⟨rfl, hx, s1, hz⟩ := hP
  have v31 := hx.2.2.2.1.2.2.2
  have c1 : Steps p.tables e below (s₁.setTop (entryFrame m #[.ref x] 1)) (s₁.setTop (mkF m 1 #[.val (.ref x)] [.ref x])) := Steps.trans (entry rfl) (by
    show Steps p.tables e below (s₁.setTop (mkF m 0 #[.val (.ref x)] [])) _
    refine XS.aloadN X0.here hexec rfl (hb hbytes d0) rfl rfl ?_
    exact Steps.refl _)
  obtain ⟨T2, X2, q2, st2⟩ := X0.hget hexec hown (wk W (.fieldLink "java/lang/String" 9 "java/lang/String" "value" "[B")) (hx.mv X0.warmed.alike hh0).2.1 (g := (mkF m 1 #[.val (.ref x)] [.ref x])) rfl (rest := []) rfl (hb hbytes d1)
  have hh2 := q2.trans hh0
  have hx2 := hx.mv X2.warmed.alike hh2
  have c3 : Steps p.tables e below (s₁.setTop (entryFrame m #[.ref x] 1)) (T2.setTop (mkF m 6 #[.val (.ref x)] [.ref x, .int (Int32.ofNat V.slots.size)])) := (c1.trans (st2 _ (Steps.refl _))).trans (by
    refine X2.alen hexec hx2.2.2.2.1 rfl rfl (hb hbytes d4) ?_
    refine XS.aloadN X2.here hexec rfl (hb hbytes d5) rfl rfl ?_
    exact Steps.refl _)
  obtain ⟨v4, T4, X4, E4, g4⟩ := X2.callV hexec (Cdr.law l x cd z) hown (wks W (virtW "java/lang/String" 335 "java/lang/String" Cdr.yN Cdr.yN)) rfl (by decide) (wk W Cdr.tab) (W := 1) (Nat.le_of_ble_eq_true rfl) (Nat.le_of_ble_eq_true rfl) (Nat.le_refl _) (Nat.le_refl _) (hx2.1.fc X2.warmed.alike) hx2.1.is (g := (mkF m 6 #[.val (.ref x)] [.ref x, .int (Int32.ofNat V.slots.size)])) rfl (by rw [hml]; rfl) c3 (argsL := []) (rest := [.int (Int32.ofNat V.slots.size)]) rfl rfl (by show 2 * 0 + (1 + 0) ≤ _; decide) (hb hbytes d6) (⟨rfl, hx2.2.2.1, hx.2.2.2.2.1.cd, s1.there X2.warmed.alike hh2, hz⟩)
  obtain ⟨rfl, q4⟩ := E4
  have c5 : Steps p.tables e below (s₁.setTop (entryFrame m #[.ref x] 1)) (T4.setTop (mkF m 10 #[.val (.ref x)] [.int (Int32.ofNat V.slots.size >>> (cd &&& 31))])) := Steps.trans g4 (by
    refine ishr X4.here hexec rfl (hb hbytes d9) rfl ?_
    exact Steps.refl _)
  rw [hx.2.2.2.2.1.len v31] at c5
  exact ⟨T4, some (.int (Int32.ofNat n)), _, _, _, X4, rfl, rfl, rfl, (fun h => by cases h), ⟨rfl, q4.trans hh2⟩, fun fs hl => c5.trans (X4.ireturnOut hexec hret rfl (Or.inl rfl) (hb hbytes d10) hl)⟩
theorem pays {l : Launch} {R : Room} {p : Program} {e : Env} {below : List Frame} {s : State} {sargs : Array Value} {len W : Nat} (x t : Addr) (V : Cell) (cd : Int32) (n : Nat) (f : Nat → Int32) (z : Int32) (htab : tab.before sargs s = true) (hfr : 2 ≤ R.frames) (hlo : W + 25 ≤ R.locals) :
    Back l R p e below s sargs yN len W (fun A₁ a₁ => A₁.cells + 0 ≤ R.cells ∧ A₁.slots + 0 ≤ R.slots ∧ P x t V cd n f z a₁ A₁.U) (fun A₁ _ v₁ B₁ => E n v₁ A₁.U B₁.U ∧ B₁.locs = A₁.locs ++ [] ∧ B₁.cells = A₁.cells + 0 ∧ B₁.slots = A₁.slots + 0) :=
  (law l x t V cd n f z).pays htab hfr (by omega)
end Len
namespace IsL
def yN : MethodName := ⟨"java/lang/String", "isLatin1", "()Z"⟩
abbrev yB : ByteArray := jdk_42_method_154_code
theorem d0 : decode yB 0 = .ok (.getstatic 38, 3) := by decide +kernel
theorem d3 : decode yB 3 = .ok (.ifCond (.eq) 14, 3) := by decide +kernel
theorem d6 : decode yB 6 = .ok (.aload_n 0, 1) := by decide +kernel
theorem d7 : decode yB 7 = .ok (.getfield 15, 3) := by decide +kernel
theorem d10 : decode yB 10 = .ok (.ifCond (.ne) 7, 3) := by decide +kernel
theorem d13 : decode yB 13 = .ok (.iconst 1, 1) := by decide +kernel
theorem d14 : decode yB 14 = .ok (.goto 4, 3) := by decide +kernel
theorem d17 : decode yB 17 = .ok (.iconst 0, 1) := by decide +kernel
theorem d18 : decode yB 18 = .ok (.ireturn, 1) := by decide +kernel
def site : List Cond := [.fieldLink "java/lang/String" 38 "java/lang/String" "COMPACT_STRINGS" "Z", .fieldLink "java/lang/String" 15 "java/lang/String" "coder" "B"]
def tab : Cond := tabOf yN yB 1 (some .boolean) site
def P (x : Addr) (cd z : Int32) (args : Array Value) (s : State) : Prop := args = #[.ref x] ∧ Has x "java/lang/String" "coder" "B" (.int cd) s ∧ (cd = 0 ∨ cd = 1) ∧ StaticIs s "java/lang/String" "COMPACT_STRINGS" "Z" (.int z) ∧ ¬ z = 0
def E (cd : Int32) (r : Option Value) (s u : State) : Prop := XT.PureE (some (.int (1 - cd))) r s u
theorem law (l : Launch) (x : Addr) (cd z : Int32) : Law l yN 1 0 0 0 yB 1 (some .boolean) site (P x cd z) (E cd) [] 0 0 := by
  refine Law.of_walk (plainFor_of_name (by decide +kernel)) (by decide +kernel) (by decide +kernel) (by decide) (fun _ _ h => by rw [h.1]; rfl) (fun _ U U' hal hh h => ⟨h.1, h.2.1.mv hal hh, h.2.2.1, h.2.2.2.1.there hal hh, h.2.2.2.2⟩) (fun r U U' V V' h1 hal h2 h => XT.PureE.mv r U U' V V' h1 hal h2 h) ?_
  intro p e s m args below meth c s₁ X0 hexec hbytes hml hret hlk hnm hown hh0 W hP
  obtain ⟨rfl, hx, hc, s1, hz⟩ := hP
  have c1 : Steps p.tables e below (s₁.setTop (entryFrame m #[.ref x] 1)) (s₁.setTop (mkF m 0 #[.val (.ref x)] [])) := entry rfl
  obtain ⟨T2, X2, q2, st2⟩ := X0.sget hexec hown (wk W (.fieldLink "java/lang/String" 38 "java/lang/String" "COMPACT_STRINGS" "Z")) s1 (fun _ _ h => by rw [hh0]; exact h) (g := (mkF m 0 #[.val (.ref x)] [])) rfl (hb hbytes d0)
  have hh2 := q2.trans hh0
  have c3 : Steps p.tables e below (s₁.setTop (entryFrame m #[.ref x] 1)) (T2.setTop (mkF m 7 #[.val (.ref x)] [.ref x])) := (c1.trans (st2 _ (Steps.refl _))).trans (by
    refine XS.ifNo X2.here hexec rfl (hb hbytes d3) rfl (i0_eq_f hz) ?_
    refine XS.aloadN X2.here hexec rfl (hb hbytes d6) rfl rfl ?_
    exact Steps.refl _)
  obtain ⟨T4, X4, q4, st4⟩ := X2.hget hexec hown (wk W (.fieldLink "java/lang/String" 15 "java/lang/String" "coder" "B")) (hx.mv X2.warmed.alike hh2) (g := (mkF m 7 #[.val (.ref x)] [.ref x])) rfl (rest := []) rfl (hb hbytes d7)
  have c5 : Steps p.tables e below (s₁.setTop (entryFrame m #[.ref x] 1)) (T4.setTop (mkF m 10 #[.val (.ref x)] [.int cd])) := c3.trans (st4 _ (Steps.refl _))
  have c6 : Steps p.tables e below (s₁.setTop (entryFrame m #[.ref x] 1)) (T4.setTop (mkF m 18 #[.val (.ref x)] [.int (1 - cd)])) := by
    rcases hc with rfl | rfl
    · exact c5.trans (by
        refine XS.ifNo X4.here hexec rfl (hb hbytes d10) rfl (i0_ne_f rfl) ?_
        refine iconstV X4.here hexec rfl 1 (hb hbytes d13) (by decide) ?_
        refine XS.goto X4.here hexec rfl (pc0 := 14) rfl (hb hbytes d14) (by decide) rfl ?_
        exact Steps.refl _)
    · exact c5.trans (by
        refine XS.ifYes X4.here hexec rfl (pc0 := 10) rfl (hb hbytes d10) rfl (i0_ne_t (by decide)) (by decide) rfl ?_
        refine iconstV X4.here hexec rfl 0 (hb hbytes d17) (by decide) ?_
        exact Steps.refl _)
  exact ⟨T4, some (.int (1 - cd)), _, _, _, X4, rfl, rfl, rfl, (fun h => by cases h), ⟨rfl, q4.trans hh2⟩, fun fs hl => c6.trans (X4.ireturnOut hexec hret (by rcases hc with rfl | rfl <;> rfl) (Or.inr (Or.inl rfl)) (hb hbytes d18) hl)⟩
end IsL
namespace LChA
def yN : MethodName := ⟨"java/lang/StringLatin1", "charAt", "([BI)C"⟩
abbrev yB : ByteArray := jdk_43_method_2_code
theorem d0 : decode yB 0 = .ok (.iload_n 1, 1) := by decide +kernel
theorem d1 : decode yB 1 = .ok (.aload_n 0, 1) := by decide +kernel
theorem d2 : decode yB 2 = .ok (.arraylength, 1) := by decide +kernel
theorem d3 : decode yB 3 = .ok (.invokestatic 9, 3) := by decide +kernel
theorem d6 : decode yB 6 = .ok (.aload_n 0, 1) := by decide +kernel
theorem d7 : decode yB 7 = .ok (.iload_n 1, 1) := by decide +kernel
theorem d8 : decode yB 8 = .ok (.baload, 1) := by decide +kernel
theorem d9 : decode yB 9 = .ok (.sipush 255, 3) := by decide +kernel
theorem d12 : decode yB 12 = .ok (.iand, 1) := by decide +kernel
theorem d13 : decode yB 13 = .ok (.i2c, 1) := by decide +kernel
theorem d14 : decode yB 14 = .ok (.ireturn, 1) := by decide +kernel
def site : List Cond := [JO.Str_checkIndex.tab] ++ staticW "java/lang/StringLatin1" 9 JO.Str_checkIndex.yN
def tab : Cond := tabOf yN yB 2 (some .char) site
def P (t : Addr) (V : Cell) (i : Nat) (u : Int32) (fm : Value) (args : Array Value) (s : State) : Prop := args = #[.ref t, .int (Int32.ofNat i)] ∧ XT.Arr .byte t V s ∧ V.slots[i]? = some (.int u) ∧ (StaticIs s "jdk/internal/util/Preconditions" "SIOOBE_FORMATTER" "Ljava/util/function/BiFunction;" fm ∧ fm.isRef = true)
def E (u : Int32) (r : Option Value) (s w : State) : Prop := XT.PureE (some (.int (chr8 u))) r s w
theorem law (l : Launch) (t : Addr) (V : Cell) (i : Nat) (u : Int32) (fm : Value) : Law l yN 2 2 2 27 yB 2 (some .char) site (P t V i u fm) (E u) [] 0 0 := by
  refine Law.of_walk (plainFor_of_name (by decide +kernel)) (by decide +kernel) (by decide +kernel) (by decide) (fun _ _ h => by rw [h.1]; rfl) (fun _ U U' hal hh h => ⟨h.1, h.2.1.mv hal hh, h.2.2.1, h.2.2.2.1.there hal hh, h.2.2.2.2⟩) (fun r U U' V V' h1 hal h2 h => XT.PureE.mv r U U' V V' h1 hal h2 h) ?_
  intro p e s m args below meth c s₁ X0 hexec hbytes hml hret hlk hnm hown hh0 W hP
  obtain ⟨rfl, hV, hu, s1, rf⟩ := hP
  have v31 := hV.2.2.2
  have hi : i < V.slots.size := (Array.getElem?_eq_some_iff.mp hu).1
  have c1 : Steps p.tables e below (s₁.setTop (entryFrame m #[.ref t, .int (Int32.ofNat i)] 2)) (s₁.setTop (mkF m 0 #[.val (.ref t), .val (.int (Int32.ofNat i))] [])) := entry rfl
  have c2 : Steps p.tables e below (s₁.setTop (entryFrame m #[.ref t, .int (Int32.ofNat i)] 2)) (s₁.setTop (mkF m 3 #[.val (.ref t), .val (.int (Int32.ofNat i))] [.int (Int32.ofNat V.slots.size), .int (Int32.ofNat i)])) := c1.trans (by
    refine XS.iloadN X0.here hexec rfl (hb hbytes d0) rfl ?_
    refine XS.aloadN X0.here hexec rfl (hb hbytes d1) rfl rfl ?_
    refine X0.alen hexec (hV.mv X0.warmed.alike hh0) rfl rfl (hb hbytes d2) ?_
    exact Steps.refl _)
  obtain ⟨v3, T3, X3, E3, g3⟩ := X0.callS hexec (JO.Str_checkIndex.law l (Int32.ofNat i) (Int32.ofNat V.slots.size) fm) hown (wks W (staticW "java/lang/StringLatin1" 9 JO.Str_checkIndex.yN)) (wk W JO.Str_checkIndex.tab) (W := 0) (Nat.le_of_ble_eq_true rfl) (Nat.le_of_ble_eq_true rfl) (Nat.le_refl _) (Nat.le_refl _) (g := (mkF m 3 #[.val (.ref t), .val (.int (Int32.ofNat i))] [.int (Int32.ofNat V.slots.size), .int (Int32.ofNat i)])) rfl (by rw [hml]; rfl) c2 (argsL := [.int (Int32.ofNat i), .int (Int32.ofNat V.slots.size)]) (rest := []) rfl rfl (by show 2 * 0 + 0 ≤ _; decide) (hb hbytes d3) (⟨rfl, rf, s1.there X0.warmed.alike hh0, Int32.ofNat_not_neg (by omega), lt32 v31 hi⟩)
  obtain ⟨rfl, q3⟩ := E3
  have hh3 := q3.trans hh0
  have c4 : Steps p.tables e below (s₁.setTop (entryFrame m #[.ref t, .int (Int32.ofNat i)] 2)) (T3.setTop (mkF m 14 #[.val (.ref t), .val (.int (Int32.ofNat i))] [.int (chr8 u)])) := Steps.trans g3 (by
    refine XS.aloadN X3.here hexec rfl (hb hbytes d6) rfl rfl ?_
    refine XS.iloadN X3.here hexec rfl (hb hbytes d7) rfl ?_
    refine X3.aget hexec (hV.mv X3.warmed.alike hh3) rfl hu rfl rfl (hb hbytes d8) ?_
    refine sipushV X3.here hexec rfl 255 (hb hbytes d9) (by decide) ?_
    refine XS.iand X3.here hexec rfl (hb hbytes d12) rfl ?_
    refine i2c X3.here hexec rfl (hb hbytes d13) rfl ?_
    exact Steps.refl _)
  exact ⟨T3, some (.int (chr8 u)), _, _, _, X3, rfl, rfl, rfl, (fun h => by cases h), ⟨rfl, hh3⟩, fun fs hl => c4.trans (X3.ireturnOut hexec hret (narrow_c _) (Or.inr (Or.inr (Or.inr (Or.inl rfl)))) (hb hbytes d14) hl)⟩
end LChA
end StrChars
namespace StrChars.Road
open Jvm Sem ClassFile Op Lib Jvm.Stand Jvm.Free Jvm.Free.XT
open Jvm.Lib.Cold (StaticIs)
theorem consq {a : Array Value} {s : State} {c : Jvm.Cond} {L : List Jvm.Cond} (h0 : c.before a s = true) (h : ∀ w ∈ L, w.before a s = true) : ∀ w ∈ c :: L, w.before a s = true := fun w hw => (List.mem_cons.mp hw).elim (fun e => e ▸ h0) (h w)
/-- the words of String.length(), either coding -/
abbrev wordsLen : List Jvm.Cond := [.code Len.yN Len.yB 1 (some .int), .initialized ST, .fieldLink ST 9 ST "value" "[B", .fieldLink ST 38 ST "COMPACT_STRINGS" "Z", .fieldLink ST 15 ST "coder" "B", .code Cdr.yN Cdr.yB 1 (some .byte), .methodLink ST 335 Cdr.yN, .declares Cdr.yN, .selects ST Cdr.yN Cdr.yN, .instanceMethod Cdr.yN]
theorem tabLen_of {a : Array Value} {s : State} (h : ∀ w ∈ wordsLen, w.before a s = true) : Len.tab.before a s = true := by
  have hc : Cdr.tab.before a s = true := unparts (wk h (.code Cdr.yN Cdr.yB 1 (some .byte))) (wks h (.initialized Cdr.yN.cls :: Cdr.site))
  have q := consq hc h
  exact unparts (wk q (.code Len.yN Len.yB 1 (some .int))) (wks q (.initialized Len.yN.cls :: Len.site))
theorem movedLen {Z s : State} {a0 args : Array Value} (hZ : Z.Warmed39 s.vm) (hw : ∀ d ∈ wordsLen, d.before a0 Z = true) : ∀ d ∈ wordsLen, d.before args s = true := fun d hd => by
  have q := hw d hd
  have t : ∀ d ∈ wordsLen, d = .arrayClass .byte ∨ (d.onTables && d.keepsFace) = true := by decide +kernel
  rcases t d hd with rfl | t
  · exact RoadKit.mvA hZ q
  · exact RoadKit.mv hZ q t
/-- the bytes of the chars cs, low before high -/
def wideBytes : List Int32 → List Value
  | [] => []
  | c :: cs => .int (lo8 c) :: .int (hi8 c) :: wideBytes cs
theorem wide_lo (d : Value) : ∀ (cs : List Int32) (j : Nat), j < cs.length → (wideBytes cs).getD (2 * j) d = .int (lo8 (cs.getD j 0))
  | [], j, h => absurd h (Nat.not_lt_zero j)
  | c :: cs, 0, _ => rfl
  | c :: cs, j + 1, h => by
    have q := wide_lo d cs j (by simpa using h)
    rw [show 2 * (j + 1) = 2 * j + 1 + 1 from by omega]
    simpa [wideBytes] using q
theorem wide_hi (d : Value) : ∀ (cs : List Int32) (j : Nat), j < cs.length → (wideBytes cs).getD (2 * j + 1) d = .int (hi8 (cs.getD j 0))
  | [], j, h => absurd h (Nat.not_lt_zero j)
  | c :: cs, 0, _ => rfl
  | c :: cs, j + 1, h => by
    have q := wide_hi d cs j (by simpa using h)
    rw [show 2 * (j + 1) + 1 = 2 * j + 1 + 1 + 1 from by omega]
    simpa [wideBytes] using q
theorem low_at (d : Value) (cs : List Int32) (j : Nat) (h : j < cs.length) : (cs.map fun c => Value.int (lo8 c)).getD j d = .int (lo8 (cs.getD j 0)) := by
  simp [List.getD_eq_getElem?_getD, h]
/-- an array of N2 bytes vs codes the chars cs by the coder cd -/
def CodA (cs : List Int32) (cd N2 : Int32) (vs : List Value) : Prop := (cd = 0 ∧ N2 = Int32.ofNat cs.length ∧ vs = (cs.map fun c => Value.int (lo8 c)) ∧ ∀ c ∈ cs, ¬ 255 < c) ∨ (cd = 1 ∧ N2 = Int32.ofNat (2 * cs.length) ∧ vs = wideBytes cs ∧ ∃ c ∈ cs, 255 < c)
theorem CodA.cod {cs : List Int32} {cd N2 : Int32} {vs : List Value} {V : Cell} (h : CodA cs cd N2 vs) (hn : 2 * cs.length < 2 ^ 31) (hs : V.slots.size = N2.toNatClampNeg) (hv : RoadKit.Has V vs (.int 0)) : Cod cd cs.length (fun j => cs.getD j 0) V := by
  rcases h with ⟨rfl, rfl, rfl, h⟩ | ⟨rfl, rfl, rfl, c, hc, hw⟩
  · rw [n32 (by omega)] at hs
    exact Or.inl ⟨rfl, hs, fun j hj => ⟨by rw [hv j (by omega), low_at _ _ _ hj], by
      have e : cs.getD j 0 = cs[j] := by simp [List.getD_eq_getElem?_getD, hj]
      show ¬ 255 < cs.getD j 0
      rw [e]; exact h _ (List.getElem_mem _)⟩⟩
  · rw [n32 (by omega)] at hs
    obtain ⟨j, hj, rfl⟩ := List.getElem_of_mem hc
    exact Or.inr ⟨rfl, hs, fun j hj => ⟨by rw [hv _ (by omega), wide_lo _ _ _ hj], by rw [hv _ (by omega), wide_hi _ _ _ hj]⟩, j, hj, by
      have e : cs.getD j 0 = cs[j] := by simp [List.getD_eq_getElem?_getD, hj]
      show 255 < cs.getD j 0
      rw [e]; exact hw⟩
/-- an object of exactly java/lang/String, its two fields found: as the laws ask it -/
theorem strObj {Z U : State} {a0 : Array Value} {kI : Nat} (wi : (Jvm.Cond.instantiable ST kI).before a0 Z = true) (al : Z.vm.Alike U.vm) {x : Addr} {v0 c0 : Value} (E : RoadKit.Exa Z U.heap x ST) (V : RoadKit.Fld Z U.heap x ST "value" "[B" v0) (C : RoadKit.Fld Z U.heap x ST "coder" "B" c0) :
    ∃ (D : Cell) (fV fC : Field), Blank ST x D U ∧ Found ST "value" "[B" fV U ∧ Found ST "coder" "B" fC U ∧ D.slots[fV.slot]? = some v0 ∧ D.slots[fC.slot]? = some c0 ∧ RoadKit.slotOf Z ST "value" "[B" = fV.slot ∧ RoadKit.slotOf Z ST "coder" "B" = fC.slot := by
  obtain ⟨D, cfV, kV, iV, fV, hD, gV, stV, knV, obV, asV, slV⟩ := V
  obtain ⟨D', cfC, kC, iC, fC, hD', gC, stC, -, -, asC, slC⟩ := C
  cases hD.symm.trans hD'
  obtain ⟨D2, kD, e1, e2, e3, e4, e5⟩ := E
  cases hD.symm.trans e1
  obtain ⟨c2, k2, i1, i2, i3, -⟩ := Cond.instantiable_spec wi
  cases e2.symm.trans i1
  cases e3.symm.trans i2
  obtain ⟨kU, u1, u2⟩ := al.2.2 _ _ e3
  exact ⟨D, fV, fC, ⟨hD, ⟨knV, fun q hq => by rw [hq] at obV; cases obV⟩, by rw [al.findClass]; exact e2, kU, u1, by rw [u2]; exact i3, by rw [u2]; exact e5 i3⟩, ⟨SBG.found_only al ⟨cfV, kV, iV, gV⟩, stV⟩, ⟨SBG.found_only al ⟨cfC, kC, iC, gC⟩, stC⟩, slV, slC, by simp [RoadKit.slotOf, gV], by simp [RoadKit.slotOf, gC]⟩
theorem sta_is {Z U : State} (al : Z.vm.Alike U.vm) {C n d : String} {v : Value} (S : RoadKit.Sta Z U.heap C n d v) : StaticIs U C n d v := by
  obtain ⟨cfS, iS, kS, fS, st, cS, t1, t2, t3, t4, t5, t6, t7⟩ := S
  exact StaticIs.there (s := { Z with heap := U.heap }) ⟨cfS, iS, kS, fS, st, cS, t1, t2, t3, t4, t5, (fun q => by rw [q] at t6; cases t6), t7⟩ al rfl
/-- **length() OF SUCH A STRING** -/
theorem lenW {p : Program} {l : Launch} {e : Env} {R : Room} {s : State} {args : Array Value} {below : List Frame} {len W : Nat} {Z : State} {a0 : Array Value} {h : Heap} (hZ : Z.Warmed39 s.vm) (hw : ∀ d ∈ wordsLen, d.before a0 Z = true) {kI : Nat} (wi : (Jvm.Cond.instantiable ST kI).before a0 Z = true)
    {x t : Addr} {kb : ClassId} {cs : List Int32} {cd N2 z : Int32} {vs : List Value} (E : RoadKit.Exa Z h x ST) (V : RoadKit.Fld Z h x ST "value" "[B" (.ref t)) (C : RoadKit.Fld Z h x ST "coder" "B" (.int cd)) (K : RoadKit.Arv Z h t kb .byte N2 vs (.int 0)) (hc : CodA cs cd N2 vs) (hb : ∀ c ∈ cs, ¬ c < 0 ∧ ¬ (65535 : Int32) < c)
    (S : RoadKit.Sta Z h ST "COMPACT_STRINGS" "Z" (.int z)) (hz : ¬ z = 0) (l2 : cs.length ≤ 4000) (hfr : 2 ≤ R.frames) (hlo : W + 25 ≤ R.locals) :
    Back l R p e below s args (⟨"java/lang/String", "length", "()I"⟩ : MethodName) len W (fun P a => a = #[.ref x] ∧ P.U.heap = h ∧ P.cells + 0 ≤ R.cells ∧ P.slots + 0 ≤ R.slots)
      (fun P _ v B => ∃ L, (v = some (.int (Int32.ofNat cs.length)) ∧ L = [] ∧ B.U.heap = h) ∧ B.locs = P.locs ++ L ∧ B.cells = P.cells + 0 ∧ B.slots = P.slots + 0) := by
  obtain ⟨A, K1, K2, K3, K4, K5, K6⟩ := K
  have hcod := hc.cod (by omega) K3 K5
  intro m meth c P g ig mk a X hg hsize hdg hW hn hp'
  obtain ⟨rfl, rfl, r1, r2⟩ := hp'
  have al : Z.vm.Alike P.U.vm := hZ.alike.trans X.warmed.alike
  obtain ⟨D, fV, fC, hB, F1, F2, g1, g2, -, -⟩ := strObj wi al E V C
  have hx : Txt x t A cd cs.length (fun j => cs.getD j 0) P.U := ⟨⟨_, hB.2.2.1, D, hB.1, rfl, by cases q : D.vm <;> first | rfl | exact absurd q (hB.2.1.2 _)⟩, Has.of hB F1 g1, Has.of hB F2 g2, ⟨K1.1, State.isArrayOf_alike al K1.2.1, K1.2.2, by rcases hcod with ⟨-, q, -⟩ | ⟨-, q, -⟩ <;> omega⟩, hcod, fun j hj => by
    have e : cs.getD j 0 = cs[j] := by simp [List.getD_eq_getElem?_getD, hj]
    show ¬ cs.getD j 0 < 0 ∧ ¬ 65535 < cs.getD j 0
    rw [e]; exact hb _ (List.getElem_mem _)⟩
  obtain ⟨v, B, X', ⟨⟨hv, hh⟩, hl, hk, hs⟩, st⟩ := Len.pays x t A cd cs.length (fun j => cs.getD j 0) z (tabLen_of (movedLen hZ hw)) hfr hlo m meth c P g ig mk _ X hg hsize hdg hW hn ⟨r1, r2, rfl, hx, sta_is al S, hz⟩
  exact ⟨v, B, X', ⟨[], ⟨hv, rfl, hh⟩, hl, hk, hs⟩, st⟩
end StrChars.Road
namespace StrChars.Road
open Jvm Sem ClassFile Op Lib Jvm.Stand Jvm.Free Jvm.Free.XT
open Jvm.Lib.Cold (StaticIs)
/-- the road's facts of a String, as the laws ask it -/
theorem txt_of {Z U : State} {a0 : Array Value} {kI : Nat} (wi : (Jvm.Cond.instantiable ST kI).before a0 Z = true) (al : Z.vm.Alike U.vm) {x t : Addr} {kb : ClassId} {cs : List Int32} {cd N2 : Int32} {vs : List Value} (E : RoadKit.Exa Z U.heap x ST) (V : RoadKit.Fld Z U.heap x ST "value" "[B" (.ref t)) (C : RoadKit.Fld Z U.heap x ST "coder" "B" (.int cd)) (K : RoadKit.Arv Z U.heap t kb .byte N2 vs (.int 0)) (hc : CodA cs cd N2 vs) (hb : ∀ c ∈ cs, ¬ c < 0 ∧ ¬ (65535 : Int32) < c) (l2 : cs.length ≤ 4000) :
    ∃ A, Txt x t A cd cs.length (fun j => cs.getD j 0) U := by
  obtain ⟨A, K1, K2, K3, K4, K5, K6⟩ := K
  have hcod := hc.cod (by omega) K3 K5
  obtain ⟨D, fV, fC, hB, F1, F2, g1, g2, -, -⟩ := strObj wi al E V C
  exact ⟨A, ⟨_, hB.2.2.1, D, hB.1, rfl, by cases q : D.vm <;> first | rfl | exact absurd q (hB.2.1.2 _)⟩, Has.of hB F1 g1, Has.of hB F2 g2, ⟨K1.1, State.isArrayOf_alike al K1.2.1, K1.2.2, by rcases hcod with ⟨-, q, -⟩ | ⟨-, q, -⟩ <;> omega⟩, hcod, fun j hj => by
    have e : cs.getD j 0 = cs[j] := by simp [List.getD_eq_getElem?_getD, hj]
    show ¬ cs.getD j 0 < 0 ∧ ¬ 65535 < cs.getD j 0
    rw [e]; exact hb _ (List.getElem_mem _)⟩
end StrChars.Road
namespace StrChars
open Jvm Sem ClassFile Op Lib Jvm.Stand Jvm.Free.XT Jvm.Free.ALB Jvm.Free.JM Jvm.Free
open Jvm.Lib.Cold (StaticIs)
namespace ChN
def yN : MethodName := ⟨"java/lang/String", "charAt", "(I)C"⟩
abbrev yB : ByteArray := jdk_42_method_56_code
theorem d0 : decode yB 0 = .ok (.aload_n 0, 1) := by decide +kernel
theorem d1 : decode yB 1 = .ok (.invokevirtual 492, 3) := by decide +kernel
theorem d4 : decode yB 4 = .ok (.ifCond (.eq) 12, 3) := by decide +kernel
theorem d7 : decode yB 7 = .ok (.aload_n 0, 1) := by decide +kernel
theorem d8 : decode yB 8 = .ok (.getfield 9, 3) := by decide +kernel
theorem d11 : decode yB 11 = .ok (.iload_n 1, 1) := by decide +kernel
theorem d12 : decode yB 12 = .ok (.invokestatic 495, 3) := by decide +kernel
theorem d15 : decode yB 15 = .ok (.ireturn, 1) := by decide +kernel
def site : List Cond := [.fieldLink "java/lang/String" 9 "java/lang/String" "value" "[B", IsL.tab, LChA.tab] ++ virtW "java/lang/String" 492 "java/lang/String" IsL.yN IsL.yN ++ staticW "java/lang/String" 495 LChA.yN
def tab : Cond := tabOf yN yB 2 (some .char) site
def P (x t : Addr) (V : Cell) (n : Nat) (f : Nat → Int32) (z : Int32) (fm : Value) (i : Nat) (args : Array Value) (s : State) : Prop := args = #[.ref x, .int (Int32.ofNat i)] ∧ Txt x t V 0 n f s ∧ i < n ∧ StaticIs s "java/lang/String" "COMPACT_STRINGS" "Z" (.int z) ∧ ¬ z = 0 ∧ StaticIs s "jdk/internal/util/Preconditions" "SIOOBE_FORMATTER" "Ljava/util/function/BiFunction;" fm ∧ fm.isRef = true
def E (f : Nat → Int32) (i : Nat) (r : Option Value) (s u : State) : Prop := XT.PureE (some (.int (f i))) r s u
/-- charAt(i) of a Latin-1 String of n chars, i < n: f i -/
theorem law (l : Launch) (x t : Addr) (V : Cell) (n : Nat) (f : Nat → Int32) (z : Int32) (fm : Value) (i : Nat) : Law l yN 2 1 3 40 yB 2 (some .char) site (P x t V n f z fm i) (E f i) [] 0 0 := by
  refine Law.of_walk (plainFor_of_name (by decide +kernel)) (by decide +kernel) (by decide +kernel) (by decide) (fun _ _ h => by rw [h.1]; rfl) (fun _ U U' hal hh h => ⟨h.1, h.2.1.mv hal hh, h.2.2.1, h.2.2.2.1.there hal hh, h.2.2.2.2.1, h.2.2.2.2.2.1.there hal hh, h.2.2.2.2.2.2⟩) (fun r U U' V V' h1 hal h2 h => XT.PureE.mv r U U' V V' h1 hal h2 h) ?_
  intro p e s m args below meth c s₁ X0 hexec hbytes hml hret hlk hnm hown hh0 W hP
  obtain ⟨rfl, hx, hi, s1, hz, s3, rf⟩ := hP
  have v31 := hx.2.2.2.1.2.2.2
  have hr := hx.2.2.2.2.2 i hi
  have hx0 := hx.mv X0.warmed.alike hh0
  have c1 : Steps p.tables e below (s₁.setTop (entryFrame m #[.ref x, .int (Int32.ofNat i)] 2)) (s₁.setTop (mkF m 1 #[.val (.ref x), .val (.int (Int32.ofNat i))] [.ref x])) := Steps.trans (entry rfl) (by
    show Steps p.tables e below (s₁.setTop (mkF m 0 #[.val (.ref x), .val (.int (Int32.ofNat i))] [])) _
    refine XS.aloadN X0.here hexec rfl (hb hbytes d0) rfl rfl ?_
    exact Steps.refl _)
  obtain ⟨v2, T2, X2, E2, g2⟩ := X0.callV hexec (IsL.law l x 0 z) hown (wks W (virtW "java/lang/String" 492 "java/lang/String" IsL.yN IsL.yN)) rfl (by decide) (wk W IsL.tab) (W := 0) (Nat.le_of_ble_eq_true rfl) (Nat.le_of_ble_eq_true rfl) (Nat.le_refl _) (Nat.le_refl _) (hx0.1.fc X0.warmed.alike) hx0.1.is (g := (mkF m 1 #[.val (.ref x), .val (.int (Int32.ofNat i))] [.ref x])) rfl (by rw [hml]; rfl) c1 (argsL := []) (rest := []) rfl rfl (by show 2 * 0 + 0 ≤ _; decide) (hb hbytes d1) (⟨rfl, hx0.2.2.1, hx.2.2.2.2.1.cd, s1.there X0.warmed.alike hh0, hz⟩)
  obtain ⟨rfl, q2⟩ := E2
  have hh2 := q2.trans hh0
  have hx2 := hx.mv X2.warmed.alike hh2
  obtain ⟨-, k1, k2⟩ | ⟨k0, -⟩ := hx.2.2.2.2.1
  · have c3 : Steps p.tables e below (s₁.setTop (entryFrame m #[.ref x, .int (Int32.ofNat i)] 2)) (T2.setTop (mkF m 8 #[.val (.ref x), .val (.int (Int32.ofNat i))] [.ref x])) := Steps.trans g2 (by
      refine XS.ifNo X2.here hexec rfl (hb hbytes d4) rfl (i0_eq_f (by decide)) ?_
      refine XS.aloadN X2.here hexec rfl (hb hbytes d7) rfl rfl ?_
      exact Steps.refl _)
    obtain ⟨T4, X4, q4, st4⟩ := X2.hget hexec hown (wk W (.fieldLink "java/lang/String" 9 "java/lang/String" "value" "[B")) hx2.2.1 (g := (mkF m 8 #[.val (.ref x), .val (.int (Int32.ofNat i))] [.ref x])) rfl (rest := []) rfl (hb hbytes d8)
    have hh4 := q4.trans hh2
    have c5 : Steps p.tables e below (s₁.setTop (entryFrame m #[.ref x, .int (Int32.ofNat i)] 2)) (T4.setTop (mkF m 12 #[.val (.ref x), .val (.int (Int32.ofNat i))] [.int (Int32.ofNat i), .ref t])) := (c3.trans (st4 _ (Steps.refl _))).trans (by
      refine XS.iloadN X4.here hexec rfl (hb hbytes d11) rfl ?_
      exact Steps.refl _)
    obtain ⟨v6, T6, X6, E6, g6⟩ := X4.callS hexec (LChA.law l t V i (lo8 (f i)) fm) hown (wks W (staticW "java/lang/String" 495 LChA.yN)) (wk W LChA.tab) (W := 0) (Nat.le_of_ble_eq_true rfl) (Nat.le_of_ble_eq_true rfl) (Nat.le_refl _) (Nat.le_refl _) (g := (mkF m 12 #[.val (.ref x), .val (.int (Int32.ofNat i))] [.int (Int32.ofNat i), .ref t])) rfl (by rw [hml]; rfl) c5 (argsL := [.ref t, .int (Int32.ofNat i)]) (rest := []) rfl rfl (by show 2 * 0 + 0 ≤ _; decide) (hb hbytes d12) (⟨rfl, hx.2.2.2.1.mv X4.warmed.alike hh4, (k2 i hi).1, s3.there X4.warmed.alike hh4, rf⟩)
    obtain ⟨rfl, q6⟩ := E6
    rw [chr8_lo8 hr.1 (k2 i hi).2] at g6
    exact ⟨T6, some (.int (f i)), _, _, _, X6, rfl, rfl, rfl, (fun h => by cases h), ⟨rfl, q6.trans hh4⟩, fun fs hl => Steps.trans g6 (X6.ireturnOut hexec hret (narrow_ch hr.1 hr.2) (Or.inr (Or.inr (Or.inr (Or.inl rfl)))) (hb hbytes d15) hl)⟩
  · exact absurd k0 (by decide)
theorem pays {l : Launch} {R : Room} {p : Program} {e : Env} {below : List Frame} {s : State} {sargs : Array Value} {len W : Nat} (x t : Addr) (V : Cell) (n : Nat) (f : Nat → Int32) (z : Int32) (fm : Value) (i : Nat) (htab : tab.before sargs s = true) (hfr : 4 ≤ R.frames) (hlo : W + 53 ≤ R.locals) :
    Back l R p e below s sargs yN len W (fun A₁ a₁ => A₁.cells + 0 ≤ R.cells ∧ A₁.slots + 0 ≤ R.slots ∧ P x t V n f z fm i a₁ A₁.U) (fun A₁ _ v₁ B₁ => E f i v₁ A₁.U B₁.U ∧ B₁.locs = A₁.locs ++ [] ∧ B₁.cells = A₁.cells + 0 ∧ B₁.slots = A₁.slots + 0) :=
  (law l x t V n f z fm i).pays htab hfr (by omega)
end ChN
end StrChars
namespace StrChars.Road
open Jvm Sem ClassFile Op Lib Jvm.Stand Jvm.Free Jvm.Free.XT
open Jvm.Lib.Cold (StaticIs)
/-- the words of String.charAt(int), the Latin-1 road alone -/
abbrev wordsChN : List Jvm.Cond := [.code ChN.yN ChN.yB 2 (some .char), .initialized ST, .fieldLink ST 9 ST "value" "[B", .fieldLink ST 38 ST "COMPACT_STRINGS" "Z", .fieldLink ST 15 ST "coder" "B", .code IsL.yN IsL.yB 1 (some .boolean), .methodLink ST 492 IsL.yN, .declares IsL.yN, .selects ST IsL.yN IsL.yN, .instanceMethod IsL.yN,
  .methodLink ST 495 LChA.yN, .static LChA.yN, .code LChA.yN LChA.yB 2 (some .char), .initialized "java/lang/StringLatin1", .methodLink "java/lang/StringLatin1" 9 JO.Str_checkIndex.yN, .static JO.Str_checkIndex.yN, .code JO.Str_checkIndex.yN JO.Str_checkIndex.yB 2 none,
  .fieldLink ST 1053 "jdk/internal/util/Preconditions" "SIOOBE_FORMATTER" "Ljava/util/function/BiFunction;", .methodLink ST 1059 JC.PreCheck.yN, .static JC.PreCheck.yN, .code JC.PreCheck.yN JC.PreCheck.yB 3 (some .int), .initialized "jdk/internal/util/Preconditions"]
theorem tabChN_of {a : Array Value} {s : State} (h : ∀ w ∈ wordsChN, w.before a s = true) : ChN.tab.before a s = true := by
  have hp : JC.PreCheck.tab.before a s = true := unparts (wk h (.code JC.PreCheck.yN JC.PreCheck.yB 3 (some .int))) (wks h (.initialized JC.PreCheck.yN.cls :: JC.PreCheck.site))
  have qk := consq hp h
  have hk : JO.Str_checkIndex.tab.before a s = true := unparts (wk qk (.code JO.Str_checkIndex.yN JO.Str_checkIndex.yB 2 none)) (wks qk (.initialized JO.Str_checkIndex.yN.cls :: JO.Str_checkIndex.site))
  have ql := consq hk h
  have hl : LChA.tab.before a s = true := unparts (wk ql (.code LChA.yN LChA.yB 2 (some .char))) (wks ql (.initialized LChA.yN.cls :: LChA.site))
  have hi : IsL.tab.before a s = true := unparts (wk h (.code IsL.yN IsL.yB 1 (some .boolean))) (wks h (.initialized IsL.yN.cls :: IsL.site))
  have q := consq hi (consq hl h)
  exact unparts (wk q (.code ChN.yN ChN.yB 2 (some .char))) (wks q (.initialized ChN.yN.cls :: ChN.site))
theorem movedChN {Z s : State} {a0 args : Array Value} (hZ : Z.Warmed39 s.vm) (hw : ∀ d ∈ wordsChN, d.before a0 Z = true) : ∀ d ∈ wordsChN, d.before args s = true := fun d hd => by
  have t : ∀ d ∈ wordsChN, (d.onTables && d.keepsFace) = true := by decide +kernel
  exact RoadKit.mv hZ (hw d hd) (t d hd)
/-- **charAt(i) OF A LATIN-1 STRING**, i < n: the char -/
theorem chN {p : Program} {l : Launch} {e : Env} {R : Room} {s : State} {args : Array Value} {below : List Frame} {len W : Nat} {Z : State} {a0 : Array Value} {h : Heap} (hZ : Z.Warmed39 s.vm) (hw : ∀ d ∈ wordsChN, d.before a0 Z = true) {kI : Nat} (wi : (Jvm.Cond.instantiable ST kI).before a0 Z = true)
    {x t : Addr} {kb : ClassId} {cs : List Int32} {N2 z : Int32} {vs : List Value} {fm : Value} {i : Nat} {j : Int32} (E : RoadKit.Exa Z h x ST) (V : RoadKit.Fld Z h x ST "value" "[B" (.ref t)) (C : RoadKit.Fld Z h x ST "coder" "B" (.int 0)) (K : RoadKit.Arv Z h t kb .byte N2 vs (.int 0)) (hc : CodA cs 0 N2 vs) (hb : ∀ c ∈ cs, ¬ c < 0 ∧ ¬ (65535 : Int32) < c)
    (S : RoadKit.Sta Z h ST "COMPACT_STRINGS" "Z" (.int z)) (hz : ¬ z = 0) (F : RoadKit.Sta Z h "jdk/internal/util/Preconditions" "SIOOBE_FORMATTER" "Ljava/util/function/BiFunction;" fm) (rf : fm.isRef = true) (l2 : cs.length ≤ 4000) (hi : i < cs.length) (hj : j = Int32.ofNat i) (hfr : 4 ≤ R.frames) (hlo : W + 53 ≤ R.locals) :
    Back l R p e below s args (⟨"java/lang/String", "charAt", "(I)C"⟩ : MethodName) len W (fun P a => a = #[.ref x, .int j] ∧ P.U.heap = h ∧ P.cells + 0 ≤ R.cells ∧ P.slots + 0 ≤ R.slots)
      (fun P _ v B => ∃ L, (v = some (.int (cs.getD i 0)) ∧ L = [] ∧ B.U.heap = h) ∧ B.locs = P.locs ++ L ∧ B.cells = P.cells + 0 ∧ B.slots = P.slots + 0) := by
  subst hj
  intro m meth c P g ig mk a X hg hsize hdg hW hn hp'
  obtain ⟨rfl, rfl, r1, r2⟩ := hp'
  have al : Z.vm.Alike P.U.vm := hZ.alike.trans X.warmed.alike
  obtain ⟨A, hx⟩ := txt_of wi al E V C K hc hb l2
  obtain ⟨v, B, X', ⟨⟨hv, hh⟩, hl, hk, hs⟩, st⟩ := ChN.pays x t A cs.length (fun j => cs.getD j 0) z fm i (tabChN_of (movedChN hZ hw)) hfr hlo m meth c P g ig mk _ X hg hsize hdg hW hn ⟨r1, r2, rfl, hx, hi, sta_is al S, hz, sta_is al F, rf⟩
  exact ⟨v, B, X', ⟨[], ⟨hv, rfl, hh⟩, hl, hk, hs⟩, st⟩
/-- what backV says of its String, as the contracts of this text ask it: cs's low bytes, coder 0 -/
theorem codOf {cs : List Int32} {n : Nat} (hn : cs.length = n) (hb : ∀ c ∈ cs, ¬ 255 < c) : CodA cs 0 (Int32.ofNat n) ((cs.map lo8).map Value.int) := Or.inl ⟨rfl, by rw [hn], by simp [List.map_map, Function.comp_def], hb⟩
end StrChars.Road
end Jvm.Pilot.@@N@@

namespace Jvm.Pilot.@@N@@
open Jvm Jvm.ClassFile Sem Op Lib Jvm.Free Jvm.Stand Jvm.LawKit Jvm.RoadKit Bundle Jvm.Pilot.@@N@@.Jvm.D
def val1 (p1 : Int32) : Int32 := (if (p1 &&& (1 : Int32)) = (0 : Int32) then (nar .char ((((p1.toUInt32 >>> ((1 : Int32) &&& 31).toUInt32).toInt32) &&& (255 : Int32)).toUInt32.toUInt16.toUInt32.toInt32)) else (nar .char (37 : Int32)))
def Q1 (Z : State) (p1 : Int32) (h0 : Heap) (n0 : Nat) (v : Option Value) (h : Heap) (L : List Loc) : Prop := v = some (.int (val1 p1)) ∧ Fr n0 L ∧ h = h0
theorem d1_0 : decode method_3_code 0 = .ok (.iload_n 0, 1) := by decide +kernel
theorem d1_1 : decode method_3_code 1 = .ok (.iconst 1, 1) := by decide +kernel
theorem d1_2 : decode method_3_code 2 = .ok (.iand, 1) := by decide +kernel
theorem d1_3 : decode method_3_code 3 = .ok (.ifCond .eq 8, 3) := by decide +kernel
theorem d1_11 : decode method_3_code 11 = .ok (.iload_n 0, 1) := by decide +kernel
theorem d1_12 : decode method_3_code 12 = .ok (.iconst 1, 1) := by decide +kernel
theorem d1_13 : decode method_3_code 13 = .ok (.iushr, 1) := by decide +kernel
theorem d1_14 : decode method_3_code 14 = .ok (.sipush 255, 3) := by decide +kernel
theorem d1_17 : decode method_3_code 17 = .ok (.iand, 1) := by decide +kernel
theorem d1_18 : decode method_3_code 18 = .ok (.i2c, 1) := by decide +kernel
theorem d1_19 : decode method_3_code 19 = .ok (.ireturn, 1) := by decide +kernel
theorem pn_1 : plainName "com/example/harburg/harburg/epc/FieldCharacterCountPinLaw" = true := by first | (simp [plainName, overriddenIn]; done) | decide +kernel
theorem ef_1 (m : MethodId) (x0 : Int32) : entryFrame m #[(.int x0)] 1 = mkF m 0 #[.val (.int x0)] [] := by first | (simp [entryFrame, mkF, argsToLocals, Value.category]; done) | rfl

set_option maxRecDepth 65536 in
set_option maxHeartbeats 40000000 in
theorem rm1_t (l : Launch) (Z : State) (a0 : Array Value) (hw : ∀ d ∈ tables_1, d.before a0 Z = true) (ws : List Jvm.Cond) (p1 : Int32) (h0 : Heap) (n0 : Nat) (Z0 : n0 ≤ h0.size) (hc3 : (p1 &&& (1 : Int32)) = (0 : Int32)) :
    MetFree l (⟨"com/example/harburg/harburg/epc/FieldCharacterCountPinLaw", "draw", "(I)C"⟩ : MethodName) (head1 (Jvm.Cond.code (⟨"com/example/harburg/harburg/epc/FieldCharacterCountPinLaw", "draw", "(I)C"⟩ : MethodName) method_3_code 1 (some .char) :: ws) ({ frames := 0, cells := 0, slots := 0, locals := 0 } : Room)) (fun a U => a = #[(.int p1)] ∧ Z.Warmed39 U.vm ∧ U.heap = h0) (fun _ _ _ _ _ => True) (fun _ U o U' => ∃ v L, o = .returned v ∧ Q1 Z p1 h0 n0 v U'.heap L ∧ FrameEnd U o U' L ({ frames := 0, cells := 0, slots := 0, locals := 0 } : Room).cells ({ frames := 0, cells := 0, slots := 0, locals := 0 } : Room).slots) := by
  refine MetFree.of_bodySF (plainFor_of_name pn_1) hisR ?_
  intro p e s m args below meth c s₁ Bd hml0 hP hK
  obtain ⟨rfl, hZ, hh⟩ := hP
  have hx := Bd.exec
  have hby := Bd.bytes
  have hml : c.maxLocals = 1 := hml0
  have hown : s.vm.findClass "com/example/harburg/harburg/epc/FieldCharacterCountPinLaw" = some m.cls := findClass_of_methodNamed Bd.named
  have hnm := (name_of_methodNamed Bd.named Bd.method).1
  have X0 : Stand p l e ({ frames := 0, cells := 0, slots := 0, locals := 0 } : Room) s m #[(.int p1)] below meth c s₁ [] 0 0 := Stand.of_body Bd
  have e0 : s₁.heap = h0 := by rw [← hh, Bd.state]; rfl
  have N0 := Fr.nil n0
  have pre0 : ∀ t, Steps p.tables e below (s₁.setTop (mkF m 0 #[.val (.int p1)] [])) t → Steps p.tables e below (s₁.setTop (entryFrame m #[(.int p1)] 1)) t := fun t k => castTop (ef_1 m p1) k

  obtain ⟨fs, hr, hrun, hended, hW, hsame⟩ := X0.leave (v := some (.int (nar .char ((((p1.toUInt32 >>> ((1 : Int32) &&& 31).toUInt32).toInt32) &&& (255 : Int32)).toUInt32.toUInt16.toUInt32.toInt32)))) (fun h => by rw [Bd.returns] at h; cases h)
  refine ⟨_, _, pre0 _ ?_, hrun, hended, _, _, rfl, ?_, ⟨_, rfl⟩, hW, hsame.mono (by decide) (by decide)⟩
  · show Steps p.tables e below (s₁.setTop (mkF m 0 #[.val (.int p1)] [])) _
    refine XS.iloadN X0.here hx rfl (hb hby d1_0) rfl ?_
    show Steps p.tables e below (s₁.setTop (mkF m 1 #[.val (.int p1)] [(.int p1)])) _
    refine XS.iconst X0.here hx rfl (hb hby d1_1) ?_
    show Steps p.tables e below (s₁.setTop (mkF m 2 #[.val (.int p1)] [(.int (1 : Int32)), (.int p1)])) _
    refine XS.iand X0.here hx rfl (hb hby d1_2) rfl ?_
    show Steps p.tables e below (s₁.setTop (mkF m 3 #[.val (.int p1)] [(.int (p1 &&& (1 : Int32)))])) _
    refine XS.ifYes X0.here hx rfl (pc0 := 3) (pc' := 11) rfl (hb hby d1_3) rfl ((if0 _ _).trans (teq hc3).1) (by decide) (by decide) ?_
    show Steps p.tables e below (s₁.setTop (mkF m 11 #[.val (.int p1)] [])) _
    refine XS.iloadN X0.here hx rfl (hb hby d1_11) rfl ?_
    show Steps p.tables e below (s₁.setTop (mkF m 12 #[.val (.int p1)] [(.int p1)])) _
    refine XS.iconst X0.here hx rfl (hb hby d1_12) ?_
    show Steps p.tables e below (s₁.setTop (mkF m 13 #[.val (.int p1)] [(.int (1 : Int32)), (.int p1)])) _
    refine XS.iushr X0.here hx rfl (hb hby d1_13) rfl ?_
    show Steps p.tables e below (s₁.setTop (mkF m 14 #[.val (.int p1)] [(.int ((p1.toUInt32 >>> ((1 : Int32) &&& 31).toUInt32).toInt32))])) _
    refine XS.sipush X0.here hx rfl (hb hby d1_14) ?_
    show Steps p.tables e below (s₁.setTop (mkF m 17 #[.val (.int p1)] [(.int (255 : Int32)), (.int ((p1.toUInt32 >>> ((1 : Int32) &&& 31).toUInt32).toInt32))])) _
    refine XS.iand X0.here hx rfl (hb hby d1_17) rfl ?_
    show Steps p.tables e below (s₁.setTop (mkF m 18 #[.val (.int p1)] [(.int (((p1.toUInt32 >>> ((1 : Int32) &&& 31).toUInt32).toInt32) &&& (255 : Int32)))])) _
    refine XS.i2c X0.here hx rfl (hb hby d1_18) rfl ?_
    show Steps p.tables e below (s₁.setTop (mkF m 19 #[.val (.int p1)] [(.int ((((p1.toUInt32 >>> ((1 : Int32) &&& 31).toUInt32).toInt32) &&& (255 : Int32)).toUInt32.toUInt16.toUInt32.toInt32))])) _
    exact retN X0 hx (t := .char) Bd.returns (by simp) (hb hby d1_19) hr
  · show Q1 Z p1 h0 n0 _ s₁.heap _
    rw [e0]
    exact ⟨by rw [show val1 p1 = (nar .char ((((p1.toUInt32 >>> ((1 : Int32) &&& 31).toUInt32).toInt32) &&& (255 : Int32)).toUInt32.toUInt16.toUInt32.toInt32)) from by unfold val1; rw [if_pos hc3]], N0, rfl⟩
theorem d1_6 : decode method_3_code 6 = .ok (.bipush 37, 2) := by decide +kernel
theorem d1_8 : decode method_3_code 8 = .ok (.goto 11, 3) := by decide +kernel

set_option maxRecDepth 65536 in
set_option maxHeartbeats 40000000 in
theorem rm1_f (l : Launch) (Z : State) (a0 : Array Value) (hw : ∀ d ∈ tables_1, d.before a0 Z = true) (ws : List Jvm.Cond) (p1 : Int32) (h0 : Heap) (n0 : Nat) (Z0 : n0 ≤ h0.size) (hc3 : ¬ ((p1 &&& (1 : Int32)) = (0 : Int32))) :
    MetFree l (⟨"com/example/harburg/harburg/epc/FieldCharacterCountPinLaw", "draw", "(I)C"⟩ : MethodName) (head1 (Jvm.Cond.code (⟨"com/example/harburg/harburg/epc/FieldCharacterCountPinLaw", "draw", "(I)C"⟩ : MethodName) method_3_code 1 (some .char) :: ws) ({ frames := 0, cells := 0, slots := 0, locals := 0 } : Room)) (fun a U => a = #[(.int p1)] ∧ Z.Warmed39 U.vm ∧ U.heap = h0) (fun _ _ _ _ _ => True) (fun _ U o U' => ∃ v L, o = .returned v ∧ Q1 Z p1 h0 n0 v U'.heap L ∧ FrameEnd U o U' L ({ frames := 0, cells := 0, slots := 0, locals := 0 } : Room).cells ({ frames := 0, cells := 0, slots := 0, locals := 0 } : Room).slots) := by
  refine MetFree.of_bodySF (plainFor_of_name pn_1) hisR ?_
  intro p e s m args below meth c s₁ Bd hml0 hP hK
  obtain ⟨rfl, hZ, hh⟩ := hP
  have hx := Bd.exec
  have hby := Bd.bytes
  have hml : c.maxLocals = 1 := hml0
  have hown : s.vm.findClass "com/example/harburg/harburg/epc/FieldCharacterCountPinLaw" = some m.cls := findClass_of_methodNamed Bd.named
  have hnm := (name_of_methodNamed Bd.named Bd.method).1
  have X0 : Stand p l e ({ frames := 0, cells := 0, slots := 0, locals := 0 } : Room) s m #[(.int p1)] below meth c s₁ [] 0 0 := Stand.of_body Bd
  have e0 : s₁.heap = h0 := by rw [← hh, Bd.state]; rfl
  have N0 := Fr.nil n0
  have pre0 : ∀ t, Steps p.tables e below (s₁.setTop (mkF m 0 #[.val (.int p1)] [])) t → Steps p.tables e below (s₁.setTop (entryFrame m #[(.int p1)] 1)) t := fun t k => castTop (ef_1 m p1) k

  obtain ⟨fs, hr, hrun, hended, hW, hsame⟩ := X0.leave (v := some (.int (nar .char (37 : Int32)))) (fun h => by rw [Bd.returns] at h; cases h)
  refine ⟨_, _, pre0 _ ?_, hrun, hended, _, _, rfl, ?_, ⟨_, rfl⟩, hW, hsame.mono (by decide) (by decide)⟩
  · show Steps p.tables e below (s₁.setTop (mkF m 0 #[.val (.int p1)] [])) _
    refine XS.iloadN X0.here hx rfl (hb hby d1_0) rfl ?_
    show Steps p.tables e below (s₁.setTop (mkF m 1 #[.val (.int p1)] [(.int p1)])) _
    refine XS.iconst X0.here hx rfl (hb hby d1_1) ?_
    show Steps p.tables e below (s₁.setTop (mkF m 2 #[.val (.int p1)] [(.int (1 : Int32)), (.int p1)])) _
    refine XS.iand X0.here hx rfl (hb hby d1_2) rfl ?_
    show Steps p.tables e below (s₁.setTop (mkF m 3 #[.val (.int p1)] [(.int (p1 &&& (1 : Int32)))])) _
    refine XS.ifNo X0.here hx rfl (hb hby d1_3) rfl ((if0 _ _).trans (feq hc3).1) ?_
    show Steps p.tables e below (s₁.setTop (mkF m 6 #[.val (.int p1)] [])) _
    refine XS.bipush X0.here hx rfl (hb hby d1_6) ?_
    show Steps p.tables e below (s₁.setTop (mkF m 8 #[.val (.int p1)] [(.int (37 : Int32))])) _
    refine XS.goto X0.here hx rfl (pc0 := 8) (pc' := 19) rfl (hb hby d1_8) (by decide) (by decide) ?_
    show Steps p.tables e below (s₁.setTop (mkF m 19 #[.val (.int p1)] [(.int (37 : Int32))])) _
    exact retN X0 hx (t := .char) Bd.returns (by simp) (hb hby d1_19) hr
  · show Q1 Z p1 h0 n0 _ s₁.heap _
    rw [e0]
    exact ⟨by rw [show val1 p1 = (nar .char (37 : Int32)) from by unfold val1; rw [if_neg hc3]], N0, rfl⟩
theorem rm1 (l : Launch) (Z : State) (a0 : Array Value) (hw : ∀ d ∈ tables_1, d.before a0 Z = true) (ws : List Jvm.Cond) (p1 : Int32) (h0 : Heap) (n0 : Nat) (Z0 : n0 ≤ h0.size) :
    MetFree l (⟨"com/example/harburg/harburg/epc/FieldCharacterCountPinLaw", "draw", "(I)C"⟩ : MethodName) (head1 (Jvm.Cond.code (⟨"com/example/harburg/harburg/epc/FieldCharacterCountPinLaw", "draw", "(I)C"⟩ : MethodName) method_3_code 1 (some .char) :: ws) ({ frames := 0, cells := 0, slots := 0, locals := 0 } : Room)) (fun a U => a = #[(.int p1)] ∧ Z.Warmed39 U.vm ∧ U.heap = h0) (fun _ _ _ _ _ => True) (fun _ U o U' => ∃ v L, o = .returned v ∧ Q1 Z p1 h0 n0 v U'.heap L ∧ FrameEnd U o U' L ({ frames := 0, cells := 0, slots := 0, locals := 0 } : Room).cells ({ frames := 0, cells := 0, slots := 0, locals := 0 } : Room).slots) := by
  by_cases hc3 : (p1 &&& (1 : Int32)) = (0 : Int32)
  · exact rm1_t l Z a0 hw ws p1 h0 n0 Z0 hc3
  · exact rm1_f l Z a0 hw ws p1 h0 n0 Z0 hc3
def val6 (p1 : Int32) (p2 : Int32) : Int32 := (if p1 = (0 : Int32) then (0 : Int32) else (if p2 = (37 : Int32) then (1 : Int32) else (0 : Int32)))
def Q6 (Z : State) (p1 : Int32) (p2 : Int32) (h0 : Heap) (n0 : Nat) (v : Option Value) (h : Heap) (L : List Loc) : Prop := v = some (.int (val6 p1 p2)) ∧ Fr n0 L ∧ h = h0
theorem d6_0 : decode method_4_code 0 = .ok (.iload_n 0, 1) := by decide +kernel
theorem d6_1 : decode method_4_code 1 = .ok (.ifCond .eq 13, 3) := by decide +kernel
theorem d6_14 : decode method_4_code 14 = .ok (.iconst 0, 1) := by decide +kernel
theorem d6_15 : decode method_4_code 15 = .ok (.ireturn, 1) := by decide +kernel
theorem pn_6 : plainName "com/example/harburg/harburg/epc/FieldCharacterCountPinLaw" = true := by first | (simp [plainName, overriddenIn]; done) | decide +kernel
theorem ef_6 (m : MethodId) (x0 : Int32) (x1 : Int32) : entryFrame m #[(.int x0), (.int x1)] 2 = mkF m 0 #[.val (.int x0), .val (.int x1)] [] := by first | (simp [entryFrame, mkF, argsToLocals, Value.category]; done) | rfl

set_option maxRecDepth 65536 in
set_option maxHeartbeats 40000000 in
theorem rm6_t (l : Launch) (Z : State) (a0 : Array Value) (hw : ∀ d ∈ tables_1, d.before a0 Z = true) (ws : List Jvm.Cond) (p1 : Int32) (p2 : Int32) (h0 : Heap) (n0 : Nat) (Z0 : n0 ≤ h0.size) (hc1 : p1 = (0 : Int32)) :
    MetFree l (⟨"com/example/harburg/harburg/epc/FieldCharacterCountPinLaw", "pct", "(ZC)I"⟩ : MethodName) (head1 (Jvm.Cond.code (⟨"com/example/harburg/harburg/epc/FieldCharacterCountPinLaw", "pct", "(ZC)I"⟩ : MethodName) method_4_code 2 (some .int) :: ws) ({ frames := 0, cells := 0, slots := 0, locals := 0 } : Room)) (fun a U => a = #[(.int p1), (.int p2)] ∧ Z.Warmed39 U.vm ∧ U.heap = h0) (fun _ _ _ _ _ => True) (fun _ U o U' => ∃ v L, o = .returned v ∧ Q6 Z p1 p2 h0 n0 v U'.heap L ∧ FrameEnd U o U' L ({ frames := 0, cells := 0, slots := 0, locals := 0 } : Room).cells ({ frames := 0, cells := 0, slots := 0, locals := 0 } : Room).slots) := by
  refine MetFree.of_bodySF (plainFor_of_name pn_6) hisR ?_
  intro p e s m args below meth c s₁ Bd hml0 hP hK
  obtain ⟨rfl, hZ, hh⟩ := hP
  have hx := Bd.exec
  have hby := Bd.bytes
  have hml : c.maxLocals = 2 := hml0
  have hown : s.vm.findClass "com/example/harburg/harburg/epc/FieldCharacterCountPinLaw" = some m.cls := findClass_of_methodNamed Bd.named
  have hnm := (name_of_methodNamed Bd.named Bd.method).1
  have X0 : Stand p l e ({ frames := 0, cells := 0, slots := 0, locals := 0 } : Room) s m #[(.int p1), (.int p2)] below meth c s₁ [] 0 0 := Stand.of_body Bd
  have e0 : s₁.heap = h0 := by rw [← hh, Bd.state]; rfl
  have N0 := Fr.nil n0
  have pre0 : ∀ t, Steps p.tables e below (s₁.setTop (mkF m 0 #[.val (.int p1), .val (.int p2)] [])) t → Steps p.tables e below (s₁.setTop (entryFrame m #[(.int p1), (.int p2)] 2)) t := fun t k => castTop (ef_6 m p1 p2) k

  obtain ⟨fs, hr, hrun, hended, hW, hsame⟩ := X0.leave (v := some (.int (0 : Int32))) (fun h => by rw [Bd.returns] at h; cases h)
  refine ⟨_, _, pre0 _ ?_, hrun, hended, _, _, rfl, ?_, ⟨_, rfl⟩, hW, hsame.mono (by decide) (by decide)⟩
  · show Steps p.tables e below (s₁.setTop (mkF m 0 #[.val (.int p1), .val (.int p2)] [])) _
    refine XS.iloadN X0.here hx rfl (hb hby d6_0) rfl ?_
    show Steps p.tables e below (s₁.setTop (mkF m 1 #[.val (.int p1), .val (.int p2)] [(.int p1)])) _
    refine XS.ifYes X0.here hx rfl (pc0 := 1) (pc' := 14) rfl (hb hby d6_1) rfl ((if0 _ _).trans (teq hc1).1) (by decide) (by decide) ?_
    show Steps p.tables e below (s₁.setTop (mkF m 14 #[.val (.int p1), .val (.int p2)] [])) _
    refine XS.iconst X0.here hx rfl (hb hby d6_14) ?_
    show Steps p.tables e below (s₁.setTop (mkF m 15 #[.val (.int p1), .val (.int p2)] [(.int (0 : Int32))])) _
    exact retI X0 hx Bd.returns (hb hby d6_15) hr
  · show Q6 Z p1 p2 h0 n0 _ s₁.heap _
    rw [e0]
    exact ⟨by rw [show val6 p1 p2 = (0 : Int32) from by unfold val6; rw [if_pos hc1]], N0, rfl⟩
theorem d6_4 : decode method_4_code 4 = .ok (.iload_n 1, 1) := by decide +kernel
theorem d6_5 : decode method_4_code 5 = .ok (.bipush 37, 2) := by decide +kernel
theorem d6_7 : decode method_4_code 7 = .ok (.if_icmp .ne 7, 3) := by decide +kernel

set_option maxRecDepth 65536 in
set_option maxHeartbeats 40000000 in
theorem rm6_ft (l : Launch) (Z : State) (a0 : Array Value) (hw : ∀ d ∈ tables_1, d.before a0 Z = true) (ws : List Jvm.Cond) (p1 : Int32) (p2 : Int32) (h0 : Heap) (n0 : Nat) (Z0 : n0 ≤ h0.size) (hc1 : ¬ (p1 = (0 : Int32))) (hc7 : ¬ (p2 = (37 : Int32))) :
    MetFree l (⟨"com/example/harburg/harburg/epc/FieldCharacterCountPinLaw", "pct", "(ZC)I"⟩ : MethodName) (head1 (Jvm.Cond.code (⟨"com/example/harburg/harburg/epc/FieldCharacterCountPinLaw", "pct", "(ZC)I"⟩ : MethodName) method_4_code 2 (some .int) :: ws) ({ frames := 0, cells := 0, slots := 0, locals := 0 } : Room)) (fun a U => a = #[(.int p1), (.int p2)] ∧ Z.Warmed39 U.vm ∧ U.heap = h0) (fun _ _ _ _ _ => True) (fun _ U o U' => ∃ v L, o = .returned v ∧ Q6 Z p1 p2 h0 n0 v U'.heap L ∧ FrameEnd U o U' L ({ frames := 0, cells := 0, slots := 0, locals := 0 } : Room).cells ({ frames := 0, cells := 0, slots := 0, locals := 0 } : Room).slots) := by
  refine MetFree.of_bodySF (plainFor_of_name pn_6) hisR ?_
  intro p e s m args below meth c s₁ Bd hml0 hP hK
  obtain ⟨rfl, hZ, hh⟩ := hP
  have hx := Bd.exec
  have hby := Bd.bytes
  have hml : c.maxLocals = 2 := hml0
  have hown : s.vm.findClass "com/example/harburg/harburg/epc/FieldCharacterCountPinLaw" = some m.cls := findClass_of_methodNamed Bd.named
  have hnm := (name_of_methodNamed Bd.named Bd.method).1
  have X0 : Stand p l e ({ frames := 0, cells := 0, slots := 0, locals := 0 } : Room) s m #[(.int p1), (.int p2)] below meth c s₁ [] 0 0 := Stand.of_body Bd
  have e0 : s₁.heap = h0 := by rw [← hh, Bd.state]; rfl
  have N0 := Fr.nil n0
  have pre0 : ∀ t, Steps p.tables e below (s₁.setTop (mkF m 0 #[.val (.int p1), .val (.int p2)] [])) t → Steps p.tables e below (s₁.setTop (entryFrame m #[(.int p1), (.int p2)] 2)) t := fun t k => castTop (ef_6 m p1 p2) k

  obtain ⟨fs, hr, hrun, hended, hW, hsame⟩ := X0.leave (v := some (.int (0 : Int32))) (fun h => by rw [Bd.returns] at h; cases h)
  refine ⟨_, _, pre0 _ ?_, hrun, hended, _, _, rfl, ?_, ⟨_, rfl⟩, hW, hsame.mono (by decide) (by decide)⟩
  · show Steps p.tables e below (s₁.setTop (mkF m 0 #[.val (.int p1), .val (.int p2)] [])) _
    refine XS.iloadN X0.here hx rfl (hb hby d6_0) rfl ?_
    show Steps p.tables e below (s₁.setTop (mkF m 1 #[.val (.int p1), .val (.int p2)] [(.int p1)])) _
    refine XS.ifNo X0.here hx rfl (hb hby d6_1) rfl ((if0 _ _).trans (feq hc1).1) ?_
    show Steps p.tables e below (s₁.setTop (mkF m 4 #[.val (.int p1), .val (.int p2)] [])) _
    refine XS.iloadN X0.here hx rfl (hb hby d6_4) rfl ?_
    show Steps p.tables e below (s₁.setTop (mkF m 5 #[.val (.int p1), .val (.int p2)] [(.int p2)])) _
    refine XS.bipush X0.here hx rfl (hb hby d6_5) ?_
    show Steps p.tables e below (s₁.setTop (mkF m 7 #[.val (.int p1), .val (.int p2)] [(.int (37 : Int32)), (.int p2)])) _
    refine XS.icmpYes X0.here hx rfl (pc0 := 7) (pc' := 14) rfl (hb hby d6_7) rfl (feq hc7).2 (by decide) (by decide) ?_
    show Steps p.tables e below (s₁.setTop (mkF m 14 #[.val (.int p1), .val (.int p2)] [])) _
    refine XS.iconst X0.here hx rfl (hb hby d6_14) ?_
    show Steps p.tables e below (s₁.setTop (mkF m 15 #[.val (.int p1), .val (.int p2)] [(.int (0 : Int32))])) _
    exact retI X0 hx Bd.returns (hb hby d6_15) hr
  · show Q6 Z p1 p2 h0 n0 _ s₁.heap _
    rw [e0]
    exact ⟨by rw [show val6 p1 p2 = (0 : Int32) from by unfold val6; rw [if_neg hc1, if_neg hc7]], N0, rfl⟩
theorem d6_10 : decode method_4_code 10 = .ok (.iconst 1, 1) := by decide +kernel
theorem d6_11 : decode method_4_code 11 = .ok (.goto 4, 3) := by decide +kernel

set_option maxRecDepth 65536 in
set_option maxHeartbeats 40000000 in
theorem rm6_ff (l : Launch) (Z : State) (a0 : Array Value) (hw : ∀ d ∈ tables_1, d.before a0 Z = true) (ws : List Jvm.Cond) (p1 : Int32) (p2 : Int32) (h0 : Heap) (n0 : Nat) (Z0 : n0 ≤ h0.size) (hc1 : ¬ (p1 = (0 : Int32))) (hc7 : p2 = (37 : Int32)) :
    MetFree l (⟨"com/example/harburg/harburg/epc/FieldCharacterCountPinLaw", "pct", "(ZC)I"⟩ : MethodName) (head1 (Jvm.Cond.code (⟨"com/example/harburg/harburg/epc/FieldCharacterCountPinLaw", "pct", "(ZC)I"⟩ : MethodName) method_4_code 2 (some .int) :: ws) ({ frames := 0, cells := 0, slots := 0, locals := 0 } : Room)) (fun a U => a = #[(.int p1), (.int p2)] ∧ Z.Warmed39 U.vm ∧ U.heap = h0) (fun _ _ _ _ _ => True) (fun _ U o U' => ∃ v L, o = .returned v ∧ Q6 Z p1 p2 h0 n0 v U'.heap L ∧ FrameEnd U o U' L ({ frames := 0, cells := 0, slots := 0, locals := 0 } : Room).cells ({ frames := 0, cells := 0, slots := 0, locals := 0 } : Room).slots) := by
  refine MetFree.of_bodySF (plainFor_of_name pn_6) hisR ?_
  intro p e s m args below meth c s₁ Bd hml0 hP hK
  obtain ⟨rfl, hZ, hh⟩ := hP
  have hx := Bd.exec
  have hby := Bd.bytes
  have hml : c.maxLocals = 2 := hml0
  have hown : s.vm.findClass "com/example/harburg/harburg/epc/FieldCharacterCountPinLaw" = some m.cls := findClass_of_methodNamed Bd.named
  have hnm := (name_of_methodNamed Bd.named Bd.method).1
  have X0 : Stand p l e ({ frames := 0, cells := 0, slots := 0, locals := 0 } : Room) s m #[(.int p1), (.int p2)] below meth c s₁ [] 0 0 := Stand.of_body Bd
  have e0 : s₁.heap = h0 := by rw [← hh, Bd.state]; rfl
  have N0 := Fr.nil n0
  have pre0 : ∀ t, Steps p.tables e below (s₁.setTop (mkF m 0 #[.val (.int p1), .val (.int p2)] [])) t → Steps p.tables e below (s₁.setTop (entryFrame m #[(.int p1), (.int p2)] 2)) t := fun t k => castTop (ef_6 m p1 p2) k

  obtain ⟨fs, hr, hrun, hended, hW, hsame⟩ := X0.leave (v := some (.int (1 : Int32))) (fun h => by rw [Bd.returns] at h; cases h)
  refine ⟨_, _, pre0 _ ?_, hrun, hended, _, _, rfl, ?_, ⟨_, rfl⟩, hW, hsame.mono (by decide) (by decide)⟩
  · show Steps p.tables e below (s₁.setTop (mkF m 0 #[.val (.int p1), .val (.int p2)] [])) _
    refine XS.iloadN X0.here hx rfl (hb hby d6_0) rfl ?_
    show Steps p.tables e below (s₁.setTop (mkF m 1 #[.val (.int p1), .val (.int p2)] [(.int p1)])) _
    refine XS.ifNo X0.here hx rfl (hb hby d6_1) rfl ((if0 _ _).trans (feq hc1).1) ?_
    show Steps p.tables e below (s₁.setTop (mkF m 4 #[.val (.int p1), .val (.int p2)] [])) _
    refine XS.iloadN X0.here hx rfl (hb hby d6_4) rfl ?_
    show Steps p.tables e below (s₁.setTop (mkF m 5 #[.val (.int p1), .val (.int p2)] [(.int p2)])) _
    refine XS.bipush X0.here hx rfl (hb hby d6_5) ?_
    show Steps p.tables e below (s₁.setTop (mkF m 7 #[.val (.int p1), .val (.int p2)] [(.int (37 : Int32)), (.int p2)])) _
    refine XS.icmpNo X0.here hx rfl (hb hby d6_7) rfl (teq hc7).2 ?_
    show Steps p.tables e below (s₁.setTop (mkF m 10 #[.val (.int p1), .val (.int p2)] [])) _
    refine XS.iconst X0.here hx rfl (hb hby d6_10) ?_
    show Steps p.tables e below (s₁.setTop (mkF m 11 #[.val (.int p1), .val (.int p2)] [(.int (1 : Int32))])) _
    refine XS.goto X0.here hx rfl (pc0 := 11) (pc' := 15) rfl (hb hby d6_11) (by decide) (by decide) ?_
    show Steps p.tables e below (s₁.setTop (mkF m 15 #[.val (.int p1), .val (.int p2)] [(.int (1 : Int32))])) _
    exact retI X0 hx Bd.returns (hb hby d6_15) hr
  · show Q6 Z p1 p2 h0 n0 _ s₁.heap _
    rw [e0]
    exact ⟨by rw [show val6 p1 p2 = (1 : Int32) from by unfold val6; rw [if_neg hc1, if_pos hc7]], N0, rfl⟩
theorem rm6 (l : Launch) (Z : State) (a0 : Array Value) (hw : ∀ d ∈ tables_1, d.before a0 Z = true) (ws : List Jvm.Cond) (p1 : Int32) (p2 : Int32) (h0 : Heap) (n0 : Nat) (Z0 : n0 ≤ h0.size) :
    MetFree l (⟨"com/example/harburg/harburg/epc/FieldCharacterCountPinLaw", "pct", "(ZC)I"⟩ : MethodName) (head1 (Jvm.Cond.code (⟨"com/example/harburg/harburg/epc/FieldCharacterCountPinLaw", "pct", "(ZC)I"⟩ : MethodName) method_4_code 2 (some .int) :: ws) ({ frames := 0, cells := 0, slots := 0, locals := 0 } : Room)) (fun a U => a = #[(.int p1), (.int p2)] ∧ Z.Warmed39 U.vm ∧ U.heap = h0) (fun _ _ _ _ _ => True) (fun _ U o U' => ∃ v L, o = .returned v ∧ Q6 Z p1 p2 h0 n0 v U'.heap L ∧ FrameEnd U o U' L ({ frames := 0, cells := 0, slots := 0, locals := 0 } : Room).cells ({ frames := 0, cells := 0, slots := 0, locals := 0 } : Room).slots) := by
  by_cases hc1 : p1 = (0 : Int32)
  · exact rm6_t l Z a0 hw ws p1 p2 h0 n0 Z0 hc1
  · by_cases hc7 : p2 = (37 : Int32)
    · exact rm6_ff l Z a0 hw ws p1 p2 h0 n0 Z0 hc1 hc7
    · exact rm6_ft l Z a0 hw ws p1 p2 h0 n0 Z0 hc1 hc7
theorem own_nar (c : Int32) (h : ¬ c < 0 ∧ ¬ (255 : Int32) < c) : nar .char c = c := by
  have a := (c_i2c c)
  have h1 := h.1; have h2 := h.2
  rw [Int32.lt_iff_toInt_lt] at h1 h2
  rw [show (0 : Int32).toInt = 0 from rfl] at h1
  rw [show (255 : Int32).toInt = 255 from rfl] at h2
  apply Int32.toInt_inj.mp
  show c.toUInt32.toUInt16.toUInt32.toInt32.toInt = c.toInt
  omega
theorem own_255 (x : Int32) : ¬ nar .char ((x &&& (255 : Int32)).toUInt32.toUInt16.toUInt32.toInt32) < 0 ∧ ¬ (255 : Int32) < nar .char ((x &&& (255 : Int32)).toUInt32.toUInt16.toUInt32.toInt32) := by
  have t : ∀ k : Fin 256, ¬ nar .char ((Int32.ofNat k.val).toUInt32.toUInt16.toUInt32.toInt32) < 0 ∧ ¬ (255 : Int32) < nar .char ((Int32.ofNat k.val).toUInt32.toUInt16.toUInt32.toInt32) := by decide +kernel
  have h : (x &&& 255).toBitVec.toNat < 256 := by
    simp only [Int32.toBitVec_and, BitVec.toNat_and]
    exact Nat.lt_succ_of_le Nat.and_le_right
  have e : (x &&& 255) = Int32.ofNat (x &&& 255).toBitVec.toNat := by
    apply Int32.toBitVec_inj.mp
    show _ = BitVec.ofNat 32 _
    rw [BitVec.ofNat_toNat]; simp
  rw [e]
  exact t ⟨_, h⟩
theorem own_rng (x : Int32) : ¬ val1 x < 0 ∧ ¬ (255 : Int32) < val1 x := by
  unfold val1
  split
  · exact own_255 _
  · decide
theorem own_up (cs : List Int32) (h : ∀ c ∈ cs, ¬ c < 0 ∧ ¬ (255 : Int32) < c) : ∀ c ∈ cs, ¬ c < 0 ∧ ¬ (65535 : Int32) < c := fun c hc => ⟨(h c hc).1, fun q => (h c hc).2 (by rw [Int32.lt_iff_toInt_lt] at q ⊢; have e1 : (65535 : Int32).toInt = 65535 := rfl; have e2 : (255 : Int32).toInt = 255 := rfl; omega)⟩
def own_cnt : List Int32 → Int32
  | [] => 0
  | c :: r => (if c = 37 then 1 else 0) + own_cnt r
theorem own_cnt_c (c : Int32) (r : List Int32) : own_cnt (c :: r) = (if c = 37 then 1 else 0) + own_cnt r := rfl
theorem own_ofNat {k : Nat} (h : k < 2147483648) : (Int32.ofNat k).toInt = k := Int32.toInt_ofNat_of_lt h
theorem own_lt {i k : Nat} (h : i < k) (hk : k < 2147483648) : Int32.ofNat i < Int32.ofNat k := by
  rw [Int32.lt_iff_toInt_lt, own_ofNat (by omega), own_ofNat hk]; omega
theorem own_nlt {k : Nat} (hk : k < 2147483648) : ¬ Int32.ofNat k < Int32.ofNat k := by
  rw [Int32.lt_iff_toInt_lt]; omega
theorem own_succ {i : Nat} (h : i + 1 < 2147483648) : Int32.ofNat i + 1 = Int32.ofNat (i + 1) := by
  apply Int32.toInt_inj.mp
  have a := c_iadd (Int32.ofNat i) 1
  have b := own_ofNat (k := i) (by omega)
  have c := own_ofNat (k := i + 1) h
  have d := rng32 (Int32.ofNat i + 1)
  have e : (1 : Int32).toInt = 1 := rfl
  omega
theorem d7_4 : decode prog_14_method_16_code 4 = .ok (.iload_n 2, 1) := by decide +kernel
theorem d7_5 : decode prog_14_method_16_code 5 = .ok (.aload_n 0, 1) := by decide +kernel
theorem d7_6 : decode prog_14_method_16_code 6 = .ok (.invokevirtual 89, 3) := by decide +kernel
theorem d7_9 : decode prog_14_method_16_code 9 = .ok (.if_icmp .ge 22, 3) := by decide +kernel
theorem d7_12 : decode prog_14_method_16_code 12 = .ok (.aload_n 0, 1) := by decide +kernel
theorem d7_13 : decode prog_14_method_16_code 13 = .ok (.iload_n 2, 1) := by decide +kernel
theorem d7_14 : decode prog_14_method_16_code 14 = .ok (.invokevirtual 95, 3) := by decide +kernel
theorem d7_17 : decode prog_14_method_16_code 17 = .ok (.bipush 37, 2) := by decide +kernel
theorem d7_19 : decode prog_14_method_16_code 19 = .ok (.if_icmp .ne 6, 3) := by decide +kernel
theorem d7_25 : decode prog_14_method_16_code 25 = .ok (.iinc 2 1, 3) := by decide +kernel
theorem d7_28 : decode prog_14_method_16_code 28 = .ok (.goto (-24), 3) := by decide +kernel
theorem pd_7_7 : parseMethodDescriptor "()I" = some ⟨[], some .int⟩ := by decide +kernel
theorem pd_7_0 : parseMethodDescriptor "(I)C" = some ⟨[.int], some .char⟩ := by decide +kernel
set_option maxRecDepth 65536 in
set_option maxHeartbeats 40000000 in
theorem own_tN {p : Program} {l : Launch} {e : Env} {R : Room} {s : State} {m : MethodId} {args : Array Value} {below : List Frame} {meth : Method} {c : Code} {T0 : State} {locs : List Loc} {cells slots : Nat} {Z : State} {a0 : Array Value} {h0 : Heap} (o0 : Addr) (i1 : Int32) (i : Nat)
    (X0 : Stand p l e R s m args below meth c T0 locs cells slots) (hx : p.tables.exec = Jvm.exec) (hZ : Z.Warmed39 s.vm) (hw : ∀ d ∈ tables_1, d.before a0 Z = true) (hby : c.code = prog_14_method_16_code) (hml : c.maxLocals = 3) (hown : s.vm.findClass "com/example/harburg/harburg/epc/EpcScheme$Field" = some m.cls) (e0 : T0.heap = h0) (E_o0 : Exa Z h0 o0 "java/lang/String") (hln : ∀ d ∈ StrChars.Road.wordsLen, d.before a0 Z = true) (hch : ∀ d ∈ StrChars.Road.wordsChN, d.before a0 Z = true) (cs : List Int32) (hl : cs.length ≤ 5) (hp : ∀ c ∈ cs, ¬ c < 0 ∧ ¬ (255 : Int32) < c) (t : Addr) (kb : ClassId) (G1 : Int32) (G3 : Value) (V_o0 : Fld Z h0 o0 "java/lang/String" "value" "[B" (.ref t)) (C_o0 : Fld Z h0 o0 "java/lang/String" "coder" "B" (.int (0 : Int32))) (K_o0 : Arv Z h0 t kb .byte (Int32.ofNat cs.length) ((cs.map (fun c => c.toInt8.toInt32)).map Value.int) (.int 0)) (S1 : Sta Z h0 "java/lang/String" "COMPACT_STRINGS" "Z" (.int G1)) (P5 : ¬ (G1 = (0 : Int32))) (S3 : Sta Z h0 "jdk/internal/util/Preconditions" "SIOOBE_FORMATTER" "Ljava/util/function/BiFunction;" G3) (rG3 : G3.isRef = true) (hfr : 4 ≤ R.frames) (hlo : 54 ≤ R.locals) (hce : cells + 0 ≤ R.cells) (hsl : slots + 0 ≤ R.slots) (hi : i < cs.length) (hc : ¬ cs.getD i 0 = 37) :
    ∃ (T' : State), Stand p l e R s m args below meth c T' locs cells slots ∧ T'.heap = h0 ∧
      ∀ target, Steps p.tables e below (T'.setTop (mkF m 4 #[.val (.ref o0), .val (.int i1), .val (.int ((Int32.ofNat i) + (1 : Int32)))] [])) target → Steps p.tables e below (T0.setTop (mkF m 4 #[.val (.ref o0), .val (.int i1), .val (.int (Int32.ofNat i))] [])) target := by
  have hcd : StrChars.Road.CodA cs 0 (Int32.ofNat cs.length) ((cs.map (fun c => c.toInt8.toInt32)).map Value.int) := StrChars.Road.codOf rfl (fun c hc => (hp c hc).2)
  have hbd := own_up cs hp
  obtain ⟨cq2, kq2, q2a, q2b, q2c⟩ := isOf hZ e0 E_o0
  obtain ⟨_, _, ⟨T2, L2, k2, n2⟩, -, X2, ⟨Lc2, hQ2, l2, y2, z2⟩, st2⟩ := X0.virtualBack hx (y := (⟨"java/lang/String", "length", "()I"⟩ : MethodName)) (z := (⟨"java/lang/String", "length", "()I"⟩ : MethodName)) hown (mvT hZ (hw _ (List.mem_of_getElem? (i := 37) rfl))) (mvT hZ (hw _ (List.mem_of_getElem? (i := 38) rfl))) (notFace_of_selects (args := #[]) (mvT hZ (hw _ (List.mem_of_getElem? (i := 40) rfl)))) (mvT hZ (hw _ (List.mem_of_getElem? (i := 40) rfl))) (mvT hZ (hw _ (List.mem_of_getElem? (i := 39) rfl))) (by decide) (StrChars.Road.lenW (W := 1) hZ hln (kI := 4) (hw _ (List.mem_of_getElem? (i := 9) rfl)) E_o0 V_o0 C_o0 K_o0 hcd hbd S1 P5 (by omega) (by omega) (by omega)) q2a q2c (g := (mkF m 6 #[.val (.ref o0), .val (.int i1), .val (.int (Int32.ofNat i))] [(.ref o0), (.int (Int32.ofNat i))])) rfl (by rw [hml]; rfl) (Steps.refl _) (argsL := []) (rest := [(.int (Int32.ofNat i))]) (lenOf pd_7_7 rfl) rfl (by show 2 * 0 + _ ≤ _; exact Nat.le_of_eq rfl) (hb hby d7_6) (fun _ _ => ⟨rfl, e0, hce, hsl⟩)
  dsimp only [Pt.U, Pt.locs, Pt.cells, Pt.slots] at X2 l2 y2 z2 st2 hQ2
  subst l2 y2 z2
  obtain ⟨rfl, rfl, w2⟩ := hQ2
  have X2 := (List.append_nil locs) ▸ X2
  obtain ⟨cq3, kq3, q3a, q3b, q3c⟩ := isOf hZ w2 E_o0
  obtain ⟨_, _, ⟨T3, L3, k3, n3⟩, -, X3, ⟨Lc3, hQ3, l3, y3, z3⟩, st3⟩ := X2.virtualBack hx (y := (⟨"java/lang/String", "charAt", "(I)C"⟩ : MethodName)) (z := (⟨"java/lang/String", "charAt", "(I)C"⟩ : MethodName)) hown (mvT hZ (hw _ (List.mem_of_getElem? (i := 59) rfl))) (mvT hZ (hw _ (List.mem_of_getElem? (i := 60) rfl))) (notFace_of_selects (args := #[]) (mvT hZ (hw _ (List.mem_of_getElem? (i := 62) rfl)))) (mvT hZ (hw _ (List.mem_of_getElem? (i := 62) rfl))) (mvT hZ (hw _ (List.mem_of_getElem? (i := 61) rfl))) (by decide) (StrChars.Road.chN (W := 0) hZ hch (kI := 4) (hw _ (List.mem_of_getElem? (i := 9) rfl)) E_o0 V_o0 C_o0 K_o0 hcd hbd S1 P5 S3 rG3 (by omega) (i := i) hi (j := Int32.ofNat i) rfl (by omega) (by omega)) q3a q3c (g := (mkF m 14 #[.val (.ref o0), .val (.int i1), .val (.int (Int32.ofNat i))] [(.int (Int32.ofNat i)), (.ref o0)])) rfl (by rw [hml]; rfl) (Steps.refl _) (argsL := [(.int (Int32.ofNat i))]) (rest := []) (lenOf pd_7_0 rfl) rfl (by show 2 * 0 + _ ≤ _; exact Nat.le_of_eq rfl) (hb hby d7_14) (fun _ _ => ⟨rfl, w2, hce, hsl⟩)
  dsimp only [Pt.U, Pt.locs, Pt.cells, Pt.slots] at X3 l3 y3 z3 st3 hQ3
  subst l3 y3 z3
  obtain ⟨rfl, rfl, w3⟩ := hQ3
  have X3 := (List.append_nil locs) ▸ X3
  refine ⟨T3, X3, w3, fun target kt => ?_⟩
  show Steps p.tables e below (T0.setTop (mkF m 4 #[.val (.ref o0), .val (.int i1), .val (.int (Int32.ofNat i))] [])) _
  refine XS.iloadN X0.here hx rfl (hb hby d7_4) rfl ?_
  show Steps p.tables e below (T0.setTop (mkF m 5 #[.val (.ref o0), .val (.int i1), .val (.int (Int32.ofNat i))] [(.int (Int32.ofNat i))])) _
  refine XS.aloadN X0.here hx rfl (hb hby d7_5) rfl rfl ?_
  show Steps p.tables e below (T0.setTop (mkF m 6 #[.val (.ref o0), .val (.int i1), .val (.int (Int32.ofNat i))] [(.ref o0), (.int (Int32.ofNat i))])) _
  refine st2.trans ?_
  show Steps p.tables e below (T2.setTop (mkF m 9 #[.val (.ref o0), .val (.int i1), .val (.int (Int32.ofNat i))] [(.int (Int32.ofNat cs.length)), (.int (Int32.ofNat i))])) _
  refine XS.icmpNo X2.here hx rfl (hb hby d7_9) rfl (tlt (own_lt hi (by omega) : (Int32.ofNat i) < (Int32.ofNat cs.length))).2.1 ?_
  show Steps p.tables e below (T2.setTop (mkF m 12 #[.val (.ref o0), .val (.int i1), .val (.int (Int32.ofNat i))] [])) _
  refine XS.aloadN X2.here hx rfl (hb hby d7_12) rfl rfl ?_
  show Steps p.tables e below (T2.setTop (mkF m 13 #[.val (.ref o0), .val (.int i1), .val (.int (Int32.ofNat i))] [(.ref o0)])) _
  refine XS.iloadN X2.here hx rfl (hb hby d7_13) rfl ?_
  show Steps p.tables e below (T2.setTop (mkF m 14 #[.val (.ref o0), .val (.int i1), .val (.int (Int32.ofNat i))] [(.int (Int32.ofNat i)), (.ref o0)])) _
  refine st3.trans ?_
  show Steps p.tables e below (T3.setTop (mkF m 17 #[.val (.ref o0), .val (.int i1), .val (.int (Int32.ofNat i))] [(.int (cs.getD i 0))])) _
  refine XS.bipush X3.here hx rfl (hb hby d7_17) ?_
  show Steps p.tables e below (T3.setTop (mkF m 19 #[.val (.ref o0), .val (.int i1), .val (.int (Int32.ofNat i))] [(.int (37 : Int32)), (.int (cs.getD i 0))])) _
  refine XS.icmpYes X3.here hx rfl (pc0 := 19) (pc' := 25) rfl (hb hby d7_19) rfl (feq (hc : ¬ ((cs.getD i 0) = (37 : Int32)))).2 (by decide) (by decide) ?_
  show Steps p.tables e below (T3.setTop (mkF m 25 #[.val (.ref o0), .val (.int i1), .val (.int (Int32.ofNat i))] [])) _
  refine XS.iinc X3.here hx rfl (hb hby d7_25) rfl (l' := #[.val (.ref o0), .val (.int i1), .val (.int ((Int32.ofNat i) + (1 : Int32)))]) rfl ?_
  show Steps p.tables e below (T3.setTop (mkF m 28 #[.val (.ref o0), .val (.int i1), .val (.int ((Int32.ofNat i) + (1 : Int32)))] [])) _
  refine XS.goto X3.here hx rfl (pc0 := 28) (pc' := 4) rfl (hb hby d7_28) (by decide) (by decide) ?_
  exact kt
theorem d7_22 : decode prog_14_method_16_code 22 = .ok (.iinc 1 1, 3) := by decide +kernel
set_option maxRecDepth 65536 in
set_option maxHeartbeats 40000000 in
theorem own_tY {p : Program} {l : Launch} {e : Env} {R : Room} {s : State} {m : MethodId} {args : Array Value} {below : List Frame} {meth : Method} {c : Code} {T0 : State} {locs : List Loc} {cells slots : Nat} {Z : State} {a0 : Array Value} {h0 : Heap} (o0 : Addr) (i1 : Int32) (i : Nat)
    (X0 : Stand p l e R s m args below meth c T0 locs cells slots) (hx : p.tables.exec = Jvm.exec) (hZ : Z.Warmed39 s.vm) (hw : ∀ d ∈ tables_1, d.before a0 Z = true) (hby : c.code = prog_14_method_16_code) (hml : c.maxLocals = 3) (hown : s.vm.findClass "com/example/harburg/harburg/epc/EpcScheme$Field" = some m.cls) (e0 : T0.heap = h0) (E_o0 : Exa Z h0 o0 "java/lang/String") (hln : ∀ d ∈ StrChars.Road.wordsLen, d.before a0 Z = true) (hch : ∀ d ∈ StrChars.Road.wordsChN, d.before a0 Z = true) (cs : List Int32) (hl : cs.length ≤ 5) (hp : ∀ c ∈ cs, ¬ c < 0 ∧ ¬ (255 : Int32) < c) (t : Addr) (kb : ClassId) (G1 : Int32) (G3 : Value) (V_o0 : Fld Z h0 o0 "java/lang/String" "value" "[B" (.ref t)) (C_o0 : Fld Z h0 o0 "java/lang/String" "coder" "B" (.int (0 : Int32))) (K_o0 : Arv Z h0 t kb .byte (Int32.ofNat cs.length) ((cs.map (fun c => c.toInt8.toInt32)).map Value.int) (.int 0)) (S1 : Sta Z h0 "java/lang/String" "COMPACT_STRINGS" "Z" (.int G1)) (P5 : ¬ (G1 = (0 : Int32))) (S3 : Sta Z h0 "jdk/internal/util/Preconditions" "SIOOBE_FORMATTER" "Ljava/util/function/BiFunction;" G3) (rG3 : G3.isRef = true) (hfr : 4 ≤ R.frames) (hlo : 54 ≤ R.locals) (hce : cells + 0 ≤ R.cells) (hsl : slots + 0 ≤ R.slots) (hi : i < cs.length) (hc : cs.getD i 0 = 37) :
    ∃ (T' : State), Stand p l e R s m args below meth c T' locs cells slots ∧ T'.heap = h0 ∧
      ∀ target, Steps p.tables e below (T'.setTop (mkF m 4 #[.val (.ref o0), .val (.int (i1 + (1 : Int32))), .val (.int ((Int32.ofNat i) + (1 : Int32)))] [])) target → Steps p.tables e below (T0.setTop (mkF m 4 #[.val (.ref o0), .val (.int i1), .val (.int (Int32.ofNat i))] [])) target := by
  have hcd : StrChars.Road.CodA cs 0 (Int32.ofNat cs.length) ((cs.map (fun c => c.toInt8.toInt32)).map Value.int) := StrChars.Road.codOf rfl (fun c hc => (hp c hc).2)
  have hbd := own_up cs hp
  obtain ⟨cq2, kq2, q2a, q2b, q2c⟩ := isOf hZ e0 E_o0
  obtain ⟨_, _, ⟨T2, L2, k2, n2⟩, -, X2, ⟨Lc2, hQ2, l2, y2, z2⟩, st2⟩ := X0.virtualBack hx (y := (⟨"java/lang/String", "length", "()I"⟩ : MethodName)) (z := (⟨"java/lang/String", "length", "()I"⟩ : MethodName)) hown (mvT hZ (hw _ (List.mem_of_getElem? (i := 37) rfl))) (mvT hZ (hw _ (List.mem_of_getElem? (i := 38) rfl))) (notFace_of_selects (args := #[]) (mvT hZ (hw _ (List.mem_of_getElem? (i := 40) rfl)))) (mvT hZ (hw _ (List.mem_of_getElem? (i := 40) rfl))) (mvT hZ (hw _ (List.mem_of_getElem? (i := 39) rfl))) (by decide) (StrChars.Road.lenW (W := 1) hZ hln (kI := 4) (hw _ (List.mem_of_getElem? (i := 9) rfl)) E_o0 V_o0 C_o0 K_o0 hcd hbd S1 P5 (by omega) (by omega) (by omega)) q2a q2c (g := (mkF m 6 #[.val (.ref o0), .val (.int i1), .val (.int (Int32.ofNat i))] [(.ref o0), (.int (Int32.ofNat i))])) rfl (by rw [hml]; rfl) (Steps.refl _) (argsL := []) (rest := [(.int (Int32.ofNat i))]) (lenOf pd_7_7 rfl) rfl (by show 2 * 0 + _ ≤ _; exact Nat.le_of_eq rfl) (hb hby d7_6) (fun _ _ => ⟨rfl, e0, hce, hsl⟩)
  dsimp only [Pt.U, Pt.locs, Pt.cells, Pt.slots] at X2 l2 y2 z2 st2 hQ2
  subst l2 y2 z2
  obtain ⟨rfl, rfl, w2⟩ := hQ2
  have X2 := (List.append_nil locs) ▸ X2
  obtain ⟨cq3, kq3, q3a, q3b, q3c⟩ := isOf hZ w2 E_o0
  obtain ⟨_, _, ⟨T3, L3, k3, n3⟩, -, X3, ⟨Lc3, hQ3, l3, y3, z3⟩, st3⟩ := X2.virtualBack hx (y := (⟨"java/lang/String", "charAt", "(I)C"⟩ : MethodName)) (z := (⟨"java/lang/String", "charAt", "(I)C"⟩ : MethodName)) hown (mvT hZ (hw _ (List.mem_of_getElem? (i := 59) rfl))) (mvT hZ (hw _ (List.mem_of_getElem? (i := 60) rfl))) (notFace_of_selects (args := #[]) (mvT hZ (hw _ (List.mem_of_getElem? (i := 62) rfl)))) (mvT hZ (hw _ (List.mem_of_getElem? (i := 62) rfl))) (mvT hZ (hw _ (List.mem_of_getElem? (i := 61) rfl))) (by decide) (StrChars.Road.chN (W := 0) hZ hch (kI := 4) (hw _ (List.mem_of_getElem? (i := 9) rfl)) E_o0 V_o0 C_o0 K_o0 hcd hbd S1 P5 S3 rG3 (by omega) (i := i) hi (j := Int32.ofNat i) rfl (by omega) (by omega)) q3a q3c (g := (mkF m 14 #[.val (.ref o0), .val (.int i1), .val (.int (Int32.ofNat i))] [(.int (Int32.ofNat i)), (.ref o0)])) rfl (by rw [hml]; rfl) (Steps.refl _) (argsL := [(.int (Int32.ofNat i))]) (rest := []) (lenOf pd_7_0 rfl) rfl (by show 2 * 0 + _ ≤ _; exact Nat.le_of_eq rfl) (hb hby d7_14) (fun _ _ => ⟨rfl, w2, hce, hsl⟩)
  dsimp only [Pt.U, Pt.locs, Pt.cells, Pt.slots] at X3 l3 y3 z3 st3 hQ3
  subst l3 y3 z3
  obtain ⟨rfl, rfl, w3⟩ := hQ3
  have X3 := (List.append_nil locs) ▸ X3
  refine ⟨T3, X3, w3, fun target kt => ?_⟩
  show Steps p.tables e below (T0.setTop (mkF m 4 #[.val (.ref o0), .val (.int i1), .val (.int (Int32.ofNat i))] [])) _
  refine XS.iloadN X0.here hx rfl (hb hby d7_4) rfl ?_
  show Steps p.tables e below (T0.setTop (mkF m 5 #[.val (.ref o0), .val (.int i1), .val (.int (Int32.ofNat i))] [(.int (Int32.ofNat i))])) _
  refine XS.aloadN X0.here hx rfl (hb hby d7_5) rfl rfl ?_
  show Steps p.tables e below (T0.setTop (mkF m 6 #[.val (.ref o0), .val (.int i1), .val (.int (Int32.ofNat i))] [(.ref o0), (.int (Int32.ofNat i))])) _
  refine st2.trans ?_
  show Steps p.tables e below (T2.setTop (mkF m 9 #[.val (.ref o0), .val (.int i1), .val (.int (Int32.ofNat i))] [(.int (Int32.ofNat cs.length)), (.int (Int32.ofNat i))])) _
  refine XS.icmpNo X2.here hx rfl (hb hby d7_9) rfl (tlt (own_lt hi (by omega) : (Int32.ofNat i) < (Int32.ofNat cs.length))).2.1 ?_
  show Steps p.tables e below (T2.setTop (mkF m 12 #[.val (.ref o0), .val (.int i1), .val (.int (Int32.ofNat i))] [])) _
  refine XS.aloadN X2.here hx rfl (hb hby d7_12) rfl rfl ?_
  show Steps p.tables e below (T2.setTop (mkF m 13 #[.val (.ref o0), .val (.int i1), .val (.int (Int32.ofNat i))] [(.ref o0)])) _
  refine XS.iloadN X2.here hx rfl (hb hby d7_13) rfl ?_
  show Steps p.tables e below (T2.setTop (mkF m 14 #[.val (.ref o0), .val (.int i1), .val (.int (Int32.ofNat i))] [(.int (Int32.ofNat i)), (.ref o0)])) _
  refine st3.trans ?_
  show Steps p.tables e below (T3.setTop (mkF m 17 #[.val (.ref o0), .val (.int i1), .val (.int (Int32.ofNat i))] [(.int (cs.getD i 0))])) _
  refine XS.bipush X3.here hx rfl (hb hby d7_17) ?_
  show Steps p.tables e below (T3.setTop (mkF m 19 #[.val (.ref o0), .val (.int i1), .val (.int (Int32.ofNat i))] [(.int (37 : Int32)), (.int (cs.getD i 0))])) _
  refine XS.icmpNo X3.here hx rfl (hb hby d7_19) rfl (teq (hc : (cs.getD i 0) = (37 : Int32))).2 ?_
  show Steps p.tables e below (T3.setTop (mkF m 22 #[.val (.ref o0), .val (.int i1), .val (.int (Int32.ofNat i))] [])) _
  refine XS.iinc X3.here hx rfl (hb hby d7_22) rfl (l' := #[.val (.ref o0), .val (.int (i1 + (1 : Int32))), .val (.int (Int32.ofNat i))]) rfl ?_
  show Steps p.tables e below (T3.setTop (mkF m 25 #[.val (.ref o0), .val (.int (i1 + (1 : Int32))), .val (.int (Int32.ofNat i))] [])) _
  refine XS.iinc X3.here hx rfl (hb hby d7_25) rfl (l' := #[.val (.ref o0), .val (.int (i1 + (1 : Int32))), .val (.int ((Int32.ofNat i) + (1 : Int32)))]) rfl ?_
  show Steps p.tables e below (T3.setTop (mkF m 28 #[.val (.ref o0), .val (.int (i1 + (1 : Int32))), .val (.int ((Int32.ofNat i) + (1 : Int32)))] [])) _
  refine XS.goto X3.here hx rfl (pc0 := 28) (pc' := 4) rfl (hb hby d7_28) (by decide) (by decide) ?_
  exact kt
set_option maxRecDepth 65536 in
set_option maxHeartbeats 40000000 in
theorem own_tE {p : Program} {l : Launch} {e : Env} {R : Room} {s : State} {m : MethodId} {args : Array Value} {below : List Frame} {meth : Method} {c : Code} {T0 : State} {locs : List Loc} {cells slots : Nat} {Z : State} {a0 : Array Value} {h0 : Heap} (o0 : Addr) (i1 : Int32) (i : Nat)
    (X0 : Stand p l e R s m args below meth c T0 locs cells slots) (hx : p.tables.exec = Jvm.exec) (hZ : Z.Warmed39 s.vm) (hw : ∀ d ∈ tables_1, d.before a0 Z = true) (hby : c.code = prog_14_method_16_code) (hml : c.maxLocals = 3) (hown : s.vm.findClass "com/example/harburg/harburg/epc/EpcScheme$Field" = some m.cls) (e0 : T0.heap = h0) (E_o0 : Exa Z h0 o0 "java/lang/String") (hln : ∀ d ∈ StrChars.Road.wordsLen, d.before a0 Z = true) (hch : ∀ d ∈ StrChars.Road.wordsChN, d.before a0 Z = true) (cs : List Int32) (hl : cs.length ≤ 5) (hp : ∀ c ∈ cs, ¬ c < 0 ∧ ¬ (255 : Int32) < c) (t : Addr) (kb : ClassId) (G1 : Int32) (G3 : Value) (V_o0 : Fld Z h0 o0 "java/lang/String" "value" "[B" (.ref t)) (C_o0 : Fld Z h0 o0 "java/lang/String" "coder" "B" (.int (0 : Int32))) (K_o0 : Arv Z h0 t kb .byte (Int32.ofNat cs.length) ((cs.map (fun c => c.toInt8.toInt32)).map Value.int) (.int 0)) (S1 : Sta Z h0 "java/lang/String" "COMPACT_STRINGS" "Z" (.int G1)) (P5 : ¬ (G1 = (0 : Int32))) (S3 : Sta Z h0 "jdk/internal/util/Preconditions" "SIOOBE_FORMATTER" "Ljava/util/function/BiFunction;" G3) (rG3 : G3.isRef = true) (hfr : 4 ≤ R.frames) (hlo : 54 ≤ R.locals) (hce : cells + 0 ≤ R.cells) (hsl : slots + 0 ≤ R.slots) (hi : i = cs.length) :
    ∃ (T' : State), Stand p l e R s m args below meth c T' locs cells slots ∧ T'.heap = h0 ∧
      ∀ target, Steps p.tables e below (T'.setTop (mkF m 31 #[.val (.ref o0), .val (.int i1), .val (.int (Int32.ofNat i))] [])) target → Steps p.tables e below (T0.setTop (mkF m 4 #[.val (.ref o0), .val (.int i1), .val (.int (Int32.ofNat i))] [])) target := by
  have hcd : StrChars.Road.CodA cs 0 (Int32.ofNat cs.length) ((cs.map (fun c => c.toInt8.toInt32)).map Value.int) := StrChars.Road.codOf rfl (fun c hc => (hp c hc).2)
  have hbd := own_up cs hp
  obtain ⟨cq2, kq2, q2a, q2b, q2c⟩ := isOf hZ e0 E_o0
  obtain ⟨_, _, ⟨T2, L2, k2, n2⟩, -, X2, ⟨Lc2, hQ2, l2, y2, z2⟩, st2⟩ := X0.virtualBack hx (y := (⟨"java/lang/String", "length", "()I"⟩ : MethodName)) (z := (⟨"java/lang/String", "length", "()I"⟩ : MethodName)) hown (mvT hZ (hw _ (List.mem_of_getElem? (i := 37) rfl))) (mvT hZ (hw _ (List.mem_of_getElem? (i := 38) rfl))) (notFace_of_selects (args := #[]) (mvT hZ (hw _ (List.mem_of_getElem? (i := 40) rfl)))) (mvT hZ (hw _ (List.mem_of_getElem? (i := 40) rfl))) (mvT hZ (hw _ (List.mem_of_getElem? (i := 39) rfl))) (by decide) (StrChars.Road.lenW (W := 1) hZ hln (kI := 4) (hw _ (List.mem_of_getElem? (i := 9) rfl)) E_o0 V_o0 C_o0 K_o0 hcd hbd S1 P5 (by omega) (by omega) (by omega)) q2a q2c (g := (mkF m 6 #[.val (.ref o0), .val (.int i1), .val (.int (Int32.ofNat i))] [(.ref o0), (.int (Int32.ofNat i))])) rfl (by rw [hml]; rfl) (Steps.refl _) (argsL := []) (rest := [(.int (Int32.ofNat i))]) (lenOf pd_7_7 rfl) rfl (by show 2 * 0 + _ ≤ _; exact Nat.le_of_eq rfl) (hb hby d7_6) (fun _ _ => ⟨rfl, e0, hce, hsl⟩)
  dsimp only [Pt.U, Pt.locs, Pt.cells, Pt.slots] at X2 l2 y2 z2 st2 hQ2
  subst l2 y2 z2
  obtain ⟨rfl, rfl, w2⟩ := hQ2
  have X2 := (List.append_nil locs) ▸ X2
  refine ⟨T2, X2, w2, fun target kt => ?_⟩
  show Steps p.tables e below (T0.setTop (mkF m 4 #[.val (.ref o0), .val (.int i1), .val (.int (Int32.ofNat i))] [])) _
  refine XS.iloadN X0.here hx rfl (hb hby d7_4) rfl ?_
  show Steps p.tables e below (T0.setTop (mkF m 5 #[.val (.ref o0), .val (.int i1), .val (.int (Int32.ofNat i))] [(.int (Int32.ofNat i))])) _
  refine XS.aloadN X0.here hx rfl (hb hby d7_5) rfl rfl ?_
  show Steps p.tables e below (T0.setTop (mkF m 6 #[.val (.ref o0), .val (.int i1), .val (.int (Int32.ofNat i))] [(.ref o0), (.int (Int32.ofNat i))])) _
  refine st2.trans ?_
  show Steps p.tables e below (T2.setTop (mkF m 9 #[.val (.ref o0), .val (.int i1), .val (.int (Int32.ofNat i))] [(.int (Int32.ofNat cs.length)), (.int (Int32.ofNat i))])) _
  refine XS.icmpYes X2.here hx rfl (pc0 := 9) (pc' := 31) rfl (hb hby d7_9) rfl (flt (hi ▸ own_nlt (by omega) : ¬ ((Int32.ofNat i) < (Int32.ofNat cs.length)))).2.1 (by decide) (by decide) ?_
  exact kt
theorem own_loop {p : Program} {l : Launch} {e : Env} {R : Room} {s : State} {m : MethodId} {args : Array Value} {below : List Frame} {meth : Method} {c : Code} {locs : List Loc} {cells slots : Nat} {Z : State} {a0 : Array Value} {h0 : Heap} (o0 : Addr) (hx : p.tables.exec = Jvm.exec) (hZ : Z.Warmed39 s.vm) (hw : ∀ d ∈ tables_1, d.before a0 Z = true) (hby : c.code = prog_14_method_16_code) (hml : c.maxLocals = 3) (hown : s.vm.findClass "com/example/harburg/harburg/epc/EpcScheme$Field" = some m.cls) (E_o0 : Exa Z h0 o0 "java/lang/String")  (hln : ∀ d ∈ StrChars.Road.wordsLen, d.before a0 Z = true) (hch : ∀ d ∈ StrChars.Road.wordsChN, d.before a0 Z = true) (cs : List Int32) (hl : cs.length ≤ 5) (hp : ∀ c ∈ cs, ¬ c < 0 ∧ ¬ (255 : Int32) < c) (t : Addr) (kb : ClassId) (G1 : Int32) (G3 : Value) (V_o0 : Fld Z h0 o0 "java/lang/String" "value" "[B" (.ref t)) (C_o0 : Fld Z h0 o0 "java/lang/String" "coder" "B" (.int (0 : Int32))) (K_o0 : Arv Z h0 t kb .byte (Int32.ofNat cs.length) ((cs.map (fun c => c.toInt8.toInt32)).map Value.int) (.int 0)) (S1 : Sta Z h0 "java/lang/String" "COMPACT_STRINGS" "Z" (.int G1)) (P5 : ¬ (G1 = (0 : Int32))) (S3 : Sta Z h0 "jdk/internal/util/Preconditions" "SIOOBE_FORMATTER" "Ljava/util/function/BiFunction;" G3) (rG3 : G3.isRef = true) (hfr : 4 ≤ R.frames) (hlo : 54 ≤ R.locals) (hce : cells + 0 ≤ R.cells) (hsl : slots + 0 ≤ R.slots) (k : Nat) : ∀ (i : Nat) (i1 : Int32) (T0 : State), i + k = cs.length → Stand p l e R s m args below meth c T0 locs cells slots → T0.heap = h0 →
    ∃ (T' : State), Stand p l e R s m args below meth c T' locs cells slots ∧ T'.heap = h0 ∧
      ∀ target, Steps p.tables e below (T'.setTop (mkF m 31 #[.val (.ref o0), .val (.int (i1 + own_cnt (cs.drop i))), .val (.int (Int32.ofNat cs.length))] [])) target → Steps p.tables e below (T0.setTop (mkF m 4 #[.val (.ref o0), .val (.int i1), .val (.int (Int32.ofNat i))] [])) target := by
  induction k with
  | zero =>
    intro i i1 T0 hi X0 e0
    have hi' : i = cs.length := by omega
    obtain ⟨T', X', e', st⟩ := own_tE o0 i1 i X0 hx hZ hw hby hml hown e0 E_o0 hln hch cs hl hp t kb G1 G3 V_o0 C_o0 K_o0 S1 P5 S3 rG3 hfr hlo hce hsl hi'
    refine ⟨T', X', e', fun target kt => st target ?_⟩
    rw [hi', List.drop_length] at *
    have z : i1 + own_cnt [] = i1 := Int32.add_zero i1
    rw [z] at kt
    exact kt
  | succ k ih =>
    intro i i1 T0 hi X0 e0
    have hi' : i < cs.length := by omega
    have hd : cs.drop i = cs.getD i 0 :: cs.drop (i + 1) := by
      rw [List.drop_eq_getElem_cons hi']; simp [List.getD_eq_getElem?_getD, hi']
    have hs : Int32.ofNat i + 1 = Int32.ofNat (i + 1) := own_succ (by omega)
    by_cases hc : cs.getD i 0 = 37
    · obtain ⟨T1, X1, e1, st1⟩ := own_tY o0 i1 i X0 hx hZ hw hby hml hown e0 E_o0 hln hch cs hl hp t kb G1 G3 V_o0 C_o0 K_o0 S1 P5 S3 rG3 hfr hlo hce hsl hi' hc
      obtain ⟨T', X', e', st⟩ := ih (i + 1) (i1 + 1) T1 (by omega) X1 e1
      refine ⟨T', X', e', fun target kt => st1 target ?_⟩
      rw [hs]
      refine st target ?_
      have z : i1 + own_cnt (cs.drop i) = i1 + 1 + own_cnt (cs.drop (i + 1)) := by
        rw [hd, own_cnt_c, if_pos hc, Int32.add_assoc]
      rw [← z]; exact kt
    · obtain ⟨T1, X1, e1, st1⟩ := own_tN o0 i1 i X0 hx hZ hw hby hml hown e0 E_o0 hln hch cs hl hp t kb G1 G3 V_o0 C_o0 K_o0 S1 P5 S3 rG3 hfr hlo hce hsl hi' hc
      obtain ⟨T', X', e', st⟩ := ih (i + 1) i1 T1 (by omega) X1 e1
      refine ⟨T', X', e', fun target kt => st1 target ?_⟩
      rw [hs]
      refine st target ?_
      have z : i1 + own_cnt (cs.drop i) = i1 + own_cnt (cs.drop (i + 1)) := by
        rw [hd, own_cnt_c, if_neg hc, Int32.zero_add]
      rw [← z]; exact kt
theorem d7_0 : decode prog_14_method_16_code 0 = .ok (.iconst 0, 1) := by decide +kernel
theorem d7_1 : decode prog_14_method_16_code 1 = .ok (.istore_n 1, 1) := by decide +kernel
theorem d7_2 : decode prog_14_method_16_code 2 = .ok (.iconst 0, 1) := by decide +kernel
theorem d7_3 : decode prog_14_method_16_code 3 = .ok (.istore_n 2, 1) := by decide +kernel
theorem d7_31 : decode prog_14_method_16_code 31 = .ok (.aload_n 0, 1) := by decide +kernel
theorem d7_32 : decode prog_14_method_16_code 32 = .ok (.invokevirtual 89, 3) := by decide +kernel
theorem d7_35 : decode prog_14_method_16_code 35 = .ok (.iconst 2, 1) := by decide +kernel
theorem d7_36 : decode prog_14_method_16_code 36 = .ok (.iload_n 1, 1) := by decide +kernel
theorem d7_37 : decode prog_14_method_16_code 37 = .ok (.imul, 1) := by decide +kernel
theorem d7_38 : decode prog_14_method_16_code 38 = .ok (.isub, 1) := by decide +kernel
theorem d7_39 : decode prog_14_method_16_code 39 = .ok (.ireturn, 1) := by decide +kernel
theorem pn_7 : plainName "com/example/harburg/harburg/epc/EpcScheme$Field" = true := by first | (simp [plainName, overriddenIn]; done) | decide +kernel
theorem ef_7 (m : MethodId) (x0 : Addr) : entryFrame m #[(.ref x0)] 3 = mkF m 0 #[.val (.ref x0), .unset, .unset] [] := by first | (simp [entryFrame, mkF, argsToLocals, Value.category]; done) | rfl
def Q7 (Z : State) (o0 : Addr) (cs : List Int32) (h0 : Heap) (n0 : Nat) (v : Option Value) (h : Heap) (L : List Loc) : Prop := v = some (.int (Int32.ofNat cs.length - ((2 : Int32) * own_cnt cs))) ∧ Fr n0 L ∧ h = h0
set_option maxRecDepth 65536 in
set_option maxHeartbeats 40000000 in
theorem rm7 (l : Launch) (Z : State) (a0 : Array Value) (hw : ∀ d ∈ tables_1, d.before a0 Z = true) (ws : List Jvm.Cond) (o0 : Addr) (h0 : Heap) (n0 : Nat) (Z0 : n0 ≤ h0.size) (E_o0 : Exa Z h0 o0 "java/lang/String") (hln : ∀ d ∈ StrChars.Road.wordsLen, d.before a0 Z = true) (hch : ∀ d ∈ StrChars.Road.wordsChN, d.before a0 Z = true) (cs : List Int32) (hl : cs.length ≤ 5) (hp : ∀ c ∈ cs, ¬ c < 0 ∧ ¬ (255 : Int32) < c) (t : Addr) (kb : ClassId) (G1 : Int32) (G3 : Value) (V_o0 : Fld Z h0 o0 "java/lang/String" "value" "[B" (.ref t)) (C_o0 : Fld Z h0 o0 "java/lang/String" "coder" "B" (.int (0 : Int32))) (K_o0 : Arv Z h0 t kb .byte (Int32.ofNat cs.length) ((cs.map (fun c => c.toInt8.toInt32)).map Value.int) (.int 0)) (S1 : Sta Z h0 "java/lang/String" "COMPACT_STRINGS" "Z" (.int G1)) (P5 : ¬ (G1 = (0 : Int32))) (S3 : Sta Z h0 "jdk/internal/util/Preconditions" "SIOOBE_FORMATTER" "Ljava/util/function/BiFunction;" G3) (rG3 : G3.isRef = true)  :
    MetFree l (⟨"com/example/harburg/harburg/epc/EpcScheme$Field", "characterCount", "(Ljava/lang/String;)I"⟩ : MethodName) (head1 (Jvm.Cond.code (⟨"com/example/harburg/harburg/epc/EpcScheme$Field", "characterCount", "(Ljava/lang/String;)I"⟩ : MethodName) prog_14_method_16_code 3 (some .int) :: ws) ({ frames := 4, cells := 0, slots := 0, locals := 54 } : Room)) (fun a U => a = #[(.ref o0)] ∧ Z.Warmed39 U.vm ∧ U.heap = h0) (fun _ _ _ _ _ => True) (fun _ U o U' => ∃ v L, o = .returned v ∧ Q7 Z o0 cs h0 n0 v U'.heap L ∧ FrameEnd U o U' L ({ frames := 4, cells := 0, slots := 0, locals := 54 } : Room).cells ({ frames := 4, cells := 0, slots := 0, locals := 54 } : Room).slots) := by
  refine MetFree.of_bodySF (plainFor_of_name pn_7) hisR ?_
  intro p e s m args below meth c s₁ Bd hml0 hP hK
  obtain ⟨rfl, hZ, hh⟩ := hP
  have hx := Bd.exec
  have hby := Bd.bytes
  have hml : c.maxLocals = 3 := hml0
  have hown : s.vm.findClass "com/example/harburg/harburg/epc/EpcScheme$Field" = some m.cls := findClass_of_methodNamed Bd.named
  have hnm := (name_of_methodNamed Bd.named Bd.method).1
  have X0 : Stand p l e ({ frames := 4, cells := 0, slots := 0, locals := 54 } : Room) s m #[(.ref o0)] below meth c s₁ [] 0 0 := Stand.of_body Bd
  have e0 : s₁.heap = h0 := by rw [← hh, Bd.state]; rfl
  have N0 := Fr.nil n0
  have pre0 : ∀ t, Steps p.tables e below (s₁.setTop (mkF m 0 #[.val (.ref o0), .unset, .unset] [])) t → Steps p.tables e below (s₁.setTop (entryFrame m #[(.ref o0)] 3)) t := fun t k => castTop (ef_7 m o0) k
  have hcd : StrChars.Road.CodA cs 0 (Int32.ofNat cs.length) ((cs.map (fun c => c.toInt8.toInt32)).map Value.int) := StrChars.Road.codOf rfl (fun c hc => (hp c hc).2)
  have hbd := own_up cs hp
  obtain ⟨T2, X2, w2, st2⟩ := own_loop o0 hx hZ hw hby hml hown E_o0 hln hch cs hl hp t kb G1 G3 V_o0 C_o0 K_o0 S1 P5 S3 rG3 (by decide) (by decide) (by decide) (by decide) cs.length 0 (0 : Int32) s₁ (by omega) X0 e0
  rw [List.drop_zero, show (0 : Int32) + own_cnt cs = own_cnt cs from Int32.zero_add _] at st2
  obtain ⟨cq3, kq3, q3a, q3b, q3c⟩ := isOf hZ w2 E_o0
  obtain ⟨_, _, ⟨T3, L3, k3, n3⟩, -, X3, ⟨Lc3, hQ3, l3, y3, z3⟩, st3⟩ := X2.virtualBack hx (y := (⟨"java/lang/String", "length", "()I"⟩ : MethodName)) (z := (⟨"java/lang/String", "length", "()I"⟩ : MethodName)) hown (mvT hZ (hw _ (List.mem_of_getElem? (i := 37) rfl))) (mvT hZ (hw _ (List.mem_of_getElem? (i := 38) rfl))) (notFace_of_selects (args := #[]) (mvT hZ (hw _ (List.mem_of_getElem? (i := 40) rfl)))) (mvT hZ (hw _ (List.mem_of_getElem? (i := 40) rfl))) (mvT hZ (hw _ (List.mem_of_getElem? (i := 39) rfl))) (by decide) (StrChars.Road.lenW (W := 0) hZ hln (kI := 4) (hw _ (List.mem_of_getElem? (i := 9) rfl)) E_o0 V_o0 C_o0 K_o0 hcd hbd S1 P5 (by omega) (by decide) (by decide)) q3a q3c (g := (mkF m 32 #[.val (.ref o0), .val (.int (own_cnt cs)), .val (.int (Int32.ofNat cs.length))] [(.ref o0)])) rfl (by rw [hml]; rfl) (Steps.refl _) (argsL := []) (rest := []) (lenOf pd_7_7 rfl) rfl (by show 2 * 0 + _ ≤ _; exact Nat.le_of_eq rfl) (hb hby d7_32) (fun _ _ => ⟨rfl, w2, (by decide : 0 + 0 ≤ _), (by decide : 0 + 0 ≤ _)⟩)
  dsimp only [Pt.U, Pt.locs, Pt.cells, Pt.slots] at X3 l3 y3 z3 st3 hQ3
  subst l3 y3 z3
  obtain ⟨rfl, rfl, w3⟩ := hQ3
  have N3 := Fr.app N0 (Fr.nil n0)
  obtain ⟨fs, hr, hrun, hended, hW, hsame⟩ := X3.leave (v := some (.int ((Int32.ofNat cs.length) - ((2 : Int32) * own_cnt cs)))) (fun h => by rw [Bd.returns] at h; cases h)
  refine ⟨_, _, pre0 _ ?_, hrun, hended, _, _, rfl, ?_, ⟨_, rfl⟩, hW, hsame.mono (by decide) (by decide)⟩
  · show Steps p.tables e below (s₁.setTop (mkF m 0 #[.val (.ref o0), .unset, .unset] [])) _
    refine XS.iconst X0.here hx rfl (hb hby d7_0) ?_
    show Steps p.tables e below (s₁.setTop (mkF m 1 #[.val (.ref o0), .unset, .unset] [(.int (0 : Int32))])) _
    refine XS.istoreN X0.here hx rfl (hb hby d7_1) rfl (l' := #[.val (.ref o0), .val (.int (0 : Int32)), .unset]) rfl ?_
    show Steps p.tables e below (s₁.setTop (mkF m 2 #[.val (.ref o0), .val (.int (0 : Int32)), .unset] [])) _
    refine XS.iconst X0.here hx rfl (hb hby d7_2) ?_
    show Steps p.tables e below (s₁.setTop (mkF m 3 #[.val (.ref o0), .val (.int (0 : Int32)), .unset] [(.int (0 : Int32))])) _
    refine XS.istoreN X0.here hx rfl (hb hby d7_3) rfl (l' := #[.val (.ref o0), .val (.int (0 : Int32)), .val (.int (0 : Int32))]) rfl ?_
    show Steps p.tables e below (s₁.setTop (mkF m 4 #[.val (.ref o0), .val (.int (0 : Int32)), .val (.int (0 : Int32))] [])) _
    refine st2 _ ?_
    show Steps p.tables e below (T2.setTop (mkF m 31 #[.val (.ref o0), .val (.int (own_cnt cs)), .val (.int (Int32.ofNat cs.length))] [])) _
    refine XS.aloadN X2.here hx rfl (hb hby d7_31) rfl rfl ?_
    show Steps p.tables e below (T2.setTop (mkF m 32 #[.val (.ref o0), .val (.int (own_cnt cs)), .val (.int (Int32.ofNat cs.length))] [(.ref o0)])) _
    refine st3.trans ?_
    show Steps p.tables e below (T3.setTop (mkF m 35 #[.val (.ref o0), .val (.int (own_cnt cs)), .val (.int (Int32.ofNat cs.length))] [(.int (Int32.ofNat cs.length))])) _
    refine XS.iconst X3.here hx rfl (hb hby d7_35) ?_
    show Steps p.tables e below (T3.setTop (mkF m 36 #[.val (.ref o0), .val (.int (own_cnt cs)), .val (.int (Int32.ofNat cs.length))] [(.int (2 : Int32)), (.int (Int32.ofNat cs.length))])) _
    refine XS.iloadN X3.here hx rfl (hb hby d7_36) rfl ?_
    show Steps p.tables e below (T3.setTop (mkF m 37 #[.val (.ref o0), .val (.int (own_cnt cs)), .val (.int (Int32.ofNat cs.length))] [(.int (own_cnt cs)), (.int (2 : Int32)), (.int (Int32.ofNat cs.length))])) _
    refine XS.imul X3.here hx rfl (hb hby d7_37) rfl ?_
    show Steps p.tables e below (T3.setTop (mkF m 38 #[.val (.ref o0), .val (.int (own_cnt cs)), .val (.int (Int32.ofNat cs.length))] [(.int ((2 : Int32) * own_cnt cs)), (.int (Int32.ofNat cs.length))])) _
    refine XS.isub X3.here hx rfl (hb hby d7_38) rfl ?_
    show Steps p.tables e below (T3.setTop (mkF m 39 #[.val (.ref o0), .val (.int (own_cnt cs)), .val (.int (Int32.ofNat cs.length))] [(.int ((Int32.ofNat cs.length) - ((2 : Int32) * own_cnt cs)))])) _
    exact retI X3 hx Bd.returns (hb hby d7_39) hr
  · show Q7 Z o0 cs h0 n0 _ T3.heap _
    exact ⟨rfl, N3, w3⟩
def own_STR (Z : State) (h : Heap) (b : Addr) (cs : List Int32) : Prop := Exa Z h b "java/lang/String" ∧ ∃ (t : Addr) (kb : ClassId), Fld Z h b "java/lang/String" "value" "[B" (.ref t) ∧ Fld Z h b "java/lang/String" "coder" "B" (.int (0 : Int32)) ∧ Arv Z h t kb .byte (Int32.ofNat cs.length) ((cs.map (fun c => c.toInt8.toInt32)).map Value.int) (.int 0)
theorem d2_0 : decode method_5_code 0 = .ok (.iload_n 0, 1) := by decide +kernel
theorem d2_1 : decode method_5_code 1 = .ok (.ifCond .ne 14, 3) := by decide +kernel
theorem d2_15 : decode method_5_code 15 = .ok (.iload_n 0, 1) := by decide +kernel
theorem d2_16 : decode method_5_code 16 = .ok (.iconst 1, 1) := by decide +kernel
theorem d2_17 : decode method_5_code 17 = .ok (.if_icmp .ne 18, 3) := by decide +kernel
theorem d2_20 : decode method_5_code 20 = .ok (.new 29, 3) := by decide +kernel
theorem d2_23 : decode method_5_code 23 = .ok (.dup, 1) := by decide +kernel
theorem d2_24 : decode method_5_code 24 = .ok (.iconst 1, 1) := by decide +kernel
theorem d2_25 : decode method_5_code 25 = .ok (.newarray .char, 2) := by decide +kernel
theorem d2_27 : decode method_5_code 27 = .ok (.dup, 1) := by decide +kernel
theorem d2_28 : decode method_5_code 28 = .ok (.iconst 0, 1) := by decide +kernel
theorem d2_29 : decode method_5_code 29 = .ok (.iload_n 1, 1) := by decide +kernel
theorem d2_30 : decode method_5_code 30 = .ok (.castore, 1) := by decide +kernel
theorem d2_31 : decode method_5_code 31 = .ok (.invokespecial 34, 3) := by decide +kernel
theorem d2_34 : decode method_5_code 34 = .ok (.areturn, 1) := by decide +kernel
theorem pn_2 : plainName "com/example/harburg/harburg/epc/FieldCharacterCountPinLaw" = true := by first | (simp [plainName, overriddenIn]; done) | decide +kernel
theorem pd_2_2 : parseMethodDescriptor "([C)V" = some ⟨[(.array .char)], none⟩ := by decide +kernel
theorem ef_2 (m : MethodId) (x0 : Int32) (x1 : Int32) (x2 : Int32) (x3 : Int32) (x4 : Int32) (x5 : Int32) : entryFrame m #[(.int x0), (.int x1), (.int x2), (.int x3), (.int x4), (.int x5)] 6 = mkF m 0 #[.val (.int x0), .val (.int x1), .val (.int x2), .val (.int x3), .val (.int x4), .val (.int x5)] [] := by first | (simp [entryFrame, mkF, argsToLocals, Value.category]; done) | rfl
def Q2_1 (Z : State) (p1 : Int32) (p2 : Int32) (p3 : Int32) (p4 : Int32) (p5 : Int32) (p6 : Int32) (h0 : Heap) (n0 : Nat) (v : Option Value) (h : Heap) (L : List Loc) : Prop := ∃ b : Addr, v = some (.ref b) ∧ Fr n0 L ∧ Keep h0 h [] ∧ own_STR Z h b ([p2] : List Int32)
set_option maxRecDepth 65536 in
set_option maxHeartbeats 40000000 in
theorem rm2_1 (l : Launch) (Z : State) (a0 : Array Value) (hw : ∀ d ∈ tables_1, d.before a0 Z = true) (ws : List Jvm.Cond) (p1 : Int32) (p2 : Int32) (p3 : Int32) (p4 : Int32) (p5 : Int32) (p6 : Int32) (h0 : Heap) (n0 : Nat) (Z0 : n0 ≤ h0.size) (G1 : Int32) (O2 : Sta Z Z.heap "java/lang/String" "COMPACT_STRINGS" "Z" (.int G1)) (P5 : ¬ (G1 = (0 : Int32))) (X00 : Old Z n0 h0) (hp : ∀ c ∈ ([p2] : List Int32), ¬ c < 0 ∧ ¬ (255 : Int32) < c) (hc1 : ¬ (p1 = (0 : Int32))) (hc17 : p1 = (1 : Int32)) :
    MetFree l (⟨"com/example/harburg/harburg/epc/FieldCharacterCountPinLaw", "make", "(ICCCCC)Ljava/lang/String;"⟩ : MethodName) (head1 (Jvm.Cond.code (⟨"com/example/harburg/harburg/epc/FieldCharacterCountPinLaw", "make", "(ICCCCC)Ljava/lang/String;"⟩ : MethodName) method_5_code 6 (some (.object "java/lang/String")) :: ws) ({ frames := 4, cells := 3, slots := 6, locals := 66 } : Room)) (fun a U => a = #[(.int p1), (.int p2), (.int p3), (.int p4), (.int p5), (.int p6)] ∧ Z.Warmed39 U.vm ∧ U.heap = h0) (fun _ _ _ _ _ => True) (fun _ U o U' => ∃ v L, o = .returned v ∧ Q2_1 Z p1 p2 p3 p4 p5 p6 h0 n0 v U'.heap L ∧ FrameEnd U o U' L ({ frames := 4, cells := 3, slots := 6, locals := 66 } : Room).cells ({ frames := 4, cells := 3, slots := 6, locals := 66 } : Room).slots) := by
  refine MetFree.of_bodySF (plainFor_of_name pn_2) hisR ?_
  intro p e s m args below meth c s₁ Bd hml0 hP hK
  obtain ⟨rfl, hZ, hh⟩ := hP
  have hx := Bd.exec
  have hby := Bd.bytes
  have hml : c.maxLocals = 6 := hml0
  have hown : s.vm.findClass "com/example/harburg/harburg/epc/FieldCharacterCountPinLaw" = some m.cls := findClass_of_methodNamed Bd.named
  have hnm := (name_of_methodNamed Bd.named Bd.method).1
  have X0 : Stand p l e ({ frames := 4, cells := 3, slots := 6, locals := 66 } : Room) s m #[(.int p1), (.int p2), (.int p3), (.int p4), (.int p5), (.int p6)] below meth c s₁ [] 0 0 := Stand.of_body Bd
  have e0 : s₁.heap = h0 := by rw [← hh, Bd.state]; rfl
  have N0 := Fr.nil n0
  have pre0 : ∀ t, Steps p.tables e below (s₁.setTop (mkF m 0 #[.val (.int p1), .val (.int p2), .val (.int p3), .val (.int p4), .val (.int p5), .val (.int p6)] [])) t → Steps p.tables e below (s₁.setTop (entryFrame m #[(.int p1), (.int p2), (.int p3), (.int p4), (.int p5), (.int p6)] 6)) t := fun t k => castTop (ef_2 m p1 p2 p3 p4 p5 p6) k
  obtain ⟨T7, h7, X7, e7, E7, A7, D7, -, st7⟩ := newO X0 hx hZ hown (hw _ (List.mem_of_getElem? (i := 8) rfl)) (hw _ (List.mem_of_getElem? (i := 9) rfl)) (hw _ (List.mem_of_getElem? (i := 10) rfl)) e0 (g := (mkF m 20 #[.val (.int p1), .val (.int p2), .val (.int p3), .val (.int p4), .val (.int p5), .val (.int p6)] [])) rfl (hb hby d2_20) (by decide) (by decide)
  obtain ⟨b7, g7⟩ : ∃ z, z = h0.size := ⟨_, rfl⟩
  rw [← g7] at A7 D7 st7
  have F_value_b7 : Fld Z h7 b7 "java/lang/String" "value" "[B" .null := D7 (Or.inr (hw _ (List.mem_of_getElem? (i := 24) rfl))) (ty := (.array .byte)) (by decide)
  have F_coder_b7 : Fld Z h7 b7 "java/lang/String" "coder" "B" (.int (0 : Int32)) := D7 (Or.inr (hw _ (List.mem_of_getElem? (i := 25) rfl))) (ty := .byte) (by decide)
  have E_b7 := A7
  have g_b7 : n0 ≤ b7 := Nat.le_trans Z0 (Nat.le_of_eq g7.symm)
  have sz_b7 : h0.size ≤ b7 := (Nat.le_trans (Keep.refl h0 []).1 (Nat.le_of_eq g7.symm))
  have K7 : Keep h0 h7 [] := (Keep.refl h0 []).ext E7
  obtain ⟨T8, h8, k8, X8, e8, E8, A8, st8⟩ := newP X7 hx hZ (hw _ (List.mem_of_getElem? (i := 11) rfl)) e7 (g := (mkF m 25 #[.val (.int p1), .val (.int p2), .val (.int p3), .val (.int p4), .val (.int p5), .val (.int p6)] [(.int (1 : Int32)), (.ref b7), (.ref b7)])) rfl (hb hby d2_25) rfl (by decide) (cap := 1) (by decide) (by decide) (by decide) (by decide)
  obtain ⟨b8, g8⟩ : ∃ z, z = h7.size := ⟨_, rfl⟩
  rw [← g8] at A8 st8
  have V_b8 : Arv Z h8 b8 k8 .char (1 : Int32) [(.int (0 : Int32))] (.int (0 : Int32)) := (Arv.new A8 (by decide)).pad (pad_rep [] (.int (0 : Int32)) 1)
  have g_b8 : n0 ≤ b8 := Nat.le_trans (Nat.le_trans Z0 E7.1) (Nat.le_of_eq g8.symm)
  have sz_b8 : h0.size ≤ b8 := (Nat.le_trans K7.1 (Nat.le_of_eq g8.symm))
  have K8 : Keep h0 h8 [] := K7.ext E8
  obtain ⟨cl_b8_30, Ar_b8, q_b8, S_b8, N_b8, H_b8, G_b8⟩ := V_b8
  have hin30 : ¬ ((0 : Int32) < 0 ∨ cl_b8_30.slots.size ≤ ((0 : Int32)).toNatClampNeg) := inb_of S_b8 ⟨by decide, by decide⟩
  obtain ⟨T9, h9, X9, e9, W9, st9⟩ := stC X8 hx hZ e8 Ar_b8 (j := (0 : Int32)) hin30 (g := (mkF m 30 #[.val (.int p1), .val (.int p2), .val (.int p3), .val (.int p4), .val (.int p5), .val (.int p6)] [(.int p2), (.int (0 : Int32)), (.ref b8), (.ref b8), (.ref b7), (.ref b7)])) rfl rfl (hb hby d2_30)
  have V_b8_9 := Arv.set Ar_b8 q_b8 S_b8 N_b8 H_b8 G_b8 (fits_nar_char _) W9 0 rfl (Nat.le_of_ble_eq_true rfl)
  have K9 : Keep h0 h9 [] := K8.wr W9 (Or.inr sz_b8)
  have N9 := Fr.snoc X9 N0 g_b8
  have hws : ∀ d ∈ StrChars.Road.words, d.before a0 Z = true := fun d hd => hw d ((by decide +kernel : ∀ d ∈ StrChars.Road.words, d ∈ tables_1) d hd)
  have XO : Old Z n0 h9 := (((X00.ext E7).ext E8).wr W9 g_b8)
  have VV : Arv Z h9 b8 k8 .char (1 : Int32) (([p2] : List Int32).map Value.int) (.int (0 : Int32)) := by
    have q := V_b8_9
    rw [own_nar p2 (hp _ (by simp))] at q
    exact q
  obtain ⟨_, _, ⟨T10, L10, k10, n10⟩, -, X10, ⟨Lc10, hQ10, l10, y10, z10⟩, st10⟩ := X9.specialBack hx (y := (⟨"java/lang/String", "<init>", "([C)V"⟩ : MethodName)) rfl hown (mvT hZ (hw _ (List.mem_of_getElem? (i := 12) rfl))) (mvT hZ (hw _ (List.mem_of_getElem? (i := 13) rfl))) (mvT hZ (hw _ (List.mem_of_getElem? (i := 14) rfl))) (by decide) (StrChars.Road.backV (W := 1) hZ hws (kI := 4) (hw _ (List.mem_of_getElem? (i := 9) rfl)) (cs := ([p2] : List Int32)) (bs := (([p2] : List Int32)).map (fun c => c.toInt8.toInt32)) (n := 1) g_b7 (Nat.le_trans Z0 K9.1) ((A7.ext E8).wr W9) ((F_value_b7.ext E8).other W9 (Or.inl (Nat.ne_of_lt (Nat.lt_of_lt_of_le A7.lt (Nat.le_of_eq g8.symm))))) ((F_coder_b7.ext E8).other W9 (Or.inl (Nat.ne_of_lt (Nat.lt_of_lt_of_le A7.lt (Nat.le_of_eq g8.symm))))) VV (O2.ext XO.2) P5 rfl rfl (by decide) (by decide) hp rfl (by decide) (by decide)) (g := (mkF m 31 #[.val (.int p1), .val (.int p2), .val (.int p3), .val (.int p4), .val (.int p5), .val (.int p6)] [(.ref b8), (.ref b7), (.ref b7)])) rfl (by rw [hml]; rfl) (Steps.refl _) (a := b7) (argsL := [(.ref b8)]) (rest := [(.ref b7)]) (lenOf pd_2_2 rfl) rfl (by show 2 * 0 + _ ≤ _; exact Nat.le_of_eq rfl) (hb hby d2_31) (fun _ _ => ⟨rfl, e9, (by decide : 2 + 1 ≤ _), (by decide : 5 + 1 ≤ _)⟩)
  dsimp only [Pt.U, Pt.locs, Pt.cells, Pt.slots] at X10 l10 y10 z10 st10 hQ10
  subst l10 y10 z10
  obtain ⟨rfl, N10q, K10q, x10, gc10, at10, kt10, ut10, vt10, wt10, Fv10, Av10⟩ := hQ10
  have N10 := Fr.app N9 N10q
  obtain ⟨fs, hr, hrun, hended, hW, hsame⟩ := X10.leave (v := some (.ref b7)) (fun h => by rw [Bd.returns] at h; cases h)
  refine ⟨_, _, pre0 _ ?_, hrun, hended, _, _, rfl, ?_, ⟨_, rfl⟩, hW, hsame.mono (by decide) (by decide)⟩
  · show Steps p.tables e below (s₁.setTop (mkF m 0 #[.val (.int p1), .val (.int p2), .val (.int p3), .val (.int p4), .val (.int p5), .val (.int p6)] [])) _
    refine XS.iloadN X0.here hx rfl (hb hby d2_0) rfl ?_
    show Steps p.tables e below (s₁.setTop (mkF m 1 #[.val (.int p1), .val (.int p2), .val (.int p3), .val (.int p4), .val (.int p5), .val (.int p6)] [(.int p1)])) _
    refine XS.ifYes X0.here hx rfl (pc0 := 1) (pc' := 15) rfl (hb hby d2_1) rfl ((if0 _ _).trans (feq hc1).2) (by decide) (by decide) ?_
    show Steps p.tables e below (s₁.setTop (mkF m 15 #[.val (.int p1), .val (.int p2), .val (.int p3), .val (.int p4), .val (.int p5), .val (.int p6)] [])) _
    refine XS.iloadN X0.here hx rfl (hb hby d2_15) rfl ?_
    show Steps p.tables e below (s₁.setTop (mkF m 16 #[.val (.int p1), .val (.int p2), .val (.int p3), .val (.int p4), .val (.int p5), .val (.int p6)] [(.int p1)])) _
    refine XS.iconst X0.here hx rfl (hb hby d2_16) ?_
    show Steps p.tables e below (s₁.setTop (mkF m 17 #[.val (.int p1), .val (.int p2), .val (.int p3), .val (.int p4), .val (.int p5), .val (.int p6)] [(.int (1 : Int32)), (.int p1)])) _
    refine XS.icmpNo X0.here hx rfl (hb hby d2_17) rfl (teq hc17).2 ?_
    show Steps p.tables e below (s₁.setTop (mkF m 20 #[.val (.int p1), .val (.int p2), .val (.int p3), .val (.int p4), .val (.int p5), .val (.int p6)] [])) _
    refine st7 _ ?_
    show Steps p.tables e below (T7.setTop (mkF m 23 #[.val (.int p1), .val (.int p2), .val (.int p3), .val (.int p4), .val (.int p5), .val (.int p6)] [(.ref b7)])) _
    refine XS.dup X7.here hx rfl (hb hby d2_23) rfl rfl ?_
    show Steps p.tables e below (T7.setTop (mkF m 24 #[.val (.int p1), .val (.int p2), .val (.int p3), .val (.int p4), .val (.int p5), .val (.int p6)] [(.ref b7), (.ref b7)])) _
    refine XS.iconst X7.here hx rfl (hb hby d2_24) ?_
    show Steps p.tables e below (T7.setTop (mkF m 25 #[.val (.int p1), .val (.int p2), .val (.int p3), .val (.int p4), .val (.int p5), .val (.int p6)] [(.int (1 : Int32)), (.ref b7), (.ref b7)])) _
    refine st8 _ ?_
    show Steps p.tables e below (T8.setTop (mkF m 27 #[.val (.int p1), .val (.int p2), .val (.int p3), .val (.int p4), .val (.int p5), .val (.int p6)] [(.ref b8), (.ref b7), (.ref b7)])) _
    refine XS.dup X8.here hx rfl (hb hby d2_27) rfl rfl ?_
    show Steps p.tables e below (T8.setTop (mkF m 28 #[.val (.int p1), .val (.int p2), .val (.int p3), .val (.int p4), .val (.int p5), .val (.int p6)] [(.ref b8), (.ref b8), (.ref b7), (.ref b7)])) _
    refine XS.iconst X8.here hx rfl (hb hby d2_28) ?_
    show Steps p.tables e below (T8.setTop (mkF m 29 #[.val (.int p1), .val (.int p2), .val (.int p3), .val (.int p4), .val (.int p5), .val (.int p6)] [(.int (0 : Int32)), (.ref b8), (.ref b8), (.ref b7), (.ref b7)])) _
    refine XS.iloadN X8.here hx rfl (hb hby d2_29) rfl ?_
    show Steps p.tables e below (T8.setTop (mkF m 30 #[.val (.int p1), .val (.int p2), .val (.int p3), .val (.int p4), .val (.int p5), .val (.int p6)] [(.int p2), (.int (0 : Int32)), (.ref b8), (.ref b8), (.ref b7), (.ref b7)])) _
    refine st9 _ ?_
    show Steps p.tables e below (T9.setTop (mkF m 31 #[.val (.int p1), .val (.int p2), .val (.int p3), .val (.int p4), .val (.int p5), .val (.int p6)] [(.ref b8), (.ref b7), (.ref b7)])) _
    refine st10.trans ?_
    show Steps p.tables e below (T10.setTop (mkF m 34 #[.val (.int p1), .val (.int p2), .val (.int p3), .val (.int p4), .val (.int p5), .val (.int p6)] [(.ref b7)])) _
    jvm_step X10.here [X10.here.top, hx, (hb hby d2_34), X10.method', Bd.returns, Value.isRef, FieldType.isReference]
    first | (intro acts; rw [hr _ acts rfl rfl rfl]) | rw [hr _ _ rfl rfl rfl]
    exact Steps.refl _
  · show Q2_1 Z p1 p2 p3 p4 p5 p6 h0 n0 _ T10.heap _
    exact ⟨b7, rfl, N10, K9.trans K10q (allS (Or.inr sz_b7) all0), x10, at10, kt10, Fv10, gc10, Av10⟩
theorem d2_35 : decode method_5_code 35 = .ok (.iload_n 0, 1) := by decide +kernel
theorem d2_36 : decode method_5_code 36 = .ok (.iconst 2, 1) := by decide +kernel
theorem d2_37 : decode method_5_code 37 = .ok (.if_icmp .ne 22, 3) := by decide +kernel
theorem d2_40 : decode method_5_code 40 = .ok (.new 29, 3) := by decide +kernel
theorem d2_43 : decode method_5_code 43 = .ok (.dup, 1) := by decide +kernel
theorem d2_44 : decode method_5_code 44 = .ok (.iconst 2, 1) := by decide +kernel
theorem d2_45 : decode method_5_code 45 = .ok (.newarray .char, 2) := by decide +kernel
theorem d2_47 : decode method_5_code 47 = .ok (.dup, 1) := by decide +kernel
theorem d2_48 : decode method_5_code 48 = .ok (.iconst 0, 1) := by decide +kernel
theorem d2_49 : decode method_5_code 49 = .ok (.iload_n 1, 1) := by decide +kernel
theorem d2_50 : decode method_5_code 50 = .ok (.castore, 1) := by decide +kernel
theorem d2_51 : decode method_5_code 51 = .ok (.dup, 1) := by decide +kernel
theorem d2_52 : decode method_5_code 52 = .ok (.iconst 1, 1) := by decide +kernel
theorem d2_53 : decode method_5_code 53 = .ok (.iload_n 2, 1) := by decide +kernel
theorem d2_54 : decode method_5_code 54 = .ok (.castore, 1) := by decide +kernel
theorem d2_55 : decode method_5_code 55 = .ok (.invokespecial 34, 3) := by decide +kernel
theorem d2_58 : decode method_5_code 58 = .ok (.areturn, 1) := by decide +kernel
def Q2_2 (Z : State) (p1 : Int32) (p2 : Int32) (p3 : Int32) (p4 : Int32) (p5 : Int32) (p6 : Int32) (h0 : Heap) (n0 : Nat) (v : Option Value) (h : Heap) (L : List Loc) : Prop := ∃ b : Addr, v = some (.ref b) ∧ Fr n0 L ∧ Keep h0 h [] ∧ own_STR Z h b ([p2, p3] : List Int32)
set_option maxRecDepth 65536 in
set_option maxHeartbeats 40000000 in
theorem rm2_2 (l : Launch) (Z : State) (a0 : Array Value) (hw : ∀ d ∈ tables_1, d.before a0 Z = true) (ws : List Jvm.Cond) (p1 : Int32) (p2 : Int32) (p3 : Int32) (p4 : Int32) (p5 : Int32) (p6 : Int32) (h0 : Heap) (n0 : Nat) (Z0 : n0 ≤ h0.size) (G1 : Int32) (O2 : Sta Z Z.heap "java/lang/String" "COMPACT_STRINGS" "Z" (.int G1)) (P5 : ¬ (G1 = (0 : Int32))) (X00 : Old Z n0 h0) (hp : ∀ c ∈ ([p2, p3] : List Int32), ¬ c < 0 ∧ ¬ (255 : Int32) < c) (hc1 : ¬ (p1 = (0 : Int32))) (hc17 : ¬ (p1 = (1 : Int32))) (hc37 : p1 = (2 : Int32)) :
    MetFree l (⟨"com/example/harburg/harburg/epc/FieldCharacterCountPinLaw", "make", "(ICCCCC)Ljava/lang/String;"⟩ : MethodName) (head1 (Jvm.Cond.code (⟨"com/example/harburg/harburg/epc/FieldCharacterCountPinLaw", "make", "(ICCCCC)Ljava/lang/String;"⟩ : MethodName) method_5_code 6 (some (.object "java/lang/String")) :: ws) ({ frames := 4, cells := 3, slots := 8, locals := 66 } : Room)) (fun a U => a = #[(.int p1), (.int p2), (.int p3), (.int p4), (.int p5), (.int p6)] ∧ Z.Warmed39 U.vm ∧ U.heap = h0) (fun _ _ _ _ _ => True) (fun _ U o U' => ∃ v L, o = .returned v ∧ Q2_2 Z p1 p2 p3 p4 p5 p6 h0 n0 v U'.heap L ∧ FrameEnd U o U' L ({ frames := 4, cells := 3, slots := 8, locals := 66 } : Room).cells ({ frames := 4, cells := 3, slots := 8, locals := 66 } : Room).slots) := by
  refine MetFree.of_bodySF (plainFor_of_name pn_2) hisR ?_
  intro p e s m args below meth c s₁ Bd hml0 hP hK
  obtain ⟨rfl, hZ, hh⟩ := hP
  have hx := Bd.exec
  have hby := Bd.bytes
  have hml : c.maxLocals = 6 := hml0
  have hown : s.vm.findClass "com/example/harburg/harburg/epc/FieldCharacterCountPinLaw" = some m.cls := findClass_of_methodNamed Bd.named
  have hnm := (name_of_methodNamed Bd.named Bd.method).1
  have X0 : Stand p l e ({ frames := 4, cells := 3, slots := 8, locals := 66 } : Room) s m #[(.int p1), (.int p2), (.int p3), (.int p4), (.int p5), (.int p6)] below meth c s₁ [] 0 0 := Stand.of_body Bd
  have e0 : s₁.heap = h0 := by rw [← hh, Bd.state]; rfl
  have N0 := Fr.nil n0
  have pre0 : ∀ t, Steps p.tables e below (s₁.setTop (mkF m 0 #[.val (.int p1), .val (.int p2), .val (.int p3), .val (.int p4), .val (.int p5), .val (.int p6)] [])) t → Steps p.tables e below (s₁.setTop (entryFrame m #[(.int p1), (.int p2), (.int p3), (.int p4), (.int p5), (.int p6)] 6)) t := fun t k => castTop (ef_2 m p1 p2 p3 p4 p5 p6) k
  obtain ⟨T7, h7, X7, e7, E7, A7, D7, -, st7⟩ := newO X0 hx hZ hown (hw _ (List.mem_of_getElem? (i := 8) rfl)) (hw _ (List.mem_of_getElem? (i := 9) rfl)) (hw _ (List.mem_of_getElem? (i := 10) rfl)) e0 (g := (mkF m 40 #[.val (.int p1), .val (.int p2), .val (.int p3), .val (.int p4), .val (.int p5), .val (.int p6)] [])) rfl (hb hby d2_40) (by decide) (by decide)
  obtain ⟨b7, g7⟩ : ∃ z, z = h0.size := ⟨_, rfl⟩
  rw [← g7] at A7 D7 st7
  have F_value_b7 : Fld Z h7 b7 "java/lang/String" "value" "[B" .null := D7 (Or.inr (hw _ (List.mem_of_getElem? (i := 24) rfl))) (ty := (.array .byte)) (by decide)
  have F_coder_b7 : Fld Z h7 b7 "java/lang/String" "coder" "B" (.int (0 : Int32)) := D7 (Or.inr (hw _ (List.mem_of_getElem? (i := 25) rfl))) (ty := .byte) (by decide)
  have E_b7 := A7
  have g_b7 : n0 ≤ b7 := Nat.le_trans Z0 (Nat.le_of_eq g7.symm)
  have sz_b7 : h0.size ≤ b7 := (Nat.le_trans (Keep.refl h0 []).1 (Nat.le_of_eq g7.symm))
  have K7 : Keep h0 h7 [] := (Keep.refl h0 []).ext E7
  obtain ⟨T8, h8, k8, X8, e8, E8, A8, st8⟩ := newP X7 hx hZ (hw _ (List.mem_of_getElem? (i := 11) rfl)) e7 (g := (mkF m 45 #[.val (.int p1), .val (.int p2), .val (.int p3), .val (.int p4), .val (.int p5), .val (.int p6)] [(.int (2 : Int32)), (.ref b7), (.ref b7)])) rfl (hb hby d2_45) rfl (by decide) (cap := 2) (by decide) (by decide) (by decide) (by decide)
  obtain ⟨b8, g8⟩ : ∃ z, z = h7.size := ⟨_, rfl⟩
  rw [← g8] at A8 st8
  have V_b8 : Arv Z h8 b8 k8 .char (2 : Int32) [(.int (0 : Int32)), (.int (0 : Int32))] (.int (0 : Int32)) := (Arv.new A8 (by decide)).pad (pad_rep [] (.int (0 : Int32)) 2)
  have g_b8 : n0 ≤ b8 := Nat.le_trans (Nat.le_trans Z0 E7.1) (Nat.le_of_eq g8.symm)
  have sz_b8 : h0.size ≤ b8 := (Nat.le_trans K7.1 (Nat.le_of_eq g8.symm))
  have K8 : Keep h0 h8 [] := K7.ext E8
  obtain ⟨cl_b8_50, Ar_b8, q_b8, S_b8, N_b8, H_b8, G_b8⟩ := V_b8
  have hin50 : ¬ ((0 : Int32) < 0 ∨ cl_b8_50.slots.size ≤ ((0 : Int32)).toNatClampNeg) := inb_of S_b8 ⟨by decide, by decide⟩
  obtain ⟨T9, h9, X9, e9, W9, st9⟩ := stC X8 hx hZ e8 Ar_b8 (j := (0 : Int32)) hin50 (g := (mkF m 50 #[.val (.int p1), .val (.int p2), .val (.int p3), .val (.int p4), .val (.int p5), .val (.int p6)] [(.int p2), (.int (0 : Int32)), (.ref b8), (.ref b8), (.ref b7), (.ref b7)])) rfl rfl (hb hby d2_50)
  have V_b8_9 := Arv.set Ar_b8 q_b8 S_b8 N_b8 H_b8 G_b8 (fits_nar_char _) W9 0 rfl (Nat.le_of_ble_eq_true rfl)
  have K9 : Keep h0 h9 [] := K8.wr W9 (Or.inr sz_b8)
  have N9 := Fr.snoc X9 N0 g_b8
  obtain ⟨cl_b8_54, Ar_b8, q_b8, S_b8, N_b8, H_b8, G_b8⟩ := V_b8_9
  have hin54 : ¬ ((1 : Int32) < 0 ∨ cl_b8_54.slots.size ≤ ((1 : Int32)).toNatClampNeg) := inb_of S_b8 ⟨by decide, by decide⟩
  obtain ⟨T10, h10, X10, e10, W10, st10⟩ := stC X9 hx hZ e9 Ar_b8 (j := (1 : Int32)) hin54 (g := (mkF m 54 #[.val (.int p1), .val (.int p2), .val (.int p3), .val (.int p4), .val (.int p5), .val (.int p6)] [(.int p3), (.int (1 : Int32)), (.ref b8), (.ref b8), (.ref b7), (.ref b7)])) rfl rfl (hb hby d2_54)
  have V_b8_10 := Arv.set Ar_b8 q_b8 S_b8 N_b8 H_b8 G_b8 (fits_nar_char _) W10 1 rfl (Nat.le_of_ble_eq_true rfl)
  have K10 : Keep h0 h10 [] := K9.wr W10 (Or.inr sz_b8)
  have N10 := Fr.snoc X10 N9 g_b8
  have hws : ∀ d ∈ StrChars.Road.words, d.before a0 Z = true := fun d hd => hw d ((by decide +kernel : ∀ d ∈ StrChars.Road.words, d ∈ tables_1) d hd)
  have XO : Old Z n0 h10 := ((((X00.ext E7).ext E8).wr W9 g_b8).wr W10 g_b8)
  have VV : Arv Z h10 b8 k8 .char (2 : Int32) (([p2, p3] : List Int32).map Value.int) (.int (0 : Int32)) := by
    have q := V_b8_10
    rw [own_nar p2 (hp _ (by simp)), own_nar p3 (hp _ (by simp))] at q
    exact q
  obtain ⟨_, _, ⟨T11, L11, k11, n11⟩, -, X11, ⟨Lc11, hQ11, l11, y11, z11⟩, st11⟩ := X10.specialBack hx (y := (⟨"java/lang/String", "<init>", "([C)V"⟩ : MethodName)) rfl hown (mvT hZ (hw _ (List.mem_of_getElem? (i := 12) rfl))) (mvT hZ (hw _ (List.mem_of_getElem? (i := 13) rfl))) (mvT hZ (hw _ (List.mem_of_getElem? (i := 14) rfl))) (by decide) (StrChars.Road.backV (W := 1) hZ hws (kI := 4) (hw _ (List.mem_of_getElem? (i := 9) rfl)) (cs := ([p2, p3] : List Int32)) (bs := (([p2, p3] : List Int32)).map (fun c => c.toInt8.toInt32)) (n := 2) g_b7 (Nat.le_trans Z0 K10.1) (((A7.ext E8).wr W9).wr W10) (((F_value_b7.ext E8).other W9 (Or.inl (Nat.ne_of_lt (Nat.lt_of_lt_of_le A7.lt (Nat.le_of_eq g8.symm))))).other W10 (Or.inl (Nat.ne_of_lt (Nat.lt_of_lt_of_le A7.lt (Nat.le_of_eq g8.symm))))) (((F_coder_b7.ext E8).other W9 (Or.inl (Nat.ne_of_lt (Nat.lt_of_lt_of_le A7.lt (Nat.le_of_eq g8.symm))))).other W10 (Or.inl (Nat.ne_of_lt (Nat.lt_of_lt_of_le A7.lt (Nat.le_of_eq g8.symm))))) VV (O2.ext XO.2) P5 rfl rfl (by decide) (by decide) hp rfl (by decide) (by decide)) (g := (mkF m 55 #[.val (.int p1), .val (.int p2), .val (.int p3), .val (.int p4), .val (.int p5), .val (.int p6)] [(.ref b8), (.ref b7), (.ref b7)])) rfl (by rw [hml]; rfl) (Steps.refl _) (a := b7) (argsL := [(.ref b8)]) (rest := [(.ref b7)]) (lenOf pd_2_2 rfl) rfl (by show 2 * 0 + _ ≤ _; exact Nat.le_of_eq rfl) (hb hby d2_55) (fun _ _ => ⟨rfl, e10, (by decide : 2 + 1 ≤ _), (by decide : 6 + 2 ≤ _)⟩)
  dsimp only [Pt.U, Pt.locs, Pt.cells, Pt.slots] at X11 l11 y11 z11 st11 hQ11
  subst l11 y11 z11
  obtain ⟨rfl, N11q, K11q, x11, gc11, at11, kt11, ut11, vt11, wt11, Fv11, Av11⟩ := hQ11
  have N11 := Fr.app N10 N11q
  obtain ⟨fs, hr, hrun, hended, hW, hsame⟩ := X11.leave (v := some (.ref b7)) (fun h => by rw [Bd.returns] at h; cases h)
  refine ⟨_, _, pre0 _ ?_, hrun, hended, _, _, rfl, ?_, ⟨_, rfl⟩, hW, hsame.mono (by decide) (by decide)⟩
  · show Steps p.tables e below (s₁.setTop (mkF m 0 #[.val (.int p1), .val (.int p2), .val (.int p3), .val (.int p4), .val (.int p5), .val (.int p6)] [])) _
    refine XS.iloadN X0.here hx rfl (hb hby d2_0) rfl ?_
    show Steps p.tables e below (s₁.setTop (mkF m 1 #[.val (.int p1), .val (.int p2), .val (.int p3), .val (.int p4), .val (.int p5), .val (.int p6)] [(.int p1)])) _
    refine XS.ifYes X0.here hx rfl (pc0 := 1) (pc' := 15) rfl (hb hby d2_1) rfl ((if0 _ _).trans (feq hc1).2) (by decide) (by decide) ?_
    show Steps p.tables e below (s₁.setTop (mkF m 15 #[.val (.int p1), .val (.int p2), .val (.int p3), .val (.int p4), .val (.int p5), .val (.int p6)] [])) _
    refine XS.iloadN X0.here hx rfl (hb hby d2_15) rfl ?_
    show Steps p.tables e below (s₁.setTop (mkF m 16 #[.val (.int p1), .val (.int p2), .val (.int p3), .val (.int p4), .val (.int p5), .val (.int p6)] [(.int p1)])) _
    refine XS.iconst X0.here hx rfl (hb hby d2_16) ?_
    show Steps p.tables e below (s₁.setTop (mkF m 17 #[.val (.int p1), .val (.int p2), .val (.int p3), .val (.int p4), .val (.int p5), .val (.int p6)] [(.int (1 : Int32)), (.int p1)])) _
    refine XS.icmpYes X0.here hx rfl (pc0 := 17) (pc' := 35) rfl (hb hby d2_17) rfl (feq hc17).2 (by decide) (by decide) ?_
    show Steps p.tables e below (s₁.setTop (mkF m 35 #[.val (.int p1), .val (.int p2), .val (.int p3), .val (.int p4), .val (.int p5), .val (.int p6)] [])) _
    refine XS.iloadN X0.here hx rfl (hb hby d2_35) rfl ?_
    show Steps p.tables e below (s₁.setTop (mkF m 36 #[.val (.int p1), .val (.int p2), .val (.int p3), .val (.int p4), .val (.int p5), .val (.int p6)] [(.int p1)])) _
    refine XS.iconst X0.here hx rfl (hb hby d2_36) ?_
    show Steps p.tables e below (s₁.setTop (mkF m 37 #[.val (.int p1), .val (.int p2), .val (.int p3), .val (.int p4), .val (.int p5), .val (.int p6)] [(.int (2 : Int32)), (.int p1)])) _
    refine XS.icmpNo X0.here hx rfl (hb hby d2_37) rfl (teq hc37).2 ?_
    show Steps p.tables e below (s₁.setTop (mkF m 40 #[.val (.int p1), .val (.int p2), .val (.int p3), .val (.int p4), .val (.int p5), .val (.int p6)] [])) _
    refine st7 _ ?_
    show Steps p.tables e below (T7.setTop (mkF m 43 #[.val (.int p1), .val (.int p2), .val (.int p3), .val (.int p4), .val (.int p5), .val (.int p6)] [(.ref b7)])) _
    refine XS.dup X7.here hx rfl (hb hby d2_43) rfl rfl ?_
    show Steps p.tables e below (T7.setTop (mkF m 44 #[.val (.int p1), .val (.int p2), .val (.int p3), .val (.int p4), .val (.int p5), .val (.int p6)] [(.ref b7), (.ref b7)])) _
    refine XS.iconst X7.here hx rfl (hb hby d2_44) ?_
    show Steps p.tables e below (T7.setTop (mkF m 45 #[.val (.int p1), .val (.int p2), .val (.int p3), .val (.int p4), .val (.int p5), .val (.int p6)] [(.int (2 : Int32)), (.ref b7), (.ref b7)])) _
    refine st8 _ ?_
    show Steps p.tables e below (T8.setTop (mkF m 47 #[.val (.int p1), .val (.int p2), .val (.int p3), .val (.int p4), .val (.int p5), .val (.int p6)] [(.ref b8), (.ref b7), (.ref b7)])) _
    refine XS.dup X8.here hx rfl (hb hby d2_47) rfl rfl ?_
    show Steps p.tables e below (T8.setTop (mkF m 48 #[.val (.int p1), .val (.int p2), .val (.int p3), .val (.int p4), .val (.int p5), .val (.int p6)] [(.ref b8), (.ref b8), (.ref b7), (.ref b7)])) _
    refine XS.iconst X8.here hx rfl (hb hby d2_48) ?_
    show Steps p.tables e below (T8.setTop (mkF m 49 #[.val (.int p1), .val (.int p2), .val (.int p3), .val (.int p4), .val (.int p5), .val (.int p6)] [(.int (0 : Int32)), (.ref b8), (.ref b8), (.ref b7), (.ref b7)])) _
    refine XS.iloadN X8.here hx rfl (hb hby d2_49) rfl ?_
    show Steps p.tables e below (T8.setTop (mkF m 50 #[.val (.int p1), .val (.int p2), .val (.int p3), .val (.int p4), .val (.int p5), .val (.int p6)] [(.int p2), (.int (0 : Int32)), (.ref b8), (.ref b8), (.ref b7), (.ref b7)])) _
    refine st9 _ ?_
    show Steps p.tables e below (T9.setTop (mkF m 51 #[.val (.int p1), .val (.int p2), .val (.int p3), .val (.int p4), .val (.int p5), .val (.int p6)] [(.ref b8), (.ref b7), (.ref b7)])) _
    refine XS.dup X9.here hx rfl (hb hby d2_51) rfl rfl ?_
    show Steps p.tables e below (T9.setTop (mkF m 52 #[.val (.int p1), .val (.int p2), .val (.int p3), .val (.int p4), .val (.int p5), .val (.int p6)] [(.ref b8), (.ref b8), (.ref b7), (.ref b7)])) _
    refine XS.iconst X9.here hx rfl (hb hby d2_52) ?_
    show Steps p.tables e below (T9.setTop (mkF m 53 #[.val (.int p1), .val (.int p2), .val (.int p3), .val (.int p4), .val (.int p5), .val (.int p6)] [(.int (1 : Int32)), (.ref b8), (.ref b8), (.ref b7), (.ref b7)])) _
    refine XS.iloadN X9.here hx rfl (hb hby d2_53) rfl ?_
    show Steps p.tables e below (T9.setTop (mkF m 54 #[.val (.int p1), .val (.int p2), .val (.int p3), .val (.int p4), .val (.int p5), .val (.int p6)] [(.int p3), (.int (1 : Int32)), (.ref b8), (.ref b8), (.ref b7), (.ref b7)])) _
    refine st10 _ ?_
    show Steps p.tables e below (T10.setTop (mkF m 55 #[.val (.int p1), .val (.int p2), .val (.int p3), .val (.int p4), .val (.int p5), .val (.int p6)] [(.ref b8), (.ref b7), (.ref b7)])) _
    refine st11.trans ?_
    show Steps p.tables e below (T11.setTop (mkF m 58 #[.val (.int p1), .val (.int p2), .val (.int p3), .val (.int p4), .val (.int p5), .val (.int p6)] [(.ref b7)])) _
    jvm_step X11.here [X11.here.top, hx, (hb hby d2_58), X11.method', Bd.returns, Value.isRef, FieldType.isReference]
    first | (intro acts; rw [hr _ acts rfl rfl rfl]) | rw [hr _ _ rfl rfl rfl]
    exact Steps.refl _
  · show Q2_2 Z p1 p2 p3 p4 p5 p6 h0 n0 _ T11.heap _
    exact ⟨b7, rfl, N11, K10.trans K11q (allS (Or.inr sz_b7) all0), x11, at11, kt11, Fv11, gc11, Av11⟩
theorem d2_59 : decode method_5_code 59 = .ok (.iload_n 0, 1) := by decide +kernel
theorem d2_60 : decode method_5_code 60 = .ok (.iconst 3, 1) := by decide +kernel
theorem d2_61 : decode method_5_code 61 = .ok (.if_icmp .ne 26, 3) := by decide +kernel
theorem d2_64 : decode method_5_code 64 = .ok (.new 29, 3) := by decide +kernel
theorem d2_67 : decode method_5_code 67 = .ok (.dup, 1) := by decide +kernel
theorem d2_68 : decode method_5_code 68 = .ok (.iconst 3, 1) := by decide +kernel
theorem d2_69 : decode method_5_code 69 = .ok (.newarray .char, 2) := by decide +kernel
theorem d2_71 : decode method_5_code 71 = .ok (.dup, 1) := by decide +kernel
theorem d2_72 : decode method_5_code 72 = .ok (.iconst 0, 1) := by decide +kernel
theorem d2_73 : decode method_5_code 73 = .ok (.iload_n 1, 1) := by decide +kernel
theorem d2_74 : decode method_5_code 74 = .ok (.castore, 1) := by decide +kernel
theorem d2_75 : decode method_5_code 75 = .ok (.dup, 1) := by decide +kernel
theorem d2_76 : decode method_5_code 76 = .ok (.iconst 1, 1) := by decide +kernel
theorem d2_77 : decode method_5_code 77 = .ok (.iload_n 2, 1) := by decide +kernel
theorem d2_78 : decode method_5_code 78 = .ok (.castore, 1) := by decide +kernel
theorem d2_79 : decode method_5_code 79 = .ok (.dup, 1) := by decide +kernel
theorem d2_80 : decode method_5_code 80 = .ok (.iconst 2, 1) := by decide +kernel
theorem d2_81 : decode method_5_code 81 = .ok (.iload_n 3, 1) := by decide +kernel
theorem d2_82 : decode method_5_code 82 = .ok (.castore, 1) := by decide +kernel
theorem d2_83 : decode method_5_code 83 = .ok (.invokespecial 34, 3) := by decide +kernel
theorem d2_86 : decode method_5_code 86 = .ok (.areturn, 1) := by decide +kernel
def Q2_3 (Z : State) (p1 : Int32) (p2 : Int32) (p3 : Int32) (p4 : Int32) (p5 : Int32) (p6 : Int32) (h0 : Heap) (n0 : Nat) (v : Option Value) (h : Heap) (L : List Loc) : Prop := ∃ b : Addr, v = some (.ref b) ∧ Fr n0 L ∧ Keep h0 h [] ∧ own_STR Z h b ([p2, p3, p4] : List Int32)
set_option maxRecDepth 65536 in
set_option maxHeartbeats 40000000 in
theorem rm2_3 (l : Launch) (Z : State) (a0 : Array Value) (hw : ∀ d ∈ tables_1, d.before a0 Z = true) (ws : List Jvm.Cond) (p1 : Int32) (p2 : Int32) (p3 : Int32) (p4 : Int32) (p5 : Int32) (p6 : Int32) (h0 : Heap) (n0 : Nat) (Z0 : n0 ≤ h0.size) (G1 : Int32) (O2 : Sta Z Z.heap "java/lang/String" "COMPACT_STRINGS" "Z" (.int G1)) (P5 : ¬ (G1 = (0 : Int32))) (X00 : Old Z n0 h0) (hp : ∀ c ∈ ([p2, p3, p4] : List Int32), ¬ c < 0 ∧ ¬ (255 : Int32) < c) (hc1 : ¬ (p1 = (0 : Int32))) (hc17 : ¬ (p1 = (1 : Int32))) (hc37 : ¬ (p1 = (2 : Int32))) (hc61 : p1 = (3 : Int32)) :
    MetFree l (⟨"com/example/harburg/harburg/epc/FieldCharacterCountPinLaw", "make", "(ICCCCC)Ljava/lang/String;"⟩ : MethodName) (head1 (Jvm.Cond.code (⟨"com/example/harburg/harburg/epc/FieldCharacterCountPinLaw", "make", "(ICCCCC)Ljava/lang/String;"⟩ : MethodName) method_5_code 6 (some (.object "java/lang/String")) :: ws) ({ frames := 4, cells := 3, slots := 10, locals := 66 } : Room)) (fun a U => a = #[(.int p1), (.int p2), (.int p3), (.int p4), (.int p5), (.int p6)] ∧ Z.Warmed39 U.vm ∧ U.heap = h0) (fun _ _ _ _ _ => True) (fun _ U o U' => ∃ v L, o = .returned v ∧ Q2_3 Z p1 p2 p3 p4 p5 p6 h0 n0 v U'.heap L ∧ FrameEnd U o U' L ({ frames := 4, cells := 3, slots := 10, locals := 66 } : Room).cells ({ frames := 4, cells := 3, slots := 10, locals := 66 } : Room).slots) := by
  refine MetFree.of_bodySF (plainFor_of_name pn_2) hisR ?_
  intro p e s m args below meth c s₁ Bd hml0 hP hK
  obtain ⟨rfl, hZ, hh⟩ := hP
  have hx := Bd.exec
  have hby := Bd.bytes
  have hml : c.maxLocals = 6 := hml0
  have hown : s.vm.findClass "com/example/harburg/harburg/epc/FieldCharacterCountPinLaw" = some m.cls := findClass_of_methodNamed Bd.named
  have hnm := (name_of_methodNamed Bd.named Bd.method).1
  have X0 : Stand p l e ({ frames := 4, cells := 3, slots := 10, locals := 66 } : Room) s m #[(.int p1), (.int p2), (.int p3), (.int p4), (.int p5), (.int p6)] below meth c s₁ [] 0 0 := Stand.of_body Bd
  have e0 : s₁.heap = h0 := by rw [← hh, Bd.state]; rfl
  have N0 := Fr.nil n0
  have pre0 : ∀ t, Steps p.tables e below (s₁.setTop (mkF m 0 #[.val (.int p1), .val (.int p2), .val (.int p3), .val (.int p4), .val (.int p5), .val (.int p6)] [])) t → Steps p.tables e below (s₁.setTop (entryFrame m #[(.int p1), (.int p2), (.int p3), (.int p4), (.int p5), (.int p6)] 6)) t := fun t k => castTop (ef_2 m p1 p2 p3 p4 p5 p6) k
  obtain ⟨T7, h7, X7, e7, E7, A7, D7, -, st7⟩ := newO X0 hx hZ hown (hw _ (List.mem_of_getElem? (i := 8) rfl)) (hw _ (List.mem_of_getElem? (i := 9) rfl)) (hw _ (List.mem_of_getElem? (i := 10) rfl)) e0 (g := (mkF m 64 #[.val (.int p1), .val (.int p2), .val (.int p3), .val (.int p4), .val (.int p5), .val (.int p6)] [])) rfl (hb hby d2_64) (by decide) (by decide)
  obtain ⟨b7, g7⟩ : ∃ z, z = h0.size := ⟨_, rfl⟩
  rw [← g7] at A7 D7 st7
  have F_value_b7 : Fld Z h7 b7 "java/lang/String" "value" "[B" .null := D7 (Or.inr (hw _ (List.mem_of_getElem? (i := 24) rfl))) (ty := (.array .byte)) (by decide)
  have F_coder_b7 : Fld Z h7 b7 "java/lang/String" "coder" "B" (.int (0 : Int32)) := D7 (Or.inr (hw _ (List.mem_of_getElem? (i := 25) rfl))) (ty := .byte) (by decide)
  have E_b7 := A7
  have g_b7 : n0 ≤ b7 := Nat.le_trans Z0 (Nat.le_of_eq g7.symm)
  have sz_b7 : h0.size ≤ b7 := (Nat.le_trans (Keep.refl h0 []).1 (Nat.le_of_eq g7.symm))
  have K7 : Keep h0 h7 [] := (Keep.refl h0 []).ext E7
  obtain ⟨T8, h8, k8, X8, e8, E8, A8, st8⟩ := newP X7 hx hZ (hw _ (List.mem_of_getElem? (i := 11) rfl)) e7 (g := (mkF m 69 #[.val (.int p1), .val (.int p2), .val (.int p3), .val (.int p4), .val (.int p5), .val (.int p6)] [(.int (3 : Int32)), (.ref b7), (.ref b7)])) rfl (hb hby d2_69) rfl (by decide) (cap := 3) (by decide) (by decide) (by decide) (by decide)
  obtain ⟨b8, g8⟩ : ∃ z, z = h7.size := ⟨_, rfl⟩
  rw [← g8] at A8 st8
  have V_b8 : Arv Z h8 b8 k8 .char (3 : Int32) [(.int (0 : Int32)), (.int (0 : Int32)), (.int (0 : Int32))] (.int (0 : Int32)) := (Arv.new A8 (by decide)).pad (pad_rep [] (.int (0 : Int32)) 3)
  have g_b8 : n0 ≤ b8 := Nat.le_trans (Nat.le_trans Z0 E7.1) (Nat.le_of_eq g8.symm)
  have sz_b8 : h0.size ≤ b8 := (Nat.le_trans K7.1 (Nat.le_of_eq g8.symm))
  have K8 : Keep h0 h8 [] := K7.ext E8
  obtain ⟨cl_b8_74, Ar_b8, q_b8, S_b8, N_b8, H_b8, G_b8⟩ := V_b8
  have hin74 : ¬ ((0 : Int32) < 0 ∨ cl_b8_74.slots.size ≤ ((0 : Int32)).toNatClampNeg) := inb_of S_b8 ⟨by decide, by decide⟩
  obtain ⟨T9, h9, X9, e9, W9, st9⟩ := stC X8 hx hZ e8 Ar_b8 (j := (0 : Int32)) hin74 (g := (mkF m 74 #[.val (.int p1), .val (.int p2), .val (.int p3), .val (.int p4), .val (.int p5), .val (.int p6)] [(.int p2), (.int (0 : Int32)), (.ref b8), (.ref b8), (.ref b7), (.ref b7)])) rfl rfl (hb hby d2_74)
  have V_b8_9 := Arv.set Ar_b8 q_b8 S_b8 N_b8 H_b8 G_b8 (fits_nar_char _) W9 0 rfl (Nat.le_of_ble_eq_true rfl)
  have K9 : Keep h0 h9 [] := K8.wr W9 (Or.inr sz_b8)
  have N9 := Fr.snoc X9 N0 g_b8
  obtain ⟨cl_b8_78, Ar_b8, q_b8, S_b8, N_b8, H_b8, G_b8⟩ := V_b8_9
  have hin78 : ¬ ((1 : Int32) < 0 ∨ cl_b8_78.slots.size ≤ ((1 : Int32)).toNatClampNeg) := inb_of S_b8 ⟨by decide, by decide⟩
  obtain ⟨T10, h10, X10, e10, W10, st10⟩ := stC X9 hx hZ e9 Ar_b8 (j := (1 : Int32)) hin78 (g := (mkF m 78 #[.val (.int p1), .val (.int p2), .val (.int p3), .val (.int p4), .val (.int p5), .val (.int p6)] [(.int p3), (.int (1 : Int32)), (.ref b8), (.ref b8), (.ref b7), (.ref b7)])) rfl rfl (hb hby d2_78)
  have V_b8_10 := Arv.set Ar_b8 q_b8 S_b8 N_b8 H_b8 G_b8 (fits_nar_char _) W10 1 rfl (Nat.le_of_ble_eq_true rfl)
  have K10 : Keep h0 h10 [] := K9.wr W10 (Or.inr sz_b8)
  have N10 := Fr.snoc X10 N9 g_b8
  obtain ⟨cl_b8_82, Ar_b8, q_b8, S_b8, N_b8, H_b8, G_b8⟩ := V_b8_10
  have hin82 : ¬ ((2 : Int32) < 0 ∨ cl_b8_82.slots.size ≤ ((2 : Int32)).toNatClampNeg) := inb_of S_b8 ⟨by decide, by decide⟩
  obtain ⟨T11, h11, X11, e11, W11, st11⟩ := stC X10 hx hZ e10 Ar_b8 (j := (2 : Int32)) hin82 (g := (mkF m 82 #[.val (.int p1), .val (.int p2), .val (.int p3), .val (.int p4), .val (.int p5), .val (.int p6)] [(.int p4), (.int (2 : Int32)), (.ref b8), (.ref b8), (.ref b7), (.ref b7)])) rfl rfl (hb hby d2_82)
  have V_b8_11 := Arv.set Ar_b8 q_b8 S_b8 N_b8 H_b8 G_b8 (fits_nar_char _) W11 2 rfl (Nat.le_of_ble_eq_true rfl)
  have K11 : Keep h0 h11 [] := K10.wr W11 (Or.inr sz_b8)
  have N11 := Fr.snoc X11 N10 g_b8
  have hws : ∀ d ∈ StrChars.Road.words, d.before a0 Z = true := fun d hd => hw d ((by decide +kernel : ∀ d ∈ StrChars.Road.words, d ∈ tables_1) d hd)
  have XO : Old Z n0 h11 := (((((X00.ext E7).ext E8).wr W9 g_b8).wr W10 g_b8).wr W11 g_b8)
  have VV : Arv Z h11 b8 k8 .char (3 : Int32) (([p2, p3, p4] : List Int32).map Value.int) (.int (0 : Int32)) := by
    have q := V_b8_11
    rw [own_nar p2 (hp _ (by simp)), own_nar p3 (hp _ (by simp)), own_nar p4 (hp _ (by simp))] at q
    exact q
  obtain ⟨_, _, ⟨T12, L12, k12, n12⟩, -, X12, ⟨Lc12, hQ12, l12, y12, z12⟩, st12⟩ := X11.specialBack hx (y := (⟨"java/lang/String", "<init>", "([C)V"⟩ : MethodName)) rfl hown (mvT hZ (hw _ (List.mem_of_getElem? (i := 12) rfl))) (mvT hZ (hw _ (List.mem_of_getElem? (i := 13) rfl))) (mvT hZ (hw _ (List.mem_of_getElem? (i := 14) rfl))) (by decide) (StrChars.Road.backV (W := 1) hZ hws (kI := 4) (hw _ (List.mem_of_getElem? (i := 9) rfl)) (cs := ([p2, p3, p4] : List Int32)) (bs := (([p2, p3, p4] : List Int32)).map (fun c => c.toInt8.toInt32)) (n := 3) g_b7 (Nat.le_trans Z0 K11.1) ((((A7.ext E8).wr W9).wr W10).wr W11) ((((F_value_b7.ext E8).other W9 (Or.inl (Nat.ne_of_lt (Nat.lt_of_lt_of_le A7.lt (Nat.le_of_eq g8.symm))))).other W10 (Or.inl (Nat.ne_of_lt (Nat.lt_of_lt_of_le A7.lt (Nat.le_of_eq g8.symm))))).other W11 (Or.inl (Nat.ne_of_lt (Nat.lt_of_lt_of_le A7.lt (Nat.le_of_eq g8.symm))))) ((((F_coder_b7.ext E8).other W9 (Or.inl (Nat.ne_of_lt (Nat.lt_of_lt_of_le A7.lt (Nat.le_of_eq g8.symm))))).other W10 (Or.inl (Nat.ne_of_lt (Nat.lt_of_lt_of_le A7.lt (Nat.le_of_eq g8.symm))))).other W11 (Or.inl (Nat.ne_of_lt (Nat.lt_of_lt_of_le A7.lt (Nat.le_of_eq g8.symm))))) VV (O2.ext XO.2) P5 rfl rfl (by decide) (by decide) hp rfl (by decide) (by decide)) (g := (mkF m 83 #[.val (.int p1), .val (.int p2), .val (.int p3), .val (.int p4), .val (.int p5), .val (.int p6)] [(.ref b8), (.ref b7), (.ref b7)])) rfl (by rw [hml]; rfl) (Steps.refl _) (a := b7) (argsL := [(.ref b8)]) (rest := [(.ref b7)]) (lenOf pd_2_2 rfl) rfl (by show 2 * 0 + _ ≤ _; exact Nat.le_of_eq rfl) (hb hby d2_83) (fun _ _ => ⟨rfl, e11, (by decide : 2 + 1 ≤ _), (by decide : 7 + 3 ≤ _)⟩)
  dsimp only [Pt.U, Pt.locs, Pt.cells, Pt.slots] at X12 l12 y12 z12 st12 hQ12
  subst l12 y12 z12
  obtain ⟨rfl, N12q, K12q, x12, gc12, at12, kt12, ut12, vt12, wt12, Fv12, Av12⟩ := hQ12
  have N12 := Fr.app N11 N12q
  obtain ⟨fs, hr, hrun, hended, hW, hsame⟩ := X12.leave (v := some (.ref b7)) (fun h => by rw [Bd.returns] at h; cases h)
  refine ⟨_, _, pre0 _ ?_, hrun, hended, _, _, rfl, ?_, ⟨_, rfl⟩, hW, hsame.mono (by decide) (by decide)⟩
  · show Steps p.tables e below (s₁.setTop (mkF m 0 #[.val (.int p1), .val (.int p2), .val (.int p3), .val (.int p4), .val (.int p5), .val (.int p6)] [])) _
    refine XS.iloadN X0.here hx rfl (hb hby d2_0) rfl ?_
    show Steps p.tables e below (s₁.setTop (mkF m 1 #[.val (.int p1), .val (.int p2), .val (.int p3), .val (.int p4), .val (.int p5), .val (.int p6)] [(.int p1)])) _
    refine XS.ifYes X0.here hx rfl (pc0 := 1) (pc' := 15) rfl (hb hby d2_1) rfl ((if0 _ _).trans (feq hc1).2) (by decide) (by decide) ?_
    show Steps p.tables e below (s₁.setTop (mkF m 15 #[.val (.int p1), .val (.int p2), .val (.int p3), .val (.int p4), .val (.int p5), .val (.int p6)] [])) _
    refine XS.iloadN X0.here hx rfl (hb hby d2_15) rfl ?_
    show Steps p.tables e below (s₁.setTop (mkF m 16 #[.val (.int p1), .val (.int p2), .val (.int p3), .val (.int p4), .val (.int p5), .val (.int p6)] [(.int p1)])) _
    refine XS.iconst X0.here hx rfl (hb hby d2_16) ?_
    show Steps p.tables e below (s₁.setTop (mkF m 17 #[.val (.int p1), .val (.int p2), .val (.int p3), .val (.int p4), .val (.int p5), .val (.int p6)] [(.int (1 : Int32)), (.int p1)])) _
    refine XS.icmpYes X0.here hx rfl (pc0 := 17) (pc' := 35) rfl (hb hby d2_17) rfl (feq hc17).2 (by decide) (by decide) ?_
    show Steps p.tables e below (s₁.setTop (mkF m 35 #[.val (.int p1), .val (.int p2), .val (.int p3), .val (.int p4), .val (.int p5), .val (.int p6)] [])) _
    refine XS.iloadN X0.here hx rfl (hb hby d2_35) rfl ?_
    show Steps p.tables e below (s₁.setTop (mkF m 36 #[.val (.int p1), .val (.int p2), .val (.int p3), .val (.int p4), .val (.int p5), .val (.int p6)] [(.int p1)])) _
    refine XS.iconst X0.here hx rfl (hb hby d2_36) ?_
    show Steps p.tables e below (s₁.setTop (mkF m 37 #[.val (.int p1), .val (.int p2), .val (.int p3), .val (.int p4), .val (.int p5), .val (.int p6)] [(.int (2 : Int32)), (.int p1)])) _
    refine XS.icmpYes X0.here hx rfl (pc0 := 37) (pc' := 59) rfl (hb hby d2_37) rfl (feq hc37).2 (by decide) (by decide) ?_
    show Steps p.tables e below (s₁.setTop (mkF m 59 #[.val (.int p1), .val (.int p2), .val (.int p3), .val (.int p4), .val (.int p5), .val (.int p6)] [])) _
    refine XS.iloadN X0.here hx rfl (hb hby d2_59) rfl ?_
    show Steps p.tables e below (s₁.setTop (mkF m 60 #[.val (.int p1), .val (.int p2), .val (.int p3), .val (.int p4), .val (.int p5), .val (.int p6)] [(.int p1)])) _
    refine XS.iconst X0.here hx rfl (hb hby d2_60) ?_
    show Steps p.tables e below (s₁.setTop (mkF m 61 #[.val (.int p1), .val (.int p2), .val (.int p3), .val (.int p4), .val (.int p5), .val (.int p6)] [(.int (3 : Int32)), (.int p1)])) _
    refine XS.icmpNo X0.here hx rfl (hb hby d2_61) rfl (teq hc61).2 ?_
    show Steps p.tables e below (s₁.setTop (mkF m 64 #[.val (.int p1), .val (.int p2), .val (.int p3), .val (.int p4), .val (.int p5), .val (.int p6)] [])) _
    refine st7 _ ?_
    show Steps p.tables e below (T7.setTop (mkF m 67 #[.val (.int p1), .val (.int p2), .val (.int p3), .val (.int p4), .val (.int p5), .val (.int p6)] [(.ref b7)])) _
    refine XS.dup X7.here hx rfl (hb hby d2_67) rfl rfl ?_
    show Steps p.tables e below (T7.setTop (mkF m 68 #[.val (.int p1), .val (.int p2), .val (.int p3), .val (.int p4), .val (.int p5), .val (.int p6)] [(.ref b7), (.ref b7)])) _
    refine XS.iconst X7.here hx rfl (hb hby d2_68) ?_
    show Steps p.tables e below (T7.setTop (mkF m 69 #[.val (.int p1), .val (.int p2), .val (.int p3), .val (.int p4), .val (.int p5), .val (.int p6)] [(.int (3 : Int32)), (.ref b7), (.ref b7)])) _
    refine st8 _ ?_
    show Steps p.tables e below (T8.setTop (mkF m 71 #[.val (.int p1), .val (.int p2), .val (.int p3), .val (.int p4), .val (.int p5), .val (.int p6)] [(.ref b8), (.ref b7), (.ref b7)])) _
    refine XS.dup X8.here hx rfl (hb hby d2_71) rfl rfl ?_
    show Steps p.tables e below (T8.setTop (mkF m 72 #[.val (.int p1), .val (.int p2), .val (.int p3), .val (.int p4), .val (.int p5), .val (.int p6)] [(.ref b8), (.ref b8), (.ref b7), (.ref b7)])) _
    refine XS.iconst X8.here hx rfl (hb hby d2_72) ?_
    show Steps p.tables e below (T8.setTop (mkF m 73 #[.val (.int p1), .val (.int p2), .val (.int p3), .val (.int p4), .val (.int p5), .val (.int p6)] [(.int (0 : Int32)), (.ref b8), (.ref b8), (.ref b7), (.ref b7)])) _
    refine XS.iloadN X8.here hx rfl (hb hby d2_73) rfl ?_
    show Steps p.tables e below (T8.setTop (mkF m 74 #[.val (.int p1), .val (.int p2), .val (.int p3), .val (.int p4), .val (.int p5), .val (.int p6)] [(.int p2), (.int (0 : Int32)), (.ref b8), (.ref b8), (.ref b7), (.ref b7)])) _
    refine st9 _ ?_
    show Steps p.tables e below (T9.setTop (mkF m 75 #[.val (.int p1), .val (.int p2), .val (.int p3), .val (.int p4), .val (.int p5), .val (.int p6)] [(.ref b8), (.ref b7), (.ref b7)])) _
    refine XS.dup X9.here hx rfl (hb hby d2_75) rfl rfl ?_
    show Steps p.tables e below (T9.setTop (mkF m 76 #[.val (.int p1), .val (.int p2), .val (.int p3), .val (.int p4), .val (.int p5), .val (.int p6)] [(.ref b8), (.ref b8), (.ref b7), (.ref b7)])) _
    refine XS.iconst X9.here hx rfl (hb hby d2_76) ?_
    show Steps p.tables e below (T9.setTop (mkF m 77 #[.val (.int p1), .val (.int p2), .val (.int p3), .val (.int p4), .val (.int p5), .val (.int p6)] [(.int (1 : Int32)), (.ref b8), (.ref b8), (.ref b7), (.ref b7)])) _
    refine XS.iloadN X9.here hx rfl (hb hby d2_77) rfl ?_
    show Steps p.tables e below (T9.setTop (mkF m 78 #[.val (.int p1), .val (.int p2), .val (.int p3), .val (.int p4), .val (.int p5), .val (.int p6)] [(.int p3), (.int (1 : Int32)), (.ref b8), (.ref b8), (.ref b7), (.ref b7)])) _
    refine st10 _ ?_
    show Steps p.tables e below (T10.setTop (mkF m 79 #[.val (.int p1), .val (.int p2), .val (.int p3), .val (.int p4), .val (.int p5), .val (.int p6)] [(.ref b8), (.ref b7), (.ref b7)])) _
    refine XS.dup X10.here hx rfl (hb hby d2_79) rfl rfl ?_
    show Steps p.tables e below (T10.setTop (mkF m 80 #[.val (.int p1), .val (.int p2), .val (.int p3), .val (.int p4), .val (.int p5), .val (.int p6)] [(.ref b8), (.ref b8), (.ref b7), (.ref b7)])) _
    refine XS.iconst X10.here hx rfl (hb hby d2_80) ?_
    show Steps p.tables e below (T10.setTop (mkF m 81 #[.val (.int p1), .val (.int p2), .val (.int p3), .val (.int p4), .val (.int p5), .val (.int p6)] [(.int (2 : Int32)), (.ref b8), (.ref b8), (.ref b7), (.ref b7)])) _
    refine XS.iloadN X10.here hx rfl (hb hby d2_81) rfl ?_
    show Steps p.tables e below (T10.setTop (mkF m 82 #[.val (.int p1), .val (.int p2), .val (.int p3), .val (.int p4), .val (.int p5), .val (.int p6)] [(.int p4), (.int (2 : Int32)), (.ref b8), (.ref b8), (.ref b7), (.ref b7)])) _
    refine st11 _ ?_
    show Steps p.tables e below (T11.setTop (mkF m 83 #[.val (.int p1), .val (.int p2), .val (.int p3), .val (.int p4), .val (.int p5), .val (.int p6)] [(.ref b8), (.ref b7), (.ref b7)])) _
    refine st12.trans ?_
    show Steps p.tables e below (T12.setTop (mkF m 86 #[.val (.int p1), .val (.int p2), .val (.int p3), .val (.int p4), .val (.int p5), .val (.int p6)] [(.ref b7)])) _
    jvm_step X12.here [X12.here.top, hx, (hb hby d2_86), X12.method', Bd.returns, Value.isRef, FieldType.isReference]
    first | (intro acts; rw [hr _ acts rfl rfl rfl]) | rw [hr _ _ rfl rfl rfl]
    exact Steps.refl _
  · show Q2_3 Z p1 p2 p3 p4 p5 p6 h0 n0 _ T12.heap _
    exact ⟨b7, rfl, N12, K11.trans K12q (allS (Or.inr sz_b7) all0), x12, at12, kt12, Fv12, gc12, Av12⟩
theorem d2_87 : decode method_5_code 87 = .ok (.iload_n 0, 1) := by decide +kernel
theorem d2_88 : decode method_5_code 88 = .ok (.iconst 4, 1) := by decide +kernel
theorem d2_89 : decode method_5_code 89 = .ok (.if_icmp .ne 31, 3) := by decide +kernel
theorem d2_92 : decode method_5_code 92 = .ok (.new 29, 3) := by decide +kernel
theorem d2_95 : decode method_5_code 95 = .ok (.dup, 1) := by decide +kernel
theorem d2_96 : decode method_5_code 96 = .ok (.iconst 4, 1) := by decide +kernel
theorem d2_97 : decode method_5_code 97 = .ok (.newarray .char, 2) := by decide +kernel
theorem d2_99 : decode method_5_code 99 = .ok (.dup, 1) := by decide +kernel
theorem d2_100 : decode method_5_code 100 = .ok (.iconst 0, 1) := by decide +kernel
theorem d2_101 : decode method_5_code 101 = .ok (.iload_n 1, 1) := by decide +kernel
theorem d2_102 : decode method_5_code 102 = .ok (.castore, 1) := by decide +kernel
theorem d2_103 : decode method_5_code 103 = .ok (.dup, 1) := by decide +kernel
theorem d2_104 : decode method_5_code 104 = .ok (.iconst 1, 1) := by decide +kernel
theorem d2_105 : decode method_5_code 105 = .ok (.iload_n 2, 1) := by decide +kernel
theorem d2_106 : decode method_5_code 106 = .ok (.castore, 1) := by decide +kernel
theorem d2_107 : decode method_5_code 107 = .ok (.dup, 1) := by decide +kernel
theorem d2_108 : decode method_5_code 108 = .ok (.iconst 2, 1) := by decide +kernel
theorem d2_109 : decode method_5_code 109 = .ok (.iload_n 3, 1) := by decide +kernel
theorem d2_110 : decode method_5_code 110 = .ok (.castore, 1) := by decide +kernel
theorem d2_111 : decode method_5_code 111 = .ok (.dup, 1) := by decide +kernel
theorem d2_112 : decode method_5_code 112 = .ok (.iconst 3, 1) := by decide +kernel
theorem d2_113 : decode method_5_code 113 = .ok (.iload 4, 2) := by decide +kernel
theorem d2_115 : decode method_5_code 115 = .ok (.castore, 1) := by decide +kernel
theorem d2_116 : decode method_5_code 116 = .ok (.invokespecial 34, 3) := by decide +kernel
theorem d2_119 : decode method_5_code 119 = .ok (.areturn, 1) := by decide +kernel
def Q2_4 (Z : State) (p1 : Int32) (p2 : Int32) (p3 : Int32) (p4 : Int32) (p5 : Int32) (p6 : Int32) (h0 : Heap) (n0 : Nat) (v : Option Value) (h : Heap) (L : List Loc) : Prop := ∃ b : Addr, v = some (.ref b) ∧ Fr n0 L ∧ Keep h0 h [] ∧ own_STR Z h b ([p2, p3, p4, p5] : List Int32)
set_option maxRecDepth 65536 in
set_option maxHeartbeats 40000000 in
theorem rm2_4 (l : Launch) (Z : State) (a0 : Array Value) (hw : ∀ d ∈ tables_1, d.before a0 Z = true) (ws : List Jvm.Cond) (p1 : Int32) (p2 : Int32) (p3 : Int32) (p4 : Int32) (p5 : Int32) (p6 : Int32) (h0 : Heap) (n0 : Nat) (Z0 : n0 ≤ h0.size) (G1 : Int32) (O2 : Sta Z Z.heap "java/lang/String" "COMPACT_STRINGS" "Z" (.int G1)) (P5 : ¬ (G1 = (0 : Int32))) (X00 : Old Z n0 h0) (hp : ∀ c ∈ ([p2, p3, p4, p5] : List Int32), ¬ c < 0 ∧ ¬ (255 : Int32) < c) (hc1 : ¬ (p1 = (0 : Int32))) (hc17 : ¬ (p1 = (1 : Int32))) (hc37 : ¬ (p1 = (2 : Int32))) (hc61 : ¬ (p1 = (3 : Int32))) (hc89 : p1 = (4 : Int32)) :
    MetFree l (⟨"com/example/harburg/harburg/epc/FieldCharacterCountPinLaw", "make", "(ICCCCC)Ljava/lang/String;"⟩ : MethodName) (head1 (Jvm.Cond.code (⟨"com/example/harburg/harburg/epc/FieldCharacterCountPinLaw", "make", "(ICCCCC)Ljava/lang/String;"⟩ : MethodName) method_5_code 6 (some (.object "java/lang/String")) :: ws) ({ frames := 4, cells := 3, slots := 12, locals := 66 } : Room)) (fun a U => a = #[(.int p1), (.int p2), (.int p3), (.int p4), (.int p5), (.int p6)] ∧ Z.Warmed39 U.vm ∧ U.heap = h0) (fun _ _ _ _ _ => True) (fun _ U o U' => ∃ v L, o = .returned v ∧ Q2_4 Z p1 p2 p3 p4 p5 p6 h0 n0 v U'.heap L ∧ FrameEnd U o U' L ({ frames := 4, cells := 3, slots := 12, locals := 66 } : Room).cells ({ frames := 4, cells := 3, slots := 12, locals := 66 } : Room).slots) := by
  refine MetFree.of_bodySF (plainFor_of_name pn_2) hisR ?_
  intro p e s m args below meth c s₁ Bd hml0 hP hK
  obtain ⟨rfl, hZ, hh⟩ := hP
  have hx := Bd.exec
  have hby := Bd.bytes
  have hml : c.maxLocals = 6 := hml0
  have hown : s.vm.findClass "com/example/harburg/harburg/epc/FieldCharacterCountPinLaw" = some m.cls := findClass_of_methodNamed Bd.named
  have hnm := (name_of_methodNamed Bd.named Bd.method).1
  have X0 : Stand p l e ({ frames := 4, cells := 3, slots := 12, locals := 66 } : Room) s m #[(.int p1), (.int p2), (.int p3), (.int p4), (.int p5), (.int p6)] below meth c s₁ [] 0 0 := Stand.of_body Bd
  have e0 : s₁.heap = h0 := by rw [← hh, Bd.state]; rfl
  have N0 := Fr.nil n0
  have pre0 : ∀ t, Steps p.tables e below (s₁.setTop (mkF m 0 #[.val (.int p1), .val (.int p2), .val (.int p3), .val (.int p4), .val (.int p5), .val (.int p6)] [])) t → Steps p.tables e below (s₁.setTop (entryFrame m #[(.int p1), (.int p2), (.int p3), (.int p4), (.int p5), (.int p6)] 6)) t := fun t k => castTop (ef_2 m p1 p2 p3 p4 p5 p6) k
  obtain ⟨T7, h7, X7, e7, E7, A7, D7, -, st7⟩ := newO X0 hx hZ hown (hw _ (List.mem_of_getElem? (i := 8) rfl)) (hw _ (List.mem_of_getElem? (i := 9) rfl)) (hw _ (List.mem_of_getElem? (i := 10) rfl)) e0 (g := (mkF m 92 #[.val (.int p1), .val (.int p2), .val (.int p3), .val (.int p4), .val (.int p5), .val (.int p6)] [])) rfl (hb hby d2_92) (by decide) (by decide)
  obtain ⟨b7, g7⟩ : ∃ z, z = h0.size := ⟨_, rfl⟩
  rw [← g7] at A7 D7 st7
  have F_value_b7 : Fld Z h7 b7 "java/lang/String" "value" "[B" .null := D7 (Or.inr (hw _ (List.mem_of_getElem? (i := 24) rfl))) (ty := (.array .byte)) (by decide)
  have F_coder_b7 : Fld Z h7 b7 "java/lang/String" "coder" "B" (.int (0 : Int32)) := D7 (Or.inr (hw _ (List.mem_of_getElem? (i := 25) rfl))) (ty := .byte) (by decide)
  have E_b7 := A7
  have g_b7 : n0 ≤ b7 := Nat.le_trans Z0 (Nat.le_of_eq g7.symm)
  have sz_b7 : h0.size ≤ b7 := (Nat.le_trans (Keep.refl h0 []).1 (Nat.le_of_eq g7.symm))
  have K7 : Keep h0 h7 [] := (Keep.refl h0 []).ext E7
  obtain ⟨T8, h8, k8, X8, e8, E8, A8, st8⟩ := newP X7 hx hZ (hw _ (List.mem_of_getElem? (i := 11) rfl)) e7 (g := (mkF m 97 #[.val (.int p1), .val (.int p2), .val (.int p3), .val (.int p4), .val (.int p5), .val (.int p6)] [(.int (4 : Int32)), (.ref b7), (.ref b7)])) rfl (hb hby d2_97) rfl (by decide) (cap := 4) (by decide) (by decide) (by decide) (by decide)
  obtain ⟨b8, g8⟩ : ∃ z, z = h7.size := ⟨_, rfl⟩
  rw [← g8] at A8 st8
  have V_b8 : Arv Z h8 b8 k8 .char (4 : Int32) [(.int (0 : Int32)), (.int (0 : Int32)), (.int (0 : Int32)), (.int (0 : Int32))] (.int (0 : Int32)) := (Arv.new A8 (by decide)).pad (pad_rep [] (.int (0 : Int32)) 4)
  have g_b8 : n0 ≤ b8 := Nat.le_trans (Nat.le_trans Z0 E7.1) (Nat.le_of_eq g8.symm)
  have sz_b8 : h0.size ≤ b8 := (Nat.le_trans K7.1 (Nat.le_of_eq g8.symm))
  have K8 : Keep h0 h8 [] := K7.ext E8
  obtain ⟨cl_b8_102, Ar_b8, q_b8, S_b8, N_b8, H_b8, G_b8⟩ := V_b8
  have hin102 : ¬ ((0 : Int32) < 0 ∨ cl_b8_102.slots.size ≤ ((0 : Int32)).toNatClampNeg) := inb_of S_b8 ⟨by decide, by decide⟩
  obtain ⟨T9, h9, X9, e9, W9, st9⟩ := stC X8 hx hZ e8 Ar_b8 (j := (0 : Int32)) hin102 (g := (mkF m 102 #[.val (.int p1), .val (.int p2), .val (.int p3), .val (.int p4), .val (.int p5), .val (.int p6)] [(.int p2), (.int (0 : Int32)), (.ref b8), (.ref b8), (.ref b7), (.ref b7)])) rfl rfl (hb hby d2_102)
  have V_b8_9 := Arv.set Ar_b8 q_b8 S_b8 N_b8 H_b8 G_b8 (fits_nar_char _) W9 0 rfl (Nat.le_of_ble_eq_true rfl)
  have K9 : Keep h0 h9 [] := K8.wr W9 (Or.inr sz_b8)
  have N9 := Fr.snoc X9 N0 g_b8
  obtain ⟨cl_b8_106, Ar_b8, q_b8, S_b8, N_b8, H_b8, G_b8⟩ := V_b8_9
  have hin106 : ¬ ((1 : Int32) < 0 ∨ cl_b8_106.slots.size ≤ ((1 : Int32)).toNatClampNeg) := inb_of S_b8 ⟨by decide, by decide⟩
  obtain ⟨T10, h10, X10, e10, W10, st10⟩ := stC X9 hx hZ e9 Ar_b8 (j := (1 : Int32)) hin106 (g := (mkF m 106 #[.val (.int p1), .val (.int p2), .val (.int p3), .val (.int p4), .val (.int p5), .val (.int p6)] [(.int p3), (.int (1 : Int32)), (.ref b8), (.ref b8), (.ref b7), (.ref b7)])) rfl rfl (hb hby d2_106)
  have V_b8_10 := Arv.set Ar_b8 q_b8 S_b8 N_b8 H_b8 G_b8 (fits_nar_char _) W10 1 rfl (Nat.le_of_ble_eq_true rfl)
  have K10 : Keep h0 h10 [] := K9.wr W10 (Or.inr sz_b8)
  have N10 := Fr.snoc X10 N9 g_b8
  obtain ⟨cl_b8_110, Ar_b8, q_b8, S_b8, N_b8, H_b8, G_b8⟩ := V_b8_10
  have hin110 : ¬ ((2 : Int32) < 0 ∨ cl_b8_110.slots.size ≤ ((2 : Int32)).toNatClampNeg) := inb_of S_b8 ⟨by decide, by decide⟩
  obtain ⟨T11, h11, X11, e11, W11, st11⟩ := stC X10 hx hZ e10 Ar_b8 (j := (2 : Int32)) hin110 (g := (mkF m 110 #[.val (.int p1), .val (.int p2), .val (.int p3), .val (.int p4), .val (.int p5), .val (.int p6)] [(.int p4), (.int (2 : Int32)), (.ref b8), (.ref b8), (.ref b7), (.ref b7)])) rfl rfl (hb hby d2_110)
  have V_b8_11 := Arv.set Ar_b8 q_b8 S_b8 N_b8 H_b8 G_b8 (fits_nar_char _) W11 2 rfl (Nat.le_of_ble_eq_true rfl)
  have K11 : Keep h0 h11 [] := K10.wr W11 (Or.inr sz_b8)
  have N11 := Fr.snoc X11 N10 g_b8
  obtain ⟨cl_b8_115, Ar_b8, q_b8, S_b8, N_b8, H_b8, G_b8⟩ := V_b8_11
  have hin115 : ¬ ((3 : Int32) < 0 ∨ cl_b8_115.slots.size ≤ ((3 : Int32)).toNatClampNeg) := inb_of S_b8 ⟨by decide, by decide⟩
  obtain ⟨T12, h12, X12, e12, W12, st12⟩ := stC X11 hx hZ e11 Ar_b8 (j := (3 : Int32)) hin115 (g := (mkF m 115 #[.val (.int p1), .val (.int p2), .val (.int p3), .val (.int p4), .val (.int p5), .val (.int p6)] [(.int p5), (.int (3 : Int32)), (.ref b8), (.ref b8), (.ref b7), (.ref b7)])) rfl rfl (hb hby d2_115)
  have V_b8_12 := Arv.set Ar_b8 q_b8 S_b8 N_b8 H_b8 G_b8 (fits_nar_char _) W12 3 rfl (Nat.le_of_ble_eq_true rfl)
  have K12 : Keep h0 h12 [] := K11.wr W12 (Or.inr sz_b8)
  have N12 := Fr.snoc X12 N11 g_b8
  have hws : ∀ d ∈ StrChars.Road.words, d.before a0 Z = true := fun d hd => hw d ((by decide +kernel : ∀ d ∈ StrChars.Road.words, d ∈ tables_1) d hd)
  have XO : Old Z n0 h12 := ((((((X00.ext E7).ext E8).wr W9 g_b8).wr W10 g_b8).wr W11 g_b8).wr W12 g_b8)
  have VV : Arv Z h12 b8 k8 .char (4 : Int32) (([p2, p3, p4, p5] : List Int32).map Value.int) (.int (0 : Int32)) := by
    have q := V_b8_12
    rw [own_nar p2 (hp _ (by simp)), own_nar p3 (hp _ (by simp)), own_nar p4 (hp _ (by simp)), own_nar p5 (hp _ (by simp))] at q
    exact q
  obtain ⟨_, _, ⟨T13, L13, k13, n13⟩, -, X13, ⟨Lc13, hQ13, l13, y13, z13⟩, st13⟩ := X12.specialBack hx (y := (⟨"java/lang/String", "<init>", "([C)V"⟩ : MethodName)) rfl hown (mvT hZ (hw _ (List.mem_of_getElem? (i := 12) rfl))) (mvT hZ (hw _ (List.mem_of_getElem? (i := 13) rfl))) (mvT hZ (hw _ (List.mem_of_getElem? (i := 14) rfl))) (by decide) (StrChars.Road.backV (W := 1) hZ hws (kI := 4) (hw _ (List.mem_of_getElem? (i := 9) rfl)) (cs := ([p2, p3, p4, p5] : List Int32)) (bs := (([p2, p3, p4, p5] : List Int32)).map (fun c => c.toInt8.toInt32)) (n := 4) g_b7 (Nat.le_trans Z0 K12.1) (((((A7.ext E8).wr W9).wr W10).wr W11).wr W12) (((((F_value_b7.ext E8).other W9 (Or.inl (Nat.ne_of_lt (Nat.lt_of_lt_of_le A7.lt (Nat.le_of_eq g8.symm))))).other W10 (Or.inl (Nat.ne_of_lt (Nat.lt_of_lt_of_le A7.lt (Nat.le_of_eq g8.symm))))).other W11 (Or.inl (Nat.ne_of_lt (Nat.lt_of_lt_of_le A7.lt (Nat.le_of_eq g8.symm))))).other W12 (Or.inl (Nat.ne_of_lt (Nat.lt_of_lt_of_le A7.lt (Nat.le_of_eq g8.symm))))) (((((F_coder_b7.ext E8).other W9 (Or.inl (Nat.ne_of_lt (Nat.lt_of_lt_of_le A7.lt (Nat.le_of_eq g8.symm))))).other W10 (Or.inl (Nat.ne_of_lt (Nat.lt_of_lt_of_le A7.lt (Nat.le_of_eq g8.symm))))).other W11 (Or.inl (Nat.ne_of_lt (Nat.lt_of_lt_of_le A7.lt (Nat.le_of_eq g8.symm))))).other W12 (Or.inl (Nat.ne_of_lt (Nat.lt_of_lt_of_le A7.lt (Nat.le_of_eq g8.symm))))) VV (O2.ext XO.2) P5 rfl rfl (by decide) (by decide) hp rfl (by decide) (by decide)) (g := (mkF m 116 #[.val (.int p1), .val (.int p2), .val (.int p3), .val (.int p4), .val (.int p5), .val (.int p6)] [(.ref b8), (.ref b7), (.ref b7)])) rfl (by rw [hml]; rfl) (Steps.refl _) (a := b7) (argsL := [(.ref b8)]) (rest := [(.ref b7)]) (lenOf pd_2_2 rfl) rfl (by show 2 * 0 + _ ≤ _; exact Nat.le_of_eq rfl) (hb hby d2_116) (fun _ _ => ⟨rfl, e12, (by decide : 2 + 1 ≤ _), (by decide : 8 + 4 ≤ _)⟩)
  dsimp only [Pt.U, Pt.locs, Pt.cells, Pt.slots] at X13 l13 y13 z13 st13 hQ13
  subst l13 y13 z13
  obtain ⟨rfl, N13q, K13q, x13, gc13, at13, kt13, ut13, vt13, wt13, Fv13, Av13⟩ := hQ13
  have N13 := Fr.app N12 N13q
  obtain ⟨fs, hr, hrun, hended, hW, hsame⟩ := X13.leave (v := some (.ref b7)) (fun h => by rw [Bd.returns] at h; cases h)
  refine ⟨_, _, pre0 _ ?_, hrun, hended, _, _, rfl, ?_, ⟨_, rfl⟩, hW, hsame.mono (by decide) (by decide)⟩
  · show Steps p.tables e below (s₁.setTop (mkF m 0 #[.val (.int p1), .val (.int p2), .val (.int p3), .val (.int p4), .val (.int p5), .val (.int p6)] [])) _
    refine XS.iloadN X0.here hx rfl (hb hby d2_0) rfl ?_
    show Steps p.tables e below (s₁.setTop (mkF m 1 #[.val (.int p1), .val (.int p2), .val (.int p3), .val (.int p4), .val (.int p5), .val (.int p6)] [(.int p1)])) _
    refine XS.ifYes X0.here hx rfl (pc0 := 1) (pc' := 15) rfl (hb hby d2_1) rfl ((if0 _ _).trans (feq hc1).2) (by decide) (by decide) ?_
    show Steps p.tables e below (s₁.setTop (mkF m 15 #[.val (.int p1), .val (.int p2), .val (.int p3), .val (.int p4), .val (.int p5), .val (.int p6)] [])) _
    refine XS.iloadN X0.here hx rfl (hb hby d2_15) rfl ?_
    show Steps p.tables e below (s₁.setTop (mkF m 16 #[.val (.int p1), .val (.int p2), .val (.int p3), .val (.int p4), .val (.int p5), .val (.int p6)] [(.int p1)])) _
    refine XS.iconst X0.here hx rfl (hb hby d2_16) ?_
    show Steps p.tables e below (s₁.setTop (mkF m 17 #[.val (.int p1), .val (.int p2), .val (.int p3), .val (.int p4), .val (.int p5), .val (.int p6)] [(.int (1 : Int32)), (.int p1)])) _
    refine XS.icmpYes X0.here hx rfl (pc0 := 17) (pc' := 35) rfl (hb hby d2_17) rfl (feq hc17).2 (by decide) (by decide) ?_
    show Steps p.tables e below (s₁.setTop (mkF m 35 #[.val (.int p1), .val (.int p2), .val (.int p3), .val (.int p4), .val (.int p5), .val (.int p6)] [])) _
    refine XS.iloadN X0.here hx rfl (hb hby d2_35) rfl ?_
    show Steps p.tables e below (s₁.setTop (mkF m 36 #[.val (.int p1), .val (.int p2), .val (.int p3), .val (.int p4), .val (.int p5), .val (.int p6)] [(.int p1)])) _
    refine XS.iconst X0.here hx rfl (hb hby d2_36) ?_
    show Steps p.tables e below (s₁.setTop (mkF m 37 #[.val (.int p1), .val (.int p2), .val (.int p3), .val (.int p4), .val (.int p5), .val (.int p6)] [(.int (2 : Int32)), (.int p1)])) _
    refine XS.icmpYes X0.here hx rfl (pc0 := 37) (pc' := 59) rfl (hb hby d2_37) rfl (feq hc37).2 (by decide) (by decide) ?_
    show Steps p.tables e below (s₁.setTop (mkF m 59 #[.val (.int p1), .val (.int p2), .val (.int p3), .val (.int p4), .val (.int p5), .val (.int p6)] [])) _
    refine XS.iloadN X0.here hx rfl (hb hby d2_59) rfl ?_
    show Steps p.tables e below (s₁.setTop (mkF m 60 #[.val (.int p1), .val (.int p2), .val (.int p3), .val (.int p4), .val (.int p5), .val (.int p6)] [(.int p1)])) _
    refine XS.iconst X0.here hx rfl (hb hby d2_60) ?_
    show Steps p.tables e below (s₁.setTop (mkF m 61 #[.val (.int p1), .val (.int p2), .val (.int p3), .val (.int p4), .val (.int p5), .val (.int p6)] [(.int (3 : Int32)), (.int p1)])) _
    refine XS.icmpYes X0.here hx rfl (pc0 := 61) (pc' := 87) rfl (hb hby d2_61) rfl (feq hc61).2 (by decide) (by decide) ?_
    show Steps p.tables e below (s₁.setTop (mkF m 87 #[.val (.int p1), .val (.int p2), .val (.int p3), .val (.int p4), .val (.int p5), .val (.int p6)] [])) _
    refine XS.iloadN X0.here hx rfl (hb hby d2_87) rfl ?_
    show Steps p.tables e below (s₁.setTop (mkF m 88 #[.val (.int p1), .val (.int p2), .val (.int p3), .val (.int p4), .val (.int p5), .val (.int p6)] [(.int p1)])) _
    refine XS.iconst X0.here hx rfl (hb hby d2_88) ?_
    show Steps p.tables e below (s₁.setTop (mkF m 89 #[.val (.int p1), .val (.int p2), .val (.int p3), .val (.int p4), .val (.int p5), .val (.int p6)] [(.int (4 : Int32)), (.int p1)])) _
    refine XS.icmpNo X0.here hx rfl (hb hby d2_89) rfl (teq hc89).2 ?_
    show Steps p.tables e below (s₁.setTop (mkF m 92 #[.val (.int p1), .val (.int p2), .val (.int p3), .val (.int p4), .val (.int p5), .val (.int p6)] [])) _
    refine st7 _ ?_
    show Steps p.tables e below (T7.setTop (mkF m 95 #[.val (.int p1), .val (.int p2), .val (.int p3), .val (.int p4), .val (.int p5), .val (.int p6)] [(.ref b7)])) _
    refine XS.dup X7.here hx rfl (hb hby d2_95) rfl rfl ?_
    show Steps p.tables e below (T7.setTop (mkF m 96 #[.val (.int p1), .val (.int p2), .val (.int p3), .val (.int p4), .val (.int p5), .val (.int p6)] [(.ref b7), (.ref b7)])) _
    refine XS.iconst X7.here hx rfl (hb hby d2_96) ?_
    show Steps p.tables e below (T7.setTop (mkF m 97 #[.val (.int p1), .val (.int p2), .val (.int p3), .val (.int p4), .val (.int p5), .val (.int p6)] [(.int (4 : Int32)), (.ref b7), (.ref b7)])) _
    refine st8 _ ?_
    show Steps p.tables e below (T8.setTop (mkF m 99 #[.val (.int p1), .val (.int p2), .val (.int p3), .val (.int p4), .val (.int p5), .val (.int p6)] [(.ref b8), (.ref b7), (.ref b7)])) _
    refine XS.dup X8.here hx rfl (hb hby d2_99) rfl rfl ?_
    show Steps p.tables e below (T8.setTop (mkF m 100 #[.val (.int p1), .val (.int p2), .val (.int p3), .val (.int p4), .val (.int p5), .val (.int p6)] [(.ref b8), (.ref b8), (.ref b7), (.ref b7)])) _
    refine XS.iconst X8.here hx rfl (hb hby d2_100) ?_
    show Steps p.tables e below (T8.setTop (mkF m 101 #[.val (.int p1), .val (.int p2), .val (.int p3), .val (.int p4), .val (.int p5), .val (.int p6)] [(.int (0 : Int32)), (.ref b8), (.ref b8), (.ref b7), (.ref b7)])) _
    refine XS.iloadN X8.here hx rfl (hb hby d2_101) rfl ?_
    show Steps p.tables e below (T8.setTop (mkF m 102 #[.val (.int p1), .val (.int p2), .val (.int p3), .val (.int p4), .val (.int p5), .val (.int p6)] [(.int p2), (.int (0 : Int32)), (.ref b8), (.ref b8), (.ref b7), (.ref b7)])) _
    refine st9 _ ?_
    show Steps p.tables e below (T9.setTop (mkF m 103 #[.val (.int p1), .val (.int p2), .val (.int p3), .val (.int p4), .val (.int p5), .val (.int p6)] [(.ref b8), (.ref b7), (.ref b7)])) _
    refine XS.dup X9.here hx rfl (hb hby d2_103) rfl rfl ?_
    show Steps p.tables e below (T9.setTop (mkF m 104 #[.val (.int p1), .val (.int p2), .val (.int p3), .val (.int p4), .val (.int p5), .val (.int p6)] [(.ref b8), (.ref b8), (.ref b7), (.ref b7)])) _
    refine XS.iconst X9.here hx rfl (hb hby d2_104) ?_
    show Steps p.tables e below (T9.setTop (mkF m 105 #[.val (.int p1), .val (.int p2), .val (.int p3), .val (.int p4), .val (.int p5), .val (.int p6)] [(.int (1 : Int32)), (.ref b8), (.ref b8), (.ref b7), (.ref b7)])) _
    refine XS.iloadN X9.here hx rfl (hb hby d2_105) rfl ?_
    show Steps p.tables e below (T9.setTop (mkF m 106 #[.val (.int p1), .val (.int p2), .val (.int p3), .val (.int p4), .val (.int p5), .val (.int p6)] [(.int p3), (.int (1 : Int32)), (.ref b8), (.ref b8), (.ref b7), (.ref b7)])) _
    refine st10 _ ?_
    show Steps p.tables e below (T10.setTop (mkF m 107 #[.val (.int p1), .val (.int p2), .val (.int p3), .val (.int p4), .val (.int p5), .val (.int p6)] [(.ref b8), (.ref b7), (.ref b7)])) _
    refine XS.dup X10.here hx rfl (hb hby d2_107) rfl rfl ?_
    show Steps p.tables e below (T10.setTop (mkF m 108 #[.val (.int p1), .val (.int p2), .val (.int p3), .val (.int p4), .val (.int p5), .val (.int p6)] [(.ref b8), (.ref b8), (.ref b7), (.ref b7)])) _
    refine XS.iconst X10.here hx rfl (hb hby d2_108) ?_
    show Steps p.tables e below (T10.setTop (mkF m 109 #[.val (.int p1), .val (.int p2), .val (.int p3), .val (.int p4), .val (.int p5), .val (.int p6)] [(.int (2 : Int32)), (.ref b8), (.ref b8), (.ref b7), (.ref b7)])) _
    refine XS.iloadN X10.here hx rfl (hb hby d2_109) rfl ?_
    show Steps p.tables e below (T10.setTop (mkF m 110 #[.val (.int p1), .val (.int p2), .val (.int p3), .val (.int p4), .val (.int p5), .val (.int p6)] [(.int p4), (.int (2 : Int32)), (.ref b8), (.ref b8), (.ref b7), (.ref b7)])) _
    refine st11 _ ?_
    show Steps p.tables e below (T11.setTop (mkF m 111 #[.val (.int p1), .val (.int p2), .val (.int p3), .val (.int p4), .val (.int p5), .val (.int p6)] [(.ref b8), (.ref b7), (.ref b7)])) _
    refine XS.dup X11.here hx rfl (hb hby d2_111) rfl rfl ?_
    show Steps p.tables e below (T11.setTop (mkF m 112 #[.val (.int p1), .val (.int p2), .val (.int p3), .val (.int p4), .val (.int p5), .val (.int p6)] [(.ref b8), (.ref b8), (.ref b7), (.ref b7)])) _
    refine XS.iconst X11.here hx rfl (hb hby d2_112) ?_
    show Steps p.tables e below (T11.setTop (mkF m 113 #[.val (.int p1), .val (.int p2), .val (.int p3), .val (.int p4), .val (.int p5), .val (.int p6)] [(.int (3 : Int32)), (.ref b8), (.ref b8), (.ref b7), (.ref b7)])) _
    refine XS.iload X11.here hx rfl (hb hby d2_113) rfl ?_
    show Steps p.tables e below (T11.setTop (mkF m 115 #[.val (.int p1), .val (.int p2), .val (.int p3), .val (.int p4), .val (.int p5), .val (.int p6)] [(.int p5), (.int (3 : Int32)), (.ref b8), (.ref b8), (.ref b7), (.ref b7)])) _
    refine st12 _ ?_
    show Steps p.tables e below (T12.setTop (mkF m 116 #[.val (.int p1), .val (.int p2), .val (.int p3), .val (.int p4), .val (.int p5), .val (.int p6)] [(.ref b8), (.ref b7), (.ref b7)])) _
    refine st13.trans ?_
    show Steps p.tables e below (T13.setTop (mkF m 119 #[.val (.int p1), .val (.int p2), .val (.int p3), .val (.int p4), .val (.int p5), .val (.int p6)] [(.ref b7)])) _
    jvm_step X13.here [X13.here.top, hx, (hb hby d2_119), X13.method', Bd.returns, Value.isRef, FieldType.isReference]
    first | (intro acts; rw [hr _ acts rfl rfl rfl]) | rw [hr _ _ rfl rfl rfl]
    exact Steps.refl _
  · show Q2_4 Z p1 p2 p3 p4 p5 p6 h0 n0 _ T13.heap _
    exact ⟨b7, rfl, N13, K12.trans K13q (allS (Or.inr sz_b7) all0), x13, at13, kt13, Fv13, gc13, Av13⟩
theorem d2_120 : decode method_5_code 120 = .ok (.new 29, 3) := by decide +kernel
theorem d2_123 : decode method_5_code 123 = .ok (.dup, 1) := by decide +kernel
theorem d2_124 : decode method_5_code 124 = .ok (.iconst 5, 1) := by decide +kernel
theorem d2_125 : decode method_5_code 125 = .ok (.newarray .char, 2) := by decide +kernel
theorem d2_127 : decode method_5_code 127 = .ok (.dup, 1) := by decide +kernel
theorem d2_128 : decode method_5_code 128 = .ok (.iconst 0, 1) := by decide +kernel
theorem d2_129 : decode method_5_code 129 = .ok (.iload_n 1, 1) := by decide +kernel
theorem d2_130 : decode method_5_code 130 = .ok (.castore, 1) := by decide +kernel
theorem d2_131 : decode method_5_code 131 = .ok (.dup, 1) := by decide +kernel
theorem d2_132 : decode method_5_code 132 = .ok (.iconst 1, 1) := by decide +kernel
theorem d2_133 : decode method_5_code 133 = .ok (.iload_n 2, 1) := by decide +kernel
theorem d2_134 : decode method_5_code 134 = .ok (.castore, 1) := by decide +kernel
theorem d2_135 : decode method_5_code 135 = .ok (.dup, 1) := by decide +kernel
theorem d2_136 : decode method_5_code 136 = .ok (.iconst 2, 1) := by decide +kernel
theorem d2_137 : decode method_5_code 137 = .ok (.iload_n 3, 1) := by decide +kernel
theorem d2_138 : decode method_5_code 138 = .ok (.castore, 1) := by decide +kernel
theorem d2_139 : decode method_5_code 139 = .ok (.dup, 1) := by decide +kernel
theorem d2_140 : decode method_5_code 140 = .ok (.iconst 3, 1) := by decide +kernel
theorem d2_141 : decode method_5_code 141 = .ok (.iload 4, 2) := by decide +kernel
theorem d2_143 : decode method_5_code 143 = .ok (.castore, 1) := by decide +kernel
theorem d2_144 : decode method_5_code 144 = .ok (.dup, 1) := by decide +kernel
theorem d2_145 : decode method_5_code 145 = .ok (.iconst 4, 1) := by decide +kernel
theorem d2_146 : decode method_5_code 146 = .ok (.iload 5, 2) := by decide +kernel
theorem d2_148 : decode method_5_code 148 = .ok (.castore, 1) := by decide +kernel
theorem d2_149 : decode method_5_code 149 = .ok (.invokespecial 34, 3) := by decide +kernel
theorem d2_152 : decode method_5_code 152 = .ok (.areturn, 1) := by decide +kernel
def Q2_5 (Z : State) (p1 : Int32) (p2 : Int32) (p3 : Int32) (p4 : Int32) (p5 : Int32) (p6 : Int32) (h0 : Heap) (n0 : Nat) (v : Option Value) (h : Heap) (L : List Loc) : Prop := ∃ b : Addr, v = some (.ref b) ∧ Fr n0 L ∧ Keep h0 h [] ∧ own_STR Z h b ([p2, p3, p4, p5, p6] : List Int32)
set_option maxRecDepth 65536 in
set_option maxHeartbeats 40000000 in
theorem rm2_5 (l : Launch) (Z : State) (a0 : Array Value) (hw : ∀ d ∈ tables_1, d.before a0 Z = true) (ws : List Jvm.Cond) (p1 : Int32) (p2 : Int32) (p3 : Int32) (p4 : Int32) (p5 : Int32) (p6 : Int32) (h0 : Heap) (n0 : Nat) (Z0 : n0 ≤ h0.size) (G1 : Int32) (O2 : Sta Z Z.heap "java/lang/String" "COMPACT_STRINGS" "Z" (.int G1)) (P5 : ¬ (G1 = (0 : Int32))) (X00 : Old Z n0 h0) (hp : ∀ c ∈ ([p2, p3, p4, p5, p6] : List Int32), ¬ c < 0 ∧ ¬ (255 : Int32) < c) (hc1 : ¬ (p1 = (0 : Int32))) (hc17 : ¬ (p1 = (1 : Int32))) (hc37 : ¬ (p1 = (2 : Int32))) (hc61 : ¬ (p1 = (3 : Int32))) (hc89 : ¬ (p1 = (4 : Int32))) :
    MetFree l (⟨"com/example/harburg/harburg/epc/FieldCharacterCountPinLaw", "make", "(ICCCCC)Ljava/lang/String;"⟩ : MethodName) (head1 (Jvm.Cond.code (⟨"com/example/harburg/harburg/epc/FieldCharacterCountPinLaw", "make", "(ICCCCC)Ljava/lang/String;"⟩ : MethodName) method_5_code 6 (some (.object "java/lang/String")) :: ws) ({ frames := 4, cells := 3, slots := 14, locals := 66 } : Room)) (fun a U => a = #[(.int p1), (.int p2), (.int p3), (.int p4), (.int p5), (.int p6)] ∧ Z.Warmed39 U.vm ∧ U.heap = h0) (fun _ _ _ _ _ => True) (fun _ U o U' => ∃ v L, o = .returned v ∧ Q2_5 Z p1 p2 p3 p4 p5 p6 h0 n0 v U'.heap L ∧ FrameEnd U o U' L ({ frames := 4, cells := 3, slots := 14, locals := 66 } : Room).cells ({ frames := 4, cells := 3, slots := 14, locals := 66 } : Room).slots) := by
  refine MetFree.of_bodySF (plainFor_of_name pn_2) hisR ?_
  intro p e s m args below meth c s₁ Bd hml0 hP hK
  obtain ⟨rfl, hZ, hh⟩ := hP
  have hx := Bd.exec
  have hby := Bd.bytes
  have hml : c.maxLocals = 6 := hml0
  have hown : s.vm.findClass "com/example/harburg/harburg/epc/FieldCharacterCountPinLaw" = some m.cls := findClass_of_methodNamed Bd.named
  have hnm := (name_of_methodNamed Bd.named Bd.method).1
  have X0 : Stand p l e ({ frames := 4, cells := 3, slots := 14, locals := 66 } : Room) s m #[(.int p1), (.int p2), (.int p3), (.int p4), (.int p5), (.int p6)] below meth c s₁ [] 0 0 := Stand.of_body Bd
  have e0 : s₁.heap = h0 := by rw [← hh, Bd.state]; rfl
  have N0 := Fr.nil n0
  have pre0 : ∀ t, Steps p.tables e below (s₁.setTop (mkF m 0 #[.val (.int p1), .val (.int p2), .val (.int p3), .val (.int p4), .val (.int p5), .val (.int p6)] [])) t → Steps p.tables e below (s₁.setTop (entryFrame m #[(.int p1), (.int p2), (.int p3), (.int p4), (.int p5), (.int p6)] 6)) t := fun t k => castTop (ef_2 m p1 p2 p3 p4 p5 p6) k
  obtain ⟨T7, h7, X7, e7, E7, A7, D7, -, st7⟩ := newO X0 hx hZ hown (hw _ (List.mem_of_getElem? (i := 8) rfl)) (hw _ (List.mem_of_getElem? (i := 9) rfl)) (hw _ (List.mem_of_getElem? (i := 10) rfl)) e0 (g := (mkF m 120 #[.val (.int p1), .val (.int p2), .val (.int p3), .val (.int p4), .val (.int p5), .val (.int p6)] [])) rfl (hb hby d2_120) (by decide) (by decide)
  obtain ⟨b7, g7⟩ : ∃ z, z = h0.size := ⟨_, rfl⟩
  rw [← g7] at A7 D7 st7
  have F_value_b7 : Fld Z h7 b7 "java/lang/String" "value" "[B" .null := D7 (Or.inr (hw _ (List.mem_of_getElem? (i := 24) rfl))) (ty := (.array .byte)) (by decide)
  have F_coder_b7 : Fld Z h7 b7 "java/lang/String" "coder" "B" (.int (0 : Int32)) := D7 (Or.inr (hw _ (List.mem_of_getElem? (i := 25) rfl))) (ty := .byte) (by decide)
  have E_b7 := A7
  have g_b7 : n0 ≤ b7 := Nat.le_trans Z0 (Nat.le_of_eq g7.symm)
  have sz_b7 : h0.size ≤ b7 := (Nat.le_trans (Keep.refl h0 []).1 (Nat.le_of_eq g7.symm))
  have K7 : Keep h0 h7 [] := (Keep.refl h0 []).ext E7
  obtain ⟨T8, h8, k8, X8, e8, E8, A8, st8⟩ := newP X7 hx hZ (hw _ (List.mem_of_getElem? (i := 11) rfl)) e7 (g := (mkF m 125 #[.val (.int p1), .val (.int p2), .val (.int p3), .val (.int p4), .val (.int p5), .val (.int p6)] [(.int (5 : Int32)), (.ref b7), (.ref b7)])) rfl (hb hby d2_125) rfl (by decide) (cap := 5) (by decide) (by decide) (by decide) (by decide)
  obtain ⟨b8, g8⟩ : ∃ z, z = h7.size := ⟨_, rfl⟩
  rw [← g8] at A8 st8
  have V_b8 : Arv Z h8 b8 k8 .char (5 : Int32) [(.int (0 : Int32)), (.int (0 : Int32)), (.int (0 : Int32)), (.int (0 : Int32)), (.int (0 : Int32))] (.int (0 : Int32)) := (Arv.new A8 (by decide)).pad (pad_rep [] (.int (0 : Int32)) 5)
  have g_b8 : n0 ≤ b8 := Nat.le_trans (Nat.le_trans Z0 E7.1) (Nat.le_of_eq g8.symm)
  have sz_b8 : h0.size ≤ b8 := (Nat.le_trans K7.1 (Nat.le_of_eq g8.symm))
  have K8 : Keep h0 h8 [] := K7.ext E8
  obtain ⟨cl_b8_130, Ar_b8, q_b8, S_b8, N_b8, H_b8, G_b8⟩ := V_b8
  have hin130 : ¬ ((0 : Int32) < 0 ∨ cl_b8_130.slots.size ≤ ((0 : Int32)).toNatClampNeg) := inb_of S_b8 ⟨by decide, by decide⟩
  obtain ⟨T9, h9, X9, e9, W9, st9⟩ := stC X8 hx hZ e8 Ar_b8 (j := (0 : Int32)) hin130 (g := (mkF m 130 #[.val (.int p1), .val (.int p2), .val (.int p3), .val (.int p4), .val (.int p5), .val (.int p6)] [(.int p2), (.int (0 : Int32)), (.ref b8), (.ref b8), (.ref b7), (.ref b7)])) rfl rfl (hb hby d2_130)
  have V_b8_9 := Arv.set Ar_b8 q_b8 S_b8 N_b8 H_b8 G_b8 (fits_nar_char _) W9 0 rfl (Nat.le_of_ble_eq_true rfl)
  have K9 : Keep h0 h9 [] := K8.wr W9 (Or.inr sz_b8)
  have N9 := Fr.snoc X9 N0 g_b8
  obtain ⟨cl_b8_134, Ar_b8, q_b8, S_b8, N_b8, H_b8, G_b8⟩ := V_b8_9
  have hin134 : ¬ ((1 : Int32) < 0 ∨ cl_b8_134.slots.size ≤ ((1 : Int32)).toNatClampNeg) := inb_of S_b8 ⟨by decide, by decide⟩
  obtain ⟨T10, h10, X10, e10, W10, st10⟩ := stC X9 hx hZ e9 Ar_b8 (j := (1 : Int32)) hin134 (g := (mkF m 134 #[.val (.int p1), .val (.int p2), .val (.int p3), .val (.int p4), .val (.int p5), .val (.int p6)] [(.int p3), (.int (1 : Int32)), (.ref b8), (.ref b8), (.ref b7), (.ref b7)])) rfl rfl (hb hby d2_134)
  have V_b8_10 := Arv.set Ar_b8 q_b8 S_b8 N_b8 H_b8 G_b8 (fits_nar_char _) W10 1 rfl (Nat.le_of_ble_eq_true rfl)
  have K10 : Keep h0 h10 [] := K9.wr W10 (Or.inr sz_b8)
  have N10 := Fr.snoc X10 N9 g_b8
  obtain ⟨cl_b8_138, Ar_b8, q_b8, S_b8, N_b8, H_b8, G_b8⟩ := V_b8_10
  have hin138 : ¬ ((2 : Int32) < 0 ∨ cl_b8_138.slots.size ≤ ((2 : Int32)).toNatClampNeg) := inb_of S_b8 ⟨by decide, by decide⟩
  obtain ⟨T11, h11, X11, e11, W11, st11⟩ := stC X10 hx hZ e10 Ar_b8 (j := (2 : Int32)) hin138 (g := (mkF m 138 #[.val (.int p1), .val (.int p2), .val (.int p3), .val (.int p4), .val (.int p5), .val (.int p6)] [(.int p4), (.int (2 : Int32)), (.ref b8), (.ref b8), (.ref b7), (.ref b7)])) rfl rfl (hb hby d2_138)
  have V_b8_11 := Arv.set Ar_b8 q_b8 S_b8 N_b8 H_b8 G_b8 (fits_nar_char _) W11 2 rfl (Nat.le_of_ble_eq_true rfl)
  have K11 : Keep h0 h11 [] := K10.wr W11 (Or.inr sz_b8)
  have N11 := Fr.snoc X11 N10 g_b8
  obtain ⟨cl_b8_143, Ar_b8, q_b8, S_b8, N_b8, H_b8, G_b8⟩ := V_b8_11
  have hin143 : ¬ ((3 : Int32) < 0 ∨ cl_b8_143.slots.size ≤ ((3 : Int32)).toNatClampNeg) := inb_of S_b8 ⟨by decide, by decide⟩
  obtain ⟨T12, h12, X12, e12, W12, st12⟩ := stC X11 hx hZ e11 Ar_b8 (j := (3 : Int32)) hin143 (g := (mkF m 143 #[.val (.int p1), .val (.int p2), .val (.int p3), .val (.int p4), .val (.int p5), .val (.int p6)] [(.int p5), (.int (3 : Int32)), (.ref b8), (.ref b8), (.ref b7), (.ref b7)])) rfl rfl (hb hby d2_143)
  have V_b8_12 := Arv.set Ar_b8 q_b8 S_b8 N_b8 H_b8 G_b8 (fits_nar_char _) W12 3 rfl (Nat.le_of_ble_eq_true rfl)
  have K12 : Keep h0 h12 [] := K11.wr W12 (Or.inr sz_b8)
  have N12 := Fr.snoc X12 N11 g_b8
  obtain ⟨cl_b8_148, Ar_b8, q_b8, S_b8, N_b8, H_b8, G_b8⟩ := V_b8_12
  have hin148 : ¬ ((4 : Int32) < 0 ∨ cl_b8_148.slots.size ≤ ((4 : Int32)).toNatClampNeg) := inb_of S_b8 ⟨by decide, by decide⟩
  obtain ⟨T13, h13, X13, e13, W13, st13⟩ := stC X12 hx hZ e12 Ar_b8 (j := (4 : Int32)) hin148 (g := (mkF m 148 #[.val (.int p1), .val (.int p2), .val (.int p3), .val (.int p4), .val (.int p5), .val (.int p6)] [(.int p6), (.int (4 : Int32)), (.ref b8), (.ref b8), (.ref b7), (.ref b7)])) rfl rfl (hb hby d2_148)
  have V_b8_13 := Arv.set Ar_b8 q_b8 S_b8 N_b8 H_b8 G_b8 (fits_nar_char _) W13 4 rfl (Nat.le_of_ble_eq_true rfl)
  have K13 : Keep h0 h13 [] := K12.wr W13 (Or.inr sz_b8)
  have N13 := Fr.snoc X13 N12 g_b8
  have hws : ∀ d ∈ StrChars.Road.words, d.before a0 Z = true := fun d hd => hw d ((by decide +kernel : ∀ d ∈ StrChars.Road.words, d ∈ tables_1) d hd)
  have XO : Old Z n0 h13 := (((((((X00.ext E7).ext E8).wr W9 g_b8).wr W10 g_b8).wr W11 g_b8).wr W12 g_b8).wr W13 g_b8)
  have VV : Arv Z h13 b8 k8 .char (5 : Int32) (([p2, p3, p4, p5, p6] : List Int32).map Value.int) (.int (0 : Int32)) := by
    have q := V_b8_13
    rw [own_nar p2 (hp _ (by simp)), own_nar p3 (hp _ (by simp)), own_nar p4 (hp _ (by simp)), own_nar p5 (hp _ (by simp)), own_nar p6 (hp _ (by simp))] at q
    exact q
  obtain ⟨_, _, ⟨T14, L14, k14, n14⟩, -, X14, ⟨Lc14, hQ14, l14, y14, z14⟩, st14⟩ := X13.specialBack hx (y := (⟨"java/lang/String", "<init>", "([C)V"⟩ : MethodName)) rfl hown (mvT hZ (hw _ (List.mem_of_getElem? (i := 12) rfl))) (mvT hZ (hw _ (List.mem_of_getElem? (i := 13) rfl))) (mvT hZ (hw _ (List.mem_of_getElem? (i := 14) rfl))) (by decide) (StrChars.Road.backV (W := 1) hZ hws (kI := 4) (hw _ (List.mem_of_getElem? (i := 9) rfl)) (cs := ([p2, p3, p4, p5, p6] : List Int32)) (bs := (([p2, p3, p4, p5, p6] : List Int32)).map (fun c => c.toInt8.toInt32)) (n := 5) g_b7 (Nat.le_trans Z0 K13.1) ((((((A7.ext E8).wr W9).wr W10).wr W11).wr W12).wr W13) ((((((F_value_b7.ext E8).other W9 (Or.inl (Nat.ne_of_lt (Nat.lt_of_lt_of_le A7.lt (Nat.le_of_eq g8.symm))))).other W10 (Or.inl (Nat.ne_of_lt (Nat.lt_of_lt_of_le A7.lt (Nat.le_of_eq g8.symm))))).other W11 (Or.inl (Nat.ne_of_lt (Nat.lt_of_lt_of_le A7.lt (Nat.le_of_eq g8.symm))))).other W12 (Or.inl (Nat.ne_of_lt (Nat.lt_of_lt_of_le A7.lt (Nat.le_of_eq g8.symm))))).other W13 (Or.inl (Nat.ne_of_lt (Nat.lt_of_lt_of_le A7.lt (Nat.le_of_eq g8.symm))))) ((((((F_coder_b7.ext E8).other W9 (Or.inl (Nat.ne_of_lt (Nat.lt_of_lt_of_le A7.lt (Nat.le_of_eq g8.symm))))).other W10 (Or.inl (Nat.ne_of_lt (Nat.lt_of_lt_of_le A7.lt (Nat.le_of_eq g8.symm))))).other W11 (Or.inl (Nat.ne_of_lt (Nat.lt_of_lt_of_le A7.lt (Nat.le_of_eq g8.symm))))).other W12 (Or.inl (Nat.ne_of_lt (Nat.lt_of_lt_of_le A7.lt (Nat.le_of_eq g8.symm))))).other W13 (Or.inl (Nat.ne_of_lt (Nat.lt_of_lt_of_le A7.lt (Nat.le_of_eq g8.symm))))) VV (O2.ext XO.2) P5 rfl rfl (by decide) (by decide) hp rfl (by decide) (by decide)) (g := (mkF m 149 #[.val (.int p1), .val (.int p2), .val (.int p3), .val (.int p4), .val (.int p5), .val (.int p6)] [(.ref b8), (.ref b7), (.ref b7)])) rfl (by rw [hml]; rfl) (Steps.refl _) (a := b7) (argsL := [(.ref b8)]) (rest := [(.ref b7)]) (lenOf pd_2_2 rfl) rfl (by show 2 * 0 + _ ≤ _; exact Nat.le_of_eq rfl) (hb hby d2_149) (fun _ _ => ⟨rfl, e13, (by decide : 2 + 1 ≤ _), (by decide : 9 + 5 ≤ _)⟩)
  dsimp only [Pt.U, Pt.locs, Pt.cells, Pt.slots] at X14 l14 y14 z14 st14 hQ14
  subst l14 y14 z14
  obtain ⟨rfl, N14q, K14q, x14, gc14, at14, kt14, ut14, vt14, wt14, Fv14, Av14⟩ := hQ14
  have N14 := Fr.app N13 N14q
  obtain ⟨fs, hr, hrun, hended, hW, hsame⟩ := X14.leave (v := some (.ref b7)) (fun h => by rw [Bd.returns] at h; cases h)
  refine ⟨_, _, pre0 _ ?_, hrun, hended, _, _, rfl, ?_, ⟨_, rfl⟩, hW, hsame.mono (by decide) (by decide)⟩
  · show Steps p.tables e below (s₁.setTop (mkF m 0 #[.val (.int p1), .val (.int p2), .val (.int p3), .val (.int p4), .val (.int p5), .val (.int p6)] [])) _
    refine XS.iloadN X0.here hx rfl (hb hby d2_0) rfl ?_
    show Steps p.tables e below (s₁.setTop (mkF m 1 #[.val (.int p1), .val (.int p2), .val (.int p3), .val (.int p4), .val (.int p5), .val (.int p6)] [(.int p1)])) _
    refine XS.ifYes X0.here hx rfl (pc0 := 1) (pc' := 15) rfl (hb hby d2_1) rfl ((if0 _ _).trans (feq hc1).2) (by decide) (by decide) ?_
    show Steps p.tables e below (s₁.setTop (mkF m 15 #[.val (.int p1), .val (.int p2), .val (.int p3), .val (.int p4), .val (.int p5), .val (.int p6)] [])) _
    refine XS.iloadN X0.here hx rfl (hb hby d2_15) rfl ?_
    show Steps p.tables e below (s₁.setTop (mkF m 16 #[.val (.int p1), .val (.int p2), .val (.int p3), .val (.int p4), .val (.int p5), .val (.int p6)] [(.int p1)])) _
    refine XS.iconst X0.here hx rfl (hb hby d2_16) ?_
    show Steps p.tables e below (s₁.setTop (mkF m 17 #[.val (.int p1), .val (.int p2), .val (.int p3), .val (.int p4), .val (.int p5), .val (.int p6)] [(.int (1 : Int32)), (.int p1)])) _
    refine XS.icmpYes X0.here hx rfl (pc0 := 17) (pc' := 35) rfl (hb hby d2_17) rfl (feq hc17).2 (by decide) (by decide) ?_
    show Steps p.tables e below (s₁.setTop (mkF m 35 #[.val (.int p1), .val (.int p2), .val (.int p3), .val (.int p4), .val (.int p5), .val (.int p6)] [])) _
    refine XS.iloadN X0.here hx rfl (hb hby d2_35) rfl ?_
    show Steps p.tables e below (s₁.setTop (mkF m 36 #[.val (.int p1), .val (.int p2), .val (.int p3), .val (.int p4), .val (.int p5), .val (.int p6)] [(.int p1)])) _
    refine XS.iconst X0.here hx rfl (hb hby d2_36) ?_
    show Steps p.tables e below (s₁.setTop (mkF m 37 #[.val (.int p1), .val (.int p2), .val (.int p3), .val (.int p4), .val (.int p5), .val (.int p6)] [(.int (2 : Int32)), (.int p1)])) _
    refine XS.icmpYes X0.here hx rfl (pc0 := 37) (pc' := 59) rfl (hb hby d2_37) rfl (feq hc37).2 (by decide) (by decide) ?_
    show Steps p.tables e below (s₁.setTop (mkF m 59 #[.val (.int p1), .val (.int p2), .val (.int p3), .val (.int p4), .val (.int p5), .val (.int p6)] [])) _
    refine XS.iloadN X0.here hx rfl (hb hby d2_59) rfl ?_
    show Steps p.tables e below (s₁.setTop (mkF m 60 #[.val (.int p1), .val (.int p2), .val (.int p3), .val (.int p4), .val (.int p5), .val (.int p6)] [(.int p1)])) _
    refine XS.iconst X0.here hx rfl (hb hby d2_60) ?_
    show Steps p.tables e below (s₁.setTop (mkF m 61 #[.val (.int p1), .val (.int p2), .val (.int p3), .val (.int p4), .val (.int p5), .val (.int p6)] [(.int (3 : Int32)), (.int p1)])) _
    refine XS.icmpYes X0.here hx rfl (pc0 := 61) (pc' := 87) rfl (hb hby d2_61) rfl (feq hc61).2 (by decide) (by decide) ?_
    show Steps p.tables e below (s₁.setTop (mkF m 87 #[.val (.int p1), .val (.int p2), .val (.int p3), .val (.int p4), .val (.int p5), .val (.int p6)] [])) _
    refine XS.iloadN X0.here hx rfl (hb hby d2_87) rfl ?_
    show Steps p.tables e below (s₁.setTop (mkF m 88 #[.val (.int p1), .val (.int p2), .val (.int p3), .val (.int p4), .val (.int p5), .val (.int p6)] [(.int p1)])) _
    refine XS.iconst X0.here hx rfl (hb hby d2_88) ?_
    show Steps p.tables e below (s₁.setTop (mkF m 89 #[.val (.int p1), .val (.int p2), .val (.int p3), .val (.int p4), .val (.int p5), .val (.int p6)] [(.int (4 : Int32)), (.int p1)])) _
    refine XS.icmpYes X0.here hx rfl (pc0 := 89) (pc' := 120) rfl (hb hby d2_89) rfl (feq hc89).2 (by decide) (by decide) ?_
    show Steps p.tables e below (s₁.setTop (mkF m 120 #[.val (.int p1), .val (.int p2), .val (.int p3), .val (.int p4), .val (.int p5), .val (.int p6)] [])) _
    refine st7 _ ?_
    show Steps p.tables e below (T7.setTop (mkF m 123 #[.val (.int p1), .val (.int p2), .val (.int p3), .val (.int p4), .val (.int p5), .val (.int p6)] [(.ref b7)])) _
    refine XS.dup X7.here hx rfl (hb hby d2_123) rfl rfl ?_
    show Steps p.tables e below (T7.setTop (mkF m 124 #[.val (.int p1), .val (.int p2), .val (.int p3), .val (.int p4), .val (.int p5), .val (.int p6)] [(.ref b7), (.ref b7)])) _
    refine XS.iconst X7.here hx rfl (hb hby d2_124) ?_
    show Steps p.tables e below (T7.setTop (mkF m 125 #[.val (.int p1), .val (.int p2), .val (.int p3), .val (.int p4), .val (.int p5), .val (.int p6)] [(.int (5 : Int32)), (.ref b7), (.ref b7)])) _
    refine st8 _ ?_
    show Steps p.tables e below (T8.setTop (mkF m 127 #[.val (.int p1), .val (.int p2), .val (.int p3), .val (.int p4), .val (.int p5), .val (.int p6)] [(.ref b8), (.ref b7), (.ref b7)])) _
    refine XS.dup X8.here hx rfl (hb hby d2_127) rfl rfl ?_
    show Steps p.tables e below (T8.setTop (mkF m 128 #[.val (.int p1), .val (.int p2), .val (.int p3), .val (.int p4), .val (.int p5), .val (.int p6)] [(.ref b8), (.ref b8), (.ref b7), (.ref b7)])) _
    refine XS.iconst X8.here hx rfl (hb hby d2_128) ?_
    show Steps p.tables e below (T8.setTop (mkF m 129 #[.val (.int p1), .val (.int p2), .val (.int p3), .val (.int p4), .val (.int p5), .val (.int p6)] [(.int (0 : Int32)), (.ref b8), (.ref b8), (.ref b7), (.ref b7)])) _
    refine XS.iloadN X8.here hx rfl (hb hby d2_129) rfl ?_
    show Steps p.tables e below (T8.setTop (mkF m 130 #[.val (.int p1), .val (.int p2), .val (.int p3), .val (.int p4), .val (.int p5), .val (.int p6)] [(.int p2), (.int (0 : Int32)), (.ref b8), (.ref b8), (.ref b7), (.ref b7)])) _
    refine st9 _ ?_
    show Steps p.tables e below (T9.setTop (mkF m 131 #[.val (.int p1), .val (.int p2), .val (.int p3), .val (.int p4), .val (.int p5), .val (.int p6)] [(.ref b8), (.ref b7), (.ref b7)])) _
    refine XS.dup X9.here hx rfl (hb hby d2_131) rfl rfl ?_
    show Steps p.tables e below (T9.setTop (mkF m 132 #[.val (.int p1), .val (.int p2), .val (.int p3), .val (.int p4), .val (.int p5), .val (.int p6)] [(.ref b8), (.ref b8), (.ref b7), (.ref b7)])) _
    refine XS.iconst X9.here hx rfl (hb hby d2_132) ?_
    show Steps p.tables e below (T9.setTop (mkF m 133 #[.val (.int p1), .val (.int p2), .val (.int p3), .val (.int p4), .val (.int p5), .val (.int p6)] [(.int (1 : Int32)), (.ref b8), (.ref b8), (.ref b7), (.ref b7)])) _
    refine XS.iloadN X9.here hx rfl (hb hby d2_133) rfl ?_
    show Steps p.tables e below (T9.setTop (mkF m 134 #[.val (.int p1), .val (.int p2), .val (.int p3), .val (.int p4), .val (.int p5), .val (.int p6)] [(.int p3), (.int (1 : Int32)), (.ref b8), (.ref b8), (.ref b7), (.ref b7)])) _
    refine st10 _ ?_
    show Steps p.tables e below (T10.setTop (mkF m 135 #[.val (.int p1), .val (.int p2), .val (.int p3), .val (.int p4), .val (.int p5), .val (.int p6)] [(.ref b8), (.ref b7), (.ref b7)])) _
    refine XS.dup X10.here hx rfl (hb hby d2_135) rfl rfl ?_
    show Steps p.tables e below (T10.setTop (mkF m 136 #[.val (.int p1), .val (.int p2), .val (.int p3), .val (.int p4), .val (.int p5), .val (.int p6)] [(.ref b8), (.ref b8), (.ref b7), (.ref b7)])) _
    refine XS.iconst X10.here hx rfl (hb hby d2_136) ?_
    show Steps p.tables e below (T10.setTop (mkF m 137 #[.val (.int p1), .val (.int p2), .val (.int p3), .val (.int p4), .val (.int p5), .val (.int p6)] [(.int (2 : Int32)), (.ref b8), (.ref b8), (.ref b7), (.ref b7)])) _
    refine XS.iloadN X10.here hx rfl (hb hby d2_137) rfl ?_
    show Steps p.tables e below (T10.setTop (mkF m 138 #[.val (.int p1), .val (.int p2), .val (.int p3), .val (.int p4), .val (.int p5), .val (.int p6)] [(.int p4), (.int (2 : Int32)), (.ref b8), (.ref b8), (.ref b7), (.ref b7)])) _
    refine st11 _ ?_
    show Steps p.tables e below (T11.setTop (mkF m 139 #[.val (.int p1), .val (.int p2), .val (.int p3), .val (.int p4), .val (.int p5), .val (.int p6)] [(.ref b8), (.ref b7), (.ref b7)])) _
    refine XS.dup X11.here hx rfl (hb hby d2_139) rfl rfl ?_
    show Steps p.tables e below (T11.setTop (mkF m 140 #[.val (.int p1), .val (.int p2), .val (.int p3), .val (.int p4), .val (.int p5), .val (.int p6)] [(.ref b8), (.ref b8), (.ref b7), (.ref b7)])) _
    refine XS.iconst X11.here hx rfl (hb hby d2_140) ?_
    show Steps p.tables e below (T11.setTop (mkF m 141 #[.val (.int p1), .val (.int p2), .val (.int p3), .val (.int p4), .val (.int p5), .val (.int p6)] [(.int (3 : Int32)), (.ref b8), (.ref b8), (.ref b7), (.ref b7)])) _
    refine XS.iload X11.here hx rfl (hb hby d2_141) rfl ?_
    show Steps p.tables e below (T11.setTop (mkF m 143 #[.val (.int p1), .val (.int p2), .val (.int p3), .val (.int p4), .val (.int p5), .val (.int p6)] [(.int p5), (.int (3 : Int32)), (.ref b8), (.ref b8), (.ref b7), (.ref b7)])) _
    refine st12 _ ?_
    show Steps p.tables e below (T12.setTop (mkF m 144 #[.val (.int p1), .val (.int p2), .val (.int p3), .val (.int p4), .val (.int p5), .val (.int p6)] [(.ref b8), (.ref b7), (.ref b7)])) _
    refine XS.dup X12.here hx rfl (hb hby d2_144) rfl rfl ?_
    show Steps p.tables e below (T12.setTop (mkF m 145 #[.val (.int p1), .val (.int p2), .val (.int p3), .val (.int p4), .val (.int p5), .val (.int p6)] [(.ref b8), (.ref b8), (.ref b7), (.ref b7)])) _
    refine XS.iconst X12.here hx rfl (hb hby d2_145) ?_
    show Steps p.tables e below (T12.setTop (mkF m 146 #[.val (.int p1), .val (.int p2), .val (.int p3), .val (.int p4), .val (.int p5), .val (.int p6)] [(.int (4 : Int32)), (.ref b8), (.ref b8), (.ref b7), (.ref b7)])) _
    refine XS.iload X12.here hx rfl (hb hby d2_146) rfl ?_
    show Steps p.tables e below (T12.setTop (mkF m 148 #[.val (.int p1), .val (.int p2), .val (.int p3), .val (.int p4), .val (.int p5), .val (.int p6)] [(.int p6), (.int (4 : Int32)), (.ref b8), (.ref b8), (.ref b7), (.ref b7)])) _
    refine st13 _ ?_
    show Steps p.tables e below (T13.setTop (mkF m 149 #[.val (.int p1), .val (.int p2), .val (.int p3), .val (.int p4), .val (.int p5), .val (.int p6)] [(.ref b8), (.ref b7), (.ref b7)])) _
    refine st14.trans ?_
    show Steps p.tables e below (T14.setTop (mkF m 152 #[.val (.int p1), .val (.int p2), .val (.int p3), .val (.int p4), .val (.int p5), .val (.int p6)] [(.ref b7)])) _
    jvm_step X14.here [X14.here.top, hx, (hb hby d2_152), X14.method', Bd.returns, Value.isRef, FieldType.isReference]
    first | (intro acts; rw [hr _ acts rfl rfl rfl]) | rw [hr _ _ rfl rfl rfl]
    exact Steps.refl _
  · show Q2_5 Z p1 p2 p3 p4 p5 p6 h0 n0 _ T14.heap _
    exact ⟨b7, rfl, N14, K13.trans K14q (allS (Or.inr sz_b7) all0), x14, at14, kt14, Fv14, gc14, Av14⟩
def own_n (p1 : Int32) : Int32 := ((p1 &&& (2147483647 : Int32)) - ((p1 &&& (2147483647 : Int32)) / (6 : Int32)) * (6 : Int32))
theorem own_n6 (p1 : Int32) : own_n p1 = 0 ∨ own_n p1 = 1 ∨ own_n p1 = 2 ∨ own_n p1 = 3 ∨ own_n p1 = 4 ∨ own_n p1 = 5 := by
  have h0 : 0 ≤ (p1 &&& (2147483647 : Int32)).toInt := by rw [c_mask p1 2147483647 31 (by decide) (by decide)]; exact Int.emod_nonneg _ (by decide)
  have e : own_n p1 = (p1 &&& (2147483647 : Int32)) % 6 := irem_eq_mod _ _
  have t : (own_n p1).toInt = (p1 &&& (2147483647 : Int32)).toInt.tmod 6 := by rw [e]; exact Int32.toInt_mod _ _
  rw [Int.tmod_eq_emod_of_nonneg h0] at t
  have l0 := Int.emod_nonneg (p1 &&& (2147483647 : Int32)).toInt (show (6 : Int) ≠ 0 by decide)
  have l1 := Int.emod_lt_of_pos (p1 &&& (2147483647 : Int32)).toInt (show (0 : Int) < 6 by decide)
  have c : (own_n p1).toInt = 0 ∨ (own_n p1).toInt = 1 ∨ (own_n p1).toInt = 2 ∨ (own_n p1).toInt = 3 ∨ (own_n p1).toInt = 4 ∨ (own_n p1).toInt = 5 := by omega
  simp only [← Int32.toInt_inj, show (0 : Int32).toInt = 0 from rfl, show (1 : Int32).toInt = 1 from rfl, show (2 : Int32).toInt = 2 from rfl, show (3 : Int32).toInt = 3 from rfl, show (4 : Int32).toInt = 4 from rfl, show (5 : Int32).toInt = 5 from rfl]
  exact c
theorem own_p1 (c : Int32) : val6 (1 : Int32) c = if c = 37 then 1 else 0 := by
  unfold val6
  rw [if_neg (by decide)]
theorem own_p0 (c : Int32) : val6 (0 : Int32) c = 0 := by
  unfold val6
  rw [if_pos rfl]
theorem own_all1 (p2 : Int32) : ∀ c ∈ ([(val1 p2)] : List Int32), ¬ c < 0 ∧ ¬ (255 : Int32) < c := by
  intro c hc
  simp only [List.mem_cons, List.not_mem_nil, or_false] at hc
  rcases hc with rfl <;> exact own_rng _
theorem own_fin1 (p1 p2 p3 p4 p5 p6 : Int32) (hn : own_n p1 = (1 : Int32)) : (Int32.ofNat ([(val1 p2)] : List Int32).length - ((2 : Int32) * own_cnt ([(val1 p2)] : List Int32))) = (own_n p1 - ((2 : Int32) * (((((val6 (1 : Int32) (val1 p2)) + (val6 (0 : Int32) (val1 p3))) + (val6 (0 : Int32) (val1 p4))) + (val6 (0 : Int32) (val1 p5))) + (val6 (0 : Int32) (val1 p6))))) := by
  have e : own_cnt ([(val1 p2)] : List Int32) = (((((val6 (1 : Int32) (val1 p2)) + (val6 (0 : Int32) (val1 p3))) + (val6 (0 : Int32) (val1 p4))) + (val6 (0 : Int32) (val1 p5))) + (val6 (0 : Int32) (val1 p6))) := by
    simp only [own_p1, own_p0, own_cnt, Int32.add_zero, Int32.zero_add, Int32.add_assoc]
  rw [e, hn]; rfl
def Q0 (Z : State) (p1 : Int32) (p2 : Int32) (p3 : Int32) (p4 : Int32) (p5 : Int32) (p6 : Int32) (h0 : Heap) (n0 : Nat) (v : Option Value) (h : Heap) (L : List Loc) : Prop := v = some (.int (1 : Int32)) ∧ Fr n0 L
theorem pn_0 : plainName "com/example/harburg/harburg/epc/FieldCharacterCountPinLaw" = true := by first | (simp [plainName, overriddenIn]; done) | decide +kernel
theorem pd_0_0 : parseMethodDescriptor "(I)C" = some ⟨[.int], some .char⟩ := by decide +kernel
theorem pd_0_1 : parseMethodDescriptor "(ICCCCC)Ljava/lang/String;" = some ⟨[.int, .char, .char, .char, .char, .char], some (.object "java/lang/String")⟩ := by decide +kernel
theorem pd_0_5 : parseMethodDescriptor "(ZC)I" = some ⟨[.boolean, .char], some .int⟩ := by decide +kernel
theorem pd_0_6 : parseMethodDescriptor "(Ljava/lang/String;)I" = some ⟨[(.object "java/lang/String")], some .int⟩ := by decide +kernel
theorem pd_0_7 : parseMethodDescriptor "()I" = some ⟨[], some .int⟩ := by decide +kernel
theorem ef_0 (m : MethodId) (x0 : Int32) (x1 : Int32) (x2 : Int32) (x3 : Int32) (x4 : Int32) (x5 : Int32) : entryFrame m #[(.int x0), (.int x1), (.int x2), (.int x3), (.int x4), (.int x5)] maxLocals = mkF m 0 #[.val (.int x0), .val (.int x1), .val (.int x2), .val (.int x3), .val (.int x4), .val (.int x5), .unset, .unset, .unset, .unset, .unset, .unset, .unset, .unset, .unset] [] := by first | (simp [entryFrame, mkF, argsToLocals, Value.category, maxLocals]; done) | rfl

set_option maxRecDepth 65536 in
set_option maxHeartbeats 40000000 in
theorem rm0_1 (l : Launch) (Z : State) (a0 : Array Value) (hw : ∀ d ∈ tables_1, d.before a0 Z = true) (ws : List Jvm.Cond) (p1 : Int32) (p2 : Int32) (p3 : Int32) (p4 : Int32) (p5 : Int32) (p6 : Int32) (h0 : Heap) (n0 : Nat) (Z0 : n0 ≤ h0.size) (G1 : Int32) (O2 : Sta Z Z.heap "java/lang/String" "COMPACT_STRINGS" "Z" (.int G1)) (P5 : ¬ (G1 = (0 : Int32))) (X00 : Old Z n0 h0) (G3 : Value) (O4 : Sta Z Z.heap "jdk/internal/util/Preconditions" "SIOOBE_FORMATTER" "Ljava/util/function/BiFunction;" G3) (rG3 : G3.isRef = true) (hn : own_n p1 = (1 : Int32)) :
    MetFree l x (head1 (Jvm.Cond.code x code maxLocals ret :: ws) room_1) (fun a U => a = #[(.int p1), (.int p2), (.int p3), (.int p4), (.int p5), (.int p6)] ∧ Z.Warmed39 U.vm ∧ U.heap = h0) (fun _ _ _ _ _ => True) (fun _ U o U' => ∃ v L, o = .returned v ∧ Q0 Z p1 p2 p3 p4 p5 p6 h0 n0 v U'.heap L ∧ FrameEnd U o U' L room_1.cells room_1.slots) := by
  refine MetFree.of_bodySF (plainFor_of_name pn_0) hisR ?_
  intro p e s m args below meth c s₁ Bd hml0 hP hK
  obtain ⟨rfl, hZ, hh⟩ := hP
  have hx := Bd.exec
  have hby := Bd.bytes
  have hml : c.maxLocals = 15 := hml0
  have hown : s.vm.findClass "com/example/harburg/harburg/epc/FieldCharacterCountPinLaw" = some m.cls := findClass_of_methodNamed Bd.named
  have hnm := (name_of_methodNamed Bd.named Bd.method).1
  have X0 : Stand p l e room_1 s m #[(.int p1), (.int p2), (.int p3), (.int p4), (.int p5), (.int p6)] below meth c s₁ [] 0 0 := Stand.of_body Bd
  have e0 : s₁.heap = h0 := by rw [← hh, Bd.state]; rfl
  have N0 := Fr.nil n0
  have pre0 : ∀ t, Steps p.tables e below (s₁.setTop (mkF m 0 #[.val (.int p1), .val (.int p2), .val (.int p3), .val (.int p4), .val (.int p5), .val (.int p6), .unset, .unset, .unset, .unset, .unset, .unset, .unset, .unset, .unset] [])) t → Steps p.tables e below (s₁.setTop (entryFrame m #[(.int p1), (.int p2), (.int p3), (.int p4), (.int p5), (.int p6)] maxLocals)) t := fun t k => castTop (ef_0 m p1 p2 p3 p4 p5 p6) k
  obtain ⟨_, _, ⟨T7, L7, k7, n7⟩, -, X7, ⟨Lc7, hQ7, l7, y7, z7⟩, st7⟩ := Jvm.LawKit.callS X0 hx (y := (⟨"com/example/harburg/harburg/epc/FieldCharacterCountPinLaw", "draw", "(I)C"⟩ : MethodName)) hown (mvT hZ (hw _ (List.mem_of_getElem? (i := 1) rfl))) (mvT hZ (hw _ (List.mem_of_getElem? (i := 2) rfl))) (mvT hZ (hw _ (List.mem_of_getElem? (i := 3) rfl))) (mvT hZ (hw _ (List.mem_of_getElem? (i := 4) rfl))) (by decide) (backOf (W := 0) (rm1 l Z a0 hw [] p2 h0 n0 Z0) hZ (hw _ (List.mem_of_getElem? (i := 4) rfl)) (hw _ (List.mem_of_getElem? (i := 3) rfl)) (by decide) (by decide)) (g := (mkF m 10 #[.val (.int p1), .val (.int p2), .val (.int p3), .val (.int p4), .val (.int p5), .val (.int p6), .val (.int (own_n p1)), .unset, .unset, .unset, .unset, .unset, .unset, .unset, .unset] [(.int p2)])) rfl (by rw [hml]; rfl) (argsL := [(.int p2)]) (rest := []) (lenOf pd_0_0 rfl) rfl (by show 2 * 0 + _ ≤ _; exact Nat.le_of_eq rfl) (hb hby at_10) (fun _ _ => ⟨rfl, e0, (by decide : 0 + 0 ≤ _), (by decide : 0 + 0 ≤ _)⟩)
  dsimp only [Pt.U, Pt.locs, Pt.cells, Pt.slots] at X7 l7 y7 z7 st7 hQ7
  subst l7 y7 z7
  obtain ⟨rfl, N7q, w7⟩ := hQ7
  have u7 : T7.heap = h0 := w7
  have N7 := Fr.app N0 N7q
  obtain ⟨_, _, ⟨T8, L8, k8, n8⟩, -, X8, ⟨Lc8, hQ8, l8, y8, z8⟩, st8⟩ := Jvm.LawKit.callS X7 hx (y := (⟨"com/example/harburg/harburg/epc/FieldCharacterCountPinLaw", "draw", "(I)C"⟩ : MethodName)) hown (mvT hZ (hw _ (List.mem_of_getElem? (i := 1) rfl))) (mvT hZ (hw _ (List.mem_of_getElem? (i := 2) rfl))) (mvT hZ (hw _ (List.mem_of_getElem? (i := 3) rfl))) (mvT hZ (hw _ (List.mem_of_getElem? (i := 4) rfl))) (by decide) (backOf (W := 0) (rm1 l Z a0 hw [] p3 T7.heap n0 (by rw [u7]; exact Z0)) hZ (hw _ (List.mem_of_getElem? (i := 4) rfl)) (hw _ (List.mem_of_getElem? (i := 3) rfl)) (by decide) (by decide)) (g := (mkF m 16 #[.val (.int p1), .val (.int p2), .val (.int p3), .val (.int p4), .val (.int p5), .val (.int p6), .val (.int (own_n p1)), .val (.int (val1 p2)), .unset, .unset, .unset, .unset, .unset, .unset, .unset] [(.int p3)])) rfl (by rw [hml]; rfl) (argsL := [(.int p3)]) (rest := []) (lenOf pd_0_0 rfl) rfl (by show 2 * 0 + _ ≤ _; exact Nat.le_of_eq rfl) (hb hby at_16) (fun _ _ => ⟨rfl, rfl, (by decide : 0 + 0 ≤ _), (by decide : 0 + 0 ≤ _)⟩)
  dsimp only [Pt.U, Pt.locs, Pt.cells, Pt.slots] at X8 l8 y8 z8 st8 hQ8
  subst l8 y8 z8
  obtain ⟨rfl, N8q, w8⟩ := hQ8
  have u8 : T8.heap = h0 := w8.trans u7
  have N8 := Fr.app N7 N8q
  obtain ⟨_, _, ⟨T9, L9, k9, n9⟩, -, X9, ⟨Lc9, hQ9, l9, y9, z9⟩, st9⟩ := Jvm.LawKit.callS X8 hx (y := (⟨"com/example/harburg/harburg/epc/FieldCharacterCountPinLaw", "draw", "(I)C"⟩ : MethodName)) hown (mvT hZ (hw _ (List.mem_of_getElem? (i := 1) rfl))) (mvT hZ (hw _ (List.mem_of_getElem? (i := 2) rfl))) (mvT hZ (hw _ (List.mem_of_getElem? (i := 3) rfl))) (mvT hZ (hw _ (List.mem_of_getElem? (i := 4) rfl))) (by decide) (backOf (W := 0) (rm1 l Z a0 hw [] p4 T8.heap n0 (by rw [u8]; exact Z0)) hZ (hw _ (List.mem_of_getElem? (i := 4) rfl)) (hw _ (List.mem_of_getElem? (i := 3) rfl)) (by decide) (by decide)) (g := (mkF m 22 #[.val (.int p1), .val (.int p2), .val (.int p3), .val (.int p4), .val (.int p5), .val (.int p6), .val (.int (own_n p1)), .val (.int (val1 p2)), .val (.int (val1 p3)), .unset, .unset, .unset, .unset, .unset, .unset] [(.int p4)])) rfl (by rw [hml]; rfl) (argsL := [(.int p4)]) (rest := []) (lenOf pd_0_0 rfl) rfl (by show 2 * 0 + _ ≤ _; exact Nat.le_of_eq rfl) (hb hby at_22) (fun _ _ => ⟨rfl, rfl, (by decide : 0 + 0 ≤ _), (by decide : 0 + 0 ≤ _)⟩)
  dsimp only [Pt.U, Pt.locs, Pt.cells, Pt.slots] at X9 l9 y9 z9 st9 hQ9
  subst l9 y9 z9
  obtain ⟨rfl, N9q, w9⟩ := hQ9
  have u9 : T9.heap = h0 := w9.trans u8
  have N9 := Fr.app N8 N9q
  obtain ⟨_, _, ⟨T10, L10, k10, n10⟩, -, X10, ⟨Lc10, hQ10, l10, y10, z10⟩, st10⟩ := Jvm.LawKit.callS X9 hx (y := (⟨"com/example/harburg/harburg/epc/FieldCharacterCountPinLaw", "draw", "(I)C"⟩ : MethodName)) hown (mvT hZ (hw _ (List.mem_of_getElem? (i := 1) rfl))) (mvT hZ (hw _ (List.mem_of_getElem? (i := 2) rfl))) (mvT hZ (hw _ (List.mem_of_getElem? (i := 3) rfl))) (mvT hZ (hw _ (List.mem_of_getElem? (i := 4) rfl))) (by decide) (backOf (W := 0) (rm1 l Z a0 hw [] p5 T9.heap n0 (by rw [u9]; exact Z0)) hZ (hw _ (List.mem_of_getElem? (i := 4) rfl)) (hw _ (List.mem_of_getElem? (i := 3) rfl)) (by decide) (by decide)) (g := (mkF m 29 #[.val (.int p1), .val (.int p2), .val (.int p3), .val (.int p4), .val (.int p5), .val (.int p6), .val (.int (own_n p1)), .val (.int (val1 p2)), .val (.int (val1 p3)), .val (.int (val1 p4)), .unset, .unset, .unset, .unset, .unset] [(.int p5)])) rfl (by rw [hml]; rfl) (argsL := [(.int p5)]) (rest := []) (lenOf pd_0_0 rfl) rfl (by show 2 * 0 + _ ≤ _; exact Nat.le_of_eq rfl) (hb hby at_29) (fun _ _ => ⟨rfl, rfl, (by decide : 0 + 0 ≤ _), (by decide : 0 + 0 ≤ _)⟩)
  dsimp only [Pt.U, Pt.locs, Pt.cells, Pt.slots] at X10 l10 y10 z10 st10 hQ10
  subst l10 y10 z10
  obtain ⟨rfl, N10q, w10⟩ := hQ10
  have u10 : T10.heap = h0 := w10.trans u9
  have N10 := Fr.app N9 N10q
  obtain ⟨_, _, ⟨T11, L11, k11, n11⟩, -, X11, ⟨Lc11, hQ11, l11, y11, z11⟩, st11⟩ := Jvm.LawKit.callS X10 hx (y := (⟨"com/example/harburg/harburg/epc/FieldCharacterCountPinLaw", "draw", "(I)C"⟩ : MethodName)) hown (mvT hZ (hw _ (List.mem_of_getElem? (i := 1) rfl))) (mvT hZ (hw _ (List.mem_of_getElem? (i := 2) rfl))) (mvT hZ (hw _ (List.mem_of_getElem? (i := 3) rfl))) (mvT hZ (hw _ (List.mem_of_getElem? (i := 4) rfl))) (by decide) (backOf (W := 0) (rm1 l Z a0 hw [] p6 T10.heap n0 (by rw [u10]; exact Z0)) hZ (hw _ (List.mem_of_getElem? (i := 4) rfl)) (hw _ (List.mem_of_getElem? (i := 3) rfl)) (by decide) (by decide)) (g := (mkF m 36 #[.val (.int p1), .val (.int p2), .val (.int p3), .val (.int p4), .val (.int p5), .val (.int p6), .val (.int (own_n p1)), .val (.int (val1 p2)), .val (.int (val1 p3)), .val (.int (val1 p4)), .val (.int (val1 p5)), .unset, .unset, .unset, .unset] [(.int p6)])) rfl (by rw [hml]; rfl) (argsL := [(.int p6)]) (rest := []) (lenOf pd_0_0 rfl) rfl (by show 2 * 0 + _ ≤ _; exact Nat.le_of_eq rfl) (hb hby at_36) (fun _ _ => ⟨rfl, rfl, (by decide : 0 + 0 ≤ _), (by decide : 0 + 0 ≤ _)⟩)
  dsimp only [Pt.U, Pt.locs, Pt.cells, Pt.slots] at X11 l11 y11 z11 st11 hQ11
  subst l11 y11 z11
  obtain ⟨rfl, N11q, w11⟩ := hQ11
  have u11 : T11.heap = h0 := w11.trans u10
  have N11 := Fr.app N10 N11q
  obtain ⟨_, _, ⟨T12, L12, k12, n12⟩, -, X12, ⟨Lc12, hQ12, l12, y12, z12⟩, st12⟩ := Jvm.LawKit.callS X11 hx (y := (⟨"com/example/harburg/harburg/epc/FieldCharacterCountPinLaw", "make", "(ICCCCC)Ljava/lang/String;"⟩ : MethodName)) hown (mvT hZ (hw _ (List.mem_of_getElem? (i := 5) rfl))) (mvT hZ (hw _ (List.mem_of_getElem? (i := 6) rfl))) (mvT hZ (hw _ (List.mem_of_getElem? (i := 3) rfl))) (mvT hZ (hw _ (List.mem_of_getElem? (i := 7) rfl))) (by decide) (backOf (W := 0) (rm2_1 l Z a0 hw [] (own_n p1) (val1 p2) (val1 p3) (val1 p4) (val1 p5) (val1 p6) T11.heap n0 (by rw [u11]; exact Z0) G1 O2 P5 (by rw [u11]; exact X00) (own_all1 p2) (by rw [hn]; decide) hn) hZ (hw _ (List.mem_of_getElem? (i := 7) rfl)) (hw _ (List.mem_of_getElem? (i := 3) rfl)) (by decide) (by decide)) (g := (mkF m 53 #[.val (.int p1), .val (.int p2), .val (.int p3), .val (.int p4), .val (.int p5), .val (.int p6), .val (.int (own_n p1)), .val (.int (val1 p2)), .val (.int (val1 p3)), .val (.int (val1 p4)), .val (.int (val1 p5)), .val (.int (val1 p6)), .unset, .unset, .unset] [(.int (val1 p6)), (.int (val1 p5)), (.int (val1 p4)), (.int (val1 p3)), (.int (val1 p2)), (.int (own_n p1))])) rfl (by rw [hml]; rfl) (argsL := [(.int (own_n p1)), (.int (val1 p2)), (.int (val1 p3)), (.int (val1 p4)), (.int (val1 p5)), (.int (val1 p6))]) (rest := []) (lenOf pd_0_1 rfl) rfl (by show 2 * 0 + _ ≤ _; exact Nat.le_of_eq rfl) (hb hby at_53) (fun _ _ => ⟨rfl, rfl, (by decide : 0 + 3 ≤ _), (by decide : 0 + 6 ≤ _)⟩)
  dsimp only [Pt.U, Pt.locs, Pt.cells, Pt.slots] at X12 l12 y12 z12 st12 hQ12
  subst l12 y12 z12
  obtain ⟨b12, rfl, N12q, K12q, S12⟩ := hQ12
  have K12 : Keep h0 T12.heap [] := by have q := K12q; rw [u11] at q; exact q
  have z12 : n0 ≤ T12.heap.size := Nat.le_trans Z0 K12.1
  have XO12 : Old Z n0 T12.heap := X00.keep K12 all0
  have N12 := Fr.app N11 N12q
  obtain ⟨_, _, ⟨T13, L13, k13, n13⟩, -, X13, ⟨Lc13, hQ13, l13, y13, z13⟩, st13⟩ := Jvm.LawKit.callS X12 hx (y := (⟨"com/example/harburg/harburg/epc/FieldCharacterCountPinLaw", "pct", "(ZC)I"⟩ : MethodName)) hown (mvT hZ (hw _ (List.mem_of_getElem? (i := 30) rfl))) (mvT hZ (hw _ (List.mem_of_getElem? (i := 31) rfl))) (mvT hZ (hw _ (List.mem_of_getElem? (i := 3) rfl))) (mvT hZ (hw _ (List.mem_of_getElem? (i := 32) rfl))) (by decide) (backOf (W := 0) (rm6 l Z a0 hw [] (1 : Int32) (val1 p2) T12.heap n0 z12) hZ (hw _ (List.mem_of_getElem? (i := 32) rfl)) (hw _ (List.mem_of_getElem? (i := 3) rfl)) (by decide) (by decide)) (g := (mkF m 70 #[.val (.int p1), .val (.int p2), .val (.int p3), .val (.int p4), .val (.int p5), .val (.int p6), .val (.int (own_n p1)), .val (.int (val1 p2)), .val (.int (val1 p3)), .val (.int (val1 p4)), .val (.int (val1 p5)), .val (.int (val1 p6)), .val (.ref b12), .unset, .unset] [(.int (val1 p2)), (.int (1 : Int32))])) rfl (by rw [hml]; rfl) (argsL := [(.int (1 : Int32)), (.int (val1 p2))]) (rest := []) (lenOf pd_0_5 rfl) rfl (by show 2 * 0 + _ ≤ _; exact Nat.le_of_eq rfl) (hb hby at_70) (fun _ _ => ⟨rfl, rfl, (by decide : 0 + 3 ≤ _), (by decide : 0 + 6 ≤ _)⟩)
  dsimp only [Pt.U, Pt.locs, Pt.cells, Pt.slots] at X13 l13 y13 z13 st13 hQ13
  subst l13 y13 z13
  obtain ⟨rfl, N13q, w13⟩ := hQ13
  have u13 : T13.heap = T12.heap := w13
  have N13 := Fr.app N12 N13q
  obtain ⟨_, _, ⟨T14, L14, k14, n14⟩, -, X14, ⟨Lc14, hQ14, l14, y14, z14⟩, st14⟩ := Jvm.LawKit.callS X13 hx (y := (⟨"com/example/harburg/harburg/epc/FieldCharacterCountPinLaw", "pct", "(ZC)I"⟩ : MethodName)) hown (mvT hZ (hw _ (List.mem_of_getElem? (i := 30) rfl))) (mvT hZ (hw _ (List.mem_of_getElem? (i := 31) rfl))) (mvT hZ (hw _ (List.mem_of_getElem? (i := 3) rfl))) (mvT hZ (hw _ (List.mem_of_getElem? (i := 32) rfl))) (by decide) (backOf (W := 1) (rm6 l Z a0 hw [] (0 : Int32) (val1 p3) T13.heap n0 (by rw [u13]; exact z12)) hZ (hw _ (List.mem_of_getElem? (i := 32) rfl)) (hw _ (List.mem_of_getElem? (i := 3) rfl)) (by decide) (by decide)) (g := (mkF m 86 #[.val (.int p1), .val (.int p2), .val (.int p3), .val (.int p4), .val (.int p5), .val (.int p6), .val (.int (own_n p1)), .val (.int (val1 p2)), .val (.int (val1 p3)), .val (.int (val1 p4)), .val (.int (val1 p5)), .val (.int (val1 p6)), .val (.ref b12), .unset, .unset] [(.int (val1 p3)), (.int (0 : Int32)), (.int (val6 (1 : Int32) (val1 p2)))])) rfl (by rw [hml]; rfl) (argsL := [(.int (0 : Int32)), (.int (val1 p3))]) (rest := [(.int (val6 (1 : Int32) (val1 p2)))]) (lenOf pd_0_5 rfl) rfl (by show 2 * 0 + _ ≤ _; exact Nat.le_of_eq rfl) (hb hby at_86) (fun _ _ => ⟨rfl, rfl, (by decide : 0 + 3 ≤ _), (by decide : 0 + 6 ≤ _)⟩)
  dsimp only [Pt.U, Pt.locs, Pt.cells, Pt.slots] at X14 l14 y14 z14 st14 hQ14
  subst l14 y14 z14
  obtain ⟨rfl, N14q, w14⟩ := hQ14
  have u14 : T14.heap = T12.heap := w14.trans u13
  have N14 := Fr.app N13 N14q
  obtain ⟨_, _, ⟨T15, L15, k15, n15⟩, -, X15, ⟨Lc15, hQ15, l15, y15, z15⟩, st15⟩ := Jvm.LawKit.callS X14 hx (y := (⟨"com/example/harburg/harburg/epc/FieldCharacterCountPinLaw", "pct", "(ZC)I"⟩ : MethodName)) hown (mvT hZ (hw _ (List.mem_of_getElem? (i := 30) rfl))) (mvT hZ (hw _ (List.mem_of_getElem? (i := 31) rfl))) (mvT hZ (hw _ (List.mem_of_getElem? (i := 3) rfl))) (mvT hZ (hw _ (List.mem_of_getElem? (i := 32) rfl))) (by decide) (backOf (W := 1) (rm6 l Z a0 hw [] (0 : Int32) (val1 p4) T14.heap n0 (by rw [u14]; exact z12)) hZ (hw _ (List.mem_of_getElem? (i := 32) rfl)) (hw _ (List.mem_of_getElem? (i := 3) rfl)) (by decide) (by decide)) (g := (mkF m 103 #[.val (.int p1), .val (.int p2), .val (.int p3), .val (.int p4), .val (.int p5), .val (.int p6), .val (.int (own_n p1)), .val (.int (val1 p2)), .val (.int (val1 p3)), .val (.int (val1 p4)), .val (.int (val1 p5)), .val (.int (val1 p6)), .val (.ref b12), .unset, .unset] [(.int (val1 p4)), (.int (0 : Int32)), (.int ((val6 (1 : Int32) (val1 p2)) + (val6 (0 : Int32) (val1 p3))))])) rfl (by rw [hml]; rfl) (argsL := [(.int (0 : Int32)), (.int (val1 p4))]) (rest := [(.int ((val6 (1 : Int32) (val1 p2)) + (val6 (0 : Int32) (val1 p3))))]) (lenOf pd_0_5 rfl) rfl (by show 2 * 0 + _ ≤ _; exact Nat.le_of_eq rfl) (hb hby at_103) (fun _ _ => ⟨rfl, rfl, (by decide : 0 + 3 ≤ _), (by decide : 0 + 6 ≤ _)⟩)
  dsimp only [Pt.U, Pt.locs, Pt.cells, Pt.slots] at X15 l15 y15 z15 st15 hQ15
  subst l15 y15 z15
  obtain ⟨rfl, N15q, w15⟩ := hQ15
  have u15 : T15.heap = T12.heap := w15.trans u14
  have N15 := Fr.app N14 N15q
  obtain ⟨_, _, ⟨T16, L16, k16, n16⟩, -, X16, ⟨Lc16, hQ16, l16, y16, z16⟩, st16⟩ := Jvm.LawKit.callS X15 hx (y := (⟨"com/example/harburg/harburg/epc/FieldCharacterCountPinLaw", "pct", "(ZC)I"⟩ : MethodName)) hown (mvT hZ (hw _ (List.mem_of_getElem? (i := 30) rfl))) (mvT hZ (hw _ (List.mem_of_getElem? (i := 31) rfl))) (mvT hZ (hw _ (List.mem_of_getElem? (i := 3) rfl))) (mvT hZ (hw _ (List.mem_of_getElem? (i := 32) rfl))) (by decide) (backOf (W := 1) (rm6 l Z a0 hw [] (0 : Int32) (val1 p5) T15.heap n0 (by rw [u15]; exact z12)) hZ (hw _ (List.mem_of_getElem? (i := 32) rfl)) (hw _ (List.mem_of_getElem? (i := 3) rfl)) (by decide) (by decide)) (g := (mkF m 120 #[.val (.int p1), .val (.int p2), .val (.int p3), .val (.int p4), .val (.int p5), .val (.int p6), .val (.int (own_n p1)), .val (.int (val1 p2)), .val (.int (val1 p3)), .val (.int (val1 p4)), .val (.int (val1 p5)), .val (.int (val1 p6)), .val (.ref b12), .unset, .unset] [(.int (val1 p5)), (.int (0 : Int32)), (.int (((val6 (1 : Int32) (val1 p2)) + (val6 (0 : Int32) (val1 p3))) + (val6 (0 : Int32) (val1 p4))))])) rfl (by rw [hml]; rfl) (argsL := [(.int (0 : Int32)), (.int (val1 p5))]) (rest := [(.int (((val6 (1 : Int32) (val1 p2)) + (val6 (0 : Int32) (val1 p3))) + (val6 (0 : Int32) (val1 p4))))]) (lenOf pd_0_5 rfl) rfl (by show 2 * 0 + _ ≤ _; exact Nat.le_of_eq rfl) (hb hby at_120) (fun _ _ => ⟨rfl, rfl, (by decide : 0 + 3 ≤ _), (by decide : 0 + 6 ≤ _)⟩)
  dsimp only [Pt.U, Pt.locs, Pt.cells, Pt.slots] at X16 l16 y16 z16 st16 hQ16
  subst l16 y16 z16
  obtain ⟨rfl, N16q, w16⟩ := hQ16
  have u16 : T16.heap = T12.heap := w16.trans u15
  have N16 := Fr.app N15 N16q
  obtain ⟨_, _, ⟨T17, L17, k17, n17⟩, -, X17, ⟨Lc17, hQ17, l17, y17, z17⟩, st17⟩ := Jvm.LawKit.callS X16 hx (y := (⟨"com/example/harburg/harburg/epc/FieldCharacterCountPinLaw", "pct", "(ZC)I"⟩ : MethodName)) hown (mvT hZ (hw _ (List.mem_of_getElem? (i := 30) rfl))) (mvT hZ (hw _ (List.mem_of_getElem? (i := 31) rfl))) (mvT hZ (hw _ (List.mem_of_getElem? (i := 3) rfl))) (mvT hZ (hw _ (List.mem_of_getElem? (i := 32) rfl))) (by decide) (backOf (W := 1) (rm6 l Z a0 hw [] (0 : Int32) (val1 p6) T16.heap n0 (by rw [u16]; exact z12)) hZ (hw _ (List.mem_of_getElem? (i := 32) rfl)) (hw _ (List.mem_of_getElem? (i := 3) rfl)) (by decide) (by decide)) (g := (mkF m 137 #[.val (.int p1), .val (.int p2), .val (.int p3), .val (.int p4), .val (.int p5), .val (.int p6), .val (.int (own_n p1)), .val (.int (val1 p2)), .val (.int (val1 p3)), .val (.int (val1 p4)), .val (.int (val1 p5)), .val (.int (val1 p6)), .val (.ref b12), .unset, .unset] [(.int (val1 p6)), (.int (0 : Int32)), (.int ((((val6 (1 : Int32) (val1 p2)) + (val6 (0 : Int32) (val1 p3))) + (val6 (0 : Int32) (val1 p4))) + (val6 (0 : Int32) (val1 p5))))])) rfl (by rw [hml]; rfl) (argsL := [(.int (0 : Int32)), (.int (val1 p6))]) (rest := [(.int ((((val6 (1 : Int32) (val1 p2)) + (val6 (0 : Int32) (val1 p3))) + (val6 (0 : Int32) (val1 p4))) + (val6 (0 : Int32) (val1 p5))))]) (lenOf pd_0_5 rfl) rfl (by show 2 * 0 + _ ≤ _; exact Nat.le_of_eq rfl) (hb hby at_137) (fun _ _ => ⟨rfl, rfl, (by decide : 0 + 3 ≤ _), (by decide : 0 + 6 ≤ _)⟩)
  dsimp only [Pt.U, Pt.locs, Pt.cells, Pt.slots] at X17 l17 y17 z17 st17 hQ17
  subst l17 y17 z17
  obtain ⟨rfl, N17q, w17⟩ := hQ17
  have u17 : T17.heap = T12.heap := w17.trans u16
  have N17 := Fr.app N16 N17q
  have hln : ∀ d ∈ StrChars.Road.wordsLen, d.before a0 Z = true := fun d hd => hw d ((by decide +kernel : ∀ d ∈ StrChars.Road.wordsLen, d ∈ tables_1) d hd)
  have hch : ∀ d ∈ StrChars.Road.wordsChN, d.before a0 Z = true := fun d hd => hw d ((by decide +kernel : ∀ d ∈ StrChars.Road.wordsChN, d ∈ tables_1) d hd)
  obtain ⟨xS, tS, kS, FvS, FcS, AvS⟩ : own_STR Z T12.heap b12 ([(val1 p2)] : List Int32) := S12
  have xS' : Exa Z T17.heap b12 "java/lang/String" := by rw [u17]; exact xS
  have FvS' : Fld Z T17.heap b12 "java/lang/String" "value" "[B" (.ref tS) := by rw [u17]; exact FvS
  have FcS' : Fld Z T17.heap b12 "java/lang/String" "coder" "B" (.int (0 : Int32)) := by rw [u17]; exact FcS
  have AvS' : Arv Z T17.heap tS kS .byte (Int32.ofNat ([(val1 p2)] : List Int32).length) ((([(val1 p2)] : List Int32).map (fun c => c.toInt8.toInt32)).map Value.int) (.int 0) := by rw [u17]; exact AvS
  have XO' : Old Z n0 T17.heap := by rw [u17]; exact XO12
  obtain ⟨_, _, ⟨T18, L18, k18, n18⟩, -, X18, ⟨Lc18, hQ18, l18, y18, z18⟩, st18⟩ := Jvm.LawKit.callS X17 hx (y := (⟨"com/example/harburg/harburg/epc/EpcScheme$Field", "characterCount", "(Ljava/lang/String;)I"⟩ : MethodName)) hown (mvT hZ (hw _ (List.mem_of_getElem? (i := 33) rfl))) (mvT hZ (hw _ (List.mem_of_getElem? (i := 34) rfl))) (mvT hZ (hw _ (List.mem_of_getElem? (i := 35) rfl))) (mvT hZ (hw _ (List.mem_of_getElem? (i := 36) rfl))) (by decide) (backOf (W := 0) (rm7 l Z a0 hw [] b12 T17.heap n0 (by rw [u17]; exact z12) xS' hln hch ([(val1 p2)] : List Int32) (Nat.le_of_ble_eq_true rfl) (own_all1 p2) tS kS G1 G3 FvS' FcS' AvS' (O2.ext XO'.2) P5 (O4.ext XO'.2) rG3) hZ (hw _ (List.mem_of_getElem? (i := 36) rfl)) (hw _ (List.mem_of_getElem? (i := 35) rfl)) (by decide) (by decide)) (g := (mkF m 145 #[.val (.int p1), .val (.int p2), .val (.int p3), .val (.int p4), .val (.int p5), .val (.int p6), .val (.int (own_n p1)), .val (.int (val1 p2)), .val (.int (val1 p3)), .val (.int (val1 p4)), .val (.int (val1 p5)), .val (.int (val1 p6)), .val (.ref b12), .val (.int (((((val6 (1 : Int32) (val1 p2)) + (val6 (0 : Int32) (val1 p3))) + (val6 (0 : Int32) (val1 p4))) + (val6 (0 : Int32) (val1 p5))) + (val6 (0 : Int32) (val1 p6)))), .unset] [(.ref b12)])) rfl (by rw [hml]; rfl) (argsL := [(.ref b12)]) (rest := []) (lenOf pd_0_6 rfl) rfl (by show 2 * 0 + _ ≤ _; exact Nat.le_of_eq rfl) (hb hby at_145) (fun _ _ => ⟨rfl, rfl, (by decide : 0 + 3 ≤ _), (by decide : 0 + 6 ≤ _)⟩)
  dsimp only [Pt.U, Pt.locs, Pt.cells, Pt.slots] at X18 l18 y18 z18 st18 hQ18
  subst l18 y18 z18
  obtain ⟨rfl, N18q, w18⟩ := hQ18
  have u18 : T18.heap = T12.heap := w18.trans u17
  have N18 := Fr.app N17 N18q
  have xL : Exa Z T18.heap b12 "java/lang/String" := by rw [u18]; exact xS
  obtain ⟨cq19, kq19, q19a, q19b, q19c⟩ := isOf hZ rfl xL
  have FvL : Fld Z T18.heap b12 "java/lang/String" "value" "[B" (.ref tS) := by rw [u18]; exact FvS
  have FcL : Fld Z T18.heap b12 "java/lang/String" "coder" "B" (.int (0 : Int32)) := by rw [u18]; exact FcS
  have AvL : Arv Z T18.heap tS kS .byte (Int32.ofNat ([(val1 p2)] : List Int32).length) ((([(val1 p2)] : List Int32).map (fun c => c.toInt8.toInt32)).map Value.int) (.int 0) := by rw [u18]; exact AvS
  have XOL : Old Z n0 T18.heap := by rw [u18]; exact XO12
  obtain ⟨_, _, ⟨T19, L19, k19, n19⟩, -, X19, ⟨Lc19, hQ19, l19, y19, z19⟩, st19⟩ := X18.virtualBack hx (y := (⟨"java/lang/String", "length", "()I"⟩ : MethodName)) (z := (⟨"java/lang/String", "length", "()I"⟩ : MethodName)) hown (mvT hZ (hw _ (List.mem_of_getElem? (i := 48) rfl))) (mvT hZ (hw _ (List.mem_of_getElem? (i := 38) rfl))) (notFace_of_selects (args := #[]) (mvT hZ (hw _ (List.mem_of_getElem? (i := 40) rfl)))) (mvT hZ (hw _ (List.mem_of_getElem? (i := 40) rfl))) (mvT hZ (hw _ (List.mem_of_getElem? (i := 39) rfl))) (by decide) (StrChars.Road.lenW (W := 0) hZ hln (kI := 4) (hw _ (List.mem_of_getElem? (i := 9) rfl)) xL FvL FcL AvL (StrChars.Road.codOf rfl (fun c hc => (own_all1 p2 c hc).2)) (own_up _ (own_all1 p2)) (O2.ext XOL.2) P5 (Nat.le_of_ble_eq_true rfl) (by decide) (by decide)) q19a q19c (g := (mkF m 152 #[.val (.int p1), .val (.int p2), .val (.int p3), .val (.int p4), .val (.int p5), .val (.int p6), .val (.int (own_n p1)), .val (.int (val1 p2)), .val (.int (val1 p3)), .val (.int (val1 p4)), .val (.int (val1 p5)), .val (.int (val1 p6)), .val (.ref b12), .val (.int (((((val6 (1 : Int32) (val1 p2)) + (val6 (0 : Int32) (val1 p3))) + (val6 (0 : Int32) (val1 p4))) + (val6 (0 : Int32) (val1 p5))) + (val6 (0 : Int32) (val1 p6)))), .val (.int (Int32.ofNat ([(val1 p2)] : List Int32).length - ((2 : Int32) * own_cnt ([(val1 p2)] : List Int32))))] [(.ref b12)])) rfl (by rw [hml]; rfl) (Steps.refl _) (argsL := []) (rest := []) (lenOf pd_0_7 rfl) rfl (by show 2 * 0 + _ ≤ _; exact Nat.le_of_eq rfl) (hb hby at_152) (fun _ _ => ⟨rfl, rfl, (by decide : 0 + 3 ≤ _), (by decide : 0 + 6 ≤ _)⟩)
  dsimp only [Pt.U, Pt.locs, Pt.cells, Pt.slots] at X19 l19 y19 z19 st19 hQ19
  subst l19 y19 z19
  obtain ⟨rfl, rfl, w19⟩ := hQ19
  have N19 := Fr.app N18 (Fr.nil n0)
  obtain ⟨fs, hr, hrun, hended, hW, hsame⟩ := X19.leave (v := some (.int (1 : Int32))) (fun h => by rw [Bd.returns] at h; cases h)
  refine ⟨_, _, pre0 _ ?_, hrun, hended, _, _, rfl, ?_, ⟨_, rfl⟩, hW, hsame.mono (by decide) (by decide)⟩
  · show Steps p.tables e below (s₁.setTop (mkF m 0 #[.val (.int p1), .val (.int p2), .val (.int p3), .val (.int p4), .val (.int p5), .val (.int p6), .unset, .unset, .unset, .unset, .unset, .unset, .unset, .unset, .unset] [])) _
    refine XS.iloadN X0.here hx rfl (hb hby at_0) rfl ?_
    show Steps p.tables e below (s₁.setTop (mkF m 1 #[.val (.int p1), .val (.int p2), .val (.int p3), .val (.int p4), .val (.int p5), .val (.int p6), .unset, .unset, .unset, .unset, .unset, .unset, .unset, .unset, .unset] [(.int p1)])) _
    refine X0.ldcInt hx hown (mvT hZ (hw _ (List.mem_of_getElem? (i := 0) rfl))) (g := (mkF m 1 #[.val (.int p1), .val (.int p2), .val (.int p3), .val (.int p4), .val (.int p5), .val (.int p6), .unset, .unset, .unset, .unset, .unset, .unset, .unset, .unset, .unset] [(.int p1)])) rfl (hb hby at_1) _ ?_
    show Steps p.tables e below (s₁.setTop (mkF m 3 #[.val (.int p1), .val (.int p2), .val (.int p3), .val (.int p4), .val (.int p5), .val (.int p6), .unset, .unset, .unset, .unset, .unset, .unset, .unset, .unset, .unset] [(.int (2147483647 : Int32)), (.int p1)])) _
    refine XS.iand X0.here hx rfl (hb hby at_3) rfl ?_
    show Steps p.tables e below (s₁.setTop (mkF m 4 #[.val (.int p1), .val (.int p2), .val (.int p3), .val (.int p4), .val (.int p5), .val (.int p6), .unset, .unset, .unset, .unset, .unset, .unset, .unset, .unset, .unset] [(.int (p1 &&& (2147483647 : Int32)))])) _
    refine XS.bipush X0.here hx rfl (hb hby at_4) ?_
    show Steps p.tables e below (s₁.setTop (mkF m 6 #[.val (.int p1), .val (.int p2), .val (.int p3), .val (.int p4), .val (.int p5), .val (.int p6), .unset, .unset, .unset, .unset, .unset, .unset, .unset, .unset, .unset] [(.int (6 : Int32)), (.int (p1 &&& (2147483647 : Int32)))])) _
    refine XS.irem X0.here hx rfl (hb hby at_6) rfl (by decide) ?_
    show Steps p.tables e below (s₁.setTop (mkF m 7 #[.val (.int p1), .val (.int p2), .val (.int p3), .val (.int p4), .val (.int p5), .val (.int p6), .unset, .unset, .unset, .unset, .unset, .unset, .unset, .unset, .unset] [(.int (own_n p1))])) _
    refine XS.istore X0.here hx rfl (hb hby at_7) rfl (l' := #[.val (.int p1), .val (.int p2), .val (.int p3), .val (.int p4), .val (.int p5), .val (.int p6), .val (.int (own_n p1)), .unset, .unset, .unset, .unset, .unset, .unset, .unset, .unset]) rfl ?_
    show Steps p.tables e below (s₁.setTop (mkF m 9 #[.val (.int p1), .val (.int p2), .val (.int p3), .val (.int p4), .val (.int p5), .val (.int p6), .val (.int (own_n p1)), .unset, .unset, .unset, .unset, .unset, .unset, .unset, .unset] [])) _
    refine XS.iloadN X0.here hx rfl (hb hby at_9) rfl ?_
    show Steps p.tables e below (s₁.setTop (mkF m 10 #[.val (.int p1), .val (.int p2), .val (.int p3), .val (.int p4), .val (.int p5), .val (.int p6), .val (.int (own_n p1)), .unset, .unset, .unset, .unset, .unset, .unset, .unset, .unset] [(.int p2)])) _
    refine st7 _ ?_
    show Steps p.tables e below (T7.setTop (mkF m 13 #[.val (.int p1), .val (.int p2), .val (.int p3), .val (.int p4), .val (.int p5), .val (.int p6), .val (.int (own_n p1)), .unset, .unset, .unset, .unset, .unset, .unset, .unset, .unset] [(.int (val1 p2))])) _
    refine XS.istore X7.here hx rfl (hb hby at_13) rfl (l' := #[.val (.int p1), .val (.int p2), .val (.int p3), .val (.int p4), .val (.int p5), .val (.int p6), .val (.int (own_n p1)), .val (.int (val1 p2)), .unset, .unset, .unset, .unset, .unset, .unset, .unset]) rfl ?_
    show Steps p.tables e below (T7.setTop (mkF m 15 #[.val (.int p1), .val (.int p2), .val (.int p3), .val (.int p4), .val (.int p5), .val (.int p6), .val (.int (own_n p1)), .val (.int (val1 p2)), .unset, .unset, .unset, .unset, .unset, .unset, .unset] [])) _
    refine XS.iloadN X7.here hx rfl (hb hby at_15) rfl ?_
    show Steps p.tables e below (T7.setTop (mkF m 16 #[.val (.int p1), .val (.int p2), .val (.int p3), .val (.int p4), .val (.int p5), .val (.int p6), .val (.int (own_n p1)), .val (.int (val1 p2)), .unset, .unset, .unset, .unset, .unset, .unset, .unset] [(.int p3)])) _
    refine st8 _ ?_
    show Steps p.tables e below (T8.setTop (mkF m 19 #[.val (.int p1), .val (.int p2), .val (.int p3), .val (.int p4), .val (.int p5), .val (.int p6), .val (.int (own_n p1)), .val (.int (val1 p2)), .unset, .unset, .unset, .unset, .unset, .unset, .unset] [(.int (val1 p3))])) _
    refine XS.istore X8.here hx rfl (hb hby at_19) rfl (l' := #[.val (.int p1), .val (.int p2), .val (.int p3), .val (.int p4), .val (.int p5), .val (.int p6), .val (.int (own_n p1)), .val (.int (val1 p2)), .val (.int (val1 p3)), .unset, .unset, .unset, .unset, .unset, .unset]) rfl ?_
    show Steps p.tables e below (T8.setTop (mkF m 21 #[.val (.int p1), .val (.int p2), .val (.int p3), .val (.int p4), .val (.int p5), .val (.int p6), .val (.int (own_n p1)), .val (.int (val1 p2)), .val (.int (val1 p3)), .unset, .unset, .unset, .unset, .unset, .unset] [])) _
    refine XS.iloadN X8.here hx rfl (hb hby at_21) rfl ?_
    show Steps p.tables e below (T8.setTop (mkF m 22 #[.val (.int p1), .val (.int p2), .val (.int p3), .val (.int p4), .val (.int p5), .val (.int p6), .val (.int (own_n p1)), .val (.int (val1 p2)), .val (.int (val1 p3)), .unset, .unset, .unset, .unset, .unset, .unset] [(.int p4)])) _
    refine st9 _ ?_
    show Steps p.tables e below (T9.setTop (mkF m 25 #[.val (.int p1), .val (.int p2), .val (.int p3), .val (.int p4), .val (.int p5), .val (.int p6), .val (.int (own_n p1)), .val (.int (val1 p2)), .val (.int (val1 p3)), .unset, .unset, .unset, .unset, .unset, .unset] [(.int (val1 p4))])) _
    refine XS.istore X9.here hx rfl (hb hby at_25) rfl (l' := #[.val (.int p1), .val (.int p2), .val (.int p3), .val (.int p4), .val (.int p5), .val (.int p6), .val (.int (own_n p1)), .val (.int (val1 p2)), .val (.int (val1 p3)), .val (.int (val1 p4)), .unset, .unset, .unset, .unset, .unset]) rfl ?_
    show Steps p.tables e below (T9.setTop (mkF m 27 #[.val (.int p1), .val (.int p2), .val (.int p3), .val (.int p4), .val (.int p5), .val (.int p6), .val (.int (own_n p1)), .val (.int (val1 p2)), .val (.int (val1 p3)), .val (.int (val1 p4)), .unset, .unset, .unset, .unset, .unset] [])) _
    refine XS.iload X9.here hx rfl (hb hby at_27) rfl ?_
    show Steps p.tables e below (T9.setTop (mkF m 29 #[.val (.int p1), .val (.int p2), .val (.int p3), .val (.int p4), .val (.int p5), .val (.int p6), .val (.int (own_n p1)), .val (.int (val1 p2)), .val (.int (val1 p3)), .val (.int (val1 p4)), .unset, .unset, .unset, .unset, .unset] [(.int p5)])) _
    refine st10 _ ?_
    show Steps p.tables e below (T10.setTop (mkF m 32 #[.val (.int p1), .val (.int p2), .val (.int p3), .val (.int p4), .val (.int p5), .val (.int p6), .val (.int (own_n p1)), .val (.int (val1 p2)), .val (.int (val1 p3)), .val (.int (val1 p4)), .unset, .unset, .unset, .unset, .unset] [(.int (val1 p5))])) _
    refine XS.istore X10.here hx rfl (hb hby at_32) rfl (l' := #[.val (.int p1), .val (.int p2), .val (.int p3), .val (.int p4), .val (.int p5), .val (.int p6), .val (.int (own_n p1)), .val (.int (val1 p2)), .val (.int (val1 p3)), .val (.int (val1 p4)), .val (.int (val1 p5)), .unset, .unset, .unset, .unset]) rfl ?_
    show Steps p.tables e below (T10.setTop (mkF m 34 #[.val (.int p1), .val (.int p2), .val (.int p3), .val (.int p4), .val (.int p5), .val (.int p6), .val (.int (own_n p1)), .val (.int (val1 p2)), .val (.int (val1 p3)), .val (.int (val1 p4)), .val (.int (val1 p5)), .unset, .unset, .unset, .unset] [])) _
    refine XS.iload X10.here hx rfl (hb hby at_34) rfl ?_
    show Steps p.tables e below (T10.setTop (mkF m 36 #[.val (.int p1), .val (.int p2), .val (.int p3), .val (.int p4), .val (.int p5), .val (.int p6), .val (.int (own_n p1)), .val (.int (val1 p2)), .val (.int (val1 p3)), .val (.int (val1 p4)), .val (.int (val1 p5)), .unset, .unset, .unset, .unset] [(.int p6)])) _
    refine st11 _ ?_
    show Steps p.tables e below (T11.setTop (mkF m 39 #[.val (.int p1), .val (.int p2), .val (.int p3), .val (.int p4), .val (.int p5), .val (.int p6), .val (.int (own_n p1)), .val (.int (val1 p2)), .val (.int (val1 p3)), .val (.int (val1 p4)), .val (.int (val1 p5)), .unset, .unset, .unset, .unset] [(.int (val1 p6))])) _
    refine XS.istore X11.here hx rfl (hb hby at_39) rfl (l' := #[.val (.int p1), .val (.int p2), .val (.int p3), .val (.int p4), .val (.int p5), .val (.int p6), .val (.int (own_n p1)), .val (.int (val1 p2)), .val (.int (val1 p3)), .val (.int (val1 p4)), .val (.int (val1 p5)), .val (.int (val1 p6)), .unset, .unset, .unset]) rfl ?_
    show Steps p.tables e below (T11.setTop (mkF m 41 #[.val (.int p1), .val (.int p2), .val (.int p3), .val (.int p4), .val (.int p5), .val (.int p6), .val (.int (own_n p1)), .val (.int (val1 p2)), .val (.int (val1 p3)), .val (.int (val1 p4)), .val (.int (val1 p5)), .val (.int (val1 p6)), .unset, .unset, .unset] [])) _
    refine XS.iload X11.here hx rfl (hb hby at_41) rfl ?_
    show Steps p.tables e below (T11.setTop (mkF m 43 #[.val (.int p1), .val (.int p2), .val (.int p3), .val (.int p4), .val (.int p5), .val (.int p6), .val (.int (own_n p1)), .val (.int (val1 p2)), .val (.int (val1 p3)), .val (.int (val1 p4)), .val (.int (val1 p5)), .val (.int (val1 p6)), .unset, .unset, .unset] [(.int (own_n p1))])) _
    refine XS.iload X11.here hx rfl (hb hby at_43) rfl ?_
    show Steps p.tables e below (T11.setTop (mkF m 45 #[.val (.int p1), .val (.int p2), .val (.int p3), .val (.int p4), .val (.int p5), .val (.int p6), .val (.int (own_n p1)), .val (.int (val1 p2)), .val (.int (val1 p3)), .val (.int (val1 p4)), .val (.int (val1 p5)), .val (.int (val1 p6)), .unset, .unset, .unset] [(.int (val1 p2)), (.int (own_n p1))])) _
    refine XS.iload X11.here hx rfl (hb hby at_45) rfl ?_
    show Steps p.tables e below (T11.setTop (mkF m 47 #[.val (.int p1), .val (.int p2), .val (.int p3), .val (.int p4), .val (.int p5), .val (.int p6), .val (.int (own_n p1)), .val (.int (val1 p2)), .val (.int (val1 p3)), .val (.int (val1 p4)), .val (.int (val1 p5)), .val (.int (val1 p6)), .unset, .unset, .unset] [(.int (val1 p3)), (.int (val1 p2)), (.int (own_n p1))])) _
    refine XS.iload X11.here hx rfl (hb hby at_47) rfl ?_
    show Steps p.tables e below (T11.setTop (mkF m 49 #[.val (.int p1), .val (.int p2), .val (.int p3), .val (.int p4), .val (.int p5), .val (.int p6), .val (.int (own_n p1)), .val (.int (val1 p2)), .val (.int (val1 p3)), .val (.int (val1 p4)), .val (.int (val1 p5)), .val (.int (val1 p6)), .unset, .unset, .unset] [(.int (val1 p4)), (.int (val1 p3)), (.int (val1 p2)), (.int (own_n p1))])) _
    refine XS.iload X11.here hx rfl (hb hby at_49) rfl ?_
    show Steps p.tables e below (T11.setTop (mkF m 51 #[.val (.int p1), .val (.int p2), .val (.int p3), .val (.int p4), .val (.int p5), .val (.int p6), .val (.int (own_n p1)), .val (.int (val1 p2)), .val (.int (val1 p3)), .val (.int (val1 p4)), .val (.int (val1 p5)), .val (.int (val1 p6)), .unset, .unset, .unset] [(.int (val1 p5)), (.int (val1 p4)), (.int (val1 p3)), (.int (val1 p2)), (.int (own_n p1))])) _
    refine XS.iload X11.here hx rfl (hb hby at_51) rfl ?_
    show Steps p.tables e below (T11.setTop (mkF m 53 #[.val (.int p1), .val (.int p2), .val (.int p3), .val (.int p4), .val (.int p5), .val (.int p6), .val (.int (own_n p1)), .val (.int (val1 p2)), .val (.int (val1 p3)), .val (.int (val1 p4)), .val (.int (val1 p5)), .val (.int (val1 p6)), .unset, .unset, .unset] [(.int (val1 p6)), (.int (val1 p5)), (.int (val1 p4)), (.int (val1 p3)), (.int (val1 p2)), (.int (own_n p1))])) _
    refine st12 _ ?_
    show Steps p.tables e below (T12.setTop (mkF m 56 #[.val (.int p1), .val (.int p2), .val (.int p3), .val (.int p4), .val (.int p5), .val (.int p6), .val (.int (own_n p1)), .val (.int (val1 p2)), .val (.int (val1 p3)), .val (.int (val1 p4)), .val (.int (val1 p5)), .val (.int (val1 p6)), .unset, .unset, .unset] [(.ref b12)])) _
    refine XS.astore X12.here hx rfl (hb hby at_56) rfl rfl (l' := #[.val (.int p1), .val (.int p2), .val (.int p3), .val (.int p4), .val (.int p5), .val (.int p6), .val (.int (own_n p1)), .val (.int (val1 p2)), .val (.int (val1 p3)), .val (.int (val1 p4)), .val (.int (val1 p5)), .val (.int (val1 p6)), .val (.ref b12), .unset, .unset]) rfl ?_
    show Steps p.tables e below (T12.setTop (mkF m 58 #[.val (.int p1), .val (.int p2), .val (.int p3), .val (.int p4), .val (.int p5), .val (.int p6), .val (.int (own_n p1)), .val (.int (val1 p2)), .val (.int (val1 p3)), .val (.int (val1 p4)), .val (.int (val1 p5)), .val (.int (val1 p6)), .val (.ref b12), .unset, .unset] [])) _
    refine XS.iload X12.here hx rfl (hb hby at_58) rfl ?_
    show Steps p.tables e below (T12.setTop (mkF m 60 #[.val (.int p1), .val (.int p2), .val (.int p3), .val (.int p4), .val (.int p5), .val (.int p6), .val (.int (own_n p1)), .val (.int (val1 p2)), .val (.int (val1 p3)), .val (.int (val1 p4)), .val (.int (val1 p5)), .val (.int (val1 p6)), .val (.ref b12), .unset, .unset] [(.int (own_n p1))])) _
    refine XS.ifNo X12.here hx rfl (hb hby at_60) rfl ((if0 _ _).trans (tlt (by rw [hn]; decide)).2.2.2) ?_
    show Steps p.tables e below (T12.setTop (mkF m 63 #[.val (.int p1), .val (.int p2), .val (.int p3), .val (.int p4), .val (.int p5), .val (.int p6), .val (.int (own_n p1)), .val (.int (val1 p2)), .val (.int (val1 p3)), .val (.int (val1 p4)), .val (.int (val1 p5)), .val (.int (val1 p6)), .val (.ref b12), .unset, .unset] [])) _
    refine XS.iconst X12.here hx rfl (hb hby at_63) ?_
    show Steps p.tables e below (T12.setTop (mkF m 64 #[.val (.int p1), .val (.int p2), .val (.int p3), .val (.int p4), .val (.int p5), .val (.int p6), .val (.int (own_n p1)), .val (.int (val1 p2)), .val (.int (val1 p3)), .val (.int (val1 p4)), .val (.int (val1 p5)), .val (.int (val1 p6)), .val (.ref b12), .unset, .unset] [(.int (1 : Int32))])) _
    refine XS.goto X12.here hx rfl (pc0 := 64) (pc' := 68) rfl (hb hby at_64) (by decide) (by decide) ?_
    show Steps p.tables e below (T12.setTop (mkF m 68 #[.val (.int p1), .val (.int p2), .val (.int p3), .val (.int p4), .val (.int p5), .val (.int p6), .val (.int (own_n p1)), .val (.int (val1 p2)), .val (.int (val1 p3)), .val (.int (val1 p4)), .val (.int (val1 p5)), .val (.int (val1 p6)), .val (.ref b12), .unset, .unset] [(.int (1 : Int32))])) _
    refine XS.iload X12.here hx rfl (hb hby at_68) rfl ?_
    show Steps p.tables e below (T12.setTop (mkF m 70 #[.val (.int p1), .val (.int p2), .val (.int p3), .val (.int p4), .val (.int p5), .val (.int p6), .val (.int (own_n p1)), .val (.int (val1 p2)), .val (.int (val1 p3)), .val (.int (val1 p4)), .val (.int (val1 p5)), .val (.int (val1 p6)), .val (.ref b12), .unset, .unset] [(.int (val1 p2)), (.int (1 : Int32))])) _
    refine st13 _ ?_
    show Steps p.tables e below (T13.setTop (mkF m 73 #[.val (.int p1), .val (.int p2), .val (.int p3), .val (.int p4), .val (.int p5), .val (.int p6), .val (.int (own_n p1)), .val (.int (val1 p2)), .val (.int (val1 p3)), .val (.int (val1 p4)), .val (.int (val1 p5)), .val (.int (val1 p6)), .val (.ref b12), .unset, .unset] [(.int (val6 (1 : Int32) (val1 p2)))])) _
    refine XS.iload X13.here hx rfl (hb hby at_73) rfl ?_
    show Steps p.tables e below (T13.setTop (mkF m 75 #[.val (.int p1), .val (.int p2), .val (.int p3), .val (.int p4), .val (.int p5), .val (.int p6), .val (.int (own_n p1)), .val (.int (val1 p2)), .val (.int (val1 p3)), .val (.int (val1 p4)), .val (.int (val1 p5)), .val (.int (val1 p6)), .val (.ref b12), .unset, .unset] [(.int (own_n p1)), (.int (val6 (1 : Int32) (val1 p2)))])) _
    refine XS.iconst X13.here hx rfl (hb hby at_75) ?_
    show Steps p.tables e below (T13.setTop (mkF m 76 #[.val (.int p1), .val (.int p2), .val (.int p3), .val (.int p4), .val (.int p5), .val (.int p6), .val (.int (own_n p1)), .val (.int (val1 p2)), .val (.int (val1 p3)), .val (.int (val1 p4)), .val (.int (val1 p5)), .val (.int (val1 p6)), .val (.ref b12), .unset, .unset] [(.int (1 : Int32)), (.int (own_n p1)), (.int (val6 (1 : Int32) (val1 p2)))])) _
    refine XS.icmpYes X13.here hx rfl (pc0 := 76) (pc' := 83) rfl (hb hby at_76) rfl (flt (by rw [hn]; decide)).2.2.2 (by decide) (by decide) ?_
    show Steps p.tables e below (T13.setTop (mkF m 83 #[.val (.int p1), .val (.int p2), .val (.int p3), .val (.int p4), .val (.int p5), .val (.int p6), .val (.int (own_n p1)), .val (.int (val1 p2)), .val (.int (val1 p3)), .val (.int (val1 p4)), .val (.int (val1 p5)), .val (.int (val1 p6)), .val (.ref b12), .unset, .unset] [(.int (val6 (1 : Int32) (val1 p2)))])) _
    refine XS.iconst X13.here hx rfl (hb hby at_83) ?_
    show Steps p.tables e below (T13.setTop (mkF m 84 #[.val (.int p1), .val (.int p2), .val (.int p3), .val (.int p4), .val (.int p5), .val (.int p6), .val (.int (own_n p1)), .val (.int (val1 p2)), .val (.int (val1 p3)), .val (.int (val1 p4)), .val (.int (val1 p5)), .val (.int (val1 p6)), .val (.ref b12), .unset, .unset] [(.int (0 : Int32)), (.int (val6 (1 : Int32) (val1 p2)))])) _
    refine XS.iload X13.here hx rfl (hb hby at_84) rfl ?_
    show Steps p.tables e below (T13.setTop (mkF m 86 #[.val (.int p1), .val (.int p2), .val (.int p3), .val (.int p4), .val (.int p5), .val (.int p6), .val (.int (own_n p1)), .val (.int (val1 p2)), .val (.int (val1 p3)), .val (.int (val1 p4)), .val (.int (val1 p5)), .val (.int (val1 p6)), .val (.ref b12), .unset, .unset] [(.int (val1 p3)), (.int (0 : Int32)), (.int (val6 (1 : Int32) (val1 p2)))])) _
    refine st14 _ ?_
    show Steps p.tables e below (T14.setTop (mkF m 89 #[.val (.int p1), .val (.int p2), .val (.int p3), .val (.int p4), .val (.int p5), .val (.int p6), .val (.int (own_n p1)), .val (.int (val1 p2)), .val (.int (val1 p3)), .val (.int (val1 p4)), .val (.int (val1 p5)), .val (.int (val1 p6)), .val (.ref b12), .unset, .unset] [(.int (val6 (0 : Int32) (val1 p3))), (.int (val6 (1 : Int32) (val1 p2)))])) _
    refine XS.iadd X14.here hx rfl (hb hby at_89) rfl ?_
    show Steps p.tables e below (T14.setTop (mkF m 90 #[.val (.int p1), .val (.int p2), .val (.int p3), .val (.int p4), .val (.int p5), .val (.int p6), .val (.int (own_n p1)), .val (.int (val1 p2)), .val (.int (val1 p3)), .val (.int (val1 p4)), .val (.int (val1 p5)), .val (.int (val1 p6)), .val (.ref b12), .unset, .unset] [(.int ((val6 (1 : Int32) (val1 p2)) + (val6 (0 : Int32) (val1 p3))))])) _
    refine XS.iload X14.here hx rfl (hb hby at_90) rfl ?_
    show Steps p.tables e below (T14.setTop (mkF m 92 #[.val (.int p1), .val (.int p2), .val (.int p3), .val (.int p4), .val (.int p5), .val (.int p6), .val (.int (own_n p1)), .val (.int (val1 p2)), .val (.int (val1 p3)), .val (.int (val1 p4)), .val (.int (val1 p5)), .val (.int (val1 p6)), .val (.ref b12), .unset, .unset] [(.int (own_n p1)), (.int ((val6 (1 : Int32) (val1 p2)) + (val6 (0 : Int32) (val1 p3))))])) _
    refine XS.iconst X14.here hx rfl (hb hby at_92) ?_
    show Steps p.tables e below (T14.setTop (mkF m 93 #[.val (.int p1), .val (.int p2), .val (.int p3), .val (.int p4), .val (.int p5), .val (.int p6), .val (.int (own_n p1)), .val (.int (val1 p2)), .val (.int (val1 p3)), .val (.int (val1 p4)), .val (.int (val1 p5)), .val (.int (val1 p6)), .val (.ref b12), .unset, .unset] [(.int (2 : Int32)), (.int (own_n p1)), (.int ((val6 (1 : Int32) (val1 p2)) + (val6 (0 : Int32) (val1 p3))))])) _
    refine XS.icmpYes X14.here hx rfl (pc0 := 93) (pc' := 100) rfl (hb hby at_93) rfl (flt (by rw [hn]; decide)).2.2.2 (by decide) (by decide) ?_
    show Steps p.tables e below (T14.setTop (mkF m 100 #[.val (.int p1), .val (.int p2), .val (.int p3), .val (.int p4), .val (.int p5), .val (.int p6), .val (.int (own_n p1)), .val (.int (val1 p2)), .val (.int (val1 p3)), .val (.int (val1 p4)), .val (.int (val1 p5)), .val (.int (val1 p6)), .val (.ref b12), .unset, .unset] [(.int ((val6 (1 : Int32) (val1 p2)) + (val6 (0 : Int32) (val1 p3))))])) _
    refine XS.iconst X14.here hx rfl (hb hby at_100) ?_
    show Steps p.tables e below (T14.setTop (mkF m 101 #[.val (.int p1), .val (.int p2), .val (.int p3), .val (.int p4), .val (.int p5), .val (.int p6), .val (.int (own_n p1)), .val (.int (val1 p2)), .val (.int (val1 p3)), .val (.int (val1 p4)), .val (.int (val1 p5)), .val (.int (val1 p6)), .val (.ref b12), .unset, .unset] [(.int (0 : Int32)), (.int ((val6 (1 : Int32) (val1 p2)) + (val6 (0 : Int32) (val1 p3))))])) _
    refine XS.iload X14.here hx rfl (hb hby at_101) rfl ?_
    show Steps p.tables e below (T14.setTop (mkF m 103 #[.val (.int p1), .val (.int p2), .val (.int p3), .val (.int p4), .val (.int p5), .val (.int p6), .val (.int (own_n p1)), .val (.int (val1 p2)), .val (.int (val1 p3)), .val (.int (val1 p4)), .val (.int (val1 p5)), .val (.int (val1 p6)), .val (.ref b12), .unset, .unset] [(.int (val1 p4)), (.int (0 : Int32)), (.int ((val6 (1 : Int32) (val1 p2)) + (val6 (0 : Int32) (val1 p3))))])) _
    refine st15 _ ?_
    show Steps p.tables e below (T15.setTop (mkF m 106 #[.val (.int p1), .val (.int p2), .val (.int p3), .val (.int p4), .val (.int p5), .val (.int p6), .val (.int (own_n p1)), .val (.int (val1 p2)), .val (.int (val1 p3)), .val (.int (val1 p4)), .val (.int (val1 p5)), .val (.int (val1 p6)), .val (.ref b12), .unset, .unset] [(.int (val6 (0 : Int32) (val1 p4))), (.int ((val6 (1 : Int32) (val1 p2)) + (val6 (0 : Int32) (val1 p3))))])) _
    refine XS.iadd X15.here hx rfl (hb hby at_106) rfl ?_
    show Steps p.tables e below (T15.setTop (mkF m 107 #[.val (.int p1), .val (.int p2), .val (.int p3), .val (.int p4), .val (.int p5), .val (.int p6), .val (.int (own_n p1)), .val (.int (val1 p2)), .val (.int (val1 p3)), .val (.int (val1 p4)), .val (.int (val1 p5)), .val (.int (val1 p6)), .val (.ref b12), .unset, .unset] [(.int (((val6 (1 : Int32) (val1 p2)) + (val6 (0 : Int32) (val1 p3))) + (val6 (0 : Int32) (val1 p4))))])) _
    refine XS.iload X15.here hx rfl (hb hby at_107) rfl ?_
    show Steps p.tables e below (T15.setTop (mkF m 109 #[.val (.int p1), .val (.int p2), .val (.int p3), .val (.int p4), .val (.int p5), .val (.int p6), .val (.int (own_n p1)), .val (.int (val1 p2)), .val (.int (val1 p3)), .val (.int (val1 p4)), .val (.int (val1 p5)), .val (.int (val1 p6)), .val (.ref b12), .unset, .unset] [(.int (own_n p1)), (.int (((val6 (1 : Int32) (val1 p2)) + (val6 (0 : Int32) (val1 p3))) + (val6 (0 : Int32) (val1 p4))))])) _
    refine XS.iconst X15.here hx rfl (hb hby at_109) ?_
    show Steps p.tables e below (T15.setTop (mkF m 110 #[.val (.int p1), .val (.int p2), .val (.int p3), .val (.int p4), .val (.int p5), .val (.int p6), .val (.int (own_n p1)), .val (.int (val1 p2)), .val (.int (val1 p3)), .val (.int (val1 p4)), .val (.int (val1 p5)), .val (.int (val1 p6)), .val (.ref b12), .unset, .unset] [(.int (3 : Int32)), (.int (own_n p1)), (.int (((val6 (1 : Int32) (val1 p2)) + (val6 (0 : Int32) (val1 p3))) + (val6 (0 : Int32) (val1 p4))))])) _
    refine XS.icmpYes X15.here hx rfl (pc0 := 110) (pc' := 117) rfl (hb hby at_110) rfl (flt (by rw [hn]; decide)).2.2.2 (by decide) (by decide) ?_
    show Steps p.tables e below (T15.setTop (mkF m 117 #[.val (.int p1), .val (.int p2), .val (.int p3), .val (.int p4), .val (.int p5), .val (.int p6), .val (.int (own_n p1)), .val (.int (val1 p2)), .val (.int (val1 p3)), .val (.int (val1 p4)), .val (.int (val1 p5)), .val (.int (val1 p6)), .val (.ref b12), .unset, .unset] [(.int (((val6 (1 : Int32) (val1 p2)) + (val6 (0 : Int32) (val1 p3))) + (val6 (0 : Int32) (val1 p4))))])) _
    refine XS.iconst X15.here hx rfl (hb hby at_117) ?_
    show Steps p.tables e below (T15.setTop (mkF m 118 #[.val (.int p1), .val (.int p2), .val (.int p3), .val (.int p4), .val (.int p5), .val (.int p6), .val (.int (own_n p1)), .val (.int (val1 p2)), .val (.int (val1 p3)), .val (.int (val1 p4)), .val (.int (val1 p5)), .val (.int (val1 p6)), .val (.ref b12), .unset, .unset] [(.int (0 : Int32)), (.int (((val6 (1 : Int32) (val1 p2)) + (val6 (0 : Int32) (val1 p3))) + (val6 (0 : Int32) (val1 p4))))])) _
    refine XS.iload X15.here hx rfl (hb hby at_118) rfl ?_
    show Steps p.tables e below (T15.setTop (mkF m 120 #[.val (.int p1), .val (.int p2), .val (.int p3), .val (.int p4), .val (.int p5), .val (.int p6), .val (.int (own_n p1)), .val (.int (val1 p2)), .val (.int (val1 p3)), .val (.int (val1 p4)), .val (.int (val1 p5)), .val (.int (val1 p6)), .val (.ref b12), .unset, .unset] [(.int (val1 p5)), (.int (0 : Int32)), (.int (((val6 (1 : Int32) (val1 p2)) + (val6 (0 : Int32) (val1 p3))) + (val6 (0 : Int32) (val1 p4))))])) _
    refine st16 _ ?_
    show Steps p.tables e below (T16.setTop (mkF m 123 #[.val (.int p1), .val (.int p2), .val (.int p3), .val (.int p4), .val (.int p5), .val (.int p6), .val (.int (own_n p1)), .val (.int (val1 p2)), .val (.int (val1 p3)), .val (.int (val1 p4)), .val (.int (val1 p5)), .val (.int (val1 p6)), .val (.ref b12), .unset, .unset] [(.int (val6 (0 : Int32) (val1 p5))), (.int (((val6 (1 : Int32) (val1 p2)) + (val6 (0 : Int32) (val1 p3))) + (val6 (0 : Int32) (val1 p4))))])) _
    refine XS.iadd X16.here hx rfl (hb hby at_123) rfl ?_
    show Steps p.tables e below (T16.setTop (mkF m 124 #[.val (.int p1), .val (.int p2), .val (.int p3), .val (.int p4), .val (.int p5), .val (.int p6), .val (.int (own_n p1)), .val (.int (val1 p2)), .val (.int (val1 p3)), .val (.int (val1 p4)), .val (.int (val1 p5)), .val (.int (val1 p6)), .val (.ref b12), .unset, .unset] [(.int ((((val6 (1 : Int32) (val1 p2)) + (val6 (0 : Int32) (val1 p3))) + (val6 (0 : Int32) (val1 p4))) + (val6 (0 : Int32) (val1 p5))))])) _
    refine XS.iload X16.here hx rfl (hb hby at_124) rfl ?_
    show Steps p.tables e below (T16.setTop (mkF m 126 #[.val (.int p1), .val (.int p2), .val (.int p3), .val (.int p4), .val (.int p5), .val (.int p6), .val (.int (own_n p1)), .val (.int (val1 p2)), .val (.int (val1 p3)), .val (.int (val1 p4)), .val (.int (val1 p5)), .val (.int (val1 p6)), .val (.ref b12), .unset, .unset] [(.int (own_n p1)), (.int ((((val6 (1 : Int32) (val1 p2)) + (val6 (0 : Int32) (val1 p3))) + (val6 (0 : Int32) (val1 p4))) + (val6 (0 : Int32) (val1 p5))))])) _
    refine XS.iconst X16.here hx rfl (hb hby at_126) ?_
    show Steps p.tables e below (T16.setTop (mkF m 127 #[.val (.int p1), .val (.int p2), .val (.int p3), .val (.int p4), .val (.int p5), .val (.int p6), .val (.int (own_n p1)), .val (.int (val1 p2)), .val (.int (val1 p3)), .val (.int (val1 p4)), .val (.int (val1 p5)), .val (.int (val1 p6)), .val (.ref b12), .unset, .unset] [(.int (4 : Int32)), (.int (own_n p1)), (.int ((((val6 (1 : Int32) (val1 p2)) + (val6 (0 : Int32) (val1 p3))) + (val6 (0 : Int32) (val1 p4))) + (val6 (0 : Int32) (val1 p5))))])) _
    refine XS.icmpYes X16.here hx rfl (pc0 := 127) (pc' := 134) rfl (hb hby at_127) rfl (flt (by rw [hn]; decide)).2.2.2 (by decide) (by decide) ?_
    show Steps p.tables e below (T16.setTop (mkF m 134 #[.val (.int p1), .val (.int p2), .val (.int p3), .val (.int p4), .val (.int p5), .val (.int p6), .val (.int (own_n p1)), .val (.int (val1 p2)), .val (.int (val1 p3)), .val (.int (val1 p4)), .val (.int (val1 p5)), .val (.int (val1 p6)), .val (.ref b12), .unset, .unset] [(.int ((((val6 (1 : Int32) (val1 p2)) + (val6 (0 : Int32) (val1 p3))) + (val6 (0 : Int32) (val1 p4))) + (val6 (0 : Int32) (val1 p5))))])) _
    refine XS.iconst X16.here hx rfl (hb hby at_134) ?_
    show Steps p.tables e below (T16.setTop (mkF m 135 #[.val (.int p1), .val (.int p2), .val (.int p3), .val (.int p4), .val (.int p5), .val (.int p6), .val (.int (own_n p1)), .val (.int (val1 p2)), .val (.int (val1 p3)), .val (.int (val1 p4)), .val (.int (val1 p5)), .val (.int (val1 p6)), .val (.ref b12), .unset, .unset] [(.int (0 : Int32)), (.int ((((val6 (1 : Int32) (val1 p2)) + (val6 (0 : Int32) (val1 p3))) + (val6 (0 : Int32) (val1 p4))) + (val6 (0 : Int32) (val1 p5))))])) _
    refine XS.iload X16.here hx rfl (hb hby at_135) rfl ?_
    show Steps p.tables e below (T16.setTop (mkF m 137 #[.val (.int p1), .val (.int p2), .val (.int p3), .val (.int p4), .val (.int p5), .val (.int p6), .val (.int (own_n p1)), .val (.int (val1 p2)), .val (.int (val1 p3)), .val (.int (val1 p4)), .val (.int (val1 p5)), .val (.int (val1 p6)), .val (.ref b12), .unset, .unset] [(.int (val1 p6)), (.int (0 : Int32)), (.int ((((val6 (1 : Int32) (val1 p2)) + (val6 (0 : Int32) (val1 p3))) + (val6 (0 : Int32) (val1 p4))) + (val6 (0 : Int32) (val1 p5))))])) _
    refine st17 _ ?_
    show Steps p.tables e below (T17.setTop (mkF m 140 #[.val (.int p1), .val (.int p2), .val (.int p3), .val (.int p4), .val (.int p5), .val (.int p6), .val (.int (own_n p1)), .val (.int (val1 p2)), .val (.int (val1 p3)), .val (.int (val1 p4)), .val (.int (val1 p5)), .val (.int (val1 p6)), .val (.ref b12), .unset, .unset] [(.int (val6 (0 : Int32) (val1 p6))), (.int ((((val6 (1 : Int32) (val1 p2)) + (val6 (0 : Int32) (val1 p3))) + (val6 (0 : Int32) (val1 p4))) + (val6 (0 : Int32) (val1 p5))))])) _
    refine XS.iadd X17.here hx rfl (hb hby at_140) rfl ?_
    show Steps p.tables e below (T17.setTop (mkF m 141 #[.val (.int p1), .val (.int p2), .val (.int p3), .val (.int p4), .val (.int p5), .val (.int p6), .val (.int (own_n p1)), .val (.int (val1 p2)), .val (.int (val1 p3)), .val (.int (val1 p4)), .val (.int (val1 p5)), .val (.int (val1 p6)), .val (.ref b12), .unset, .unset] [(.int (((((val6 (1 : Int32) (val1 p2)) + (val6 (0 : Int32) (val1 p3))) + (val6 (0 : Int32) (val1 p4))) + (val6 (0 : Int32) (val1 p5))) + (val6 (0 : Int32) (val1 p6))))])) _
    refine XS.istore X17.here hx rfl (hb hby at_141) rfl (l' := #[.val (.int p1), .val (.int p2), .val (.int p3), .val (.int p4), .val (.int p5), .val (.int p6), .val (.int (own_n p1)), .val (.int (val1 p2)), .val (.int (val1 p3)), .val (.int (val1 p4)), .val (.int (val1 p5)), .val (.int (val1 p6)), .val (.ref b12), .val (.int (((((val6 (1 : Int32) (val1 p2)) + (val6 (0 : Int32) (val1 p3))) + (val6 (0 : Int32) (val1 p4))) + (val6 (0 : Int32) (val1 p5))) + (val6 (0 : Int32) (val1 p6)))), .unset]) rfl ?_
    show Steps p.tables e below (T17.setTop (mkF m 143 #[.val (.int p1), .val (.int p2), .val (.int p3), .val (.int p4), .val (.int p5), .val (.int p6), .val (.int (own_n p1)), .val (.int (val1 p2)), .val (.int (val1 p3)), .val (.int (val1 p4)), .val (.int (val1 p5)), .val (.int (val1 p6)), .val (.ref b12), .val (.int (((((val6 (1 : Int32) (val1 p2)) + (val6 (0 : Int32) (val1 p3))) + (val6 (0 : Int32) (val1 p4))) + (val6 (0 : Int32) (val1 p5))) + (val6 (0 : Int32) (val1 p6)))), .unset] [])) _
    refine XS.aload X17.here hx rfl (hb hby at_143) rfl rfl ?_
    show Steps p.tables e below (T17.setTop (mkF m 145 #[.val (.int p1), .val (.int p2), .val (.int p3), .val (.int p4), .val (.int p5), .val (.int p6), .val (.int (own_n p1)), .val (.int (val1 p2)), .val (.int (val1 p3)), .val (.int (val1 p4)), .val (.int (val1 p5)), .val (.int (val1 p6)), .val (.ref b12), .val (.int (((((val6 (1 : Int32) (val1 p2)) + (val6 (0 : Int32) (val1 p3))) + (val6 (0 : Int32) (val1 p4))) + (val6 (0 : Int32) (val1 p5))) + (val6 (0 : Int32) (val1 p6)))), .unset] [(.ref b12)])) _
    refine st18 _ ?_
    show Steps p.tables e below (T18.setTop (mkF m 148 #[.val (.int p1), .val (.int p2), .val (.int p3), .val (.int p4), .val (.int p5), .val (.int p6), .val (.int (own_n p1)), .val (.int (val1 p2)), .val (.int (val1 p3)), .val (.int (val1 p4)), .val (.int (val1 p5)), .val (.int (val1 p6)), .val (.ref b12), .val (.int (((((val6 (1 : Int32) (val1 p2)) + (val6 (0 : Int32) (val1 p3))) + (val6 (0 : Int32) (val1 p4))) + (val6 (0 : Int32) (val1 p5))) + (val6 (0 : Int32) (val1 p6)))), .unset] [(.int (Int32.ofNat ([(val1 p2)] : List Int32).length - ((2 : Int32) * own_cnt ([(val1 p2)] : List Int32))))])) _
    refine XS.istore X18.here hx rfl (hb hby at_148) rfl (l' := #[.val (.int p1), .val (.int p2), .val (.int p3), .val (.int p4), .val (.int p5), .val (.int p6), .val (.int (own_n p1)), .val (.int (val1 p2)), .val (.int (val1 p3)), .val (.int (val1 p4)), .val (.int (val1 p5)), .val (.int (val1 p6)), .val (.ref b12), .val (.int (((((val6 (1 : Int32) (val1 p2)) + (val6 (0 : Int32) (val1 p3))) + (val6 (0 : Int32) (val1 p4))) + (val6 (0 : Int32) (val1 p5))) + (val6 (0 : Int32) (val1 p6)))), .val (.int (Int32.ofNat ([(val1 p2)] : List Int32).length - ((2 : Int32) * own_cnt ([(val1 p2)] : List Int32))))]) rfl ?_
    show Steps p.tables e below (T18.setTop (mkF m 150 #[.val (.int p1), .val (.int p2), .val (.int p3), .val (.int p4), .val (.int p5), .val (.int p6), .val (.int (own_n p1)), .val (.int (val1 p2)), .val (.int (val1 p3)), .val (.int (val1 p4)), .val (.int (val1 p5)), .val (.int (val1 p6)), .val (.ref b12), .val (.int (((((val6 (1 : Int32) (val1 p2)) + (val6 (0 : Int32) (val1 p3))) + (val6 (0 : Int32) (val1 p4))) + (val6 (0 : Int32) (val1 p5))) + (val6 (0 : Int32) (val1 p6)))), .val (.int (Int32.ofNat ([(val1 p2)] : List Int32).length - ((2 : Int32) * own_cnt ([(val1 p2)] : List Int32))))] [])) _
    refine XS.aload X18.here hx rfl (hb hby at_150) rfl rfl ?_
    show Steps p.tables e below (T18.setTop (mkF m 152 #[.val (.int p1), .val (.int p2), .val (.int p3), .val (.int p4), .val (.int p5), .val (.int p6), .val (.int (own_n p1)), .val (.int (val1 p2)), .val (.int (val1 p3)), .val (.int (val1 p4)), .val (.int (val1 p5)), .val (.int (val1 p6)), .val (.ref b12), .val (.int (((((val6 (1 : Int32) (val1 p2)) + (val6 (0 : Int32) (val1 p3))) + (val6 (0 : Int32) (val1 p4))) + (val6 (0 : Int32) (val1 p5))) + (val6 (0 : Int32) (val1 p6)))), .val (.int (Int32.ofNat ([(val1 p2)] : List Int32).length - ((2 : Int32) * own_cnt ([(val1 p2)] : List Int32))))] [(.ref b12)])) _
    refine st19.trans ?_
    show Steps p.tables e below (T19.setTop (mkF m 155 #[.val (.int p1), .val (.int p2), .val (.int p3), .val (.int p4), .val (.int p5), .val (.int p6), .val (.int (own_n p1)), .val (.int (val1 p2)), .val (.int (val1 p3)), .val (.int (val1 p4)), .val (.int (val1 p5)), .val (.int (val1 p6)), .val (.ref b12), .val (.int (((((val6 (1 : Int32) (val1 p2)) + (val6 (0 : Int32) (val1 p3))) + (val6 (0 : Int32) (val1 p4))) + (val6 (0 : Int32) (val1 p5))) + (val6 (0 : Int32) (val1 p6)))), .val (.int (Int32.ofNat ([(val1 p2)] : List Int32).length - ((2 : Int32) * own_cnt ([(val1 p2)] : List Int32))))] [(.int (Int32.ofNat ([(val1 p2)] : List Int32).length))])) _
    refine XS.iload X19.here hx rfl (hb hby at_155) rfl ?_
    show Steps p.tables e below (T19.setTop (mkF m 157 #[.val (.int p1), .val (.int p2), .val (.int p3), .val (.int p4), .val (.int p5), .val (.int p6), .val (.int (own_n p1)), .val (.int (val1 p2)), .val (.int (val1 p3)), .val (.int (val1 p4)), .val (.int (val1 p5)), .val (.int (val1 p6)), .val (.ref b12), .val (.int (((((val6 (1 : Int32) (val1 p2)) + (val6 (0 : Int32) (val1 p3))) + (val6 (0 : Int32) (val1 p4))) + (val6 (0 : Int32) (val1 p5))) + (val6 (0 : Int32) (val1 p6)))), .val (.int (Int32.ofNat ([(val1 p2)] : List Int32).length - ((2 : Int32) * own_cnt ([(val1 p2)] : List Int32))))] [(.int (own_n p1)), (.int (Int32.ofNat ([(val1 p2)] : List Int32).length))])) _
    refine XS.icmpNo X19.here hx rfl (hb hby at_157) rfl (teq (hn.symm : (Int32.ofNat ([(val1 p2)] : List Int32).length) = (own_n p1))).2 ?_
    show Steps p.tables e below (T19.setTop (mkF m 160 #[.val (.int p1), .val (.int p2), .val (.int p3), .val (.int p4), .val (.int p5), .val (.int p6), .val (.int (own_n p1)), .val (.int (val1 p2)), .val (.int (val1 p3)), .val (.int (val1 p4)), .val (.int (val1 p5)), .val (.int (val1 p6)), .val (.ref b12), .val (.int (((((val6 (1 : Int32) (val1 p2)) + (val6 (0 : Int32) (val1 p3))) + (val6 (0 : Int32) (val1 p4))) + (val6 (0 : Int32) (val1 p5))) + (val6 (0 : Int32) (val1 p6)))), .val (.int (Int32.ofNat ([(val1 p2)] : List Int32).length - ((2 : Int32) * own_cnt ([(val1 p2)] : List Int32))))] [])) _
    refine XS.iload X19.here hx rfl (hb hby at_160) rfl ?_
    show Steps p.tables e below (T19.setTop (mkF m 162 #[.val (.int p1), .val (.int p2), .val (.int p3), .val (.int p4), .val (.int p5), .val (.int p6), .val (.int (own_n p1)), .val (.int (val1 p2)), .val (.int (val1 p3)), .val (.int (val1 p4)), .val (.int (val1 p5)), .val (.int (val1 p6)), .val (.ref b12), .val (.int (((((val6 (1 : Int32) (val1 p2)) + (val6 (0 : Int32) (val1 p3))) + (val6 (0 : Int32) (val1 p4))) + (val6 (0 : Int32) (val1 p5))) + (val6 (0 : Int32) (val1 p6)))), .val (.int (Int32.ofNat ([(val1 p2)] : List Int32).length - ((2 : Int32) * own_cnt ([(val1 p2)] : List Int32))))] [(.int (Int32.ofNat ([(val1 p2)] : List Int32).length - ((2 : Int32) * own_cnt ([(val1 p2)] : List Int32))))])) _
    refine XS.iload X19.here hx rfl (hb hby at_162) rfl ?_
    show Steps p.tables e below (T19.setTop (mkF m 164 #[.val (.int p1), .val (.int p2), .val (.int p3), .val (.int p4), .val (.int p5), .val (.int p6), .val (.int (own_n p1)), .val (.int (val1 p2)), .val (.int (val1 p3)), .val (.int (val1 p4)), .val (.int (val1 p5)), .val (.int (val1 p6)), .val (.ref b12), .val (.int (((((val6 (1 : Int32) (val1 p2)) + (val6 (0 : Int32) (val1 p3))) + (val6 (0 : Int32) (val1 p4))) + (val6 (0 : Int32) (val1 p5))) + (val6 (0 : Int32) (val1 p6)))), .val (.int (Int32.ofNat ([(val1 p2)] : List Int32).length - ((2 : Int32) * own_cnt ([(val1 p2)] : List Int32))))] [(.int (own_n p1)), (.int (Int32.ofNat ([(val1 p2)] : List Int32).length - ((2 : Int32) * own_cnt ([(val1 p2)] : List Int32))))])) _
    refine XS.iconst X19.here hx rfl (hb hby at_164) ?_
    show Steps p.tables e below (T19.setTop (mkF m 165 #[.val (.int p1), .val (.int p2), .val (.int p3), .val (.int p4), .val (.int p5), .val (.int p6), .val (.int (own_n p1)), .val (.int (val1 p2)), .val (.int (val1 p3)), .val (.int (val1 p4)), .val (.int (val1 p5)), .val (.int (val1 p6)), .val (.ref b12), .val (.int (((((val6 (1 : Int32) (val1 p2)) + (val6 (0 : Int32) (val1 p3))) + (val6 (0 : Int32) (val1 p4))) + (val6 (0 : Int32) (val1 p5))) + (val6 (0 : Int32) (val1 p6)))), .val (.int (Int32.ofNat ([(val1 p2)] : List Int32).length - ((2 : Int32) * own_cnt ([(val1 p2)] : List Int32))))] [(.int (2 : Int32)), (.int (own_n p1)), (.int (Int32.ofNat ([(val1 p2)] : List Int32).length - ((2 : Int32) * own_cnt ([(val1 p2)] : List Int32))))])) _
    refine XS.iload X19.here hx rfl (hb hby at_165) rfl ?_
    show Steps p.tables e below (T19.setTop (mkF m 167 #[.val (.int p1), .val (.int p2), .val (.int p3), .val (.int p4), .val (.int p5), .val (.int p6), .val (.int (own_n p1)), .val (.int (val1 p2)), .val (.int (val1 p3)), .val (.int (val1 p4)), .val (.int (val1 p5)), .val (.int (val1 p6)), .val (.ref b12), .val (.int (((((val6 (1 : Int32) (val1 p2)) + (val6 (0 : Int32) (val1 p3))) + (val6 (0 : Int32) (val1 p4))) + (val6 (0 : Int32) (val1 p5))) + (val6 (0 : Int32) (val1 p6)))), .val (.int (Int32.ofNat ([(val1 p2)] : List Int32).length - ((2 : Int32) * own_cnt ([(val1 p2)] : List Int32))))] [(.int (((((val6 (1 : Int32) (val1 p2)) + (val6 (0 : Int32) (val1 p3))) + (val6 (0 : Int32) (val1 p4))) + (val6 (0 : Int32) (val1 p5))) + (val6 (0 : Int32) (val1 p6)))), (.int (2 : Int32)), (.int (own_n p1)), (.int (Int32.ofNat ([(val1 p2)] : List Int32).length - ((2 : Int32) * own_cnt ([(val1 p2)] : List Int32))))])) _
    refine XS.imul X19.here hx rfl (hb hby at_167) rfl ?_
    show Steps p.tables e below (T19.setTop (mkF m 168 #[.val (.int p1), .val (.int p2), .val (.int p3), .val (.int p4), .val (.int p5), .val (.int p6), .val (.int (own_n p1)), .val (.int (val1 p2)), .val (.int (val1 p3)), .val (.int (val1 p4)), .val (.int (val1 p5)), .val (.int (val1 p6)), .val (.ref b12), .val (.int (((((val6 (1 : Int32) (val1 p2)) + (val6 (0 : Int32) (val1 p3))) + (val6 (0 : Int32) (val1 p4))) + (val6 (0 : Int32) (val1 p5))) + (val6 (0 : Int32) (val1 p6)))), .val (.int (Int32.ofNat ([(val1 p2)] : List Int32).length - ((2 : Int32) * own_cnt ([(val1 p2)] : List Int32))))] [(.int ((2 : Int32) * (((((val6 (1 : Int32) (val1 p2)) + (val6 (0 : Int32) (val1 p3))) + (val6 (0 : Int32) (val1 p4))) + (val6 (0 : Int32) (val1 p5))) + (val6 (0 : Int32) (val1 p6))))), (.int (own_n p1)), (.int (Int32.ofNat ([(val1 p2)] : List Int32).length - ((2 : Int32) * own_cnt ([(val1 p2)] : List Int32))))])) _
    refine XS.isub X19.here hx rfl (hb hby at_168) rfl ?_
    show Steps p.tables e below (T19.setTop (mkF m 169 #[.val (.int p1), .val (.int p2), .val (.int p3), .val (.int p4), .val (.int p5), .val (.int p6), .val (.int (own_n p1)), .val (.int (val1 p2)), .val (.int (val1 p3)), .val (.int (val1 p4)), .val (.int (val1 p5)), .val (.int (val1 p6)), .val (.ref b12), .val (.int (((((val6 (1 : Int32) (val1 p2)) + (val6 (0 : Int32) (val1 p3))) + (val6 (0 : Int32) (val1 p4))) + (val6 (0 : Int32) (val1 p5))) + (val6 (0 : Int32) (val1 p6)))), .val (.int (Int32.ofNat ([(val1 p2)] : List Int32).length - ((2 : Int32) * own_cnt ([(val1 p2)] : List Int32))))] [(.int ((own_n p1) - ((2 : Int32) * (((((val6 (1 : Int32) (val1 p2)) + (val6 (0 : Int32) (val1 p3))) + (val6 (0 : Int32) (val1 p4))) + (val6 (0 : Int32) (val1 p5))) + (val6 (0 : Int32) (val1 p6)))))), (.int (Int32.ofNat ([(val1 p2)] : List Int32).length - ((2 : Int32) * own_cnt ([(val1 p2)] : List Int32))))])) _
    refine XS.icmpNo X19.here hx rfl (hb hby at_169) rfl (teq (own_fin1 p1 p2 p3 p4 p5 p6 hn : (Int32.ofNat ([(val1 p2)] : List Int32).length - ((2 : Int32) * own_cnt ([(val1 p2)] : List Int32))) = ((own_n p1) - ((2 : Int32) * (((((val6 (1 : Int32) (val1 p2)) + (val6 (0 : Int32) (val1 p3))) + (val6 (0 : Int32) (val1 p4))) + (val6 (0 : Int32) (val1 p5))) + (val6 (0 : Int32) (val1 p6))))))).2 ?_
    show Steps p.tables e below (T19.setTop (mkF m 172 #[.val (.int p1), .val (.int p2), .val (.int p3), .val (.int p4), .val (.int p5), .val (.int p6), .val (.int (own_n p1)), .val (.int (val1 p2)), .val (.int (val1 p3)), .val (.int (val1 p4)), .val (.int (val1 p5)), .val (.int (val1 p6)), .val (.ref b12), .val (.int (((((val6 (1 : Int32) (val1 p2)) + (val6 (0 : Int32) (val1 p3))) + (val6 (0 : Int32) (val1 p4))) + (val6 (0 : Int32) (val1 p5))) + (val6 (0 : Int32) (val1 p6)))), .val (.int (Int32.ofNat ([(val1 p2)] : List Int32).length - ((2 : Int32) * own_cnt ([(val1 p2)] : List Int32))))] [])) _
    refine XS.iconst X19.here hx rfl (hb hby at_172) ?_
    show Steps p.tables e below (T19.setTop (mkF m 173 #[.val (.int p1), .val (.int p2), .val (.int p3), .val (.int p4), .val (.int p5), .val (.int p6), .val (.int (own_n p1)), .val (.int (val1 p2)), .val (.int (val1 p3)), .val (.int (val1 p4)), .val (.int (val1 p5)), .val (.int (val1 p6)), .val (.ref b12), .val (.int (((((val6 (1 : Int32) (val1 p2)) + (val6 (0 : Int32) (val1 p3))) + (val6 (0 : Int32) (val1 p4))) + (val6 (0 : Int32) (val1 p5))) + (val6 (0 : Int32) (val1 p6)))), .val (.int (Int32.ofNat ([(val1 p2)] : List Int32).length - ((2 : Int32) * own_cnt ([(val1 p2)] : List Int32))))] [(.int (1 : Int32))])) _
    refine XS.goto X19.here hx rfl (pc0 := 173) (pc' := 177) rfl (hb hby at_173) (by decide) (by decide) ?_
    show Steps p.tables e below (T19.setTop (mkF m 177 #[.val (.int p1), .val (.int p2), .val (.int p3), .val (.int p4), .val (.int p5), .val (.int p6), .val (.int (own_n p1)), .val (.int (val1 p2)), .val (.int (val1 p3)), .val (.int (val1 p4)), .val (.int (val1 p5)), .val (.int (val1 p6)), .val (.ref b12), .val (.int (((((val6 (1 : Int32) (val1 p2)) + (val6 (0 : Int32) (val1 p3))) + (val6 (0 : Int32) (val1 p4))) + (val6 (0 : Int32) (val1 p5))) + (val6 (0 : Int32) (val1 p6)))), .val (.int (Int32.ofNat ([(val1 p2)] : List Int32).length - ((2 : Int32) * own_cnt ([(val1 p2)] : List Int32))))] [(.int (1 : Int32))])) _
    exact retN X19 hx (t := .boolean) Bd.returns (by simp) (hb hby at_177) hr
  · show Q0 Z p1 p2 p3 p4 p5 p6 h0 n0 _ T19.heap _
    exact ⟨rfl, N19⟩
theorem own_all2 (p2 p3 : Int32) : ∀ c ∈ ([(val1 p2), (val1 p3)] : List Int32), ¬ c < 0 ∧ ¬ (255 : Int32) < c := by
  intro c hc
  simp only [List.mem_cons, List.not_mem_nil, or_false] at hc
  rcases hc with rfl | rfl <;> exact own_rng _
theorem own_fin2 (p1 p2 p3 p4 p5 p6 : Int32) (hn : own_n p1 = (2 : Int32)) : (Int32.ofNat ([(val1 p2), (val1 p3)] : List Int32).length - ((2 : Int32) * own_cnt ([(val1 p2), (val1 p3)] : List Int32))) = (own_n p1 - ((2 : Int32) * (((((val6 (1 : Int32) (val1 p2)) + (val6 (1 : Int32) (val1 p3))) + (val6 (0 : Int32) (val1 p4))) + (val6 (0 : Int32) (val1 p5))) + (val6 (0 : Int32) (val1 p6))))) := by
  have e : own_cnt ([(val1 p2), (val1 p3)] : List Int32) = (((((val6 (1 : Int32) (val1 p2)) + (val6 (1 : Int32) (val1 p3))) + (val6 (0 : Int32) (val1 p4))) + (val6 (0 : Int32) (val1 p5))) + (val6 (0 : Int32) (val1 p6))) := by
    simp only [own_p1, own_p0, own_cnt, Int32.add_zero, Int32.zero_add, Int32.add_assoc]
  rw [e, hn]; rfl

set_option maxRecDepth 65536 in
set_option maxHeartbeats 40000000 in
theorem rm0_2 (l : Launch) (Z : State) (a0 : Array Value) (hw : ∀ d ∈ tables_1, d.before a0 Z = true) (ws : List Jvm.Cond) (p1 : Int32) (p2 : Int32) (p3 : Int32) (p4 : Int32) (p5 : Int32) (p6 : Int32) (h0 : Heap) (n0 : Nat) (Z0 : n0 ≤ h0.size) (G1 : Int32) (O2 : Sta Z Z.heap "java/lang/String" "COMPACT_STRINGS" "Z" (.int G1)) (P5 : ¬ (G1 = (0 : Int32))) (X00 : Old Z n0 h0) (G3 : Value) (O4 : Sta Z Z.heap "jdk/internal/util/Preconditions" "SIOOBE_FORMATTER" "Ljava/util/function/BiFunction;" G3) (rG3 : G3.isRef = true) (hn : own_n p1 = (2 : Int32)) :
    MetFree l x (head1 (Jvm.Cond.code x code maxLocals ret :: ws) room_1) (fun a U => a = #[(.int p1), (.int p2), (.int p3), (.int p4), (.int p5), (.int p6)] ∧ Z.Warmed39 U.vm ∧ U.heap = h0) (fun _ _ _ _ _ => True) (fun _ U o U' => ∃ v L, o = .returned v ∧ Q0 Z p1 p2 p3 p4 p5 p6 h0 n0 v U'.heap L ∧ FrameEnd U o U' L room_1.cells room_1.slots) := by
  refine MetFree.of_bodySF (plainFor_of_name pn_0) hisR ?_
  intro p e s m args below meth c s₁ Bd hml0 hP hK
  obtain ⟨rfl, hZ, hh⟩ := hP
  have hx := Bd.exec
  have hby := Bd.bytes
  have hml : c.maxLocals = 15 := hml0
  have hown : s.vm.findClass "com/example/harburg/harburg/epc/FieldCharacterCountPinLaw" = some m.cls := findClass_of_methodNamed Bd.named
  have hnm := (name_of_methodNamed Bd.named Bd.method).1
  have X0 : Stand p l e room_1 s m #[(.int p1), (.int p2), (.int p3), (.int p4), (.int p5), (.int p6)] below meth c s₁ [] 0 0 := Stand.of_body Bd
  have e0 : s₁.heap = h0 := by rw [← hh, Bd.state]; rfl
  have N0 := Fr.nil n0
  have pre0 : ∀ t, Steps p.tables e below (s₁.setTop (mkF m 0 #[.val (.int p1), .val (.int p2), .val (.int p3), .val (.int p4), .val (.int p5), .val (.int p6), .unset, .unset, .unset, .unset, .unset, .unset, .unset, .unset, .unset] [])) t → Steps p.tables e below (s₁.setTop (entryFrame m #[(.int p1), (.int p2), (.int p3), (.int p4), (.int p5), (.int p6)] maxLocals)) t := fun t k => castTop (ef_0 m p1 p2 p3 p4 p5 p6) k
  obtain ⟨_, _, ⟨T7, L7, k7, n7⟩, -, X7, ⟨Lc7, hQ7, l7, y7, z7⟩, st7⟩ := Jvm.LawKit.callS X0 hx (y := (⟨"com/example/harburg/harburg/epc/FieldCharacterCountPinLaw", "draw", "(I)C"⟩ : MethodName)) hown (mvT hZ (hw _ (List.mem_of_getElem? (i := 1) rfl))) (mvT hZ (hw _ (List.mem_of_getElem? (i := 2) rfl))) (mvT hZ (hw _ (List.mem_of_getElem? (i := 3) rfl))) (mvT hZ (hw _ (List.mem_of_getElem? (i := 4) rfl))) (by decide) (backOf (W := 0) (rm1 l Z a0 hw [] p2 h0 n0 Z0) hZ (hw _ (List.mem_of_getElem? (i := 4) rfl)) (hw _ (List.mem_of_getElem? (i := 3) rfl)) (by decide) (by decide)) (g := (mkF m 10 #[.val (.int p1), .val (.int p2), .val (.int p3), .val (.int p4), .val (.int p5), .val (.int p6), .val (.int (own_n p1)), .unset, .unset, .unset, .unset, .unset, .unset, .unset, .unset] [(.int p2)])) rfl (by rw [hml]; rfl) (argsL := [(.int p2)]) (rest := []) (lenOf pd_0_0 rfl) rfl (by show 2 * 0 + _ ≤ _; exact Nat.le_of_eq rfl) (hb hby at_10) (fun _ _ => ⟨rfl, e0, (by decide : 0 + 0 ≤ _), (by decide : 0 + 0 ≤ _)⟩)
  dsimp only [Pt.U, Pt.locs, Pt.cells, Pt.slots] at X7 l7 y7 z7 st7 hQ7
  subst l7 y7 z7
  obtain ⟨rfl, N7q, w7⟩ := hQ7
  have u7 : T7.heap = h0 := w7
  have N7 := Fr.app N0 N7q
  obtain ⟨_, _, ⟨T8, L8, k8, n8⟩, -, X8, ⟨Lc8, hQ8, l8, y8, z8⟩, st8⟩ := Jvm.LawKit.callS X7 hx (y := (⟨"com/example/harburg/harburg/epc/FieldCharacterCountPinLaw", "draw", "(I)C"⟩ : MethodName)) hown (mvT hZ (hw _ (List.mem_of_getElem? (i := 1) rfl))) (mvT hZ (hw _ (List.mem_of_getElem? (i := 2) rfl))) (mvT hZ (hw _ (List.mem_of_getElem? (i := 3) rfl))) (mvT hZ (hw _ (List.mem_of_getElem? (i := 4) rfl))) (by decide) (backOf (W := 0) (rm1 l Z a0 hw [] p3 T7.heap n0 (by rw [u7]; exact Z0)) hZ (hw _ (List.mem_of_getElem? (i := 4) rfl)) (hw _ (List.mem_of_getElem? (i := 3) rfl)) (by decide) (by decide)) (g := (mkF m 16 #[.val (.int p1), .val (.int p2), .val (.int p3), .val (.int p4), .val (.int p5), .val (.int p6), .val (.int (own_n p1)), .val (.int (val1 p2)), .unset, .unset, .unset, .unset, .unset, .unset, .unset] [(.int p3)])) rfl (by rw [hml]; rfl) (argsL := [(.int p3)]) (rest := []) (lenOf pd_0_0 rfl) rfl (by show 2 * 0 + _ ≤ _; exact Nat.le_of_eq rfl) (hb hby at_16) (fun _ _ => ⟨rfl, rfl, (by decide : 0 + 0 ≤ _), (by decide : 0 + 0 ≤ _)⟩)
  dsimp only [Pt.U, Pt.locs, Pt.cells, Pt.slots] at X8 l8 y8 z8 st8 hQ8
  subst l8 y8 z8
  obtain ⟨rfl, N8q, w8⟩ := hQ8
  have u8 : T8.heap = h0 := w8.trans u7
  have N8 := Fr.app N7 N8q
  obtain ⟨_, _, ⟨T9, L9, k9, n9⟩, -, X9, ⟨Lc9, hQ9, l9, y9, z9⟩, st9⟩ := Jvm.LawKit.callS X8 hx (y := (⟨"com/example/harburg/harburg/epc/FieldCharacterCountPinLaw", "draw", "(I)C"⟩ : MethodName)) hown (mvT hZ (hw _ (List.mem_of_getElem? (i := 1) rfl))) (mvT hZ (hw _ (List.mem_of_getElem? (i := 2) rfl))) (mvT hZ (hw _ (List.mem_of_getElem? (i := 3) rfl))) (mvT hZ (hw _ (List.mem_of_getElem? (i := 4) rfl))) (by decide) (backOf (W := 0) (rm1 l Z a0 hw [] p4 T8.heap n0 (by rw [u8]; exact Z0)) hZ (hw _ (List.mem_of_getElem? (i := 4) rfl)) (hw _ (List.mem_of_getElem? (i := 3) rfl)) (by decide) (by decide)) (g := (mkF m 22 #[.val (.int p1), .val (.int p2), .val (.int p3), .val (.int p4), .val (.int p5), .val (.int p6), .val (.int (own_n p1)), .val (.int (val1 p2)), .val (.int (val1 p3)), .unset, .unset, .unset, .unset, .unset, .unset] [(.int p4)])) rfl (by rw [hml]; rfl) (argsL := [(.int p4)]) (rest := []) (lenOf pd_0_0 rfl) rfl (by show 2 * 0 + _ ≤ _; exact Nat.le_of_eq rfl) (hb hby at_22) (fun _ _ => ⟨rfl, rfl, (by decide : 0 + 0 ≤ _), (by decide : 0 + 0 ≤ _)⟩)
  dsimp only [Pt.U, Pt.locs, Pt.cells, Pt.slots] at X9 l9 y9 z9 st9 hQ9
  subst l9 y9 z9
  obtain ⟨rfl, N9q, w9⟩ := hQ9
  have u9 : T9.heap = h0 := w9.trans u8
  have N9 := Fr.app N8 N9q
  obtain ⟨_, _, ⟨T10, L10, k10, n10⟩, -, X10, ⟨Lc10, hQ10, l10, y10, z10⟩, st10⟩ := Jvm.LawKit.callS X9 hx (y := (⟨"com/example/harburg/harburg/epc/FieldCharacterCountPinLaw", "draw", "(I)C"⟩ : MethodName)) hown (mvT hZ (hw _ (List.mem_of_getElem? (i := 1) rfl))) (mvT hZ (hw _ (List.mem_of_getElem? (i := 2) rfl))) (mvT hZ (hw _ (List.mem_of_getElem? (i := 3) rfl))) (mvT hZ (hw _ (List.mem_of_getElem? (i := 4) rfl))) (by decide) (backOf (W := 0) (rm1 l Z a0 hw [] p5 T9.heap n0 (by rw [u9]; exact Z0)) hZ (hw _ (List.mem_of_getElem? (i := 4) rfl)) (hw _ (List.mem_of_getElem? (i := 3) rfl)) (by decide) (by decide)) (g := (mkF m 29 #[.val (.int p1), .val (.int p2), .val (.int p3), .val (.int p4), .val (.int p5), .val (.int p6), .val (.int (own_n p1)), .val (.int (val1 p2)), .val (.int (val1 p3)), .val (.int (val1 p4)), .unset, .unset, .unset, .unset, .unset] [(.int p5)])) rfl (by rw [hml]; rfl) (argsL := [(.int p5)]) (rest := []) (lenOf pd_0_0 rfl) rfl (by show 2 * 0 + _ ≤ _; exact Nat.le_of_eq rfl) (hb hby at_29) (fun _ _ => ⟨rfl, rfl, (by decide : 0 + 0 ≤ _), (by decide : 0 + 0 ≤ _)⟩)
  dsimp only [Pt.U, Pt.locs, Pt.cells, Pt.slots] at X10 l10 y10 z10 st10 hQ10
  subst l10 y10 z10
  obtain ⟨rfl, N10q, w10⟩ := hQ10
  have u10 : T10.heap = h0 := w10.trans u9
  have N10 := Fr.app N9 N10q
  obtain ⟨_, _, ⟨T11, L11, k11, n11⟩, -, X11, ⟨Lc11, hQ11, l11, y11, z11⟩, st11⟩ := Jvm.LawKit.callS X10 hx (y := (⟨"com/example/harburg/harburg/epc/FieldCharacterCountPinLaw", "draw", "(I)C"⟩ : MethodName)) hown (mvT hZ (hw _ (List.mem_of_getElem? (i := 1) rfl))) (mvT hZ (hw _ (List.mem_of_getElem? (i := 2) rfl))) (mvT hZ (hw _ (List.mem_of_getElem? (i := 3) rfl))) (mvT hZ (hw _ (List.mem_of_getElem? (i := 4) rfl))) (by decide) (backOf (W := 0) (rm1 l Z a0 hw [] p6 T10.heap n0 (by rw [u10]; exact Z0)) hZ (hw _ (List.mem_of_getElem? (i := 4) rfl)) (hw _ (List.mem_of_getElem? (i := 3) rfl)) (by decide) (by decide)) (g := (mkF m 36 #[.val (.int p1), .val (.int p2), .val (.int p3), .val (.int p4), .val (.int p5), .val (.int p6), .val (.int (own_n p1)), .val (.int (val1 p2)), .val (.int (val1 p3)), .val (.int (val1 p4)), .val (.int (val1 p5)), .unset, .unset, .unset, .unset] [(.int p6)])) rfl (by rw [hml]; rfl) (argsL := [(.int p6)]) (rest := []) (lenOf pd_0_0 rfl) rfl (by show 2 * 0 + _ ≤ _; exact Nat.le_of_eq rfl) (hb hby at_36) (fun _ _ => ⟨rfl, rfl, (by decide : 0 + 0 ≤ _), (by decide : 0 + 0 ≤ _)⟩)
  dsimp only [Pt.U, Pt.locs, Pt.cells, Pt.slots] at X11 l11 y11 z11 st11 hQ11
  subst l11 y11 z11
  obtain ⟨rfl, N11q, w11⟩ := hQ11
  have u11 : T11.heap = h0 := w11.trans u10
  have N11 := Fr.app N10 N11q
  obtain ⟨_, _, ⟨T12, L12, k12, n12⟩, -, X12, ⟨Lc12, hQ12, l12, y12, z12⟩, st12⟩ := Jvm.LawKit.callS X11 hx (y := (⟨"com/example/harburg/harburg/epc/FieldCharacterCountPinLaw", "make", "(ICCCCC)Ljava/lang/String;"⟩ : MethodName)) hown (mvT hZ (hw _ (List.mem_of_getElem? (i := 5) rfl))) (mvT hZ (hw _ (List.mem_of_getElem? (i := 6) rfl))) (mvT hZ (hw _ (List.mem_of_getElem? (i := 3) rfl))) (mvT hZ (hw _ (List.mem_of_getElem? (i := 7) rfl))) (by decide) (backOf (W := 0) (rm2_2 l Z a0 hw [] (own_n p1) (val1 p2) (val1 p3) (val1 p4) (val1 p5) (val1 p6) T11.heap n0 (by rw [u11]; exact Z0) G1 O2 P5 (by rw [u11]; exact X00) (own_all2 p2 p3) (by rw [hn]; decide) (by rw [hn]; decide) hn) hZ (hw _ (List.mem_of_getElem? (i := 7) rfl)) (hw _ (List.mem_of_getElem? (i := 3) rfl)) (by decide) (by decide)) (g := (mkF m 53 #[.val (.int p1), .val (.int p2), .val (.int p3), .val (.int p4), .val (.int p5), .val (.int p6), .val (.int (own_n p1)), .val (.int (val1 p2)), .val (.int (val1 p3)), .val (.int (val1 p4)), .val (.int (val1 p5)), .val (.int (val1 p6)), .unset, .unset, .unset] [(.int (val1 p6)), (.int (val1 p5)), (.int (val1 p4)), (.int (val1 p3)), (.int (val1 p2)), (.int (own_n p1))])) rfl (by rw [hml]; rfl) (argsL := [(.int (own_n p1)), (.int (val1 p2)), (.int (val1 p3)), (.int (val1 p4)), (.int (val1 p5)), (.int (val1 p6))]) (rest := []) (lenOf pd_0_1 rfl) rfl (by show 2 * 0 + _ ≤ _; exact Nat.le_of_eq rfl) (hb hby at_53) (fun _ _ => ⟨rfl, rfl, (by decide : 0 + 3 ≤ _), (by decide : 0 + 8 ≤ _)⟩)
  dsimp only [Pt.U, Pt.locs, Pt.cells, Pt.slots] at X12 l12 y12 z12 st12 hQ12
  subst l12 y12 z12
  obtain ⟨b12, rfl, N12q, K12q, S12⟩ := hQ12
  have K12 : Keep h0 T12.heap [] := by have q := K12q; rw [u11] at q; exact q
  have z12 : n0 ≤ T12.heap.size := Nat.le_trans Z0 K12.1
  have XO12 : Old Z n0 T12.heap := X00.keep K12 all0
  have N12 := Fr.app N11 N12q
  obtain ⟨_, _, ⟨T13, L13, k13, n13⟩, -, X13, ⟨Lc13, hQ13, l13, y13, z13⟩, st13⟩ := Jvm.LawKit.callS X12 hx (y := (⟨"com/example/harburg/harburg/epc/FieldCharacterCountPinLaw", "pct", "(ZC)I"⟩ : MethodName)) hown (mvT hZ (hw _ (List.mem_of_getElem? (i := 30) rfl))) (mvT hZ (hw _ (List.mem_of_getElem? (i := 31) rfl))) (mvT hZ (hw _ (List.mem_of_getElem? (i := 3) rfl))) (mvT hZ (hw _ (List.mem_of_getElem? (i := 32) rfl))) (by decide) (backOf (W := 0) (rm6 l Z a0 hw [] (1 : Int32) (val1 p2) T12.heap n0 z12) hZ (hw _ (List.mem_of_getElem? (i := 32) rfl)) (hw _ (List.mem_of_getElem? (i := 3) rfl)) (by decide) (by decide)) (g := (mkF m 70 #[.val (.int p1), .val (.int p2), .val (.int p3), .val (.int p4), .val (.int p5), .val (.int p6), .val (.int (own_n p1)), .val (.int (val1 p2)), .val (.int (val1 p3)), .val (.int (val1 p4)), .val (.int (val1 p5)), .val (.int (val1 p6)), .val (.ref b12), .unset, .unset] [(.int (val1 p2)), (.int (1 : Int32))])) rfl (by rw [hml]; rfl) (argsL := [(.int (1 : Int32)), (.int (val1 p2))]) (rest := []) (lenOf pd_0_5 rfl) rfl (by show 2 * 0 + _ ≤ _; exact Nat.le_of_eq rfl) (hb hby at_70) (fun _ _ => ⟨rfl, rfl, (by decide : 0 + 3 ≤ _), (by decide : 0 + 8 ≤ _)⟩)
  dsimp only [Pt.U, Pt.locs, Pt.cells, Pt.slots] at X13 l13 y13 z13 st13 hQ13
  subst l13 y13 z13
  obtain ⟨rfl, N13q, w13⟩ := hQ13
  have u13 : T13.heap = T12.heap := w13
  have N13 := Fr.app N12 N13q
  obtain ⟨_, _, ⟨T14, L14, k14, n14⟩, -, X14, ⟨Lc14, hQ14, l14, y14, z14⟩, st14⟩ := Jvm.LawKit.callS X13 hx (y := (⟨"com/example/harburg/harburg/epc/FieldCharacterCountPinLaw", "pct", "(ZC)I"⟩ : MethodName)) hown (mvT hZ (hw _ (List.mem_of_getElem? (i := 30) rfl))) (mvT hZ (hw _ (List.mem_of_getElem? (i := 31) rfl))) (mvT hZ (hw _ (List.mem_of_getElem? (i := 3) rfl))) (mvT hZ (hw _ (List.mem_of_getElem? (i := 32) rfl))) (by decide) (backOf (W := 1) (rm6 l Z a0 hw [] (1 : Int32) (val1 p3) T13.heap n0 (by rw [u13]; exact z12)) hZ (hw _ (List.mem_of_getElem? (i := 32) rfl)) (hw _ (List.mem_of_getElem? (i := 3) rfl)) (by decide) (by decide)) (g := (mkF m 86 #[.val (.int p1), .val (.int p2), .val (.int p3), .val (.int p4), .val (.int p5), .val (.int p6), .val (.int (own_n p1)), .val (.int (val1 p2)), .val (.int (val1 p3)), .val (.int (val1 p4)), .val (.int (val1 p5)), .val (.int (val1 p6)), .val (.ref b12), .unset, .unset] [(.int (val1 p3)), (.int (1 : Int32)), (.int (val6 (1 : Int32) (val1 p2)))])) rfl (by rw [hml]; rfl) (argsL := [(.int (1 : Int32)), (.int (val1 p3))]) (rest := [(.int (val6 (1 : Int32) (val1 p2)))]) (lenOf pd_0_5 rfl) rfl (by show 2 * 0 + _ ≤ _; exact Nat.le_of_eq rfl) (hb hby at_86) (fun _ _ => ⟨rfl, rfl, (by decide : 0 + 3 ≤ _), (by decide : 0 + 8 ≤ _)⟩)
  dsimp only [Pt.U, Pt.locs, Pt.cells, Pt.slots] at X14 l14 y14 z14 st14 hQ14
  subst l14 y14 z14
  obtain ⟨rfl, N14q, w14⟩ := hQ14
  have u14 : T14.heap = T12.heap := w14.trans u13
  have N14 := Fr.app N13 N14q
  obtain ⟨_, _, ⟨T15, L15, k15, n15⟩, -, X15, ⟨Lc15, hQ15, l15, y15, z15⟩, st15⟩ := Jvm.LawKit.callS X14 hx (y := (⟨"com/example/harburg/harburg/epc/FieldCharacterCountPinLaw", "pct", "(ZC)I"⟩ : MethodName)) hown (mvT hZ (hw _ (List.mem_of_getElem? (i := 30) rfl))) (mvT hZ (hw _ (List.mem_of_getElem? (i := 31) rfl))) (mvT hZ (hw _ (List.mem_of_getElem? (i := 3) rfl))) (mvT hZ (hw _ (List.mem_of_getElem? (i := 32) rfl))) (by decide) (backOf (W := 1) (rm6 l Z a0 hw [] (0 : Int32) (val1 p4) T14.heap n0 (by rw [u14]; exact z12)) hZ (hw _ (List.mem_of_getElem? (i := 32) rfl)) (hw _ (List.mem_of_getElem? (i := 3) rfl)) (by decide) (by decide)) (g := (mkF m 103 #[.val (.int p1), .val (.int p2), .val (.int p3), .val (.int p4), .val (.int p5), .val (.int p6), .val (.int (own_n p1)), .val (.int (val1 p2)), .val (.int (val1 p3)), .val (.int (val1 p4)), .val (.int (val1 p5)), .val (.int (val1 p6)), .val (.ref b12), .unset, .unset] [(.int (val1 p4)), (.int (0 : Int32)), (.int ((val6 (1 : Int32) (val1 p2)) + (val6 (1 : Int32) (val1 p3))))])) rfl (by rw [hml]; rfl) (argsL := [(.int (0 : Int32)), (.int (val1 p4))]) (rest := [(.int ((val6 (1 : Int32) (val1 p2)) + (val6 (1 : Int32) (val1 p3))))]) (lenOf pd_0_5 rfl) rfl (by show 2 * 0 + _ ≤ _; exact Nat.le_of_eq rfl) (hb hby at_103) (fun _ _ => ⟨rfl, rfl, (by decide : 0 + 3 ≤ _), (by decide : 0 + 8 ≤ _)⟩)
  dsimp only [Pt.U, Pt.locs, Pt.cells, Pt.slots] at X15 l15 y15 z15 st15 hQ15
  subst l15 y15 z15
  obtain ⟨rfl, N15q, w15⟩ := hQ15
  have u15 : T15.heap = T12.heap := w15.trans u14
  have N15 := Fr.app N14 N15q
  obtain ⟨_, _, ⟨T16, L16, k16, n16⟩, -, X16, ⟨Lc16, hQ16, l16, y16, z16⟩, st16⟩ := Jvm.LawKit.callS X15 hx (y := (⟨"com/example/harburg/harburg/epc/FieldCharacterCountPinLaw", "pct", "(ZC)I"⟩ : MethodName)) hown (mvT hZ (hw _ (List.mem_of_getElem? (i := 30) rfl))) (mvT hZ (hw _ (List.mem_of_getElem? (i := 31) rfl))) (mvT hZ (hw _ (List.mem_of_getElem? (i := 3) rfl))) (mvT hZ (hw _ (List.mem_of_getElem? (i := 32) rfl))) (by decide) (backOf (W := 1) (rm6 l Z a0 hw [] (0 : Int32) (val1 p5) T15.heap n0 (by rw [u15]; exact z12)) hZ (hw _ (List.mem_of_getElem? (i := 32) rfl)) (hw _ (List.mem_of_getElem? (i := 3) rfl)) (by decide) (by decide)) (g := (mkF m 120 #[.val (.int p1), .val (.int p2), .val (.int p3), .val (.int p4), .val (.int p5), .val (.int p6), .val (.int (own_n p1)), .val (.int (val1 p2)), .val (.int (val1 p3)), .val (.int (val1 p4)), .val (.int (val1 p5)), .val (.int (val1 p6)), .val (.ref b12), .unset, .unset] [(.int (val1 p5)), (.int (0 : Int32)), (.int (((val6 (1 : Int32) (val1 p2)) + (val6 (1 : Int32) (val1 p3))) + (val6 (0 : Int32) (val1 p4))))])) rfl (by rw [hml]; rfl) (argsL := [(.int (0 : Int32)), (.int (val1 p5))]) (rest := [(.int (((val6 (1 : Int32) (val1 p2)) + (val6 (1 : Int32) (val1 p3))) + (val6 (0 : Int32) (val1 p4))))]) (lenOf pd_0_5 rfl) rfl (by show 2 * 0 + _ ≤ _; exact Nat.le_of_eq rfl) (hb hby at_120) (fun _ _ => ⟨rfl, rfl, (by decide : 0 + 3 ≤ _), (by decide : 0 + 8 ≤ _)⟩)
  dsimp only [Pt.U, Pt.locs, Pt.cells, Pt.slots] at X16 l16 y16 z16 st16 hQ16
  subst l16 y16 z16
  obtain ⟨rfl, N16q, w16⟩ := hQ16
  have u16 : T16.heap = T12.heap := w16.trans u15
  have N16 := Fr.app N15 N16q
  obtain ⟨_, _, ⟨T17, L17, k17, n17⟩, -, X17, ⟨Lc17, hQ17, l17, y17, z17⟩, st17⟩ := Jvm.LawKit.callS X16 hx (y := (⟨"com/example/harburg/harburg/epc/FieldCharacterCountPinLaw", "pct", "(ZC)I"⟩ : MethodName)) hown (mvT hZ (hw _ (List.mem_of_getElem? (i := 30) rfl))) (mvT hZ (hw _ (List.mem_of_getElem? (i := 31) rfl))) (mvT hZ (hw _ (List.mem_of_getElem? (i := 3) rfl))) (mvT hZ (hw _ (List.mem_of_getElem? (i := 32) rfl))) (by decide) (backOf (W := 1) (rm6 l Z a0 hw [] (0 : Int32) (val1 p6) T16.heap n0 (by rw [u16]; exact z12)) hZ (hw _ (List.mem_of_getElem? (i := 32) rfl)) (hw _ (List.mem_of_getElem? (i := 3) rfl)) (by decide) (by decide)) (g := (mkF m 137 #[.val (.int p1), .val (.int p2), .val (.int p3), .val (.int p4), .val (.int p5), .val (.int p6), .val (.int (own_n p1)), .val (.int (val1 p2)), .val (.int (val1 p3)), .val (.int (val1 p4)), .val (.int (val1 p5)), .val (.int (val1 p6)), .val (.ref b12), .unset, .unset] [(.int (val1 p6)), (.int (0 : Int32)), (.int ((((val6 (1 : Int32) (val1 p2)) + (val6 (1 : Int32) (val1 p3))) + (val6 (0 : Int32) (val1 p4))) + (val6 (0 : Int32) (val1 p5))))])) rfl (by rw [hml]; rfl) (argsL := [(.int (0 : Int32)), (.int (val1 p6))]) (rest := [(.int ((((val6 (1 : Int32) (val1 p2)) + (val6 (1 : Int32) (val1 p3))) + (val6 (0 : Int32) (val1 p4))) + (val6 (0 : Int32) (val1 p5))))]) (lenOf pd_0_5 rfl) rfl (by show 2 * 0 + _ ≤ _; exact Nat.le_of_eq rfl) (hb hby at_137) (fun _ _ => ⟨rfl, rfl, (by decide : 0 + 3 ≤ _), (by decide : 0 + 8 ≤ _)⟩)
  dsimp only [Pt.U, Pt.locs, Pt.cells, Pt.slots] at X17 l17 y17 z17 st17 hQ17
  subst l17 y17 z17
  obtain ⟨rfl, N17q, w17⟩ := hQ17
  have u17 : T17.heap = T12.heap := w17.trans u16
  have N17 := Fr.app N16 N17q
  have hln : ∀ d ∈ StrChars.Road.wordsLen, d.before a0 Z = true := fun d hd => hw d ((by decide +kernel : ∀ d ∈ StrChars.Road.wordsLen, d ∈ tables_1) d hd)
  have hch : ∀ d ∈ StrChars.Road.wordsChN, d.before a0 Z = true := fun d hd => hw d ((by decide +kernel : ∀ d ∈ StrChars.Road.wordsChN, d ∈ tables_1) d hd)
  obtain ⟨xS, tS, kS, FvS, FcS, AvS⟩ : own_STR Z T12.heap b12 ([(val1 p2), (val1 p3)] : List Int32) := S12
  have xS' : Exa Z T17.heap b12 "java/lang/String" := by rw [u17]; exact xS
  have FvS' : Fld Z T17.heap b12 "java/lang/String" "value" "[B" (.ref tS) := by rw [u17]; exact FvS
  have FcS' : Fld Z T17.heap b12 "java/lang/String" "coder" "B" (.int (0 : Int32)) := by rw [u17]; exact FcS
  have AvS' : Arv Z T17.heap tS kS .byte (Int32.ofNat ([(val1 p2), (val1 p3)] : List Int32).length) ((([(val1 p2), (val1 p3)] : List Int32).map (fun c => c.toInt8.toInt32)).map Value.int) (.int 0) := by rw [u17]; exact AvS
  have XO' : Old Z n0 T17.heap := by rw [u17]; exact XO12
  obtain ⟨_, _, ⟨T18, L18, k18, n18⟩, -, X18, ⟨Lc18, hQ18, l18, y18, z18⟩, st18⟩ := Jvm.LawKit.callS X17 hx (y := (⟨"com/example/harburg/harburg/epc/EpcScheme$Field", "characterCount", "(Ljava/lang/String;)I"⟩ : MethodName)) hown (mvT hZ (hw _ (List.mem_of_getElem? (i := 33) rfl))) (mvT hZ (hw _ (List.mem_of_getElem? (i := 34) rfl))) (mvT hZ (hw _ (List.mem_of_getElem? (i := 35) rfl))) (mvT hZ (hw _ (List.mem_of_getElem? (i := 36) rfl))) (by decide) (backOf (W := 0) (rm7 l Z a0 hw [] b12 T17.heap n0 (by rw [u17]; exact z12) xS' hln hch ([(val1 p2), (val1 p3)] : List Int32) (Nat.le_of_ble_eq_true rfl) (own_all2 p2 p3) tS kS G1 G3 FvS' FcS' AvS' (O2.ext XO'.2) P5 (O4.ext XO'.2) rG3) hZ (hw _ (List.mem_of_getElem? (i := 36) rfl)) (hw _ (List.mem_of_getElem? (i := 35) rfl)) (by decide) (by decide)) (g := (mkF m 145 #[.val (.int p1), .val (.int p2), .val (.int p3), .val (.int p4), .val (.int p5), .val (.int p6), .val (.int (own_n p1)), .val (.int (val1 p2)), .val (.int (val1 p3)), .val (.int (val1 p4)), .val (.int (val1 p5)), .val (.int (val1 p6)), .val (.ref b12), .val (.int (((((val6 (1 : Int32) (val1 p2)) + (val6 (1 : Int32) (val1 p3))) + (val6 (0 : Int32) (val1 p4))) + (val6 (0 : Int32) (val1 p5))) + (val6 (0 : Int32) (val1 p6)))), .unset] [(.ref b12)])) rfl (by rw [hml]; rfl) (argsL := [(.ref b12)]) (rest := []) (lenOf pd_0_6 rfl) rfl (by show 2 * 0 + _ ≤ _; exact Nat.le_of_eq rfl) (hb hby at_145) (fun _ _ => ⟨rfl, rfl, (by decide : 0 + 3 ≤ _), (by decide : 0 + 8 ≤ _)⟩)
  dsimp only [Pt.U, Pt.locs, Pt.cells, Pt.slots] at X18 l18 y18 z18 st18 hQ18
  subst l18 y18 z18
  obtain ⟨rfl, N18q, w18⟩ := hQ18
  have u18 : T18.heap = T12.heap := w18.trans u17
  have N18 := Fr.app N17 N18q
  have xL : Exa Z T18.heap b12 "java/lang/String" := by rw [u18]; exact xS
  obtain ⟨cq19, kq19, q19a, q19b, q19c⟩ := isOf hZ rfl xL
  have FvL : Fld Z T18.heap b12 "java/lang/String" "value" "[B" (.ref tS) := by rw [u18]; exact FvS
  have FcL : Fld Z T18.heap b12 "java/lang/String" "coder" "B" (.int (0 : Int32)) := by rw [u18]; exact FcS
  have AvL : Arv Z T18.heap tS kS .byte (Int32.ofNat ([(val1 p2), (val1 p3)] : List Int32).length) ((([(val1 p2), (val1 p3)] : List Int32).map (fun c => c.toInt8.toInt32)).map Value.int) (.int 0) := by rw [u18]; exact AvS
  have XOL : Old Z n0 T18.heap := by rw [u18]; exact XO12
  obtain ⟨_, _, ⟨T19, L19, k19, n19⟩, -, X19, ⟨Lc19, hQ19, l19, y19, z19⟩, st19⟩ := X18.virtualBack hx (y := (⟨"java/lang/String", "length", "()I"⟩ : MethodName)) (z := (⟨"java/lang/String", "length", "()I"⟩ : MethodName)) hown (mvT hZ (hw _ (List.mem_of_getElem? (i := 48) rfl))) (mvT hZ (hw _ (List.mem_of_getElem? (i := 38) rfl))) (notFace_of_selects (args := #[]) (mvT hZ (hw _ (List.mem_of_getElem? (i := 40) rfl)))) (mvT hZ (hw _ (List.mem_of_getElem? (i := 40) rfl))) (mvT hZ (hw _ (List.mem_of_getElem? (i := 39) rfl))) (by decide) (StrChars.Road.lenW (W := 0) hZ hln (kI := 4) (hw _ (List.mem_of_getElem? (i := 9) rfl)) xL FvL FcL AvL (StrChars.Road.codOf rfl (fun c hc => (own_all2 p2 p3 c hc).2)) (own_up _ (own_all2 p2 p3)) (O2.ext XOL.2) P5 (Nat.le_of_ble_eq_true rfl) (by decide) (by decide)) q19a q19c (g := (mkF m 152 #[.val (.int p1), .val (.int p2), .val (.int p3), .val (.int p4), .val (.int p5), .val (.int p6), .val (.int (own_n p1)), .val (.int (val1 p2)), .val (.int (val1 p3)), .val (.int (val1 p4)), .val (.int (val1 p5)), .val (.int (val1 p6)), .val (.ref b12), .val (.int (((((val6 (1 : Int32) (val1 p2)) + (val6 (1 : Int32) (val1 p3))) + (val6 (0 : Int32) (val1 p4))) + (val6 (0 : Int32) (val1 p5))) + (val6 (0 : Int32) (val1 p6)))), .val (.int (Int32.ofNat ([(val1 p2), (val1 p3)] : List Int32).length - ((2 : Int32) * own_cnt ([(val1 p2), (val1 p3)] : List Int32))))] [(.ref b12)])) rfl (by rw [hml]; rfl) (Steps.refl _) (argsL := []) (rest := []) (lenOf pd_0_7 rfl) rfl (by show 2 * 0 + _ ≤ _; exact Nat.le_of_eq rfl) (hb hby at_152) (fun _ _ => ⟨rfl, rfl, (by decide : 0 + 3 ≤ _), (by decide : 0 + 8 ≤ _)⟩)
  dsimp only [Pt.U, Pt.locs, Pt.cells, Pt.slots] at X19 l19 y19 z19 st19 hQ19
  subst l19 y19 z19
  obtain ⟨rfl, rfl, w19⟩ := hQ19
  have N19 := Fr.app N18 (Fr.nil n0)
  obtain ⟨fs, hr, hrun, hended, hW, hsame⟩ := X19.leave (v := some (.int (1 : Int32))) (fun h => by rw [Bd.returns] at h; cases h)
  refine ⟨_, _, pre0 _ ?_, hrun, hended, _, _, rfl, ?_, ⟨_, rfl⟩, hW, hsame.mono (by decide) (by decide)⟩
  · show Steps p.tables e below (s₁.setTop (mkF m 0 #[.val (.int p1), .val (.int p2), .val (.int p3), .val (.int p4), .val (.int p5), .val (.int p6), .unset, .unset, .unset, .unset, .unset, .unset, .unset, .unset, .unset] [])) _
    refine XS.iloadN X0.here hx rfl (hb hby at_0) rfl ?_
    show Steps p.tables e below (s₁.setTop (mkF m 1 #[.val (.int p1), .val (.int p2), .val (.int p3), .val (.int p4), .val (.int p5), .val (.int p6), .unset, .unset, .unset, .unset, .unset, .unset, .unset, .unset, .unset] [(.int p1)])) _
    refine X0.ldcInt hx hown (mvT hZ (hw _ (List.mem_of_getElem? (i := 0) rfl))) (g := (mkF m 1 #[.val (.int p1), .val (.int p2), .val (.int p3), .val (.int p4), .val (.int p5), .val (.int p6), .unset, .unset, .unset, .unset, .unset, .unset, .unset, .unset, .unset] [(.int p1)])) rfl (hb hby at_1) _ ?_
    show Steps p.tables e below (s₁.setTop (mkF m 3 #[.val (.int p1), .val (.int p2), .val (.int p3), .val (.int p4), .val (.int p5), .val (.int p6), .unset, .unset, .unset, .unset, .unset, .unset, .unset, .unset, .unset] [(.int (2147483647 : Int32)), (.int p1)])) _
    refine XS.iand X0.here hx rfl (hb hby at_3) rfl ?_
    show Steps p.tables e below (s₁.setTop (mkF m 4 #[.val (.int p1), .val (.int p2), .val (.int p3), .val (.int p4), .val (.int p5), .val (.int p6), .unset, .unset, .unset, .unset, .unset, .unset, .unset, .unset, .unset] [(.int (p1 &&& (2147483647 : Int32)))])) _
    refine XS.bipush X0.here hx rfl (hb hby at_4) ?_
    show Steps p.tables e below (s₁.setTop (mkF m 6 #[.val (.int p1), .val (.int p2), .val (.int p3), .val (.int p4), .val (.int p5), .val (.int p6), .unset, .unset, .unset, .unset, .unset, .unset, .unset, .unset, .unset] [(.int (6 : Int32)), (.int (p1 &&& (2147483647 : Int32)))])) _
    refine XS.irem X0.here hx rfl (hb hby at_6) rfl (by decide) ?_
    show Steps p.tables e below (s₁.setTop (mkF m 7 #[.val (.int p1), .val (.int p2), .val (.int p3), .val (.int p4), .val (.int p5), .val (.int p6), .unset, .unset, .unset, .unset, .unset, .unset, .unset, .unset, .unset] [(.int (own_n p1))])) _
    refine XS.istore X0.here hx rfl (hb hby at_7) rfl (l' := #[.val (.int p1), .val (.int p2), .val (.int p3), .val (.int p4), .val (.int p5), .val (.int p6), .val (.int (own_n p1)), .unset, .unset, .unset, .unset, .unset, .unset, .unset, .unset]) rfl ?_
    show Steps p.tables e below (s₁.setTop (mkF m 9 #[.val (.int p1), .val (.int p2), .val (.int p3), .val (.int p4), .val (.int p5), .val (.int p6), .val (.int (own_n p1)), .unset, .unset, .unset, .unset, .unset, .unset, .unset, .unset] [])) _
    refine XS.iloadN X0.here hx rfl (hb hby at_9) rfl ?_
    show Steps p.tables e below (s₁.setTop (mkF m 10 #[.val (.int p1), .val (.int p2), .val (.int p3), .val (.int p4), .val (.int p5), .val (.int p6), .val (.int (own_n p1)), .unset, .unset, .unset, .unset, .unset, .unset, .unset, .unset] [(.int p2)])) _
    refine st7 _ ?_
    show Steps p.tables e below (T7.setTop (mkF m 13 #[.val (.int p1), .val (.int p2), .val (.int p3), .val (.int p4), .val (.int p5), .val (.int p6), .val (.int (own_n p1)), .unset, .unset, .unset, .unset, .unset, .unset, .unset, .unset] [(.int (val1 p2))])) _
    refine XS.istore X7.here hx rfl (hb hby at_13) rfl (l' := #[.val (.int p1), .val (.int p2), .val (.int p3), .val (.int p4), .val (.int p5), .val (.int p6), .val (.int (own_n p1)), .val (.int (val1 p2)), .unset, .unset, .unset, .unset, .unset, .unset, .unset]) rfl ?_
    show Steps p.tables e below (T7.setTop (mkF m 15 #[.val (.int p1), .val (.int p2), .val (.int p3), .val (.int p4), .val (.int p5), .val (.int p6), .val (.int (own_n p1)), .val (.int (val1 p2)), .unset, .unset, .unset, .unset, .unset, .unset, .unset] [])) _
    refine XS.iloadN X7.here hx rfl (hb hby at_15) rfl ?_
    show Steps p.tables e below (T7.setTop (mkF m 16 #[.val (.int p1), .val (.int p2), .val (.int p3), .val (.int p4), .val (.int p5), .val (.int p6), .val (.int (own_n p1)), .val (.int (val1 p2)), .unset, .unset, .unset, .unset, .unset, .unset, .unset] [(.int p3)])) _
    refine st8 _ ?_
    show Steps p.tables e below (T8.setTop (mkF m 19 #[.val (.int p1), .val (.int p2), .val (.int p3), .val (.int p4), .val (.int p5), .val (.int p6), .val (.int (own_n p1)), .val (.int (val1 p2)), .unset, .unset, .unset, .unset, .unset, .unset, .unset] [(.int (val1 p3))])) _
    refine XS.istore X8.here hx rfl (hb hby at_19) rfl (l' := #[.val (.int p1), .val (.int p2), .val (.int p3), .val (.int p4), .val (.int p5), .val (.int p6), .val (.int (own_n p1)), .val (.int (val1 p2)), .val (.int (val1 p3)), .unset, .unset, .unset, .unset, .unset, .unset]) rfl ?_
    show Steps p.tables e below (T8.setTop (mkF m 21 #[.val (.int p1), .val (.int p2), .val (.int p3), .val (.int p4), .val (.int p5), .val (.int p6), .val (.int (own_n p1)), .val (.int (val1 p2)), .val (.int (val1 p3)), .unset, .unset, .unset, .unset, .unset, .unset] [])) _
    refine XS.iloadN X8.here hx rfl (hb hby at_21) rfl ?_
    show Steps p.tables e below (T8.setTop (mkF m 22 #[.val (.int p1), .val (.int p2), .val (.int p3), .val (.int p4), .val (.int p5), .val (.int p6), .val (.int (own_n p1)), .val (.int (val1 p2)), .val (.int (val1 p3)), .unset, .unset, .unset, .unset, .unset, .unset] [(.int p4)])) _
    refine st9 _ ?_
    show Steps p.tables e below (T9.setTop (mkF m 25 #[.val (.int p1), .val (.int p2), .val (.int p3), .val (.int p4), .val (.int p5), .val (.int p6), .val (.int (own_n p1)), .val (.int (val1 p2)), .val (.int (val1 p3)), .unset, .unset, .unset, .unset, .unset, .unset] [(.int (val1 p4))])) _
    refine XS.istore X9.here hx rfl (hb hby at_25) rfl (l' := #[.val (.int p1), .val (.int p2), .val (.int p3), .val (.int p4), .val (.int p5), .val (.int p6), .val (.int (own_n p1)), .val (.int (val1 p2)), .val (.int (val1 p3)), .val (.int (val1 p4)), .unset, .unset, .unset, .unset, .unset]) rfl ?_
    show Steps p.tables e below (T9.setTop (mkF m 27 #[.val (.int p1), .val (.int p2), .val (.int p3), .val (.int p4), .val (.int p5), .val (.int p6), .val (.int (own_n p1)), .val (.int (val1 p2)), .val (.int (val1 p3)), .val (.int (val1 p4)), .unset, .unset, .unset, .unset, .unset] [])) _
    refine XS.iload X9.here hx rfl (hb hby at_27) rfl ?_
    show Steps p.tables e below (T9.setTop (mkF m 29 #[.val (.int p1), .val (.int p2), .val (.int p3), .val (.int p4), .val (.int p5), .val (.int p6), .val (.int (own_n p1)), .val (.int (val1 p2)), .val (.int (val1 p3)), .val (.int (val1 p4)), .unset, .unset, .unset, .unset, .unset] [(.int p5)])) _
    refine st10 _ ?_
    show Steps p.tables e below (T10.setTop (mkF m 32 #[.val (.int p1), .val (.int p2), .val (.int p3), .val (.int p4), .val (.int p5), .val (.int p6), .val (.int (own_n p1)), .val (.int (val1 p2)), .val (.int (val1 p3)), .val (.int (val1 p4)), .unset, .unset, .unset, .unset, .unset] [(.int (val1 p5))])) _
    refine XS.istore X10.here hx rfl (hb hby at_32) rfl (l' := #[.val (.int p1), .val (.int p2), .val (.int p3), .val (.int p4), .val (.int p5), .val (.int p6), .val (.int (own_n p1)), .val (.int (val1 p2)), .val (.int (val1 p3)), .val (.int (val1 p4)), .val (.int (val1 p5)), .unset, .unset, .unset, .unset]) rfl ?_
    show Steps p.tables e below (T10.setTop (mkF m 34 #[.val (.int p1), .val (.int p2), .val (.int p3), .val (.int p4), .val (.int p5), .val (.int p6), .val (.int (own_n p1)), .val (.int (val1 p2)), .val (.int (val1 p3)), .val (.int (val1 p4)), .val (.int (val1 p5)), .unset, .unset, .unset, .unset] [])) _
    refine XS.iload X10.here hx rfl (hb hby at_34) rfl ?_
    show Steps p.tables e below (T10.setTop (mkF m 36 #[.val (.int p1), .val (.int p2), .val (.int p3), .val (.int p4), .val (.int p5), .val (.int p6), .val (.int (own_n p1)), .val (.int (val1 p2)), .val (.int (val1 p3)), .val (.int (val1 p4)), .val (.int (val1 p5)), .unset, .unset, .unset, .unset] [(.int p6)])) _
    refine st11 _ ?_
    show Steps p.tables e below (T11.setTop (mkF m 39 #[.val (.int p1), .val (.int p2), .val (.int p3), .val (.int p4), .val (.int p5), .val (.int p6), .val (.int (own_n p1)), .val (.int (val1 p2)), .val (.int (val1 p3)), .val (.int (val1 p4)), .val (.int (val1 p5)), .unset, .unset, .unset, .unset] [(.int (val1 p6))])) _
    refine XS.istore X11.here hx rfl (hb hby at_39) rfl (l' := #[.val (.int p1), .val (.int p2), .val (.int p3), .val (.int p4), .val (.int p5), .val (.int p6), .val (.int (own_n p1)), .val (.int (val1 p2)), .val (.int (val1 p3)), .val (.int (val1 p4)), .val (.int (val1 p5)), .val (.int (val1 p6)), .unset, .unset, .unset]) rfl ?_
    show Steps p.tables e below (T11.setTop (mkF m 41 #[.val (.int p1), .val (.int p2), .val (.int p3), .val (.int p4), .val (.int p5), .val (.int p6), .val (.int (own_n p1)), .val (.int (val1 p2)), .val (.int (val1 p3)), .val (.int (val1 p4)), .val (.int (val1 p5)), .val (.int (val1 p6)), .unset, .unset, .unset] [])) _
    refine XS.iload X11.here hx rfl (hb hby at_41) rfl ?_
    show Steps p.tables e below (T11.setTop (mkF m 43 #[.val (.int p1), .val (.int p2), .val (.int p3), .val (.int p4), .val (.int p5), .val (.int p6), .val (.int (own_n p1)), .val (.int (val1 p2)), .val (.int (val1 p3)), .val (.int (val1 p4)), .val (.int (val1 p5)), .val (.int (val1 p6)), .unset, .unset, .unset] [(.int (own_n p1))])) _
    refine XS.iload X11.here hx rfl (hb hby at_43) rfl ?_
    show Steps p.tables e below (T11.setTop (mkF m 45 #[.val (.int p1), .val (.int p2), .val (.int p3), .val (.int p4), .val (.int p5), .val (.int p6), .val (.int (own_n p1)), .val (.int (val1 p2)), .val (.int (val1 p3)), .val (.int (val1 p4)), .val (.int (val1 p5)), .val (.int (val1 p6)), .unset, .unset, .unset] [(.int (val1 p2)), (.int (own_n p1))])) _
    refine XS.iload X11.here hx rfl (hb hby at_45) rfl ?_
    show Steps p.tables e below (T11.setTop (mkF m 47 #[.val (.int p1), .val (.int p2), .val (.int p3), .val (.int p4), .val (.int p5), .val (.int p6), .val (.int (own_n p1)), .val (.int (val1 p2)), .val (.int (val1 p3)), .val (.int (val1 p4)), .val (.int (val1 p5)), .val (.int (val1 p6)), .unset, .unset, .unset] [(.int (val1 p3)), (.int (val1 p2)), (.int (own_n p1))])) _
    refine XS.iload X11.here hx rfl (hb hby at_47) rfl ?_
    show Steps p.tables e below (T11.setTop (mkF m 49 #[.val (.int p1), .val (.int p2), .val (.int p3), .val (.int p4), .val (.int p5), .val (.int p6), .val (.int (own_n p1)), .val (.int (val1 p2)), .val (.int (val1 p3)), .val (.int (val1 p4)), .val (.int (val1 p5)), .val (.int (val1 p6)), .unset, .unset, .unset] [(.int (val1 p4)), (.int (val1 p3)), (.int (val1 p2)), (.int (own_n p1))])) _
    refine XS.iload X11.here hx rfl (hb hby at_49) rfl ?_
    show Steps p.tables e below (T11.setTop (mkF m 51 #[.val (.int p1), .val (.int p2), .val (.int p3), .val (.int p4), .val (.int p5), .val (.int p6), .val (.int (own_n p1)), .val (.int (val1 p2)), .val (.int (val1 p3)), .val (.int (val1 p4)), .val (.int (val1 p5)), .val (.int (val1 p6)), .unset, .unset, .unset] [(.int (val1 p5)), (.int (val1 p4)), (.int (val1 p3)), (.int (val1 p2)), (.int (own_n p1))])) _
    refine XS.iload X11.here hx rfl (hb hby at_51) rfl ?_
    show Steps p.tables e below (T11.setTop (mkF m 53 #[.val (.int p1), .val (.int p2), .val (.int p3), .val (.int p4), .val (.int p5), .val (.int p6), .val (.int (own_n p1)), .val (.int (val1 p2)), .val (.int (val1 p3)), .val (.int (val1 p4)), .val (.int (val1 p5)), .val (.int (val1 p6)), .unset, .unset, .unset] [(.int (val1 p6)), (.int (val1 p5)), (.int (val1 p4)), (.int (val1 p3)), (.int (val1 p2)), (.int (own_n p1))])) _
    refine st12 _ ?_
    show Steps p.tables e below (T12.setTop (mkF m 56 #[.val (.int p1), .val (.int p2), .val (.int p3), .val (.int p4), .val (.int p5), .val (.int p6), .val (.int (own_n p1)), .val (.int (val1 p2)), .val (.int (val1 p3)), .val (.int (val1 p4)), .val (.int (val1 p5)), .val (.int (val1 p6)), .unset, .unset, .unset] [(.ref b12)])) _
    refine XS.astore X12.here hx rfl (hb hby at_56) rfl rfl (l' := #[.val (.int p1), .val (.int p2), .val (.int p3), .val (.int p4), .val (.int p5), .val (.int p6), .val (.int (own_n p1)), .val (.int (val1 p2)), .val (.int (val1 p3)), .val (.int (val1 p4)), .val (.int (val1 p5)), .val (.int (val1 p6)), .val (.ref b12), .unset, .unset]) rfl ?_
    show Steps p.tables e below (T12.setTop (mkF m 58 #[.val (.int p1), .val (.int p2), .val (.int p3), .val (.int p4), .val (.int p5), .val (.int p6), .val (.int (own_n p1)), .val (.int (val1 p2)), .val (.int (val1 p3)), .val (.int (val1 p4)), .val (.int (val1 p5)), .val (.int (val1 p6)), .val (.ref b12), .unset, .unset] [])) _
    refine XS.iload X12.here hx rfl (hb hby at_58) rfl ?_
    show Steps p.tables e below (T12.setTop (mkF m 60 #[.val (.int p1), .val (.int p2), .val (.int p3), .val (.int p4), .val (.int p5), .val (.int p6), .val (.int (own_n p1)), .val (.int (val1 p2)), .val (.int (val1 p3)), .val (.int (val1 p4)), .val (.int (val1 p5)), .val (.int (val1 p6)), .val (.ref b12), .unset, .unset] [(.int (own_n p1))])) _
    refine XS.ifNo X12.here hx rfl (hb hby at_60) rfl ((if0 _ _).trans (tlt (by rw [hn]; decide)).2.2.2) ?_
    show Steps p.tables e below (T12.setTop (mkF m 63 #[.val (.int p1), .val (.int p2), .val (.int p3), .val (.int p4), .val (.int p5), .val (.int p6), .val (.int (own_n p1)), .val (.int (val1 p2)), .val (.int (val1 p3)), .val (.int (val1 p4)), .val (.int (val1 p5)), .val (.int (val1 p6)), .val (.ref b12), .unset, .unset] [])) _
    refine XS.iconst X12.here hx rfl (hb hby at_63) ?_
    show Steps p.tables e below (T12.setTop (mkF m 64 #[.val (.int p1), .val (.int p2), .val (.int p3), .val (.int p4), .val (.int p5), .val (.int p6), .val (.int (own_n p1)), .val (.int (val1 p2)), .val (.int (val1 p3)), .val (.int (val1 p4)), .val (.int (val1 p5)), .val (.int (val1 p6)), .val (.ref b12), .unset, .unset] [(.int (1 : Int32))])) _
    refine XS.goto X12.here hx rfl (pc0 := 64) (pc' := 68) rfl (hb hby at_64) (by decide) (by decide) ?_
    show Steps p.tables e below (T12.setTop (mkF m 68 #[.val (.int p1), .val (.int p2), .val (.int p3), .val (.int p4), .val (.int p5), .val (.int p6), .val (.int (own_n p1)), .val (.int (val1 p2)), .val (.int (val1 p3)), .val (.int (val1 p4)), .val (.int (val1 p5)), .val (.int (val1 p6)), .val (.ref b12), .unset, .unset] [(.int (1 : Int32))])) _
    refine XS.iload X12.here hx rfl (hb hby at_68) rfl ?_
    show Steps p.tables e below (T12.setTop (mkF m 70 #[.val (.int p1), .val (.int p2), .val (.int p3), .val (.int p4), .val (.int p5), .val (.int p6), .val (.int (own_n p1)), .val (.int (val1 p2)), .val (.int (val1 p3)), .val (.int (val1 p4)), .val (.int (val1 p5)), .val (.int (val1 p6)), .val (.ref b12), .unset, .unset] [(.int (val1 p2)), (.int (1 : Int32))])) _
    refine st13 _ ?_
    show Steps p.tables e below (T13.setTop (mkF m 73 #[.val (.int p1), .val (.int p2), .val (.int p3), .val (.int p4), .val (.int p5), .val (.int p6), .val (.int (own_n p1)), .val (.int (val1 p2)), .val (.int (val1 p3)), .val (.int (val1 p4)), .val (.int (val1 p5)), .val (.int (val1 p6)), .val (.ref b12), .unset, .unset] [(.int (val6 (1 : Int32) (val1 p2)))])) _
    refine XS.iload X13.here hx rfl (hb hby at_73) rfl ?_
    show Steps p.tables e below (T13.setTop (mkF m 75 #[.val (.int p1), .val (.int p2), .val (.int p3), .val (.int p4), .val (.int p5), .val (.int p6), .val (.int (own_n p1)), .val (.int (val1 p2)), .val (.int (val1 p3)), .val (.int (val1 p4)), .val (.int (val1 p5)), .val (.int (val1 p6)), .val (.ref b12), .unset, .unset] [(.int (own_n p1)), (.int (val6 (1 : Int32) (val1 p2)))])) _
    refine XS.iconst X13.here hx rfl (hb hby at_75) ?_
    show Steps p.tables e below (T13.setTop (mkF m 76 #[.val (.int p1), .val (.int p2), .val (.int p3), .val (.int p4), .val (.int p5), .val (.int p6), .val (.int (own_n p1)), .val (.int (val1 p2)), .val (.int (val1 p3)), .val (.int (val1 p4)), .val (.int (val1 p5)), .val (.int (val1 p6)), .val (.ref b12), .unset, .unset] [(.int (1 : Int32)), (.int (own_n p1)), (.int (val6 (1 : Int32) (val1 p2)))])) _
    refine XS.icmpNo X13.here hx rfl (hb hby at_76) rfl (tlt (by rw [hn]; decide)).2.2.2 ?_
    show Steps p.tables e below (T13.setTop (mkF m 79 #[.val (.int p1), .val (.int p2), .val (.int p3), .val (.int p4), .val (.int p5), .val (.int p6), .val (.int (own_n p1)), .val (.int (val1 p2)), .val (.int (val1 p3)), .val (.int (val1 p4)), .val (.int (val1 p5)), .val (.int (val1 p6)), .val (.ref b12), .unset, .unset] [(.int (val6 (1 : Int32) (val1 p2)))])) _
    refine XS.iconst X13.here hx rfl (hb hby at_79) ?_
    show Steps p.tables e below (T13.setTop (mkF m 80 #[.val (.int p1), .val (.int p2), .val (.int p3), .val (.int p4), .val (.int p5), .val (.int p6), .val (.int (own_n p1)), .val (.int (val1 p2)), .val (.int (val1 p3)), .val (.int (val1 p4)), .val (.int (val1 p5)), .val (.int (val1 p6)), .val (.ref b12), .unset, .unset] [(.int (1 : Int32)), (.int (val6 (1 : Int32) (val1 p2)))])) _
    refine XS.goto X13.here hx rfl (pc0 := 80) (pc' := 84) rfl (hb hby at_80) (by decide) (by decide) ?_
    show Steps p.tables e below (T13.setTop (mkF m 84 #[.val (.int p1), .val (.int p2), .val (.int p3), .val (.int p4), .val (.int p5), .val (.int p6), .val (.int (own_n p1)), .val (.int (val1 p2)), .val (.int (val1 p3)), .val (.int (val1 p4)), .val (.int (val1 p5)), .val (.int (val1 p6)), .val (.ref b12), .unset, .unset] [(.int (1 : Int32)), (.int (val6 (1 : Int32) (val1 p2)))])) _
    refine XS.iload X13.here hx rfl (hb hby at_84) rfl ?_
    show Steps p.tables e below (T13.setTop (mkF m 86 #[.val (.int p1), .val (.int p2), .val (.int p3), .val (.int p4), .val (.int p5), .val (.int p6), .val (.int (own_n p1)), .val (.int (val1 p2)), .val (.int (val1 p3)), .val (.int (val1 p4)), .val (.int (val1 p5)), .val (.int (val1 p6)), .val (.ref b12), .unset, .unset] [(.int (val1 p3)), (.int (1 : Int32)), (.int (val6 (1 : Int32) (val1 p2)))])) _
    refine st14 _ ?_
    show Steps p.tables e below (T14.setTop (mkF m 89 #[.val (.int p1), .val (.int p2), .val (.int p3), .val (.int p4), .val (.int p5), .val (.int p6), .val (.int (own_n p1)), .val (.int (val1 p2)), .val (.int (val1 p3)), .val (.int (val1 p4)), .val (.int (val1 p5)), .val (.int (val1 p6)), .val (.ref b12), .unset, .unset] [(.int (val6 (1 : Int32) (val1 p3))), (.int (val6 (1 : Int32) (val1 p2)))])) _
    refine XS.iadd X14.here hx rfl (hb hby at_89) rfl ?_
    show Steps p.tables e below (T14.setTop (mkF m 90 #[.val (.int p1), .val (.int p2), .val (.int p3), .val (.int p4), .val (.int p5), .val (.int p6), .val (.int (own_n p1)), .val (.int (val1 p2)), .val (.int (val1 p3)), .val (.int (val1 p4)), .val (.int (val1 p5)), .val (.int (val1 p6)), .val (.ref b12), .unset, .unset] [(.int ((val6 (1 : Int32) (val1 p2)) + (val6 (1 : Int32) (val1 p3))))])) _
    refine XS.iload X14.here hx rfl (hb hby at_90) rfl ?_
    show Steps p.tables e below (T14.setTop (mkF m 92 #[.val (.int p1), .val (.int p2), .val (.int p3), .val (.int p4), .val (.int p5), .val (.int p6), .val (.int (own_n p1)), .val (.int (val1 p2)), .val (.int (val1 p3)), .val (.int (val1 p4)), .val (.int (val1 p5)), .val (.int (val1 p6)), .val (.ref b12), .unset, .unset] [(.int (own_n p1)), (.int ((val6 (1 : Int32) (val1 p2)) + (val6 (1 : Int32) (val1 p3))))])) _
    refine XS.iconst X14.here hx rfl (hb hby at_92) ?_
    show Steps p.tables e below (T14.setTop (mkF m 93 #[.val (.int p1), .val (.int p2), .val (.int p3), .val (.int p4), .val (.int p5), .val (.int p6), .val (.int (own_n p1)), .val (.int (val1 p2)), .val (.int (val1 p3)), .val (.int (val1 p4)), .val (.int (val1 p5)), .val (.int (val1 p6)), .val (.ref b12), .unset, .unset] [(.int (2 : Int32)), (.int (own_n p1)), (.int ((val6 (1 : Int32) (val1 p2)) + (val6 (1 : Int32) (val1 p3))))])) _
    refine XS.icmpYes X14.here hx rfl (pc0 := 93) (pc' := 100) rfl (hb hby at_93) rfl (flt (by rw [hn]; decide)).2.2.2 (by decide) (by decide) ?_
    show Steps p.tables e below (T14.setTop (mkF m 100 #[.val (.int p1), .val (.int p2), .val (.int p3), .val (.int p4), .val (.int p5), .val (.int p6), .val (.int (own_n p1)), .val (.int (val1 p2)), .val (.int (val1 p3)), .val (.int (val1 p4)), .val (.int (val1 p5)), .val (.int (val1 p6)), .val (.ref b12), .unset, .unset] [(.int ((val6 (1 : Int32) (val1 p2)) + (val6 (1 : Int32) (val1 p3))))])) _
    refine XS.iconst X14.here hx rfl (hb hby at_100) ?_
    show Steps p.tables e below (T14.setTop (mkF m 101 #[.val (.int p1), .val (.int p2), .val (.int p3), .val (.int p4), .val (.int p5), .val (.int p6), .val (.int (own_n p1)), .val (.int (val1 p2)), .val (.int (val1 p3)), .val (.int (val1 p4)), .val (.int (val1 p5)), .val (.int (val1 p6)), .val (.ref b12), .unset, .unset] [(.int (0 : Int32)), (.int ((val6 (1 : Int32) (val1 p2)) + (val6 (1 : Int32) (val1 p3))))])) _
    refine XS.iload X14.here hx rfl (hb hby at_101) rfl ?_
    show Steps p.tables e below (T14.setTop (mkF m 103 #[.val (.int p1), .val (.int p2), .val (.int p3), .val (.int p4), .val (.int p5), .val (.int p6), .val (.int (own_n p1)), .val (.int (val1 p2)), .val (.int (val1 p3)), .val (.int (val1 p4)), .val (.int (val1 p5)), .val (.int (val1 p6)), .val (.ref b12), .unset, .unset] [(.int (val1 p4)), (.int (0 : Int32)), (.int ((val6 (1 : Int32) (val1 p2)) + (val6 (1 : Int32) (val1 p3))))])) _
    refine st15 _ ?_
    show Steps p.tables e below (T15.setTop (mkF m 106 #[.val (.int p1), .val (.int p2), .val (.int p3), .val (.int p4), .val (.int p5), .val (.int p6), .val (.int (own_n p1)), .val (.int (val1 p2)), .val (.int (val1 p3)), .val (.int (val1 p4)), .val (.int (val1 p5)), .val (.int (val1 p6)), .val (.ref b12), .unset, .unset] [(.int (val6 (0 : Int32) (val1 p4))), (.int ((val6 (1 : Int32) (val1 p2)) + (val6 (1 : Int32) (val1 p3))))])) _
    refine XS.iadd X15.here hx rfl (hb hby at_106) rfl ?_
    show Steps p.tables e below (T15.setTop (mkF m 107 #[.val (.int p1), .val (.int p2), .val (.int p3), .val (.int p4), .val (.int p5), .val (.int p6), .val (.int (own_n p1)), .val (.int (val1 p2)), .val (.int (val1 p3)), .val (.int (val1 p4)), .val (.int (val1 p5)), .val (.int (val1 p6)), .val (.ref b12), .unset, .unset] [(.int (((val6 (1 : Int32) (val1 p2)) + (val6 (1 : Int32) (val1 p3))) + (val6 (0 : Int32) (val1 p4))))])) _
    refine XS.iload X15.here hx rfl (hb hby at_107) rfl ?_
    show Steps p.tables e below (T15.setTop (mkF m 109 #[.val (.int p1), .val (.int p2), .val (.int p3), .val (.int p4), .val (.int p5), .val (.int p6), .val (.int (own_n p1)), .val (.int (val1 p2)), .val (.int (val1 p3)), .val (.int (val1 p4)), .val (.int (val1 p5)), .val (.int (val1 p6)), .val (.ref b12), .unset, .unset] [(.int (own_n p1)), (.int (((val6 (1 : Int32) (val1 p2)) + (val6 (1 : Int32) (val1 p3))) + (val6 (0 : Int32) (val1 p4))))])) _
    refine XS.iconst X15.here hx rfl (hb hby at_109) ?_
    show Steps p.tables e below (T15.setTop (mkF m 110 #[.val (.int p1), .val (.int p2), .val (.int p3), .val (.int p4), .val (.int p5), .val (.int p6), .val (.int (own_n p1)), .val (.int (val1 p2)), .val (.int (val1 p3)), .val (.int (val1 p4)), .val (.int (val1 p5)), .val (.int (val1 p6)), .val (.ref b12), .unset, .unset] [(.int (3 : Int32)), (.int (own_n p1)), (.int (((val6 (1 : Int32) (val1 p2)) + (val6 (1 : Int32) (val1 p3))) + (val6 (0 : Int32) (val1 p4))))])) _
    refine XS.icmpYes X15.here hx rfl (pc0 := 110) (pc' := 117) rfl (hb hby at_110) rfl (flt (by rw [hn]; decide)).2.2.2 (by decide) (by decide) ?_
    show Steps p.tables e below (T15.setTop (mkF m 117 #[.val (.int p1), .val (.int p2), .val (.int p3), .val (.int p4), .val (.int p5), .val (.int p6), .val (.int (own_n p1)), .val (.int (val1 p2)), .val (.int (val1 p3)), .val (.int (val1 p4)), .val (.int (val1 p5)), .val (.int (val1 p6)), .val (.ref b12), .unset, .unset] [(.int (((val6 (1 : Int32) (val1 p2)) + (val6 (1 : Int32) (val1 p3))) + (val6 (0 : Int32) (val1 p4))))])) _
    refine XS.iconst X15.here hx rfl (hb hby at_117) ?_
    show Steps p.tables e below (T15.setTop (mkF m 118 #[.val (.int p1), .val (.int p2), .val (.int p3), .val (.int p4), .val (.int p5), .val (.int p6), .val (.int (own_n p1)), .val (.int (val1 p2)), .val (.int (val1 p3)), .val (.int (val1 p4)), .val (.int (val1 p5)), .val (.int (val1 p6)), .val (.ref b12), .unset, .unset] [(.int (0 : Int32)), (.int (((val6 (1 : Int32) (val1 p2)) + (val6 (1 : Int32) (val1 p3))) + (val6 (0 : Int32) (val1 p4))))])) _
    refine XS.iload X15.here hx rfl (hb hby at_118) rfl ?_
    show Steps p.tables e below (T15.setTop (mkF m 120 #[.val (.int p1), .val (.int p2), .val (.int p3), .val (.int p4), .val (.int p5), .val (.int p6), .val (.int (own_n p1)), .val (.int (val1 p2)), .val (.int (val1 p3)), .val (.int (val1 p4)), .val (.int (val1 p5)), .val (.int (val1 p6)), .val (.ref b12), .unset, .unset] [(.int (val1 p5)), (.int (0 : Int32)), (.int (((val6 (1 : Int32) (val1 p2)) + (val6 (1 : Int32) (val1 p3))) + (val6 (0 : Int32) (val1 p4))))])) _
    refine st16 _ ?_
    show Steps p.tables e below (T16.setTop (mkF m 123 #[.val (.int p1), .val (.int p2), .val (.int p3), .val (.int p4), .val (.int p5), .val (.int p6), .val (.int (own_n p1)), .val (.int (val1 p2)), .val (.int (val1 p3)), .val (.int (val1 p4)), .val (.int (val1 p5)), .val (.int (val1 p6)), .val (.ref b12), .unset, .unset] [(.int (val6 (0 : Int32) (val1 p5))), (.int (((val6 (1 : Int32) (val1 p2)) + (val6 (1 : Int32) (val1 p3))) + (val6 (0 : Int32) (val1 p4))))])) _
    refine XS.iadd X16.here hx rfl (hb hby at_123) rfl ?_
    show Steps p.tables e below (T16.setTop (mkF m 124 #[.val (.int p1), .val (.int p2), .val (.int p3), .val (.int p4), .val (.int p5), .val (.int p6), .val (.int (own_n p1)), .val (.int (val1 p2)), .val (.int (val1 p3)), .val (.int (val1 p4)), .val (.int (val1 p5)), .val (.int (val1 p6)), .val (.ref b12), .unset, .unset] [(.int ((((val6 (1 : Int32) (val1 p2)) + (val6 (1 : Int32) (val1 p3))) + (val6 (0 : Int32) (val1 p4))) + (val6 (0 : Int32) (val1 p5))))])) _
    refine XS.iload X16.here hx rfl (hb hby at_124) rfl ?_
    show Steps p.tables e below (T16.setTop (mkF m 126 #[.val (.int p1), .val (.int p2), .val (.int p3), .val (.int p4), .val (.int p5), .val (.int p6), .val (.int (own_n p1)), .val (.int (val1 p2)), .val (.int (val1 p3)), .val (.int (val1 p4)), .val (.int (val1 p5)), .val (.int (val1 p6)), .val (.ref b12), .unset, .unset] [(.int (own_n p1)), (.int ((((val6 (1 : Int32) (val1 p2)) + (val6 (1 : Int32) (val1 p3))) + (val6 (0 : Int32) (val1 p4))) + (val6 (0 : Int32) (val1 p5))))])) _
    refine XS.iconst X16.here hx rfl (hb hby at_126) ?_
    show Steps p.tables e below (T16.setTop (mkF m 127 #[.val (.int p1), .val (.int p2), .val (.int p3), .val (.int p4), .val (.int p5), .val (.int p6), .val (.int (own_n p1)), .val (.int (val1 p2)), .val (.int (val1 p3)), .val (.int (val1 p4)), .val (.int (val1 p5)), .val (.int (val1 p6)), .val (.ref b12), .unset, .unset] [(.int (4 : Int32)), (.int (own_n p1)), (.int ((((val6 (1 : Int32) (val1 p2)) + (val6 (1 : Int32) (val1 p3))) + (val6 (0 : Int32) (val1 p4))) + (val6 (0 : Int32) (val1 p5))))])) _
    refine XS.icmpYes X16.here hx rfl (pc0 := 127) (pc' := 134) rfl (hb hby at_127) rfl (flt (by rw [hn]; decide)).2.2.2 (by decide) (by decide) ?_
    show Steps p.tables e below (T16.setTop (mkF m 134 #[.val (.int p1), .val (.int p2), .val (.int p3), .val (.int p4), .val (.int p5), .val (.int p6), .val (.int (own_n p1)), .val (.int (val1 p2)), .val (.int (val1 p3)), .val (.int (val1 p4)), .val (.int (val1 p5)), .val (.int (val1 p6)), .val (.ref b12), .unset, .unset] [(.int ((((val6 (1 : Int32) (val1 p2)) + (val6 (1 : Int32) (val1 p3))) + (val6 (0 : Int32) (val1 p4))) + (val6 (0 : Int32) (val1 p5))))])) _
    refine XS.iconst X16.here hx rfl (hb hby at_134) ?_
    show Steps p.tables e below (T16.setTop (mkF m 135 #[.val (.int p1), .val (.int p2), .val (.int p3), .val (.int p4), .val (.int p5), .val (.int p6), .val (.int (own_n p1)), .val (.int (val1 p2)), .val (.int (val1 p3)), .val (.int (val1 p4)), .val (.int (val1 p5)), .val (.int (val1 p6)), .val (.ref b12), .unset, .unset] [(.int (0 : Int32)), (.int ((((val6 (1 : Int32) (val1 p2)) + (val6 (1 : Int32) (val1 p3))) + (val6 (0 : Int32) (val1 p4))) + (val6 (0 : Int32) (val1 p5))))])) _
    refine XS.iload X16.here hx rfl (hb hby at_135) rfl ?_
    show Steps p.tables e below (T16.setTop (mkF m 137 #[.val (.int p1), .val (.int p2), .val (.int p3), .val (.int p4), .val (.int p5), .val (.int p6), .val (.int (own_n p1)), .val (.int (val1 p2)), .val (.int (val1 p3)), .val (.int (val1 p4)), .val (.int (val1 p5)), .val (.int (val1 p6)), .val (.ref b12), .unset, .unset] [(.int (val1 p6)), (.int (0 : Int32)), (.int ((((val6 (1 : Int32) (val1 p2)) + (val6 (1 : Int32) (val1 p3))) + (val6 (0 : Int32) (val1 p4))) + (val6 (0 : Int32) (val1 p5))))])) _
    refine st17 _ ?_
    show Steps p.tables e below (T17.setTop (mkF m 140 #[.val (.int p1), .val (.int p2), .val (.int p3), .val (.int p4), .val (.int p5), .val (.int p6), .val (.int (own_n p1)), .val (.int (val1 p2)), .val (.int (val1 p3)), .val (.int (val1 p4)), .val (.int (val1 p5)), .val (.int (val1 p6)), .val (.ref b12), .unset, .unset] [(.int (val6 (0 : Int32) (val1 p6))), (.int ((((val6 (1 : Int32) (val1 p2)) + (val6 (1 : Int32) (val1 p3))) + (val6 (0 : Int32) (val1 p4))) + (val6 (0 : Int32) (val1 p5))))])) _
    refine XS.iadd X17.here hx rfl (hb hby at_140) rfl ?_
    show Steps p.tables e below (T17.setTop (mkF m 141 #[.val (.int p1), .val (.int p2), .val (.int p3), .val (.int p4), .val (.int p5), .val (.int p6), .val (.int (own_n p1)), .val (.int (val1 p2)), .val (.int (val1 p3)), .val (.int (val1 p4)), .val (.int (val1 p5)), .val (.int (val1 p6)), .val (.ref b12), .unset, .unset] [(.int (((((val6 (1 : Int32) (val1 p2)) + (val6 (1 : Int32) (val1 p3))) + (val6 (0 : Int32) (val1 p4))) + (val6 (0 : Int32) (val1 p5))) + (val6 (0 : Int32) (val1 p6))))])) _
    refine XS.istore X17.here hx rfl (hb hby at_141) rfl (l' := #[.val (.int p1), .val (.int p2), .val (.int p3), .val (.int p4), .val (.int p5), .val (.int p6), .val (.int (own_n p1)), .val (.int (val1 p2)), .val (.int (val1 p3)), .val (.int (val1 p4)), .val (.int (val1 p5)), .val (.int (val1 p6)), .val (.ref b12), .val (.int (((((val6 (1 : Int32) (val1 p2)) + (val6 (1 : Int32) (val1 p3))) + (val6 (0 : Int32) (val1 p4))) + (val6 (0 : Int32) (val1 p5))) + (val6 (0 : Int32) (val1 p6)))), .unset]) rfl ?_
    show Steps p.tables e below (T17.setTop (mkF m 143 #[.val (.int p1), .val (.int p2), .val (.int p3), .val (.int p4), .val (.int p5), .val (.int p6), .val (.int (own_n p1)), .val (.int (val1 p2)), .val (.int (val1 p3)), .val (.int (val1 p4)), .val (.int (val1 p5)), .val (.int (val1 p6)), .val (.ref b12), .val (.int (((((val6 (1 : Int32) (val1 p2)) + (val6 (1 : Int32) (val1 p3))) + (val6 (0 : Int32) (val1 p4))) + (val6 (0 : Int32) (val1 p5))) + (val6 (0 : Int32) (val1 p6)))), .unset] [])) _
    refine XS.aload X17.here hx rfl (hb hby at_143) rfl rfl ?_
    show Steps p.tables e below (T17.setTop (mkF m 145 #[.val (.int p1), .val (.int p2), .val (.int p3), .val (.int p4), .val (.int p5), .val (.int p6), .val (.int (own_n p1)), .val (.int (val1 p2)), .val (.int (val1 p3)), .val (.int (val1 p4)), .val (.int (val1 p5)), .val (.int (val1 p6)), .val (.ref b12), .val (.int (((((val6 (1 : Int32) (val1 p2)) + (val6 (1 : Int32) (val1 p3))) + (val6 (0 : Int32) (val1 p4))) + (val6 (0 : Int32) (val1 p5))) + (val6 (0 : Int32) (val1 p6)))), .unset] [(.ref b12)])) _
    refine st18 _ ?_
    show Steps p.tables e below (T18.setTop (mkF m 148 #[.val (.int p1), .val (.int p2), .val (.int p3), .val (.int p4), .val (.int p5), .val (.int p6), .val (.int (own_n p1)), .val (.int (val1 p2)), .val (.int (val1 p3)), .val (.int (val1 p4)), .val (.int (val1 p5)), .val (.int (val1 p6)), .val (.ref b12), .val (.int (((((val6 (1 : Int32) (val1 p2)) + (val6 (1 : Int32) (val1 p3))) + (val6 (0 : Int32) (val1 p4))) + (val6 (0 : Int32) (val1 p5))) + (val6 (0 : Int32) (val1 p6)))), .unset] [(.int (Int32.ofNat ([(val1 p2), (val1 p3)] : List Int32).length - ((2 : Int32) * own_cnt ([(val1 p2), (val1 p3)] : List Int32))))])) _
    refine XS.istore X18.here hx rfl (hb hby at_148) rfl (l' := #[.val (.int p1), .val (.int p2), .val (.int p3), .val (.int p4), .val (.int p5), .val (.int p6), .val (.int (own_n p1)), .val (.int (val1 p2)), .val (.int (val1 p3)), .val (.int (val1 p4)), .val (.int (val1 p5)), .val (.int (val1 p6)), .val (.ref b12), .val (.int (((((val6 (1 : Int32) (val1 p2)) + (val6 (1 : Int32) (val1 p3))) + (val6 (0 : Int32) (val1 p4))) + (val6 (0 : Int32) (val1 p5))) + (val6 (0 : Int32) (val1 p6)))), .val (.int (Int32.ofNat ([(val1 p2), (val1 p3)] : List Int32).length - ((2 : Int32) * own_cnt ([(val1 p2), (val1 p3)] : List Int32))))]) rfl ?_
    show Steps p.tables e below (T18.setTop (mkF m 150 #[.val (.int p1), .val (.int p2), .val (.int p3), .val (.int p4), .val (.int p5), .val (.int p6), .val (.int (own_n p1)), .val (.int (val1 p2)), .val (.int (val1 p3)), .val (.int (val1 p4)), .val (.int (val1 p5)), .val (.int (val1 p6)), .val (.ref b12), .val (.int (((((val6 (1 : Int32) (val1 p2)) + (val6 (1 : Int32) (val1 p3))) + (val6 (0 : Int32) (val1 p4))) + (val6 (0 : Int32) (val1 p5))) + (val6 (0 : Int32) (val1 p6)))), .val (.int (Int32.ofNat ([(val1 p2), (val1 p3)] : List Int32).length - ((2 : Int32) * own_cnt ([(val1 p2), (val1 p3)] : List Int32))))] [])) _
    refine XS.aload X18.here hx rfl (hb hby at_150) rfl rfl ?_
    show Steps p.tables e below (T18.setTop (mkF m 152 #[.val (.int p1), .val (.int p2), .val (.int p3), .val (.int p4), .val (.int p5), .val (.int p6), .val (.int (own_n p1)), .val (.int (val1 p2)), .val (.int (val1 p3)), .val (.int (val1 p4)), .val (.int (val1 p5)), .val (.int (val1 p6)), .val (.ref b12), .val (.int (((((val6 (1 : Int32) (val1 p2)) + (val6 (1 : Int32) (val1 p3))) + (val6 (0 : Int32) (val1 p4))) + (val6 (0 : Int32) (val1 p5))) + (val6 (0 : Int32) (val1 p6)))), .val (.int (Int32.ofNat ([(val1 p2), (val1 p3)] : List Int32).length - ((2 : Int32) * own_cnt ([(val1 p2), (val1 p3)] : List Int32))))] [(.ref b12)])) _
    refine st19.trans ?_
    show Steps p.tables e below (T19.setTop (mkF m 155 #[.val (.int p1), .val (.int p2), .val (.int p3), .val (.int p4), .val (.int p5), .val (.int p6), .val (.int (own_n p1)), .val (.int (val1 p2)), .val (.int (val1 p3)), .val (.int (val1 p4)), .val (.int (val1 p5)), .val (.int (val1 p6)), .val (.ref b12), .val (.int (((((val6 (1 : Int32) (val1 p2)) + (val6 (1 : Int32) (val1 p3))) + (val6 (0 : Int32) (val1 p4))) + (val6 (0 : Int32) (val1 p5))) + (val6 (0 : Int32) (val1 p6)))), .val (.int (Int32.ofNat ([(val1 p2), (val1 p3)] : List Int32).length - ((2 : Int32) * own_cnt ([(val1 p2), (val1 p3)] : List Int32))))] [(.int (Int32.ofNat ([(val1 p2), (val1 p3)] : List Int32).length))])) _
    refine XS.iload X19.here hx rfl (hb hby at_155) rfl ?_
    show Steps p.tables e below (T19.setTop (mkF m 157 #[.val (.int p1), .val (.int p2), .val (.int p3), .val (.int p4), .val (.int p5), .val (.int p6), .val (.int (own_n p1)), .val (.int (val1 p2)), .val (.int (val1 p3)), .val (.int (val1 p4)), .val (.int (val1 p5)), .val (.int (val1 p6)), .val (.ref b12), .val (.int (((((val6 (1 : Int32) (val1 p2)) + (val6 (1 : Int32) (val1 p3))) + (val6 (0 : Int32) (val1 p4))) + (val6 (0 : Int32) (val1 p5))) + (val6 (0 : Int32) (val1 p6)))), .val (.int (Int32.ofNat ([(val1 p2), (val1 p3)] : List Int32).length - ((2 : Int32) * own_cnt ([(val1 p2), (val1 p3)] : List Int32))))] [(.int (own_n p1)), (.int (Int32.ofNat ([(val1 p2), (val1 p3)] : List Int32).length))])) _
    refine XS.icmpNo X19.here hx rfl (hb hby at_157) rfl (teq (hn.symm : (Int32.ofNat ([(val1 p2), (val1 p3)] : List Int32).length) = (own_n p1))).2 ?_
    show Steps p.tables e below (T19.setTop (mkF m 160 #[.val (.int p1), .val (.int p2), .val (.int p3), .val (.int p4), .val (.int p5), .val (.int p6), .val (.int (own_n p1)), .val (.int (val1 p2)), .val (.int (val1 p3)), .val (.int (val1 p4)), .val (.int (val1 p5)), .val (.int (val1 p6)), .val (.ref b12), .val (.int (((((val6 (1 : Int32) (val1 p2)) + (val6 (1 : Int32) (val1 p3))) + (val6 (0 : Int32) (val1 p4))) + (val6 (0 : Int32) (val1 p5))) + (val6 (0 : Int32) (val1 p6)))), .val (.int (Int32.ofNat ([(val1 p2), (val1 p3)] : List Int32).length - ((2 : Int32) * own_cnt ([(val1 p2), (val1 p3)] : List Int32))))] [])) _
    refine XS.iload X19.here hx rfl (hb hby at_160) rfl ?_
    show Steps p.tables e below (T19.setTop (mkF m 162 #[.val (.int p1), .val (.int p2), .val (.int p3), .val (.int p4), .val (.int p5), .val (.int p6), .val (.int (own_n p1)), .val (.int (val1 p2)), .val (.int (val1 p3)), .val (.int (val1 p4)), .val (.int (val1 p5)), .val (.int (val1 p6)), .val (.ref b12), .val (.int (((((val6 (1 : Int32) (val1 p2)) + (val6 (1 : Int32) (val1 p3))) + (val6 (0 : Int32) (val1 p4))) + (val6 (0 : Int32) (val1 p5))) + (val6 (0 : Int32) (val1 p6)))), .val (.int (Int32.ofNat ([(val1 p2), (val1 p3)] : List Int32).length - ((2 : Int32) * own_cnt ([(val1 p2), (val1 p3)] : List Int32))))] [(.int (Int32.ofNat ([(val1 p2), (val1 p3)] : List Int32).length - ((2 : Int32) * own_cnt ([(val1 p2), (val1 p3)] : List Int32))))])) _
    refine XS.iload X19.here hx rfl (hb hby at_162) rfl ?_
    show Steps p.tables e below (T19.setTop (mkF m 164 #[.val (.int p1), .val (.int p2), .val (.int p3), .val (.int p4), .val (.int p5), .val (.int p6), .val (.int (own_n p1)), .val (.int (val1 p2)), .val (.int (val1 p3)), .val (.int (val1 p4)), .val (.int (val1 p5)), .val (.int (val1 p6)), .val (.ref b12), .val (.int (((((val6 (1 : Int32) (val1 p2)) + (val6 (1 : Int32) (val1 p3))) + (val6 (0 : Int32) (val1 p4))) + (val6 (0 : Int32) (val1 p5))) + (val6 (0 : Int32) (val1 p6)))), .val (.int (Int32.ofNat ([(val1 p2), (val1 p3)] : List Int32).length - ((2 : Int32) * own_cnt ([(val1 p2), (val1 p3)] : List Int32))))] [(.int (own_n p1)), (.int (Int32.ofNat ([(val1 p2), (val1 p3)] : List Int32).length - ((2 : Int32) * own_cnt ([(val1 p2), (val1 p3)] : List Int32))))])) _
    refine XS.iconst X19.here hx rfl (hb hby at_164) ?_
    show Steps p.tables e below (T19.setTop (mkF m 165 #[.val (.int p1), .val (.int p2), .val (.int p3), .val (.int p4), .val (.int p5), .val (.int p6), .val (.int (own_n p1)), .val (.int (val1 p2)), .val (.int (val1 p3)), .val (.int (val1 p4)), .val (.int (val1 p5)), .val (.int (val1 p6)), .val (.ref b12), .val (.int (((((val6 (1 : Int32) (val1 p2)) + (val6 (1 : Int32) (val1 p3))) + (val6 (0 : Int32) (val1 p4))) + (val6 (0 : Int32) (val1 p5))) + (val6 (0 : Int32) (val1 p6)))), .val (.int (Int32.ofNat ([(val1 p2), (val1 p3)] : List Int32).length - ((2 : Int32) * own_cnt ([(val1 p2), (val1 p3)] : List Int32))))] [(.int (2 : Int32)), (.int (own_n p1)), (.int (Int32.ofNat ([(val1 p2), (val1 p3)] : List Int32).length - ((2 : Int32) * own_cnt ([(val1 p2), (val1 p3)] : List Int32))))])) _
    refine XS.iload X19.here hx rfl (hb hby at_165) rfl ?_
    show Steps p.tables e below (T19.setTop (mkF m 167 #[.val (.int p1), .val (.int p2), .val (.int p3), .val (.int p4), .val (.int p5), .val (.int p6), .val (.int (own_n p1)), .val (.int (val1 p2)), .val (.int (val1 p3)), .val (.int (val1 p4)), .val (.int (val1 p5)), .val (.int (val1 p6)), .val (.ref b12), .val (.int (((((val6 (1 : Int32) (val1 p2)) + (val6 (1 : Int32) (val1 p3))) + (val6 (0 : Int32) (val1 p4))) + (val6 (0 : Int32) (val1 p5))) + (val6 (0 : Int32) (val1 p6)))), .val (.int (Int32.ofNat ([(val1 p2), (val1 p3)] : List Int32).length - ((2 : Int32) * own_cnt ([(val1 p2), (val1 p3)] : List Int32))))] [(.int (((((val6 (1 : Int32) (val1 p2)) + (val6 (1 : Int32) (val1 p3))) + (val6 (0 : Int32) (val1 p4))) + (val6 (0 : Int32) (val1 p5))) + (val6 (0 : Int32) (val1 p6)))), (.int (2 : Int32)), (.int (own_n p1)), (.int (Int32.ofNat ([(val1 p2), (val1 p3)] : List Int32).length - ((2 : Int32) * own_cnt ([(val1 p2), (val1 p3)] : List Int32))))])) _
    refine XS.imul X19.here hx rfl (hb hby at_167) rfl ?_
    show Steps p.tables e below (T19.setTop (mkF m 168 #[.val (.int p1), .val (.int p2), .val (.int p3), .val (.int p4), .val (.int p5), .val (.int p6), .val (.int (own_n p1)), .val (.int (val1 p2)), .val (.int (val1 p3)), .val (.int (val1 p4)), .val (.int (val1 p5)), .val (.int (val1 p6)), .val (.ref b12), .val (.int (((((val6 (1 : Int32) (val1 p2)) + (val6 (1 : Int32) (val1 p3))) + (val6 (0 : Int32) (val1 p4))) + (val6 (0 : Int32) (val1 p5))) + (val6 (0 : Int32) (val1 p6)))), .val (.int (Int32.ofNat ([(val1 p2), (val1 p3)] : List Int32).length - ((2 : Int32) * own_cnt ([(val1 p2), (val1 p3)] : List Int32))))] [(.int ((2 : Int32) * (((((val6 (1 : Int32) (val1 p2)) + (val6 (1 : Int32) (val1 p3))) + (val6 (0 : Int32) (val1 p4))) + (val6 (0 : Int32) (val1 p5))) + (val6 (0 : Int32) (val1 p6))))), (.int (own_n p1)), (.int (Int32.ofNat ([(val1 p2), (val1 p3)] : List Int32).length - ((2 : Int32) * own_cnt ([(val1 p2), (val1 p3)] : List Int32))))])) _
    refine XS.isub X19.here hx rfl (hb hby at_168) rfl ?_
    show Steps p.tables e below (T19.setTop (mkF m 169 #[.val (.int p1), .val (.int p2), .val (.int p3), .val (.int p4), .val (.int p5), .val (.int p6), .val (.int (own_n p1)), .val (.int (val1 p2)), .val (.int (val1 p3)), .val (.int (val1 p4)), .val (.int (val1 p5)), .val (.int (val1 p6)), .val (.ref b12), .val (.int (((((val6 (1 : Int32) (val1 p2)) + (val6 (1 : Int32) (val1 p3))) + (val6 (0 : Int32) (val1 p4))) + (val6 (0 : Int32) (val1 p5))) + (val6 (0 : Int32) (val1 p6)))), .val (.int (Int32.ofNat ([(val1 p2), (val1 p3)] : List Int32).length - ((2 : Int32) * own_cnt ([(val1 p2), (val1 p3)] : List Int32))))] [(.int ((own_n p1) - ((2 : Int32) * (((((val6 (1 : Int32) (val1 p2)) + (val6 (1 : Int32) (val1 p3))) + (val6 (0 : Int32) (val1 p4))) + (val6 (0 : Int32) (val1 p5))) + (val6 (0 : Int32) (val1 p6)))))), (.int (Int32.ofNat ([(val1 p2), (val1 p3)] : List Int32).length - ((2 : Int32) * own_cnt ([(val1 p2), (val1 p3)] : List Int32))))])) _
    refine XS.icmpNo X19.here hx rfl (hb hby at_169) rfl (teq (own_fin2 p1 p2 p3 p4 p5 p6 hn : (Int32.ofNat ([(val1 p2), (val1 p3)] : List Int32).length - ((2 : Int32) * own_cnt ([(val1 p2), (val1 p3)] : List Int32))) = ((own_n p1) - ((2 : Int32) * (((((val6 (1 : Int32) (val1 p2)) + (val6 (1 : Int32) (val1 p3))) + (val6 (0 : Int32) (val1 p4))) + (val6 (0 : Int32) (val1 p5))) + (val6 (0 : Int32) (val1 p6))))))).2 ?_
    show Steps p.tables e below (T19.setTop (mkF m 172 #[.val (.int p1), .val (.int p2), .val (.int p3), .val (.int p4), .val (.int p5), .val (.int p6), .val (.int (own_n p1)), .val (.int (val1 p2)), .val (.int (val1 p3)), .val (.int (val1 p4)), .val (.int (val1 p5)), .val (.int (val1 p6)), .val (.ref b12), .val (.int (((((val6 (1 : Int32) (val1 p2)) + (val6 (1 : Int32) (val1 p3))) + (val6 (0 : Int32) (val1 p4))) + (val6 (0 : Int32) (val1 p5))) + (val6 (0 : Int32) (val1 p6)))), .val (.int (Int32.ofNat ([(val1 p2), (val1 p3)] : List Int32).length - ((2 : Int32) * own_cnt ([(val1 p2), (val1 p3)] : List Int32))))] [])) _
    refine XS.iconst X19.here hx rfl (hb hby at_172) ?_
    show Steps p.tables e below (T19.setTop (mkF m 173 #[.val (.int p1), .val (.int p2), .val (.int p3), .val (.int p4), .val (.int p5), .val (.int p6), .val (.int (own_n p1)), .val (.int (val1 p2)), .val (.int (val1 p3)), .val (.int (val1 p4)), .val (.int (val1 p5)), .val (.int (val1 p6)), .val (.ref b12), .val (.int (((((val6 (1 : Int32) (val1 p2)) + (val6 (1 : Int32) (val1 p3))) + (val6 (0 : Int32) (val1 p4))) + (val6 (0 : Int32) (val1 p5))) + (val6 (0 : Int32) (val1 p6)))), .val (.int (Int32.ofNat ([(val1 p2), (val1 p3)] : List Int32).length - ((2 : Int32) * own_cnt ([(val1 p2), (val1 p3)] : List Int32))))] [(.int (1 : Int32))])) _
    refine XS.goto X19.here hx rfl (pc0 := 173) (pc' := 177) rfl (hb hby at_173) (by decide) (by decide) ?_
    show Steps p.tables e below (T19.setTop (mkF m 177 #[.val (.int p1), .val (.int p2), .val (.int p3), .val (.int p4), .val (.int p5), .val (.int p6), .val (.int (own_n p1)), .val (.int (val1 p2)), .val (.int (val1 p3)), .val (.int (val1 p4)), .val (.int (val1 p5)), .val (.int (val1 p6)), .val (.ref b12), .val (.int (((((val6 (1 : Int32) (val1 p2)) + (val6 (1 : Int32) (val1 p3))) + (val6 (0 : Int32) (val1 p4))) + (val6 (0 : Int32) (val1 p5))) + (val6 (0 : Int32) (val1 p6)))), .val (.int (Int32.ofNat ([(val1 p2), (val1 p3)] : List Int32).length - ((2 : Int32) * own_cnt ([(val1 p2), (val1 p3)] : List Int32))))] [(.int (1 : Int32))])) _
    exact retN X19 hx (t := .boolean) Bd.returns (by simp) (hb hby at_177) hr
  · show Q0 Z p1 p2 p3 p4 p5 p6 h0 n0 _ T19.heap _
    exact ⟨rfl, N19⟩
theorem own_all3 (p2 p3 p4 : Int32) : ∀ c ∈ ([(val1 p2), (val1 p3), (val1 p4)] : List Int32), ¬ c < 0 ∧ ¬ (255 : Int32) < c := by
  intro c hc
  simp only [List.mem_cons, List.not_mem_nil, or_false] at hc
  rcases hc with rfl | rfl | rfl <;> exact own_rng _
theorem own_fin3 (p1 p2 p3 p4 p5 p6 : Int32) (hn : own_n p1 = (3 : Int32)) : (Int32.ofNat ([(val1 p2), (val1 p3), (val1 p4)] : List Int32).length - ((2 : Int32) * own_cnt ([(val1 p2), (val1 p3), (val1 p4)] : List Int32))) = (own_n p1 - ((2 : Int32) * (((((val6 (1 : Int32) (val1 p2)) + (val6 (1 : Int32) (val1 p3))) + (val6 (1 : Int32) (val1 p4))) + (val6 (0 : Int32) (val1 p5))) + (val6 (0 : Int32) (val1 p6))))) := by
  have e : own_cnt ([(val1 p2), (val1 p3), (val1 p4)] : List Int32) = (((((val6 (1 : Int32) (val1 p2)) + (val6 (1 : Int32) (val1 p3))) + (val6 (1 : Int32) (val1 p4))) + (val6 (0 : Int32) (val1 p5))) + (val6 (0 : Int32) (val1 p6))) := by
    simp only [own_p1, own_p0, own_cnt, Int32.add_zero, Int32.zero_add, Int32.add_assoc]
  rw [e, hn]; rfl

set_option maxRecDepth 65536 in
set_option maxHeartbeats 40000000 in
theorem rm0_3 (l : Launch) (Z : State) (a0 : Array Value) (hw : ∀ d ∈ tables_1, d.before a0 Z = true) (ws : List Jvm.Cond) (p1 : Int32) (p2 : Int32) (p3 : Int32) (p4 : Int32) (p5 : Int32) (p6 : Int32) (h0 : Heap) (n0 : Nat) (Z0 : n0 ≤ h0.size) (G1 : Int32) (O2 : Sta Z Z.heap "java/lang/String" "COMPACT_STRINGS" "Z" (.int G1)) (P5 : ¬ (G1 = (0 : Int32))) (X00 : Old Z n0 h0) (G3 : Value) (O4 : Sta Z Z.heap "jdk/internal/util/Preconditions" "SIOOBE_FORMATTER" "Ljava/util/function/BiFunction;" G3) (rG3 : G3.isRef = true) (hn : own_n p1 = (3 : Int32)) :
    MetFree l x (head1 (Jvm.Cond.code x code maxLocals ret :: ws) room_1) (fun a U => a = #[(.int p1), (.int p2), (.int p3), (.int p4), (.int p5), (.int p6)] ∧ Z.Warmed39 U.vm ∧ U.heap = h0) (fun _ _ _ _ _ => True) (fun _ U o U' => ∃ v L, o = .returned v ∧ Q0 Z p1 p2 p3 p4 p5 p6 h0 n0 v U'.heap L ∧ FrameEnd U o U' L room_1.cells room_1.slots) := by
  refine MetFree.of_bodySF (plainFor_of_name pn_0) hisR ?_
  intro p e s m args below meth c s₁ Bd hml0 hP hK
  obtain ⟨rfl, hZ, hh⟩ := hP
  have hx := Bd.exec
  have hby := Bd.bytes
  have hml : c.maxLocals = 15 := hml0
  have hown : s.vm.findClass "com/example/harburg/harburg/epc/FieldCharacterCountPinLaw" = some m.cls := findClass_of_methodNamed Bd.named
  have hnm := (name_of_methodNamed Bd.named Bd.method).1
  have X0 : Stand p l e room_1 s m #[(.int p1), (.int p2), (.int p3), (.int p4), (.int p5), (.int p6)] below meth c s₁ [] 0 0 := Stand.of_body Bd
  have e0 : s₁.heap = h0 := by rw [← hh, Bd.state]; rfl
  have N0 := Fr.nil n0
  have pre0 : ∀ t, Steps p.tables e below (s₁.setTop (mkF m 0 #[.val (.int p1), .val (.int p2), .val (.int p3), .val (.int p4), .val (.int p5), .val (.int p6), .unset, .unset, .unset, .unset, .unset, .unset, .unset, .unset, .unset] [])) t → Steps p.tables e below (s₁.setTop (entryFrame m #[(.int p1), (.int p2), (.int p3), (.int p4), (.int p5), (.int p6)] maxLocals)) t := fun t k => castTop (ef_0 m p1 p2 p3 p4 p5 p6) k
  obtain ⟨_, _, ⟨T7, L7, k7, n7⟩, -, X7, ⟨Lc7, hQ7, l7, y7, z7⟩, st7⟩ := Jvm.LawKit.callS X0 hx (y := (⟨"com/example/harburg/harburg/epc/FieldCharacterCountPinLaw", "draw", "(I)C"⟩ : MethodName)) hown (mvT hZ (hw _ (List.mem_of_getElem? (i := 1) rfl))) (mvT hZ (hw _ (List.mem_of_getElem? (i := 2) rfl))) (mvT hZ (hw _ (List.mem_of_getElem? (i := 3) rfl))) (mvT hZ (hw _ (List.mem_of_getElem? (i := 4) rfl))) (by decide) (backOf (W := 0) (rm1 l Z a0 hw [] p2 h0 n0 Z0) hZ (hw _ (List.mem_of_getElem? (i := 4) rfl)) (hw _ (List.mem_of_getElem? (i := 3) rfl)) (by decide) (by decide)) (g := (mkF m 10 #[.val (.int p1), .val (.int p2), .val (.int p3), .val (.int p4), .val (.int p5), .val (.int p6), .val (.int (own_n p1)), .unset, .unset, .unset, .unset, .unset, .unset, .unset, .unset] [(.int p2)])) rfl (by rw [hml]; rfl) (argsL := [(.int p2)]) (rest := []) (lenOf pd_0_0 rfl) rfl (by show 2 * 0 + _ ≤ _; exact Nat.le_of_eq rfl) (hb hby at_10) (fun _ _ => ⟨rfl, e0, (by decide : 0 + 0 ≤ _), (by decide : 0 + 0 ≤ _)⟩)
  dsimp only [Pt.U, Pt.locs, Pt.cells, Pt.slots] at X7 l7 y7 z7 st7 hQ7
  subst l7 y7 z7
  obtain ⟨rfl, N7q, w7⟩ := hQ7
  have u7 : T7.heap = h0 := w7
  have N7 := Fr.app N0 N7q
  obtain ⟨_, _, ⟨T8, L8, k8, n8⟩, -, X8, ⟨Lc8, hQ8, l8, y8, z8⟩, st8⟩ := Jvm.LawKit.callS X7 hx (y := (⟨"com/example/harburg/harburg/epc/FieldCharacterCountPinLaw", "draw", "(I)C"⟩ : MethodName)) hown (mvT hZ (hw _ (List.mem_of_getElem? (i := 1) rfl))) (mvT hZ (hw _ (List.mem_of_getElem? (i := 2) rfl))) (mvT hZ (hw _ (List.mem_of_getElem? (i := 3) rfl))) (mvT hZ (hw _ (List.mem_of_getElem? (i := 4) rfl))) (by decide) (backOf (W := 0) (rm1 l Z a0 hw [] p3 T7.heap n0 (by rw [u7]; exact Z0)) hZ (hw _ (List.mem_of_getElem? (i := 4) rfl)) (hw _ (List.mem_of_getElem? (i := 3) rfl)) (by decide) (by decide)) (g := (mkF m 16 #[.val (.int p1), .val (.int p2), .val (.int p3), .val (.int p4), .val (.int p5), .val (.int p6), .val (.int (own_n p1)), .val (.int (val1 p2)), .unset, .unset, .unset, .unset, .unset, .unset, .unset] [(.int p3)])) rfl (by rw [hml]; rfl) (argsL := [(.int p3)]) (rest := []) (lenOf pd_0_0 rfl) rfl (by show 2 * 0 + _ ≤ _; exact Nat.le_of_eq rfl) (hb hby at_16) (fun _ _ => ⟨rfl, rfl, (by decide : 0 + 0 ≤ _), (by decide : 0 + 0 ≤ _)⟩)
  dsimp only [Pt.U, Pt.locs, Pt.cells, Pt.slots] at X8 l8 y8 z8 st8 hQ8
  subst l8 y8 z8
  obtain ⟨rfl, N8q, w8⟩ := hQ8
  have u8 : T8.heap = h0 := w8.trans u7
  have N8 := Fr.app N7 N8q
  obtain ⟨_, _, ⟨T9, L9, k9, n9⟩, -, X9, ⟨Lc9, hQ9, l9, y9, z9⟩, st9⟩ := Jvm.LawKit.callS X8 hx (y := (⟨"com/example/harburg/harburg/epc/FieldCharacterCountPinLaw", "draw", "(I)C"⟩ : MethodName)) hown (mvT hZ (hw _ (List.mem_of_getElem? (i := 1) rfl))) (mvT hZ (hw _ (List.mem_of_getElem? (i := 2) rfl))) (mvT hZ (hw _ (List.mem_of_getElem? (i := 3) rfl))) (mvT hZ (hw _ (List.mem_of_getElem? (i := 4) rfl))) (by decide) (backOf (W := 0) (rm1 l Z a0 hw [] p4 T8.heap n0 (by rw [u8]; exact Z0)) hZ (hw _ (List.mem_of_getElem? (i := 4) rfl)) (hw _ (List.mem_of_getElem? (i := 3) rfl)) (by decide) (by decide)) (g := (mkF m 22 #[.val (.int p1), .val (.int p2), .val (.int p3), .val (.int p4), .val (.int p5), .val (.int p6), .val (.int (own_n p1)), .val (.int (val1 p2)), .val (.int (val1 p3)), .unset, .unset, .unset, .unset, .unset, .unset] [(.int p4)])) rfl (by rw [hml]; rfl) (argsL := [(.int p4)]) (rest := []) (lenOf pd_0_0 rfl) rfl (by show 2 * 0 + _ ≤ _; exact Nat.le_of_eq rfl) (hb hby at_22) (fun _ _ => ⟨rfl, rfl, (by decide : 0 + 0 ≤ _), (by decide : 0 + 0 ≤ _)⟩)
  dsimp only [Pt.U, Pt.locs, Pt.cells, Pt.slots] at X9 l9 y9 z9 st9 hQ9
  subst l9 y9 z9
  obtain ⟨rfl, N9q, w9⟩ := hQ9
  have u9 : T9.heap = h0 := w9.trans u8
  have N9 := Fr.app N8 N9q
  obtain ⟨_, _, ⟨T10, L10, k10, n10⟩, -, X10, ⟨Lc10, hQ10, l10, y10, z10⟩, st10⟩ := Jvm.LawKit.callS X9 hx (y := (⟨"com/example/harburg/harburg/epc/FieldCharacterCountPinLaw", "draw", "(I)C"⟩ : MethodName)) hown (mvT hZ (hw _ (List.mem_of_getElem? (i := 1) rfl))) (mvT hZ (hw _ (List.mem_of_getElem? (i := 2) rfl))) (mvT hZ (hw _ (List.mem_of_getElem? (i := 3) rfl))) (mvT hZ (hw _ (List.mem_of_getElem? (i := 4) rfl))) (by decide) (backOf (W := 0) (rm1 l Z a0 hw [] p5 T9.heap n0 (by rw [u9]; exact Z0)) hZ (hw _ (List.mem_of_getElem? (i := 4) rfl)) (hw _ (List.mem_of_getElem? (i := 3) rfl)) (by decide) (by decide)) (g := (mkF m 29 #[.val (.int p1), .val (.int p2), .val (.int p3), .val (.int p4), .val (.int p5), .val (.int p6), .val (.int (own_n p1)), .val (.int (val1 p2)), .val (.int (val1 p3)), .val (.int (val1 p4)), .unset, .unset, .unset, .unset, .unset] [(.int p5)])) rfl (by rw [hml]; rfl) (argsL := [(.int p5)]) (rest := []) (lenOf pd_0_0 rfl) rfl (by show 2 * 0 + _ ≤ _; exact Nat.le_of_eq rfl) (hb hby at_29) (fun _ _ => ⟨rfl, rfl, (by decide : 0 + 0 ≤ _), (by decide : 0 + 0 ≤ _)⟩)
  dsimp only [Pt.U, Pt.locs, Pt.cells, Pt.slots] at X10 l10 y10 z10 st10 hQ10
  subst l10 y10 z10
  obtain ⟨rfl, N10q, w10⟩ := hQ10
  have u10 : T10.heap = h0 := w10.trans u9
  have N10 := Fr.app N9 N10q
  obtain ⟨_, _, ⟨T11, L11, k11, n11⟩, -, X11, ⟨Lc11, hQ11, l11, y11, z11⟩, st11⟩ := Jvm.LawKit.callS X10 hx (y := (⟨"com/example/harburg/harburg/epc/FieldCharacterCountPinLaw", "draw", "(I)C"⟩ : MethodName)) hown (mvT hZ (hw _ (List.mem_of_getElem? (i := 1) rfl))) (mvT hZ (hw _ (List.mem_of_getElem? (i := 2) rfl))) (mvT hZ (hw _ (List.mem_of_getElem? (i := 3) rfl))) (mvT hZ (hw _ (List.mem_of_getElem? (i := 4) rfl))) (by decide) (backOf (W := 0) (rm1 l Z a0 hw [] p6 T10.heap n0 (by rw [u10]; exact Z0)) hZ (hw _ (List.mem_of_getElem? (i := 4) rfl)) (hw _ (List.mem_of_getElem? (i := 3) rfl)) (by decide) (by decide)) (g := (mkF m 36 #[.val (.int p1), .val (.int p2), .val (.int p3), .val (.int p4), .val (.int p5), .val (.int p6), .val (.int (own_n p1)), .val (.int (val1 p2)), .val (.int (val1 p3)), .val (.int (val1 p4)), .val (.int (val1 p5)), .unset, .unset, .unset, .unset] [(.int p6)])) rfl (by rw [hml]; rfl) (argsL := [(.int p6)]) (rest := []) (lenOf pd_0_0 rfl) rfl (by show 2 * 0 + _ ≤ _; exact Nat.le_of_eq rfl) (hb hby at_36) (fun _ _ => ⟨rfl, rfl, (by decide : 0 + 0 ≤ _), (by decide : 0 + 0 ≤ _)⟩)
  dsimp only [Pt.U, Pt.locs, Pt.cells, Pt.slots] at X11 l11 y11 z11 st11 hQ11
  subst l11 y11 z11
  obtain ⟨rfl, N11q, w11⟩ := hQ11
  have u11 : T11.heap = h0 := w11.trans u10
  have N11 := Fr.app N10 N11q
  obtain ⟨_, _, ⟨T12, L12, k12, n12⟩, -, X12, ⟨Lc12, hQ12, l12, y12, z12⟩, st12⟩ := Jvm.LawKit.callS X11 hx (y := (⟨"com/example/harburg/harburg/epc/FieldCharacterCountPinLaw", "make", "(ICCCCC)Ljava/lang/String;"⟩ : MethodName)) hown (mvT hZ (hw _ (List.mem_of_getElem? (i := 5) rfl))) (mvT hZ (hw _ (List.mem_of_getElem? (i := 6) rfl))) (mvT hZ (hw _ (List.mem_of_getElem? (i := 3) rfl))) (mvT hZ (hw _ (List.mem_of_getElem? (i := 7) rfl))) (by decide) (backOf (W := 0) (rm2_3 l Z a0 hw [] (own_n p1) (val1 p2) (val1 p3) (val1 p4) (val1 p5) (val1 p6) T11.heap n0 (by rw [u11]; exact Z0) G1 O2 P5 (by rw [u11]; exact X00) (own_all3 p2 p3 p4) (by rw [hn]; decide) (by rw [hn]; decide) (by rw [hn]; decide) hn) hZ (hw _ (List.mem_of_getElem? (i := 7) rfl)) (hw _ (List.mem_of_getElem? (i := 3) rfl)) (by decide) (by decide)) (g := (mkF m 53 #[.val (.int p1), .val (.int p2), .val (.int p3), .val (.int p4), .val (.int p5), .val (.int p6), .val (.int (own_n p1)), .val (.int (val1 p2)), .val (.int (val1 p3)), .val (.int (val1 p4)), .val (.int (val1 p5)), .val (.int (val1 p6)), .unset, .unset, .unset] [(.int (val1 p6)), (.int (val1 p5)), (.int (val1 p4)), (.int (val1 p3)), (.int (val1 p2)), (.int (own_n p1))])) rfl (by rw [hml]; rfl) (argsL := [(.int (own_n p1)), (.int (val1 p2)), (.int (val1 p3)), (.int (val1 p4)), (.int (val1 p5)), (.int (val1 p6))]) (rest := []) (lenOf pd_0_1 rfl) rfl (by show 2 * 0 + _ ≤ _; exact Nat.le_of_eq rfl) (hb hby at_53) (fun _ _ => ⟨rfl, rfl, (by decide : 0 + 3 ≤ _), (by decide : 0 + 10 ≤ _)⟩)
  dsimp only [Pt.U, Pt.locs, Pt.cells, Pt.slots] at X12 l12 y12 z12 st12 hQ12
  subst l12 y12 z12
  obtain ⟨b12, rfl, N12q, K12q, S12⟩ := hQ12
  have K12 : Keep h0 T12.heap [] := by have q := K12q; rw [u11] at q; exact q
  have z12 : n0 ≤ T12.heap.size := Nat.le_trans Z0 K12.1
  have XO12 : Old Z n0 T12.heap := X00.keep K12 all0
  have N12 := Fr.app N11 N12q
  obtain ⟨_, _, ⟨T13, L13, k13, n13⟩, -, X13, ⟨Lc13, hQ13, l13, y13, z13⟩, st13⟩ := Jvm.LawKit.callS X12 hx (y := (⟨"com/example/harburg/harburg/epc/FieldCharacterCountPinLaw", "pct", "(ZC)I"⟩ : MethodName)) hown (mvT hZ (hw _ (List.mem_of_getElem? (i := 30) rfl))) (mvT hZ (hw _ (List.mem_of_getElem? (i := 31) rfl))) (mvT hZ (hw _ (List.mem_of_getElem? (i := 3) rfl))) (mvT hZ (hw _ (List.mem_of_getElem? (i := 32) rfl))) (by decide) (backOf (W := 0) (rm6 l Z a0 hw [] (1 : Int32) (val1 p2) T12.heap n0 z12) hZ (hw _ (List.mem_of_getElem? (i := 32) rfl)) (hw _ (List.mem_of_getElem? (i := 3) rfl)) (by decide) (by decide)) (g := (mkF m 70 #[.val (.int p1), .val (.int p2), .val (.int p3), .val (.int p4), .val (.int p5), .val (.int p6), .val (.int (own_n p1)), .val (.int (val1 p2)), .val (.int (val1 p3)), .val (.int (val1 p4)), .val (.int (val1 p5)), .val (.int (val1 p6)), .val (.ref b12), .unset, .unset] [(.int (val1 p2)), (.int (1 : Int32))])) rfl (by rw [hml]; rfl) (argsL := [(.int (1 : Int32)), (.int (val1 p2))]) (rest := []) (lenOf pd_0_5 rfl) rfl (by show 2 * 0 + _ ≤ _; exact Nat.le_of_eq rfl) (hb hby at_70) (fun _ _ => ⟨rfl, rfl, (by decide : 0 + 3 ≤ _), (by decide : 0 + 10 ≤ _)⟩)
  dsimp only [Pt.U, Pt.locs, Pt.cells, Pt.slots] at X13 l13 y13 z13 st13 hQ13
  subst l13 y13 z13
  obtain ⟨rfl, N13q, w13⟩ := hQ13
  have u13 : T13.heap = T12.heap := w13
  have N13 := Fr.app N12 N13q
  obtain ⟨_, _, ⟨T14, L14, k14, n14⟩, -, X14, ⟨Lc14, hQ14, l14, y14, z14⟩, st14⟩ := Jvm.LawKit.callS X13 hx (y := (⟨"com/example/harburg/harburg/epc/FieldCharacterCountPinLaw", "pct", "(ZC)I"⟩ : MethodName)) hown (mvT hZ (hw _ (List.mem_of_getElem? (i := 30) rfl))) (mvT hZ (hw _ (List.mem_of_getElem? (i := 31) rfl))) (mvT hZ (hw _ (List.mem_of_getElem? (i := 3) rfl))) (mvT hZ (hw _ (List.mem_of_getElem? (i := 32) rfl))) (by decide) (backOf (W := 1) (rm6 l Z a0 hw [] (1 : Int32) (val1 p3) T13.heap n0 (by rw [u13]; exact z12)) hZ (hw _ (List.mem_of_getElem? (i := 32) rfl)) (hw _ (List.mem_of_getElem? (i := 3) rfl)) (by decide) (by decide)) (g := (mkF m 86 #[.val (.int p1), .val (.int p2), .val (.int p3), .val (.int p4), .val (.int p5), .val (.int p6), .val (.int (own_n p1)), .val (.int (val1 p2)), .val (.int (val1 p3)), .val (.int (val1 p4)), .val (.int (val1 p5)), .val (.int (val1 p6)), .val (.ref b12), .unset, .unset] [(.int (val1 p3)), (.int (1 : Int32)), (.int (val6 (1 : Int32) (val1 p2)))])) rfl (by rw [hml]; rfl) (argsL := [(.int (1 : Int32)), (.int (val1 p3))]) (rest := [(.int (val6 (1 : Int32) (val1 p2)))]) (lenOf pd_0_5 rfl) rfl (by show 2 * 0 + _ ≤ _; exact Nat.le_of_eq rfl) (hb hby at_86) (fun _ _ => ⟨rfl, rfl, (by decide : 0 + 3 ≤ _), (by decide : 0 + 10 ≤ _)⟩)
  dsimp only [Pt.U, Pt.locs, Pt.cells, Pt.slots] at X14 l14 y14 z14 st14 hQ14
  subst l14 y14 z14
  obtain ⟨rfl, N14q, w14⟩ := hQ14
  have u14 : T14.heap = T12.heap := w14.trans u13
  have N14 := Fr.app N13 N14q
  obtain ⟨_, _, ⟨T15, L15, k15, n15⟩, -, X15, ⟨Lc15, hQ15, l15, y15, z15⟩, st15⟩ := Jvm.LawKit.callS X14 hx (y := (⟨"com/example/harburg/harburg/epc/FieldCharacterCountPinLaw", "pct", "(ZC)I"⟩ : MethodName)) hown (mvT hZ (hw _ (List.mem_of_getElem? (i := 30) rfl))) (mvT hZ (hw _ (List.mem_of_getElem? (i := 31) rfl))) (mvT hZ (hw _ (List.mem_of_getElem? (i := 3) rfl))) (mvT hZ (hw _ (List.mem_of_getElem? (i := 32) rfl))) (by decide) (backOf (W := 1) (rm6 l Z a0 hw [] (1 : Int32) (val1 p4) T14.heap n0 (by rw [u14]; exact z12)) hZ (hw _ (List.mem_of_getElem? (i := 32) rfl)) (hw _ (List.mem_of_getElem? (i := 3) rfl)) (by decide) (by decide)) (g := (mkF m 103 #[.val (.int p1), .val (.int p2), .val (.int p3), .val (.int p4), .val (.int p5), .val (.int p6), .val (.int (own_n p1)), .val (.int (val1 p2)), .val (.int (val1 p3)), .val (.int (val1 p4)), .val (.int (val1 p5)), .val (.int (val1 p6)), .val (.ref b12), .unset, .unset] [(.int (val1 p4)), (.int (1 : Int32)), (.int ((val6 (1 : Int32) (val1 p2)) + (val6 (1 : Int32) (val1 p3))))])) rfl (by rw [hml]; rfl) (argsL := [(.int (1 : Int32)), (.int (val1 p4))]) (rest := [(.int ((val6 (1 : Int32) (val1 p2)) + (val6 (1 : Int32) (val1 p3))))]) (lenOf pd_0_5 rfl) rfl (by show 2 * 0 + _ ≤ _; exact Nat.le_of_eq rfl) (hb hby at_103) (fun _ _ => ⟨rfl, rfl, (by decide : 0 + 3 ≤ _), (by decide : 0 + 10 ≤ _)⟩)
  dsimp only [Pt.U, Pt.locs, Pt.cells, Pt.slots] at X15 l15 y15 z15 st15 hQ15
  subst l15 y15 z15
  obtain ⟨rfl, N15q, w15⟩ := hQ15
  have u15 : T15.heap = T12.heap := w15.trans u14
  have N15 := Fr.app N14 N15q
  obtain ⟨_, _, ⟨T16, L16, k16, n16⟩, -, X16, ⟨Lc16, hQ16, l16, y16, z16⟩, st16⟩ := Jvm.LawKit.callS X15 hx (y := (⟨"com/example/harburg/harburg/epc/FieldCharacterCountPinLaw", "pct", "(ZC)I"⟩ : MethodName)) hown (mvT hZ (hw _ (List.mem_of_getElem? (i := 30) rfl))) (mvT hZ (hw _ (List.mem_of_getElem? (i := 31) rfl))) (mvT hZ (hw _ (List.mem_of_getElem? (i := 3) rfl))) (mvT hZ (hw _ (List.mem_of_getElem? (i := 32) rfl))) (by decide) (backOf (W := 1) (rm6 l Z a0 hw [] (0 : Int32) (val1 p5) T15.heap n0 (by rw [u15]; exact z12)) hZ (hw _ (List.mem_of_getElem? (i := 32) rfl)) (hw _ (List.mem_of_getElem? (i := 3) rfl)) (by decide) (by decide)) (g := (mkF m 120 #[.val (.int p1), .val (.int p2), .val (.int p3), .val (.int p4), .val (.int p5), .val (.int p6), .val (.int (own_n p1)), .val (.int (val1 p2)), .val (.int (val1 p3)), .val (.int (val1 p4)), .val (.int (val1 p5)), .val (.int (val1 p6)), .val (.ref b12), .unset, .unset] [(.int (val1 p5)), (.int (0 : Int32)), (.int (((val6 (1 : Int32) (val1 p2)) + (val6 (1 : Int32) (val1 p3))) + (val6 (1 : Int32) (val1 p4))))])) rfl (by rw [hml]; rfl) (argsL := [(.int (0 : Int32)), (.int (val1 p5))]) (rest := [(.int (((val6 (1 : Int32) (val1 p2)) + (val6 (1 : Int32) (val1 p3))) + (val6 (1 : Int32) (val1 p4))))]) (lenOf pd_0_5 rfl) rfl (by show 2 * 0 + _ ≤ _; exact Nat.le_of_eq rfl) (hb hby at_120) (fun _ _ => ⟨rfl, rfl, (by decide : 0 + 3 ≤ _), (by decide : 0 + 10 ≤ _)⟩)
  dsimp only [Pt.U, Pt.locs, Pt.cells, Pt.slots] at X16 l16 y16 z16 st16 hQ16
  subst l16 y16 z16
  obtain ⟨rfl, N16q, w16⟩ := hQ16
  have u16 : T16.heap = T12.heap := w16.trans u15
  have N16 := Fr.app N15 N16q
  obtain ⟨_, _, ⟨T17, L17, k17, n17⟩, -, X17, ⟨Lc17, hQ17, l17, y17, z17⟩, st17⟩ := Jvm.LawKit.callS X16 hx (y := (⟨"com/example/harburg/harburg/epc/FieldCharacterCountPinLaw", "pct", "(ZC)I"⟩ : MethodName)) hown (mvT hZ (hw _ (List.mem_of_getElem? (i := 30) rfl))) (mvT hZ (hw _ (List.mem_of_getElem? (i := 31) rfl))) (mvT hZ (hw _ (List.mem_of_getElem? (i := 3) rfl))) (mvT hZ (hw _ (List.mem_of_getElem? (i := 32) rfl))) (by decide) (backOf (W := 1) (rm6 l Z a0 hw [] (0 : Int32) (val1 p6) T16.heap n0 (by rw [u16]; exact z12)) hZ (hw _ (List.mem_of_getElem? (i := 32) rfl)) (hw _ (List.mem_of_getElem? (i := 3) rfl)) (by decide) (by decide)) (g := (mkF m 137 #[.val (.int p1), .val (.int p2), .val (.int p3), .val (.int p4), .val (.int p5), .val (.int p6), .val (.int (own_n p1)), .val (.int (val1 p2)), .val (.int (val1 p3)), .val (.int (val1 p4)), .val (.int (val1 p5)), .val (.int (val1 p6)), .val (.ref b12), .unset, .unset] [(.int (val1 p6)), (.int (0 : Int32)), (.int ((((val6 (1 : Int32) (val1 p2)) + (val6 (1 : Int32) (val1 p3))) + (val6 (1 : Int32) (val1 p4))) + (val6 (0 : Int32) (val1 p5))))])) rfl (by rw [hml]; rfl) (argsL := [(.int (0 : Int32)), (.int (val1 p6))]) (rest := [(.int ((((val6 (1 : Int32) (val1 p2)) + (val6 (1 : Int32) (val1 p3))) + (val6 (1 : Int32) (val1 p4))) + (val6 (0 : Int32) (val1 p5))))]) (lenOf pd_0_5 rfl) rfl (by show 2 * 0 + _ ≤ _; exact Nat.le_of_eq rfl) (hb hby at_137) (fun _ _ => ⟨rfl, rfl, (by decide : 0 + 3 ≤ _), (by decide : 0 + 10 ≤ _)⟩)
  dsimp only [Pt.U, Pt.locs, Pt.cells, Pt.slots] at X17 l17 y17 z17 st17 hQ17
  subst l17 y17 z17
  obtain ⟨rfl, N17q, w17⟩ := hQ17
  have u17 : T17.heap = T12.heap := w17.trans u16
  have N17 := Fr.app N16 N17q
  have hln : ∀ d ∈ StrChars.Road.wordsLen, d.before a0 Z = true := fun d hd => hw d ((by decide +kernel : ∀ d ∈ StrChars.Road.wordsLen, d ∈ tables_1) d hd)
  have hch : ∀ d ∈ StrChars.Road.wordsChN, d.before a0 Z = true := fun d hd => hw d ((by decide +kernel : ∀ d ∈ StrChars.Road.wordsChN, d ∈ tables_1) d hd)
  obtain ⟨xS, tS, kS, FvS, FcS, AvS⟩ : own_STR Z T12.heap b12 ([(val1 p2), (val1 p3), (val1 p4)] : List Int32) := S12
  have xS' : Exa Z T17.heap b12 "java/lang/String" := by rw [u17]; exact xS
  have FvS' : Fld Z T17.heap b12 "java/lang/String" "value" "[B" (.ref tS) := by rw [u17]; exact FvS
  have FcS' : Fld Z T17.heap b12 "java/lang/String" "coder" "B" (.int (0 : Int32)) := by rw [u17]; exact FcS
  have AvS' : Arv Z T17.heap tS kS .byte (Int32.ofNat ([(val1 p2), (val1 p3), (val1 p4)] : List Int32).length) ((([(val1 p2), (val1 p3), (val1 p4)] : List Int32).map (fun c => c.toInt8.toInt32)).map Value.int) (.int 0) := by rw [u17]; exact AvS
  have XO' : Old Z n0 T17.heap := by rw [u17]; exact XO12
  obtain ⟨_, _, ⟨T18, L18, k18, n18⟩, -, X18, ⟨Lc18, hQ18, l18, y18, z18⟩, st18⟩ := Jvm.LawKit.callS X17 hx (y := (⟨"com/example/harburg/harburg/epc/EpcScheme$Field", "characterCount", "(Ljava/lang/String;)I"⟩ : MethodName)) hown (mvT hZ (hw _ (List.mem_of_getElem? (i := 33) rfl))) (mvT hZ (hw _ (List.mem_of_getElem? (i := 34) rfl))) (mvT hZ (hw _ (List.mem_of_getElem? (i := 35) rfl))) (mvT hZ (hw _ (List.mem_of_getElem? (i := 36) rfl))) (by decide) (backOf (W := 0) (rm7 l Z a0 hw [] b12 T17.heap n0 (by rw [u17]; exact z12) xS' hln hch ([(val1 p2), (val1 p3), (val1 p4)] : List Int32) (Nat.le_of_ble_eq_true rfl) (own_all3 p2 p3 p4) tS kS G1 G3 FvS' FcS' AvS' (O2.ext XO'.2) P5 (O4.ext XO'.2) rG3) hZ (hw _ (List.mem_of_getElem? (i := 36) rfl)) (hw _ (List.mem_of_getElem? (i := 35) rfl)) (by decide) (by decide)) (g := (mkF m 145 #[.val (.int p1), .val (.int p2), .val (.int p3), .val (.int p4), .val (.int p5), .val (.int p6), .val (.int (own_n p1)), .val (.int (val1 p2)), .val (.int (val1 p3)), .val (.int (val1 p4)), .val (.int (val1 p5)), .val (.int (val1 p6)), .val (.ref b12), .val (.int (((((val6 (1 : Int32) (val1 p2)) + (val6 (1 : Int32) (val1 p3))) + (val6 (1 : Int32) (val1 p4))) + (val6 (0 : Int32) (val1 p5))) + (val6 (0 : Int32) (val1 p6)))), .unset] [(.ref b12)])) rfl (by rw [hml]; rfl) (argsL := [(.ref b12)]) (rest := []) (lenOf pd_0_6 rfl) rfl (by show 2 * 0 + _ ≤ _; exact Nat.le_of_eq rfl) (hb hby at_145) (fun _ _ => ⟨rfl, rfl, (by decide : 0 + 3 ≤ _), (by decide : 0 + 10 ≤ _)⟩)
  dsimp only [Pt.U, Pt.locs, Pt.cells, Pt.slots] at X18 l18 y18 z18 st18 hQ18
  subst l18 y18 z18
  obtain ⟨rfl, N18q, w18⟩ := hQ18
  have u18 : T18.heap = T12.heap := w18.trans u17
  have N18 := Fr.app N17 N18q
  have xL : Exa Z T18.heap b12 "java/lang/String" := by rw [u18]; exact xS
  obtain ⟨cq19, kq19, q19a, q19b, q19c⟩ := isOf hZ rfl xL
  have FvL : Fld Z T18.heap b12 "java/lang/String" "value" "[B" (.ref tS) := by rw [u18]; exact FvS
  have FcL : Fld Z T18.heap b12 "java/lang/String" "coder" "B" (.int (0 : Int32)) := by rw [u18]; exact FcS
  have AvL : Arv Z T18.heap tS kS .byte (Int32.ofNat ([(val1 p2), (val1 p3), (val1 p4)] : List Int32).length) ((([(val1 p2), (val1 p3), (val1 p4)] : List Int32).map (fun c => c.toInt8.toInt32)).map Value.int) (.int 0) := by rw [u18]; exact AvS
  have XOL : Old Z n0 T18.heap := by rw [u18]; exact XO12
  obtain ⟨_, _, ⟨T19, L19, k19, n19⟩, -, X19, ⟨Lc19, hQ19, l19, y19, z19⟩, st19⟩ := X18.virtualBack hx (y := (⟨"java/lang/String", "length", "()I"⟩ : MethodName)) (z := (⟨"java/lang/String", "length", "()I"⟩ : MethodName)) hown (mvT hZ (hw _ (List.mem_of_getElem? (i := 48) rfl))) (mvT hZ (hw _ (List.mem_of_getElem? (i := 38) rfl))) (notFace_of_selects (args := #[]) (mvT hZ (hw _ (List.mem_of_getElem? (i := 40) rfl)))) (mvT hZ (hw _ (List.mem_of_getElem? (i := 40) rfl))) (mvT hZ (hw _ (List.mem_of_getElem? (i := 39) rfl))) (by decide) (StrChars.Road.lenW (W := 0) hZ hln (kI := 4) (hw _ (List.mem_of_getElem? (i := 9) rfl)) xL FvL FcL AvL (StrChars.Road.codOf rfl (fun c hc => (own_all3 p2 p3 p4 c hc).2)) (own_up _ (own_all3 p2 p3 p4)) (O2.ext XOL.2) P5 (Nat.le_of_ble_eq_true rfl) (by decide) (by decide)) q19a q19c (g := (mkF m 152 #[.val (.int p1), .val (.int p2), .val (.int p3), .val (.int p4), .val (.int p5), .val (.int p6), .val (.int (own_n p1)), .val (.int (val1 p2)), .val (.int (val1 p3)), .val (.int (val1 p4)), .val (.int (val1 p5)), .val (.int (val1 p6)), .val (.ref b12), .val (.int (((((val6 (1 : Int32) (val1 p2)) + (val6 (1 : Int32) (val1 p3))) + (val6 (1 : Int32) (val1 p4))) + (val6 (0 : Int32) (val1 p5))) + (val6 (0 : Int32) (val1 p6)))), .val (.int (Int32.ofNat ([(val1 p2), (val1 p3), (val1 p4)] : List Int32).length - ((2 : Int32) * own_cnt ([(val1 p2), (val1 p3), (val1 p4)] : List Int32))))] [(.ref b12)])) rfl (by rw [hml]; rfl) (Steps.refl _) (argsL := []) (rest := []) (lenOf pd_0_7 rfl) rfl (by show 2 * 0 + _ ≤ _; exact Nat.le_of_eq rfl) (hb hby at_152) (fun _ _ => ⟨rfl, rfl, (by decide : 0 + 3 ≤ _), (by decide : 0 + 10 ≤ _)⟩)
  dsimp only [Pt.U, Pt.locs, Pt.cells, Pt.slots] at X19 l19 y19 z19 st19 hQ19
  subst l19 y19 z19
  obtain ⟨rfl, rfl, w19⟩ := hQ19
  have N19 := Fr.app N18 (Fr.nil n0)
  obtain ⟨fs, hr, hrun, hended, hW, hsame⟩ := X19.leave (v := some (.int (1 : Int32))) (fun h => by rw [Bd.returns] at h; cases h)
  refine ⟨_, _, pre0 _ ?_, hrun, hended, _, _, rfl, ?_, ⟨_, rfl⟩, hW, hsame.mono (by decide) (by decide)⟩
  · show Steps p.tables e below (s₁.setTop (mkF m 0 #[.val (.int p1), .val (.int p2), .val (.int p3), .val (.int p4), .val (.int p5), .val (.int p6), .unset, .unset, .unset, .unset, .unset, .unset, .unset, .unset, .unset] [])) _
    refine XS.iloadN X0.here hx rfl (hb hby at_0) rfl ?_
    show Steps p.tables e below (s₁.setTop (mkF m 1 #[.val (.int p1), .val (.int p2), .val (.int p3), .val (.int p4), .val (.int p5), .val (.int p6), .unset, .unset, .unset, .unset, .unset, .unset, .unset, .unset, .unset] [(.int p1)])) _
    refine X0.ldcInt hx hown (mvT hZ (hw _ (List.mem_of_getElem? (i := 0) rfl))) (g := (mkF m 1 #[.val (.int p1), .val (.int p2), .val (.int p3), .val (.int p4), .val (.int p5), .val (.int p6), .unset, .unset, .unset, .unset, .unset, .unset, .unset, .unset, .unset] [(.int p1)])) rfl (hb hby at_1) _ ?_
    show Steps p.tables e below (s₁.setTop (mkF m 3 #[.val (.int p1), .val (.int p2), .val (.int p3), .val (.int p4), .val (.int p5), .val (.int p6), .unset, .unset, .unset, .unset, .unset, .unset, .unset, .unset, .unset] [(.int (2147483647 : Int32)), (.int p1)])) _
    refine XS.iand X0.here hx rfl (hb hby at_3) rfl ?_
    show Steps p.tables e below (s₁.setTop (mkF m 4 #[.val (.int p1), .val (.int p2), .val (.int p3), .val (.int p4), .val (.int p5), .val (.int p6), .unset, .unset, .unset, .unset, .unset, .unset, .unset, .unset, .unset] [(.int (p1 &&& (2147483647 : Int32)))])) _
    refine XS.bipush X0.here hx rfl (hb hby at_4) ?_
    show Steps p.tables e below (s₁.setTop (mkF m 6 #[.val (.int p1), .val (.int p2), .val (.int p3), .val (.int p4), .val (.int p5), .val (.int p6), .unset, .unset, .unset, .unset, .unset, .unset, .unset, .unset, .unset] [(.int (6 : Int32)), (.int (p1 &&& (2147483647 : Int32)))])) _
    refine XS.irem X0.here hx rfl (hb hby at_6) rfl (by decide) ?_
    show Steps p.tables e below (s₁.setTop (mkF m 7 #[.val (.int p1), .val (.int p2), .val (.int p3), .val (.int p4), .val (.int p5), .val (.int p6), .unset, .unset, .unset, .unset, .unset, .unset, .unset, .unset, .unset] [(.int (own_n p1))])) _
    refine XS.istore X0.here hx rfl (hb hby at_7) rfl (l' := #[.val (.int p1), .val (.int p2), .val (.int p3), .val (.int p4), .val (.int p5), .val (.int p6), .val (.int (own_n p1)), .unset, .unset, .unset, .unset, .unset, .unset, .unset, .unset]) rfl ?_
    show Steps p.tables e below (s₁.setTop (mkF m 9 #[.val (.int p1), .val (.int p2), .val (.int p3), .val (.int p4), .val (.int p5), .val (.int p6), .val (.int (own_n p1)), .unset, .unset, .unset, .unset, .unset, .unset, .unset, .unset] [])) _
    refine XS.iloadN X0.here hx rfl (hb hby at_9) rfl ?_
    show Steps p.tables e below (s₁.setTop (mkF m 10 #[.val (.int p1), .val (.int p2), .val (.int p3), .val (.int p4), .val (.int p5), .val (.int p6), .val (.int (own_n p1)), .unset, .unset, .unset, .unset, .unset, .unset, .unset, .unset] [(.int p2)])) _
    refine st7 _ ?_
    show Steps p.tables e below (T7.setTop (mkF m 13 #[.val (.int p1), .val (.int p2), .val (.int p3), .val (.int p4), .val (.int p5), .val (.int p6), .val (.int (own_n p1)), .unset, .unset, .unset, .unset, .unset, .unset, .unset, .unset] [(.int (val1 p2))])) _
    refine XS.istore X7.here hx rfl (hb hby at_13) rfl (l' := #[.val (.int p1), .val (.int p2), .val (.int p3), .val (.int p4), .val (.int p5), .val (.int p6), .val (.int (own_n p1)), .val (.int (val1 p2)), .unset, .unset, .unset, .unset, .unset, .unset, .unset]) rfl ?_
    show Steps p.tables e below (T7.setTop (mkF m 15 #[.val (.int p1), .val (.int p2), .val (.int p3), .val (.int p4), .val (.int p5), .val (.int p6), .val (.int (own_n p1)), .val (.int (val1 p2)), .unset, .unset, .unset, .unset, .unset, .unset, .unset] [])) _
    refine XS.iloadN X7.here hx rfl (hb hby at_15) rfl ?_
    show Steps p.tables e below (T7.setTop (mkF m 16 #[.val (.int p1), .val (.int p2), .val (.int p3), .val (.int p4), .val (.int p5), .val (.int p6), .val (.int (own_n p1)), .val (.int (val1 p2)), .unset, .unset, .unset, .unset, .unset, .unset, .unset] [(.int p3)])) _
    refine st8 _ ?_
    show Steps p.tables e below (T8.setTop (mkF m 19 #[.val (.int p1), .val (.int p2), .val (.int p3), .val (.int p4), .val (.int p5), .val (.int p6), .val (.int (own_n p1)), .val (.int (val1 p2)), .unset, .unset, .unset, .unset, .unset, .unset, .unset] [(.int (val1 p3))])) _
    refine XS.istore X8.here hx rfl (hb hby at_19) rfl (l' := #[.val (.int p1), .val (.int p2), .val (.int p3), .val (.int p4), .val (.int p5), .val (.int p6), .val (.int (own_n p1)), .val (.int (val1 p2)), .val (.int (val1 p3)), .unset, .unset, .unset, .unset, .unset, .unset]) rfl ?_
    show Steps p.tables e below (T8.setTop (mkF m 21 #[.val (.int p1), .val (.int p2), .val (.int p3), .val (.int p4), .val (.int p5), .val (.int p6), .val (.int (own_n p1)), .val (.int (val1 p2)), .val (.int (val1 p3)), .unset, .unset, .unset, .unset, .unset, .unset] [])) _
    refine XS.iloadN X8.here hx rfl (hb hby at_21) rfl ?_
    show Steps p.tables e below (T8.setTop (mkF m 22 #[.val (.int p1), .val (.int p2), .val (.int p3), .val (.int p4), .val (.int p5), .val (.int p6), .val (.int (own_n p1)), .val (.int (val1 p2)), .val (.int (val1 p3)), .unset, .unset, .unset, .unset, .unset, .unset] [(.int p4)])) _
    refine st9 _ ?_
    show Steps p.tables e below (T9.setTop (mkF m 25 #[.val (.int p1), .val (.int p2), .val (.int p3), .val (.int p4), .val (.int p5), .val (.int p6), .val (.int (own_n p1)), .val (.int (val1 p2)), .val (.int (val1 p3)), .unset, .unset, .unset, .unset, .unset, .unset] [(.int (val1 p4))])) _
    refine XS.istore X9.here hx rfl (hb hby at_25) rfl (l' := #[.val (.int p1), .val (.int p2), .val (.int p3), .val (.int p4), .val (.int p5), .val (.int p6), .val (.int (own_n p1)), .val (.int (val1 p2)), .val (.int (val1 p3)), .val (.int (val1 p4)), .unset, .unset, .unset, .unset, .unset]) rfl ?_
    show Steps p.tables e below (T9.setTop (mkF m 27 #[.val (.int p1), .val (.int p2), .val (.int p3), .val (.int p4), .val (.int p5), .val (.int p6), .val (.int (own_n p1)), .val (.int (val1 p2)), .val (.int (val1 p3)), .val (.int (val1 p4)), .unset, .unset, .unset, .unset, .unset] [])) _
    refine XS.iload X9.here hx rfl (hb hby at_27) rfl ?_
    show Steps p.tables e below (T9.setTop (mkF m 29 #[.val (.int p1), .val (.int p2), .val (.int p3), .val (.int p4), .val (.int p5), .val (.int p6), .val (.int (own_n p1)), .val (.int (val1 p2)), .val (.int (val1 p3)), .val (.int (val1 p4)), .unset, .unset, .unset, .unset, .unset] [(.int p5)])) _
    refine st10 _ ?_
    show Steps p.tables e below (T10.setTop (mkF m 32 #[.val (.int p1), .val (.int p2), .val (.int p3), .val (.int p4), .val (.int p5), .val (.int p6), .val (.int (own_n p1)), .val (.int (val1 p2)), .val (.int (val1 p3)), .val (.int (val1 p4)), .unset, .unset, .unset, .unset, .unset] [(.int (val1 p5))])) _
    refine XS.istore X10.here hx rfl (hb hby at_32) rfl (l' := #[.val (.int p1), .val (.int p2), .val (.int p3), .val (.int p4), .val (.int p5), .val (.int p6), .val (.int (own_n p1)), .val (.int (val1 p2)), .val (.int (val1 p3)), .val (.int (val1 p4)), .val (.int (val1 p5)), .unset, .unset, .unset, .unset]) rfl ?_
    show Steps p.tables e below (T10.setTop (mkF m 34 #[.val (.int p1), .val (.int p2), .val (.int p3), .val (.int p4), .val (.int p5), .val (.int p6), .val (.int (own_n p1)), .val (.int (val1 p2)), .val (.int (val1 p3)), .val (.int (val1 p4)), .val (.int (val1 p5)), .unset, .unset, .unset, .unset] [])) _
    refine XS.iload X10.here hx rfl (hb hby at_34) rfl ?_
    show Steps p.tables e below (T10.setTop (mkF m 36 #[.val (.int p1), .val (.int p2), .val (.int p3), .val (.int p4), .val (.int p5), .val (.int p6), .val (.int (own_n p1)), .val (.int (val1 p2)), .val (.int (val1 p3)), .val (.int (val1 p4)), .val (.int (val1 p5)), .unset, .unset, .unset, .unset] [(.int p6)])) _
    refine st11 _ ?_
    show Steps p.tables e below (T11.setTop (mkF m 39 #[.val (.int p1), .val (.int p2), .val (.int p3), .val (.int p4), .val (.int p5), .val (.int p6), .val (.int (own_n p1)), .val (.int (val1 p2)), .val (.int (val1 p3)), .val (.int (val1 p4)), .val (.int (val1 p5)), .unset, .unset, .unset, .unset] [(.int (val1 p6))])) _
    refine XS.istore X11.here hx rfl (hb hby at_39) rfl (l' := #[.val (.int p1), .val (.int p2), .val (.int p3), .val (.int p4), .val (.int p5), .val (.int p6), .val (.int (own_n p1)), .val (.int (val1 p2)), .val (.int (val1 p3)), .val (.int (val1 p4)), .val (.int (val1 p5)), .val (.int (val1 p6)), .unset, .unset, .unset]) rfl ?_
    show Steps p.tables e below (T11.setTop (mkF m 41 #[.val (.int p1), .val (.int p2), .val (.int p3), .val (.int p4), .val (.int p5), .val (.int p6), .val (.int (own_n p1)), .val (.int (val1 p2)), .val (.int (val1 p3)), .val (.int (val1 p4)), .val (.int (val1 p5)), .val (.int (val1 p6)), .unset, .unset, .unset] [])) _
    refine XS.iload X11.here hx rfl (hb hby at_41) rfl ?_
    show Steps p.tables e below (T11.setTop (mkF m 43 #[.val (.int p1), .val (.int p2), .val (.int p3), .val (.int p4), .val (.int p5), .val (.int p6), .val (.int (own_n p1)), .val (.int (val1 p2)), .val (.int (val1 p3)), .val (.int (val1 p4)), .val (.int (val1 p5)), .val (.int (val1 p6)), .unset, .unset, .unset] [(.int (own_n p1))])) _
    refine XS.iload X11.here hx rfl (hb hby at_43) rfl ?_
    show Steps p.tables e below (T11.setTop (mkF m 45 #[.val (.int p1), .val (.int p2), .val (.int p3), .val (.int p4), .val (.int p5), .val (.int p6), .val (.int (own_n p1)), .val (.int (val1 p2)), .val (.int (val1 p3)), .val (.int (val1 p4)), .val (.int (val1 p5)), .val (.int (val1 p6)), .unset, .unset, .unset] [(.int (val1 p2)), (.int (own_n p1))])) _
    refine XS.iload X11.here hx rfl (hb hby at_45) rfl ?_
    show Steps p.tables e below (T11.setTop (mkF m 47 #[.val (.int p1), .val (.int p2), .val (.int p3), .val (.int p4), .val (.int p5), .val (.int p6), .val (.int (own_n p1)), .val (.int (val1 p2)), .val (.int (val1 p3)), .val (.int (val1 p4)), .val (.int (val1 p5)), .val (.int (val1 p6)), .unset, .unset, .unset] [(.int (val1 p3)), (.int (val1 p2)), (.int (own_n p1))])) _
    refine XS.iload X11.here hx rfl (hb hby at_47) rfl ?_
    show Steps p.tables e below (T11.setTop (mkF m 49 #[.val (.int p1), .val (.int p2), .val (.int p3), .val (.int p4), .val (.int p5), .val (.int p6), .val (.int (own_n p1)), .val (.int (val1 p2)), .val (.int (val1 p3)), .val (.int (val1 p4)), .val (.int (val1 p5)), .val (.int (val1 p6)), .unset, .unset, .unset] [(.int (val1 p4)), (.int (val1 p3)), (.int (val1 p2)), (.int (own_n p1))])) _
    refine XS.iload X11.here hx rfl (hb hby at_49) rfl ?_
    show Steps p.tables e below (T11.setTop (mkF m 51 #[.val (.int p1), .val (.int p2), .val (.int p3), .val (.int p4), .val (.int p5), .val (.int p6), .val (.int (own_n p1)), .val (.int (val1 p2)), .val (.int (val1 p3)), .val (.int (val1 p4)), .val (.int (val1 p5)), .val (.int (val1 p6)), .unset, .unset, .unset] [(.int (val1 p5)), (.int (val1 p4)), (.int (val1 p3)), (.int (val1 p2)), (.int (own_n p1))])) _
    refine XS.iload X11.here hx rfl (hb hby at_51) rfl ?_
    show Steps p.tables e below (T11.setTop (mkF m 53 #[.val (.int p1), .val (.int p2), .val (.int p3), .val (.int p4), .val (.int p5), .val (.int p6), .val (.int (own_n p1)), .val (.int (val1 p2)), .val (.int (val1 p3)), .val (.int (val1 p4)), .val (.int (val1 p5)), .val (.int (val1 p6)), .unset, .unset, .unset] [(.int (val1 p6)), (.int (val1 p5)), (.int (val1 p4)), (.int (val1 p3)), (.int (val1 p2)), (.int (own_n p1))])) _
    refine st12 _ ?_
    show Steps p.tables e below (T12.setTop (mkF m 56 #[.val (.int p1), .val (.int p2), .val (.int p3), .val (.int p4), .val (.int p5), .val (.int p6), .val (.int (own_n p1)), .val (.int (val1 p2)), .val (.int (val1 p3)), .val (.int (val1 p4)), .val (.int (val1 p5)), .val (.int (val1 p6)), .unset, .unset, .unset] [(.ref b12)])) _
    refine XS.astore X12.here hx rfl (hb hby at_56) rfl rfl (l' := #[.val (.int p1), .val (.int p2), .val (.int p3), .val (.int p4), .val (.int p5), .val (.int p6), .val (.int (own_n p1)), .val (.int (val1 p2)), .val (.int (val1 p3)), .val (.int (val1 p4)), .val (.int (val1 p5)), .val (.int (val1 p6)), .val (.ref b12), .unset, .unset]) rfl ?_
    show Steps p.tables e below (T12.setTop (mkF m 58 #[.val (.int p1), .val (.int p2), .val (.int p3), .val (.int p4), .val (.int p5), .val (.int p6), .val (.int (own_n p1)), .val (.int (val1 p2)), .val (.int (val1 p3)), .val (.int (val1 p4)), .val (.int (val1 p5)), .val (.int (val1 p6)), .val (.ref b12), .unset, .unset] [])) _
    refine XS.iload X12.here hx rfl (hb hby at_58) rfl ?_
    show Steps p.tables e below (T12.setTop (mkF m 60 #[.val (.int p1), .val (.int p2), .val (.int p3), .val (.int p4), .val (.int p5), .val (.int p6), .val (.int (own_n p1)), .val (.int (val1 p2)), .val (.int (val1 p3)), .val (.int (val1 p4)), .val (.int (val1 p5)), .val (.int (val1 p6)), .val (.ref b12), .unset, .unset] [(.int (own_n p1))])) _
    refine XS.ifNo X12.here hx rfl (hb hby at_60) rfl ((if0 _ _).trans (tlt (by rw [hn]; decide)).2.2.2) ?_
    show Steps p.tables e below (T12.setTop (mkF m 63 #[.val (.int p1), .val (.int p2), .val (.int p3), .val (.int p4), .val (.int p5), .val (.int p6), .val (.int (own_n p1)), .val (.int (val1 p2)), .val (.int (val1 p3)), .val (.int (val1 p4)), .val (.int (val1 p5)), .val (.int (val1 p6)), .val (.ref b12), .unset, .unset] [])) _
    refine XS.iconst X12.here hx rfl (hb hby at_63) ?_
    show Steps p.tables e below (T12.setTop (mkF m 64 #[.val (.int p1), .val (.int p2), .val (.int p3), .val (.int p4), .val (.int p5), .val (.int p6), .val (.int (own_n p1)), .val (.int (val1 p2)), .val (.int (val1 p3)), .val (.int (val1 p4)), .val (.int (val1 p5)), .val (.int (val1 p6)), .val (.ref b12), .unset, .unset] [(.int (1 : Int32))])) _
    refine XS.goto X12.here hx rfl (pc0 := 64) (pc' := 68) rfl (hb hby at_64) (by decide) (by decide) ?_
    show Steps p.tables e below (T12.setTop (mkF m 68 #[.val (.int p1), .val (.int p2), .val (.int p3), .val (.int p4), .val (.int p5), .val (.int p6), .val (.int (own_n p1)), .val (.int (val1 p2)), .val (.int (val1 p3)), .val (.int (val1 p4)), .val (.int (val1 p5)), .val (.int (val1 p6)), .val (.ref b12), .unset, .unset] [(.int (1 : Int32))])) _
    refine XS.iload X12.here hx rfl (hb hby at_68) rfl ?_
    show Steps p.tables e below (T12.setTop (mkF m 70 #[.val (.int p1), .val (.int p2), .val (.int p3), .val (.int p4), .val (.int p5), .val (.int p6), .val (.int (own_n p1)), .val (.int (val1 p2)), .val (.int (val1 p3)), .val (.int (val1 p4)), .val (.int (val1 p5)), .val (.int (val1 p6)), .val (.ref b12), .unset, .unset] [(.int (val1 p2)), (.int (1 : Int32))])) _
    refine st13 _ ?_
    show Steps p.tables e below (T13.setTop (mkF m 73 #[.val (.int p1), .val (.int p2), .val (.int p3), .val (.int p4), .val (.int p5), .val (.int p6), .val (.int (own_n p1)), .val (.int (val1 p2)), .val (.int (val1 p3)), .val (.int (val1 p4)), .val (.int (val1 p5)), .val (.int (val1 p6)), .val (.ref b12), .unset, .unset] [(.int (val6 (1 : Int32) (val1 p2)))])) _
    refine XS.iload X13.here hx rfl (hb hby at_73) rfl ?_
    show Steps p.tables e below (T13.setTop (mkF m 75 #[.val (.int p1), .val (.int p2), .val (.int p3), .val (.int p4), .val (.int p5), .val (.int p6), .val (.int (own_n p1)), .val (.int (val1 p2)), .val (.int (val1 p3)), .val (.int (val1 p4)), .val (.int (val1 p5)), .val (.int (val1 p6)), .val (.ref b12), .unset, .unset] [(.int (own_n p1)), (.int (val6 (1 : Int32) (val1 p2)))])) _
    refine XS.iconst X13.here hx rfl (hb hby at_75) ?_
    show Steps p.tables e below (T13.setTop (mkF m 76 #[.val (.int p1), .val (.int p2), .val (.int p3), .val (.int p4), .val (.int p5), .val (.int p6), .val (.int (own_n p1)), .val (.int (val1 p2)), .val (.int (val1 p3)), .val (.int (val1 p4)), .val (.int (val1 p5)), .val (.int (val1 p6)), .val (.ref b12), .unset, .unset] [(.int (1 : Int32)), (.int (own_n p1)), (.int (val6 (1 : Int32) (val1 p2)))])) _
    refine XS.icmpNo X13.here hx rfl (hb hby at_76) rfl (tlt (by rw [hn]; decide)).2.2.2 ?_
    show Steps p.tables e below (T13.setTop (mkF m 79 #[.val (.int p1), .val (.int p2), .val (.int p3), .val (.int p4), .val (.int p5), .val (.int p6), .val (.int (own_n p1)), .val (.int (val1 p2)), .val (.int (val1 p3)), .val (.int (val1 p4)), .val (.int (val1 p5)), .val (.int (val1 p6)), .val (.ref b12), .unset, .unset] [(.int (val6 (1 : Int32) (val1 p2)))])) _
    refine XS.iconst X13.here hx rfl (hb hby at_79) ?_
    show Steps p.tables e below (T13.setTop (mkF m 80 #[.val (.int p1), .val (.int p2), .val (.int p3), .val (.int p4), .val (.int p5), .val (.int p6), .val (.int (own_n p1)), .val (.int (val1 p2)), .val (.int (val1 p3)), .val (.int (val1 p4)), .val (.int (val1 p5)), .val (.int (val1 p6)), .val (.ref b12), .unset, .unset] [(.int (1 : Int32)), (.int (val6 (1 : Int32) (val1 p2)))])) _
    refine XS.goto X13.here hx rfl (pc0 := 80) (pc' := 84) rfl (hb hby at_80) (by decide) (by decide) ?_
    show Steps p.tables e below (T13.setTop (mkF m 84 #[.val (.int p1), .val (.int p2), .val (.int p3), .val (.int p4), .val (.int p5), .val (.int p6), .val (.int (own_n p1)), .val (.int (val1 p2)), .val (.int (val1 p3)), .val (.int (val1 p4)), .val (.int (val1 p5)), .val (.int (val1 p6)), .val (.ref b12), .unset, .unset] [(.int (1 : Int32)), (.int (val6 (1 : Int32) (val1 p2)))])) _
    refine XS.iload X13.here hx rfl (hb hby at_84) rfl ?_
    show Steps p.tables e below (T13.setTop (mkF m 86 #[.val (.int p1), .val (.int p2), .val (.int p3), .val (.int p4), .val (.int p5), .val (.int p6), .val (.int (own_n p1)), .val (.int (val1 p2)), .val (.int (val1 p3)), .val (.int (val1 p4)), .val (.int (val1 p5)), .val (.int (val1 p6)), .val (.ref b12), .unset, .unset] [(.int (val1 p3)), (.int (1 : Int32)), (.int (val6 (1 : Int32) (val1 p2)))])) _
    refine st14 _ ?_
    show Steps p.tables e below (T14.setTop (mkF m 89 #[.val (.int p1), .val (.int p2), .val (.int p3), .val (.int p4), .val (.int p5), .val (.int p6), .val (.int (own_n p1)), .val (.int (val1 p2)), .val (.int (val1 p3)), .val (.int (val1 p4)), .val (.int (val1 p5)), .val (.int (val1 p6)), .val (.ref b12), .unset, .unset] [(.int (val6 (1 : Int32) (val1 p3))), (.int (val6 (1 : Int32) (val1 p2)))])) _
    refine XS.iadd X14.here hx rfl (hb hby at_89) rfl ?_
    show Steps p.tables e below (T14.setTop (mkF m 90 #[.val (.int p1), .val (.int p2), .val (.int p3), .val (.int p4), .val (.int p5), .val (.int p6), .val (.int (own_n p1)), .val (.int (val1 p2)), .val (.int (val1 p3)), .val (.int (val1 p4)), .val (.int (val1 p5)), .val (.int (val1 p6)), .val (.ref b12), .unset, .unset] [(.int ((val6 (1 : Int32) (val1 p2)) + (val6 (1 : Int32) (val1 p3))))])) _
    refine XS.iload X14.here hx rfl (hb hby at_90) rfl ?_
    show Steps p.tables e below (T14.setTop (mkF m 92 #[.val (.int p1), .val (.int p2), .val (.int p3), .val (.int p4), .val (.int p5), .val (.int p6), .val (.int (own_n p1)), .val (.int (val1 p2)), .val (.int (val1 p3)), .val (.int (val1 p4)), .val (.int (val1 p5)), .val (.int (val1 p6)), .val (.ref b12), .unset, .unset] [(.int (own_n p1)), (.int ((val6 (1 : Int32) (val1 p2)) + (val6 (1 : Int32) (val1 p3))))])) _
    refine XS.iconst X14.here hx rfl (hb hby at_92) ?_
    show Steps p.tables e below (T14.setTop (mkF m 93 #[.val (.int p1), .val (.int p2), .val (.int p3), .val (.int p4), .val (.int p5), .val (.int p6), .val (.int (own_n p1)), .val (.int (val1 p2)), .val (.int (val1 p3)), .val (.int (val1 p4)), .val (.int (val1 p5)), .val (.int (val1 p6)), .val (.ref b12), .unset, .unset] [(.int (2 : Int32)), (.int (own_n p1)), (.int ((val6 (1 : Int32) (val1 p2)) + (val6 (1 : Int32) (val1 p3))))])) _
    refine XS.icmpNo X14.here hx rfl (hb hby at_93) rfl (tlt (by rw [hn]; decide)).2.2.2 ?_
    show Steps p.tables e below (T14.setTop (mkF m 96 #[.val (.int p1), .val (.int p2), .val (.int p3), .val (.int p4), .val (.int p5), .val (.int p6), .val (.int (own_n p1)), .val (.int (val1 p2)), .val (.int (val1 p3)), .val (.int (val1 p4)), .val (.int (val1 p5)), .val (.int (val1 p6)), .val (.ref b12), .unset, .unset] [(.int ((val6 (1 : Int32) (val1 p2)) + (val6 (1 : Int32) (val1 p3))))])) _
    refine XS.iconst X14.here hx rfl (hb hby at_96) ?_
    show Steps p.tables e below (T14.setTop (mkF m 97 #[.val (.int p1), .val (.int p2), .val (.int p3), .val (.int p4), .val (.int p5), .val (.int p6), .val (.int (own_n p1)), .val (.int (val1 p2)), .val (.int (val1 p3)), .val (.int (val1 p4)), .val (.int (val1 p5)), .val (.int (val1 p6)), .val (.ref b12), .unset, .unset] [(.int (1 : Int32)), (.int ((val6 (1 : Int32) (val1 p2)) + (val6 (1 : Int32) (val1 p3))))])) _
    refine XS.goto X14.here hx rfl (pc0 := 97) (pc' := 101) rfl (hb hby at_97) (by decide) (by decide) ?_
    show Steps p.tables e below (T14.setTop (mkF m 101 #[.val (.int p1), .val (.int p2), .val (.int p3), .val (.int p4), .val (.int p5), .val (.int p6), .val (.int (own_n p1)), .val (.int (val1 p2)), .val (.int (val1 p3)), .val (.int (val1 p4)), .val (.int (val1 p5)), .val (.int (val1 p6)), .val (.ref b12), .unset, .unset] [(.int (1 : Int32)), (.int ((val6 (1 : Int32) (val1 p2)) + (val6 (1 : Int32) (val1 p3))))])) _
    refine XS.iload X14.here hx rfl (hb hby at_101) rfl ?_
    show Steps p.tables e below (T14.setTop (mkF m 103 #[.val (.int p1), .val (.int p2), .val (.int p3), .val (.int p4), .val (.int p5), .val (.int p6), .val (.int (own_n p1)), .val (.int (val1 p2)), .val (.int (val1 p3)), .val (.int (val1 p4)), .val (.int (val1 p5)), .val (.int (val1 p6)), .val (.ref b12), .unset, .unset] [(.int (val1 p4)), (.int (1 : Int32)), (.int ((val6 (1 : Int32) (val1 p2)) + (val6 (1 : Int32) (val1 p3))))])) _
    refine st15 _ ?_
    show Steps p.tables e below (T15.setTop (mkF m 106 #[.val (.int p1), .val (.int p2), .val (.int p3), .val (.int p4), .val (.int p5), .val (.int p6), .val (.int (own_n p1)), .val (.int (val1 p2)), .val (.int (val1 p3)), .val (.int (val1 p4)), .val (.int (val1 p5)), .val (.int (val1 p6)), .val (.ref b12), .unset, .unset] [(.int (val6 (1 : Int32) (val1 p4))), (.int ((val6 (1 : Int32) (val1 p2)) + (val6 (1 : Int32) (val1 p3))))])) _
    refine XS.iadd X15.here hx rfl (hb hby at_106) rfl ?_
    show Steps p.tables e below (T15.setTop (mkF m 107 #[.val (.int p1), .val (.int p2), .val (.int p3), .val (.int p4), .val (.int p5), .val (.int p6), .val (.int (own_n p1)), .val (.int (val1 p2)), .val (.int (val1 p3)), .val (.int (val1 p4)), .val (.int (val1 p5)), .val (.int (val1 p6)), .val (.ref b12), .unset, .unset] [(.int (((val6 (1 : Int32) (val1 p2)) + (val6 (1 : Int32) (val1 p3))) + (val6 (1 : Int32) (val1 p4))))])) _
    refine XS.iload X15.here hx rfl (hb hby at_107) rfl ?_
    show Steps p.tables e below (T15.setTop (mkF m 109 #[.val (.int p1), .val (.int p2), .val (.int p3), .val (.int p4), .val (.int p5), .val (.int p6), .val (.int (own_n p1)), .val (.int (val1 p2)), .val (.int (val1 p3)), .val (.int (val1 p4)), .val (.int (val1 p5)), .val (.int (val1 p6)), .val (.ref b12), .unset, .unset] [(.int (own_n p1)), (.int (((val6 (1 : Int32) (val1 p2)) + (val6 (1 : Int32) (val1 p3))) + (val6 (1 : Int32) (val1 p4))))])) _
    refine XS.iconst X15.here hx rfl (hb hby at_109) ?_
    show Steps p.tables e below (T15.setTop (mkF m 110 #[.val (.int p1), .val (.int p2), .val (.int p3), .val (.int p4), .val (.int p5), .val (.int p6), .val (.int (own_n p1)), .val (.int (val1 p2)), .val (.int (val1 p3)), .val (.int (val1 p4)), .val (.int (val1 p5)), .val (.int (val1 p6)), .val (.ref b12), .unset, .unset] [(.int (3 : Int32)), (.int (own_n p1)), (.int (((val6 (1 : Int32) (val1 p2)) + (val6 (1 : Int32) (val1 p3))) + (val6 (1 : Int32) (val1 p4))))])) _
    refine XS.icmpYes X15.here hx rfl (pc0 := 110) (pc' := 117) rfl (hb hby at_110) rfl (flt (by rw [hn]; decide)).2.2.2 (by decide) (by decide) ?_
    show Steps p.tables e below (T15.setTop (mkF m 117 #[.val (.int p1), .val (.int p2), .val (.int p3), .val (.int p4), .val (.int p5), .val (.int p6), .val (.int (own_n p1)), .val (.int (val1 p2)), .val (.int (val1 p3)), .val (.int (val1 p4)), .val (.int (val1 p5)), .val (.int (val1 p6)), .val (.ref b12), .unset, .unset] [(.int (((val6 (1 : Int32) (val1 p2)) + (val6 (1 : Int32) (val1 p3))) + (val6 (1 : Int32) (val1 p4))))])) _
    refine XS.iconst X15.here hx rfl (hb hby at_117) ?_
    show Steps p.tables e below (T15.setTop (mkF m 118 #[.val (.int p1), .val (.int p2), .val (.int p3), .val (.int p4), .val (.int p5), .val (.int p6), .val (.int (own_n p1)), .val (.int (val1 p2)), .val (.int (val1 p3)), .val (.int (val1 p4)), .val (.int (val1 p5)), .val (.int (val1 p6)), .val (.ref b12), .unset, .unset] [(.int (0 : Int32)), (.int (((val6 (1 : Int32) (val1 p2)) + (val6 (1 : Int32) (val1 p3))) + (val6 (1 : Int32) (val1 p4))))])) _
    refine XS.iload X15.here hx rfl (hb hby at_118) rfl ?_
    show Steps p.tables e below (T15.setTop (mkF m 120 #[.val (.int p1), .val (.int p2), .val (.int p3), .val (.int p4), .val (.int p5), .val (.int p6), .val (.int (own_n p1)), .val (.int (val1 p2)), .val (.int (val1 p3)), .val (.int (val1 p4)), .val (.int (val1 p5)), .val (.int (val1 p6)), .val (.ref b12), .unset, .unset] [(.int (val1 p5)), (.int (0 : Int32)), (.int (((val6 (1 : Int32) (val1 p2)) + (val6 (1 : Int32) (val1 p3))) + (val6 (1 : Int32) (val1 p4))))])) _
    refine st16 _ ?_
    show Steps p.tables e below (T16.setTop (mkF m 123 #[.val (.int p1), .val (.int p2), .val (.int p3), .val (.int p4), .val (.int p5), .val (.int p6), .val (.int (own_n p1)), .val (.int (val1 p2)), .val (.int (val1 p3)), .val (.int (val1 p4)), .val (.int (val1 p5)), .val (.int (val1 p6)), .val (.ref b12), .unset, .unset] [(.int (val6 (0 : Int32) (val1 p5))), (.int (((val6 (1 : Int32) (val1 p2)) + (val6 (1 : Int32) (val1 p3))) + (val6 (1 : Int32) (val1 p4))))])) _
    refine XS.iadd X16.here hx rfl (hb hby at_123) rfl ?_
    show Steps p.tables e below (T16.setTop (mkF m 124 #[.val (.int p1), .val (.int p2), .val (.int p3), .val (.int p4), .val (.int p5), .val (.int p6), .val (.int (own_n p1)), .val (.int (val1 p2)), .val (.int (val1 p3)), .val (.int (val1 p4)), .val (.int (val1 p5)), .val (.int (val1 p6)), .val (.ref b12), .unset, .unset] [(.int ((((val6 (1 : Int32) (val1 p2)) + (val6 (1 : Int32) (val1 p3))) + (val6 (1 : Int32) (val1 p4))) + (val6 (0 : Int32) (val1 p5))))])) _
    refine XS.iload X16.here hx rfl (hb hby at_124) rfl ?_
    show Steps p.tables e below (T16.setTop (mkF m 126 #[.val (.int p1), .val (.int p2), .val (.int p3), .val (.int p4), .val (.int p5), .val (.int p6), .val (.int (own_n p1)), .val (.int (val1 p2)), .val (.int (val1 p3)), .val (.int (val1 p4)), .val (.int (val1 p5)), .val (.int (val1 p6)), .val (.ref b12), .unset, .unset] [(.int (own_n p1)), (.int ((((val6 (1 : Int32) (val1 p2)) + (val6 (1 : Int32) (val1 p3))) + (val6 (1 : Int32) (val1 p4))) + (val6 (0 : Int32) (val1 p5))))])) _
    refine XS.iconst X16.here hx rfl (hb hby at_126) ?_
    show Steps p.tables e below (T16.setTop (mkF m 127 #[.val (.int p1), .val (.int p2), .val (.int p3), .val (.int p4), .val (.int p5), .val (.int p6), .val (.int (own_n p1)), .val (.int (val1 p2)), .val (.int (val1 p3)), .val (.int (val1 p4)), .val (.int (val1 p5)), .val (.int (val1 p6)), .val (.ref b12), .unset, .unset] [(.int (4 : Int32)), (.int (own_n p1)), (.int ((((val6 (1 : Int32) (val1 p2)) + (val6 (1 : Int32) (val1 p3))) + (val6 (1 : Int32) (val1 p4))) + (val6 (0 : Int32) (val1 p5))))])) _
    refine XS.icmpYes X16.here hx rfl (pc0 := 127) (pc' := 134) rfl (hb hby at_127) rfl (flt (by rw [hn]; decide)).2.2.2 (by decide) (by decide) ?_
    show Steps p.tables e below (T16.setTop (mkF m 134 #[.val (.int p1), .val (.int p2), .val (.int p3), .val (.int p4), .val (.int p5), .val (.int p6), .val (.int (own_n p1)), .val (.int (val1 p2)), .val (.int (val1 p3)), .val (.int (val1 p4)), .val (.int (val1 p5)), .val (.int (val1 p6)), .val (.ref b12), .unset, .unset] [(.int ((((val6 (1 : Int32) (val1 p2)) + (val6 (1 : Int32) (val1 p3))) + (val6 (1 : Int32) (val1 p4))) + (val6 (0 : Int32) (val1 p5))))])) _
    refine XS.iconst X16.here hx rfl (hb hby at_134) ?_
    show Steps p.tables e below (T16.setTop (mkF m 135 #[.val (.int p1), .val (.int p2), .val (.int p3), .val (.int p4), .val (.int p5), .val (.int p6), .val (.int (own_n p1)), .val (.int (val1 p2)), .val (.int (val1 p3)), .val (.int (val1 p4)), .val (.int (val1 p5)), .val (.int (val1 p6)), .val (.ref b12), .unset, .unset] [(.int (0 : Int32)), (.int ((((val6 (1 : Int32) (val1 p2)) + (val6 (1 : Int32) (val1 p3))) + (val6 (1 : Int32) (val1 p4))) + (val6 (0 : Int32) (val1 p5))))])) _
    refine XS.iload X16.here hx rfl (hb hby at_135) rfl ?_
    show Steps p.tables e below (T16.setTop (mkF m 137 #[.val (.int p1), .val (.int p2), .val (.int p3), .val (.int p4), .val (.int p5), .val (.int p6), .val (.int (own_n p1)), .val (.int (val1 p2)), .val (.int (val1 p3)), .val (.int (val1 p4)), .val (.int (val1 p5)), .val (.int (val1 p6)), .val (.ref b12), .unset, .unset] [(.int (val1 p6)), (.int (0 : Int32)), (.int ((((val6 (1 : Int32) (val1 p2)) + (val6 (1 : Int32) (val1 p3))) + (val6 (1 : Int32) (val1 p4))) + (val6 (0 : Int32) (val1 p5))))])) _
    refine st17 _ ?_
    show Steps p.tables e below (T17.setTop (mkF m 140 #[.val (.int p1), .val (.int p2), .val (.int p3), .val (.int p4), .val (.int p5), .val (.int p6), .val (.int (own_n p1)), .val (.int (val1 p2)), .val (.int (val1 p3)), .val (.int (val1 p4)), .val (.int (val1 p5)), .val (.int (val1 p6)), .val (.ref b12), .unset, .unset] [(.int (val6 (0 : Int32) (val1 p6))), (.int ((((val6 (1 : Int32) (val1 p2)) + (val6 (1 : Int32) (val1 p3))) + (val6 (1 : Int32) (val1 p4))) + (val6 (0 : Int32) (val1 p5))))])) _
    refine XS.iadd X17.here hx rfl (hb hby at_140) rfl ?_
    show Steps p.tables e below (T17.setTop (mkF m 141 #[.val (.int p1), .val (.int p2), .val (.int p3), .val (.int p4), .val (.int p5), .val (.int p6), .val (.int (own_n p1)), .val (.int (val1 p2)), .val (.int (val1 p3)), .val (.int (val1 p4)), .val (.int (val1 p5)), .val (.int (val1 p6)), .val (.ref b12), .unset, .unset] [(.int (((((val6 (1 : Int32) (val1 p2)) + (val6 (1 : Int32) (val1 p3))) + (val6 (1 : Int32) (val1 p4))) + (val6 (0 : Int32) (val1 p5))) + (val6 (0 : Int32) (val1 p6))))])) _
    refine XS.istore X17.here hx rfl (hb hby at_141) rfl (l' := #[.val (.int p1), .val (.int p2), .val (.int p3), .val (.int p4), .val (.int p5), .val (.int p6), .val (.int (own_n p1)), .val (.int (val1 p2)), .val (.int (val1 p3)), .val (.int (val1 p4)), .val (.int (val1 p5)), .val (.int (val1 p6)), .val (.ref b12), .val (.int (((((val6 (1 : Int32) (val1 p2)) + (val6 (1 : Int32) (val1 p3))) + (val6 (1 : Int32) (val1 p4))) + (val6 (0 : Int32) (val1 p5))) + (val6 (0 : Int32) (val1 p6)))), .unset]) rfl ?_
    show Steps p.tables e below (T17.setTop (mkF m 143 #[.val (.int p1), .val (.int p2), .val (.int p3), .val (.int p4), .val (.int p5), .val (.int p6), .val (.int (own_n p1)), .val (.int (val1 p2)), .val (.int (val1 p3)), .val (.int (val1 p4)), .val (.int (val1 p5)), .val (.int (val1 p6)), .val (.ref b12), .val (.int (((((val6 (1 : Int32) (val1 p2)) + (val6 (1 : Int32) (val1 p3))) + (val6 (1 : Int32) (val1 p4))) + (val6 (0 : Int32) (val1 p5))) + (val6 (0 : Int32) (val1 p6)))), .unset] [])) _
    refine XS.aload X17.here hx rfl (hb hby at_143) rfl rfl ?_
    show Steps p.tables e below (T17.setTop (mkF m 145 #[.val (.int p1), .val (.int p2), .val (.int p3), .val (.int p4), .val (.int p5), .val (.int p6), .val (.int (own_n p1)), .val (.int (val1 p2)), .val (.int (val1 p3)), .val (.int (val1 p4)), .val (.int (val1 p5)), .val (.int (val1 p6)), .val (.ref b12), .val (.int (((((val6 (1 : Int32) (val1 p2)) + (val6 (1 : Int32) (val1 p3))) + (val6 (1 : Int32) (val1 p4))) + (val6 (0 : Int32) (val1 p5))) + (val6 (0 : Int32) (val1 p6)))), .unset] [(.ref b12)])) _
    refine st18 _ ?_
    show Steps p.tables e below (T18.setTop (mkF m 148 #[.val (.int p1), .val (.int p2), .val (.int p3), .val (.int p4), .val (.int p5), .val (.int p6), .val (.int (own_n p1)), .val (.int (val1 p2)), .val (.int (val1 p3)), .val (.int (val1 p4)), .val (.int (val1 p5)), .val (.int (val1 p6)), .val (.ref b12), .val (.int (((((val6 (1 : Int32) (val1 p2)) + (val6 (1 : Int32) (val1 p3))) + (val6 (1 : Int32) (val1 p4))) + (val6 (0 : Int32) (val1 p5))) + (val6 (0 : Int32) (val1 p6)))), .unset] [(.int (Int32.ofNat ([(val1 p2), (val1 p3), (val1 p4)] : List Int32).length - ((2 : Int32) * own_cnt ([(val1 p2), (val1 p3), (val1 p4)] : List Int32))))])) _
    refine XS.istore X18.here hx rfl (hb hby at_148) rfl (l' := #[.val (.int p1), .val (.int p2), .val (.int p3), .val (.int p4), .val (.int p5), .val (.int p6), .val (.int (own_n p1)), .val (.int (val1 p2)), .val (.int (val1 p3)), .val (.int (val1 p4)), .val (.int (val1 p5)), .val (.int (val1 p6)), .val (.ref b12), .val (.int (((((val6 (1 : Int32) (val1 p2)) + (val6 (1 : Int32) (val1 p3))) + (val6 (1 : Int32) (val1 p4))) + (val6 (0 : Int32) (val1 p5))) + (val6 (0 : Int32) (val1 p6)))), .val (.int (Int32.ofNat ([(val1 p2), (val1 p3), (val1 p4)] : List Int32).length - ((2 : Int32) * own_cnt ([(val1 p2), (val1 p3), (val1 p4)] : List Int32))))]) rfl ?_
    show Steps p.tables e below (T18.setTop (mkF m 150 #[.val (.int p1), .val (.int p2), .val (.int p3), .val (.int p4), .val (.int p5), .val (.int p6), .val (.int (own_n p1)), .val (.int (val1 p2)), .val (.int (val1 p3)), .val (.int (val1 p4)), .val (.int (val1 p5)), .val (.int (val1 p6)), .val (.ref b12), .val (.int (((((val6 (1 : Int32) (val1 p2)) + (val6 (1 : Int32) (val1 p3))) + (val6 (1 : Int32) (val1 p4))) + (val6 (0 : Int32) (val1 p5))) + (val6 (0 : Int32) (val1 p6)))), .val (.int (Int32.ofNat ([(val1 p2), (val1 p3), (val1 p4)] : List Int32).length - ((2 : Int32) * own_cnt ([(val1 p2), (val1 p3), (val1 p4)] : List Int32))))] [])) _
    refine XS.aload X18.here hx rfl (hb hby at_150) rfl rfl ?_
    show Steps p.tables e below (T18.setTop (mkF m 152 #[.val (.int p1), .val (.int p2), .val (.int p3), .val (.int p4), .val (.int p5), .val (.int p6), .val (.int (own_n p1)), .val (.int (val1 p2)), .val (.int (val1 p3)), .val (.int (val1 p4)), .val (.int (val1 p5)), .val (.int (val1 p6)), .val (.ref b12), .val (.int (((((val6 (1 : Int32) (val1 p2)) + (val6 (1 : Int32) (val1 p3))) + (val6 (1 : Int32) (val1 p4))) + (val6 (0 : Int32) (val1 p5))) + (val6 (0 : Int32) (val1 p6)))), .val (.int (Int32.ofNat ([(val1 p2), (val1 p3), (val1 p4)] : List Int32).length - ((2 : Int32) * own_cnt ([(val1 p2), (val1 p3), (val1 p4)] : List Int32))))] [(.ref b12)])) _
    refine st19.trans ?_
    show Steps p.tables e below (T19.setTop (mkF m 155 #[.val (.int p1), .val (.int p2), .val (.int p3), .val (.int p4), .val (.int p5), .val (.int p6), .val (.int (own_n p1)), .val (.int (val1 p2)), .val (.int (val1 p3)), .val (.int (val1 p4)), .val (.int (val1 p5)), .val (.int (val1 p6)), .val (.ref b12), .val (.int (((((val6 (1 : Int32) (val1 p2)) + (val6 (1 : Int32) (val1 p3))) + (val6 (1 : Int32) (val1 p4))) + (val6 (0 : Int32) (val1 p5))) + (val6 (0 : Int32) (val1 p6)))), .val (.int (Int32.ofNat ([(val1 p2), (val1 p3), (val1 p4)] : List Int32).length - ((2 : Int32) * own_cnt ([(val1 p2), (val1 p3), (val1 p4)] : List Int32))))] [(.int (Int32.ofNat ([(val1 p2), (val1 p3), (val1 p4)] : List Int32).length))])) _
    refine XS.iload X19.here hx rfl (hb hby at_155) rfl ?_
    show Steps p.tables e below (T19.setTop (mkF m 157 #[.val (.int p1), .val (.int p2), .val (.int p3), .val (.int p4), .val (.int p5), .val (.int p6), .val (.int (own_n p1)), .val (.int (val1 p2)), .val (.int (val1 p3)), .val (.int (val1 p4)), .val (.int (val1 p5)), .val (.int (val1 p6)), .val (.ref b12), .val (.int (((((val6 (1 : Int32) (val1 p2)) + (val6 (1 : Int32) (val1 p3))) + (val6 (1 : Int32) (val1 p4))) + (val6 (0 : Int32) (val1 p5))) + (val6 (0 : Int32) (val1 p6)))), .val (.int (Int32.ofNat ([(val1 p2), (val1 p3), (val1 p4)] : List Int32).length - ((2 : Int32) * own_cnt ([(val1 p2), (val1 p3), (val1 p4)] : List Int32))))] [(.int (own_n p1)), (.int (Int32.ofNat ([(val1 p2), (val1 p3), (val1 p4)] : List Int32).length))])) _
    refine XS.icmpNo X19.here hx rfl (hb hby at_157) rfl (teq (hn.symm : (Int32.ofNat ([(val1 p2), (val1 p3), (val1 p4)] : List Int32).length) = (own_n p1))).2 ?_
    show Steps p.tables e below (T19.setTop (mkF m 160 #[.val (.int p1), .val (.int p2), .val (.int p3), .val (.int p4), .val (.int p5), .val (.int p6), .val (.int (own_n p1)), .val (.int (val1 p2)), .val (.int (val1 p3)), .val (.int (val1 p4)), .val (.int (val1 p5)), .val (.int (val1 p6)), .val (.ref b12), .val (.int (((((val6 (1 : Int32) (val1 p2)) + (val6 (1 : Int32) (val1 p3))) + (val6 (1 : Int32) (val1 p4))) + (val6 (0 : Int32) (val1 p5))) + (val6 (0 : Int32) (val1 p6)))), .val (.int (Int32.ofNat ([(val1 p2), (val1 p3), (val1 p4)] : List Int32).length - ((2 : Int32) * own_cnt ([(val1 p2), (val1 p3), (val1 p4)] : List Int32))))] [])) _
    refine XS.iload X19.here hx rfl (hb hby at_160) rfl ?_
    show Steps p.tables e below (T19.setTop (mkF m 162 #[.val (.int p1), .val (.int p2), .val (.int p3), .val (.int p4), .val (.int p5), .val (.int p6), .val (.int (own_n p1)), .val (.int (val1 p2)), .val (.int (val1 p3)), .val (.int (val1 p4)), .val (.int (val1 p5)), .val (.int (val1 p6)), .val (.ref b12), .val (.int (((((val6 (1 : Int32) (val1 p2)) + (val6 (1 : Int32) (val1 p3))) + (val6 (1 : Int32) (val1 p4))) + (val6 (0 : Int32) (val1 p5))) + (val6 (0 : Int32) (val1 p6)))), .val (.int (Int32.ofNat ([(val1 p2), (val1 p3), (val1 p4)] : List Int32).length - ((2 : Int32) * own_cnt ([(val1 p2), (val1 p3), (val1 p4)] : List Int32))))] [(.int (Int32.ofNat ([(val1 p2), (val1 p3), (val1 p4)] : List Int32).length - ((2 : Int32) * own_cnt ([(val1 p2), (val1 p3), (val1 p4)] : List Int32))))])) _
    refine XS.iload X19.here hx rfl (hb hby at_162) rfl ?_
    show Steps p.tables e below (T19.setTop (mkF m 164 #[.val (.int p1), .val (.int p2), .val (.int p3), .val (.int p4), .val (.int p5), .val (.int p6), .val (.int (own_n p1)), .val (.int (val1 p2)), .val (.int (val1 p3)), .val (.int (val1 p4)), .val (.int (val1 p5)), .val (.int (val1 p6)), .val (.ref b12), .val (.int (((((val6 (1 : Int32) (val1 p2)) + (val6 (1 : Int32) (val1 p3))) + (val6 (1 : Int32) (val1 p4))) + (val6 (0 : Int32) (val1 p5))) + (val6 (0 : Int32) (val1 p6)))), .val (.int (Int32.ofNat ([(val1 p2), (val1 p3), (val1 p4)] : List Int32).length - ((2 : Int32) * own_cnt ([(val1 p2), (val1 p3), (val1 p4)] : List Int32))))] [(.int (own_n p1)), (.int (Int32.ofNat ([(val1 p2), (val1 p3), (val1 p4)] : List Int32).length - ((2 : Int32) * own_cnt ([(val1 p2), (val1 p3), (val1 p4)] : List Int32))))])) _
    refine XS.iconst X19.here hx rfl (hb hby at_164) ?_
    show Steps p.tables e below (T19.setTop (mkF m 165 #[.val (.int p1), .val (.int p2), .val (.int p3), .val (.int p4), .val (.int p5), .val (.int p6), .val (.int (own_n p1)), .val (.int (val1 p2)), .val (.int (val1 p3)), .val (.int (val1 p4)), .val (.int (val1 p5)), .val (.int (val1 p6)), .val (.ref b12), .val (.int (((((val6 (1 : Int32) (val1 p2)) + (val6 (1 : Int32) (val1 p3))) + (val6 (1 : Int32) (val1 p4))) + (val6 (0 : Int32) (val1 p5))) + (val6 (0 : Int32) (val1 p6)))), .val (.int (Int32.ofNat ([(val1 p2), (val1 p3), (val1 p4)] : List Int32).length - ((2 : Int32) * own_cnt ([(val1 p2), (val1 p3), (val1 p4)] : List Int32))))] [(.int (2 : Int32)), (.int (own_n p1)), (.int (Int32.ofNat ([(val1 p2), (val1 p3), (val1 p4)] : List Int32).length - ((2 : Int32) * own_cnt ([(val1 p2), (val1 p3), (val1 p4)] : List Int32))))])) _
    refine XS.iload X19.here hx rfl (hb hby at_165) rfl ?_
    show Steps p.tables e below (T19.setTop (mkF m 167 #[.val (.int p1), .val (.int p2), .val (.int p3), .val (.int p4), .val (.int p5), .val (.int p6), .val (.int (own_n p1)), .val (.int (val1 p2)), .val (.int (val1 p3)), .val (.int (val1 p4)), .val (.int (val1 p5)), .val (.int (val1 p6)), .val (.ref b12), .val (.int (((((val6 (1 : Int32) (val1 p2)) + (val6 (1 : Int32) (val1 p3))) + (val6 (1 : Int32) (val1 p4))) + (val6 (0 : Int32) (val1 p5))) + (val6 (0 : Int32) (val1 p6)))), .val (.int (Int32.ofNat ([(val1 p2), (val1 p3), (val1 p4)] : List Int32).length - ((2 : Int32) * own_cnt ([(val1 p2), (val1 p3), (val1 p4)] : List Int32))))] [(.int (((((val6 (1 : Int32) (val1 p2)) + (val6 (1 : Int32) (val1 p3))) + (val6 (1 : Int32) (val1 p4))) + (val6 (0 : Int32) (val1 p5))) + (val6 (0 : Int32) (val1 p6)))), (.int (2 : Int32)), (.int (own_n p1)), (.int (Int32.ofNat ([(val1 p2), (val1 p3), (val1 p4)] : List Int32).length - ((2 : Int32) * own_cnt ([(val1 p2), (val1 p3), (val1 p4)] : List Int32))))])) _
    refine XS.imul X19.here hx rfl (hb hby at_167) rfl ?_
    show Steps p.tables e below (T19.setTop (mkF m 168 #[.val (.int p1), .val (.int p2), .val (.int p3), .val (.int p4), .val (.int p5), .val (.int p6), .val (.int (own_n p1)), .val (.int (val1 p2)), .val (.int (val1 p3)), .val (.int (val1 p4)), .val (.int (val1 p5)), .val (.int (val1 p6)), .val (.ref b12), .val (.int (((((val6 (1 : Int32) (val1 p2)) + (val6 (1 : Int32) (val1 p3))) + (val6 (1 : Int32) (val1 p4))) + (val6 (0 : Int32) (val1 p5))) + (val6 (0 : Int32) (val1 p6)))), .val (.int (Int32.ofNat ([(val1 p2), (val1 p3), (val1 p4)] : List Int32).length - ((2 : Int32) * own_cnt ([(val1 p2), (val1 p3), (val1 p4)] : List Int32))))] [(.int ((2 : Int32) * (((((val6 (1 : Int32) (val1 p2)) + (val6 (1 : Int32) (val1 p3))) + (val6 (1 : Int32) (val1 p4))) + (val6 (0 : Int32) (val1 p5))) + (val6 (0 : Int32) (val1 p6))))), (.int (own_n p1)), (.int (Int32.ofNat ([(val1 p2), (val1 p3), (val1 p4)] : List Int32).length - ((2 : Int32) * own_cnt ([(val1 p2), (val1 p3), (val1 p4)] : List Int32))))])) _
    refine XS.isub X19.here hx rfl (hb hby at_168) rfl ?_
    show Steps p.tables e below (T19.setTop (mkF m 169 #[.val (.int p1), .val (.int p2), .val (.int p3), .val (.int p4), .val (.int p5), .val (.int p6), .val (.int (own_n p1)), .val (.int (val1 p2)), .val (.int (val1 p3)), .val (.int (val1 p4)), .val (.int (val1 p5)), .val (.int (val1 p6)), .val (.ref b12), .val (.int (((((val6 (1 : Int32) (val1 p2)) + (val6 (1 : Int32) (val1 p3))) + (val6 (1 : Int32) (val1 p4))) + (val6 (0 : Int32) (val1 p5))) + (val6 (0 : Int32) (val1 p6)))), .val (.int (Int32.ofNat ([(val1 p2), (val1 p3), (val1 p4)] : List Int32).length - ((2 : Int32) * own_cnt ([(val1 p2), (val1 p3), (val1 p4)] : List Int32))))] [(.int ((own_n p1) - ((2 : Int32) * (((((val6 (1 : Int32) (val1 p2)) + (val6 (1 : Int32) (val1 p3))) + (val6 (1 : Int32) (val1 p4))) + (val6 (0 : Int32) (val1 p5))) + (val6 (0 : Int32) (val1 p6)))))), (.int (Int32.ofNat ([(val1 p2), (val1 p3), (val1 p4)] : List Int32).length - ((2 : Int32) * own_cnt ([(val1 p2), (val1 p3), (val1 p4)] : List Int32))))])) _
    refine XS.icmpNo X19.here hx rfl (hb hby at_169) rfl (teq (own_fin3 p1 p2 p3 p4 p5 p6 hn : (Int32.ofNat ([(val1 p2), (val1 p3), (val1 p4)] : List Int32).length - ((2 : Int32) * own_cnt ([(val1 p2), (val1 p3), (val1 p4)] : List Int32))) = ((own_n p1) - ((2 : Int32) * (((((val6 (1 : Int32) (val1 p2)) + (val6 (1 : Int32) (val1 p3))) + (val6 (1 : Int32) (val1 p4))) + (val6 (0 : Int32) (val1 p5))) + (val6 (0 : Int32) (val1 p6))))))).2 ?_
    show Steps p.tables e below (T19.setTop (mkF m 172 #[.val (.int p1), .val (.int p2), .val (.int p3), .val (.int p4), .val (.int p5), .val (.int p6), .val (.int (own_n p1)), .val (.int (val1 p2)), .val (.int (val1 p3)), .val (.int (val1 p4)), .val (.int (val1 p5)), .val (.int (val1 p6)), .val (.ref b12), .val (.int (((((val6 (1 : Int32) (val1 p2)) + (val6 (1 : Int32) (val1 p3))) + (val6 (1 : Int32) (val1 p4))) + (val6 (0 : Int32) (val1 p5))) + (val6 (0 : Int32) (val1 p6)))), .val (.int (Int32.ofNat ([(val1 p2), (val1 p3), (val1 p4)] : List Int32).length - ((2 : Int32) * own_cnt ([(val1 p2), (val1 p3), (val1 p4)] : List Int32))))] [])) _
    refine XS.iconst X19.here hx rfl (hb hby at_172) ?_
    show Steps p.tables e below (T19.setTop (mkF m 173 #[.val (.int p1), .val (.int p2), .val (.int p3), .val (.int p4), .val (.int p5), .val (.int p6), .val (.int (own_n p1)), .val (.int (val1 p2)), .val (.int (val1 p3)), .val (.int (val1 p4)), .val (.int (val1 p5)), .val (.int (val1 p6)), .val (.ref b12), .val (.int (((((val6 (1 : Int32) (val1 p2)) + (val6 (1 : Int32) (val1 p3))) + (val6 (1 : Int32) (val1 p4))) + (val6 (0 : Int32) (val1 p5))) + (val6 (0 : Int32) (val1 p6)))), .val (.int (Int32.ofNat ([(val1 p2), (val1 p3), (val1 p4)] : List Int32).length - ((2 : Int32) * own_cnt ([(val1 p2), (val1 p3), (val1 p4)] : List Int32))))] [(.int (1 : Int32))])) _
    refine XS.goto X19.here hx rfl (pc0 := 173) (pc' := 177) rfl (hb hby at_173) (by decide) (by decide) ?_
    show Steps p.tables e below (T19.setTop (mkF m 177 #[.val (.int p1), .val (.int p2), .val (.int p3), .val (.int p4), .val (.int p5), .val (.int p6), .val (.int (own_n p1)), .val (.int (val1 p2)), .val (.int (val1 p3)), .val (.int (val1 p4)), .val (.int (val1 p5)), .val (.int (val1 p6)), .val (.ref b12), .val (.int (((((val6 (1 : Int32) (val1 p2)) + (val6 (1 : Int32) (val1 p3))) + (val6 (1 : Int32) (val1 p4))) + (val6 (0 : Int32) (val1 p5))) + (val6 (0 : Int32) (val1 p6)))), .val (.int (Int32.ofNat ([(val1 p2), (val1 p3), (val1 p4)] : List Int32).length - ((2 : Int32) * own_cnt ([(val1 p2), (val1 p3), (val1 p4)] : List Int32))))] [(.int (1 : Int32))])) _
    exact retN X19 hx (t := .boolean) Bd.returns (by simp) (hb hby at_177) hr
  · show Q0 Z p1 p2 p3 p4 p5 p6 h0 n0 _ T19.heap _
    exact ⟨rfl, N19⟩
theorem own_all4 (p2 p3 p4 p5 : Int32) : ∀ c ∈ ([(val1 p2), (val1 p3), (val1 p4), (val1 p5)] : List Int32), ¬ c < 0 ∧ ¬ (255 : Int32) < c := by
  intro c hc
  simp only [List.mem_cons, List.not_mem_nil, or_false] at hc
  rcases hc with rfl | rfl | rfl | rfl <;> exact own_rng _
theorem own_fin4 (p1 p2 p3 p4 p5 p6 : Int32) (hn : own_n p1 = (4 : Int32)) : (Int32.ofNat ([(val1 p2), (val1 p3), (val1 p4), (val1 p5)] : List Int32).length - ((2 : Int32) * own_cnt ([(val1 p2), (val1 p3), (val1 p4), (val1 p5)] : List Int32))) = (own_n p1 - ((2 : Int32) * (((((val6 (1 : Int32) (val1 p2)) + (val6 (1 : Int32) (val1 p3))) + (val6 (1 : Int32) (val1 p4))) + (val6 (1 : Int32) (val1 p5))) + (val6 (0 : Int32) (val1 p6))))) := by
  have e : own_cnt ([(val1 p2), (val1 p3), (val1 p4), (val1 p5)] : List Int32) = (((((val6 (1 : Int32) (val1 p2)) + (val6 (1 : Int32) (val1 p3))) + (val6 (1 : Int32) (val1 p4))) + (val6 (1 : Int32) (val1 p5))) + (val6 (0 : Int32) (val1 p6))) := by
    simp only [own_p1, own_p0, own_cnt, Int32.add_zero, Int32.zero_add, Int32.add_assoc]
  rw [e, hn]; rfl

set_option maxRecDepth 65536 in
set_option maxHeartbeats 40000000 in
theorem rm0_4 (l : Launch) (Z : State) (a0 : Array Value) (hw : ∀ d ∈ tables_1, d.before a0 Z = true) (ws : List Jvm.Cond) (p1 : Int32) (p2 : Int32) (p3 : Int32) (p4 : Int32) (p5 : Int32) (p6 : Int32) (h0 : Heap) (n0 : Nat) (Z0 : n0 ≤ h0.size) (G1 : Int32) (O2 : Sta Z Z.heap "java/lang/String" "COMPACT_STRINGS" "Z" (.int G1)) (P5 : ¬ (G1 = (0 : Int32))) (X00 : Old Z n0 h0) (G3 : Value) (O4 : Sta Z Z.heap "jdk/internal/util/Preconditions" "SIOOBE_FORMATTER" "Ljava/util/function/BiFunction;" G3) (rG3 : G3.isRef = true) (hn : own_n p1 = (4 : Int32)) :
    MetFree l x (head1 (Jvm.Cond.code x code maxLocals ret :: ws) room_1) (fun a U => a = #[(.int p1), (.int p2), (.int p3), (.int p4), (.int p5), (.int p6)] ∧ Z.Warmed39 U.vm ∧ U.heap = h0) (fun _ _ _ _ _ => True) (fun _ U o U' => ∃ v L, o = .returned v ∧ Q0 Z p1 p2 p3 p4 p5 p6 h0 n0 v U'.heap L ∧ FrameEnd U o U' L room_1.cells room_1.slots) := by
  refine MetFree.of_bodySF (plainFor_of_name pn_0) hisR ?_
  intro p e s m args below meth c s₁ Bd hml0 hP hK
  obtain ⟨rfl, hZ, hh⟩ := hP
  have hx := Bd.exec
  have hby := Bd.bytes
  have hml : c.maxLocals = 15 := hml0
  have hown : s.vm.findClass "com/example/harburg/harburg/epc/FieldCharacterCountPinLaw" = some m.cls := findClass_of_methodNamed Bd.named
  have hnm := (name_of_methodNamed Bd.named Bd.method).1
  have X0 : Stand p l e room_1 s m #[(.int p1), (.int p2), (.int p3), (.int p4), (.int p5), (.int p6)] below meth c s₁ [] 0 0 := Stand.of_body Bd
  have e0 : s₁.heap = h0 := by rw [← hh, Bd.state]; rfl
  have N0 := Fr.nil n0
  have pre0 : ∀ t, Steps p.tables e below (s₁.setTop (mkF m 0 #[.val (.int p1), .val (.int p2), .val (.int p3), .val (.int p4), .val (.int p5), .val (.int p6), .unset, .unset, .unset, .unset, .unset, .unset, .unset, .unset, .unset] [])) t → Steps p.tables e below (s₁.setTop (entryFrame m #[(.int p1), (.int p2), (.int p3), (.int p4), (.int p5), (.int p6)] maxLocals)) t := fun t k => castTop (ef_0 m p1 p2 p3 p4 p5 p6) k
  obtain ⟨_, _, ⟨T7, L7, k7, n7⟩, -, X7, ⟨Lc7, hQ7, l7, y7, z7⟩, st7⟩ := Jvm.LawKit.callS X0 hx (y := (⟨"com/example/harburg/harburg/epc/FieldCharacterCountPinLaw", "draw", "(I)C"⟩ : MethodName)) hown (mvT hZ (hw _ (List.mem_of_getElem? (i := 1) rfl))) (mvT hZ (hw _ (List.mem_of_getElem? (i := 2) rfl))) (mvT hZ (hw _ (List.mem_of_getElem? (i := 3) rfl))) (mvT hZ (hw _ (List.mem_of_getElem? (i := 4) rfl))) (by decide) (backOf (W := 0) (rm1 l Z a0 hw [] p2 h0 n0 Z0) hZ (hw _ (List.mem_of_getElem? (i := 4) rfl)) (hw _ (List.mem_of_getElem? (i := 3) rfl)) (by decide) (by decide)) (g := (mkF m 10 #[.val (.int p1), .val (.int p2), .val (.int p3), .val (.int p4), .val (.int p5), .val (.int p6), .val (.int (own_n p1)), .unset, .unset, .unset, .unset, .unset, .unset, .unset, .unset] [(.int p2)])) rfl (by rw [hml]; rfl) (argsL := [(.int p2)]) (rest := []) (lenOf pd_0_0 rfl) rfl (by show 2 * 0 + _ ≤ _; exact Nat.le_of_eq rfl) (hb hby at_10) (fun _ _ => ⟨rfl, e0, (by decide : 0 + 0 ≤ _), (by decide : 0 + 0 ≤ _)⟩)
  dsimp only [Pt.U, Pt.locs, Pt.cells, Pt.slots] at X7 l7 y7 z7 st7 hQ7
  subst l7 y7 z7
  obtain ⟨rfl, N7q, w7⟩ := hQ7
  have u7 : T7.heap = h0 := w7
  have N7 := Fr.app N0 N7q
  obtain ⟨_, _, ⟨T8, L8, k8, n8⟩, -, X8, ⟨Lc8, hQ8, l8, y8, z8⟩, st8⟩ := Jvm.LawKit.callS X7 hx (y := (⟨"com/example/harburg/harburg/epc/FieldCharacterCountPinLaw", "draw", "(I)C"⟩ : MethodName)) hown (mvT hZ (hw _ (List.mem_of_getElem? (i := 1) rfl))) (mvT hZ (hw _ (List.mem_of_getElem? (i := 2) rfl))) (mvT hZ (hw _ (List.mem_of_getElem? (i := 3) rfl))) (mvT hZ (hw _ (List.mem_of_getElem? (i := 4) rfl))) (by decide) (backOf (W := 0) (rm1 l Z a0 hw [] p3 T7.heap n0 (by rw [u7]; exact Z0)) hZ (hw _ (List.mem_of_getElem? (i := 4) rfl)) (hw _ (List.mem_of_getElem? (i := 3) rfl)) (by decide) (by decide)) (g := (mkF m 16 #[.val (.int p1), .val (.int p2), .val (.int p3), .val (.int p4), .val (.int p5), .val (.int p6), .val (.int (own_n p1)), .val (.int (val1 p2)), .unset, .unset, .unset, .unset, .unset, .unset, .unset] [(.int p3)])) rfl (by rw [hml]; rfl) (argsL := [(.int p3)]) (rest := []) (lenOf pd_0_0 rfl) rfl (by show 2 * 0 + _ ≤ _; exact Nat.le_of_eq rfl) (hb hby at_16) (fun _ _ => ⟨rfl, rfl, (by decide : 0 + 0 ≤ _), (by decide : 0 + 0 ≤ _)⟩)
  dsimp only [Pt.U, Pt.locs, Pt.cells, Pt.slots] at X8 l8 y8 z8 st8 hQ8
  subst l8 y8 z8
  obtain ⟨rfl, N8q, w8⟩ := hQ8
  have u8 : T8.heap = h0 := w8.trans u7
  have N8 := Fr.app N7 N8q
  obtain ⟨_, _, ⟨T9, L9, k9, n9⟩, -, X9, ⟨Lc9, hQ9, l9, y9, z9⟩, st9⟩ := Jvm.LawKit.callS X8 hx (y := (⟨"com/example/harburg/harburg/epc/FieldCharacterCountPinLaw", "draw", "(I)C"⟩ : MethodName)) hown (mvT hZ (hw _ (List.mem_of_getElem? (i := 1) rfl))) (mvT hZ (hw _ (List.mem_of_getElem? (i := 2) rfl))) (mvT hZ (hw _ (List.mem_of_getElem? (i := 3) rfl))) (mvT hZ (hw _ (List.mem_of_getElem? (i := 4) rfl))) (by decide) (backOf (W := 0) (rm1 l Z a0 hw [] p4 T8.heap n0 (by rw [u8]; exact Z0)) hZ (hw _ (List.mem_of_getElem? (i := 4) rfl)) (hw _ (List.mem_of_getElem? (i := 3) rfl)) (by decide) (by decide)) (g := (mkF m 22 #[.val (.int p1), .val (.int p2), .val (.int p3), .val (.int p4), .val (.int p5), .val (.int p6), .val (.int (own_n p1)), .val (.int (val1 p2)), .val (.int (val1 p3)), .unset, .unset, .unset, .unset, .unset, .unset] [(.int p4)])) rfl (by rw [hml]; rfl) (argsL := [(.int p4)]) (rest := []) (lenOf pd_0_0 rfl) rfl (by show 2 * 0 + _ ≤ _; exact Nat.le_of_eq rfl) (hb hby at_22) (fun _ _ => ⟨rfl, rfl, (by decide : 0 + 0 ≤ _), (by decide : 0 + 0 ≤ _)⟩)
  dsimp only [Pt.U, Pt.locs, Pt.cells, Pt.slots] at X9 l9 y9 z9 st9 hQ9
  subst l9 y9 z9
  obtain ⟨rfl, N9q, w9⟩ := hQ9
  have u9 : T9.heap = h0 := w9.trans u8
  have N9 := Fr.app N8 N9q
  obtain ⟨_, _, ⟨T10, L10, k10, n10⟩, -, X10, ⟨Lc10, hQ10, l10, y10, z10⟩, st10⟩ := Jvm.LawKit.callS X9 hx (y := (⟨"com/example/harburg/harburg/epc/FieldCharacterCountPinLaw", "draw", "(I)C"⟩ : MethodName)) hown (mvT hZ (hw _ (List.mem_of_getElem? (i := 1) rfl))) (mvT hZ (hw _ (List.mem_of_getElem? (i := 2) rfl))) (mvT hZ (hw _ (List.mem_of_getElem? (i := 3) rfl))) (mvT hZ (hw _ (List.mem_of_getElem? (i := 4) rfl))) (by decide) (backOf (W := 0) (rm1 l Z a0 hw [] p5 T9.heap n0 (by rw [u9]; exact Z0)) hZ (hw _ (List.mem_of_getElem? (i := 4) rfl)) (hw _ (List.mem_of_getElem? (i := 3) rfl)) (by decide) (by decide)) (g := (mkF m 29 #[.val (.int p1), .val (.int p2), .val (.int p3), .val (.int p4), .val (.int p5), .val (.int p6), .val (.int (own_n p1)), .val (.int (val1 p2)), .val (.int (val1 p3)), .val (.int (val1 p4)), .unset, .unset, .unset, .unset, .unset] [(.int p5)])) rfl (by rw [hml]; rfl) (argsL := [(.int p5)]) (rest := []) (lenOf pd_0_0 rfl) rfl (by show 2 * 0 + _ ≤ _; exact Nat.le_of_eq rfl) (hb hby at_29) (fun _ _ => ⟨rfl, rfl, (by decide : 0 + 0 ≤ _), (by decide : 0 + 0 ≤ _)⟩)
  dsimp only [Pt.U, Pt.locs, Pt.cells, Pt.slots] at X10 l10 y10 z10 st10 hQ10
  subst l10 y10 z10
  obtain ⟨rfl, N10q, w10⟩ := hQ10
  have u10 : T10.heap = h0 := w10.trans u9
  have N10 := Fr.app N9 N10q
  obtain ⟨_, _, ⟨T11, L11, k11, n11⟩, -, X11, ⟨Lc11, hQ11, l11, y11, z11⟩, st11⟩ := Jvm.LawKit.callS X10 hx (y := (⟨"com/example/harburg/harburg/epc/FieldCharacterCountPinLaw", "draw", "(I)C"⟩ : MethodName)) hown (mvT hZ (hw _ (List.mem_of_getElem? (i := 1) rfl))) (mvT hZ (hw _ (List.mem_of_getElem? (i := 2) rfl))) (mvT hZ (hw _ (List.mem_of_getElem? (i := 3) rfl))) (mvT hZ (hw _ (List.mem_of_getElem? (i := 4) rfl))) (by decide) (backOf (W := 0) (rm1 l Z a0 hw [] p6 T10.heap n0 (by rw [u10]; exact Z0)) hZ (hw _ (List.mem_of_getElem? (i := 4) rfl)) (hw _ (List.mem_of_getElem? (i := 3) rfl)) (by decide) (by decide)) (g := (mkF m 36 #[.val (.int p1), .val (.int p2), .val (.int p3), .val (.int p4), .val (.int p5), .val (.int p6), .val (.int (own_n p1)), .val (.int (val1 p2)), .val (.int (val1 p3)), .val (.int (val1 p4)), .val (.int (val1 p5)), .unset, .unset, .unset, .unset] [(.int p6)])) rfl (by rw [hml]; rfl) (argsL := [(.int p6)]) (rest := []) (lenOf pd_0_0 rfl) rfl (by show 2 * 0 + _ ≤ _; exact Nat.le_of_eq rfl) (hb hby at_36) (fun _ _ => ⟨rfl, rfl, (by decide : 0 + 0 ≤ _), (by decide : 0 + 0 ≤ _)⟩)
  dsimp only [Pt.U, Pt.locs, Pt.cells, Pt.slots] at X11 l11 y11 z11 st11 hQ11
  subst l11 y11 z11
  obtain ⟨rfl, N11q, w11⟩ := hQ11
  have u11 : T11.heap = h0 := w11.trans u10
  have N11 := Fr.app N10 N11q
  obtain ⟨_, _, ⟨T12, L12, k12, n12⟩, -, X12, ⟨Lc12, hQ12, l12, y12, z12⟩, st12⟩ := Jvm.LawKit.callS X11 hx (y := (⟨"com/example/harburg/harburg/epc/FieldCharacterCountPinLaw", "make", "(ICCCCC)Ljava/lang/String;"⟩ : MethodName)) hown (mvT hZ (hw _ (List.mem_of_getElem? (i := 5) rfl))) (mvT hZ (hw _ (List.mem_of_getElem? (i := 6) rfl))) (mvT hZ (hw _ (List.mem_of_getElem? (i := 3) rfl))) (mvT hZ (hw _ (List.mem_of_getElem? (i := 7) rfl))) (by decide) (backOf (W := 0) (rm2_4 l Z a0 hw [] (own_n p1) (val1 p2) (val1 p3) (val1 p4) (val1 p5) (val1 p6) T11.heap n0 (by rw [u11]; exact Z0) G1 O2 P5 (by rw [u11]; exact X00) (own_all4 p2 p3 p4 p5) (by rw [hn]; decide) (by rw [hn]; decide) (by rw [hn]; decide) (by rw [hn]; decide) hn) hZ (hw _ (List.mem_of_getElem? (i := 7) rfl)) (hw _ (List.mem_of_getElem? (i := 3) rfl)) (by decide) (by decide)) (g := (mkF m 53 #[.val (.int p1), .val (.int p2), .val (.int p3), .val (.int p4), .val (.int p5), .val (.int p6), .val (.int (own_n p1)), .val (.int (val1 p2)), .val (.int (val1 p3)), .val (.int (val1 p4)), .val (.int (val1 p5)), .val (.int (val1 p6)), .unset, .unset, .unset] [(.int (val1 p6)), (.int (val1 p5)), (.int (val1 p4)), (.int (val1 p3)), (.int (val1 p2)), (.int (own_n p1))])) rfl (by rw [hml]; rfl) (argsL := [(.int (own_n p1)), (.int (val1 p2)), (.int (val1 p3)), (.int (val1 p4)), (.int (val1 p5)), (.int (val1 p6))]) (rest := []) (lenOf pd_0_1 rfl) rfl (by show 2 * 0 + _ ≤ _; exact Nat.le_of_eq rfl) (hb hby at_53) (fun _ _ => ⟨rfl, rfl, (by decide : 0 + 3 ≤ _), (by decide : 0 + 12 ≤ _)⟩)
  dsimp only [Pt.U, Pt.locs, Pt.cells, Pt.slots] at X12 l12 y12 z12 st12 hQ12
  subst l12 y12 z12
  obtain ⟨b12, rfl, N12q, K12q, S12⟩ := hQ12
  have K12 : Keep h0 T12.heap [] := by have q := K12q; rw [u11] at q; exact q
  have z12 : n0 ≤ T12.heap.size := Nat.le_trans Z0 K12.1
  have XO12 : Old Z n0 T12.heap := X00.keep K12 all0
  have N12 := Fr.app N11 N12q
  obtain ⟨_, _, ⟨T13, L13, k13, n13⟩, -, X13, ⟨Lc13, hQ13, l13, y13, z13⟩, st13⟩ := Jvm.LawKit.callS X12 hx (y := (⟨"com/example/harburg/harburg/epc/FieldCharacterCountPinLaw", "pct", "(ZC)I"⟩ : MethodName)) hown (mvT hZ (hw _ (List.mem_of_getElem? (i := 30) rfl))) (mvT hZ (hw _ (List.mem_of_getElem? (i := 31) rfl))) (mvT hZ (hw _ (List.mem_of_getElem? (i := 3) rfl))) (mvT hZ (hw _ (List.mem_of_getElem? (i := 32) rfl))) (by decide) (backOf (W := 0) (rm6 l Z a0 hw [] (1 : Int32) (val1 p2) T12.heap n0 z12) hZ (hw _ (List.mem_of_getElem? (i := 32) rfl)) (hw _ (List.mem_of_getElem? (i := 3) rfl)) (by decide) (by decide)) (g := (mkF m 70 #[.val (.int p1), .val (.int p2), .val (.int p3), .val (.int p4), .val (.int p5), .val (.int p6), .val (.int (own_n p1)), .val (.int (val1 p2)), .val (.int (val1 p3)), .val (.int (val1 p4)), .val (.int (val1 p5)), .val (.int (val1 p6)), .val (.ref b12), .unset, .unset] [(.int (val1 p2)), (.int (1 : Int32))])) rfl (by rw [hml]; rfl) (argsL := [(.int (1 : Int32)), (.int (val1 p2))]) (rest := []) (lenOf pd_0_5 rfl) rfl (by show 2 * 0 + _ ≤ _; exact Nat.le_of_eq rfl) (hb hby at_70) (fun _ _ => ⟨rfl, rfl, (by decide : 0 + 3 ≤ _), (by decide : 0 + 12 ≤ _)⟩)
  dsimp only [Pt.U, Pt.locs, Pt.cells, Pt.slots] at X13 l13 y13 z13 st13 hQ13
  subst l13 y13 z13
  obtain ⟨rfl, N13q, w13⟩ := hQ13
  have u13 : T13.heap = T12.heap := w13
  have N13 := Fr.app N12 N13q
  obtain ⟨_, _, ⟨T14, L14, k14, n14⟩, -, X14, ⟨Lc14, hQ14, l14, y14, z14⟩, st14⟩ := Jvm.LawKit.callS X13 hx (y := (⟨"com/example/harburg/harburg/epc/FieldCharacterCountPinLaw", "pct", "(ZC)I"⟩ : MethodName)) hown (mvT hZ (hw _ (List.mem_of_getElem? (i := 30) rfl))) (mvT hZ (hw _ (List.mem_of_getElem? (i := 31) rfl))) (mvT hZ (hw _ (List.mem_of_getElem? (i := 3) rfl))) (mvT hZ (hw _ (List.mem_of_getElem? (i := 32) rfl))) (by decide) (backOf (W := 1) (rm6 l Z a0 hw [] (1 : Int32) (val1 p3) T13.heap n0 (by rw [u13]; exact z12)) hZ (hw _ (List.mem_of_getElem? (i := 32) rfl)) (hw _ (List.mem_of_getElem? (i := 3) rfl)) (by decide) (by decide)) (g := (mkF m 86 #[.val (.int p1), .val (.int p2), .val (.int p3), .val (.int p4), .val (.int p5), .val (.int p6), .val (.int (own_n p1)), .val (.int (val1 p2)), .val (.int (val1 p3)), .val (.int (val1 p4)), .val (.int (val1 p5)), .val (.int (val1 p6)), .val (.ref b12), .unset, .unset] [(.int (val1 p3)), (.int (1 : Int32)), (.int (val6 (1 : Int32) (val1 p2)))])) rfl (by rw [hml]; rfl) (argsL := [(.int (1 : Int32)), (.int (val1 p3))]) (rest := [(.int (val6 (1 : Int32) (val1 p2)))]) (lenOf pd_0_5 rfl) rfl (by show 2 * 0 + _ ≤ _; exact Nat.le_of_eq rfl) (hb hby at_86) (fun _ _ => ⟨rfl, rfl, (by decide : 0 + 3 ≤ _), (by decide : 0 + 12 ≤ _)⟩)
  dsimp only [Pt.U, Pt.locs, Pt.cells, Pt.slots] at X14 l14 y14 z14 st14 hQ14
  subst l14 y14 z14
  obtain ⟨rfl, N14q, w14⟩ := hQ14
  have u14 : T14.heap = T12.heap := w14.trans u13
  have N14 := Fr.app N13 N14q
  obtain ⟨_, _, ⟨T15, L15, k15, n15⟩, -, X15, ⟨Lc15, hQ15, l15, y15, z15⟩, st15⟩ := Jvm.LawKit.callS X14 hx (y := (⟨"com/example/harburg/harburg/epc/FieldCharacterCountPinLaw", "pct", "(ZC)I"⟩ : MethodName)) hown (mvT hZ (hw _ (List.mem_of_getElem? (i := 30) rfl))) (mvT hZ (hw _ (List.mem_of_getElem? (i := 31) rfl))) (mvT hZ (hw _ (List.mem_of_getElem? (i := 3) rfl))) (mvT hZ (hw _ (List.mem_of_getElem? (i := 32) rfl))) (by decide) (backOf (W := 1) (rm6 l Z a0 hw [] (1 : Int32) (val1 p4) T14.heap n0 (by rw [u14]; exact z12)) hZ (hw _ (List.mem_of_getElem? (i := 32) rfl)) (hw _ (List.mem_of_getElem? (i := 3) rfl)) (by decide) (by decide)) (g := (mkF m 103 #[.val (.int p1), .val (.int p2), .val (.int p3), .val (.int p4), .val (.int p5), .val (.int p6), .val (.int (own_n p1)), .val (.int (val1 p2)), .val (.int (val1 p3)), .val (.int (val1 p4)), .val (.int (val1 p5)), .val (.int (val1 p6)), .val (.ref b12), .unset, .unset] [(.int (val1 p4)), (.int (1 : Int32)), (.int ((val6 (1 : Int32) (val1 p2)) + (val6 (1 : Int32) (val1 p3))))])) rfl (by rw [hml]; rfl) (argsL := [(.int (1 : Int32)), (.int (val1 p4))]) (rest := [(.int ((val6 (1 : Int32) (val1 p2)) + (val6 (1 : Int32) (val1 p3))))]) (lenOf pd_0_5 rfl) rfl (by show 2 * 0 + _ ≤ _; exact Nat.le_of_eq rfl) (hb hby at_103) (fun _ _ => ⟨rfl, rfl, (by decide : 0 + 3 ≤ _), (by decide : 0 + 12 ≤ _)⟩)
  dsimp only [Pt.U, Pt.locs, Pt.cells, Pt.slots] at X15 l15 y15 z15 st15 hQ15
  subst l15 y15 z15
  obtain ⟨rfl, N15q, w15⟩ := hQ15
  have u15 : T15.heap = T12.heap := w15.trans u14
  have N15 := Fr.app N14 N15q
  obtain ⟨_, _, ⟨T16, L16, k16, n16⟩, -, X16, ⟨Lc16, hQ16, l16, y16, z16⟩, st16⟩ := Jvm.LawKit.callS X15 hx (y := (⟨"com/example/harburg/harburg/epc/FieldCharacterCountPinLaw", "pct", "(ZC)I"⟩ : MethodName)) hown (mvT hZ (hw _ (List.mem_of_getElem? (i := 30) rfl))) (mvT hZ (hw _ (List.mem_of_getElem? (i := 31) rfl))) (mvT hZ (hw _ (List.mem_of_getElem? (i := 3) rfl))) (mvT hZ (hw _ (List.mem_of_getElem? (i := 32) rfl))) (by decide) (backOf (W := 1) (rm6 l Z a0 hw [] (1 : Int32) (val1 p5) T15.heap n0 (by rw [u15]; exact z12)) hZ (hw _ (List.mem_of_getElem? (i := 32) rfl)) (hw _ (List.mem_of_getElem? (i := 3) rfl)) (by decide) (by decide)) (g := (mkF m 120 #[.val (.int p1), .val (.int p2), .val (.int p3), .val (.int p4), .val (.int p5), .val (.int p6), .val (.int (own_n p1)), .val (.int (val1 p2)), .val (.int (val1 p3)), .val (.int (val1 p4)), .val (.int (val1 p5)), .val (.int (val1 p6)), .val (.ref b12), .unset, .unset] [(.int (val1 p5)), (.int (1 : Int32)), (.int (((val6 (1 : Int32) (val1 p2)) + (val6 (1 : Int32) (val1 p3))) + (val6 (1 : Int32) (val1 p4))))])) rfl (by rw [hml]; rfl) (argsL := [(.int (1 : Int32)), (.int (val1 p5))]) (rest := [(.int (((val6 (1 : Int32) (val1 p2)) + (val6 (1 : Int32) (val1 p3))) + (val6 (1 : Int32) (val1 p4))))]) (lenOf pd_0_5 rfl) rfl (by show 2 * 0 + _ ≤ _; exact Nat.le_of_eq rfl) (hb hby at_120) (fun _ _ => ⟨rfl, rfl, (by decide : 0 + 3 ≤ _), (by decide : 0 + 12 ≤ _)⟩)
  dsimp only [Pt.U, Pt.locs, Pt.cells, Pt.slots] at X16 l16 y16 z16 st16 hQ16
  subst l16 y16 z16
  obtain ⟨rfl, N16q, w16⟩ := hQ16
  have u16 : T16.heap = T12.heap := w16.trans u15
  have N16 := Fr.app N15 N16q
  obtain ⟨_, _, ⟨T17, L17, k17, n17⟩, -, X17, ⟨Lc17, hQ17, l17, y17, z17⟩, st17⟩ := Jvm.LawKit.callS X16 hx (y := (⟨"com/example/harburg/harburg/epc/FieldCharacterCountPinLaw", "pct", "(ZC)I"⟩ : MethodName)) hown (mvT hZ (hw _ (List.mem_of_getElem? (i := 30) rfl))) (mvT hZ (hw _ (List.mem_of_getElem? (i := 31) rfl))) (mvT hZ (hw _ (List.mem_of_getElem? (i := 3) rfl))) (mvT hZ (hw _ (List.mem_of_getElem? (i := 32) rfl))) (by decide) (backOf (W := 1) (rm6 l Z a0 hw [] (0 : Int32) (val1 p6) T16.heap n0 (by rw [u16]; exact z12)) hZ (hw _ (List.mem_of_getElem? (i := 32) rfl)) (hw _ (List.mem_of_getElem? (i := 3) rfl)) (by decide) (by decide)) (g := (mkF m 137 #[.val (.int p1), .val (.int p2), .val (.int p3), .val (.int p4), .val (.int p5), .val (.int p6), .val (.int (own_n p1)), .val (.int (val1 p2)), .val (.int (val1 p3)), .val (.int (val1 p4)), .val (.int (val1 p5)), .val (.int (val1 p6)), .val (.ref b12), .unset, .unset] [(.int (val1 p6)), (.int (0 : Int32)), (.int ((((val6 (1 : Int32) (val1 p2)) + (val6 (1 : Int32) (val1 p3))) + (val6 (1 : Int32) (val1 p4))) + (val6 (1 : Int32) (val1 p5))))])) rfl (by rw [hml]; rfl) (argsL := [(.int (0 : Int32)), (.int (val1 p6))]) (rest := [(.int ((((val6 (1 : Int32) (val1 p2)) + (val6 (1 : Int32) (val1 p3))) + (val6 (1 : Int32) (val1 p4))) + (val6 (1 : Int32) (val1 p5))))]) (lenOf pd_0_5 rfl) rfl (by show 2 * 0 + _ ≤ _; exact Nat.le_of_eq rfl) (hb hby at_137) (fun _ _ => ⟨rfl, rfl, (by decide : 0 + 3 ≤ _), (by decide : 0 + 12 ≤ _)⟩)
  dsimp only [Pt.U, Pt.locs, Pt.cells, Pt.slots] at X17 l17 y17 z17 st17 hQ17
  subst l17 y17 z17
  obtain ⟨rfl, N17q, w17⟩ := hQ17
  have u17 : T17.heap = T12.heap := w17.trans u16
  have N17 := Fr.app N16 N17q
  have hln : ∀ d ∈ StrChars.Road.wordsLen, d.before a0 Z = true := fun d hd => hw d ((by decide +kernel : ∀ d ∈ StrChars.Road.wordsLen, d ∈ tables_1) d hd)
  have hch : ∀ d ∈ StrChars.Road.wordsChN, d.before a0 Z = true := fun d hd => hw d ((by decide +kernel : ∀ d ∈ StrChars.Road.wordsChN, d ∈ tables_1) d hd)
  obtain ⟨xS, tS, kS, FvS, FcS, AvS⟩ : own_STR Z T12.heap b12 ([(val1 p2), (val1 p3), (val1 p4), (val1 p5)] : List Int32) := S12
  have xS' : Exa Z T17.heap b12 "java/lang/String" := by rw [u17]; exact xS
  have FvS' : Fld Z T17.heap b12 "java/lang/String" "value" "[B" (.ref tS) := by rw [u17]; exact FvS
  have FcS' : Fld Z T17.heap b12 "java/lang/String" "coder" "B" (.int (0 : Int32)) := by rw [u17]; exact FcS
  have AvS' : Arv Z T17.heap tS kS .byte (Int32.ofNat ([(val1 p2), (val1 p3), (val1 p4), (val1 p5)] : List Int32).length) ((([(val1 p2), (val1 p3), (val1 p4), (val1 p5)] : List Int32).map (fun c => c.toInt8.toInt32)).map Value.int) (.int 0) := by rw [u17]; exact AvS
  have XO' : Old Z n0 T17.heap := by rw [u17]; exact XO12
  obtain ⟨_, _, ⟨T18, L18, k18, n18⟩, -, X18, ⟨Lc18, hQ18, l18, y18, z18⟩, st18⟩ := Jvm.LawKit.callS X17 hx (y := (⟨"com/example/harburg/harburg/epc/EpcScheme$Field", "characterCount", "(Ljava/lang/String;)I"⟩ : MethodName)) hown (mvT hZ (hw _ (List.mem_of_getElem? (i := 33) rfl))) (mvT hZ (hw _ (List.mem_of_getElem? (i := 34) rfl))) (mvT hZ (hw _ (List.mem_of_getElem? (i := 35) rfl))) (mvT hZ (hw _ (List.mem_of_getElem? (i := 36) rfl))) (by decide) (backOf (W := 0) (rm7 l Z a0 hw [] b12 T17.heap n0 (by rw [u17]; exact z12) xS' hln hch ([(val1 p2), (val1 p3), (val1 p4), (val1 p5)] : List Int32) (Nat.le_of_ble_eq_true rfl) (own_all4 p2 p3 p4 p5) tS kS G1 G3 FvS' FcS' AvS' (O2.ext XO'.2) P5 (O4.ext XO'.2) rG3) hZ (hw _ (List.mem_of_getElem? (i := 36) rfl)) (hw _ (List.mem_of_getElem? (i := 35) rfl)) (by decide) (by decide)) (g := (mkF m 145 #[.val (.int p1), .val (.int p2), .val (.int p3), .val (.int p4), .val (.int p5), .val (.int p6), .val (.int (own_n p1)), .val (.int (val1 p2)), .val (.int (val1 p3)), .val (.int (val1 p4)), .val (.int (val1 p5)), .val (.int (val1 p6)), .val (.ref b12), .val (.int (((((val6 (1 : Int32) (val1 p2)) + (val6 (1 : Int32) (val1 p3))) + (val6 (1 : Int32) (val1 p4))) + (val6 (1 : Int32) (val1 p5))) + (val6 (0 : Int32) (val1 p6)))), .unset] [(.ref b12)])) rfl (by rw [hml]; rfl) (argsL := [(.ref b12)]) (rest := []) (lenOf pd_0_6 rfl) rfl (by show 2 * 0 + _ ≤ _; exact Nat.le_of_eq rfl) (hb hby at_145) (fun _ _ => ⟨rfl, rfl, (by decide : 0 + 3 ≤ _), (by decide : 0 + 12 ≤ _)⟩)
  dsimp only [Pt.U, Pt.locs, Pt.cells, Pt.slots] at X18 l18 y18 z18 st18 hQ18
  subst l18 y18 z18
  obtain ⟨rfl, N18q, w18⟩ := hQ18
  have u18 : T18.heap = T12.heap := w18.trans u17
  have N18 := Fr.app N17 N18q
  have xL : Exa Z T18.heap b12 "java/lang/String" := by rw [u18]; exact xS
  obtain ⟨cq19, kq19, q19a, q19b, q19c⟩ := isOf hZ rfl xL
  have FvL : Fld Z T18.heap b12 "java/lang/String" "value" "[B" (.ref tS) := by rw [u18]; exact FvS
  have FcL : Fld Z T18.heap b12 "java/lang/String" "coder" "B" (.int (0 : Int32)) := by rw [u18]; exact FcS
  have AvL : Arv Z T18.heap tS kS .byte (Int32.ofNat ([(val1 p2), (val1 p3), (val1 p4), (val1 p5)] : List Int32).length) ((([(val1 p2), (val1 p3), (val1 p4), (val1 p5)] : List Int32).map (fun c => c.toInt8.toInt32)).map Value.int) (.int 0) := by rw [u18]; exact AvS
  have XOL : Old Z n0 T18.heap := by rw [u18]; exact XO12
  obtain ⟨_, _, ⟨T19, L19, k19, n19⟩, -, X19, ⟨Lc19, hQ19, l19, y19, z19⟩, st19⟩ := X18.virtualBack hx (y := (⟨"java/lang/String", "length", "()I"⟩ : MethodName)) (z := (⟨"java/lang/String", "length", "()I"⟩ : MethodName)) hown (mvT hZ (hw _ (List.mem_of_getElem? (i := 48) rfl))) (mvT hZ (hw _ (List.mem_of_getElem? (i := 38) rfl))) (notFace_of_selects (args := #[]) (mvT hZ (hw _ (List.mem_of_getElem? (i := 40) rfl)))) (mvT hZ (hw _ (List.mem_of_getElem? (i := 40) rfl))) (mvT hZ (hw _ (List.mem_of_getElem? (i := 39) rfl))) (by decide) (StrChars.Road.lenW (W := 0) hZ hln (kI := 4) (hw _ (List.mem_of_getElem? (i := 9) rfl)) xL FvL FcL AvL (StrChars.Road.codOf rfl (fun c hc => (own_all4 p2 p3 p4 p5 c hc).2)) (own_up _ (own_all4 p2 p3 p4 p5)) (O2.ext XOL.2) P5 (Nat.le_of_ble_eq_true rfl) (by decide) (by decide)) q19a q19c (g := (mkF m 152 #[.val (.int p1), .val (.int p2), .val (.int p3), .val (.int p4), .val (.int p5), .val (.int p6), .val (.int (own_n p1)), .val (.int (val1 p2)), .val (.int (val1 p3)), .val (.int (val1 p4)), .val (.int (val1 p5)), .val (.int (val1 p6)), .val (.ref b12), .val (.int (((((val6 (1 : Int32) (val1 p2)) + (val6 (1 : Int32) (val1 p3))) + (val6 (1 : Int32) (val1 p4))) + (val6 (1 : Int32) (val1 p5))) + (val6 (0 : Int32) (val1 p6)))), .val (.int (Int32.ofNat ([(val1 p2), (val1 p3), (val1 p4), (val1 p5)] : List Int32).length - ((2 : Int32) * own_cnt ([(val1 p2), (val1 p3), (val1 p4), (val1 p5)] : List Int32))))] [(.ref b12)])) rfl (by rw [hml]; rfl) (Steps.refl _) (argsL := []) (rest := []) (lenOf pd_0_7 rfl) rfl (by show 2 * 0 + _ ≤ _; exact Nat.le_of_eq rfl) (hb hby at_152) (fun _ _ => ⟨rfl, rfl, (by decide : 0 + 3 ≤ _), (by decide : 0 + 12 ≤ _)⟩)
  dsimp only [Pt.U, Pt.locs, Pt.cells, Pt.slots] at X19 l19 y19 z19 st19 hQ19
  subst l19 y19 z19
  obtain ⟨rfl, rfl, w19⟩ := hQ19
  have N19 := Fr.app N18 (Fr.nil n0)
  obtain ⟨fs, hr, hrun, hended, hW, hsame⟩ := X19.leave (v := some (.int (1 : Int32))) (fun h => by rw [Bd.returns] at h; cases h)
  refine ⟨_, _, pre0 _ ?_, hrun, hended, _, _, rfl, ?_, ⟨_, rfl⟩, hW, hsame.mono (by decide) (by decide)⟩
  · show Steps p.tables e below (s₁.setTop (mkF m 0 #[.val (.int p1), .val (.int p2), .val (.int p3), .val (.int p4), .val (.int p5), .val (.int p6), .unset, .unset, .unset, .unset, .unset, .unset, .unset, .unset, .unset] [])) _
    refine XS.iloadN X0.here hx rfl (hb hby at_0) rfl ?_
    show Steps p.tables e below (s₁.setTop (mkF m 1 #[.val (.int p1), .val (.int p2), .val (.int p3), .val (.int p4), .val (.int p5), .val (.int p6), .unset, .unset, .unset, .unset, .unset, .unset, .unset, .unset, .unset] [(.int p1)])) _
    refine X0.ldcInt hx hown (mvT hZ (hw _ (List.mem_of_getElem? (i := 0) rfl))) (g := (mkF m 1 #[.val (.int p1), .val (.int p2), .val (.int p3), .val (.int p4), .val (.int p5), .val (.int p6), .unset, .unset, .unset, .unset, .unset, .unset, .unset, .unset, .unset] [(.int p1)])) rfl (hb hby at_1) _ ?_
    show Steps p.tables e below (s₁.setTop (mkF m 3 #[.val (.int p1), .val (.int p2), .val (.int p3), .val (.int p4), .val (.int p5), .val (.int p6), .unset, .unset, .unset, .unset, .unset, .unset, .unset, .unset, .unset] [(.int (2147483647 : Int32)), (.int p1)])) _
    refine XS.iand X0.here hx rfl (hb hby at_3) rfl ?_
    show Steps p.tables e below (s₁.setTop (mkF m 4 #[.val (.int p1), .val (.int p2), .val (.int p3), .val (.int p4), .val (.int p5), .val (.int p6), .unset, .unset, .unset, .unset, .unset, .unset, .unset, .unset, .unset] [(.int (p1 &&& (2147483647 : Int32)))])) _
    refine XS.bipush X0.here hx rfl (hb hby at_4) ?_
    show Steps p.tables e below (s₁.setTop (mkF m 6 #[.val (.int p1), .val (.int p2), .val (.int p3), .val (.int p4), .val (.int p5), .val (.int p6), .unset, .unset, .unset, .unset, .unset, .unset, .unset, .unset, .unset] [(.int (6 : Int32)), (.int (p1 &&& (2147483647 : Int32)))])) _
    refine XS.irem X0.here hx rfl (hb hby at_6) rfl (by decide) ?_
    show Steps p.tables e below (s₁.setTop (mkF m 7 #[.val (.int p1), .val (.int p2), .val (.int p3), .val (.int p4), .val (.int p5), .val (.int p6), .unset, .unset, .unset, .unset, .unset, .unset, .unset, .unset, .unset] [(.int (own_n p1))])) _
    refine XS.istore X0.here hx rfl (hb hby at_7) rfl (l' := #[.val (.int p1), .val (.int p2), .val (.int p3), .val (.int p4), .val (.int p5), .val (.int p6), .val (.int (own_n p1)), .unset, .unset, .unset, .unset, .unset, .unset, .unset, .unset]) rfl ?_
    show Steps p.tables e below (s₁.setTop (mkF m 9 #[.val (.int p1), .val (.int p2), .val (.int p3), .val (.int p4), .val (.int p5), .val (.int p6), .val (.int (own_n p1)), .unset, .unset, .unset, .unset, .unset, .unset, .unset, .unset] [])) _
    refine XS.iloadN X0.here hx rfl (hb hby at_9) rfl ?_
    show Steps p.tables e below (s₁.setTop (mkF m 10 #[.val (.int p1), .val (.int p2), .val (.int p3), .val (.int p4), .val (.int p5), .val (.int p6), .val (.int (own_n p1)), .unset, .unset, .unset, .unset, .unset, .unset, .unset, .unset] [(.int p2)])) _
    refine st7 _ ?_
    show Steps p.tables e below (T7.setTop (mkF m 13 #[.val (.int p1), .val (.int p2), .val (.int p3), .val (.int p4), .val (.int p5), .val (.int p6), .val (.int (own_n p1)), .unset, .unset, .unset, .unset, .unset, .unset, .unset, .unset] [(.int (val1 p2))])) _
    refine XS.istore X7.here hx rfl (hb hby at_13) rfl (l' := #[.val (.int p1), .val (.int p2), .val (.int p3), .val (.int p4), .val (.int p5), .val (.int p6), .val (.int (own_n p1)), .val (.int (val1 p2)), .unset, .unset, .unset, .unset, .unset, .unset, .unset]) rfl ?_
    show Steps p.tables e below (T7.setTop (mkF m 15 #[.val (.int p1), .val (.int p2), .val (.int p3), .val (.int p4), .val (.int p5), .val (.int p6), .val (.int (own_n p1)), .val (.int (val1 p2)), .unset, .unset, .unset, .unset, .unset, .unset, .unset] [])) _
    refine XS.iloadN X7.here hx rfl (hb hby at_15) rfl ?_
    show Steps p.tables e below (T7.setTop (mkF m 16 #[.val (.int p1), .val (.int p2), .val (.int p3), .val (.int p4), .val (.int p5), .val (.int p6), .val (.int (own_n p1)), .val (.int (val1 p2)), .unset, .unset, .unset, .unset, .unset, .unset, .unset] [(.int p3)])) _
    refine st8 _ ?_
    show Steps p.tables e below (T8.setTop (mkF m 19 #[.val (.int p1), .val (.int p2), .val (.int p3), .val (.int p4), .val (.int p5), .val (.int p6), .val (.int (own_n p1)), .val (.int (val1 p2)), .unset, .unset, .unset, .unset, .unset, .unset, .unset] [(.int (val1 p3))])) _
    refine XS.istore X8.here hx rfl (hb hby at_19) rfl (l' := #[.val (.int p1), .val (.int p2), .val (.int p3), .val (.int p4), .val (.int p5), .val (.int p6), .val (.int (own_n p1)), .val (.int (val1 p2)), .val (.int (val1 p3)), .unset, .unset, .unset, .unset, .unset, .unset]) rfl ?_
    show Steps p.tables e below (T8.setTop (mkF m 21 #[.val (.int p1), .val (.int p2), .val (.int p3), .val (.int p4), .val (.int p5), .val (.int p6), .val (.int (own_n p1)), .val (.int (val1 p2)), .val (.int (val1 p3)), .unset, .unset, .unset, .unset, .unset, .unset] [])) _
    refine XS.iloadN X8.here hx rfl (hb hby at_21) rfl ?_
    show Steps p.tables e below (T8.setTop (mkF m 22 #[.val (.int p1), .val (.int p2), .val (.int p3), .val (.int p4), .val (.int p5), .val (.int p6), .val (.int (own_n p1)), .val (.int (val1 p2)), .val (.int (val1 p3)), .unset, .unset, .unset, .unset, .unset, .unset] [(.int p4)])) _
    refine st9 _ ?_
    show Steps p.tables e below (T9.setTop (mkF m 25 #[.val (.int p1), .val (.int p2), .val (.int p3), .val (.int p4), .val (.int p5), .val (.int p6), .val (.int (own_n p1)), .val (.int (val1 p2)), .val (.int (val1 p3)), .unset, .unset, .unset, .unset, .unset, .unset] [(.int (val1 p4))])) _
    refine XS.istore X9.here hx rfl (hb hby at_25) rfl (l' := #[.val (.int p1), .val (.int p2), .val (.int p3), .val (.int p4), .val (.int p5), .val (.int p6), .val (.int (own_n p1)), .val (.int (val1 p2)), .val (.int (val1 p3)), .val (.int (val1 p4)), .unset, .unset, .unset, .unset, .unset]) rfl ?_
    show Steps p.tables e below (T9.setTop (mkF m 27 #[.val (.int p1), .val (.int p2), .val (.int p3), .val (.int p4), .val (.int p5), .val (.int p6), .val (.int (own_n p1)), .val (.int (val1 p2)), .val (.int (val1 p3)), .val (.int (val1 p4)), .unset, .unset, .unset, .unset, .unset] [])) _
    refine XS.iload X9.here hx rfl (hb hby at_27) rfl ?_
    show Steps p.tables e below (T9.setTop (mkF m 29 #[.val (.int p1), .val (.int p2), .val (.int p3), .val (.int p4), .val (.int p5), .val (.int p6), .val (.int (own_n p1)), .val (.int (val1 p2)), .val (.int (val1 p3)), .val (.int (val1 p4)), .unset, .unset, .unset, .unset, .unset] [(.int p5)])) _
    refine st10 _ ?_
    show Steps p.tables e below (T10.setTop (mkF m 32 #[.val (.int p1), .val (.int p2), .val (.int p3), .val (.int p4), .val (.int p5), .val (.int p6), .val (.int (own_n p1)), .val (.int (val1 p2)), .val (.int (val1 p3)), .val (.int (val1 p4)), .unset, .unset, .unset, .unset, .unset] [(.int (val1 p5))])) _
    refine XS.istore X10.here hx rfl (hb hby at_32) rfl (l' := #[.val (.int p1), .val (.int p2), .val (.int p3), .val (.int p4), .val (.int p5), .val (.int p6), .val (.int (own_n p1)), .val (.int (val1 p2)), .val (.int (val1 p3)), .val (.int (val1 p4)), .val (.int (val1 p5)), .unset, .unset, .unset, .unset]) rfl ?_
    show Steps p.tables e below (T10.setTop (mkF m 34 #[.val (.int p1), .val (.int p2), .val (.int p3), .val (.int p4), .val (.int p5), .val (.int p6), .val (.int (own_n p1)), .val (.int (val1 p2)), .val (.int (val1 p3)), .val (.int (val1 p4)), .val (.int (val1 p5)), .unset, .unset, .unset, .unset] [])) _
    refine XS.iload X10.here hx rfl (hb hby at_34) rfl ?_
    show Steps p.tables e below (T10.setTop (mkF m 36 #[.val (.int p1), .val (.int p2), .val (.int p3), .val (.int p4), .val (.int p5), .val (.int p6), .val (.int (own_n p1)), .val (.int (val1 p2)), .val (.int (val1 p3)), .val (.int (val1 p4)), .val (.int (val1 p5)), .unset, .unset, .unset, .unset] [(.int p6)])) _
    refine st11 _ ?_
    show Steps p.tables e below (T11.setTop (mkF m 39 #[.val (.int p1), .val (.int p2), .val (.int p3), .val (.int p4), .val (.int p5), .val (.int p6), .val (.int (own_n p1)), .val (.int (val1 p2)), .val (.int (val1 p3)), .val (.int (val1 p4)), .val (.int (val1 p5)), .unset, .unset, .unset, .unset] [(.int (val1 p6))])) _
    refine XS.istore X11.here hx rfl (hb hby at_39) rfl (l' := #[.val (.int p1), .val (.int p2), .val (.int p3), .val (.int p4), .val (.int p5), .val (.int p6), .val (.int (own_n p1)), .val (.int (val1 p2)), .val (.int (val1 p3)), .val (.int (val1 p4)), .val (.int (val1 p5)), .val (.int (val1 p6)), .unset, .unset, .unset]) rfl ?_
    show Steps p.tables e below (T11.setTop (mkF m 41 #[.val (.int p1), .val (.int p2), .val (.int p3), .val (.int p4), .val (.int p5), .val (.int p6), .val (.int (own_n p1)), .val (.int (val1 p2)), .val (.int (val1 p3)), .val (.int (val1 p4)), .val (.int (val1 p5)), .val (.int (val1 p6)), .unset, .unset, .unset] [])) _
    refine XS.iload X11.here hx rfl (hb hby at_41) rfl ?_
    show Steps p.tables e below (T11.setTop (mkF m 43 #[.val (.int p1), .val (.int p2), .val (.int p3), .val (.int p4), .val (.int p5), .val (.int p6), .val (.int (own_n p1)), .val (.int (val1 p2)), .val (.int (val1 p3)), .val (.int (val1 p4)), .val (.int (val1 p5)), .val (.int (val1 p6)), .unset, .unset, .unset] [(.int (own_n p1))])) _
    refine XS.iload X11.here hx rfl (hb hby at_43) rfl ?_
    show Steps p.tables e below (T11.setTop (mkF m 45 #[.val (.int p1), .val (.int p2), .val (.int p3), .val (.int p4), .val (.int p5), .val (.int p6), .val (.int (own_n p1)), .val (.int (val1 p2)), .val (.int (val1 p3)), .val (.int (val1 p4)), .val (.int (val1 p5)), .val (.int (val1 p6)), .unset, .unset, .unset] [(.int (val1 p2)), (.int (own_n p1))])) _
    refine XS.iload X11.here hx rfl (hb hby at_45) rfl ?_
    show Steps p.tables e below (T11.setTop (mkF m 47 #[.val (.int p1), .val (.int p2), .val (.int p3), .val (.int p4), .val (.int p5), .val (.int p6), .val (.int (own_n p1)), .val (.int (val1 p2)), .val (.int (val1 p3)), .val (.int (val1 p4)), .val (.int (val1 p5)), .val (.int (val1 p6)), .unset, .unset, .unset] [(.int (val1 p3)), (.int (val1 p2)), (.int (own_n p1))])) _
    refine XS.iload X11.here hx rfl (hb hby at_47) rfl ?_
    show Steps p.tables e below (T11.setTop (mkF m 49 #[.val (.int p1), .val (.int p2), .val (.int p3), .val (.int p4), .val (.int p5), .val (.int p6), .val (.int (own_n p1)), .val (.int (val1 p2)), .val (.int (val1 p3)), .val (.int (val1 p4)), .val (.int (val1 p5)), .val (.int (val1 p6)), .unset, .unset, .unset] [(.int (val1 p4)), (.int (val1 p3)), (.int (val1 p2)), (.int (own_n p1))])) _
    refine XS.iload X11.here hx rfl (hb hby at_49) rfl ?_
    show Steps p.tables e below (T11.setTop (mkF m 51 #[.val (.int p1), .val (.int p2), .val (.int p3), .val (.int p4), .val (.int p5), .val (.int p6), .val (.int (own_n p1)), .val (.int (val1 p2)), .val (.int (val1 p3)), .val (.int (val1 p4)), .val (.int (val1 p5)), .val (.int (val1 p6)), .unset, .unset, .unset] [(.int (val1 p5)), (.int (val1 p4)), (.int (val1 p3)), (.int (val1 p2)), (.int (own_n p1))])) _
    refine XS.iload X11.here hx rfl (hb hby at_51) rfl ?_
    show Steps p.tables e below (T11.setTop (mkF m 53 #[.val (.int p1), .val (.int p2), .val (.int p3), .val (.int p4), .val (.int p5), .val (.int p6), .val (.int (own_n p1)), .val (.int (val1 p2)), .val (.int (val1 p3)), .val (.int (val1 p4)), .val (.int (val1 p5)), .val (.int (val1 p6)), .unset, .unset, .unset] [(.int (val1 p6)), (.int (val1 p5)), (.int (val1 p4)), (.int (val1 p3)), (.int (val1 p2)), (.int (own_n p1))])) _
    refine st12 _ ?_
    show Steps p.tables e below (T12.setTop (mkF m 56 #[.val (.int p1), .val (.int p2), .val (.int p3), .val (.int p4), .val (.int p5), .val (.int p6), .val (.int (own_n p1)), .val (.int (val1 p2)), .val (.int (val1 p3)), .val (.int (val1 p4)), .val (.int (val1 p5)), .val (.int (val1 p6)), .unset, .unset, .unset] [(.ref b12)])) _
    refine XS.astore X12.here hx rfl (hb hby at_56) rfl rfl (l' := #[.val (.int p1), .val (.int p2), .val (.int p3), .val (.int p4), .val (.int p5), .val (.int p6), .val (.int (own_n p1)), .val (.int (val1 p2)), .val (.int (val1 p3)), .val (.int (val1 p4)), .val (.int (val1 p5)), .val (.int (val1 p6)), .val (.ref b12), .unset, .unset]) rfl ?_
    show Steps p.tables e below (T12.setTop (mkF m 58 #[.val (.int p1), .val (.int p2), .val (.int p3), .val (.int p4), .val (.int p5), .val (.int p6), .val (.int (own_n p1)), .val (.int (val1 p2)), .val (.int (val1 p3)), .val (.int (val1 p4)), .val (.int (val1 p5)), .val (.int (val1 p6)), .val (.ref b12), .unset, .unset] [])) _
    refine XS.iload X12.here hx rfl (hb hby at_58) rfl ?_
    show Steps p.tables e below (T12.setTop (mkF m 60 #[.val (.int p1), .val (.int p2), .val (.int p3), .val (.int p4), .val (.int p5), .val (.int p6), .val (.int (own_n p1)), .val (.int (val1 p2)), .val (.int (val1 p3)), .val (.int (val1 p4)), .val (.int (val1 p5)), .val (.int (val1 p6)), .val (.ref b12), .unset, .unset] [(.int (own_n p1))])) _
    refine XS.ifNo X12.here hx rfl (hb hby at_60) rfl ((if0 _ _).trans (tlt (by rw [hn]; decide)).2.2.2) ?_
    show Steps p.tables e below (T12.setTop (mkF m 63 #[.val (.int p1), .val (.int p2), .val (.int p3), .val (.int p4), .val (.int p5), .val (.int p6), .val (.int (own_n p1)), .val (.int (val1 p2)), .val (.int (val1 p3)), .val (.int (val1 p4)), .val (.int (val1 p5)), .val (.int (val1 p6)), .val (.ref b12), .unset, .unset] [])) _
    refine XS.iconst X12.here hx rfl (hb hby at_63) ?_
    show Steps p.tables e below (T12.setTop (mkF m 64 #[.val (.int p1), .val (.int p2), .val (.int p3), .val (.int p4), .val (.int p5), .val (.int p6), .val (.int (own_n p1)), .val (.int (val1 p2)), .val (.int (val1 p3)), .val (.int (val1 p4)), .val (.int (val1 p5)), .val (.int (val1 p6)), .val (.ref b12), .unset, .unset] [(.int (1 : Int32))])) _
    refine XS.goto X12.here hx rfl (pc0 := 64) (pc' := 68) rfl (hb hby at_64) (by decide) (by decide) ?_
    show Steps p.tables e below (T12.setTop (mkF m 68 #[.val (.int p1), .val (.int p2), .val (.int p3), .val (.int p4), .val (.int p5), .val (.int p6), .val (.int (own_n p1)), .val (.int (val1 p2)), .val (.int (val1 p3)), .val (.int (val1 p4)), .val (.int (val1 p5)), .val (.int (val1 p6)), .val (.ref b12), .unset, .unset] [(.int (1 : Int32))])) _
    refine XS.iload X12.here hx rfl (hb hby at_68) rfl ?_
    show Steps p.tables e below (T12.setTop (mkF m 70 #[.val (.int p1), .val (.int p2), .val (.int p3), .val (.int p4), .val (.int p5), .val (.int p6), .val (.int (own_n p1)), .val (.int (val1 p2)), .val (.int (val1 p3)), .val (.int (val1 p4)), .val (.int (val1 p5)), .val (.int (val1 p6)), .val (.ref b12), .unset, .unset] [(.int (val1 p2)), (.int (1 : Int32))])) _
    refine st13 _ ?_
    show Steps p.tables e below (T13.setTop (mkF m 73 #[.val (.int p1), .val (.int p2), .val (.int p3), .val (.int p4), .val (.int p5), .val (.int p6), .val (.int (own_n p1)), .val (.int (val1 p2)), .val (.int (val1 p3)), .val (.int (val1 p4)), .val (.int (val1 p5)), .val (.int (val1 p6)), .val (.ref b12), .unset, .unset] [(.int (val6 (1 : Int32) (val1 p2)))])) _
    refine XS.iload X13.here hx rfl (hb hby at_73) rfl ?_
    show Steps p.tables e below (T13.setTop (mkF m 75 #[.val (.int p1), .val (.int p2), .val (.int p3), .val (.int p4), .val (.int p5), .val (.int p6), .val (.int (own_n p1)), .val (.int (val1 p2)), .val (.int (val1 p3)), .val (.int (val1 p4)), .val (.int (val1 p5)), .val (.int (val1 p6)), .val (.ref b12), .unset, .unset] [(.int (own_n p1)), (.int (val6 (1 : Int32) (val1 p2)))])) _
    refine XS.iconst X13.here hx rfl (hb hby at_75) ?_
    show Steps p.tables e below (T13.setTop (mkF m 76 #[.val (.int p1), .val (.int p2), .val (.int p3), .val (.int p4), .val (.int p5), .val (.int p6), .val (.int (own_n p1)), .val (.int (val1 p2)), .val (.int (val1 p3)), .val (.int (val1 p4)), .val (.int (val1 p5)), .val (.int (val1 p6)), .val (.ref b12), .unset, .unset] [(.int (1 : Int32)), (.int (own_n p1)), (.int (val6 (1 : Int32) (val1 p2)))])) _
    refine XS.icmpNo X13.here hx rfl (hb hby at_76) rfl (tlt (by rw [hn]; decide)).2.2.2 ?_
    show Steps p.tables e below (T13.setTop (mkF m 79 #[.val (.int p1), .val (.int p2), .val (.int p3), .val (.int p4), .val (.int p5), .val (.int p6), .val (.int (own_n p1)), .val (.int (val1 p2)), .val (.int (val1 p3)), .val (.int (val1 p4)), .val (.int (val1 p5)), .val (.int (val1 p6)), .val (.ref b12), .unset, .unset] [(.int (val6 (1 : Int32) (val1 p2)))])) _
    refine XS.iconst X13.here hx rfl (hb hby at_79) ?_
    show Steps p.tables e below (T13.setTop (mkF m 80 #[.val (.int p1), .val (.int p2), .val (.int p3), .val (.int p4), .val (.int p5), .val (.int p6), .val (.int (own_n p1)), .val (.int (val1 p2)), .val (.int (val1 p3)), .val (.int (val1 p4)), .val (.int (val1 p5)), .val (.int (val1 p6)), .val (.ref b12), .unset, .unset] [(.int (1 : Int32)), (.int (val6 (1 : Int32) (val1 p2)))])) _
    refine XS.goto X13.here hx rfl (pc0 := 80) (pc' := 84) rfl (hb hby at_80) (by decide) (by decide) ?_
    show Steps p.tables e below (T13.setTop (mkF m 84 #[.val (.int p1), .val (.int p2), .val (.int p3), .val (.int p4), .val (.int p5), .val (.int p6), .val (.int (own_n p1)), .val (.int (val1 p2)), .val (.int (val1 p3)), .val (.int (val1 p4)), .val (.int (val1 p5)), .val (.int (val1 p6)), .val (.ref b12), .unset, .unset] [(.int (1 : Int32)), (.int (val6 (1 : Int32) (val1 p2)))])) _
    refine XS.iload X13.here hx rfl (hb hby at_84) rfl ?_
    show Steps p.tables e below (T13.setTop (mkF m 86 #[.val (.int p1), .val (.int p2), .val (.int p3), .val (.int p4), .val (.int p5), .val (.int p6), .val (.int (own_n p1)), .val (.int (val1 p2)), .val (.int (val1 p3)), .val (.int (val1 p4)), .val (.int (val1 p5)), .val (.int (val1 p6)), .val (.ref b12), .unset, .unset] [(.int (val1 p3)), (.int (1 : Int32)), (.int (val6 (1 : Int32) (val1 p2)))])) _
    refine st14 _ ?_
    show Steps p.tables e below (T14.setTop (mkF m 89 #[.val (.int p1), .val (.int p2), .val (.int p3), .val (.int p4), .val (.int p5), .val (.int p6), .val (.int (own_n p1)), .val (.int (val1 p2)), .val (.int (val1 p3)), .val (.int (val1 p4)), .val (.int (val1 p5)), .val (.int (val1 p6)), .val (.ref b12), .unset, .unset] [(.int (val6 (1 : Int32) (val1 p3))), (.int (val6 (1 : Int32) (val1 p2)))])) _
    refine XS.iadd X14.here hx rfl (hb hby at_89) rfl ?_
    show Steps p.tables e below (T14.setTop (mkF m 90 #[.val (.int p1), .val (.int p2), .val (.int p3), .val (.int p4), .val (.int p5), .val (.int p6), .val (.int (own_n p1)), .val (.int (val1 p2)), .val (.int (val1 p3)), .val (.int (val1 p4)), .val (.int (val1 p5)), .val (.int (val1 p6)), .val (.ref b12), .unset, .unset] [(.int ((val6 (1 : Int32) (val1 p2)) + (val6 (1 : Int32) (val1 p3))))])) _
    refine XS.iload X14.here hx rfl (hb hby at_90) rfl ?_
    show Steps p.tables e below (T14.setTop (mkF m 92 #[.val (.int p1), .val (.int p2), .val (.int p3), .val (.int p4), .val (.int p5), .val (.int p6), .val (.int (own_n p1)), .val (.int (val1 p2)), .val (.int (val1 p3)), .val (.int (val1 p4)), .val (.int (val1 p5)), .val (.int (val1 p6)), .val (.ref b12), .unset, .unset] [(.int (own_n p1)), (.int ((val6 (1 : Int32) (val1 p2)) + (val6 (1 : Int32) (val1 p3))))])) _
    refine XS.iconst X14.here hx rfl (hb hby at_92) ?_
    show Steps p.tables e below (T14.setTop (mkF m 93 #[.val (.int p1), .val (.int p2), .val (.int p3), .val (.int p4), .val (.int p5), .val (.int p6), .val (.int (own_n p1)), .val (.int (val1 p2)), .val (.int (val1 p3)), .val (.int (val1 p4)), .val (.int (val1 p5)), .val (.int (val1 p6)), .val (.ref b12), .unset, .unset] [(.int (2 : Int32)), (.int (own_n p1)), (.int ((val6 (1 : Int32) (val1 p2)) + (val6 (1 : Int32) (val1 p3))))])) _
    refine XS.icmpNo X14.here hx rfl (hb hby at_93) rfl (tlt (by rw [hn]; decide)).2.2.2 ?_
    show Steps p.tables e below (T14.setTop (mkF m 96 #[.val (.int p1), .val (.int p2), .val (.int p3), .val (.int p4), .val (.int p5), .val (.int p6), .val (.int (own_n p1)), .val (.int (val1 p2)), .val (.int (val1 p3)), .val (.int (val1 p4)), .val (.int (val1 p5)), .val (.int (val1 p6)), .val (.ref b12), .unset, .unset] [(.int ((val6 (1 : Int32) (val1 p2)) + (val6 (1 : Int32) (val1 p3))))])) _
    refine XS.iconst X14.here hx rfl (hb hby at_96) ?_
    show Steps p.tables e below (T14.setTop (mkF m 97 #[.val (.int p1), .val (.int p2), .val (.int p3), .val (.int p4), .val (.int p5), .val (.int p6), .val (.int (own_n p1)), .val (.int (val1 p2)), .val (.int (val1 p3)), .val (.int (val1 p4)), .val (.int (val1 p5)), .val (.int (val1 p6)), .val (.ref b12), .unset, .unset] [(.int (1 : Int32)), (.int ((val6 (1 : Int32) (val1 p2)) + (val6 (1 : Int32) (val1 p3))))])) _
    refine XS.goto X14.here hx rfl (pc0 := 97) (pc' := 101) rfl (hb hby at_97) (by decide) (by decide) ?_
    show Steps p.tables e below (T14.setTop (mkF m 101 #[.val (.int p1), .val (.int p2), .val (.int p3), .val (.int p4), .val (.int p5), .val (.int p6), .val (.int (own_n p1)), .val (.int (val1 p2)), .val (.int (val1 p3)), .val (.int (val1 p4)), .val (.int (val1 p5)), .val (.int (val1 p6)), .val (.ref b12), .unset, .unset] [(.int (1 : Int32)), (.int ((val6 (1 : Int32) (val1 p2)) + (val6 (1 : Int32) (val1 p3))))])) _
    refine XS.iload X14.here hx rfl (hb hby at_101) rfl ?_
    show Steps p.tables e below (T14.setTop (mkF m 103 #[.val (.int p1), .val (.int p2), .val (.int p3), .val (.int p4), .val (.int p5), .val (.int p6), .val (.int (own_n p1)), .val (.int (val1 p2)), .val (.int (val1 p3)), .val (.int (val1 p4)), .val (.int (val1 p5)), .val (.int (val1 p6)), .val (.ref b12), .unset, .unset] [(.int (val1 p4)), (.int (1 : Int32)), (.int ((val6 (1 : Int32) (val1 p2)) + (val6 (1 : Int32) (val1 p3))))])) _
    refine st15 _ ?_
    show Steps p.tables e below (T15.setTop (mkF m 106 #[.val (.int p1), .val (.int p2), .val (.int p3), .val (.int p4), .val (.int p5), .val (.int p6), .val (.int (own_n p1)), .val (.int (val1 p2)), .val (.int (val1 p3)), .val (.int (val1 p4)), .val (.int (val1 p5)), .val (.int (val1 p6)), .val (.ref b12), .unset, .unset] [(.int (val6 (1 : Int32) (val1 p4))), (.int ((val6 (1 : Int32) (val1 p2)) + (val6 (1 : Int32) (val1 p3))))])) _
    refine XS.iadd X15.here hx rfl (hb hby at_106) rfl ?_
    show Steps p.tables e below (T15.setTop (mkF m 107 #[.val (.int p1), .val (.int p2), .val (.int p3), .val (.int p4), .val (.int p5), .val (.int p6), .val (.int (own_n p1)), .val (.int (val1 p2)), .val (.int (val1 p3)), .val (.int (val1 p4)), .val (.int (val1 p5)), .val (.int (val1 p6)), .val (.ref b12), .unset, .unset] [(.int (((val6 (1 : Int32) (val1 p2)) + (val6 (1 : Int32) (val1 p3))) + (val6 (1 : Int32) (val1 p4))))])) _
    refine XS.iload X15.here hx rfl (hb hby at_107) rfl ?_
    show Steps p.tables e below (T15.setTop (mkF m 109 #[.val (.int p1), .val (.int p2), .val (.int p3), .val (.int p4), .val (.int p5), .val (.int p6), .val (.int (own_n p1)), .val (.int (val1 p2)), .val (.int (val1 p3)), .val (.int (val1 p4)), .val (.int (val1 p5)), .val (.int (val1 p6)), .val (.ref b12), .unset, .unset] [(.int (own_n p1)), (.int (((val6 (1 : Int32) (val1 p2)) + (val6 (1 : Int32) (val1 p3))) + (val6 (1 : Int32) (val1 p4))))])) _
    refine XS.iconst X15.here hx rfl (hb hby at_109) ?_
    show Steps p.tables e below (T15.setTop (mkF m 110 #[.val (.int p1), .val (.int p2), .val (.int p3), .val (.int p4), .val (.int p5), .val (.int p6), .val (.int (own_n p1)), .val (.int (val1 p2)), .val (.int (val1 p3)), .val (.int (val1 p4)), .val (.int (val1 p5)), .val (.int (val1 p6)), .val (.ref b12), .unset, .unset] [(.int (3 : Int32)), (.int (own_n p1)), (.int (((val6 (1 : Int32) (val1 p2)) + (val6 (1 : Int32) (val1 p3))) + (val6 (1 : Int32) (val1 p4))))])) _
    refine XS.icmpNo X15.here hx rfl (hb hby at_110) rfl (tlt (by rw [hn]; decide)).2.2.2 ?_
    show Steps p.tables e below (T15.setTop (mkF m 113 #[.val (.int p1), .val (.int p2), .val (.int p3), .val (.int p4), .val (.int p5), .val (.int p6), .val (.int (own_n p1)), .val (.int (val1 p2)), .val (.int (val1 p3)), .val (.int (val1 p4)), .val (.int (val1 p5)), .val (.int (val1 p6)), .val (.ref b12), .unset, .unset] [(.int (((val6 (1 : Int32) (val1 p2)) + (val6 (1 : Int32) (val1 p3))) + (val6 (1 : Int32) (val1 p4))))])) _
    refine XS.iconst X15.here hx rfl (hb hby at_113) ?_
    show Steps p.tables e below (T15.setTop (mkF m 114 #[.val (.int p1), .val (.int p2), .val (.int p3), .val (.int p4), .val (.int p5), .val (.int p6), .val (.int (own_n p1)), .val (.int (val1 p2)), .val (.int (val1 p3)), .val (.int (val1 p4)), .val (.int (val1 p5)), .val (.int (val1 p6)), .val (.ref b12), .unset, .unset] [(.int (1 : Int32)), (.int (((val6 (1 : Int32) (val1 p2)) + (val6 (1 : Int32) (val1 p3))) + (val6 (1 : Int32) (val1 p4))))])) _
    refine XS.goto X15.here hx rfl (pc0 := 114) (pc' := 118) rfl (hb hby at_114) (by decide) (by decide) ?_
    show Steps p.tables e below (T15.setTop (mkF m 118 #[.val (.int p1), .val (.int p2), .val (.int p3), .val (.int p4), .val (.int p5), .val (.int p6), .val (.int (own_n p1)), .val (.int (val1 p2)), .val (.int (val1 p3)), .val (.int (val1 p4)), .val (.int (val1 p5)), .val (.int (val1 p6)), .val (.ref b12), .unset, .unset] [(.int (1 : Int32)), (.int (((val6 (1 : Int32) (val1 p2)) + (val6 (1 : Int32) (val1 p3))) + (val6 (1 : Int32) (val1 p4))))])) _
    refine XS.iload X15.here hx rfl (hb hby at_118) rfl ?_
    show Steps p.tables e below (T15.setTop (mkF m 120 #[.val (.int p1), .val (.int p2), .val (.int p3), .val (.int p4), .val (.int p5), .val (.int p6), .val (.int (own_n p1)), .val (.int (val1 p2)), .val (.int (val1 p3)), .val (.int (val1 p4)), .val (.int (val1 p5)), .val (.int (val1 p6)), .val (.ref b12), .unset, .unset] [(.int (val1 p5)), (.int (1 : Int32)), (.int (((val6 (1 : Int32) (val1 p2)) + (val6 (1 : Int32) (val1 p3))) + (val6 (1 : Int32) (val1 p4))))])) _
    refine st16 _ ?_
    show Steps p.tables e below (T16.setTop (mkF m 123 #[.val (.int p1), .val (.int p2), .val (.int p3), .val (.int p4), .val (.int p5), .val (.int p6), .val (.int (own_n p1)), .val (.int (val1 p2)), .val (.int (val1 p3)), .val (.int (val1 p4)), .val (.int (val1 p5)), .val (.int (val1 p6)), .val (.ref b12), .unset, .unset] [(.int (val6 (1 : Int32) (val1 p5))), (.int (((val6 (1 : Int32) (val1 p2)) + (val6 (1 : Int32) (val1 p3))) + (val6 (1 : Int32) (val1 p4))))])) _
    refine XS.iadd X16.here hx rfl (hb hby at_123) rfl ?_
    show Steps p.tables e below (T16.setTop (mkF m 124 #[.val (.int p1), .val (.int p2), .val (.int p3), .val (.int p4), .val (.int p5), .val (.int p6), .val (.int (own_n p1)), .val (.int (val1 p2)), .val (.int (val1 p3)), .val (.int (val1 p4)), .val (.int (val1 p5)), .val (.int (val1 p6)), .val (.ref b12), .unset, .unset] [(.int ((((val6 (1 : Int32) (val1 p2)) + (val6 (1 : Int32) (val1 p3))) + (val6 (1 : Int32) (val1 p4))) + (val6 (1 : Int32) (val1 p5))))])) _
    refine XS.iload X16.here hx rfl (hb hby at_124) rfl ?_
    show Steps p.tables e below (T16.setTop (mkF m 126 #[.val (.int p1), .val (.int p2), .val (.int p3), .val (.int p4), .val (.int p5), .val (.int p6), .val (.int (own_n p1)), .val (.int (val1 p2)), .val (.int (val1 p3)), .val (.int (val1 p4)), .val (.int (val1 p5)), .val (.int (val1 p6)), .val (.ref b12), .unset, .unset] [(.int (own_n p1)), (.int ((((val6 (1 : Int32) (val1 p2)) + (val6 (1 : Int32) (val1 p3))) + (val6 (1 : Int32) (val1 p4))) + (val6 (1 : Int32) (val1 p5))))])) _
    refine XS.iconst X16.here hx rfl (hb hby at_126) ?_
    show Steps p.tables e below (T16.setTop (mkF m 127 #[.val (.int p1), .val (.int p2), .val (.int p3), .val (.int p4), .val (.int p5), .val (.int p6), .val (.int (own_n p1)), .val (.int (val1 p2)), .val (.int (val1 p3)), .val (.int (val1 p4)), .val (.int (val1 p5)), .val (.int (val1 p6)), .val (.ref b12), .unset, .unset] [(.int (4 : Int32)), (.int (own_n p1)), (.int ((((val6 (1 : Int32) (val1 p2)) + (val6 (1 : Int32) (val1 p3))) + (val6 (1 : Int32) (val1 p4))) + (val6 (1 : Int32) (val1 p5))))])) _
    refine XS.icmpYes X16.here hx rfl (pc0 := 127) (pc' := 134) rfl (hb hby at_127) rfl (flt (by rw [hn]; decide)).2.2.2 (by decide) (by decide) ?_
    show Steps p.tables e below (T16.setTop (mkF m 134 #[.val (.int p1), .val (.int p2), .val (.int p3), .val (.int p4), .val (.int p5), .val (.int p6), .val (.int (own_n p1)), .val (.int (val1 p2)), .val (.int (val1 p3)), .val (.int (val1 p4)), .val (.int (val1 p5)), .val (.int (val1 p6)), .val (.ref b12), .unset, .unset] [(.int ((((val6 (1 : Int32) (val1 p2)) + (val6 (1 : Int32) (val1 p3))) + (val6 (1 : Int32) (val1 p4))) + (val6 (1 : Int32) (val1 p5))))])) _
    refine XS.iconst X16.here hx rfl (hb hby at_134) ?_
    show Steps p.tables e below (T16.setTop (mkF m 135 #[.val (.int p1), .val (.int p2), .val (.int p3), .val (.int p4), .val (.int p5), .val (.int p6), .val (.int (own_n p1)), .val (.int (val1 p2)), .val (.int (val1 p3)), .val (.int (val1 p4)), .val (.int (val1 p5)), .val (.int (val1 p6)), .val (.ref b12), .unset, .unset] [(.int (0 : Int32)), (.int ((((val6 (1 : Int32) (val1 p2)) + (val6 (1 : Int32) (val1 p3))) + (val6 (1 : Int32) (val1 p4))) + (val6 (1 : Int32) (val1 p5))))])) _
    refine XS.iload X16.here hx rfl (hb hby at_135) rfl ?_
    show Steps p.tables e below (T16.setTop (mkF m 137 #[.val (.int p1), .val (.int p2), .val (.int p3), .val (.int p4), .val (.int p5), .val (.int p6), .val (.int (own_n p1)), .val (.int (val1 p2)), .val (.int (val1 p3)), .val (.int (val1 p4)), .val (.int (val1 p5)), .val (.int (val1 p6)), .val (.ref b12), .unset, .unset] [(.int (val1 p6)), (.int (0 : Int32)), (.int ((((val6 (1 : Int32) (val1 p2)) + (val6 (1 : Int32) (val1 p3))) + (val6 (1 : Int32) (val1 p4))) + (val6 (1 : Int32) (val1 p5))))])) _
    refine st17 _ ?_
    show Steps p.tables e below (T17.setTop (mkF m 140 #[.val (.int p1), .val (.int p2), .val (.int p3), .val (.int p4), .val (.int p5), .val (.int p6), .val (.int (own_n p1)), .val (.int (val1 p2)), .val (.int (val1 p3)), .val (.int (val1 p4)), .val (.int (val1 p5)), .val (.int (val1 p6)), .val (.ref b12), .unset, .unset] [(.int (val6 (0 : Int32) (val1 p6))), (.int ((((val6 (1 : Int32) (val1 p2)) + (val6 (1 : Int32) (val1 p3))) + (val6 (1 : Int32) (val1 p4))) + (val6 (1 : Int32) (val1 p5))))])) _
    refine XS.iadd X17.here hx rfl (hb hby at_140) rfl ?_
    show Steps p.tables e below (T17.setTop (mkF m 141 #[.val (.int p1), .val (.int p2), .val (.int p3), .val (.int p4), .val (.int p5), .val (.int p6), .val (.int (own_n p1)), .val (.int (val1 p2)), .val (.int (val1 p3)), .val (.int (val1 p4)), .val (.int (val1 p5)), .val (.int (val1 p6)), .val (.ref b12), .unset, .unset] [(.int (((((val6 (1 : Int32) (val1 p2)) + (val6 (1 : Int32) (val1 p3))) + (val6 (1 : Int32) (val1 p4))) + (val6 (1 : Int32) (val1 p5))) + (val6 (0 : Int32) (val1 p6))))])) _
    refine XS.istore X17.here hx rfl (hb hby at_141) rfl (l' := #[.val (.int p1), .val (.int p2), .val (.int p3), .val (.int p4), .val (.int p5), .val (.int p6), .val (.int (own_n p1)), .val (.int (val1 p2)), .val (.int (val1 p3)), .val (.int (val1 p4)), .val (.int (val1 p5)), .val (.int (val1 p6)), .val (.ref b12), .val (.int (((((val6 (1 : Int32) (val1 p2)) + (val6 (1 : Int32) (val1 p3))) + (val6 (1 : Int32) (val1 p4))) + (val6 (1 : Int32) (val1 p5))) + (val6 (0 : Int32) (val1 p6)))), .unset]) rfl ?_
    show Steps p.tables e below (T17.setTop (mkF m 143 #[.val (.int p1), .val (.int p2), .val (.int p3), .val (.int p4), .val (.int p5), .val (.int p6), .val (.int (own_n p1)), .val (.int (val1 p2)), .val (.int (val1 p3)), .val (.int (val1 p4)), .val (.int (val1 p5)), .val (.int (val1 p6)), .val (.ref b12), .val (.int (((((val6 (1 : Int32) (val1 p2)) + (val6 (1 : Int32) (val1 p3))) + (val6 (1 : Int32) (val1 p4))) + (val6 (1 : Int32) (val1 p5))) + (val6 (0 : Int32) (val1 p6)))), .unset] [])) _
    refine XS.aload X17.here hx rfl (hb hby at_143) rfl rfl ?_
    show Steps p.tables e below (T17.setTop (mkF m 145 #[.val (.int p1), .val (.int p2), .val (.int p3), .val (.int p4), .val (.int p5), .val (.int p6), .val (.int (own_n p1)), .val (.int (val1 p2)), .val (.int (val1 p3)), .val (.int (val1 p4)), .val (.int (val1 p5)), .val (.int (val1 p6)), .val (.ref b12), .val (.int (((((val6 (1 : Int32) (val1 p2)) + (val6 (1 : Int32) (val1 p3))) + (val6 (1 : Int32) (val1 p4))) + (val6 (1 : Int32) (val1 p5))) + (val6 (0 : Int32) (val1 p6)))), .unset] [(.ref b12)])) _
    refine st18 _ ?_
    show Steps p.tables e below (T18.setTop (mkF m 148 #[.val (.int p1), .val (.int p2), .val (.int p3), .val (.int p4), .val (.int p5), .val (.int p6), .val (.int (own_n p1)), .val (.int (val1 p2)), .val (.int (val1 p3)), .val (.int (val1 p4)), .val (.int (val1 p5)), .val (.int (val1 p6)), .val (.ref b12), .val (.int (((((val6 (1 : Int32) (val1 p2)) + (val6 (1 : Int32) (val1 p3))) + (val6 (1 : Int32) (val1 p4))) + (val6 (1 : Int32) (val1 p5))) + (val6 (0 : Int32) (val1 p6)))), .unset] [(.int (Int32.ofNat ([(val1 p2), (val1 p3), (val1 p4), (val1 p5)] : List Int32).length - ((2 : Int32) * own_cnt ([(val1 p2), (val1 p3), (val1 p4), (val1 p5)] : List Int32))))])) _
    refine XS.istore X18.here hx rfl (hb hby at_148) rfl (l' := #[.val (.int p1), .val (.int p2), .val (.int p3), .val (.int p4), .val (.int p5), .val (.int p6), .val (.int (own_n p1)), .val (.int (val1 p2)), .val (.int (val1 p3)), .val (.int (val1 p4)), .val (.int (val1 p5)), .val (.int (val1 p6)), .val (.ref b12), .val (.int (((((val6 (1 : Int32) (val1 p2)) + (val6 (1 : Int32) (val1 p3))) + (val6 (1 : Int32) (val1 p4))) + (val6 (1 : Int32) (val1 p5))) + (val6 (0 : Int32) (val1 p6)))), .val (.int (Int32.ofNat ([(val1 p2), (val1 p3), (val1 p4), (val1 p5)] : List Int32).length - ((2 : Int32) * own_cnt ([(val1 p2), (val1 p3), (val1 p4), (val1 p5)] : List Int32))))]) rfl ?_
    show Steps p.tables e below (T18.setTop (mkF m 150 #[.val (.int p1), .val (.int p2), .val (.int p3), .val (.int p4), .val (.int p5), .val (.int p6), .val (.int (own_n p1)), .val (.int (val1 p2)), .val (.int (val1 p3)), .val (.int (val1 p4)), .val (.int (val1 p5)), .val (.int (val1 p6)), .val (.ref b12), .val (.int (((((val6 (1 : Int32) (val1 p2)) + (val6 (1 : Int32) (val1 p3))) + (val6 (1 : Int32) (val1 p4))) + (val6 (1 : Int32) (val1 p5))) + (val6 (0 : Int32) (val1 p6)))), .val (.int (Int32.ofNat ([(val1 p2), (val1 p3), (val1 p4), (val1 p5)] : List Int32).length - ((2 : Int32) * own_cnt ([(val1 p2), (val1 p3), (val1 p4), (val1 p5)] : List Int32))))] [])) _
    refine XS.aload X18.here hx rfl (hb hby at_150) rfl rfl ?_
    show Steps p.tables e below (T18.setTop (mkF m 152 #[.val (.int p1), .val (.int p2), .val (.int p3), .val (.int p4), .val (.int p5), .val (.int p6), .val (.int (own_n p1)), .val (.int (val1 p2)), .val (.int (val1 p3)), .val (.int (val1 p4)), .val (.int (val1 p5)), .val (.int (val1 p6)), .val (.ref b12), .val (.int (((((val6 (1 : Int32) (val1 p2)) + (val6 (1 : Int32) (val1 p3))) + (val6 (1 : Int32) (val1 p4))) + (val6 (1 : Int32) (val1 p5))) + (val6 (0 : Int32) (val1 p6)))), .val (.int (Int32.ofNat ([(val1 p2), (val1 p3), (val1 p4), (val1 p5)] : List Int32).length - ((2 : Int32) * own_cnt ([(val1 p2), (val1 p3), (val1 p4), (val1 p5)] : List Int32))))] [(.ref b12)])) _
    refine st19.trans ?_
    show Steps p.tables e below (T19.setTop (mkF m 155 #[.val (.int p1), .val (.int p2), .val (.int p3), .val (.int p4), .val (.int p5), .val (.int p6), .val (.int (own_n p1)), .val (.int (val1 p2)), .val (.int (val1 p3)), .val (.int (val1 p4)), .val (.int (val1 p5)), .val (.int (val1 p6)), .val (.ref b12), .val (.int (((((val6 (1 : Int32) (val1 p2)) + (val6 (1 : Int32) (val1 p3))) + (val6 (1 : Int32) (val1 p4))) + (val6 (1 : Int32) (val1 p5))) + (val6 (0 : Int32) (val1 p6)))), .val (.int (Int32.ofNat ([(val1 p2), (val1 p3), (val1 p4), (val1 p5)] : List Int32).length - ((2 : Int32) * own_cnt ([(val1 p2), (val1 p3), (val1 p4), (val1 p5)] : List Int32))))] [(.int (Int32.ofNat ([(val1 p2), (val1 p3), (val1 p4), (val1 p5)] : List Int32).length))])) _
    refine XS.iload X19.here hx rfl (hb hby at_155) rfl ?_
    show Steps p.tables e below (T19.setTop (mkF m 157 #[.val (.int p1), .val (.int p2), .val (.int p3), .val (.int p4), .val (.int p5), .val (.int p6), .val (.int (own_n p1)), .val (.int (val1 p2)), .val (.int (val1 p3)), .val (.int (val1 p4)), .val (.int (val1 p5)), .val (.int (val1 p6)), .val (.ref b12), .val (.int (((((val6 (1 : Int32) (val1 p2)) + (val6 (1 : Int32) (val1 p3))) + (val6 (1 : Int32) (val1 p4))) + (val6 (1 : Int32) (val1 p5))) + (val6 (0 : Int32) (val1 p6)))), .val (.int (Int32.ofNat ([(val1 p2), (val1 p3), (val1 p4), (val1 p5)] : List Int32).length - ((2 : Int32) * own_cnt ([(val1 p2), (val1 p3), (val1 p4), (val1 p5)] : List Int32))))] [(.int (own_n p1)), (.int (Int32.ofNat ([(val1 p2), (val1 p3), (val1 p4), (val1 p5)] : List Int32).length))])) _
    refine XS.icmpNo X19.here hx rfl (hb hby at_157) rfl (teq (hn.symm : (Int32.ofNat ([(val1 p2), (val1 p3), (val1 p4), (val1 p5)] : List Int32).length) = (own_n p1))).2 ?_
    show Steps p.tables e below (T19.setTop (mkF m 160 #[.val (.int p1), .val (.int p2), .val (.int p3), .val (.int p4), .val (.int p5), .val (.int p6), .val (.int (own_n p1)), .val (.int (val1 p2)), .val (.int (val1 p3)), .val (.int (val1 p4)), .val (.int (val1 p5)), .val (.int (val1 p6)), .val (.ref b12), .val (.int (((((val6 (1 : Int32) (val1 p2)) + (val6 (1 : Int32) (val1 p3))) + (val6 (1 : Int32) (val1 p4))) + (val6 (1 : Int32) (val1 p5))) + (val6 (0 : Int32) (val1 p6)))), .val (.int (Int32.ofNat ([(val1 p2), (val1 p3), (val1 p4), (val1 p5)] : List Int32).length - ((2 : Int32) * own_cnt ([(val1 p2), (val1 p3), (val1 p4), (val1 p5)] : List Int32))))] [])) _
    refine XS.iload X19.here hx rfl (hb hby at_160) rfl ?_
    show Steps p.tables e below (T19.setTop (mkF m 162 #[.val (.int p1), .val (.int p2), .val (.int p3), .val (.int p4), .val (.int p5), .val (.int p6), .val (.int (own_n p1)), .val (.int (val1 p2)), .val (.int (val1 p3)), .val (.int (val1 p4)), .val (.int (val1 p5)), .val (.int (val1 p6)), .val (.ref b12), .val (.int (((((val6 (1 : Int32) (val1 p2)) + (val6 (1 : Int32) (val1 p3))) + (val6 (1 : Int32) (val1 p4))) + (val6 (1 : Int32) (val1 p5))) + (val6 (0 : Int32) (val1 p6)))), .val (.int (Int32.ofNat ([(val1 p2), (val1 p3), (val1 p4), (val1 p5)] : List Int32).length - ((2 : Int32) * own_cnt ([(val1 p2), (val1 p3), (val1 p4), (val1 p5)] : List Int32))))] [(.int (Int32.ofNat ([(val1 p2), (val1 p3), (val1 p4), (val1 p5)] : List Int32).length - ((2 : Int32) * own_cnt ([(val1 p2), (val1 p3), (val1 p4), (val1 p5)] : List Int32))))])) _
    refine XS.iload X19.here hx rfl (hb hby at_162) rfl ?_
    show Steps p.tables e below (T19.setTop (mkF m 164 #[.val (.int p1), .val (.int p2), .val (.int p3), .val (.int p4), .val (.int p5), .val (.int p6), .val (.int (own_n p1)), .val (.int (val1 p2)), .val (.int (val1 p3)), .val (.int (val1 p4)), .val (.int (val1 p5)), .val (.int (val1 p6)), .val (.ref b12), .val (.int (((((val6 (1 : Int32) (val1 p2)) + (val6 (1 : Int32) (val1 p3))) + (val6 (1 : Int32) (val1 p4))) + (val6 (1 : Int32) (val1 p5))) + (val6 (0 : Int32) (val1 p6)))), .val (.int (Int32.ofNat ([(val1 p2), (val1 p3), (val1 p4), (val1 p5)] : List Int32).length - ((2 : Int32) * own_cnt ([(val1 p2), (val1 p3), (val1 p4), (val1 p5)] : List Int32))))] [(.int (own_n p1)), (.int (Int32.ofNat ([(val1 p2), (val1 p3), (val1 p4), (val1 p5)] : List Int32).length - ((2 : Int32) * own_cnt ([(val1 p2), (val1 p3), (val1 p4), (val1 p5)] : List Int32))))])) _
    refine XS.iconst X19.here hx rfl (hb hby at_164) ?_
    show Steps p.tables e below (T19.setTop (mkF m 165 #[.val (.int p1), .val (.int p2), .val (.int p3), .val (.int p4), .val (.int p5), .val (.int p6), .val (.int (own_n p1)), .val (.int (val1 p2)), .val (.int (val1 p3)), .val (.int (val1 p4)), .val (.int (val1 p5)), .val (.int (val1 p6)), .val (.ref b12), .val (.int (((((val6 (1 : Int32) (val1 p2)) + (val6 (1 : Int32) (val1 p3))) + (val6 (1 : Int32) (val1 p4))) + (val6 (1 : Int32) (val1 p5))) + (val6 (0 : Int32) (val1 p6)))), .val (.int (Int32.ofNat ([(val1 p2), (val1 p3), (val1 p4), (val1 p5)] : List Int32).length - ((2 : Int32) * own_cnt ([(val1 p2), (val1 p3), (val1 p4), (val1 p5)] : List Int32))))] [(.int (2 : Int32)), (.int (own_n p1)), (.int (Int32.ofNat ([(val1 p2), (val1 p3), (val1 p4), (val1 p5)] : List Int32).length - ((2 : Int32) * own_cnt ([(val1 p2), (val1 p3), (val1 p4), (val1 p5)] : List Int32))))])) _
    refine XS.iload X19.here hx rfl (hb hby at_165) rfl ?_
    show Steps p.tables e below (T19.setTop (mkF m 167 #[.val (.int p1), .val (.int p2), .val (.int p3), .val (.int p4), .val (.int p5), .val (.int p6), .val (.int (own_n p1)), .val (.int (val1 p2)), .val (.int (val1 p3)), .val (.int (val1 p4)), .val (.int (val1 p5)), .val (.int (val1 p6)), .val (.ref b12), .val (.int (((((val6 (1 : Int32) (val1 p2)) + (val6 (1 : Int32) (val1 p3))) + (val6 (1 : Int32) (val1 p4))) + (val6 (1 : Int32) (val1 p5))) + (val6 (0 : Int32) (val1 p6)))), .val (.int (Int32.ofNat ([(val1 p2), (val1 p3), (val1 p4), (val1 p5)] : List Int32).length - ((2 : Int32) * own_cnt ([(val1 p2), (val1 p3), (val1 p4), (val1 p5)] : List Int32))))] [(.int (((((val6 (1 : Int32) (val1 p2)) + (val6 (1 : Int32) (val1 p3))) + (val6 (1 : Int32) (val1 p4))) + (val6 (1 : Int32) (val1 p5))) + (val6 (0 : Int32) (val1 p6)))), (.int (2 : Int32)), (.int (own_n p1)), (.int (Int32.ofNat ([(val1 p2), (val1 p3), (val1 p4), (val1 p5)] : List Int32).length - ((2 : Int32) * own_cnt ([(val1 p2), (val1 p3), (val1 p4), (val1 p5)] : List Int32))))])) _
    refine XS.imul X19.here hx rfl (hb hby at_167) rfl ?_
    show Steps p.tables e below (T19.setTop (mkF m 168 #[.val (.int p1), .val (.int p2), .val (.int p3), .val (.int p4), .val (.int p5), .val (.int p6), .val (.int (own_n p1)), .val (.int (val1 p2)), .val (.int (val1 p3)), .val (.int (val1 p4)), .val (.int (val1 p5)), .val (.int (val1 p6)), .val (.ref b12), .val (.int (((((val6 (1 : Int32) (val1 p2)) + (val6 (1 : Int32) (val1 p3))) + (val6 (1 : Int32) (val1 p4))) + (val6 (1 : Int32) (val1 p5))) + (val6 (0 : Int32) (val1 p6)))), .val (.int (Int32.ofNat ([(val1 p2), (val1 p3), (val1 p4), (val1 p5)] : List Int32).length - ((2 : Int32) * own_cnt ([(val1 p2), (val1 p3), (val1 p4), (val1 p5)] : List Int32))))] [(.int ((2 : Int32) * (((((val6 (1 : Int32) (val1 p2)) + (val6 (1 : Int32) (val1 p3))) + (val6 (1 : Int32) (val1 p4))) + (val6 (1 : Int32) (val1 p5))) + (val6 (0 : Int32) (val1 p6))))), (.int (own_n p1)), (.int (Int32.ofNat ([(val1 p2), (val1 p3), (val1 p4), (val1 p5)] : List Int32).length - ((2 : Int32) * own_cnt ([(val1 p2), (val1 p3), (val1 p4), (val1 p5)] : List Int32))))])) _
    refine XS.isub X19.here hx rfl (hb hby at_168) rfl ?_
    show Steps p.tables e below (T19.setTop (mkF m 169 #[.val (.int p1), .val (.int p2), .val (.int p3), .val (.int p4), .val (.int p5), .val (.int p6), .val (.int (own_n p1)), .val (.int (val1 p2)), .val (.int (val1 p3)), .val (.int (val1 p4)), .val (.int (val1 p5)), .val (.int (val1 p6)), .val (.ref b12), .val (.int (((((val6 (1 : Int32) (val1 p2)) + (val6 (1 : Int32) (val1 p3))) + (val6 (1 : Int32) (val1 p4))) + (val6 (1 : Int32) (val1 p5))) + (val6 (0 : Int32) (val1 p6)))), .val (.int (Int32.ofNat ([(val1 p2), (val1 p3), (val1 p4), (val1 p5)] : List Int32).length - ((2 : Int32) * own_cnt ([(val1 p2), (val1 p3), (val1 p4), (val1 p5)] : List Int32))))] [(.int ((own_n p1) - ((2 : Int32) * (((((val6 (1 : Int32) (val1 p2)) + (val6 (1 : Int32) (val1 p3))) + (val6 (1 : Int32) (val1 p4))) + (val6 (1 : Int32) (val1 p5))) + (val6 (0 : Int32) (val1 p6)))))), (.int (Int32.ofNat ([(val1 p2), (val1 p3), (val1 p4), (val1 p5)] : List Int32).length - ((2 : Int32) * own_cnt ([(val1 p2), (val1 p3), (val1 p4), (val1 p5)] : List Int32))))])) _
    refine XS.icmpNo X19.here hx rfl (hb hby at_169) rfl (teq (own_fin4 p1 p2 p3 p4 p5 p6 hn : (Int32.ofNat ([(val1 p2), (val1 p3), (val1 p4), (val1 p5)] : List Int32).length - ((2 : Int32) * own_cnt ([(val1 p2), (val1 p3), (val1 p4), (val1 p5)] : List Int32))) = ((own_n p1) - ((2 : Int32) * (((((val6 (1 : Int32) (val1 p2)) + (val6 (1 : Int32) (val1 p3))) + (val6 (1 : Int32) (val1 p4))) + (val6 (1 : Int32) (val1 p5))) + (val6 (0 : Int32) (val1 p6))))))).2 ?_
    show Steps p.tables e below (T19.setTop (mkF m 172 #[.val (.int p1), .val (.int p2), .val (.int p3), .val (.int p4), .val (.int p5), .val (.int p6), .val (.int (own_n p1)), .val (.int (val1 p2)), .val (.int (val1 p3)), .val (.int (val1 p4)), .val (.int (val1 p5)), .val (.int (val1 p6)), .val (.ref b12), .val (.int (((((val6 (1 : Int32) (val1 p2)) + (val6 (1 : Int32) (val1 p3))) + (val6 (1 : Int32) (val1 p4))) + (val6 (1 : Int32) (val1 p5))) + (val6 (0 : Int32) (val1 p6)))), .val (.int (Int32.ofNat ([(val1 p2), (val1 p3), (val1 p4), (val1 p5)] : List Int32).length - ((2 : Int32) * own_cnt ([(val1 p2), (val1 p3), (val1 p4), (val1 p5)] : List Int32))))] [])) _
    refine XS.iconst X19.here hx rfl (hb hby at_172) ?_
    show Steps p.tables e below (T19.setTop (mkF m 173 #[.val (.int p1), .val (.int p2), .val (.int p3), .val (.int p4), .val (.int p5), .val (.int p6), .val (.int (own_n p1)), .val (.int (val1 p2)), .val (.int (val1 p3)), .val (.int (val1 p4)), .val (.int (val1 p5)), .val (.int (val1 p6)), .val (.ref b12), .val (.int (((((val6 (1 : Int32) (val1 p2)) + (val6 (1 : Int32) (val1 p3))) + (val6 (1 : Int32) (val1 p4))) + (val6 (1 : Int32) (val1 p5))) + (val6 (0 : Int32) (val1 p6)))), .val (.int (Int32.ofNat ([(val1 p2), (val1 p3), (val1 p4), (val1 p5)] : List Int32).length - ((2 : Int32) * own_cnt ([(val1 p2), (val1 p3), (val1 p4), (val1 p5)] : List Int32))))] [(.int (1 : Int32))])) _
    refine XS.goto X19.here hx rfl (pc0 := 173) (pc' := 177) rfl (hb hby at_173) (by decide) (by decide) ?_
    show Steps p.tables e below (T19.setTop (mkF m 177 #[.val (.int p1), .val (.int p2), .val (.int p3), .val (.int p4), .val (.int p5), .val (.int p6), .val (.int (own_n p1)), .val (.int (val1 p2)), .val (.int (val1 p3)), .val (.int (val1 p4)), .val (.int (val1 p5)), .val (.int (val1 p6)), .val (.ref b12), .val (.int (((((val6 (1 : Int32) (val1 p2)) + (val6 (1 : Int32) (val1 p3))) + (val6 (1 : Int32) (val1 p4))) + (val6 (1 : Int32) (val1 p5))) + (val6 (0 : Int32) (val1 p6)))), .val (.int (Int32.ofNat ([(val1 p2), (val1 p3), (val1 p4), (val1 p5)] : List Int32).length - ((2 : Int32) * own_cnt ([(val1 p2), (val1 p3), (val1 p4), (val1 p5)] : List Int32))))] [(.int (1 : Int32))])) _
    exact retN X19 hx (t := .boolean) Bd.returns (by simp) (hb hby at_177) hr
  · show Q0 Z p1 p2 p3 p4 p5 p6 h0 n0 _ T19.heap _
    exact ⟨rfl, N19⟩
theorem own_all5 (p2 p3 p4 p5 p6 : Int32) : ∀ c ∈ ([(val1 p2), (val1 p3), (val1 p4), (val1 p5), (val1 p6)] : List Int32), ¬ c < 0 ∧ ¬ (255 : Int32) < c := by
  intro c hc
  simp only [List.mem_cons, List.not_mem_nil, or_false] at hc
  rcases hc with rfl | rfl | rfl | rfl | rfl <;> exact own_rng _
theorem own_fin5 (p1 p2 p3 p4 p5 p6 : Int32) (hn : own_n p1 = (5 : Int32)) : (Int32.ofNat ([(val1 p2), (val1 p3), (val1 p4), (val1 p5), (val1 p6)] : List Int32).length - ((2 : Int32) * own_cnt ([(val1 p2), (val1 p3), (val1 p4), (val1 p5), (val1 p6)] : List Int32))) = (own_n p1 - ((2 : Int32) * (((((val6 (1 : Int32) (val1 p2)) + (val6 (1 : Int32) (val1 p3))) + (val6 (1 : Int32) (val1 p4))) + (val6 (1 : Int32) (val1 p5))) + (val6 (1 : Int32) (val1 p6))))) := by
  have e : own_cnt ([(val1 p2), (val1 p3), (val1 p4), (val1 p5), (val1 p6)] : List Int32) = (((((val6 (1 : Int32) (val1 p2)) + (val6 (1 : Int32) (val1 p3))) + (val6 (1 : Int32) (val1 p4))) + (val6 (1 : Int32) (val1 p5))) + (val6 (1 : Int32) (val1 p6))) := by
    simp only [own_p1, own_p0, own_cnt, Int32.add_zero, Int32.zero_add, Int32.add_assoc]
  rw [e, hn]; rfl

set_option maxRecDepth 65536 in
set_option maxHeartbeats 40000000 in
theorem rm0_5 (l : Launch) (Z : State) (a0 : Array Value) (hw : ∀ d ∈ tables_1, d.before a0 Z = true) (ws : List Jvm.Cond) (p1 : Int32) (p2 : Int32) (p3 : Int32) (p4 : Int32) (p5 : Int32) (p6 : Int32) (h0 : Heap) (n0 : Nat) (Z0 : n0 ≤ h0.size) (G1 : Int32) (O2 : Sta Z Z.heap "java/lang/String" "COMPACT_STRINGS" "Z" (.int G1)) (P5 : ¬ (G1 = (0 : Int32))) (X00 : Old Z n0 h0) (G3 : Value) (O4 : Sta Z Z.heap "jdk/internal/util/Preconditions" "SIOOBE_FORMATTER" "Ljava/util/function/BiFunction;" G3) (rG3 : G3.isRef = true) (hn : own_n p1 = (5 : Int32)) :
    MetFree l x (head1 (Jvm.Cond.code x code maxLocals ret :: ws) room_1) (fun a U => a = #[(.int p1), (.int p2), (.int p3), (.int p4), (.int p5), (.int p6)] ∧ Z.Warmed39 U.vm ∧ U.heap = h0) (fun _ _ _ _ _ => True) (fun _ U o U' => ∃ v L, o = .returned v ∧ Q0 Z p1 p2 p3 p4 p5 p6 h0 n0 v U'.heap L ∧ FrameEnd U o U' L room_1.cells room_1.slots) := by
  refine MetFree.of_bodySF (plainFor_of_name pn_0) hisR ?_
  intro p e s m args below meth c s₁ Bd hml0 hP hK
  obtain ⟨rfl, hZ, hh⟩ := hP
  have hx := Bd.exec
  have hby := Bd.bytes
  have hml : c.maxLocals = 15 := hml0
  have hown : s.vm.findClass "com/example/harburg/harburg/epc/FieldCharacterCountPinLaw" = some m.cls := findClass_of_methodNamed Bd.named
  have hnm := (name_of_methodNamed Bd.named Bd.method).1
  have X0 : Stand p l e room_1 s m #[(.int p1), (.int p2), (.int p3), (.int p4), (.int p5), (.int p6)] below meth c s₁ [] 0 0 := Stand.of_body Bd
  have e0 : s₁.heap = h0 := by rw [← hh, Bd.state]; rfl
  have N0 := Fr.nil n0
  have pre0 : ∀ t, Steps p.tables e below (s₁.setTop (mkF m 0 #[.val (.int p1), .val (.int p2), .val (.int p3), .val (.int p4), .val (.int p5), .val (.int p6), .unset, .unset, .unset, .unset, .unset, .unset, .unset, .unset, .unset] [])) t → Steps p.tables e below (s₁.setTop (entryFrame m #[(.int p1), (.int p2), (.int p3), (.int p4), (.int p5), (.int p6)] maxLocals)) t := fun t k => castTop (ef_0 m p1 p2 p3 p4 p5 p6) k
  obtain ⟨_, _, ⟨T7, L7, k7, n7⟩, -, X7, ⟨Lc7, hQ7, l7, y7, z7⟩, st7⟩ := Jvm.LawKit.callS X0 hx (y := (⟨"com/example/harburg/harburg/epc/FieldCharacterCountPinLaw", "draw", "(I)C"⟩ : MethodName)) hown (mvT hZ (hw _ (List.mem_of_getElem? (i := 1) rfl))) (mvT hZ (hw _ (List.mem_of_getElem? (i := 2) rfl))) (mvT hZ (hw _ (List.mem_of_getElem? (i := 3) rfl))) (mvT hZ (hw _ (List.mem_of_getElem? (i := 4) rfl))) (by decide) (backOf (W := 0) (rm1 l Z a0 hw [] p2 h0 n0 Z0) hZ (hw _ (List.mem_of_getElem? (i := 4) rfl)) (hw _ (List.mem_of_getElem? (i := 3) rfl)) (by decide) (by decide)) (g := (mkF m 10 #[.val (.int p1), .val (.int p2), .val (.int p3), .val (.int p4), .val (.int p5), .val (.int p6), .val (.int (own_n p1)), .unset, .unset, .unset, .unset, .unset, .unset, .unset, .unset] [(.int p2)])) rfl (by rw [hml]; rfl) (argsL := [(.int p2)]) (rest := []) (lenOf pd_0_0 rfl) rfl (by show 2 * 0 + _ ≤ _; exact Nat.le_of_eq rfl) (hb hby at_10) (fun _ _ => ⟨rfl, e0, (by decide : 0 + 0 ≤ _), (by decide : 0 + 0 ≤ _)⟩)
  dsimp only [Pt.U, Pt.locs, Pt.cells, Pt.slots] at X7 l7 y7 z7 st7 hQ7
  subst l7 y7 z7
  obtain ⟨rfl, N7q, w7⟩ := hQ7
  have u7 : T7.heap = h0 := w7
  have N7 := Fr.app N0 N7q
  obtain ⟨_, _, ⟨T8, L8, k8, n8⟩, -, X8, ⟨Lc8, hQ8, l8, y8, z8⟩, st8⟩ := Jvm.LawKit.callS X7 hx (y := (⟨"com/example/harburg/harburg/epc/FieldCharacterCountPinLaw", "draw", "(I)C"⟩ : MethodName)) hown (mvT hZ (hw _ (List.mem_of_getElem? (i := 1) rfl))) (mvT hZ (hw _ (List.mem_of_getElem? (i := 2) rfl))) (mvT hZ (hw _ (List.mem_of_getElem? (i := 3) rfl))) (mvT hZ (hw _ (List.mem_of_getElem? (i := 4) rfl))) (by decide) (backOf (W := 0) (rm1 l Z a0 hw [] p3 T7.heap n0 (by rw [u7]; exact Z0)) hZ (hw _ (List.mem_of_getElem? (i := 4) rfl)) (hw _ (List.mem_of_getElem? (i := 3) rfl)) (by decide) (by decide)) (g := (mkF m 16 #[.val (.int p1), .val (.int p2), .val (.int p3), .val (.int p4), .val (.int p5), .val (.int p6), .val (.int (own_n p1)), .val (.int (val1 p2)), .unset, .unset, .unset, .unset, .unset, .unset, .unset] [(.int p3)])) rfl (by rw [hml]; rfl) (argsL := [(.int p3)]) (rest := []) (lenOf pd_0_0 rfl) rfl (by show 2 * 0 + _ ≤ _; exact Nat.le_of_eq rfl) (hb hby at_16) (fun _ _ => ⟨rfl, rfl, (by decide : 0 + 0 ≤ _), (by decide : 0 + 0 ≤ _)⟩)
  dsimp only [Pt.U, Pt.locs, Pt.cells, Pt.slots] at X8 l8 y8 z8 st8 hQ8
  subst l8 y8 z8
  obtain ⟨rfl, N8q, w8⟩ := hQ8
  have u8 : T8.heap = h0 := w8.trans u7
  have N8 := Fr.app N7 N8q
  obtain ⟨_, _, ⟨T9, L9, k9, n9⟩, -, X9, ⟨Lc9, hQ9, l9, y9, z9⟩, st9⟩ := Jvm.LawKit.callS X8 hx (y := (⟨"com/example/harburg/harburg/epc/FieldCharacterCountPinLaw", "draw", "(I)C"⟩ : MethodName)) hown (mvT hZ (hw _ (List.mem_of_getElem? (i := 1) rfl))) (mvT hZ (hw _ (List.mem_of_getElem? (i := 2) rfl))) (mvT hZ (hw _ (List.mem_of_getElem? (i := 3) rfl))) (mvT hZ (hw _ (List.mem_of_getElem? (i := 4) rfl))) (by decide) (backOf (W := 0) (rm1 l Z a0 hw [] p4 T8.heap n0 (by rw [u8]; exact Z0)) hZ (hw _ (List.mem_of_getElem? (i := 4) rfl)) (hw _ (List.mem_of_getElem? (i := 3) rfl)) (by decide) (by decide)) (g := (mkF m 22 #[.val (.int p1), .val (.int p2), .val (.int p3), .val (.int p4), .val (.int p5), .val (.int p6), .val (.int (own_n p1)), .val (.int (val1 p2)), .val (.int (val1 p3)), .unset, .unset, .unset, .unset, .unset, .unset] [(.int p4)])) rfl (by rw [hml]; rfl) (argsL := [(.int p4)]) (rest := []) (lenOf pd_0_0 rfl) rfl (by show 2 * 0 + _ ≤ _; exact Nat.le_of_eq rfl) (hb hby at_22) (fun _ _ => ⟨rfl, rfl, (by decide : 0 + 0 ≤ _), (by decide : 0 + 0 ≤ _)⟩)
  dsimp only [Pt.U, Pt.locs, Pt.cells, Pt.slots] at X9 l9 y9 z9 st9 hQ9
  subst l9 y9 z9
  obtain ⟨rfl, N9q, w9⟩ := hQ9
  have u9 : T9.heap = h0 := w9.trans u8
  have N9 := Fr.app N8 N9q
  obtain ⟨_, _, ⟨T10, L10, k10, n10⟩, -, X10, ⟨Lc10, hQ10, l10, y10, z10⟩, st10⟩ := Jvm.LawKit.callS X9 hx (y := (⟨"com/example/harburg/harburg/epc/FieldCharacterCountPinLaw", "draw", "(I)C"⟩ : MethodName)) hown (mvT hZ (hw _ (List.mem_of_getElem? (i := 1) rfl))) (mvT hZ (hw _ (List.mem_of_getElem? (i := 2) rfl))) (mvT hZ (hw _ (List.mem_of_getElem? (i := 3) rfl))) (mvT hZ (hw _ (List.mem_of_getElem? (i := 4) rfl))) (by decide) (backOf (W := 0) (rm1 l Z a0 hw [] p5 T9.heap n0 (by rw [u9]; exact Z0)) hZ (hw _ (List.mem_of_getElem? (i := 4) rfl)) (hw _ (List.mem_of_getElem? (i := 3) rfl)) (by decide) (by decide)) (g := (mkF m 29 #[.val (.int p1), .val (.int p2), .val (.int p3), .val (.int p4), .val (.int p5), .val (.int p6), .val (.int (own_n p1)), .val (.int (val1 p2)), .val (.int (val1 p3)), .val (.int (val1 p4)), .unset, .unset, .unset, .unset, .unset] [(.int p5)])) rfl (by rw [hml]; rfl) (argsL := [(.int p5)]) (rest := []) (lenOf pd_0_0 rfl) rfl (by show 2 * 0 + _ ≤ _; exact Nat.le_of_eq rfl) (hb hby at_29) (fun _ _ => ⟨rfl, rfl, (by decide : 0 + 0 ≤ _), (by decide : 0 + 0 ≤ _)⟩)
  dsimp only [Pt.U, Pt.locs, Pt.cells, Pt.slots] at X10 l10 y10 z10 st10 hQ10
  subst l10 y10 z10
  obtain ⟨rfl, N10q, w10⟩ := hQ10
  have u10 : T10.heap = h0 := w10.trans u9
  have N10 := Fr.app N9 N10q
  obtain ⟨_, _, ⟨T11, L11, k11, n11⟩, -, X11, ⟨Lc11, hQ11, l11, y11, z11⟩, st11⟩ := Jvm.LawKit.callS X10 hx (y := (⟨"com/example/harburg/harburg/epc/FieldCharacterCountPinLaw", "draw", "(I)C"⟩ : MethodName)) hown (mvT hZ (hw _ (List.mem_of_getElem? (i := 1) rfl))) (mvT hZ (hw _ (List.mem_of_getElem? (i := 2) rfl))) (mvT hZ (hw _ (List.mem_of_getElem? (i := 3) rfl))) (mvT hZ (hw _ (List.mem_of_getElem? (i := 4) rfl))) (by decide) (backOf (W := 0) (rm1 l Z a0 hw [] p6 T10.heap n0 (by rw [u10]; exact Z0)) hZ (hw _ (List.mem_of_getElem? (i := 4) rfl)) (hw _ (List.mem_of_getElem? (i := 3) rfl)) (by decide) (by decide)) (g := (mkF m 36 #[.val (.int p1), .val (.int p2), .val (.int p3), .val (.int p4), .val (.int p5), .val (.int p6), .val (.int (own_n p1)), .val (.int (val1 p2)), .val (.int (val1 p3)), .val (.int (val1 p4)), .val (.int (val1 p5)), .unset, .unset, .unset, .unset] [(.int p6)])) rfl (by rw [hml]; rfl) (argsL := [(.int p6)]) (rest := []) (lenOf pd_0_0 rfl) rfl (by show 2 * 0 + _ ≤ _; exact Nat.le_of_eq rfl) (hb hby at_36) (fun _ _ => ⟨rfl, rfl, (by decide : 0 + 0 ≤ _), (by decide : 0 + 0 ≤ _)⟩)
  dsimp only [Pt.U, Pt.locs, Pt.cells, Pt.slots] at X11 l11 y11 z11 st11 hQ11
  subst l11 y11 z11
  obtain ⟨rfl, N11q, w11⟩ := hQ11
  have u11 : T11.heap = h0 := w11.trans u10
  have N11 := Fr.app N10 N11q
  obtain ⟨_, _, ⟨T12, L12, k12, n12⟩, -, X12, ⟨Lc12, hQ12, l12, y12, z12⟩, st12⟩ := Jvm.LawKit.callS X11 hx (y := (⟨"com/example/harburg/harburg/epc/FieldCharacterCountPinLaw", "make", "(ICCCCC)Ljava/lang/String;"⟩ : MethodName)) hown (mvT hZ (hw _ (List.mem_of_getElem? (i := 5) rfl))) (mvT hZ (hw _ (List.mem_of_getElem? (i := 6) rfl))) (mvT hZ (hw _ (List.mem_of_getElem? (i := 3) rfl))) (mvT hZ (hw _ (List.mem_of_getElem? (i := 7) rfl))) (by decide) (backOf (W := 0) (rm2_5 l Z a0 hw [] (own_n p1) (val1 p2) (val1 p3) (val1 p4) (val1 p5) (val1 p6) T11.heap n0 (by rw [u11]; exact Z0) G1 O2 P5 (by rw [u11]; exact X00) (own_all5 p2 p3 p4 p5 p6) (by rw [hn]; decide) (by rw [hn]; decide) (by rw [hn]; decide) (by rw [hn]; decide) (by rw [hn]; decide)) hZ (hw _ (List.mem_of_getElem? (i := 7) rfl)) (hw _ (List.mem_of_getElem? (i := 3) rfl)) (by decide) (by decide)) (g := (mkF m 53 #[.val (.int p1), .val (.int p2), .val (.int p3), .val (.int p4), .val (.int p5), .val (.int p6), .val (.int (own_n p1)), .val (.int (val1 p2)), .val (.int (val1 p3)), .val (.int (val1 p4)), .val (.int (val1 p5)), .val (.int (val1 p6)), .unset, .unset, .unset] [(.int (val1 p6)), (.int (val1 p5)), (.int (val1 p4)), (.int (val1 p3)), (.int (val1 p2)), (.int (own_n p1))])) rfl (by rw [hml]; rfl) (argsL := [(.int (own_n p1)), (.int (val1 p2)), (.int (val1 p3)), (.int (val1 p4)), (.int (val1 p5)), (.int (val1 p6))]) (rest := []) (lenOf pd_0_1 rfl) rfl (by show 2 * 0 + _ ≤ _; exact Nat.le_of_eq rfl) (hb hby at_53) (fun _ _ => ⟨rfl, rfl, (by decide : 0 + 3 ≤ _), (by decide : 0 + 14 ≤ _)⟩)
  dsimp only [Pt.U, Pt.locs, Pt.cells, Pt.slots] at X12 l12 y12 z12 st12 hQ12
  subst l12 y12 z12
  obtain ⟨b12, rfl, N12q, K12q, S12⟩ := hQ12
  have K12 : Keep h0 T12.heap [] := by have q := K12q; rw [u11] at q; exact q
  have z12 : n0 ≤ T12.heap.size := Nat.le_trans Z0 K12.1
  have XO12 : Old Z n0 T12.heap := X00.keep K12 all0
  have N12 := Fr.app N11 N12q
  obtain ⟨_, _, ⟨T13, L13, k13, n13⟩, -, X13, ⟨Lc13, hQ13, l13, y13, z13⟩, st13⟩ := Jvm.LawKit.callS X12 hx (y := (⟨"com/example/harburg/harburg/epc/FieldCharacterCountPinLaw", "pct", "(ZC)I"⟩ : MethodName)) hown (mvT hZ (hw _ (List.mem_of_getElem? (i := 30) rfl))) (mvT hZ (hw _ (List.mem_of_getElem? (i := 31) rfl))) (mvT hZ (hw _ (List.mem_of_getElem? (i := 3) rfl))) (mvT hZ (hw _ (List.mem_of_getElem? (i := 32) rfl))) (by decide) (backOf (W := 0) (rm6 l Z a0 hw [] (1 : Int32) (val1 p2) T12.heap n0 z12) hZ (hw _ (List.mem_of_getElem? (i := 32) rfl)) (hw _ (List.mem_of_getElem? (i := 3) rfl)) (by decide) (by decide)) (g := (mkF m 70 #[.val (.int p1), .val (.int p2), .val (.int p3), .val (.int p4), .val (.int p5), .val (.int p6), .val (.int (own_n p1)), .val (.int (val1 p2)), .val (.int (val1 p3)), .val (.int (val1 p4)), .val (.int (val1 p5)), .val (.int (val1 p6)), .val (.ref b12), .unset, .unset] [(.int (val1 p2)), (.int (1 : Int32))])) rfl (by rw [hml]; rfl) (argsL := [(.int (1 : Int32)), (.int (val1 p2))]) (rest := []) (lenOf pd_0_5 rfl) rfl (by show 2 * 0 + _ ≤ _; exact Nat.le_of_eq rfl) (hb hby at_70) (fun _ _ => ⟨rfl, rfl, (by decide : 0 + 3 ≤ _), (by decide : 0 + 14 ≤ _)⟩)
  dsimp only [Pt.U, Pt.locs, Pt.cells, Pt.slots] at X13 l13 y13 z13 st13 hQ13
  subst l13 y13 z13
  obtain ⟨rfl, N13q, w13⟩ := hQ13
  have u13 : T13.heap = T12.heap := w13
  have N13 := Fr.app N12 N13q
  obtain ⟨_, _, ⟨T14, L14, k14, n14⟩, -, X14, ⟨Lc14, hQ14, l14, y14, z14⟩, st14⟩ := Jvm.LawKit.callS X13 hx (y := (⟨"com/example/harburg/harburg/epc/FieldCharacterCountPinLaw", "pct", "(ZC)I"⟩ : MethodName)) hown (mvT hZ (hw _ (List.mem_of_getElem? (i := 30) rfl))) (mvT hZ (hw _ (List.mem_of_getElem? (i := 31) rfl))) (mvT hZ (hw _ (List.mem_of_getElem? (i := 3) rfl))) (mvT hZ (hw _ (List.mem_of_getElem? (i := 32) rfl))) (by decide) (backOf (W := 1) (rm6 l Z a0 hw [] (1 : Int32) (val1 p3) T13.heap n0 (by rw [u13]; exact z12)) hZ (hw _ (List.mem_of_getElem? (i := 32) rfl)) (hw _ (List.mem_of_getElem? (i := 3) rfl)) (by decide) (by decide)) (g := (mkF m 86 #[.val (.int p1), .val (.int p2), .val (.int p3), .val (.int p4), .val (.int p5), .val (.int p6), .val (.int (own_n p1)), .val (.int (val1 p2)), .val (.int (val1 p3)), .val (.int (val1 p4)), .val (.int (val1 p5)), .val (.int (val1 p6)), .val (.ref b12), .unset, .unset] [(.int (val1 p3)), (.int (1 : Int32)), (.int (val6 (1 : Int32) (val1 p2)))])) rfl (by rw [hml]; rfl) (argsL := [(.int (1 : Int32)), (.int (val1 p3))]) (rest := [(.int (val6 (1 : Int32) (val1 p2)))]) (lenOf pd_0_5 rfl) rfl (by show 2 * 0 + _ ≤ _; exact Nat.le_of_eq rfl) (hb hby at_86) (fun _ _ => ⟨rfl, rfl, (by decide : 0 + 3 ≤ _), (by decide : 0 + 14 ≤ _)⟩)
  dsimp only [Pt.U, Pt.locs, Pt.cells, Pt.slots] at X14 l14 y14 z14 st14 hQ14
  subst l14 y14 z14
  obtain ⟨rfl, N14q, w14⟩ := hQ14
  have u14 : T14.heap = T12.heap := w14.trans u13
  have N14 := Fr.app N13 N14q
  obtain ⟨_, _, ⟨T15, L15, k15, n15⟩, -, X15, ⟨Lc15, hQ15, l15, y15, z15⟩, st15⟩ := Jvm.LawKit.callS X14 hx (y := (⟨"com/example/harburg/harburg/epc/FieldCharacterCountPinLaw", "pct", "(ZC)I"⟩ : MethodName)) hown (mvT hZ (hw _ (List.mem_of_getElem? (i := 30) rfl))) (mvT hZ (hw _ (List.mem_of_getElem? (i := 31) rfl))) (mvT hZ (hw _ (List.mem_of_getElem? (i := 3) rfl))) (mvT hZ (hw _ (List.mem_of_getElem? (i := 32) rfl))) (by decide) (backOf (W := 1) (rm6 l Z a0 hw [] (1 : Int32) (val1 p4) T14.heap n0 (by rw [u14]; exact z12)) hZ (hw _ (List.mem_of_getElem? (i := 32) rfl)) (hw _ (List.mem_of_getElem? (i := 3) rfl)) (by decide) (by decide)) (g := (mkF m 103 #[.val (.int p1), .val (.int p2), .val (.int p3), .val (.int p4), .val (.int p5), .val (.int p6), .val (.int (own_n p1)), .val (.int (val1 p2)), .val (.int (val1 p3)), .val (.int (val1 p4)), .val (.int (val1 p5)), .val (.int (val1 p6)), .val (.ref b12), .unset, .unset] [(.int (val1 p4)), (.int (1 : Int32)), (.int ((val6 (1 : Int32) (val1 p2)) + (val6 (1 : Int32) (val1 p3))))])) rfl (by rw [hml]; rfl) (argsL := [(.int (1 : Int32)), (.int (val1 p4))]) (rest := [(.int ((val6 (1 : Int32) (val1 p2)) + (val6 (1 : Int32) (val1 p3))))]) (lenOf pd_0_5 rfl) rfl (by show 2 * 0 + _ ≤ _; exact Nat.le_of_eq rfl) (hb hby at_103) (fun _ _ => ⟨rfl, rfl, (by decide : 0 + 3 ≤ _), (by decide : 0 + 14 ≤ _)⟩)
  dsimp only [Pt.U, Pt.locs, Pt.cells, Pt.slots] at X15 l15 y15 z15 st15 hQ15
  subst l15 y15 z15
  obtain ⟨rfl, N15q, w15⟩ := hQ15
  have u15 : T15.heap = T12.heap := w15.trans u14
  have N15 := Fr.app N14 N15q
  obtain ⟨_, _, ⟨T16, L16, k16, n16⟩, -, X16, ⟨Lc16, hQ16, l16, y16, z16⟩, st16⟩ := Jvm.LawKit.callS X15 hx (y := (⟨"com/example/harburg/harburg/epc/FieldCharacterCountPinLaw", "pct", "(ZC)I"⟩ : MethodName)) hown (mvT hZ (hw _ (List.mem_of_getElem? (i := 30) rfl))) (mvT hZ (hw _ (List.mem_of_getElem? (i := 31) rfl))) (mvT hZ (hw _ (List.mem_of_getElem? (i := 3) rfl))) (mvT hZ (hw _ (List.mem_of_getElem? (i := 32) rfl))) (by decide) (backOf (W := 1) (rm6 l Z a0 hw [] (1 : Int32) (val1 p5) T15.heap n0 (by rw [u15]; exact z12)) hZ (hw _ (List.mem_of_getElem? (i := 32) rfl)) (hw _ (List.mem_of_getElem? (i := 3) rfl)) (by decide) (by decide)) (g := (mkF m 120 #[.val (.int p1), .val (.int p2), .val (.int p3), .val (.int p4), .val (.int p5), .val (.int p6), .val (.int (own_n p1)), .val (.int (val1 p2)), .val (.int (val1 p3)), .val (.int (val1 p4)), .val (.int (val1 p5)), .val (.int (val1 p6)), .val (.ref b12), .unset, .unset] [(.int (val1 p5)), (.int (1 : Int32)), (.int (((val6 (1 : Int32) (val1 p2)) + (val6 (1 : Int32) (val1 p3))) + (val6 (1 : Int32) (val1 p4))))])) rfl (by rw [hml]; rfl) (argsL := [(.int (1 : Int32)), (.int (val1 p5))]) (rest := [(.int (((val6 (1 : Int32) (val1 p2)) + (val6 (1 : Int32) (val1 p3))) + (val6 (1 : Int32) (val1 p4))))]) (lenOf pd_0_5 rfl) rfl (by show 2 * 0 + _ ≤ _; exact Nat.le_of_eq rfl) (hb hby at_120) (fun _ _ => ⟨rfl, rfl, (by decide : 0 + 3 ≤ _), (by decide : 0 + 14 ≤ _)⟩)
  dsimp only [Pt.U, Pt.locs, Pt.cells, Pt.slots] at X16 l16 y16 z16 st16 hQ16
  subst l16 y16 z16
  obtain ⟨rfl, N16q, w16⟩ := hQ16
  have u16 : T16.heap = T12.heap := w16.trans u15
  have N16 := Fr.app N15 N16q
  obtain ⟨_, _, ⟨T17, L17, k17, n17⟩, -, X17, ⟨Lc17, hQ17, l17, y17, z17⟩, st17⟩ := Jvm.LawKit.callS X16 hx (y := (⟨"com/example/harburg/harburg/epc/FieldCharacterCountPinLaw", "pct", "(ZC)I"⟩ : MethodName)) hown (mvT hZ (hw _ (List.mem_of_getElem? (i := 30) rfl))) (mvT hZ (hw _ (List.mem_of_getElem? (i := 31) rfl))) (mvT hZ (hw _ (List.mem_of_getElem? (i := 3) rfl))) (mvT hZ (hw _ (List.mem_of_getElem? (i := 32) rfl))) (by decide) (backOf (W := 1) (rm6 l Z a0 hw [] (1 : Int32) (val1 p6) T16.heap n0 (by rw [u16]; exact z12)) hZ (hw _ (List.mem_of_getElem? (i := 32) rfl)) (hw _ (List.mem_of_getElem? (i := 3) rfl)) (by decide) (by decide)) (g := (mkF m 137 #[.val (.int p1), .val (.int p2), .val (.int p3), .val (.int p4), .val (.int p5), .val (.int p6), .val (.int (own_n p1)), .val (.int (val1 p2)), .val (.int (val1 p3)), .val (.int (val1 p4)), .val (.int (val1 p5)), .val (.int (val1 p6)), .val (.ref b12), .unset, .unset] [(.int (val1 p6)), (.int (1 : Int32)), (.int ((((val6 (1 : Int32) (val1 p2)) + (val6 (1 : Int32) (val1 p3))) + (val6 (1 : Int32) (val1 p4))) + (val6 (1 : Int32) (val1 p5))))])) rfl (by rw [hml]; rfl) (argsL := [(.int (1 : Int32)), (.int (val1 p6))]) (rest := [(.int ((((val6 (1 : Int32) (val1 p2)) + (val6 (1 : Int32) (val1 p3))) + (val6 (1 : Int32) (val1 p4))) + (val6 (1 : Int32) (val1 p5))))]) (lenOf pd_0_5 rfl) rfl (by show 2 * 0 + _ ≤ _; exact Nat.le_of_eq rfl) (hb hby at_137) (fun _ _ => ⟨rfl, rfl, (by decide : 0 + 3 ≤ _), (by decide : 0 + 14 ≤ _)⟩)
  dsimp only [Pt.U, Pt.locs, Pt.cells, Pt.slots] at X17 l17 y17 z17 st17 hQ17
  subst l17 y17 z17
  obtain ⟨rfl, N17q, w17⟩ := hQ17
  have u17 : T17.heap = T12.heap := w17.trans u16
  have N17 := Fr.app N16 N17q
  have hln : ∀ d ∈ StrChars.Road.wordsLen, d.before a0 Z = true := fun d hd => hw d ((by decide +kernel : ∀ d ∈ StrChars.Road.wordsLen, d ∈ tables_1) d hd)
  have hch : ∀ d ∈ StrChars.Road.wordsChN, d.before a0 Z = true := fun d hd => hw d ((by decide +kernel : ∀ d ∈ StrChars.Road.wordsChN, d ∈ tables_1) d hd)
  obtain ⟨xS, tS, kS, FvS, FcS, AvS⟩ : own_STR Z T12.heap b12 ([(val1 p2), (val1 p3), (val1 p4), (val1 p5), (val1 p6)] : List Int32) := S12
  have xS' : Exa Z T17.heap b12 "java/lang/String" := by rw [u17]; exact xS
  have FvS' : Fld Z T17.heap b12 "java/lang/String" "value" "[B" (.ref tS) := by rw [u17]; exact FvS
  have FcS' : Fld Z T17.heap b12 "java/lang/String" "coder" "B" (.int (0 : Int32)) := by rw [u17]; exact FcS
  have AvS' : Arv Z T17.heap tS kS .byte (Int32.ofNat ([(val1 p2), (val1 p3), (val1 p4), (val1 p5), (val1 p6)] : List Int32).length) ((([(val1 p2), (val1 p3), (val1 p4), (val1 p5), (val1 p6)] : List Int32).map (fun c => c.toInt8.toInt32)).map Value.int) (.int 0) := by rw [u17]; exact AvS
  have XO' : Old Z n0 T17.heap := by rw [u17]; exact XO12
  obtain ⟨_, _, ⟨T18, L18, k18, n18⟩, -, X18, ⟨Lc18, hQ18, l18, y18, z18⟩, st18⟩ := Jvm.LawKit.callS X17 hx (y := (⟨"com/example/harburg/harburg/epc/EpcScheme$Field", "characterCount", "(Ljava/lang/String;)I"⟩ : MethodName)) hown (mvT hZ (hw _ (List.mem_of_getElem? (i := 33) rfl))) (mvT hZ (hw _ (List.mem_of_getElem? (i := 34) rfl))) (mvT hZ (hw _ (List.mem_of_getElem? (i := 35) rfl))) (mvT hZ (hw _ (List.mem_of_getElem? (i := 36) rfl))) (by decide) (backOf (W := 0) (rm7 l Z a0 hw [] b12 T17.heap n0 (by rw [u17]; exact z12) xS' hln hch ([(val1 p2), (val1 p3), (val1 p4), (val1 p5), (val1 p6)] : List Int32) (Nat.le_of_ble_eq_true rfl) (own_all5 p2 p3 p4 p5 p6) tS kS G1 G3 FvS' FcS' AvS' (O2.ext XO'.2) P5 (O4.ext XO'.2) rG3) hZ (hw _ (List.mem_of_getElem? (i := 36) rfl)) (hw _ (List.mem_of_getElem? (i := 35) rfl)) (by decide) (by decide)) (g := (mkF m 145 #[.val (.int p1), .val (.int p2), .val (.int p3), .val (.int p4), .val (.int p5), .val (.int p6), .val (.int (own_n p1)), .val (.int (val1 p2)), .val (.int (val1 p3)), .val (.int (val1 p4)), .val (.int (val1 p5)), .val (.int (val1 p6)), .val (.ref b12), .val (.int (((((val6 (1 : Int32) (val1 p2)) + (val6 (1 : Int32) (val1 p3))) + (val6 (1 : Int32) (val1 p4))) + (val6 (1 : Int32) (val1 p5))) + (val6 (1 : Int32) (val1 p6)))), .unset] [(.ref b12)])) rfl (by rw [hml]; rfl) (argsL := [(.ref b12)]) (rest := []) (lenOf pd_0_6 rfl) rfl (by show 2 * 0 + _ ≤ _; exact Nat.le_of_eq rfl) (hb hby at_145) (fun _ _ => ⟨rfl, rfl, (by decide : 0 + 3 ≤ _), (by decide : 0 + 14 ≤ _)⟩)
  dsimp only [Pt.U, Pt.locs, Pt.cells, Pt.slots] at X18 l18 y18 z18 st18 hQ18
  subst l18 y18 z18
  obtain ⟨rfl, N18q, w18⟩ := hQ18
  have u18 : T18.heap = T12.heap := w18.trans u17
  have N18 := Fr.app N17 N18q
  have xL : Exa Z T18.heap b12 "java/lang/String" := by rw [u18]; exact xS
  obtain ⟨cq19, kq19, q19a, q19b, q19c⟩ := isOf hZ rfl xL
  have FvL : Fld Z T18.heap b12 "java/lang/String" "value" "[B" (.ref tS) := by rw [u18]; exact FvS
  have FcL : Fld Z T18.heap b12 "java/lang/String" "coder" "B" (.int (0 : Int32)) := by rw [u18]; exact FcS
  have AvL : Arv Z T18.heap tS kS .byte (Int32.ofNat ([(val1 p2), (val1 p3), (val1 p4), (val1 p5), (val1 p6)] : List Int32).length) ((([(val1 p2), (val1 p3), (val1 p4), (val1 p5), (val1 p6)] : List Int32).map (fun c => c.toInt8.toInt32)).map Value.int) (.int 0) := by rw [u18]; exact AvS
  have XOL : Old Z n0 T18.heap := by rw [u18]; exact XO12
  obtain ⟨_, _, ⟨T19, L19, k19, n19⟩, -, X19, ⟨Lc19, hQ19, l19, y19, z19⟩, st19⟩ := X18.virtualBack hx (y := (⟨"java/lang/String", "length", "()I"⟩ : MethodName)) (z := (⟨"java/lang/String", "length", "()I"⟩ : MethodName)) hown (mvT hZ (hw _ (List.mem_of_getElem? (i := 48) rfl))) (mvT hZ (hw _ (List.mem_of_getElem? (i := 38) rfl))) (notFace_of_selects (args := #[]) (mvT hZ (hw _ (List.mem_of_getElem? (i := 40) rfl)))) (mvT hZ (hw _ (List.mem_of_getElem? (i := 40) rfl))) (mvT hZ (hw _ (List.mem_of_getElem? (i := 39) rfl))) (by decide) (StrChars.Road.lenW (W := 0) hZ hln (kI := 4) (hw _ (List.mem_of_getElem? (i := 9) rfl)) xL FvL FcL AvL (StrChars.Road.codOf rfl (fun c hc => (own_all5 p2 p3 p4 p5 p6 c hc).2)) (own_up _ (own_all5 p2 p3 p4 p5 p6)) (O2.ext XOL.2) P5 (Nat.le_of_ble_eq_true rfl) (by decide) (by decide)) q19a q19c (g := (mkF m 152 #[.val (.int p1), .val (.int p2), .val (.int p3), .val (.int p4), .val (.int p5), .val (.int p6), .val (.int (own_n p1)), .val (.int (val1 p2)), .val (.int (val1 p3)), .val (.int (val1 p4)), .val (.int (val1 p5)), .val (.int (val1 p6)), .val (.ref b12), .val (.int (((((val6 (1 : Int32) (val1 p2)) + (val6 (1 : Int32) (val1 p3))) + (val6 (1 : Int32) (val1 p4))) + (val6 (1 : Int32) (val1 p5))) + (val6 (1 : Int32) (val1 p6)))), .val (.int (Int32.ofNat ([(val1 p2), (val1 p3), (val1 p4), (val1 p5), (val1 p6)] : List Int32).length - ((2 : Int32) * own_cnt ([(val1 p2), (val1 p3), (val1 p4), (val1 p5), (val1 p6)] : List Int32))))] [(.ref b12)])) rfl (by rw [hml]; rfl) (Steps.refl _) (argsL := []) (rest := []) (lenOf pd_0_7 rfl) rfl (by show 2 * 0 + _ ≤ _; exact Nat.le_of_eq rfl) (hb hby at_152) (fun _ _ => ⟨rfl, rfl, (by decide : 0 + 3 ≤ _), (by decide : 0 + 14 ≤ _)⟩)
  dsimp only [Pt.U, Pt.locs, Pt.cells, Pt.slots] at X19 l19 y19 z19 st19 hQ19
  subst l19 y19 z19
  obtain ⟨rfl, rfl, w19⟩ := hQ19
  have N19 := Fr.app N18 (Fr.nil n0)
  obtain ⟨fs, hr, hrun, hended, hW, hsame⟩ := X19.leave (v := some (.int (1 : Int32))) (fun h => by rw [Bd.returns] at h; cases h)
  refine ⟨_, _, pre0 _ ?_, hrun, hended, _, _, rfl, ?_, ⟨_, rfl⟩, hW, hsame.mono (by decide) (by decide)⟩
  · show Steps p.tables e below (s₁.setTop (mkF m 0 #[.val (.int p1), .val (.int p2), .val (.int p3), .val (.int p4), .val (.int p5), .val (.int p6), .unset, .unset, .unset, .unset, .unset, .unset, .unset, .unset, .unset] [])) _
    refine XS.iloadN X0.here hx rfl (hb hby at_0) rfl ?_
    show Steps p.tables e below (s₁.setTop (mkF m 1 #[.val (.int p1), .val (.int p2), .val (.int p3), .val (.int p4), .val (.int p5), .val (.int p6), .unset, .unset, .unset, .unset, .unset, .unset, .unset, .unset, .unset] [(.int p1)])) _
    refine X0.ldcInt hx hown (mvT hZ (hw _ (List.mem_of_getElem? (i := 0) rfl))) (g := (mkF m 1 #[.val (.int p1), .val (.int p2), .val (.int p3), .val (.int p4), .val (.int p5), .val (.int p6), .unset, .unset, .unset, .unset, .unset, .unset, .unset, .unset, .unset] [(.int p1)])) rfl (hb hby at_1) _ ?_
    show Steps p.tables e below (s₁.setTop (mkF m 3 #[.val (.int p1), .val (.int p2), .val (.int p3), .val (.int p4), .val (.int p5), .val (.int p6), .unset, .unset, .unset, .unset, .unset, .unset, .unset, .unset, .unset] [(.int (2147483647 : Int32)), (.int p1)])) _
    refine XS.iand X0.here hx rfl (hb hby at_3) rfl ?_
    show Steps p.tables e below (s₁.setTop (mkF m 4 #[.val (.int p1), .val (.int p2), .val (.int p3), .val (.int p4), .val (.int p5), .val (.int p6), .unset, .unset, .unset, .unset, .unset, .unset, .unset, .unset, .unset] [(.int (p1 &&& (2147483647 : Int32)))])) _
    refine XS.bipush X0.here hx rfl (hb hby at_4) ?_
    show Steps p.tables e below (s₁.setTop (mkF m 6 #[.val (.int p1), .val (.int p2), .val (.int p3), .val (.int p4), .val (.int p5), .val (.int p6), .unset, .unset, .unset, .unset, .unset, .unset, .unset, .unset, .unset] [(.int (6 : Int32)), (.int (p1 &&& (2147483647 : Int32)))])) _
    refine XS.irem X0.here hx rfl (hb hby at_6) rfl (by decide) ?_
    show Steps p.tables e below (s₁.setTop (mkF m 7 #[.val (.int p1), .val (.int p2), .val (.int p3), .val (.int p4), .val (.int p5), .val (.int p6), .unset, .unset, .unset, .unset, .unset, .unset, .unset, .unset, .unset] [(.int (own_n p1))])) _
    refine XS.istore X0.here hx rfl (hb hby at_7) rfl (l' := #[.val (.int p1), .val (.int p2), .val (.int p3), .val (.int p4), .val (.int p5), .val (.int p6), .val (.int (own_n p1)), .unset, .unset, .unset, .unset, .unset, .unset, .unset, .unset]) rfl ?_
    show Steps p.tables e below (s₁.setTop (mkF m 9 #[.val (.int p1), .val (.int p2), .val (.int p3), .val (.int p4), .val (.int p5), .val (.int p6), .val (.int (own_n p1)), .unset, .unset, .unset, .unset, .unset, .unset, .unset, .unset] [])) _
    refine XS.iloadN X0.here hx rfl (hb hby at_9) rfl ?_
    show Steps p.tables e below (s₁.setTop (mkF m 10 #[.val (.int p1), .val (.int p2), .val (.int p3), .val (.int p4), .val (.int p5), .val (.int p6), .val (.int (own_n p1)), .unset, .unset, .unset, .unset, .unset, .unset, .unset, .unset] [(.int p2)])) _
    refine st7 _ ?_
    show Steps p.tables e below (T7.setTop (mkF m 13 #[.val (.int p1), .val (.int p2), .val (.int p3), .val (.int p4), .val (.int p5), .val (.int p6), .val (.int (own_n p1)), .unset, .unset, .unset, .unset, .unset, .unset, .unset, .unset] [(.int (val1 p2))])) _
    refine XS.istore X7.here hx rfl (hb hby at_13) rfl (l' := #[.val (.int p1), .val (.int p2), .val (.int p3), .val (.int p4), .val (.int p5), .val (.int p6), .val (.int (own_n p1)), .val (.int (val1 p2)), .unset, .unset, .unset, .unset, .unset, .unset, .unset]) rfl ?_
    show Steps p.tables e below (T7.setTop (mkF m 15 #[.val (.int p1), .val (.int p2), .val (.int p3), .val (.int p4), .val (.int p5), .val (.int p6), .val (.int (own_n p1)), .val (.int (val1 p2)), .unset, .unset, .unset, .unset, .unset, .unset, .unset] [])) _
    refine XS.iloadN X7.here hx rfl (hb hby at_15) rfl ?_
    show Steps p.tables e below (T7.setTop (mkF m 16 #[.val (.int p1), .val (.int p2), .val (.int p3), .val (.int p4), .val (.int p5), .val (.int p6), .val (.int (own_n p1)), .val (.int (val1 p2)), .unset, .unset, .unset, .unset, .unset, .unset, .unset] [(.int p3)])) _
    refine st8 _ ?_
    show Steps p.tables e below (T8.setTop (mkF m 19 #[.val (.int p1), .val (.int p2), .val (.int p3), .val (.int p4), .val (.int p5), .val (.int p6), .val (.int (own_n p1)), .val (.int (val1 p2)), .unset, .unset, .unset, .unset, .unset, .unset, .unset] [(.int (val1 p3))])) _
    refine XS.istore X8.here hx rfl (hb hby at_19) rfl (l' := #[.val (.int p1), .val (.int p2), .val (.int p3), .val (.int p4), .val (.int p5), .val (.int p6), .val (.int (own_n p1)), .val (.int (val1 p2)), .val (.int (val1 p3)), .unset, .unset, .unset, .unset, .unset, .unset]) rfl ?_
    show Steps p.tables e below (T8.setTop (mkF m 21 #[.val (.int p1), .val (.int p2), .val (.int p3), .val (.int p4), .val (.int p5), .val (.int p6), .val (.int (own_n p1)), .val (.int (val1 p2)), .val (.int (val1 p3)), .unset, .unset, .unset, .unset, .unset, .unset] [])) _
    refine XS.iloadN X8.here hx rfl (hb hby at_21) rfl ?_
    show Steps p.tables e below (T8.setTop (mkF m 22 #[.val (.int p1), .val (.int p2), .val (.int p3), .val (.int p4), .val (.int p5), .val (.int p6), .val (.int (own_n p1)), .val (.int (val1 p2)), .val (.int (val1 p3)), .unset, .unset, .unset, .unset, .unset, .unset] [(.int p4)])) _
    refine st9 _ ?_
    show Steps p.tables e below (T9.setTop (mkF m 25 #[.val (.int p1), .val (.int p2), .val (.int p3), .val (.int p4), .val (.int p5), .val (.int p6), .val (.int (own_n p1)), .val (.int (val1 p2)), .val (.int (val1 p3)), .unset, .unset, .unset, .unset, .unset, .unset] [(.int (val1 p4))])) _
    refine XS.istore X9.here hx rfl (hb hby at_25) rfl (l' := #[.val (.int p1), .val (.int p2), .val (.int p3), .val (.int p4), .val (.int p5), .val (.int p6), .val (.int (own_n p1)), .val (.int (val1 p2)), .val (.int (val1 p3)), .val (.int (val1 p4)), .unset, .unset, .unset, .unset, .unset]) rfl ?_
    show Steps p.tables e below (T9.setTop (mkF m 27 #[.val (.int p1), .val (.int p2), .val (.int p3), .val (.int p4), .val (.int p5), .val (.int p6), .val (.int (own_n p1)), .val (.int (val1 p2)), .val (.int (val1 p3)), .val (.int (val1 p4)), .unset, .unset, .unset, .unset, .unset] [])) _
    refine XS.iload X9.here hx rfl (hb hby at_27) rfl ?_
    show Steps p.tables e below (T9.setTop (mkF m 29 #[.val (.int p1), .val (.int p2), .val (.int p3), .val (.int p4), .val (.int p5), .val (.int p6), .val (.int (own_n p1)), .val (.int (val1 p2)), .val (.int (val1 p3)), .val (.int (val1 p4)), .unset, .unset, .unset, .unset, .unset] [(.int p5)])) _
    refine st10 _ ?_
    show Steps p.tables e below (T10.setTop (mkF m 32 #[.val (.int p1), .val (.int p2), .val (.int p3), .val (.int p4), .val (.int p5), .val (.int p6), .val (.int (own_n p1)), .val (.int (val1 p2)), .val (.int (val1 p3)), .val (.int (val1 p4)), .unset, .unset, .unset, .unset, .unset] [(.int (val1 p5))])) _
    refine XS.istore X10.here hx rfl (hb hby at_32) rfl (l' := #[.val (.int p1), .val (.int p2), .val (.int p3), .val (.int p4), .val (.int p5), .val (.int p6), .val (.int (own_n p1)), .val (.int (val1 p2)), .val (.int (val1 p3)), .val (.int (val1 p4)), .val (.int (val1 p5)), .unset, .unset, .unset, .unset]) rfl ?_
    show Steps p.tables e below (T10.setTop (mkF m 34 #[.val (.int p1), .val (.int p2), .val (.int p3), .val (.int p4), .val (.int p5), .val (.int p6), .val (.int (own_n p1)), .val (.int (val1 p2)), .val (.int (val1 p3)), .val (.int (val1 p4)), .val (.int (val1 p5)), .unset, .unset, .unset, .unset] [])) _
    refine XS.iload X10.here hx rfl (hb hby at_34) rfl ?_
    show Steps p.tables e below (T10.setTop (mkF m 36 #[.val (.int p1), .val (.int p2), .val (.int p3), .val (.int p4), .val (.int p5), .val (.int p6), .val (.int (own_n p1)), .val (.int (val1 p2)), .val (.int (val1 p3)), .val (.int (val1 p4)), .val (.int (val1 p5)), .unset, .unset, .unset, .unset] [(.int p6)])) _
    refine st11 _ ?_
    show Steps p.tables e below (T11.setTop (mkF m 39 #[.val (.int p1), .val (.int p2), .val (.int p3), .val (.int p4), .val (.int p5), .val (.int p6), .val (.int (own_n p1)), .val (.int (val1 p2)), .val (.int (val1 p3)), .val (.int (val1 p4)), .val (.int (val1 p5)), .unset, .unset, .unset, .unset] [(.int (val1 p6))])) _
    refine XS.istore X11.here hx rfl (hb hby at_39) rfl (l' := #[.val (.int p1), .val (.int p2), .val (.int p3), .val (.int p4), .val (.int p5), .val (.int p6), .val (.int (own_n p1)), .val (.int (val1 p2)), .val (.int (val1 p3)), .val (.int (val1 p4)), .val (.int (val1 p5)), .val (.int (val1 p6)), .unset, .unset, .unset]) rfl ?_
    show Steps p.tables e below (T11.setTop (mkF m 41 #[.val (.int p1), .val (.int p2), .val (.int p3), .val (.int p4), .val (.int p5), .val (.int p6), .val (.int (own_n p1)), .val (.int (val1 p2)), .val (.int (val1 p3)), .val (.int (val1 p4)), .val (.int (val1 p5)), .val (.int (val1 p6)), .unset, .unset, .unset] [])) _
    refine XS.iload X11.here hx rfl (hb hby at_41) rfl ?_
    show Steps p.tables e below (T11.setTop (mkF m 43 #[.val (.int p1), .val (.int p2), .val (.int p3), .val (.int p4), .val (.int p5), .val (.int p6), .val (.int (own_n p1)), .val (.int (val1 p2)), .val (.int (val1 p3)), .val (.int (val1 p4)), .val (.int (val1 p5)), .val (.int (val1 p6)), .unset, .unset, .unset] [(.int (own_n p1))])) _
    refine XS.iload X11.here hx rfl (hb hby at_43) rfl ?_
    show Steps p.tables e below (T11.setTop (mkF m 45 #[.val (.int p1), .val (.int p2), .val (.int p3), .val (.int p4), .val (.int p5), .val (.int p6), .val (.int (own_n p1)), .val (.int (val1 p2)), .val (.int (val1 p3)), .val (.int (val1 p4)), .val (.int (val1 p5)), .val (.int (val1 p6)), .unset, .unset, .unset] [(.int (val1 p2)), (.int (own_n p1))])) _
    refine XS.iload X11.here hx rfl (hb hby at_45) rfl ?_
    show Steps p.tables e below (T11.setTop (mkF m 47 #[.val (.int p1), .val (.int p2), .val (.int p3), .val (.int p4), .val (.int p5), .val (.int p6), .val (.int (own_n p1)), .val (.int (val1 p2)), .val (.int (val1 p3)), .val (.int (val1 p4)), .val (.int (val1 p5)), .val (.int (val1 p6)), .unset, .unset, .unset] [(.int (val1 p3)), (.int (val1 p2)), (.int (own_n p1))])) _
    refine XS.iload X11.here hx rfl (hb hby at_47) rfl ?_
    show Steps p.tables e below (T11.setTop (mkF m 49 #[.val (.int p1), .val (.int p2), .val (.int p3), .val (.int p4), .val (.int p5), .val (.int p6), .val (.int (own_n p1)), .val (.int (val1 p2)), .val (.int (val1 p3)), .val (.int (val1 p4)), .val (.int (val1 p5)), .val (.int (val1 p6)), .unset, .unset, .unset] [(.int (val1 p4)), (.int (val1 p3)), (.int (val1 p2)), (.int (own_n p1))])) _
    refine XS.iload X11.here hx rfl (hb hby at_49) rfl ?_
    show Steps p.tables e below (T11.setTop (mkF m 51 #[.val (.int p1), .val (.int p2), .val (.int p3), .val (.int p4), .val (.int p5), .val (.int p6), .val (.int (own_n p1)), .val (.int (val1 p2)), .val (.int (val1 p3)), .val (.int (val1 p4)), .val (.int (val1 p5)), .val (.int (val1 p6)), .unset, .unset, .unset] [(.int (val1 p5)), (.int (val1 p4)), (.int (val1 p3)), (.int (val1 p2)), (.int (own_n p1))])) _
    refine XS.iload X11.here hx rfl (hb hby at_51) rfl ?_
    show Steps p.tables e below (T11.setTop (mkF m 53 #[.val (.int p1), .val (.int p2), .val (.int p3), .val (.int p4), .val (.int p5), .val (.int p6), .val (.int (own_n p1)), .val (.int (val1 p2)), .val (.int (val1 p3)), .val (.int (val1 p4)), .val (.int (val1 p5)), .val (.int (val1 p6)), .unset, .unset, .unset] [(.int (val1 p6)), (.int (val1 p5)), (.int (val1 p4)), (.int (val1 p3)), (.int (val1 p2)), (.int (own_n p1))])) _
    refine st12 _ ?_
    show Steps p.tables e below (T12.setTop (mkF m 56 #[.val (.int p1), .val (.int p2), .val (.int p3), .val (.int p4), .val (.int p5), .val (.int p6), .val (.int (own_n p1)), .val (.int (val1 p2)), .val (.int (val1 p3)), .val (.int (val1 p4)), .val (.int (val1 p5)), .val (.int (val1 p6)), .unset, .unset, .unset] [(.ref b12)])) _
    refine XS.astore X12.here hx rfl (hb hby at_56) rfl rfl (l' := #[.val (.int p1), .val (.int p2), .val (.int p3), .val (.int p4), .val (.int p5), .val (.int p6), .val (.int (own_n p1)), .val (.int (val1 p2)), .val (.int (val1 p3)), .val (.int (val1 p4)), .val (.int (val1 p5)), .val (.int (val1 p6)), .val (.ref b12), .unset, .unset]) rfl ?_
    show Steps p.tables e below (T12.setTop (mkF m 58 #[.val (.int p1), .val (.int p2), .val (.int p3), .val (.int p4), .val (.int p5), .val (.int p6), .val (.int (own_n p1)), .val (.int (val1 p2)), .val (.int (val1 p3)), .val (.int (val1 p4)), .val (.int (val1 p5)), .val (.int (val1 p6)), .val (.ref b12), .unset, .unset] [])) _
    refine XS.iload X12.here hx rfl (hb hby at_58) rfl ?_
    show Steps p.tables e below (T12.setTop (mkF m 60 #[.val (.int p1), .val (.int p2), .val (.int p3), .val (.int p4), .val (.int p5), .val (.int p6), .val (.int (own_n p1)), .val (.int (val1 p2)), .val (.int (val1 p3)), .val (.int (val1 p4)), .val (.int (val1 p5)), .val (.int (val1 p6)), .val (.ref b12), .unset, .unset] [(.int (own_n p1))])) _
    refine XS.ifNo X12.here hx rfl (hb hby at_60) rfl ((if0 _ _).trans (tlt (by rw [hn]; decide)).2.2.2) ?_
    show Steps p.tables e below (T12.setTop (mkF m 63 #[.val (.int p1), .val (.int p2), .val (.int p3), .val (.int p4), .val (.int p5), .val (.int p6), .val (.int (own_n p1)), .val (.int (val1 p2)), .val (.int (val1 p3)), .val (.int (val1 p4)), .val (.int (val1 p5)), .val (.int (val1 p6)), .val (.ref b12), .unset, .unset] [])) _
    refine XS.iconst X12.here hx rfl (hb hby at_63) ?_
    show Steps p.tables e below (T12.setTop (mkF m 64 #[.val (.int p1), .val (.int p2), .val (.int p3), .val (.int p4), .val (.int p5), .val (.int p6), .val (.int (own_n p1)), .val (.int (val1 p2)), .val (.int (val1 p3)), .val (.int (val1 p4)), .val (.int (val1 p5)), .val (.int (val1 p6)), .val (.ref b12), .unset, .unset] [(.int (1 : Int32))])) _
    refine XS.goto X12.here hx rfl (pc0 := 64) (pc' := 68) rfl (hb hby at_64) (by decide) (by decide) ?_
    show Steps p.tables e below (T12.setTop (mkF m 68 #[.val (.int p1), .val (.int p2), .val (.int p3), .val (.int p4), .val (.int p5), .val (.int p6), .val (.int (own_n p1)), .val (.int (val1 p2)), .val (.int (val1 p3)), .val (.int (val1 p4)), .val (.int (val1 p5)), .val (.int (val1 p6)), .val (.ref b12), .unset, .unset] [(.int (1 : Int32))])) _
    refine XS.iload X12.here hx rfl (hb hby at_68) rfl ?_
    show Steps p.tables e below (T12.setTop (mkF m 70 #[.val (.int p1), .val (.int p2), .val (.int p3), .val (.int p4), .val (.int p5), .val (.int p6), .val (.int (own_n p1)), .val (.int (val1 p2)), .val (.int (val1 p3)), .val (.int (val1 p4)), .val (.int (val1 p5)), .val (.int (val1 p6)), .val (.ref b12), .unset, .unset] [(.int (val1 p2)), (.int (1 : Int32))])) _
    refine st13 _ ?_
    show Steps p.tables e below (T13.setTop (mkF m 73 #[.val (.int p1), .val (.int p2), .val (.int p3), .val (.int p4), .val (.int p5), .val (.int p6), .val (.int (own_n p1)), .val (.int (val1 p2)), .val (.int (val1 p3)), .val (.int (val1 p4)), .val (.int (val1 p5)), .val (.int (val1 p6)), .val (.ref b12), .unset, .unset] [(.int (val6 (1 : Int32) (val1 p2)))])) _
    refine XS.iload X13.here hx rfl (hb hby at_73) rfl ?_
    show Steps p.tables e below (T13.setTop (mkF m 75 #[.val (.int p1), .val (.int p2), .val (.int p3), .val (.int p4), .val (.int p5), .val (.int p6), .val (.int (own_n p1)), .val (.int (val1 p2)), .val (.int (val1 p3)), .val (.int (val1 p4)), .val (.int (val1 p5)), .val (.int (val1 p6)), .val (.ref b12), .unset, .unset] [(.int (own_n p1)), (.int (val6 (1 : Int32) (val1 p2)))])) _
    refine XS.iconst X13.here hx rfl (hb hby at_75) ?_
    show Steps p.tables e below (T13.setTop (mkF m 76 #[.val (.int p1), .val (.int p2), .val (.int p3), .val (.int p4), .val (.int p5), .val (.int p6), .val (.int (own_n p1)), .val (.int (val1 p2)), .val (.int (val1 p3)), .val (.int (val1 p4)), .val (.int (val1 p5)), .val (.int (val1 p6)), .val (.ref b12), .unset, .unset] [(.int (1 : Int32)), (.int (own_n p1)), (.int (val6 (1 : Int32) (val1 p2)))])) _
    refine XS.icmpNo X13.here hx rfl (hb hby at_76) rfl (tlt (by rw [hn]; decide)).2.2.2 ?_
    show Steps p.tables e below (T13.setTop (mkF m 79 #[.val (.int p1), .val (.int p2), .val (.int p3), .val (.int p4), .val (.int p5), .val (.int p6), .val (.int (own_n p1)), .val (.int (val1 p2)), .val (.int (val1 p3)), .val (.int (val1 p4)), .val (.int (val1 p5)), .val (.int (val1 p6)), .val (.ref b12), .unset, .unset] [(.int (val6 (1 : Int32) (val1 p2)))])) _
    refine XS.iconst X13.here hx rfl (hb hby at_79) ?_
    show Steps p.tables e below (T13.setTop (mkF m 80 #[.val (.int p1), .val (.int p2), .val (.int p3), .val (.int p4), .val (.int p5), .val (.int p6), .val (.int (own_n p1)), .val (.int (val1 p2)), .val (.int (val1 p3)), .val (.int (val1 p4)), .val (.int (val1 p5)), .val (.int (val1 p6)), .val (.ref b12), .unset, .unset] [(.int (1 : Int32)), (.int (val6 (1 : Int32) (val1 p2)))])) _
    refine XS.goto X13.here hx rfl (pc0 := 80) (pc' := 84) rfl (hb hby at_80) (by decide) (by decide) ?_
    show Steps p.tables e below (T13.setTop (mkF m 84 #[.val (.int p1), .val (.int p2), .val (.int p3), .val (.int p4), .val (.int p5), .val (.int p6), .val (.int (own_n p1)), .val (.int (val1 p2)), .val (.int (val1 p3)), .val (.int (val1 p4)), .val (.int (val1 p5)), .val (.int (val1 p6)), .val (.ref b12), .unset, .unset] [(.int (1 : Int32)), (.int (val6 (1 : Int32) (val1 p2)))])) _
    refine XS.iload X13.here hx rfl (hb hby at_84) rfl ?_
    show Steps p.tables e below (T13.setTop (mkF m 86 #[.val (.int p1), .val (.int p2), .val (.int p3), .val (.int p4), .val (.int p5), .val (.int p6), .val (.int (own_n p1)), .val (.int (val1 p2)), .val (.int (val1 p3)), .val (.int (val1 p4)), .val (.int (val1 p5)), .val (.int (val1 p6)), .val (.ref b12), .unset, .unset] [(.int (val1 p3)), (.int (1 : Int32)), (.int (val6 (1 : Int32) (val1 p2)))])) _
    refine st14 _ ?_
    show Steps p.tables e below (T14.setTop (mkF m 89 #[.val (.int p1), .val (.int p2), .val (.int p3), .val (.int p4), .val (.int p5), .val (.int p6), .val (.int (own_n p1)), .val (.int (val1 p2)), .val (.int (val1 p3)), .val (.int (val1 p4)), .val (.int (val1 p5)), .val (.int (val1 p6)), .val (.ref b12), .unset, .unset] [(.int (val6 (1 : Int32) (val1 p3))), (.int (val6 (1 : Int32) (val1 p2)))])) _
    refine XS.iadd X14.here hx rfl (hb hby at_89) rfl ?_
    show Steps p.tables e below (T14.setTop (mkF m 90 #[.val (.int p1), .val (.int p2), .val (.int p3), .val (.int p4), .val (.int p5), .val (.int p6), .val (.int (own_n p1)), .val (.int (val1 p2)), .val (.int (val1 p3)), .val (.int (val1 p4)), .val (.int (val1 p5)), .val (.int (val1 p6)), .val (.ref b12), .unset, .unset] [(.int ((val6 (1 : Int32) (val1 p2)) + (val6 (1 : Int32) (val1 p3))))])) _
    refine XS.iload X14.here hx rfl (hb hby at_90) rfl ?_
    show Steps p.tables e below (T14.setTop (mkF m 92 #[.val (.int p1), .val (.int p2), .val (.int p3), .val (.int p4), .val (.int p5), .val (.int p6), .val (.int (own_n p1)), .val (.int (val1 p2)), .val (.int (val1 p3)), .val (.int (val1 p4)), .val (.int (val1 p5)), .val (.int (val1 p6)), .val (.ref b12), .unset, .unset] [(.int (own_n p1)), (.int ((val6 (1 : Int32) (val1 p2)) + (val6 (1 : Int32) (val1 p3))))])) _
    refine XS.iconst X14.here hx rfl (hb hby at_92) ?_
    show Steps p.tables e below (T14.setTop (mkF m 93 #[.val (.int p1), .val (.int p2), .val (.int p3), .val (.int p4), .val (.int p5), .val (.int p6), .val (.int (own_n p1)), .val (.int (val1 p2)), .val (.int (val1 p3)), .val (.int (val1 p4)), .val (.int (val1 p5)), .val (.int (val1 p6)), .val (.ref b12), .unset, .unset] [(.int (2 : Int32)), (.int (own_n p1)), (.int ((val6 (1 : Int32) (val1 p2)) + (val6 (1 : Int32) (val1 p3))))])) _
    refine XS.icmpNo X14.here hx rfl (hb hby at_93) rfl (tlt (by rw [hn]; decide)).2.2.2 ?_
    show Steps p.tables e below (T14.setTop (mkF m 96 #[.val (.int p1), .val (.int p2), .val (.int p3), .val (.int p4), .val (.int p5), .val (.int p6), .val (.int (own_n p1)), .val (.int (val1 p2)), .val (.int (val1 p3)), .val (.int (val1 p4)), .val (.int (val1 p5)), .val (.int (val1 p6)), .val (.ref b12), .unset, .unset] [(.int ((val6 (1 : Int32) (val1 p2)) + (val6 (1 : Int32) (val1 p3))))])) _
    refine XS.iconst X14.here hx rfl (hb hby at_96) ?_
    show Steps p.tables e below (T14.setTop (mkF m 97 #[.val (.int p1), .val (.int p2), .val (.int p3), .val (.int p4), .val (.int p5), .val (.int p6), .val (.int (own_n p1)), .val (.int (val1 p2)), .val (.int (val1 p3)), .val (.int (val1 p4)), .val (.int (val1 p5)), .val (.int (val1 p6)), .val (.ref b12), .unset, .unset] [(.int (1 : Int32)), (.int ((val6 (1 : Int32) (val1 p2)) + (val6 (1 : Int32) (val1 p3))))])) _
    refine XS.goto X14.here hx rfl (pc0 := 97) (pc' := 101) rfl (hb hby at_97) (by decide) (by decide) ?_
    show Steps p.tables e below (T14.setTop (mkF m 101 #[.val (.int p1), .val (.int p2), .val (.int p3), .val (.int p4), .val (.int p5), .val (.int p6), .val (.int (own_n p1)), .val (.int (val1 p2)), .val (.int (val1 p3)), .val (.int (val1 p4)), .val (.int (val1 p5)), .val (.int (val1 p6)), .val (.ref b12), .unset, .unset] [(.int (1 : Int32)), (.int ((val6 (1 : Int32) (val1 p2)) + (val6 (1 : Int32) (val1 p3))))])) _
    refine XS.iload X14.here hx rfl (hb hby at_101) rfl ?_
    show Steps p.tables e below (T14.setTop (mkF m 103 #[.val (.int p1), .val (.int p2), .val (.int p3), .val (.int p4), .val (.int p5), .val (.int p6), .val (.int (own_n p1)), .val (.int (val1 p2)), .val (.int (val1 p3)), .val (.int (val1 p4)), .val (.int (val1 p5)), .val (.int (val1 p6)), .val (.ref b12), .unset, .unset] [(.int (val1 p4)), (.int (1 : Int32)), (.int ((val6 (1 : Int32) (val1 p2)) + (val6 (1 : Int32) (val1 p3))))])) _
    refine st15 _ ?_
    show Steps p.tables e below (T15.setTop (mkF m 106 #[.val (.int p1), .val (.int p2), .val (.int p3), .val (.int p4), .val (.int p5), .val (.int p6), .val (.int (own_n p1)), .val (.int (val1 p2)), .val (.int (val1 p3)), .val (.int (val1 p4)), .val (.int (val1 p5)), .val (.int (val1 p6)), .val (.ref b12), .unset, .unset] [(.int (val6 (1 : Int32) (val1 p4))), (.int ((val6 (1 : Int32) (val1 p2)) + (val6 (1 : Int32) (val1 p3))))])) _
    refine XS.iadd X15.here hx rfl (hb hby at_106) rfl ?_
    show Steps p.tables e below (T15.setTop (mkF m 107 #[.val (.int p1), .val (.int p2), .val (.int p3), .val (.int p4), .val (.int p5), .val (.int p6), .val (.int (own_n p1)), .val (.int (val1 p2)), .val (.int (val1 p3)), .val (.int (val1 p4)), .val (.int (val1 p5)), .val (.int (val1 p6)), .val (.ref b12), .unset, .unset] [(.int (((val6 (1 : Int32) (val1 p2)) + (val6 (1 : Int32) (val1 p3))) + (val6 (1 : Int32) (val1 p4))))])) _
    refine XS.iload X15.here hx rfl (hb hby at_107) rfl ?_
    show Steps p.tables e below (T15.setTop (mkF m 109 #[.val (.int p1), .val (.int p2), .val (.int p3), .val (.int p4), .val (.int p5), .val (.int p6), .val (.int (own_n p1)), .val (.int (val1 p2)), .val (.int (val1 p3)), .val (.int (val1 p4)), .val (.int (val1 p5)), .val (.int (val1 p6)), .val (.ref b12), .unset, .unset] [(.int (own_n p1)), (.int (((val6 (1 : Int32) (val1 p2)) + (val6 (1 : Int32) (val1 p3))) + (val6 (1 : Int32) (val1 p4))))])) _
    refine XS.iconst X15.here hx rfl (hb hby at_109) ?_
    show Steps p.tables e below (T15.setTop (mkF m 110 #[.val (.int p1), .val (.int p2), .val (.int p3), .val (.int p4), .val (.int p5), .val (.int p6), .val (.int (own_n p1)), .val (.int (val1 p2)), .val (.int (val1 p3)), .val (.int (val1 p4)), .val (.int (val1 p5)), .val (.int (val1 p6)), .val (.ref b12), .unset, .unset] [(.int (3 : Int32)), (.int (own_n p1)), (.int (((val6 (1 : Int32) (val1 p2)) + (val6 (1 : Int32) (val1 p3))) + (val6 (1 : Int32) (val1 p4))))])) _
    refine XS.icmpNo X15.here hx rfl (hb hby at_110) rfl (tlt (by rw [hn]; decide)).2.2.2 ?_
    show Steps p.tables e below (T15.setTop (mkF m 113 #[.val (.int p1), .val (.int p2), .val (.int p3), .val (.int p4), .val (.int p5), .val (.int p6), .val (.int (own_n p1)), .val (.int (val1 p2)), .val (.int (val1 p3)), .val (.int (val1 p4)), .val (.int (val1 p5)), .val (.int (val1 p6)), .val (.ref b12), .unset, .unset] [(.int (((val6 (1 : Int32) (val1 p2)) + (val6 (1 : Int32) (val1 p3))) + (val6 (1 : Int32) (val1 p4))))])) _
    refine XS.iconst X15.here hx rfl (hb hby at_113) ?_
    show Steps p.tables e below (T15.setTop (mkF m 114 #[.val (.int p1), .val (.int p2), .val (.int p3), .val (.int p4), .val (.int p5), .val (.int p6), .val (.int (own_n p1)), .val (.int (val1 p2)), .val (.int (val1 p3)), .val (.int (val1 p4)), .val (.int (val1 p5)), .val (.int (val1 p6)), .val (.ref b12), .unset, .unset] [(.int (1 : Int32)), (.int (((val6 (1 : Int32) (val1 p2)) + (val6 (1 : Int32) (val1 p3))) + (val6 (1 : Int32) (val1 p4))))])) _
    refine XS.goto X15.here hx rfl (pc0 := 114) (pc' := 118) rfl (hb hby at_114) (by decide) (by decide) ?_
    show Steps p.tables e below (T15.setTop (mkF m 118 #[.val (.int p1), .val (.int p2), .val (.int p3), .val (.int p4), .val (.int p5), .val (.int p6), .val (.int (own_n p1)), .val (.int (val1 p2)), .val (.int (val1 p3)), .val (.int (val1 p4)), .val (.int (val1 p5)), .val (.int (val1 p6)), .val (.ref b12), .unset, .unset] [(.int (1 : Int32)), (.int (((val6 (1 : Int32) (val1 p2)) + (val6 (1 : Int32) (val1 p3))) + (val6 (1 : Int32) (val1 p4))))])) _
    refine XS.iload X15.here hx rfl (hb hby at_118) rfl ?_
    show Steps p.tables e below (T15.setTop (mkF m 120 #[.val (.int p1), .val (.int p2), .val (.int p3), .val (.int p4), .val (.int p5), .val (.int p6), .val (.int (own_n p1)), .val (.int (val1 p2)), .val (.int (val1 p3)), .val (.int (val1 p4)), .val (.int (val1 p5)), .val (.int (val1 p6)), .val (.ref b12), .unset, .unset] [(.int (val1 p5)), (.int (1 : Int32)), (.int (((val6 (1 : Int32) (val1 p2)) + (val6 (1 : Int32) (val1 p3))) + (val6 (1 : Int32) (val1 p4))))])) _
    refine st16 _ ?_
    show Steps p.tables e below (T16.setTop (mkF m 123 #[.val (.int p1), .val (.int p2), .val (.int p3), .val (.int p4), .val (.int p5), .val (.int p6), .val (.int (own_n p1)), .val (.int (val1 p2)), .val (.int (val1 p3)), .val (.int (val1 p4)), .val (.int (val1 p5)), .val (.int (val1 p6)), .val (.ref b12), .unset, .unset] [(.int (val6 (1 : Int32) (val1 p5))), (.int (((val6 (1 : Int32) (val1 p2)) + (val6 (1 : Int32) (val1 p3))) + (val6 (1 : Int32) (val1 p4))))])) _
    refine XS.iadd X16.here hx rfl (hb hby at_123) rfl ?_
    show Steps p.tables e below (T16.setTop (mkF m 124 #[.val (.int p1), .val (.int p2), .val (.int p3), .val (.int p4), .val (.int p5), .val (.int p6), .val (.int (own_n p1)), .val (.int (val1 p2)), .val (.int (val1 p3)), .val (.int (val1 p4)), .val (.int (val1 p5)), .val (.int (val1 p6)), .val (.ref b12), .unset, .unset] [(.int ((((val6 (1 : Int32) (val1 p2)) + (val6 (1 : Int32) (val1 p3))) + (val6 (1 : Int32) (val1 p4))) + (val6 (1 : Int32) (val1 p5))))])) _
    refine XS.iload X16.here hx rfl (hb hby at_124) rfl ?_
    show Steps p.tables e below (T16.setTop (mkF m 126 #[.val (.int p1), .val (.int p2), .val (.int p3), .val (.int p4), .val (.int p5), .val (.int p6), .val (.int (own_n p1)), .val (.int (val1 p2)), .val (.int (val1 p3)), .val (.int (val1 p4)), .val (.int (val1 p5)), .val (.int (val1 p6)), .val (.ref b12), .unset, .unset] [(.int (own_n p1)), (.int ((((val6 (1 : Int32) (val1 p2)) + (val6 (1 : Int32) (val1 p3))) + (val6 (1 : Int32) (val1 p4))) + (val6 (1 : Int32) (val1 p5))))])) _
    refine XS.iconst X16.here hx rfl (hb hby at_126) ?_
    show Steps p.tables e below (T16.setTop (mkF m 127 #[.val (.int p1), .val (.int p2), .val (.int p3), .val (.int p4), .val (.int p5), .val (.int p6), .val (.int (own_n p1)), .val (.int (val1 p2)), .val (.int (val1 p3)), .val (.int (val1 p4)), .val (.int (val1 p5)), .val (.int (val1 p6)), .val (.ref b12), .unset, .unset] [(.int (4 : Int32)), (.int (own_n p1)), (.int ((((val6 (1 : Int32) (val1 p2)) + (val6 (1 : Int32) (val1 p3))) + (val6 (1 : Int32) (val1 p4))) + (val6 (1 : Int32) (val1 p5))))])) _
    refine XS.icmpNo X16.here hx rfl (hb hby at_127) rfl (tlt (by rw [hn]; decide)).2.2.2 ?_
    show Steps p.tables e below (T16.setTop (mkF m 130 #[.val (.int p1), .val (.int p2), .val (.int p3), .val (.int p4), .val (.int p5), .val (.int p6), .val (.int (own_n p1)), .val (.int (val1 p2)), .val (.int (val1 p3)), .val (.int (val1 p4)), .val (.int (val1 p5)), .val (.int (val1 p6)), .val (.ref b12), .unset, .unset] [(.int ((((val6 (1 : Int32) (val1 p2)) + (val6 (1 : Int32) (val1 p3))) + (val6 (1 : Int32) (val1 p4))) + (val6 (1 : Int32) (val1 p5))))])) _
    refine XS.iconst X16.here hx rfl (hb hby at_130) ?_
    show Steps p.tables e below (T16.setTop (mkF m 131 #[.val (.int p1), .val (.int p2), .val (.int p3), .val (.int p4), .val (.int p5), .val (.int p6), .val (.int (own_n p1)), .val (.int (val1 p2)), .val (.int (val1 p3)), .val (.int (val1 p4)), .val (.int (val1 p5)), .val (.int (val1 p6)), .val (.ref b12), .unset, .unset] [(.int (1 : Int32)), (.int ((((val6 (1 : Int32) (val1 p2)) + (val6 (1 : Int32) (val1 p3))) + (val6 (1 : Int32) (val1 p4))) + (val6 (1 : Int32) (val1 p5))))])) _
    refine XS.goto X16.here hx rfl (pc0 := 131) (pc' := 135) rfl (hb hby at_131) (by decide) (by decide) ?_
    show Steps p.tables e below (T16.setTop (mkF m 135 #[.val (.int p1), .val (.int p2), .val (.int p3), .val (.int p4), .val (.int p5), .val (.int p6), .val (.int (own_n p1)), .val (.int (val1 p2)), .val (.int (val1 p3)), .val (.int (val1 p4)), .val (.int (val1 p5)), .val (.int (val1 p6)), .val (.ref b12), .unset, .unset] [(.int (1 : Int32)), (.int ((((val6 (1 : Int32) (val1 p2)) + (val6 (1 : Int32) (val1 p3))) + (val6 (1 : Int32) (val1 p4))) + (val6 (1 : Int32) (val1 p5))))])) _
    refine XS.iload X16.here hx rfl (hb hby at_135) rfl ?_
    show Steps p.tables e below (T16.setTop (mkF m 137 #[.val (.int p1), .val (.int p2), .val (.int p3), .val (.int p4), .val (.int p5), .val (.int p6), .val (.int (own_n p1)), .val (.int (val1 p2)), .val (.int (val1 p3)), .val (.int (val1 p4)), .val (.int (val1 p5)), .val (.int (val1 p6)), .val (.ref b12), .unset, .unset] [(.int (val1 p6)), (.int (1 : Int32)), (.int ((((val6 (1 : Int32) (val1 p2)) + (val6 (1 : Int32) (val1 p3))) + (val6 (1 : Int32) (val1 p4))) + (val6 (1 : Int32) (val1 p5))))])) _
    refine st17 _ ?_
    show Steps p.tables e below (T17.setTop (mkF m 140 #[.val (.int p1), .val (.int p2), .val (.int p3), .val (.int p4), .val (.int p5), .val (.int p6), .val (.int (own_n p1)), .val (.int (val1 p2)), .val (.int (val1 p3)), .val (.int (val1 p4)), .val (.int (val1 p5)), .val (.int (val1 p6)), .val (.ref b12), .unset, .unset] [(.int (val6 (1 : Int32) (val1 p6))), (.int ((((val6 (1 : Int32) (val1 p2)) + (val6 (1 : Int32) (val1 p3))) + (val6 (1 : Int32) (val1 p4))) + (val6 (1 : Int32) (val1 p5))))])) _
    refine XS.iadd X17.here hx rfl (hb hby at_140) rfl ?_
    show Steps p.tables e below (T17.setTop (mkF m 141 #[.val (.int p1), .val (.int p2), .val (.int p3), .val (.int p4), .val (.int p5), .val (.int p6), .val (.int (own_n p1)), .val (.int (val1 p2)), .val (.int (val1 p3)), .val (.int (val1 p4)), .val (.int (val1 p5)), .val (.int (val1 p6)), .val (.ref b12), .unset, .unset] [(.int (((((val6 (1 : Int32) (val1 p2)) + (val6 (1 : Int32) (val1 p3))) + (val6 (1 : Int32) (val1 p4))) + (val6 (1 : Int32) (val1 p5))) + (val6 (1 : Int32) (val1 p6))))])) _
    refine XS.istore X17.here hx rfl (hb hby at_141) rfl (l' := #[.val (.int p1), .val (.int p2), .val (.int p3), .val (.int p4), .val (.int p5), .val (.int p6), .val (.int (own_n p1)), .val (.int (val1 p2)), .val (.int (val1 p3)), .val (.int (val1 p4)), .val (.int (val1 p5)), .val (.int (val1 p6)), .val (.ref b12), .val (.int (((((val6 (1 : Int32) (val1 p2)) + (val6 (1 : Int32) (val1 p3))) + (val6 (1 : Int32) (val1 p4))) + (val6 (1 : Int32) (val1 p5))) + (val6 (1 : Int32) (val1 p6)))), .unset]) rfl ?_
    show Steps p.tables e below (T17.setTop (mkF m 143 #[.val (.int p1), .val (.int p2), .val (.int p3), .val (.int p4), .val (.int p5), .val (.int p6), .val (.int (own_n p1)), .val (.int (val1 p2)), .val (.int (val1 p3)), .val (.int (val1 p4)), .val (.int (val1 p5)), .val (.int (val1 p6)), .val (.ref b12), .val (.int (((((val6 (1 : Int32) (val1 p2)) + (val6 (1 : Int32) (val1 p3))) + (val6 (1 : Int32) (val1 p4))) + (val6 (1 : Int32) (val1 p5))) + (val6 (1 : Int32) (val1 p6)))), .unset] [])) _
    refine XS.aload X17.here hx rfl (hb hby at_143) rfl rfl ?_
    show Steps p.tables e below (T17.setTop (mkF m 145 #[.val (.int p1), .val (.int p2), .val (.int p3), .val (.int p4), .val (.int p5), .val (.int p6), .val (.int (own_n p1)), .val (.int (val1 p2)), .val (.int (val1 p3)), .val (.int (val1 p4)), .val (.int (val1 p5)), .val (.int (val1 p6)), .val (.ref b12), .val (.int (((((val6 (1 : Int32) (val1 p2)) + (val6 (1 : Int32) (val1 p3))) + (val6 (1 : Int32) (val1 p4))) + (val6 (1 : Int32) (val1 p5))) + (val6 (1 : Int32) (val1 p6)))), .unset] [(.ref b12)])) _
    refine st18 _ ?_
    show Steps p.tables e below (T18.setTop (mkF m 148 #[.val (.int p1), .val (.int p2), .val (.int p3), .val (.int p4), .val (.int p5), .val (.int p6), .val (.int (own_n p1)), .val (.int (val1 p2)), .val (.int (val1 p3)), .val (.int (val1 p4)), .val (.int (val1 p5)), .val (.int (val1 p6)), .val (.ref b12), .val (.int (((((val6 (1 : Int32) (val1 p2)) + (val6 (1 : Int32) (val1 p3))) + (val6 (1 : Int32) (val1 p4))) + (val6 (1 : Int32) (val1 p5))) + (val6 (1 : Int32) (val1 p6)))), .unset] [(.int (Int32.ofNat ([(val1 p2), (val1 p3), (val1 p4), (val1 p5), (val1 p6)] : List Int32).length - ((2 : Int32) * own_cnt ([(val1 p2), (val1 p3), (val1 p4), (val1 p5), (val1 p6)] : List Int32))))])) _
    refine XS.istore X18.here hx rfl (hb hby at_148) rfl (l' := #[.val (.int p1), .val (.int p2), .val (.int p3), .val (.int p4), .val (.int p5), .val (.int p6), .val (.int (own_n p1)), .val (.int (val1 p2)), .val (.int (val1 p3)), .val (.int (val1 p4)), .val (.int (val1 p5)), .val (.int (val1 p6)), .val (.ref b12), .val (.int (((((val6 (1 : Int32) (val1 p2)) + (val6 (1 : Int32) (val1 p3))) + (val6 (1 : Int32) (val1 p4))) + (val6 (1 : Int32) (val1 p5))) + (val6 (1 : Int32) (val1 p6)))), .val (.int (Int32.ofNat ([(val1 p2), (val1 p3), (val1 p4), (val1 p5), (val1 p6)] : List Int32).length - ((2 : Int32) * own_cnt ([(val1 p2), (val1 p3), (val1 p4), (val1 p5), (val1 p6)] : List Int32))))]) rfl ?_
    show Steps p.tables e below (T18.setTop (mkF m 150 #[.val (.int p1), .val (.int p2), .val (.int p3), .val (.int p4), .val (.int p5), .val (.int p6), .val (.int (own_n p1)), .val (.int (val1 p2)), .val (.int (val1 p3)), .val (.int (val1 p4)), .val (.int (val1 p5)), .val (.int (val1 p6)), .val (.ref b12), .val (.int (((((val6 (1 : Int32) (val1 p2)) + (val6 (1 : Int32) (val1 p3))) + (val6 (1 : Int32) (val1 p4))) + (val6 (1 : Int32) (val1 p5))) + (val6 (1 : Int32) (val1 p6)))), .val (.int (Int32.ofNat ([(val1 p2), (val1 p3), (val1 p4), (val1 p5), (val1 p6)] : List Int32).length - ((2 : Int32) * own_cnt ([(val1 p2), (val1 p3), (val1 p4), (val1 p5), (val1 p6)] : List Int32))))] [])) _
    refine XS.aload X18.here hx rfl (hb hby at_150) rfl rfl ?_
    show Steps p.tables e below (T18.setTop (mkF m 152 #[.val (.int p1), .val (.int p2), .val (.int p3), .val (.int p4), .val (.int p5), .val (.int p6), .val (.int (own_n p1)), .val (.int (val1 p2)), .val (.int (val1 p3)), .val (.int (val1 p4)), .val (.int (val1 p5)), .val (.int (val1 p6)), .val (.ref b12), .val (.int (((((val6 (1 : Int32) (val1 p2)) + (val6 (1 : Int32) (val1 p3))) + (val6 (1 : Int32) (val1 p4))) + (val6 (1 : Int32) (val1 p5))) + (val6 (1 : Int32) (val1 p6)))), .val (.int (Int32.ofNat ([(val1 p2), (val1 p3), (val1 p4), (val1 p5), (val1 p6)] : List Int32).length - ((2 : Int32) * own_cnt ([(val1 p2), (val1 p3), (val1 p4), (val1 p5), (val1 p6)] : List Int32))))] [(.ref b12)])) _
    refine st19.trans ?_
    show Steps p.tables e below (T19.setTop (mkF m 155 #[.val (.int p1), .val (.int p2), .val (.int p3), .val (.int p4), .val (.int p5), .val (.int p6), .val (.int (own_n p1)), .val (.int (val1 p2)), .val (.int (val1 p3)), .val (.int (val1 p4)), .val (.int (val1 p5)), .val (.int (val1 p6)), .val (.ref b12), .val (.int (((((val6 (1 : Int32) (val1 p2)) + (val6 (1 : Int32) (val1 p3))) + (val6 (1 : Int32) (val1 p4))) + (val6 (1 : Int32) (val1 p5))) + (val6 (1 : Int32) (val1 p6)))), .val (.int (Int32.ofNat ([(val1 p2), (val1 p3), (val1 p4), (val1 p5), (val1 p6)] : List Int32).length - ((2 : Int32) * own_cnt ([(val1 p2), (val1 p3), (val1 p4), (val1 p5), (val1 p6)] : List Int32))))] [(.int (Int32.ofNat ([(val1 p2), (val1 p3), (val1 p4), (val1 p5), (val1 p6)] : List Int32).length))])) _
    refine XS.iload X19.here hx rfl (hb hby at_155) rfl ?_
    show Steps p.tables e below (T19.setTop (mkF m 157 #[.val (.int p1), .val (.int p2), .val (.int p3), .val (.int p4), .val (.int p5), .val (.int p6), .val (.int (own_n p1)), .val (.int (val1 p2)), .val (.int (val1 p3)), .val (.int (val1 p4)), .val (.int (val1 p5)), .val (.int (val1 p6)), .val (.ref b12), .val (.int (((((val6 (1 : Int32) (val1 p2)) + (val6 (1 : Int32) (val1 p3))) + (val6 (1 : Int32) (val1 p4))) + (val6 (1 : Int32) (val1 p5))) + (val6 (1 : Int32) (val1 p6)))), .val (.int (Int32.ofNat ([(val1 p2), (val1 p3), (val1 p4), (val1 p5), (val1 p6)] : List Int32).length - ((2 : Int32) * own_cnt ([(val1 p2), (val1 p3), (val1 p4), (val1 p5), (val1 p6)] : List Int32))))] [(.int (own_n p1)), (.int (Int32.ofNat ([(val1 p2), (val1 p3), (val1 p4), (val1 p5), (val1 p6)] : List Int32).length))])) _
    refine XS.icmpNo X19.here hx rfl (hb hby at_157) rfl (teq (hn.symm : (Int32.ofNat ([(val1 p2), (val1 p3), (val1 p4), (val1 p5), (val1 p6)] : List Int32).length) = (own_n p1))).2 ?_
    show Steps p.tables e below (T19.setTop (mkF m 160 #[.val (.int p1), .val (.int p2), .val (.int p3), .val (.int p4), .val (.int p5), .val (.int p6), .val (.int (own_n p1)), .val (.int (val1 p2)), .val (.int (val1 p3)), .val (.int (val1 p4)), .val (.int (val1 p5)), .val (.int (val1 p6)), .val (.ref b12), .val (.int (((((val6 (1 : Int32) (val1 p2)) + (val6 (1 : Int32) (val1 p3))) + (val6 (1 : Int32) (val1 p4))) + (val6 (1 : Int32) (val1 p5))) + (val6 (1 : Int32) (val1 p6)))), .val (.int (Int32.ofNat ([(val1 p2), (val1 p3), (val1 p4), (val1 p5), (val1 p6)] : List Int32).length - ((2 : Int32) * own_cnt ([(val1 p2), (val1 p3), (val1 p4), (val1 p5), (val1 p6)] : List Int32))))] [])) _
    refine XS.iload X19.here hx rfl (hb hby at_160) rfl ?_
    show Steps p.tables e below (T19.setTop (mkF m 162 #[.val (.int p1), .val (.int p2), .val (.int p3), .val (.int p4), .val (.int p5), .val (.int p6), .val (.int (own_n p1)), .val (.int (val1 p2)), .val (.int (val1 p3)), .val (.int (val1 p4)), .val (.int (val1 p5)), .val (.int (val1 p6)), .val (.ref b12), .val (.int (((((val6 (1 : Int32) (val1 p2)) + (val6 (1 : Int32) (val1 p3))) + (val6 (1 : Int32) (val1 p4))) + (val6 (1 : Int32) (val1 p5))) + (val6 (1 : Int32) (val1 p6)))), .val (.int (Int32.ofNat ([(val1 p2), (val1 p3), (val1 p4), (val1 p5), (val1 p6)] : List Int32).length - ((2 : Int32) * own_cnt ([(val1 p2), (val1 p3), (val1 p4), (val1 p5), (val1 p6)] : List Int32))))] [(.int (Int32.ofNat ([(val1 p2), (val1 p3), (val1 p4), (val1 p5), (val1 p6)] : List Int32).length - ((2 : Int32) * own_cnt ([(val1 p2), (val1 p3), (val1 p4), (val1 p5), (val1 p6)] : List Int32))))])) _
    refine XS.iload X19.here hx rfl (hb hby at_162) rfl ?_
    show Steps p.tables e below (T19.setTop (mkF m 164 #[.val (.int p1), .val (.int p2), .val (.int p3), .val (.int p4), .val (.int p5), .val (.int p6), .val (.int (own_n p1)), .val (.int (val1 p2)), .val (.int (val1 p3)), .val (.int (val1 p4)), .val (.int (val1 p5)), .val (.int (val1 p6)), .val (.ref b12), .val (.int (((((val6 (1 : Int32) (val1 p2)) + (val6 (1 : Int32) (val1 p3))) + (val6 (1 : Int32) (val1 p4))) + (val6 (1 : Int32) (val1 p5))) + (val6 (1 : Int32) (val1 p6)))), .val (.int (Int32.ofNat ([(val1 p2), (val1 p3), (val1 p4), (val1 p5), (val1 p6)] : List Int32).length - ((2 : Int32) * own_cnt ([(val1 p2), (val1 p3), (val1 p4), (val1 p5), (val1 p6)] : List Int32))))] [(.int (own_n p1)), (.int (Int32.ofNat ([(val1 p2), (val1 p3), (val1 p4), (val1 p5), (val1 p6)] : List Int32).length - ((2 : Int32) * own_cnt ([(val1 p2), (val1 p3), (val1 p4), (val1 p5), (val1 p6)] : List Int32))))])) _
    refine XS.iconst X19.here hx rfl (hb hby at_164) ?_
    show Steps p.tables e below (T19.setTop (mkF m 165 #[.val (.int p1), .val (.int p2), .val (.int p3), .val (.int p4), .val (.int p5), .val (.int p6), .val (.int (own_n p1)), .val (.int (val1 p2)), .val (.int (val1 p3)), .val (.int (val1 p4)), .val (.int (val1 p5)), .val (.int (val1 p6)), .val (.ref b12), .val (.int (((((val6 (1 : Int32) (val1 p2)) + (val6 (1 : Int32) (val1 p3))) + (val6 (1 : Int32) (val1 p4))) + (val6 (1 : Int32) (val1 p5))) + (val6 (1 : Int32) (val1 p6)))), .val (.int (Int32.ofNat ([(val1 p2), (val1 p3), (val1 p4), (val1 p5), (val1 p6)] : List Int32).length - ((2 : Int32) * own_cnt ([(val1 p2), (val1 p3), (val1 p4), (val1 p5), (val1 p6)] : List Int32))))] [(.int (2 : Int32)), (.int (own_n p1)), (.int (Int32.ofNat ([(val1 p2), (val1 p3), (val1 p4), (val1 p5), (val1 p6)] : List Int32).length - ((2 : Int32) * own_cnt ([(val1 p2), (val1 p3), (val1 p4), (val1 p5), (val1 p6)] : List Int32))))])) _
    refine XS.iload X19.here hx rfl (hb hby at_165) rfl ?_
    show Steps p.tables e below (T19.setTop (mkF m 167 #[.val (.int p1), .val (.int p2), .val (.int p3), .val (.int p4), .val (.int p5), .val (.int p6), .val (.int (own_n p1)), .val (.int (val1 p2)), .val (.int (val1 p3)), .val (.int (val1 p4)), .val (.int (val1 p5)), .val (.int (val1 p6)), .val (.ref b12), .val (.int (((((val6 (1 : Int32) (val1 p2)) + (val6 (1 : Int32) (val1 p3))) + (val6 (1 : Int32) (val1 p4))) + (val6 (1 : Int32) (val1 p5))) + (val6 (1 : Int32) (val1 p6)))), .val (.int (Int32.ofNat ([(val1 p2), (val1 p3), (val1 p4), (val1 p5), (val1 p6)] : List Int32).length - ((2 : Int32) * own_cnt ([(val1 p2), (val1 p3), (val1 p4), (val1 p5), (val1 p6)] : List Int32))))] [(.int (((((val6 (1 : Int32) (val1 p2)) + (val6 (1 : Int32) (val1 p3))) + (val6 (1 : Int32) (val1 p4))) + (val6 (1 : Int32) (val1 p5))) + (val6 (1 : Int32) (val1 p6)))), (.int (2 : Int32)), (.int (own_n p1)), (.int (Int32.ofNat ([(val1 p2), (val1 p3), (val1 p4), (val1 p5), (val1 p6)] : List Int32).length - ((2 : Int32) * own_cnt ([(val1 p2), (val1 p3), (val1 p4), (val1 p5), (val1 p6)] : List Int32))))])) _
    refine XS.imul X19.here hx rfl (hb hby at_167) rfl ?_
    show Steps p.tables e below (T19.setTop (mkF m 168 #[.val (.int p1), .val (.int p2), .val (.int p3), .val (.int p4), .val (.int p5), .val (.int p6), .val (.int (own_n p1)), .val (.int (val1 p2)), .val (.int (val1 p3)), .val (.int (val1 p4)), .val (.int (val1 p5)), .val (.int (val1 p6)), .val (.ref b12), .val (.int (((((val6 (1 : Int32) (val1 p2)) + (val6 (1 : Int32) (val1 p3))) + (val6 (1 : Int32) (val1 p4))) + (val6 (1 : Int32) (val1 p5))) + (val6 (1 : Int32) (val1 p6)))), .val (.int (Int32.ofNat ([(val1 p2), (val1 p3), (val1 p4), (val1 p5), (val1 p6)] : List Int32).length - ((2 : Int32) * own_cnt ([(val1 p2), (val1 p3), (val1 p4), (val1 p5), (val1 p6)] : List Int32))))] [(.int ((2 : Int32) * (((((val6 (1 : Int32) (val1 p2)) + (val6 (1 : Int32) (val1 p3))) + (val6 (1 : Int32) (val1 p4))) + (val6 (1 : Int32) (val1 p5))) + (val6 (1 : Int32) (val1 p6))))), (.int (own_n p1)), (.int (Int32.ofNat ([(val1 p2), (val1 p3), (val1 p4), (val1 p5), (val1 p6)] : List Int32).length - ((2 : Int32) * own_cnt ([(val1 p2), (val1 p3), (val1 p4), (val1 p5), (val1 p6)] : List Int32))))])) _
    refine XS.isub X19.here hx rfl (hb hby at_168) rfl ?_
    show Steps p.tables e below (T19.setTop (mkF m 169 #[.val (.int p1), .val (.int p2), .val (.int p3), .val (.int p4), .val (.int p5), .val (.int p6), .val (.int (own_n p1)), .val (.int (val1 p2)), .val (.int (val1 p3)), .val (.int (val1 p4)), .val (.int (val1 p5)), .val (.int (val1 p6)), .val (.ref b12), .val (.int (((((val6 (1 : Int32) (val1 p2)) + (val6 (1 : Int32) (val1 p3))) + (val6 (1 : Int32) (val1 p4))) + (val6 (1 : Int32) (val1 p5))) + (val6 (1 : Int32) (val1 p6)))), .val (.int (Int32.ofNat ([(val1 p2), (val1 p3), (val1 p4), (val1 p5), (val1 p6)] : List Int32).length - ((2 : Int32) * own_cnt ([(val1 p2), (val1 p3), (val1 p4), (val1 p5), (val1 p6)] : List Int32))))] [(.int ((own_n p1) - ((2 : Int32) * (((((val6 (1 : Int32) (val1 p2)) + (val6 (1 : Int32) (val1 p3))) + (val6 (1 : Int32) (val1 p4))) + (val6 (1 : Int32) (val1 p5))) + (val6 (1 : Int32) (val1 p6)))))), (.int (Int32.ofNat ([(val1 p2), (val1 p3), (val1 p4), (val1 p5), (val1 p6)] : List Int32).length - ((2 : Int32) * own_cnt ([(val1 p2), (val1 p3), (val1 p4), (val1 p5), (val1 p6)] : List Int32))))])) _
    refine XS.icmpNo X19.here hx rfl (hb hby at_169) rfl (teq (own_fin5 p1 p2 p3 p4 p5 p6 hn : (Int32.ofNat ([(val1 p2), (val1 p3), (val1 p4), (val1 p5), (val1 p6)] : List Int32).length - ((2 : Int32) * own_cnt ([(val1 p2), (val1 p3), (val1 p4), (val1 p5), (val1 p6)] : List Int32))) = ((own_n p1) - ((2 : Int32) * (((((val6 (1 : Int32) (val1 p2)) + (val6 (1 : Int32) (val1 p3))) + (val6 (1 : Int32) (val1 p4))) + (val6 (1 : Int32) (val1 p5))) + (val6 (1 : Int32) (val1 p6))))))).2 ?_
    show Steps p.tables e below (T19.setTop (mkF m 172 #[.val (.int p1), .val (.int p2), .val (.int p3), .val (.int p4), .val (.int p5), .val (.int p6), .val (.int (own_n p1)), .val (.int (val1 p2)), .val (.int (val1 p3)), .val (.int (val1 p4)), .val (.int (val1 p5)), .val (.int (val1 p6)), .val (.ref b12), .val (.int (((((val6 (1 : Int32) (val1 p2)) + (val6 (1 : Int32) (val1 p3))) + (val6 (1 : Int32) (val1 p4))) + (val6 (1 : Int32) (val1 p5))) + (val6 (1 : Int32) (val1 p6)))), .val (.int (Int32.ofNat ([(val1 p2), (val1 p3), (val1 p4), (val1 p5), (val1 p6)] : List Int32).length - ((2 : Int32) * own_cnt ([(val1 p2), (val1 p3), (val1 p4), (val1 p5), (val1 p6)] : List Int32))))] [])) _
    refine XS.iconst X19.here hx rfl (hb hby at_172) ?_
    show Steps p.tables e below (T19.setTop (mkF m 173 #[.val (.int p1), .val (.int p2), .val (.int p3), .val (.int p4), .val (.int p5), .val (.int p6), .val (.int (own_n p1)), .val (.int (val1 p2)), .val (.int (val1 p3)), .val (.int (val1 p4)), .val (.int (val1 p5)), .val (.int (val1 p6)), .val (.ref b12), .val (.int (((((val6 (1 : Int32) (val1 p2)) + (val6 (1 : Int32) (val1 p3))) + (val6 (1 : Int32) (val1 p4))) + (val6 (1 : Int32) (val1 p5))) + (val6 (1 : Int32) (val1 p6)))), .val (.int (Int32.ofNat ([(val1 p2), (val1 p3), (val1 p4), (val1 p5), (val1 p6)] : List Int32).length - ((2 : Int32) * own_cnt ([(val1 p2), (val1 p3), (val1 p4), (val1 p5), (val1 p6)] : List Int32))))] [(.int (1 : Int32))])) _
    refine XS.goto X19.here hx rfl (pc0 := 173) (pc' := 177) rfl (hb hby at_173) (by decide) (by decide) ?_
    show Steps p.tables e below (T19.setTop (mkF m 177 #[.val (.int p1), .val (.int p2), .val (.int p3), .val (.int p4), .val (.int p5), .val (.int p6), .val (.int (own_n p1)), .val (.int (val1 p2)), .val (.int (val1 p3)), .val (.int (val1 p4)), .val (.int (val1 p5)), .val (.int (val1 p6)), .val (.ref b12), .val (.int (((((val6 (1 : Int32) (val1 p2)) + (val6 (1 : Int32) (val1 p3))) + (val6 (1 : Int32) (val1 p4))) + (val6 (1 : Int32) (val1 p5))) + (val6 (1 : Int32) (val1 p6)))), .val (.int (Int32.ofNat ([(val1 p2), (val1 p3), (val1 p4), (val1 p5), (val1 p6)] : List Int32).length - ((2 : Int32) * own_cnt ([(val1 p2), (val1 p3), (val1 p4), (val1 p5), (val1 p6)] : List Int32))))] [(.int (1 : Int32))])) _
    exact retN X19 hx (t := .boolean) Bd.returns (by simp) (hb hby at_177) hr
  · show Q0 Z p1 p2 p3 p4 p5 p6 h0 n0 _ T19.heap _
    exact ⟨rfl, N19⟩
theorem own_backS {p : Program} {l : Launch} {e : Env} {R : Room} {s Z : State} {args a0 : Array Value} {below : List Frame} {h : Heap} {y : MethodName} {bytes : ByteArray} {maxL : Nat} {ret : Option FieldType} {rm : Room} {len W : Nat} {as' : Array Value} {Q : Option Value → Heap → List Loc → Prop}
    (hM : MetFree l y (head1 [Jvm.Cond.code y bytes maxL ret] rm) (fun a U => a = as' ∧ (Z.Warmed39 U.vm ∧ U.vm.interned = Z.vm.interned) ∧ U.heap = h) (fun _ _ _ _ _ => True) (fun _ U o U' => ∃ v L, o = .returned v ∧ Q v U'.heap L ∧ ReturnedEndW U o U' L rm.cells rm.slots))
    (hZ : Z.Warmed39 s.vm) (hI : s.vm.interned = Z.vm.interned) (wc : (Jvm.Cond.code y bytes maxL ret).before a0 Z = true) (wz : (Jvm.Cond.initialized y.cls).before a0 Z = true) (hf : rm.frames + 1 ≤ R.frames) (hl : W + (maxL + 11) + rm.locals ≤ R.locals) :
    BackS l R p e below s args y len W (fun A a => a = as' ∧ A.U.heap = h ∧ A.cells + rm.cells ≤ R.cells ∧ A.slots + rm.slots ≤ R.slots)
      (fun A _ v B => ∃ L, Q v B.U.heap L ∧ B.locs = A.locs ++ L ∧ B.cells = A.cells + rm.cells ∧ B.slots = A.slots + rm.slots) :=
  BackS.of_freeW (bytes := bytes) (maxL := maxL) (ret := ret) (E := fun _ _ o t L k n => k = rm.cells ∧ n = rm.slots ∧ ∃ v, o = .returned v ∧ Q v t.heap L) hM hf hl
    (fun m meth c A a Y hp => have hU : Z.Warmed39 A.U.vm := wtrans hZ Y.warmed
      ⟨by show (Jvm.Cond.and _ .tt).before a A.U = true; rw [Cond.before_and, mv hU wc]; rfl, mv hU wc, mv hU wz, hp.2.2.1, hp.2.2.2⟩)
    (fun m meth c A a g mk Y hp => ⟨hp.1, ⟨wtrans hZ Y.warmed, Y.warmed.interned_eq.trans hI⟩, hp.2.1⟩) (fun _ _ _ _ _ _ _ _ _ => trivial)
    (fun _ _ _ _ ⟨v, L, h1, h2, h3⟩ => ⟨L, _, _, h3, rfl, rfl, v, h1, h2⟩)
    (fun m meth c A a g mk v t L k n Y hp _ _ ⟨e1, e2, v', e3, e4⟩ => by cases e3; subst e1 e2; exact ⟨L, e4, rfl, rfl, rfl⟩)
theorem d4_0 : decode jdk_42_method_149_code 0 = .ok (.aload_n 0, 1) := by decide +kernel
theorem d4_1 : decode jdk_42_method_149_code 1 = .ok (.invokespecial 1, 3) := by decide +kernel
theorem d4_4 : decode jdk_42_method_149_code 4 = .ok (.iload_n 3, 1) := by decide +kernel
theorem d4_5 : decode jdk_42_method_149_code 5 = .ok (.ifCond .ne 22, 3) := by decide +kernel
theorem d4_8 : decode jdk_42_method_149_code 8 = .ok (.aload_n 0, 1) := by decide +kernel
theorem d4_9 : decode jdk_42_method_149_code 9 = .ok (.ldc 7, 2) := by decide +kernel
theorem d4_11 : decode jdk_42_method_149_code 11 = .ok (.getfield 9, 3) := by decide +kernel
theorem d4_14 : decode jdk_42_method_149_code 14 = .ok (.putfield 9, 3) := by decide +kernel
theorem d4_17 : decode jdk_42_method_149_code 17 = .ok (.aload_n 0, 1) := by decide +kernel
theorem d4_18 : decode jdk_42_method_149_code 18 = .ok (.ldc 7, 2) := by decide +kernel
theorem d4_20 : decode jdk_42_method_149_code 20 = .ok (.getfield 15, 3) := by decide +kernel
theorem d4_23 : decode jdk_42_method_149_code 23 = .ok (.putfield 15, 3) := by decide +kernel
theorem d4_26 : decode jdk_42_method_149_code 26 = .ok (.return_, 1) := by decide +kernel
theorem pn_4 : plainName "java/lang/String" = true := by first | (simp [plainName, overriddenIn]; done) | decide +kernel
theorem ef_4 (m : MethodId) (x0 : Addr) (x1 : Addr) (x2 : Int32) (x3 : Int32) : entryFrame m #[(.ref x0), (.ref x1), (.int x2), (.int x3), .null] 6 = mkF m 0 #[.val (.ref x0), .val (.ref x1), .val (.int x2), .val (.int x3), .val .null, .unset] [] := by first | (simp [entryFrame, mkF, argsToLocals, Value.category]; done) | rfl
def Q4 (Z : State) (a1 : Addr) (a2 : Addr) (p3 : Int32) (p4 : Int32) (u_coder_a1 : Value) (h0 : Heap) (n0 : Nat) (v : Option Value) (h : Heap) (L : List Loc) : Prop := v = none ∧ Fr n0 L ∧ Keep h0 h [a1] ∧ own_STR Z h a1 []
set_option maxRecDepth 65536 in
set_option maxHeartbeats 40000000 in
theorem rm4 (l : Launch) (Z : State) (a0 : Array Value) (hw : ∀ d ∈ tables_1, d.before a0 Z = true) (ws : List Jvm.Cond) (a1 : Addr) (a2 : Addr) (p3 : Int32) (p4 : Int32) (u_coder_a1 : Value) (h0 : Heap) (n0 : Nat) (Z0 : n0 ≤ h0.size) (X00 : Old Z n0 h0) (hcH : Jvm.Lit.constHeld Z "java/lang/String" 7) (hcw : Jvm.Lit.compactW.before a0 Z = true) (E_a1 : Exa Z h0 a1 "java/lang/String") (F_value_a1 : Fld Z h0 a1 "java/lang/String" "value" "[B" .null) (g_a1 : n0 ≤ a1) (F_coder_a1 : Fld Z h0 a1 "java/lang/String" "coder" "B" u_coder_a1) (hc5 : p4 = (0 : Int32)) :
    MetFree l (⟨"java/lang/String", "<init>", "([CIILjava/lang/Void;)V"⟩ : MethodName) (head1 (Jvm.Cond.code (⟨"java/lang/String", "<init>", "([CIILjava/lang/Void;)V"⟩ : MethodName) jdk_42_method_149_code 6 none :: ws) ({ frames := 1, cells := 2, slots := 4, locals := 12 } : Room)) (fun a U => a = #[(.ref a1), (.ref a2), (.int p3), (.int p4), .null] ∧ (Z.Warmed39 U.vm ∧ U.vm.interned = Z.vm.interned) ∧ U.heap = h0) (fun _ _ _ _ _ => True) (fun _ U o U' => ∃ v L, o = .returned v ∧ Q4 Z a1 a2 p3 p4 u_coder_a1 h0 n0 v U'.heap L ∧ ReturnedEndW U o U' L ({ frames := 1, cells := 2, slots := 4, locals := 12 } : Room).cells ({ frames := 1, cells := 2, slots := 4, locals := 12 } : Room).slots) := by
  refine MetFree.of_bodySF (plainFor_of_name pn_4) hisR ?_
  intro p e s m args below meth c s₁ Bd hml0 hP hK
  obtain ⟨rfl, ⟨hZ, hI⟩, hh⟩ := hP
  have hx := Bd.exec
  have hby := Bd.bytes
  have hml : c.maxLocals = 6 := hml0
  have hown : s.vm.findClass "java/lang/String" = some m.cls := findClass_of_methodNamed Bd.named
  have hnm := (name_of_methodNamed Bd.named Bd.method).1
  have X0 : Stand p l e ({ frames := 1, cells := 2, slots := 4, locals := 12 } : Room) s m #[(.ref a1), (.ref a2), (.int p3), (.int p4), .null] below meth c s₁ [] 0 0 := Stand.of_body Bd
  have e0 : s₁.heap = h0 := by rw [← hh, Bd.state]; rfl
  have N0 := Fr.nil n0
  have pre0 : ∀ t, Steps p.tables e below (s₁.setTop (mkF m 0 #[.val (.ref a1), .val (.ref a2), .val (.int p3), .val (.int p4), .val .null, .unset] [])) t → Steps p.tables e below (s₁.setTop (entryFrame m #[(.ref a1), (.ref a2), (.int p3), (.int p4), .null] 6)) t := fun t k => castTop (ef_4 m a1 a2 p3 p4) k
  obtain ⟨T5, X5, e5, st5⟩ := initO X0 hx hZ hown (hw _ (List.mem_of_getElem? (i := 19) rfl)) (hw _ (List.mem_of_getElem? (i := 20) rfl)) (hw _ (List.mem_of_getElem? (i := 21) rfl)) e0 (g := (mkF m 1 #[.val (.ref a1), .val (.ref a2), .val (.int p3), .val (.int p4), .val .null, .unset] [(.ref a1)])) rfl (by rw [hml]; rfl) rfl (hb hby d4_1) (by decide) (W := 0) (by show 2 * 0 + _ ≤ _; exact Nat.le_of_eq rfl) (by decide)
  obtain ⟨aL, TL, hL, kL, w6, kB, XL, eL, EL, SL, kle, hZL, hownL, xL, FcL, FvL, AvL, -, -, -, LitL, stL⟩ := ldcSVL (s := s) (vm0 := s.vm) X5 hx hZ hown (hw _ (List.mem_of_getElem? (i := 22) rfl)) (fun d hd => hw d ((by decide +kernel : ∀ d ∈ Bundle.stringAtoms, d ∈ tables_1) d hd)) e5 ((State.WarmedH.refl s).since h0.size) (Nat.le_refl _) (Fr.nil _) (fun b cl q => by rw [hh]; exact X00.2.2 b cl q) (Ts := []) ⟨#[], by simp [hI], fun q hq => by simp at hq⟩ (by simp) hcH hcw (vs := []) (z := 0) ⟨by decide, rfl⟩ (by decide) rfl (g := (mkF m 9 #[.val (.ref a1), .val (.ref a2), .val (.int p3), .val (.int p4), .val .null, .unset] [(.ref a1)])) rfl (hb hby d4_9) (n := 0) (by decide) (by decide) (by decide) (by decide)
  have E_a1 := E_a1.ext EL
  have F_value_a1 := F_value_a1.ext EL
  have F_coder_a1 := F_coder_a1.ext EL
  have nL : aL ≠ a1 := Fld.ne FvL F_value_a1 (by intro q; cases q)
  have n6 : w6 ≠ a1 := Ne.symm (Exa.neArv E_a1 AvL (hw _ (List.mem_of_getElem? (i := 9) rfl)))
  obtain ⟨T7, X7, e7, st7⟩ := getF XL hx hZL hownL (host := "") (Or.inl (hw _ (List.mem_of_getElem? (i := 28) rfl))) Via.refl eL FvL (g := (mkF m 11 #[.val (.ref a1), .val (.ref a2), .val (.int p3), .val (.int p4), .val .null, .unset] [(.ref aL), (.ref a1)])) rfl rfl (hb hby d4_11)
  obtain ⟨T8, h8, X8, e8, W8, st8⟩ := putF X7 hx hZL hownL (host := "") (Or.inl (hw _ (List.mem_of_getElem? (i := 28) rfl))) Via.refl e7 F_value_a1 E_a1 (Or.inr ⟨(hw _ (List.mem_of_getElem? (i := 24) rfl)), rfl, hnm⟩) (hw _ (List.mem_of_getElem? (i := 9) rfl)) (ty := (.array .byte)) (by decide) rfl rfl (g := (mkF m 14 #[.val (.ref a1), .val (.ref a2), .val (.int p3), .val (.int p4), .val .null, .unset] [(.ref w6), (.ref a1)])) rfl rfl (hb hby d4_14)
  have Fw8 := F_value_a1.same W8
  have K8 : Keep h0 h8 [a1] := ((Keep.refl h0 [a1]).ext EL).wr W8 (Or.inl (List.mem_of_getElem? (i := 0) rfl))
  have N8 := Fr.snoc X8 N0 g_a1
  obtain ⟨T10, X10, e10, st10⟩ := getF X8 hx hZL hownL (host := "") (Or.inl (hw _ (List.mem_of_getElem? (i := 29) rfl))) Via.refl e8 (FcL.other W8 (Or.inl nL)) (g := (mkF m 20 #[.val (.ref a1), .val (.ref a2), .val (.int p3), .val (.int p4), .val .null, .unset] [(.ref aL), (.ref a1)])) rfl rfl (hb hby d4_20)
  obtain ⟨T11, h11, X11, e11, W11, st11⟩ := putFN X10 hx hZL hownL (hw _ (List.mem_of_getElem? (i := 29) rfl)) Via.refl e10 (F_coder_a1.other W8 (Or.inr (slot_ne (Or.inr (hw _ (List.mem_of_getElem? (i := 25) rfl))) (Or.inr (hw _ (List.mem_of_getElem? (i := 24) rfl))) (by decide) (t := .byte) (t' := (.array .byte)) (by decide) (by decide)))) (E_a1.wr W8) (Or.inr ⟨(hw _ (List.mem_of_getElem? (i := 25) rfl)), rfl, hnm⟩) (hw _ (List.mem_of_getElem? (i := 9) rfl)) (ty := .byte) (v' := (.int ((0 : Int32).toInt8.toInt32))) (by decide) rfl (fits_nar_byte _) (g := (mkF m 23 #[.val (.ref a1), .val (.ref a2), .val (.int p3), .val (.int p4), .val .null, .unset] [(.int (0 : Int32)), (.ref a1)])) rfl rfl (hb hby d4_23)
  have Fw11 := (F_coder_a1.other W8 (Or.inr (slot_ne (Or.inr (hw _ (List.mem_of_getElem? (i := 25) rfl))) (Or.inr (hw _ (List.mem_of_getElem? (i := 24) rfl))) (by decide) (t := .byte) (t' := (.array .byte)) (by decide) (by decide)))).same W11
  have K11 : Keep h0 h11 [a1] := K8.wr W11 (Or.inl (List.mem_of_getElem? (i := 0) rfl))
  have N11 := Fr.snoc X11 N8 g_a1
  obtain ⟨fs, hr, hrun, hended, eW1, eW2, eW3, eW4⟩ := X11.leaveW SL (by rw [e11]; exact Nat.le_trans kle (Nat.le_trans (Keep.of_wr W8).1 (Keep.of_wr W11).1)) (v := none) (fun _ => rfl)
  refine ⟨_, _, pre0 _ ?_, hrun, hended, _, _, rfl, ?_, eW1, eW2, eW3, eW4.mono (by decide) (by decide)⟩
  · show Steps p.tables e below (s₁.setTop (mkF m 0 #[.val (.ref a1), .val (.ref a2), .val (.int p3), .val (.int p4), .val .null, .unset] [])) _
    refine XS.aloadN X0.here hx rfl (hb hby d4_0) rfl rfl ?_
    show Steps p.tables e below (s₁.setTop (mkF m 1 #[.val (.ref a1), .val (.ref a2), .val (.int p3), .val (.int p4), .val .null, .unset] [(.ref a1)])) _
    refine st5 _ ?_
    show Steps p.tables e below (T5.setTop (mkF m 4 #[.val (.ref a1), .val (.ref a2), .val (.int p3), .val (.int p4), .val .null, .unset] [])) _
    refine XS.iloadN X5.here hx rfl (hb hby d4_4) rfl ?_
    show Steps p.tables e below (T5.setTop (mkF m 5 #[.val (.ref a1), .val (.ref a2), .val (.int p3), .val (.int p4), .val .null, .unset] [(.int p4)])) _
    refine XS.ifNo X5.here hx rfl (hb hby d4_5) rfl ((if0 _ _).trans (teq hc5).2) ?_
    show Steps p.tables e below (T5.setTop (mkF m 8 #[.val (.ref a1), .val (.ref a2), .val (.int p3), .val (.int p4), .val .null, .unset] [])) _
    refine XS.aloadN X5.here hx rfl (hb hby d4_8) rfl rfl ?_
    show Steps p.tables e below (T5.setTop (mkF m 9 #[.val (.ref a1), .val (.ref a2), .val (.int p3), .val (.int p4), .val .null, .unset] [(.ref a1)])) _
    refine stL _ ?_
    show Steps p.tables e below (TL.setTop (mkF m 11 #[.val (.ref a1), .val (.ref a2), .val (.int p3), .val (.int p4), .val .null, .unset] [(.ref aL), (.ref a1)])) _
    refine st7 _ ?_
    show Steps p.tables e below (T7.setTop (mkF m 14 #[.val (.ref a1), .val (.ref a2), .val (.int p3), .val (.int p4), .val .null, .unset] [(.ref w6), (.ref a1)])) _
    refine st8 _ ?_
    show Steps p.tables e below (T8.setTop (mkF m 17 #[.val (.ref a1), .val (.ref a2), .val (.int p3), .val (.int p4), .val .null, .unset] [])) _
    refine XS.aloadN X8.here hx rfl (hb hby d4_17) rfl rfl ?_
    show Steps p.tables e below (T8.setTop (mkF m 18 #[.val (.ref a1), .val (.ref a2), .val (.int p3), .val (.int p4), .val .null, .unset] [(.ref a1)])) _
    refine ldcAgain (s := s) (vm0 := TL.vm) X8 hx hZL hownL (hw _ (List.mem_of_getElem? (i := 22) rfl)) LitL (g := (mkF m 18 #[.val (.ref a1), .val (.ref a2), .val (.int p3), .val (.int p4), .val .null, .unset] [(.ref a1)])) rfl (hb hby d4_18) _ ?_
    show Steps p.tables e below (T8.setTop (mkF m 20 #[.val (.ref a1), .val (.ref a2), .val (.int p3), .val (.int p4), .val .null, .unset] [(.ref aL), (.ref a1)])) _
    refine st10 _ ?_
    show Steps p.tables e below (T10.setTop (mkF m 23 #[.val (.ref a1), .val (.ref a2), .val (.int p3), .val (.int p4), .val .null, .unset] [(.int (0 : Int32)), (.ref a1)])) _
    refine st11 _ ?_
    show Steps p.tables e below (T11.setTop (mkF m 26 #[.val (.ref a1), .val (.ref a2), .val (.int p3), .val (.int p4), .val .null, .unset] [])) _
    exact X11.returnOut hx Bd.returns (hb hby d4_26) hr
  · show Q4 Z a1 a2 p3 p4 u_coder_a1 h0 n0 _ T11.heap _
    rw [e11]
    exact ⟨rfl, N11, K11, ((E_a1.wr W8).wr W11), w6, kB, (Fw8.other W11 (Or.inr (slot_ne (Or.inr (hw _ (List.mem_of_getElem? (i := 24) rfl))) (Or.inr (hw _ (List.mem_of_getElem? (i := 25) rfl))) (by decide) (t := (.array .byte)) (t' := .byte) (by decide) (by decide)))), Fw11, (AvL.other W8 n6).other W11 n6⟩
theorem d3_0 : decode jdk_42_method_3_code 0 = .ok (.aload_n 0, 1) := by decide +kernel
theorem d3_1 : decode jdk_42_method_3_code 1 = .ok (.aload_n 1, 1) := by decide +kernel
theorem d3_2 : decode jdk_42_method_3_code 2 = .ok (.iconst 0, 1) := by decide +kernel
theorem d3_3 : decode jdk_42_method_3_code 3 = .ok (.aload_n 1, 1) := by decide +kernel
theorem d3_4 : decode jdk_42_method_3_code 4 = .ok (.arraylength, 1) := by decide +kernel
theorem d3_5 : decode jdk_42_method_3_code 5 = .ok (.aconst_null, 1) := by decide +kernel
theorem d3_6 : decode jdk_42_method_3_code 6 = .ok (.invokespecial 27, 3) := by decide +kernel
theorem d3_9 : decode jdk_42_method_3_code 9 = .ok (.return_, 1) := by decide +kernel
theorem pn_3 : plainName "java/lang/String" = true := by first | (simp [plainName, overriddenIn]; done) | decide +kernel
theorem pd_3_3 : parseMethodDescriptor "([CIILjava/lang/Void;)V" = some ⟨[(.array .char), .int, .int, (.object "java/lang/Void")], none⟩ := by decide +kernel
theorem ef_3 (m : MethodId) (x0 : Addr) (x1 : Addr) : entryFrame m #[(.ref x0), (.ref x1)] 2 = mkF m 0 #[.val (.ref x0), .val (.ref x1)] [] := by first | (simp [entryFrame, mkF, argsToLocals, Value.category]; done) | rfl
def Q3 (Z : State) (a1 : Addr) (a2 : Addr) (cl_a2 : Cell) (h0 : Heap) (n0 : Nat) (v : Option Value) (h : Heap) (L : List Loc) : Prop := v = none ∧ Fr n0 L ∧ Keep h0 h [a1] ∧ own_STR Z h a1 []
set_option maxRecDepth 65536 in
set_option maxHeartbeats 40000000 in
theorem rm3 (l : Launch) (Z : State) (a0 : Array Value) (hw : ∀ d ∈ tables_1, d.before a0 Z = true) (ws : List Jvm.Cond) (a1 : Addr) (a2 : Addr) (cl_a2 : Cell) (h0 : Heap) (n0 : Nat) (Z0 : n0 ≤ h0.size) (Ar_a2 : Arr Z h0 a2 cl_a2 .char) (S_a2 : cl_a2.slots.size = (0 : Int32).toNatClampNeg) (N_a2 : ¬ (0 : Int32) < 0) (X00 : Old Z n0 h0) (hcH : Jvm.Lit.constHeld Z "java/lang/String" 7) (hcw : Jvm.Lit.compactW.before a0 Z = true) (E_a1 : Exa Z h0 a1 "java/lang/String") (F_value_a1 : Fld Z h0 a1 "java/lang/String" "value" "[B" .null) (g_a1 : n0 ≤ a1) (u_c : Value) (F_coder_a1 : Fld Z h0 a1 "java/lang/String" "coder" "B" u_c) :
    MetFree l (⟨"java/lang/String", "<init>", "([C)V"⟩ : MethodName) (head1 (Jvm.Cond.code (⟨"java/lang/String", "<init>", "([C)V"⟩ : MethodName) jdk_42_method_3_code 2 none :: ws) ({ frames := 2, cells := 2, slots := 4, locals := 29 } : Room)) (fun a U => a = #[(.ref a1), (.ref a2)] ∧ (Z.Warmed39 U.vm ∧ U.vm.interned = Z.vm.interned) ∧ U.heap = h0) (fun _ _ _ _ _ => True) (fun _ U o U' => ∃ v L, o = .returned v ∧ Q3 Z a1 a2 cl_a2 h0 n0 v U'.heap L ∧ ReturnedEndW U o U' L ({ frames := 2, cells := 2, slots := 4, locals := 29 } : Room).cells ({ frames := 2, cells := 2, slots := 4, locals := 29 } : Room).slots) := by
  refine MetFree.of_bodySF (plainFor_of_name pn_3) hisR ?_
  intro p e s m args below meth c s₁ Bd hml0 hP hK
  obtain ⟨rfl, ⟨hZ, hI⟩, hh⟩ := hP
  have hx := Bd.exec
  have hby := Bd.bytes
  have hml : c.maxLocals = 2 := hml0
  have hown : s.vm.findClass "java/lang/String" = some m.cls := findClass_of_methodNamed Bd.named
  have hnm := (name_of_methodNamed Bd.named Bd.method).1
  have X0 : Stand p l e ({ frames := 2, cells := 2, slots := 4, locals := 29 } : Room) s m #[(.ref a1), (.ref a2)] below meth c s₁ [] 0 0 := Stand.of_body Bd
  have e0 : s₁.heap = h0 := by rw [← hh, Bd.state]; rfl
  have N0 := Fr.nil n0
  have pre0 : ∀ t, Steps p.tables e below (s₁.setTop (mkF m 0 #[.val (.ref a1), .val (.ref a2)] [])) t → Steps p.tables e below (s₁.setTop (entryFrame m #[(.ref a1), (.ref a2)] 2)) t := fun t k => castTop (ef_3 m a1 a2) k
  obtain ⟨_, _, ⟨T3, L3, k3, n3⟩, -, X3, SS3, gr3, ⟨Lc3, hQ3, l3, y3, z3⟩, st3⟩ := X0.specialBackS hx (y := (⟨"java/lang/String", "<init>", "([CIILjava/lang/Void;)V"⟩ : MethodName)) rfl hown (mvT hZ (hw _ (List.mem_of_getElem? (i := 15) rfl))) (mvT hZ (hw _ (List.mem_of_getElem? (i := 16) rfl))) (mvT hZ (hw _ (List.mem_of_getElem? (i := 18) rfl))) (by decide) (own_backS (W := 0) (rm4 l Z a0 hw [] a1 a2 (0 : Int32) (0 : Int32) u_c h0 n0 Z0 X00 hcH hcw E_a1 F_value_a1 g_a1 F_coder_a1 rfl) hZ hI (hw _ (List.mem_of_getElem? (i := 18) rfl)) (hw _ (List.mem_of_getElem? (i := 10) rfl)) (by decide) (by decide)) (g := (mkF m 6 #[.val (.ref a1), .val (.ref a2)] [.null, (.int (0 : Int32)), (.int (0 : Int32)), (.ref a2), (.ref a1)])) rfl (by rw [hml]; rfl) (Steps.refl _) (a := a1) (argsL := [(.ref a2), (.int (0 : Int32)), (.int (0 : Int32)), .null]) (rest := []) (lenOf pd_3_3 rfl) rfl (by show 2 * 0 + _ ≤ _; exact Nat.le_of_eq rfl) (hb hby d3_6) (fun _ _ => ⟨rfl, e0, (by decide : 0 + 2 ≤ _), (by decide : 0 + 4 ≤ _)⟩)
  dsimp only [Pt.U, Pt.locs, Pt.cells, Pt.slots] at X3 SS3 gr3 l3 y3 z3 st3 hQ3
  subst l3 y3 z3
  obtain ⟨rfl, N3q, K3, S3⟩ := hQ3
  have N3 := Fr.app N0 N3q
  obtain ⟨fs, hr, hrun, hended, eW1, eW2, eW3, eW4⟩ := X3.leaveW SS3 (Nat.le_refl _) (v := none) (fun _ => rfl)
  refine ⟨_, _, pre0 _ ?_, hrun, hended, _, _, rfl, ?_, eW1, eW2, eW3, eW4.mono (by decide) (by decide)⟩
  · show Steps p.tables e below (s₁.setTop (mkF m 0 #[.val (.ref a1), .val (.ref a2)] [])) _
    refine XS.aloadN X0.here hx rfl (hb hby d3_0) rfl rfl ?_
    show Steps p.tables e below (s₁.setTop (mkF m 1 #[.val (.ref a1), .val (.ref a2)] [(.ref a1)])) _
    refine XS.aloadN X0.here hx rfl (hb hby d3_1) rfl rfl ?_
    show Steps p.tables e below (s₁.setTop (mkF m 2 #[.val (.ref a1), .val (.ref a2)] [(.ref a2), (.ref a1)])) _
    refine XS.iconst X0.here hx rfl (hb hby d3_2) ?_
    show Steps p.tables e below (s₁.setTop (mkF m 3 #[.val (.ref a1), .val (.ref a2)] [(.int (0 : Int32)), (.ref a2), (.ref a1)])) _
    refine XS.aloadN X0.here hx rfl (hb hby d3_3) rfl rfl ?_
    show Steps p.tables e below (s₁.setTop (mkF m 4 #[.val (.ref a1), .val (.ref a2)] [(.ref a2), (.int (0 : Int32)), (.ref a2), (.ref a1)])) _
    refine X0.arraylength hx (by rw [e0]; exact Ar_a2.1) (State.isArrayOf_alike hZ.alike Ar_a2.2.1) (g := (mkF m 4 #[.val (.ref a1), .val (.ref a2)] [(.ref a2), (.int (0 : Int32)), (.ref a2), (.ref a1)])) rfl rfl (hb hby d3_4) _ ?_
    rw [len_of S_a2 N_a2]
    show Steps p.tables e below (s₁.setTop (mkF m 5 #[.val (.ref a1), .val (.ref a2)] [(.int (0 : Int32)), (.int (0 : Int32)), (.ref a2), (.ref a1)])) _
    refine XS.aconstNull X0.here hx rfl (hb hby d3_5) ?_
    show Steps p.tables e below (s₁.setTop (mkF m 6 #[.val (.ref a1), .val (.ref a2)] [.null, (.int (0 : Int32)), (.int (0 : Int32)), (.ref a2), (.ref a1)])) _
    refine st3.trans ?_
    show Steps p.tables e below (T3.setTop (mkF m 9 #[.val (.ref a1), .val (.ref a2)] [])) _
    exact X3.returnOut hx Bd.returns (hb hby d3_9) hr
  · show Q3 Z a1 a2 cl_a2 h0 n0 _ T3.heap _
    exact ⟨rfl, N3, K3, S3⟩
theorem d2_4 : decode method_5_code 4 = .ok (.new 29, 3) := by decide +kernel
theorem d2_7 : decode method_5_code 7 = .ok (.dup, 1) := by decide +kernel
theorem d2_8 : decode method_5_code 8 = .ok (.iconst 0, 1) := by decide +kernel
theorem d2_9 : decode method_5_code 9 = .ok (.newarray .char, 2) := by decide +kernel
theorem d2_11 : decode method_5_code 11 = .ok (.invokespecial 34, 3) := by decide +kernel
theorem d2_14 : decode method_5_code 14 = .ok (.areturn, 1) := by decide +kernel
def Q2_0 (Z : State) (p1 : Int32) (p2 : Int32) (p3 : Int32) (p4 : Int32) (p5 : Int32) (p6 : Int32) (h0 : Heap) (n0 : Nat) (v : Option Value) (h : Heap) (L : List Loc) : Prop := ∃ b : Addr, v = some (.ref b) ∧ Fr n0 L ∧ Keep h0 h [] ∧ own_STR Z h b []
set_option maxRecDepth 65536 in
set_option maxHeartbeats 40000000 in
theorem rm2_0 (l : Launch) (Z : State) (a0 : Array Value) (hw : ∀ d ∈ tables_1, d.before a0 Z = true) (ws : List Jvm.Cond) (p1 : Int32) (p2 : Int32) (p3 : Int32) (p4 : Int32) (p5 : Int32) (p6 : Int32) (h0 : Heap) (n0 : Nat) (Z0 : n0 ≤ h0.size) (X00 : Old Z n0 h0) (hcH : Jvm.Lit.constHeld Z "java/lang/String" 7) (hcw : Jvm.Lit.compactW.before a0 Z = true) (hc1 : p1 = (0 : Int32)) :
    MetFree l (⟨"com/example/harburg/harburg/epc/FieldCharacterCountPinLaw", "make", "(ICCCCC)Ljava/lang/String;"⟩ : MethodName) (head1 (Jvm.Cond.code (⟨"com/example/harburg/harburg/epc/FieldCharacterCountPinLaw", "make", "(ICCCCC)Ljava/lang/String;"⟩ : MethodName) method_5_code 6 (some (.object "java/lang/String")) :: ws) ({ frames := 3, cells := 4, slots := 8, locals := 43 } : Room)) (fun a U => a = #[(.int p1), (.int p2), (.int p3), (.int p4), (.int p5), (.int p6)] ∧ (Z.Warmed39 U.vm ∧ U.vm.interned = Z.vm.interned) ∧ U.heap = h0) (fun _ _ _ _ _ => True) (fun _ U o U' => ∃ v L, o = .returned v ∧ Q2_0 Z p1 p2 p3 p4 p5 p6 h0 n0 v U'.heap L ∧ ReturnedEndW U o U' L ({ frames := 3, cells := 4, slots := 8, locals := 43 } : Room).cells ({ frames := 3, cells := 4, slots := 8, locals := 43 } : Room).slots) := by
  refine MetFree.of_bodySF (plainFor_of_name pn_2) hisR ?_
  intro p e s m args below meth c s₁ Bd hml0 hP hK
  obtain ⟨rfl, ⟨hZ, hI⟩, hh⟩ := hP
  have hx := Bd.exec
  have hby := Bd.bytes
  have hml : c.maxLocals = 6 := hml0
  have hown : s.vm.findClass "com/example/harburg/harburg/epc/FieldCharacterCountPinLaw" = some m.cls := findClass_of_methodNamed Bd.named
  have hnm := (name_of_methodNamed Bd.named Bd.method).1
  have X0 : Stand p l e ({ frames := 3, cells := 4, slots := 8, locals := 43 } : Room) s m #[(.int p1), (.int p2), (.int p3), (.int p4), (.int p5), (.int p6)] below meth c s₁ [] 0 0 := Stand.of_body Bd
  have e0 : s₁.heap = h0 := by rw [← hh, Bd.state]; rfl
  have N0 := Fr.nil n0
  have pre0 : ∀ t, Steps p.tables e below (s₁.setTop (mkF m 0 #[.val (.int p1), .val (.int p2), .val (.int p3), .val (.int p4), .val (.int p5), .val (.int p6)] [])) t → Steps p.tables e below (s₁.setTop (entryFrame m #[(.int p1), (.int p2), (.int p3), (.int p4), (.int p5), (.int p6)] 6)) t := fun t k => castTop (ef_2 m p1 p2 p3 p4 p5 p6) k
  obtain ⟨T7, h7, X7, e7, E7, A7, D7, -, st7⟩ := newO X0 hx hZ hown (hw _ (List.mem_of_getElem? (i := 8) rfl)) (hw _ (List.mem_of_getElem? (i := 9) rfl)) (hw _ (List.mem_of_getElem? (i := 10) rfl)) e0 (g := (mkF m 4 #[.val (.int p1), .val (.int p2), .val (.int p3), .val (.int p4), .val (.int p5), .val (.int p6)] [])) rfl (hb hby d2_4) (by decide) (by decide)
  obtain ⟨b7, g7⟩ : ∃ z, z = h0.size := ⟨_, rfl⟩
  rw [← g7] at A7 D7 st7
  have F_value_b7 : Fld Z h7 b7 "java/lang/String" "value" "[B" .null := D7 (Or.inr (hw _ (List.mem_of_getElem? (i := 24) rfl))) (ty := (.array .byte)) (by decide)
  have F_coder_b7 : Fld Z h7 b7 "java/lang/String" "coder" "B" (.int (0 : Int32)) := D7 (Or.inr (hw _ (List.mem_of_getElem? (i := 25) rfl))) (ty := .byte) (by decide)
  have E_b7 := A7
  have g_b7 : n0 ≤ b7 := Nat.le_trans Z0 (Nat.le_of_eq g7.symm)
  have sz_b7 : h0.size ≤ b7 := (Nat.le_trans (Keep.refl h0 []).1 (Nat.le_of_eq g7.symm))
  have K7 : Keep h0 h7 [] := (Keep.refl h0 []).ext E7
  obtain ⟨T8, h8, k8, X8, e8, E8, A8, st8⟩ := newP X7 hx hZ (hw _ (List.mem_of_getElem? (i := 11) rfl)) e7 (g := (mkF m 9 #[.val (.int p1), .val (.int p2), .val (.int p3), .val (.int p4), .val (.int p5), .val (.int p6)] [(.int (0 : Int32)), (.ref b7), (.ref b7)])) rfl (hb hby d2_9) rfl (by decide) (cap := 0) (by decide) (by decide) (by decide) (by decide)
  obtain ⟨b8, g8⟩ : ∃ z, z = h7.size := ⟨_, rfl⟩
  rw [← g8] at A8 st8
  have V_b8 := Arv.new A8 (by decide)
  have g_b8 : n0 ≤ b8 := Nat.le_trans (Nat.le_trans Z0 E7.1) (Nat.le_of_eq g8.symm)
  have sz_b8 : h0.size ≤ b8 := (Nat.le_trans K7.1 (Nat.le_of_eq g8.symm))
  have K8 : Keep h0 h8 [] := K7.ext E8
  obtain ⟨clq, Arq, -, Sq, Nq, -, -⟩ := V_b8
  obtain ⟨_, _, ⟨T9, L9, k9, n9⟩, -, X9, SS9, gr9, ⟨Lc9, hQ9, l9, y9, z9⟩, st9⟩ := X8.specialBackS hx (y := (⟨"java/lang/String", "<init>", "([C)V"⟩ : MethodName)) rfl hown (mvT hZ (hw _ (List.mem_of_getElem? (i := 12) rfl))) (mvT hZ (hw _ (List.mem_of_getElem? (i := 13) rfl))) (mvT hZ (hw _ (List.mem_of_getElem? (i := 14) rfl))) (by decide) (own_backS (W := 1) (rm3 l Z a0 hw [] b7 b8 clq h8 n0 (Nat.le_trans Z0 K8.1) Arq Sq Nq ((X00.ext E7).ext E8) hcH hcw (A7.ext E8) (F_value_b7.ext E8) g_b7 _ (F_coder_b7.ext E8)) hZ hI (hw _ (List.mem_of_getElem? (i := 14) rfl)) (hw _ (List.mem_of_getElem? (i := 10) rfl)) (by decide) (by decide)) (g := (mkF m 11 #[.val (.int p1), .val (.int p2), .val (.int p3), .val (.int p4), .val (.int p5), .val (.int p6)] [(.ref b8), (.ref b7), (.ref b7)])) rfl (by rw [hml]; rfl) (Steps.refl _) (a := b7) (argsL := [(.ref b8)]) (rest := [(.ref b7)]) (lenOf pd_2_2 rfl) rfl (by show 2 * 0 + _ ≤ _; exact Nat.le_of_eq rfl) (hb hby d2_11) (fun _ _ => ⟨rfl, e8, (by decide : 2 + 2 ≤ _), (by decide : 4 + 4 ≤ _)⟩)
  dsimp only [Pt.U, Pt.locs, Pt.cells, Pt.slots] at X9 SS9 gr9 l9 y9 z9 st9 hQ9
  subst l9 y9 z9
  obtain ⟨rfl, N9q, K9q, S9⟩ := hQ9
  have N9 := Fr.app N0 N9q
  obtain ⟨fs, hr, hrun, hended, eW1, eW2, eW3, eW4⟩ := X9.leaveW SS9 (Nat.le_refl _) (v := some (.ref b7)) (fun h => by rw [Bd.returns] at h; cases h)
  refine ⟨_, _, pre0 _ ?_, hrun, hended, _, _, rfl, ?_, eW1, eW2, eW3, eW4.mono (by decide) (by decide)⟩
  · show Steps p.tables e below (s₁.setTop (mkF m 0 #[.val (.int p1), .val (.int p2), .val (.int p3), .val (.int p4), .val (.int p5), .val (.int p6)] [])) _
    refine XS.iloadN X0.here hx rfl (hb hby d2_0) rfl ?_
    show Steps p.tables e below (s₁.setTop (mkF m 1 #[.val (.int p1), .val (.int p2), .val (.int p3), .val (.int p4), .val (.int p5), .val (.int p6)] [(.int p1)])) _
    refine XS.ifNo X0.here hx rfl (hb hby d2_1) rfl ((if0 _ _).trans (teq hc1).2) ?_
    show Steps p.tables e below (s₁.setTop (mkF m 4 #[.val (.int p1), .val (.int p2), .val (.int p3), .val (.int p4), .val (.int p5), .val (.int p6)] [])) _
    refine st7 _ ?_
    show Steps p.tables e below (T7.setTop (mkF m 7 #[.val (.int p1), .val (.int p2), .val (.int p3), .val (.int p4), .val (.int p5), .val (.int p6)] [(.ref b7)])) _
    refine XS.dup X7.here hx rfl (hb hby d2_7) rfl rfl ?_
    show Steps p.tables e below (T7.setTop (mkF m 8 #[.val (.int p1), .val (.int p2), .val (.int p3), .val (.int p4), .val (.int p5), .val (.int p6)] [(.ref b7), (.ref b7)])) _
    refine XS.iconst X7.here hx rfl (hb hby d2_8) ?_
    show Steps p.tables e below (T7.setTop (mkF m 9 #[.val (.int p1), .val (.int p2), .val (.int p3), .val (.int p4), .val (.int p5), .val (.int p6)] [(.int (0 : Int32)), (.ref b7), (.ref b7)])) _
    refine st8 _ ?_
    show Steps p.tables e below (T8.setTop (mkF m 11 #[.val (.int p1), .val (.int p2), .val (.int p3), .val (.int p4), .val (.int p5), .val (.int p6)] [(.ref b8), (.ref b7), (.ref b7)])) _
    refine st9.trans ?_
    show Steps p.tables e below (T9.setTop (mkF m 14 #[.val (.int p1), .val (.int p2), .val (.int p3), .val (.int p4), .val (.int p5), .val (.int p6)] [(.ref b7)])) _
    jvm_step X9.here [X9.here.top, hx, (hb hby d2_14), X9.method', Bd.returns, Value.isRef, FieldType.isReference]
    first | (intro acts; rw [hr _ acts rfl rfl rfl]) | rw [hr _ _ rfl rfl rfl]
    exact Steps.refl _
  · show Q2_0 Z p1 p2 p3 p4 p5 p6 h0 n0 _ T9.heap _
    exact ⟨b7, rfl, N9, K8.trans K9q (allS (Or.inr sz_b7) all0), S9⟩
theorem own_all0 : ∀ c ∈ ([] : List Int32), ¬ c < 0 ∧ ¬ (255 : Int32) < c := by
  intro c hc
  cases hc
theorem own_fin0 (p1 p2 p3 p4 p5 p6 : Int32) (hn : own_n p1 = (0 : Int32)) : (Int32.ofNat ([] : List Int32).length - ((2 : Int32) * own_cnt ([] : List Int32))) = (own_n p1 - ((2 : Int32) * (((((val6 (0 : Int32) (val1 p2)) + (val6 (0 : Int32) (val1 p3))) + (val6 (0 : Int32) (val1 p4))) + (val6 (0 : Int32) (val1 p5))) + (val6 (0 : Int32) (val1 p6))))) := by
  have e : own_cnt ([] : List Int32) = (((((val6 (0 : Int32) (val1 p2)) + (val6 (0 : Int32) (val1 p3))) + (val6 (0 : Int32) (val1 p4))) + (val6 (0 : Int32) (val1 p5))) + (val6 (0 : Int32) (val1 p6))) := by
    simp only [own_p1, own_p0, own_cnt, Int32.add_zero, Int32.zero_add, Int32.add_assoc]
  rw [e, hn]; rfl

set_option maxRecDepth 65536 in
set_option maxHeartbeats 40000000 in
theorem rm0_0 (l : Launch) (Z : State) (a0 : Array Value) (hw : ∀ d ∈ tables_1, d.before a0 Z = true) (ws : List Jvm.Cond) (p1 : Int32) (p2 : Int32) (p3 : Int32) (p4 : Int32) (p5 : Int32) (p6 : Int32) (h0 : Heap) (n0 : Nat) (Z0 : n0 ≤ h0.size) (G1 : Int32) (O2 : Sta Z Z.heap "java/lang/String" "COMPACT_STRINGS" "Z" (.int G1)) (P5 : ¬ (G1 = (0 : Int32))) (X00 : Old Z n0 h0) (G3 : Value) (O4 : Sta Z Z.heap "jdk/internal/util/Preconditions" "SIOOBE_FORMATTER" "Ljava/util/function/BiFunction;" G3) (rG3 : G3.isRef = true) (hn : own_n p1 = (0 : Int32)) (hcH : Jvm.Lit.constHeld Z "java/lang/String" 7) (hcw : Jvm.Lit.compactW.before a0 Z = true) :
    MetFree l x (head1 (Jvm.Cond.code x code maxLocals ret :: ws) room_1) (fun a U => a = #[(.int p1), (.int p2), (.int p3), (.int p4), (.int p5), (.int p6)] ∧ (Z.Warmed39 U.vm ∧ U.vm.interned = Z.vm.interned) ∧ U.heap = h0) (fun _ _ _ _ _ => True) (fun _ U o U' => ∃ v L, o = .returned v ∧ Q0 Z p1 p2 p3 p4 p5 p6 h0 n0 v U'.heap L ∧ ReturnedEndW U o U' L room_1.cells room_1.slots) := by
  refine MetFree.of_bodySF (plainFor_of_name pn_0) hisR ?_
  intro p e s m args below meth c s₁ Bd hml0 hP hK
  obtain ⟨rfl, ⟨hZ, hI⟩, hh⟩ := hP
  have hx := Bd.exec
  have hby := Bd.bytes
  have hml : c.maxLocals = 15 := hml0
  have hown : s.vm.findClass "com/example/harburg/harburg/epc/FieldCharacterCountPinLaw" = some m.cls := findClass_of_methodNamed Bd.named
  have hnm := (name_of_methodNamed Bd.named Bd.method).1
  have X0 : Stand p l e room_1 s m #[(.int p1), (.int p2), (.int p3), (.int p4), (.int p5), (.int p6)] below meth c s₁ [] 0 0 := Stand.of_body Bd
  have e0 : s₁.heap = h0 := by rw [← hh, Bd.state]; rfl
  have N0 := Fr.nil n0
  have pre0 : ∀ t, Steps p.tables e below (s₁.setTop (mkF m 0 #[.val (.int p1), .val (.int p2), .val (.int p3), .val (.int p4), .val (.int p5), .val (.int p6), .unset, .unset, .unset, .unset, .unset, .unset, .unset, .unset, .unset] [])) t → Steps p.tables e below (s₁.setTop (entryFrame m #[(.int p1), (.int p2), (.int p3), (.int p4), (.int p5), (.int p6)] maxLocals)) t := fun t k => castTop (ef_0 m p1 p2 p3 p4 p5 p6) k
  obtain ⟨_, _, ⟨T7, L7, k7, n7⟩, -, X7, ⟨Lc7, hQ7, l7, y7, z7⟩, st7⟩ := Jvm.LawKit.callS X0 hx (y := (⟨"com/example/harburg/harburg/epc/FieldCharacterCountPinLaw", "draw", "(I)C"⟩ : MethodName)) hown (mvT hZ (hw _ (List.mem_of_getElem? (i := 1) rfl))) (mvT hZ (hw _ (List.mem_of_getElem? (i := 2) rfl))) (mvT hZ (hw _ (List.mem_of_getElem? (i := 3) rfl))) (mvT hZ (hw _ (List.mem_of_getElem? (i := 4) rfl))) (by decide) (backOf (W := 0) (rm1 l Z a0 hw [] p2 h0 n0 Z0) hZ (hw _ (List.mem_of_getElem? (i := 4) rfl)) (hw _ (List.mem_of_getElem? (i := 3) rfl)) (by decide) (by decide)) (g := (mkF m 10 #[.val (.int p1), .val (.int p2), .val (.int p3), .val (.int p4), .val (.int p5), .val (.int p6), .val (.int (own_n p1)), .unset, .unset, .unset, .unset, .unset, .unset, .unset, .unset] [(.int p2)])) rfl (by rw [hml]; rfl) (argsL := [(.int p2)]) (rest := []) (lenOf pd_0_0 rfl) rfl (by show 2 * 0 + _ ≤ _; exact Nat.le_of_eq rfl) (hb hby at_10) (fun _ _ => ⟨rfl, e0, (by decide : 0 + 0 ≤ _), (by decide : 0 + 0 ≤ _)⟩)
  dsimp only [Pt.U, Pt.locs, Pt.cells, Pt.slots] at X7 l7 y7 z7 st7 hQ7
  subst l7 y7 z7
  obtain ⟨rfl, N7q, w7⟩ := hQ7
  have u7 : T7.heap = h0 := w7
  have N7 := Fr.app N0 N7q
  obtain ⟨_, _, ⟨T8, L8, k8, n8⟩, -, X8, ⟨Lc8, hQ8, l8, y8, z8⟩, st8⟩ := Jvm.LawKit.callS X7 hx (y := (⟨"com/example/harburg/harburg/epc/FieldCharacterCountPinLaw", "draw", "(I)C"⟩ : MethodName)) hown (mvT hZ (hw _ (List.mem_of_getElem? (i := 1) rfl))) (mvT hZ (hw _ (List.mem_of_getElem? (i := 2) rfl))) (mvT hZ (hw _ (List.mem_of_getElem? (i := 3) rfl))) (mvT hZ (hw _ (List.mem_of_getElem? (i := 4) rfl))) (by decide) (backOf (W := 0) (rm1 l Z a0 hw [] p3 T7.heap n0 (by rw [u7]; exact Z0)) hZ (hw _ (List.mem_of_getElem? (i := 4) rfl)) (hw _ (List.mem_of_getElem? (i := 3) rfl)) (by decide) (by decide)) (g := (mkF m 16 #[.val (.int p1), .val (.int p2), .val (.int p3), .val (.int p4), .val (.int p5), .val (.int p6), .val (.int (own_n p1)), .val (.int (val1 p2)), .unset, .unset, .unset, .unset, .unset, .unset, .unset] [(.int p3)])) rfl (by rw [hml]; rfl) (argsL := [(.int p3)]) (rest := []) (lenOf pd_0_0 rfl) rfl (by show 2 * 0 + _ ≤ _; exact Nat.le_of_eq rfl) (hb hby at_16) (fun _ _ => ⟨rfl, rfl, (by decide : 0 + 0 ≤ _), (by decide : 0 + 0 ≤ _)⟩)
  dsimp only [Pt.U, Pt.locs, Pt.cells, Pt.slots] at X8 l8 y8 z8 st8 hQ8
  subst l8 y8 z8
  obtain ⟨rfl, N8q, w8⟩ := hQ8
  have u8 : T8.heap = h0 := w8.trans u7
  have N8 := Fr.app N7 N8q
  obtain ⟨_, _, ⟨T9, L9, k9, n9⟩, -, X9, ⟨Lc9, hQ9, l9, y9, z9⟩, st9⟩ := Jvm.LawKit.callS X8 hx (y := (⟨"com/example/harburg/harburg/epc/FieldCharacterCountPinLaw", "draw", "(I)C"⟩ : MethodName)) hown (mvT hZ (hw _ (List.mem_of_getElem? (i := 1) rfl))) (mvT hZ (hw _ (List.mem_of_getElem? (i := 2) rfl))) (mvT hZ (hw _ (List.mem_of_getElem? (i := 3) rfl))) (mvT hZ (hw _ (List.mem_of_getElem? (i := 4) rfl))) (by decide) (backOf (W := 0) (rm1 l Z a0 hw [] p4 T8.heap n0 (by rw [u8]; exact Z0)) hZ (hw _ (List.mem_of_getElem? (i := 4) rfl)) (hw _ (List.mem_of_getElem? (i := 3) rfl)) (by decide) (by decide)) (g := (mkF m 22 #[.val (.int p1), .val (.int p2), .val (.int p3), .val (.int p4), .val (.int p5), .val (.int p6), .val (.int (own_n p1)), .val (.int (val1 p2)), .val (.int (val1 p3)), .unset, .unset, .unset, .unset, .unset, .unset] [(.int p4)])) rfl (by rw [hml]; rfl) (argsL := [(.int p4)]) (rest := []) (lenOf pd_0_0 rfl) rfl (by show 2 * 0 + _ ≤ _; exact Nat.le_of_eq rfl) (hb hby at_22) (fun _ _ => ⟨rfl, rfl, (by decide : 0 + 0 ≤ _), (by decide : 0 + 0 ≤ _)⟩)
  dsimp only [Pt.U, Pt.locs, Pt.cells, Pt.slots] at X9 l9 y9 z9 st9 hQ9
  subst l9 y9 z9
  obtain ⟨rfl, N9q, w9⟩ := hQ9
  have u9 : T9.heap = h0 := w9.trans u8
  have N9 := Fr.app N8 N9q
  obtain ⟨_, _, ⟨T10, L10, k10, n10⟩, -, X10, ⟨Lc10, hQ10, l10, y10, z10⟩, st10⟩ := Jvm.LawKit.callS X9 hx (y := (⟨"com/example/harburg/harburg/epc/FieldCharacterCountPinLaw", "draw", "(I)C"⟩ : MethodName)) hown (mvT hZ (hw _ (List.mem_of_getElem? (i := 1) rfl))) (mvT hZ (hw _ (List.mem_of_getElem? (i := 2) rfl))) (mvT hZ (hw _ (List.mem_of_getElem? (i := 3) rfl))) (mvT hZ (hw _ (List.mem_of_getElem? (i := 4) rfl))) (by decide) (backOf (W := 0) (rm1 l Z a0 hw [] p5 T9.heap n0 (by rw [u9]; exact Z0)) hZ (hw _ (List.mem_of_getElem? (i := 4) rfl)) (hw _ (List.mem_of_getElem? (i := 3) rfl)) (by decide) (by decide)) (g := (mkF m 29 #[.val (.int p1), .val (.int p2), .val (.int p3), .val (.int p4), .val (.int p5), .val (.int p6), .val (.int (own_n p1)), .val (.int (val1 p2)), .val (.int (val1 p3)), .val (.int (val1 p4)), .unset, .unset, .unset, .unset, .unset] [(.int p5)])) rfl (by rw [hml]; rfl) (argsL := [(.int p5)]) (rest := []) (lenOf pd_0_0 rfl) rfl (by show 2 * 0 + _ ≤ _; exact Nat.le_of_eq rfl) (hb hby at_29) (fun _ _ => ⟨rfl, rfl, (by decide : 0 + 0 ≤ _), (by decide : 0 + 0 ≤ _)⟩)
  dsimp only [Pt.U, Pt.locs, Pt.cells, Pt.slots] at X10 l10 y10 z10 st10 hQ10
  subst l10 y10 z10
  obtain ⟨rfl, N10q, w10⟩ := hQ10
  have u10 : T10.heap = h0 := w10.trans u9
  have N10 := Fr.app N9 N10q
  obtain ⟨_, _, ⟨T11, L11, k11, n11⟩, -, X11, ⟨Lc11, hQ11, l11, y11, z11⟩, st11⟩ := Jvm.LawKit.callS X10 hx (y := (⟨"com/example/harburg/harburg/epc/FieldCharacterCountPinLaw", "draw", "(I)C"⟩ : MethodName)) hown (mvT hZ (hw _ (List.mem_of_getElem? (i := 1) rfl))) (mvT hZ (hw _ (List.mem_of_getElem? (i := 2) rfl))) (mvT hZ (hw _ (List.mem_of_getElem? (i := 3) rfl))) (mvT hZ (hw _ (List.mem_of_getElem? (i := 4) rfl))) (by decide) (backOf (W := 0) (rm1 l Z a0 hw [] p6 T10.heap n0 (by rw [u10]; exact Z0)) hZ (hw _ (List.mem_of_getElem? (i := 4) rfl)) (hw _ (List.mem_of_getElem? (i := 3) rfl)) (by decide) (by decide)) (g := (mkF m 36 #[.val (.int p1), .val (.int p2), .val (.int p3), .val (.int p4), .val (.int p5), .val (.int p6), .val (.int (own_n p1)), .val (.int (val1 p2)), .val (.int (val1 p3)), .val (.int (val1 p4)), .val (.int (val1 p5)), .unset, .unset, .unset, .unset] [(.int p6)])) rfl (by rw [hml]; rfl) (argsL := [(.int p6)]) (rest := []) (lenOf pd_0_0 rfl) rfl (by show 2 * 0 + _ ≤ _; exact Nat.le_of_eq rfl) (hb hby at_36) (fun _ _ => ⟨rfl, rfl, (by decide : 0 + 0 ≤ _), (by decide : 0 + 0 ≤ _)⟩)
  dsimp only [Pt.U, Pt.locs, Pt.cells, Pt.slots] at X11 l11 y11 z11 st11 hQ11
  subst l11 y11 z11
  obtain ⟨rfl, N11q, w11⟩ := hQ11
  have u11 : T11.heap = h0 := w11.trans u10
  have N11 := Fr.app N10 N11q
  obtain ⟨_, _, ⟨T12, L12, k12, n12⟩, -, X12, SS, grS, ⟨Lc12, hQ12, l12, y12, z12⟩, st12⟩ := callSS X11 hx (y := (⟨"com/example/harburg/harburg/epc/FieldCharacterCountPinLaw", "make", "(ICCCCC)Ljava/lang/String;"⟩ : MethodName)) hown (mvT hZ (hw _ (List.mem_of_getElem? (i := 5) rfl))) (mvT hZ (hw _ (List.mem_of_getElem? (i := 6) rfl))) (mvT hZ (hw _ (List.mem_of_getElem? (i := 3) rfl))) (mvT hZ (hw _ (List.mem_of_getElem? (i := 7) rfl))) (by decide) (own_backS (W := 0) (rm2_0 l Z a0 hw [] (own_n p1) (val1 p2) (val1 p3) (val1 p4) (val1 p5) (val1 p6) T11.heap n0 (by rw [u11]; exact Z0) (by rw [u11]; exact X00) hcH hcw hn) hZ hI (hw _ (List.mem_of_getElem? (i := 7) rfl)) (hw _ (List.mem_of_getElem? (i := 3) rfl)) (by decide) (by decide)) (g := (mkF m 53 #[.val (.int p1), .val (.int p2), .val (.int p3), .val (.int p4), .val (.int p5), .val (.int p6), .val (.int (own_n p1)), .val (.int (val1 p2)), .val (.int (val1 p3)), .val (.int (val1 p4)), .val (.int (val1 p5)), .val (.int (val1 p6)), .unset, .unset, .unset] [(.int (val1 p6)), (.int (val1 p5)), (.int (val1 p4)), (.int (val1 p3)), (.int (val1 p2)), (.int (own_n p1))])) rfl (by rw [hml]; rfl) (argsL := [(.int (own_n p1)), (.int (val1 p2)), (.int (val1 p3)), (.int (val1 p4)), (.int (val1 p5)), (.int (val1 p6))]) (rest := []) (lenOf pd_0_1 rfl) rfl (by show 2 * 0 + _ ≤ _; exact Nat.le_of_eq rfl) (hb hby at_53) (fun _ _ => ⟨rfl, rfl, (by decide : 0 + 4 ≤ _), (by decide : 0 + 8 ≤ _)⟩)
  dsimp only [Pt.U, Pt.locs, Pt.cells, Pt.slots] at X12 SS grS l12 y12 z12 st12 hQ12
  subst l12 y12 z12
  obtain ⟨b12, rfl, N12q, K12q, S12⟩ := hQ12
  have hZ8 : Z.Warmed39 (s.setVm T12.vm).vm := State.Warmed39.trans hZ SS.1
  have hown8 : (s.setVm T12.vm).vm.findClass "com/example/harburg/harburg/epc/FieldCharacterCountPinLaw" = some m.cls := (SS.1.alike.findClass _ _).trans hown
  have K12 : Keep h0 T12.heap [] := by have q := K12q; rw [u11] at q; exact q
  have z12 : n0 ≤ T12.heap.size := Nat.le_trans Z0 K12.1
  have XO12 : Old Z n0 T12.heap := X00.keep K12 all0
  have N12 := Fr.app N11 N12q
  obtain ⟨_, _, ⟨T13, L13, k13, n13⟩, -, X13, ⟨Lc13, hQ13, l13, y13, z13⟩, st13⟩ := Jvm.LawKit.callS X12 hx (y := (⟨"com/example/harburg/harburg/epc/FieldCharacterCountPinLaw", "pct", "(ZC)I"⟩ : MethodName)) hown8 (mvT hZ8 (hw _ (List.mem_of_getElem? (i := 30) rfl))) (mvT hZ8 (hw _ (List.mem_of_getElem? (i := 31) rfl))) (mvT hZ8 (hw _ (List.mem_of_getElem? (i := 3) rfl))) (mvT hZ8 (hw _ (List.mem_of_getElem? (i := 32) rfl))) (by decide) (backOf (W := 0) (rm6 l Z a0 hw [] (0 : Int32) (val1 p2) T12.heap n0 z12) hZ8 (hw _ (List.mem_of_getElem? (i := 32) rfl)) (hw _ (List.mem_of_getElem? (i := 3) rfl)) (by decide) (by decide)) (g := (mkF m 70 #[.val (.int p1), .val (.int p2), .val (.int p3), .val (.int p4), .val (.int p5), .val (.int p6), .val (.int (own_n p1)), .val (.int (val1 p2)), .val (.int (val1 p3)), .val (.int (val1 p4)), .val (.int (val1 p5)), .val (.int (val1 p6)), .val (.ref b12), .unset, .unset] [(.int (val1 p2)), (.int (0 : Int32))])) rfl (by rw [hml]; rfl) (argsL := [(.int (0 : Int32)), (.int (val1 p2))]) (rest := []) (lenOf pd_0_5 rfl) rfl (by show 2 * 0 + _ ≤ _; exact Nat.le_of_eq rfl) (hb hby at_70) (fun _ _ => ⟨rfl, rfl, (by decide : 0 + 4 ≤ _), (by decide : 0 + 8 ≤ _)⟩)
  dsimp only [Pt.U, Pt.locs, Pt.cells, Pt.slots] at X13 l13 y13 z13 st13 hQ13
  subst l13 y13 z13
  obtain ⟨rfl, N13q, w13⟩ := hQ13
  have u13 : T13.heap = T12.heap := w13
  have N13 := Fr.app N12 N13q
  obtain ⟨_, _, ⟨T14, L14, k14, n14⟩, -, X14, ⟨Lc14, hQ14, l14, y14, z14⟩, st14⟩ := Jvm.LawKit.callS X13 hx (y := (⟨"com/example/harburg/harburg/epc/FieldCharacterCountPinLaw", "pct", "(ZC)I"⟩ : MethodName)) hown8 (mvT hZ8 (hw _ (List.mem_of_getElem? (i := 30) rfl))) (mvT hZ8 (hw _ (List.mem_of_getElem? (i := 31) rfl))) (mvT hZ8 (hw _ (List.mem_of_getElem? (i := 3) rfl))) (mvT hZ8 (hw _ (List.mem_of_getElem? (i := 32) rfl))) (by decide) (backOf (W := 1) (rm6 l Z a0 hw [] (0 : Int32) (val1 p3) T13.heap n0 (by rw [u13]; exact z12)) hZ8 (hw _ (List.mem_of_getElem? (i := 32) rfl)) (hw _ (List.mem_of_getElem? (i := 3) rfl)) (by decide) (by decide)) (g := (mkF m 86 #[.val (.int p1), .val (.int p2), .val (.int p3), .val (.int p4), .val (.int p5), .val (.int p6), .val (.int (own_n p1)), .val (.int (val1 p2)), .val (.int (val1 p3)), .val (.int (val1 p4)), .val (.int (val1 p5)), .val (.int (val1 p6)), .val (.ref b12), .unset, .unset] [(.int (val1 p3)), (.int (0 : Int32)), (.int (val6 (0 : Int32) (val1 p2)))])) rfl (by rw [hml]; rfl) (argsL := [(.int (0 : Int32)), (.int (val1 p3))]) (rest := [(.int (val6 (0 : Int32) (val1 p2)))]) (lenOf pd_0_5 rfl) rfl (by show 2 * 0 + _ ≤ _; exact Nat.le_of_eq rfl) (hb hby at_86) (fun _ _ => ⟨rfl, rfl, (by decide : 0 + 4 ≤ _), (by decide : 0 + 8 ≤ _)⟩)
  dsimp only [Pt.U, Pt.locs, Pt.cells, Pt.slots] at X14 l14 y14 z14 st14 hQ14
  subst l14 y14 z14
  obtain ⟨rfl, N14q, w14⟩ := hQ14
  have u14 : T14.heap = T12.heap := w14.trans u13
  have N14 := Fr.app N13 N14q
  obtain ⟨_, _, ⟨T15, L15, k15, n15⟩, -, X15, ⟨Lc15, hQ15, l15, y15, z15⟩, st15⟩ := Jvm.LawKit.callS X14 hx (y := (⟨"com/example/harburg/harburg/epc/FieldCharacterCountPinLaw", "pct", "(ZC)I"⟩ : MethodName)) hown8 (mvT hZ8 (hw _ (List.mem_of_getElem? (i := 30) rfl))) (mvT hZ8 (hw _ (List.mem_of_getElem? (i := 31) rfl))) (mvT hZ8 (hw _ (List.mem_of_getElem? (i := 3) rfl))) (mvT hZ8 (hw _ (List.mem_of_getElem? (i := 32) rfl))) (by decide) (backOf (W := 1) (rm6 l Z a0 hw [] (0 : Int32) (val1 p4) T14.heap n0 (by rw [u14]; exact z12)) hZ8 (hw _ (List.mem_of_getElem? (i := 32) rfl)) (hw _ (List.mem_of_getElem? (i := 3) rfl)) (by decide) (by decide)) (g := (mkF m 103 #[.val (.int p1), .val (.int p2), .val (.int p3), .val (.int p4), .val (.int p5), .val (.int p6), .val (.int (own_n p1)), .val (.int (val1 p2)), .val (.int (val1 p3)), .val (.int (val1 p4)), .val (.int (val1 p5)), .val (.int (val1 p6)), .val (.ref b12), .unset, .unset] [(.int (val1 p4)), (.int (0 : Int32)), (.int ((val6 (0 : Int32) (val1 p2)) + (val6 (0 : Int32) (val1 p3))))])) rfl (by rw [hml]; rfl) (argsL := [(.int (0 : Int32)), (.int (val1 p4))]) (rest := [(.int ((val6 (0 : Int32) (val1 p2)) + (val6 (0 : Int32) (val1 p3))))]) (lenOf pd_0_5 rfl) rfl (by show 2 * 0 + _ ≤ _; exact Nat.le_of_eq rfl) (hb hby at_103) (fun _ _ => ⟨rfl, rfl, (by decide : 0 + 4 ≤ _), (by decide : 0 + 8 ≤ _)⟩)
  dsimp only [Pt.U, Pt.locs, Pt.cells, Pt.slots] at X15 l15 y15 z15 st15 hQ15
  subst l15 y15 z15
  obtain ⟨rfl, N15q, w15⟩ := hQ15
  have u15 : T15.heap = T12.heap := w15.trans u14
  have N15 := Fr.app N14 N15q
  obtain ⟨_, _, ⟨T16, L16, k16, n16⟩, -, X16, ⟨Lc16, hQ16, l16, y16, z16⟩, st16⟩ := Jvm.LawKit.callS X15 hx (y := (⟨"com/example/harburg/harburg/epc/FieldCharacterCountPinLaw", "pct", "(ZC)I"⟩ : MethodName)) hown8 (mvT hZ8 (hw _ (List.mem_of_getElem? (i := 30) rfl))) (mvT hZ8 (hw _ (List.mem_of_getElem? (i := 31) rfl))) (mvT hZ8 (hw _ (List.mem_of_getElem? (i := 3) rfl))) (mvT hZ8 (hw _ (List.mem_of_getElem? (i := 32) rfl))) (by decide) (backOf (W := 1) (rm6 l Z a0 hw [] (0 : Int32) (val1 p5) T15.heap n0 (by rw [u15]; exact z12)) hZ8 (hw _ (List.mem_of_getElem? (i := 32) rfl)) (hw _ (List.mem_of_getElem? (i := 3) rfl)) (by decide) (by decide)) (g := (mkF m 120 #[.val (.int p1), .val (.int p2), .val (.int p3), .val (.int p4), .val (.int p5), .val (.int p6), .val (.int (own_n p1)), .val (.int (val1 p2)), .val (.int (val1 p3)), .val (.int (val1 p4)), .val (.int (val1 p5)), .val (.int (val1 p6)), .val (.ref b12), .unset, .unset] [(.int (val1 p5)), (.int (0 : Int32)), (.int (((val6 (0 : Int32) (val1 p2)) + (val6 (0 : Int32) (val1 p3))) + (val6 (0 : Int32) (val1 p4))))])) rfl (by rw [hml]; rfl) (argsL := [(.int (0 : Int32)), (.int (val1 p5))]) (rest := [(.int (((val6 (0 : Int32) (val1 p2)) + (val6 (0 : Int32) (val1 p3))) + (val6 (0 : Int32) (val1 p4))))]) (lenOf pd_0_5 rfl) rfl (by show 2 * 0 + _ ≤ _; exact Nat.le_of_eq rfl) (hb hby at_120) (fun _ _ => ⟨rfl, rfl, (by decide : 0 + 4 ≤ _), (by decide : 0 + 8 ≤ _)⟩)
  dsimp only [Pt.U, Pt.locs, Pt.cells, Pt.slots] at X16 l16 y16 z16 st16 hQ16
  subst l16 y16 z16
  obtain ⟨rfl, N16q, w16⟩ := hQ16
  have u16 : T16.heap = T12.heap := w16.trans u15
  have N16 := Fr.app N15 N16q
  obtain ⟨_, _, ⟨T17, L17, k17, n17⟩, -, X17, ⟨Lc17, hQ17, l17, y17, z17⟩, st17⟩ := Jvm.LawKit.callS X16 hx (y := (⟨"com/example/harburg/harburg/epc/FieldCharacterCountPinLaw", "pct", "(ZC)I"⟩ : MethodName)) hown8 (mvT hZ8 (hw _ (List.mem_of_getElem? (i := 30) rfl))) (mvT hZ8 (hw _ (List.mem_of_getElem? (i := 31) rfl))) (mvT hZ8 (hw _ (List.mem_of_getElem? (i := 3) rfl))) (mvT hZ8 (hw _ (List.mem_of_getElem? (i := 32) rfl))) (by decide) (backOf (W := 1) (rm6 l Z a0 hw [] (0 : Int32) (val1 p6) T16.heap n0 (by rw [u16]; exact z12)) hZ8 (hw _ (List.mem_of_getElem? (i := 32) rfl)) (hw _ (List.mem_of_getElem? (i := 3) rfl)) (by decide) (by decide)) (g := (mkF m 137 #[.val (.int p1), .val (.int p2), .val (.int p3), .val (.int p4), .val (.int p5), .val (.int p6), .val (.int (own_n p1)), .val (.int (val1 p2)), .val (.int (val1 p3)), .val (.int (val1 p4)), .val (.int (val1 p5)), .val (.int (val1 p6)), .val (.ref b12), .unset, .unset] [(.int (val1 p6)), (.int (0 : Int32)), (.int ((((val6 (0 : Int32) (val1 p2)) + (val6 (0 : Int32) (val1 p3))) + (val6 (0 : Int32) (val1 p4))) + (val6 (0 : Int32) (val1 p5))))])) rfl (by rw [hml]; rfl) (argsL := [(.int (0 : Int32)), (.int (val1 p6))]) (rest := [(.int ((((val6 (0 : Int32) (val1 p2)) + (val6 (0 : Int32) (val1 p3))) + (val6 (0 : Int32) (val1 p4))) + (val6 (0 : Int32) (val1 p5))))]) (lenOf pd_0_5 rfl) rfl (by show 2 * 0 + _ ≤ _; exact Nat.le_of_eq rfl) (hb hby at_137) (fun _ _ => ⟨rfl, rfl, (by decide : 0 + 4 ≤ _), (by decide : 0 + 8 ≤ _)⟩)
  dsimp only [Pt.U, Pt.locs, Pt.cells, Pt.slots] at X17 l17 y17 z17 st17 hQ17
  subst l17 y17 z17
  obtain ⟨rfl, N17q, w17⟩ := hQ17
  have u17 : T17.heap = T12.heap := w17.trans u16
  have N17 := Fr.app N16 N17q
  have hln : ∀ d ∈ StrChars.Road.wordsLen, d.before a0 Z = true := fun d hd => hw d ((by decide +kernel : ∀ d ∈ StrChars.Road.wordsLen, d ∈ tables_1) d hd)
  have hch : ∀ d ∈ StrChars.Road.wordsChN, d.before a0 Z = true := fun d hd => hw d ((by decide +kernel : ∀ d ∈ StrChars.Road.wordsChN, d ∈ tables_1) d hd)
  obtain ⟨xS, tS, kS, FvS, FcS, AvS⟩ : own_STR Z T12.heap b12 ([] : List Int32) := S12
  have xS' : Exa Z T17.heap b12 "java/lang/String" := by rw [u17]; exact xS
  have FvS' : Fld Z T17.heap b12 "java/lang/String" "value" "[B" (.ref tS) := by rw [u17]; exact FvS
  have FcS' : Fld Z T17.heap b12 "java/lang/String" "coder" "B" (.int (0 : Int32)) := by rw [u17]; exact FcS
  have AvS' : Arv Z T17.heap tS kS .byte (Int32.ofNat ([] : List Int32).length) ((([] : List Int32).map (fun c => c.toInt8.toInt32)).map Value.int) (.int 0) := by rw [u17]; exact AvS
  have XO' : Old Z n0 T17.heap := by rw [u17]; exact XO12
  obtain ⟨_, _, ⟨T18, L18, k18, n18⟩, -, X18, ⟨Lc18, hQ18, l18, y18, z18⟩, st18⟩ := Jvm.LawKit.callS X17 hx (y := (⟨"com/example/harburg/harburg/epc/EpcScheme$Field", "characterCount", "(Ljava/lang/String;)I"⟩ : MethodName)) hown8 (mvT hZ8 (hw _ (List.mem_of_getElem? (i := 33) rfl))) (mvT hZ8 (hw _ (List.mem_of_getElem? (i := 34) rfl))) (mvT hZ8 (hw _ (List.mem_of_getElem? (i := 35) rfl))) (mvT hZ8 (hw _ (List.mem_of_getElem? (i := 36) rfl))) (by decide) (backOf (W := 0) (rm7 l Z a0 hw [] b12 T17.heap n0 (by rw [u17]; exact z12) xS' hln hch ([] : List Int32) (Nat.le_of_ble_eq_true rfl) (own_all0 ) tS kS G1 G3 FvS' FcS' AvS' (O2.ext XO'.2) P5 (O4.ext XO'.2) rG3) hZ8 (hw _ (List.mem_of_getElem? (i := 36) rfl)) (hw _ (List.mem_of_getElem? (i := 35) rfl)) (by decide) (by decide)) (g := (mkF m 145 #[.val (.int p1), .val (.int p2), .val (.int p3), .val (.int p4), .val (.int p5), .val (.int p6), .val (.int (own_n p1)), .val (.int (val1 p2)), .val (.int (val1 p3)), .val (.int (val1 p4)), .val (.int (val1 p5)), .val (.int (val1 p6)), .val (.ref b12), .val (.int (((((val6 (0 : Int32) (val1 p2)) + (val6 (0 : Int32) (val1 p3))) + (val6 (0 : Int32) (val1 p4))) + (val6 (0 : Int32) (val1 p5))) + (val6 (0 : Int32) (val1 p6)))), .unset] [(.ref b12)])) rfl (by rw [hml]; rfl) (argsL := [(.ref b12)]) (rest := []) (lenOf pd_0_6 rfl) rfl (by show 2 * 0 + _ ≤ _; exact Nat.le_of_eq rfl) (hb hby at_145) (fun _ _ => ⟨rfl, rfl, (by decide : 0 + 4 ≤ _), (by decide : 0 + 8 ≤ _)⟩)
  dsimp only [Pt.U, Pt.locs, Pt.cells, Pt.slots] at X18 l18 y18 z18 st18 hQ18
  subst l18 y18 z18
  obtain ⟨rfl, N18q, w18⟩ := hQ18
  have u18 : T18.heap = T12.heap := w18.trans u17
  have N18 := Fr.app N17 N18q
  have xL : Exa Z T18.heap b12 "java/lang/String" := by rw [u18]; exact xS
  obtain ⟨cq19, kq19, q19a, q19b, q19c⟩ := isOf hZ8 rfl xL
  have FvL : Fld Z T18.heap b12 "java/lang/String" "value" "[B" (.ref tS) := by rw [u18]; exact FvS
  have FcL : Fld Z T18.heap b12 "java/lang/String" "coder" "B" (.int (0 : Int32)) := by rw [u18]; exact FcS
  have AvL : Arv Z T18.heap tS kS .byte (Int32.ofNat ([] : List Int32).length) ((([] : List Int32).map (fun c => c.toInt8.toInt32)).map Value.int) (.int 0) := by rw [u18]; exact AvS
  have XOL : Old Z n0 T18.heap := by rw [u18]; exact XO12
  obtain ⟨_, _, ⟨T19, L19, k19, n19⟩, -, X19, ⟨Lc19, hQ19, l19, y19, z19⟩, st19⟩ := X18.virtualBack hx (y := (⟨"java/lang/String", "length", "()I"⟩ : MethodName)) (z := (⟨"java/lang/String", "length", "()I"⟩ : MethodName)) hown8 (mvT hZ8 (hw _ (List.mem_of_getElem? (i := 48) rfl))) (mvT hZ8 (hw _ (List.mem_of_getElem? (i := 38) rfl))) (notFace_of_selects (args := #[]) (mvT hZ8 (hw _ (List.mem_of_getElem? (i := 40) rfl)))) (mvT hZ8 (hw _ (List.mem_of_getElem? (i := 40) rfl))) (mvT hZ8 (hw _ (List.mem_of_getElem? (i := 39) rfl))) (by decide) (StrChars.Road.lenW (W := 0) hZ8 hln (kI := 4) (hw _ (List.mem_of_getElem? (i := 9) rfl)) xL FvL FcL AvL (StrChars.Road.codOf rfl (fun c hc => (own_all0  c hc).2)) (own_up _ (own_all0 )) (O2.ext XOL.2) P5 (Nat.le_of_ble_eq_true rfl) (by decide) (by decide)) q19a q19c (g := (mkF m 152 #[.val (.int p1), .val (.int p2), .val (.int p3), .val (.int p4), .val (.int p5), .val (.int p6), .val (.int (own_n p1)), .val (.int (val1 p2)), .val (.int (val1 p3)), .val (.int (val1 p4)), .val (.int (val1 p5)), .val (.int (val1 p6)), .val (.ref b12), .val (.int (((((val6 (0 : Int32) (val1 p2)) + (val6 (0 : Int32) (val1 p3))) + (val6 (0 : Int32) (val1 p4))) + (val6 (0 : Int32) (val1 p5))) + (val6 (0 : Int32) (val1 p6)))), .val (.int (Int32.ofNat ([] : List Int32).length - ((2 : Int32) * own_cnt ([] : List Int32))))] [(.ref b12)])) rfl (by rw [hml]; rfl) (Steps.refl _) (argsL := []) (rest := []) (lenOf pd_0_7 rfl) rfl (by show 2 * 0 + _ ≤ _; exact Nat.le_of_eq rfl) (hb hby at_152) (fun _ _ => ⟨rfl, rfl, (by decide : 0 + 4 ≤ _), (by decide : 0 + 8 ≤ _)⟩)
  dsimp only [Pt.U, Pt.locs, Pt.cells, Pt.slots] at X19 l19 y19 z19 st19 hQ19
  subst l19 y19 z19
  obtain ⟨rfl, rfl, w19⟩ := hQ19
  have N19 := Fr.app N18 (Fr.nil n0)
  obtain ⟨fs, hr, hrun, hended, eW1, eW2, eW3, eW4⟩ := X19.leaveW SS (by rw [w19, u18]; exact Nat.le_refl _) (v := some (.int (1 : Int32))) (fun h => by rw [Bd.returns] at h; cases h)
  refine ⟨_, _, pre0 _ ?_, hrun, hended, _, _, rfl, ?_, eW1, eW2, eW3, eW4.mono (by decide) (by decide)⟩
  · show Steps p.tables e below (s₁.setTop (mkF m 0 #[.val (.int p1), .val (.int p2), .val (.int p3), .val (.int p4), .val (.int p5), .val (.int p6), .unset, .unset, .unset, .unset, .unset, .unset, .unset, .unset, .unset] [])) _
    refine XS.iloadN X0.here hx rfl (hb hby at_0) rfl ?_
    show Steps p.tables e below (s₁.setTop (mkF m 1 #[.val (.int p1), .val (.int p2), .val (.int p3), .val (.int p4), .val (.int p5), .val (.int p6), .unset, .unset, .unset, .unset, .unset, .unset, .unset, .unset, .unset] [(.int p1)])) _
    refine X0.ldcInt hx hown (mvT hZ (hw _ (List.mem_of_getElem? (i := 0) rfl))) (g := (mkF m 1 #[.val (.int p1), .val (.int p2), .val (.int p3), .val (.int p4), .val (.int p5), .val (.int p6), .unset, .unset, .unset, .unset, .unset, .unset, .unset, .unset, .unset] [(.int p1)])) rfl (hb hby at_1) _ ?_
    show Steps p.tables e below (s₁.setTop (mkF m 3 #[.val (.int p1), .val (.int p2), .val (.int p3), .val (.int p4), .val (.int p5), .val (.int p6), .unset, .unset, .unset, .unset, .unset, .unset, .unset, .unset, .unset] [(.int (2147483647 : Int32)), (.int p1)])) _
    refine XS.iand X0.here hx rfl (hb hby at_3) rfl ?_
    show Steps p.tables e below (s₁.setTop (mkF m 4 #[.val (.int p1), .val (.int p2), .val (.int p3), .val (.int p4), .val (.int p5), .val (.int p6), .unset, .unset, .unset, .unset, .unset, .unset, .unset, .unset, .unset] [(.int (p1 &&& (2147483647 : Int32)))])) _
    refine XS.bipush X0.here hx rfl (hb hby at_4) ?_
    show Steps p.tables e below (s₁.setTop (mkF m 6 #[.val (.int p1), .val (.int p2), .val (.int p3), .val (.int p4), .val (.int p5), .val (.int p6), .unset, .unset, .unset, .unset, .unset, .unset, .unset, .unset, .unset] [(.int (6 : Int32)), (.int (p1 &&& (2147483647 : Int32)))])) _
    refine XS.irem X0.here hx rfl (hb hby at_6) rfl (by decide) ?_
    show Steps p.tables e below (s₁.setTop (mkF m 7 #[.val (.int p1), .val (.int p2), .val (.int p3), .val (.int p4), .val (.int p5), .val (.int p6), .unset, .unset, .unset, .unset, .unset, .unset, .unset, .unset, .unset] [(.int (own_n p1))])) _
    refine XS.istore X0.here hx rfl (hb hby at_7) rfl (l' := #[.val (.int p1), .val (.int p2), .val (.int p3), .val (.int p4), .val (.int p5), .val (.int p6), .val (.int (own_n p1)), .unset, .unset, .unset, .unset, .unset, .unset, .unset, .unset]) rfl ?_
    show Steps p.tables e below (s₁.setTop (mkF m 9 #[.val (.int p1), .val (.int p2), .val (.int p3), .val (.int p4), .val (.int p5), .val (.int p6), .val (.int (own_n p1)), .unset, .unset, .unset, .unset, .unset, .unset, .unset, .unset] [])) _
    refine XS.iloadN X0.here hx rfl (hb hby at_9) rfl ?_
    show Steps p.tables e below (s₁.setTop (mkF m 10 #[.val (.int p1), .val (.int p2), .val (.int p3), .val (.int p4), .val (.int p5), .val (.int p6), .val (.int (own_n p1)), .unset, .unset, .unset, .unset, .unset, .unset, .unset, .unset] [(.int p2)])) _
    refine st7 _ ?_
    show Steps p.tables e below (T7.setTop (mkF m 13 #[.val (.int p1), .val (.int p2), .val (.int p3), .val (.int p4), .val (.int p5), .val (.int p6), .val (.int (own_n p1)), .unset, .unset, .unset, .unset, .unset, .unset, .unset, .unset] [(.int (val1 p2))])) _
    refine XS.istore X7.here hx rfl (hb hby at_13) rfl (l' := #[.val (.int p1), .val (.int p2), .val (.int p3), .val (.int p4), .val (.int p5), .val (.int p6), .val (.int (own_n p1)), .val (.int (val1 p2)), .unset, .unset, .unset, .unset, .unset, .unset, .unset]) rfl ?_
    show Steps p.tables e below (T7.setTop (mkF m 15 #[.val (.int p1), .val (.int p2), .val (.int p3), .val (.int p4), .val (.int p5), .val (.int p6), .val (.int (own_n p1)), .val (.int (val1 p2)), .unset, .unset, .unset, .unset, .unset, .unset, .unset] [])) _
    refine XS.iloadN X7.here hx rfl (hb hby at_15) rfl ?_
    show Steps p.tables e below (T7.setTop (mkF m 16 #[.val (.int p1), .val (.int p2), .val (.int p3), .val (.int p4), .val (.int p5), .val (.int p6), .val (.int (own_n p1)), .val (.int (val1 p2)), .unset, .unset, .unset, .unset, .unset, .unset, .unset] [(.int p3)])) _
    refine st8 _ ?_
    show Steps p.tables e below (T8.setTop (mkF m 19 #[.val (.int p1), .val (.int p2), .val (.int p3), .val (.int p4), .val (.int p5), .val (.int p6), .val (.int (own_n p1)), .val (.int (val1 p2)), .unset, .unset, .unset, .unset, .unset, .unset, .unset] [(.int (val1 p3))])) _
    refine XS.istore X8.here hx rfl (hb hby at_19) rfl (l' := #[.val (.int p1), .val (.int p2), .val (.int p3), .val (.int p4), .val (.int p5), .val (.int p6), .val (.int (own_n p1)), .val (.int (val1 p2)), .val (.int (val1 p3)), .unset, .unset, .unset, .unset, .unset, .unset]) rfl ?_
    show Steps p.tables e below (T8.setTop (mkF m 21 #[.val (.int p1), .val (.int p2), .val (.int p3), .val (.int p4), .val (.int p5), .val (.int p6), .val (.int (own_n p1)), .val (.int (val1 p2)), .val (.int (val1 p3)), .unset, .unset, .unset, .unset, .unset, .unset] [])) _
    refine XS.iloadN X8.here hx rfl (hb hby at_21) rfl ?_
    show Steps p.tables e below (T8.setTop (mkF m 22 #[.val (.int p1), .val (.int p2), .val (.int p3), .val (.int p4), .val (.int p5), .val (.int p6), .val (.int (own_n p1)), .val (.int (val1 p2)), .val (.int (val1 p3)), .unset, .unset, .unset, .unset, .unset, .unset] [(.int p4)])) _
    refine st9 _ ?_
    show Steps p.tables e below (T9.setTop (mkF m 25 #[.val (.int p1), .val (.int p2), .val (.int p3), .val (.int p4), .val (.int p5), .val (.int p6), .val (.int (own_n p1)), .val (.int (val1 p2)), .val (.int (val1 p3)), .unset, .unset, .unset, .unset, .unset, .unset] [(.int (val1 p4))])) _
    refine XS.istore X9.here hx rfl (hb hby at_25) rfl (l' := #[.val (.int p1), .val (.int p2), .val (.int p3), .val (.int p4), .val (.int p5), .val (.int p6), .val (.int (own_n p1)), .val (.int (val1 p2)), .val (.int (val1 p3)), .val (.int (val1 p4)), .unset, .unset, .unset, .unset, .unset]) rfl ?_
    show Steps p.tables e below (T9.setTop (mkF m 27 #[.val (.int p1), .val (.int p2), .val (.int p3), .val (.int p4), .val (.int p5), .val (.int p6), .val (.int (own_n p1)), .val (.int (val1 p2)), .val (.int (val1 p3)), .val (.int (val1 p4)), .unset, .unset, .unset, .unset, .unset] [])) _
    refine XS.iload X9.here hx rfl (hb hby at_27) rfl ?_
    show Steps p.tables e below (T9.setTop (mkF m 29 #[.val (.int p1), .val (.int p2), .val (.int p3), .val (.int p4), .val (.int p5), .val (.int p6), .val (.int (own_n p1)), .val (.int (val1 p2)), .val (.int (val1 p3)), .val (.int (val1 p4)), .unset, .unset, .unset, .unset, .unset] [(.int p5)])) _
    refine st10 _ ?_
    show Steps p.tables e below (T10.setTop (mkF m 32 #[.val (.int p1), .val (.int p2), .val (.int p3), .val (.int p4), .val (.int p5), .val (.int p6), .val (.int (own_n p1)), .val (.int (val1 p2)), .val (.int (val1 p3)), .val (.int (val1 p4)), .unset, .unset, .unset, .unset, .unset] [(.int (val1 p5))])) _
    refine XS.istore X10.here hx rfl (hb hby at_32) rfl (l' := #[.val (.int p1), .val (.int p2), .val (.int p3), .val (.int p4), .val (.int p5), .val (.int p6), .val (.int (own_n p1)), .val (.int (val1 p2)), .val (.int (val1 p3)), .val (.int (val1 p4)), .val (.int (val1 p5)), .unset, .unset, .unset, .unset]) rfl ?_
    show Steps p.tables e below (T10.setTop (mkF m 34 #[.val (.int p1), .val (.int p2), .val (.int p3), .val (.int p4), .val (.int p5), .val (.int p6), .val (.int (own_n p1)), .val (.int (val1 p2)), .val (.int (val1 p3)), .val (.int (val1 p4)), .val (.int (val1 p5)), .unset, .unset, .unset, .unset] [])) _
    refine XS.iload X10.here hx rfl (hb hby at_34) rfl ?_
    show Steps p.tables e below (T10.setTop (mkF m 36 #[.val (.int p1), .val (.int p2), .val (.int p3), .val (.int p4), .val (.int p5), .val (.int p6), .val (.int (own_n p1)), .val (.int (val1 p2)), .val (.int (val1 p3)), .val (.int (val1 p4)), .val (.int (val1 p5)), .unset, .unset, .unset, .unset] [(.int p6)])) _
    refine st11 _ ?_
    show Steps p.tables e below (T11.setTop (mkF m 39 #[.val (.int p1), .val (.int p2), .val (.int p3), .val (.int p4), .val (.int p5), .val (.int p6), .val (.int (own_n p1)), .val (.int (val1 p2)), .val (.int (val1 p3)), .val (.int (val1 p4)), .val (.int (val1 p5)), .unset, .unset, .unset, .unset] [(.int (val1 p6))])) _
    refine XS.istore X11.here hx rfl (hb hby at_39) rfl (l' := #[.val (.int p1), .val (.int p2), .val (.int p3), .val (.int p4), .val (.int p5), .val (.int p6), .val (.int (own_n p1)), .val (.int (val1 p2)), .val (.int (val1 p3)), .val (.int (val1 p4)), .val (.int (val1 p5)), .val (.int (val1 p6)), .unset, .unset, .unset]) rfl ?_
    show Steps p.tables e below (T11.setTop (mkF m 41 #[.val (.int p1), .val (.int p2), .val (.int p3), .val (.int p4), .val (.int p5), .val (.int p6), .val (.int (own_n p1)), .val (.int (val1 p2)), .val (.int (val1 p3)), .val (.int (val1 p4)), .val (.int (val1 p5)), .val (.int (val1 p6)), .unset, .unset, .unset] [])) _
    refine XS.iload X11.here hx rfl (hb hby at_41) rfl ?_
    show Steps p.tables e below (T11.setTop (mkF m 43 #[.val (.int p1), .val (.int p2), .val (.int p3), .val (.int p4), .val (.int p5), .val (.int p6), .val (.int (own_n p1)), .val (.int (val1 p2)), .val (.int (val1 p3)), .val (.int (val1 p4)), .val (.int (val1 p5)), .val (.int (val1 p6)), .unset, .unset, .unset] [(.int (own_n p1))])) _
    refine XS.iload X11.here hx rfl (hb hby at_43) rfl ?_
    show Steps p.tables e below (T11.setTop (mkF m 45 #[.val (.int p1), .val (.int p2), .val (.int p3), .val (.int p4), .val (.int p5), .val (.int p6), .val (.int (own_n p1)), .val (.int (val1 p2)), .val (.int (val1 p3)), .val (.int (val1 p4)), .val (.int (val1 p5)), .val (.int (val1 p6)), .unset, .unset, .unset] [(.int (val1 p2)), (.int (own_n p1))])) _
    refine XS.iload X11.here hx rfl (hb hby at_45) rfl ?_
    show Steps p.tables e below (T11.setTop (mkF m 47 #[.val (.int p1), .val (.int p2), .val (.int p3), .val (.int p4), .val (.int p5), .val (.int p6), .val (.int (own_n p1)), .val (.int (val1 p2)), .val (.int (val1 p3)), .val (.int (val1 p4)), .val (.int (val1 p5)), .val (.int (val1 p6)), .unset, .unset, .unset] [(.int (val1 p3)), (.int (val1 p2)), (.int (own_n p1))])) _
    refine XS.iload X11.here hx rfl (hb hby at_47) rfl ?_
    show Steps p.tables e below (T11.setTop (mkF m 49 #[.val (.int p1), .val (.int p2), .val (.int p3), .val (.int p4), .val (.int p5), .val (.int p6), .val (.int (own_n p1)), .val (.int (val1 p2)), .val (.int (val1 p3)), .val (.int (val1 p4)), .val (.int (val1 p5)), .val (.int (val1 p6)), .unset, .unset, .unset] [(.int (val1 p4)), (.int (val1 p3)), (.int (val1 p2)), (.int (own_n p1))])) _
    refine XS.iload X11.here hx rfl (hb hby at_49) rfl ?_
    show Steps p.tables e below (T11.setTop (mkF m 51 #[.val (.int p1), .val (.int p2), .val (.int p3), .val (.int p4), .val (.int p5), .val (.int p6), .val (.int (own_n p1)), .val (.int (val1 p2)), .val (.int (val1 p3)), .val (.int (val1 p4)), .val (.int (val1 p5)), .val (.int (val1 p6)), .unset, .unset, .unset] [(.int (val1 p5)), (.int (val1 p4)), (.int (val1 p3)), (.int (val1 p2)), (.int (own_n p1))])) _
    refine XS.iload X11.here hx rfl (hb hby at_51) rfl ?_
    show Steps p.tables e below (T11.setTop (mkF m 53 #[.val (.int p1), .val (.int p2), .val (.int p3), .val (.int p4), .val (.int p5), .val (.int p6), .val (.int (own_n p1)), .val (.int (val1 p2)), .val (.int (val1 p3)), .val (.int (val1 p4)), .val (.int (val1 p5)), .val (.int (val1 p6)), .unset, .unset, .unset] [(.int (val1 p6)), (.int (val1 p5)), (.int (val1 p4)), (.int (val1 p3)), (.int (val1 p2)), (.int (own_n p1))])) _
    refine st12.trans ?_
    show Steps p.tables e below (T12.setTop (mkF m 56 #[.val (.int p1), .val (.int p2), .val (.int p3), .val (.int p4), .val (.int p5), .val (.int p6), .val (.int (own_n p1)), .val (.int (val1 p2)), .val (.int (val1 p3)), .val (.int (val1 p4)), .val (.int (val1 p5)), .val (.int (val1 p6)), .unset, .unset, .unset] [(.ref b12)])) _
    refine XS.astore X12.here hx rfl (hb hby at_56) rfl rfl (l' := #[.val (.int p1), .val (.int p2), .val (.int p3), .val (.int p4), .val (.int p5), .val (.int p6), .val (.int (own_n p1)), .val (.int (val1 p2)), .val (.int (val1 p3)), .val (.int (val1 p4)), .val (.int (val1 p5)), .val (.int (val1 p6)), .val (.ref b12), .unset, .unset]) rfl ?_
    show Steps p.tables e below (T12.setTop (mkF m 58 #[.val (.int p1), .val (.int p2), .val (.int p3), .val (.int p4), .val (.int p5), .val (.int p6), .val (.int (own_n p1)), .val (.int (val1 p2)), .val (.int (val1 p3)), .val (.int (val1 p4)), .val (.int (val1 p5)), .val (.int (val1 p6)), .val (.ref b12), .unset, .unset] [])) _
    refine XS.iload X12.here hx rfl (hb hby at_58) rfl ?_
    show Steps p.tables e below (T12.setTop (mkF m 60 #[.val (.int p1), .val (.int p2), .val (.int p3), .val (.int p4), .val (.int p5), .val (.int p6), .val (.int (own_n p1)), .val (.int (val1 p2)), .val (.int (val1 p3)), .val (.int (val1 p4)), .val (.int (val1 p5)), .val (.int (val1 p6)), .val (.ref b12), .unset, .unset] [(.int (own_n p1))])) _
    refine XS.ifYes X12.here hx rfl (pc0 := 60) (pc' := 67) rfl (hb hby at_60) rfl ((if0 _ _).trans (flt (by rw [hn]; decide)).2.2.2) (by decide) (by decide) ?_
    show Steps p.tables e below (T12.setTop (mkF m 67 #[.val (.int p1), .val (.int p2), .val (.int p3), .val (.int p4), .val (.int p5), .val (.int p6), .val (.int (own_n p1)), .val (.int (val1 p2)), .val (.int (val1 p3)), .val (.int (val1 p4)), .val (.int (val1 p5)), .val (.int (val1 p6)), .val (.ref b12), .unset, .unset] [])) _
    refine XS.iconst X12.here hx rfl (hb hby at_67) ?_
    show Steps p.tables e below (T12.setTop (mkF m 68 #[.val (.int p1), .val (.int p2), .val (.int p3), .val (.int p4), .val (.int p5), .val (.int p6), .val (.int (own_n p1)), .val (.int (val1 p2)), .val (.int (val1 p3)), .val (.int (val1 p4)), .val (.int (val1 p5)), .val (.int (val1 p6)), .val (.ref b12), .unset, .unset] [(.int (0 : Int32))])) _
    refine XS.iload X12.here hx rfl (hb hby at_68) rfl ?_
    show Steps p.tables e below (T12.setTop (mkF m 70 #[.val (.int p1), .val (.int p2), .val (.int p3), .val (.int p4), .val (.int p5), .val (.int p6), .val (.int (own_n p1)), .val (.int (val1 p2)), .val (.int (val1 p3)), .val (.int (val1 p4)), .val (.int (val1 p5)), .val (.int (val1 p6)), .val (.ref b12), .unset, .unset] [(.int (val1 p2)), (.int (0 : Int32))])) _
    refine st13 _ ?_
    show Steps p.tables e below (T13.setTop (mkF m 73 #[.val (.int p1), .val (.int p2), .val (.int p3), .val (.int p4), .val (.int p5), .val (.int p6), .val (.int (own_n p1)), .val (.int (val1 p2)), .val (.int (val1 p3)), .val (.int (val1 p4)), .val (.int (val1 p5)), .val (.int (val1 p6)), .val (.ref b12), .unset, .unset] [(.int (val6 (0 : Int32) (val1 p2)))])) _
    refine XS.iload X13.here hx rfl (hb hby at_73) rfl ?_
    show Steps p.tables e below (T13.setTop (mkF m 75 #[.val (.int p1), .val (.int p2), .val (.int p3), .val (.int p4), .val (.int p5), .val (.int p6), .val (.int (own_n p1)), .val (.int (val1 p2)), .val (.int (val1 p3)), .val (.int (val1 p4)), .val (.int (val1 p5)), .val (.int (val1 p6)), .val (.ref b12), .unset, .unset] [(.int (own_n p1)), (.int (val6 (0 : Int32) (val1 p2)))])) _
    refine XS.iconst X13.here hx rfl (hb hby at_75) ?_
    show Steps p.tables e below (T13.setTop (mkF m 76 #[.val (.int p1), .val (.int p2), .val (.int p3), .val (.int p4), .val (.int p5), .val (.int p6), .val (.int (own_n p1)), .val (.int (val1 p2)), .val (.int (val1 p3)), .val (.int (val1 p4)), .val (.int (val1 p5)), .val (.int (val1 p6)), .val (.ref b12), .unset, .unset] [(.int (1 : Int32)), (.int (own_n p1)), (.int (val6 (0 : Int32) (val1 p2)))])) _
    refine XS.icmpYes X13.here hx rfl (pc0 := 76) (pc' := 83) rfl (hb hby at_76) rfl (flt (by rw [hn]; decide)).2.2.2 (by decide) (by decide) ?_
    show Steps p.tables e below (T13.setTop (mkF m 83 #[.val (.int p1), .val (.int p2), .val (.int p3), .val (.int p4), .val (.int p5), .val (.int p6), .val (.int (own_n p1)), .val (.int (val1 p2)), .val (.int (val1 p3)), .val (.int (val1 p4)), .val (.int (val1 p5)), .val (.int (val1 p6)), .val (.ref b12), .unset, .unset] [(.int (val6 (0 : Int32) (val1 p2)))])) _
    refine XS.iconst X13.here hx rfl (hb hby at_83) ?_
    show Steps p.tables e below (T13.setTop (mkF m 84 #[.val (.int p1), .val (.int p2), .val (.int p3), .val (.int p4), .val (.int p5), .val (.int p6), .val (.int (own_n p1)), .val (.int (val1 p2)), .val (.int (val1 p3)), .val (.int (val1 p4)), .val (.int (val1 p5)), .val (.int (val1 p6)), .val (.ref b12), .unset, .unset] [(.int (0 : Int32)), (.int (val6 (0 : Int32) (val1 p2)))])) _
    refine XS.iload X13.here hx rfl (hb hby at_84) rfl ?_
    show Steps p.tables e below (T13.setTop (mkF m 86 #[.val (.int p1), .val (.int p2), .val (.int p3), .val (.int p4), .val (.int p5), .val (.int p6), .val (.int (own_n p1)), .val (.int (val1 p2)), .val (.int (val1 p3)), .val (.int (val1 p4)), .val (.int (val1 p5)), .val (.int (val1 p6)), .val (.ref b12), .unset, .unset] [(.int (val1 p3)), (.int (0 : Int32)), (.int (val6 (0 : Int32) (val1 p2)))])) _
    refine st14 _ ?_
    show Steps p.tables e below (T14.setTop (mkF m 89 #[.val (.int p1), .val (.int p2), .val (.int p3), .val (.int p4), .val (.int p5), .val (.int p6), .val (.int (own_n p1)), .val (.int (val1 p2)), .val (.int (val1 p3)), .val (.int (val1 p4)), .val (.int (val1 p5)), .val (.int (val1 p6)), .val (.ref b12), .unset, .unset] [(.int (val6 (0 : Int32) (val1 p3))), (.int (val6 (0 : Int32) (val1 p2)))])) _
    refine XS.iadd X14.here hx rfl (hb hby at_89) rfl ?_
    show Steps p.tables e below (T14.setTop (mkF m 90 #[.val (.int p1), .val (.int p2), .val (.int p3), .val (.int p4), .val (.int p5), .val (.int p6), .val (.int (own_n p1)), .val (.int (val1 p2)), .val (.int (val1 p3)), .val (.int (val1 p4)), .val (.int (val1 p5)), .val (.int (val1 p6)), .val (.ref b12), .unset, .unset] [(.int ((val6 (0 : Int32) (val1 p2)) + (val6 (0 : Int32) (val1 p3))))])) _
    refine XS.iload X14.here hx rfl (hb hby at_90) rfl ?_
    show Steps p.tables e below (T14.setTop (mkF m 92 #[.val (.int p1), .val (.int p2), .val (.int p3), .val (.int p4), .val (.int p5), .val (.int p6), .val (.int (own_n p1)), .val (.int (val1 p2)), .val (.int (val1 p3)), .val (.int (val1 p4)), .val (.int (val1 p5)), .val (.int (val1 p6)), .val (.ref b12), .unset, .unset] [(.int (own_n p1)), (.int ((val6 (0 : Int32) (val1 p2)) + (val6 (0 : Int32) (val1 p3))))])) _
    refine XS.iconst X14.here hx rfl (hb hby at_92) ?_
    show Steps p.tables e below (T14.setTop (mkF m 93 #[.val (.int p1), .val (.int p2), .val (.int p3), .val (.int p4), .val (.int p5), .val (.int p6), .val (.int (own_n p1)), .val (.int (val1 p2)), .val (.int (val1 p3)), .val (.int (val1 p4)), .val (.int (val1 p5)), .val (.int (val1 p6)), .val (.ref b12), .unset, .unset] [(.int (2 : Int32)), (.int (own_n p1)), (.int ((val6 (0 : Int32) (val1 p2)) + (val6 (0 : Int32) (val1 p3))))])) _
    refine XS.icmpYes X14.here hx rfl (pc0 := 93) (pc' := 100) rfl (hb hby at_93) rfl (flt (by rw [hn]; decide)).2.2.2 (by decide) (by decide) ?_
    show Steps p.tables e below (T14.setTop (mkF m 100 #[.val (.int p1), .val (.int p2), .val (.int p3), .val (.int p4), .val (.int p5), .val (.int p6), .val (.int (own_n p1)), .val (.int (val1 p2)), .val (.int (val1 p3)), .val (.int (val1 p4)), .val (.int (val1 p5)), .val (.int (val1 p6)), .val (.ref b12), .unset, .unset] [(.int ((val6 (0 : Int32) (val1 p2)) + (val6 (0 : Int32) (val1 p3))))])) _
    refine XS.iconst X14.here hx rfl (hb hby at_100) ?_
    show Steps p.tables e below (T14.setTop (mkF m 101 #[.val (.int p1), .val (.int p2), .val (.int p3), .val (.int p4), .val (.int p5), .val (.int p6), .val (.int (own_n p1)), .val (.int (val1 p2)), .val (.int (val1 p3)), .val (.int (val1 p4)), .val (.int (val1 p5)), .val (.int (val1 p6)), .val (.ref b12), .unset, .unset] [(.int (0 : Int32)), (.int ((val6 (0 : Int32) (val1 p2)) + (val6 (0 : Int32) (val1 p3))))])) _
    refine XS.iload X14.here hx rfl (hb hby at_101) rfl ?_
    show Steps p.tables e below (T14.setTop (mkF m 103 #[.val (.int p1), .val (.int p2), .val (.int p3), .val (.int p4), .val (.int p5), .val (.int p6), .val (.int (own_n p1)), .val (.int (val1 p2)), .val (.int (val1 p3)), .val (.int (val1 p4)), .val (.int (val1 p5)), .val (.int (val1 p6)), .val (.ref b12), .unset, .unset] [(.int (val1 p4)), (.int (0 : Int32)), (.int ((val6 (0 : Int32) (val1 p2)) + (val6 (0 : Int32) (val1 p3))))])) _
    refine st15 _ ?_
    show Steps p.tables e below (T15.setTop (mkF m 106 #[.val (.int p1), .val (.int p2), .val (.int p3), .val (.int p4), .val (.int p5), .val (.int p6), .val (.int (own_n p1)), .val (.int (val1 p2)), .val (.int (val1 p3)), .val (.int (val1 p4)), .val (.int (val1 p5)), .val (.int (val1 p6)), .val (.ref b12), .unset, .unset] [(.int (val6 (0 : Int32) (val1 p4))), (.int ((val6 (0 : Int32) (val1 p2)) + (val6 (0 : Int32) (val1 p3))))])) _
    refine XS.iadd X15.here hx rfl (hb hby at_106) rfl ?_
    show Steps p.tables e below (T15.setTop (mkF m 107 #[.val (.int p1), .val (.int p2), .val (.int p3), .val (.int p4), .val (.int p5), .val (.int p6), .val (.int (own_n p1)), .val (.int (val1 p2)), .val (.int (val1 p3)), .val (.int (val1 p4)), .val (.int (val1 p5)), .val (.int (val1 p6)), .val (.ref b12), .unset, .unset] [(.int (((val6 (0 : Int32) (val1 p2)) + (val6 (0 : Int32) (val1 p3))) + (val6 (0 : Int32) (val1 p4))))])) _
    refine XS.iload X15.here hx rfl (hb hby at_107) rfl ?_
    show Steps p.tables e below (T15.setTop (mkF m 109 #[.val (.int p1), .val (.int p2), .val (.int p3), .val (.int p4), .val (.int p5), .val (.int p6), .val (.int (own_n p1)), .val (.int (val1 p2)), .val (.int (val1 p3)), .val (.int (val1 p4)), .val (.int (val1 p5)), .val (.int (val1 p6)), .val (.ref b12), .unset, .unset] [(.int (own_n p1)), (.int (((val6 (0 : Int32) (val1 p2)) + (val6 (0 : Int32) (val1 p3))) + (val6 (0 : Int32) (val1 p4))))])) _
    refine XS.iconst X15.here hx rfl (hb hby at_109) ?_
    show Steps p.tables e below (T15.setTop (mkF m 110 #[.val (.int p1), .val (.int p2), .val (.int p3), .val (.int p4), .val (.int p5), .val (.int p6), .val (.int (own_n p1)), .val (.int (val1 p2)), .val (.int (val1 p3)), .val (.int (val1 p4)), .val (.int (val1 p5)), .val (.int (val1 p6)), .val (.ref b12), .unset, .unset] [(.int (3 : Int32)), (.int (own_n p1)), (.int (((val6 (0 : Int32) (val1 p2)) + (val6 (0 : Int32) (val1 p3))) + (val6 (0 : Int32) (val1 p4))))])) _
    refine XS.icmpYes X15.here hx rfl (pc0 := 110) (pc' := 117) rfl (hb hby at_110) rfl (flt (by rw [hn]; decide)).2.2.2 (by decide) (by decide) ?_
    show Steps p.tables e below (T15.setTop (mkF m 117 #[.val (.int p1), .val (.int p2), .val (.int p3), .val (.int p4), .val (.int p5), .val (.int p6), .val (.int (own_n p1)), .val (.int (val1 p2)), .val (.int (val1 p3)), .val (.int (val1 p4)), .val (.int (val1 p5)), .val (.int (val1 p6)), .val (.ref b12), .unset, .unset] [(.int (((val6 (0 : Int32) (val1 p2)) + (val6 (0 : Int32) (val1 p3))) + (val6 (0 : Int32) (val1 p4))))])) _
    refine XS.iconst X15.here hx rfl (hb hby at_117) ?_
    show Steps p.tables e below (T15.setTop (mkF m 118 #[.val (.int p1), .val (.int p2), .val (.int p3), .val (.int p4), .val (.int p5), .val (.int p6), .val (.int (own_n p1)), .val (.int (val1 p2)), .val (.int (val1 p3)), .val (.int (val1 p4)), .val (.int (val1 p5)), .val (.int (val1 p6)), .val (.ref b12), .unset, .unset] [(.int (0 : Int32)), (.int (((val6 (0 : Int32) (val1 p2)) + (val6 (0 : Int32) (val1 p3))) + (val6 (0 : Int32) (val1 p4))))])) _
    refine XS.iload X15.here hx rfl (hb hby at_118) rfl ?_
    show Steps p.tables e below (T15.setTop (mkF m 120 #[.val (.int p1), .val (.int p2), .val (.int p3), .val (.int p4), .val (.int p5), .val (.int p6), .val (.int (own_n p1)), .val (.int (val1 p2)), .val (.int (val1 p3)), .val (.int (val1 p4)), .val (.int (val1 p5)), .val (.int (val1 p6)), .val (.ref b12), .unset, .unset] [(.int (val1 p5)), (.int (0 : Int32)), (.int (((val6 (0 : Int32) (val1 p2)) + (val6 (0 : Int32) (val1 p3))) + (val6 (0 : Int32) (val1 p4))))])) _
    refine st16 _ ?_
    show Steps p.tables e below (T16.setTop (mkF m 123 #[.val (.int p1), .val (.int p2), .val (.int p3), .val (.int p4), .val (.int p5), .val (.int p6), .val (.int (own_n p1)), .val (.int (val1 p2)), .val (.int (val1 p3)), .val (.int (val1 p4)), .val (.int (val1 p5)), .val (.int (val1 p6)), .val (.ref b12), .unset, .unset] [(.int (val6 (0 : Int32) (val1 p5))), (.int (((val6 (0 : Int32) (val1 p2)) + (val6 (0 : Int32) (val1 p3))) + (val6 (0 : Int32) (val1 p4))))])) _
    refine XS.iadd X16.here hx rfl (hb hby at_123) rfl ?_
    show Steps p.tables e below (T16.setTop (mkF m 124 #[.val (.int p1), .val (.int p2), .val (.int p3), .val (.int p4), .val (.int p5), .val (.int p6), .val (.int (own_n p1)), .val (.int (val1 p2)), .val (.int (val1 p3)), .val (.int (val1 p4)), .val (.int (val1 p5)), .val (.int (val1 p6)), .val (.ref b12), .unset, .unset] [(.int ((((val6 (0 : Int32) (val1 p2)) + (val6 (0 : Int32) (val1 p3))) + (val6 (0 : Int32) (val1 p4))) + (val6 (0 : Int32) (val1 p5))))])) _
    refine XS.iload X16.here hx rfl (hb hby at_124) rfl ?_
    show Steps p.tables e below (T16.setTop (mkF m 126 #[.val (.int p1), .val (.int p2), .val (.int p3), .val (.int p4), .val (.int p5), .val (.int p6), .val (.int (own_n p1)), .val (.int (val1 p2)), .val (.int (val1 p3)), .val (.int (val1 p4)), .val (.int (val1 p5)), .val (.int (val1 p6)), .val (.ref b12), .unset, .unset] [(.int (own_n p1)), (.int ((((val6 (0 : Int32) (val1 p2)) + (val6 (0 : Int32) (val1 p3))) + (val6 (0 : Int32) (val1 p4))) + (val6 (0 : Int32) (val1 p5))))])) _
    refine XS.iconst X16.here hx rfl (hb hby at_126) ?_
    show Steps p.tables e below (T16.setTop (mkF m 127 #[.val (.int p1), .val (.int p2), .val (.int p3), .val (.int p4), .val (.int p5), .val (.int p6), .val (.int (own_n p1)), .val (.int (val1 p2)), .val (.int (val1 p3)), .val (.int (val1 p4)), .val (.int (val1 p5)), .val (.int (val1 p6)), .val (.ref b12), .unset, .unset] [(.int (4 : Int32)), (.int (own_n p1)), (.int ((((val6 (0 : Int32) (val1 p2)) + (val6 (0 : Int32) (val1 p3))) + (val6 (0 : Int32) (val1 p4))) + (val6 (0 : Int32) (val1 p5))))])) _
    refine XS.icmpYes X16.here hx rfl (pc0 := 127) (pc' := 134) rfl (hb hby at_127) rfl (flt (by rw [hn]; decide)).2.2.2 (by decide) (by decide) ?_
    show Steps p.tables e below (T16.setTop (mkF m 134 #[.val (.int p1), .val (.int p2), .val (.int p3), .val (.int p4), .val (.int p5), .val (.int p6), .val (.int (own_n p1)), .val (.int (val1 p2)), .val (.int (val1 p3)), .val (.int (val1 p4)), .val (.int (val1 p5)), .val (.int (val1 p6)), .val (.ref b12), .unset, .unset] [(.int ((((val6 (0 : Int32) (val1 p2)) + (val6 (0 : Int32) (val1 p3))) + (val6 (0 : Int32) (val1 p4))) + (val6 (0 : Int32) (val1 p5))))])) _
    refine XS.iconst X16.here hx rfl (hb hby at_134) ?_
    show Steps p.tables e below (T16.setTop (mkF m 135 #[.val (.int p1), .val (.int p2), .val (.int p3), .val (.int p4), .val (.int p5), .val (.int p6), .val (.int (own_n p1)), .val (.int (val1 p2)), .val (.int (val1 p3)), .val (.int (val1 p4)), .val (.int (val1 p5)), .val (.int (val1 p6)), .val (.ref b12), .unset, .unset] [(.int (0 : Int32)), (.int ((((val6 (0 : Int32) (val1 p2)) + (val6 (0 : Int32) (val1 p3))) + (val6 (0 : Int32) (val1 p4))) + (val6 (0 : Int32) (val1 p5))))])) _
    refine XS.iload X16.here hx rfl (hb hby at_135) rfl ?_
    show Steps p.tables e below (T16.setTop (mkF m 137 #[.val (.int p1), .val (.int p2), .val (.int p3), .val (.int p4), .val (.int p5), .val (.int p6), .val (.int (own_n p1)), .val (.int (val1 p2)), .val (.int (val1 p3)), .val (.int (val1 p4)), .val (.int (val1 p5)), .val (.int (val1 p6)), .val (.ref b12), .unset, .unset] [(.int (val1 p6)), (.int (0 : Int32)), (.int ((((val6 (0 : Int32) (val1 p2)) + (val6 (0 : Int32) (val1 p3))) + (val6 (0 : Int32) (val1 p4))) + (val6 (0 : Int32) (val1 p5))))])) _
    refine st17 _ ?_
    show Steps p.tables e below (T17.setTop (mkF m 140 #[.val (.int p1), .val (.int p2), .val (.int p3), .val (.int p4), .val (.int p5), .val (.int p6), .val (.int (own_n p1)), .val (.int (val1 p2)), .val (.int (val1 p3)), .val (.int (val1 p4)), .val (.int (val1 p5)), .val (.int (val1 p6)), .val (.ref b12), .unset, .unset] [(.int (val6 (0 : Int32) (val1 p6))), (.int ((((val6 (0 : Int32) (val1 p2)) + (val6 (0 : Int32) (val1 p3))) + (val6 (0 : Int32) (val1 p4))) + (val6 (0 : Int32) (val1 p5))))])) _
    refine XS.iadd X17.here hx rfl (hb hby at_140) rfl ?_
    show Steps p.tables e below (T17.setTop (mkF m 141 #[.val (.int p1), .val (.int p2), .val (.int p3), .val (.int p4), .val (.int p5), .val (.int p6), .val (.int (own_n p1)), .val (.int (val1 p2)), .val (.int (val1 p3)), .val (.int (val1 p4)), .val (.int (val1 p5)), .val (.int (val1 p6)), .val (.ref b12), .unset, .unset] [(.int (((((val6 (0 : Int32) (val1 p2)) + (val6 (0 : Int32) (val1 p3))) + (val6 (0 : Int32) (val1 p4))) + (val6 (0 : Int32) (val1 p5))) + (val6 (0 : Int32) (val1 p6))))])) _
    refine XS.istore X17.here hx rfl (hb hby at_141) rfl (l' := #[.val (.int p1), .val (.int p2), .val (.int p3), .val (.int p4), .val (.int p5), .val (.int p6), .val (.int (own_n p1)), .val (.int (val1 p2)), .val (.int (val1 p3)), .val (.int (val1 p4)), .val (.int (val1 p5)), .val (.int (val1 p6)), .val (.ref b12), .val (.int (((((val6 (0 : Int32) (val1 p2)) + (val6 (0 : Int32) (val1 p3))) + (val6 (0 : Int32) (val1 p4))) + (val6 (0 : Int32) (val1 p5))) + (val6 (0 : Int32) (val1 p6)))), .unset]) rfl ?_
    show Steps p.tables e below (T17.setTop (mkF m 143 #[.val (.int p1), .val (.int p2), .val (.int p3), .val (.int p4), .val (.int p5), .val (.int p6), .val (.int (own_n p1)), .val (.int (val1 p2)), .val (.int (val1 p3)), .val (.int (val1 p4)), .val (.int (val1 p5)), .val (.int (val1 p6)), .val (.ref b12), .val (.int (((((val6 (0 : Int32) (val1 p2)) + (val6 (0 : Int32) (val1 p3))) + (val6 (0 : Int32) (val1 p4))) + (val6 (0 : Int32) (val1 p5))) + (val6 (0 : Int32) (val1 p6)))), .unset] [])) _
    refine XS.aload X17.here hx rfl (hb hby at_143) rfl rfl ?_
    show Steps p.tables e below (T17.setTop (mkF m 145 #[.val (.int p1), .val (.int p2), .val (.int p3), .val (.int p4), .val (.int p5), .val (.int p6), .val (.int (own_n p1)), .val (.int (val1 p2)), .val (.int (val1 p3)), .val (.int (val1 p4)), .val (.int (val1 p5)), .val (.int (val1 p6)), .val (.ref b12), .val (.int (((((val6 (0 : Int32) (val1 p2)) + (val6 (0 : Int32) (val1 p3))) + (val6 (0 : Int32) (val1 p4))) + (val6 (0 : Int32) (val1 p5))) + (val6 (0 : Int32) (val1 p6)))), .unset] [(.ref b12)])) _
    refine st18 _ ?_
    show Steps p.tables e below (T18.setTop (mkF m 148 #[.val (.int p1), .val (.int p2), .val (.int p3), .val (.int p4), .val (.int p5), .val (.int p6), .val (.int (own_n p1)), .val (.int (val1 p2)), .val (.int (val1 p3)), .val (.int (val1 p4)), .val (.int (val1 p5)), .val (.int (val1 p6)), .val (.ref b12), .val (.int (((((val6 (0 : Int32) (val1 p2)) + (val6 (0 : Int32) (val1 p3))) + (val6 (0 : Int32) (val1 p4))) + (val6 (0 : Int32) (val1 p5))) + (val6 (0 : Int32) (val1 p6)))), .unset] [(.int (Int32.ofNat ([] : List Int32).length - ((2 : Int32) * own_cnt ([] : List Int32))))])) _
    refine XS.istore X18.here hx rfl (hb hby at_148) rfl (l' := #[.val (.int p1), .val (.int p2), .val (.int p3), .val (.int p4), .val (.int p5), .val (.int p6), .val (.int (own_n p1)), .val (.int (val1 p2)), .val (.int (val1 p3)), .val (.int (val1 p4)), .val (.int (val1 p5)), .val (.int (val1 p6)), .val (.ref b12), .val (.int (((((val6 (0 : Int32) (val1 p2)) + (val6 (0 : Int32) (val1 p3))) + (val6 (0 : Int32) (val1 p4))) + (val6 (0 : Int32) (val1 p5))) + (val6 (0 : Int32) (val1 p6)))), .val (.int (Int32.ofNat ([] : List Int32).length - ((2 : Int32) * own_cnt ([] : List Int32))))]) rfl ?_
    show Steps p.tables e below (T18.setTop (mkF m 150 #[.val (.int p1), .val (.int p2), .val (.int p3), .val (.int p4), .val (.int p5), .val (.int p6), .val (.int (own_n p1)), .val (.int (val1 p2)), .val (.int (val1 p3)), .val (.int (val1 p4)), .val (.int (val1 p5)), .val (.int (val1 p6)), .val (.ref b12), .val (.int (((((val6 (0 : Int32) (val1 p2)) + (val6 (0 : Int32) (val1 p3))) + (val6 (0 : Int32) (val1 p4))) + (val6 (0 : Int32) (val1 p5))) + (val6 (0 : Int32) (val1 p6)))), .val (.int (Int32.ofNat ([] : List Int32).length - ((2 : Int32) * own_cnt ([] : List Int32))))] [])) _
    refine XS.aload X18.here hx rfl (hb hby at_150) rfl rfl ?_
    show Steps p.tables e below (T18.setTop (mkF m 152 #[.val (.int p1), .val (.int p2), .val (.int p3), .val (.int p4), .val (.int p5), .val (.int p6), .val (.int (own_n p1)), .val (.int (val1 p2)), .val (.int (val1 p3)), .val (.int (val1 p4)), .val (.int (val1 p5)), .val (.int (val1 p6)), .val (.ref b12), .val (.int (((((val6 (0 : Int32) (val1 p2)) + (val6 (0 : Int32) (val1 p3))) + (val6 (0 : Int32) (val1 p4))) + (val6 (0 : Int32) (val1 p5))) + (val6 (0 : Int32) (val1 p6)))), .val (.int (Int32.ofNat ([] : List Int32).length - ((2 : Int32) * own_cnt ([] : List Int32))))] [(.ref b12)])) _
    refine st19.trans ?_
    show Steps p.tables e below (T19.setTop (mkF m 155 #[.val (.int p1), .val (.int p2), .val (.int p3), .val (.int p4), .val (.int p5), .val (.int p6), .val (.int (own_n p1)), .val (.int (val1 p2)), .val (.int (val1 p3)), .val (.int (val1 p4)), .val (.int (val1 p5)), .val (.int (val1 p6)), .val (.ref b12), .val (.int (((((val6 (0 : Int32) (val1 p2)) + (val6 (0 : Int32) (val1 p3))) + (val6 (0 : Int32) (val1 p4))) + (val6 (0 : Int32) (val1 p5))) + (val6 (0 : Int32) (val1 p6)))), .val (.int (Int32.ofNat ([] : List Int32).length - ((2 : Int32) * own_cnt ([] : List Int32))))] [(.int (Int32.ofNat ([] : List Int32).length))])) _
    refine XS.iload X19.here hx rfl (hb hby at_155) rfl ?_
    show Steps p.tables e below (T19.setTop (mkF m 157 #[.val (.int p1), .val (.int p2), .val (.int p3), .val (.int p4), .val (.int p5), .val (.int p6), .val (.int (own_n p1)), .val (.int (val1 p2)), .val (.int (val1 p3)), .val (.int (val1 p4)), .val (.int (val1 p5)), .val (.int (val1 p6)), .val (.ref b12), .val (.int (((((val6 (0 : Int32) (val1 p2)) + (val6 (0 : Int32) (val1 p3))) + (val6 (0 : Int32) (val1 p4))) + (val6 (0 : Int32) (val1 p5))) + (val6 (0 : Int32) (val1 p6)))), .val (.int (Int32.ofNat ([] : List Int32).length - ((2 : Int32) * own_cnt ([] : List Int32))))] [(.int (own_n p1)), (.int (Int32.ofNat ([] : List Int32).length))])) _
    refine XS.icmpNo X19.here hx rfl (hb hby at_157) rfl (teq (hn.symm : (Int32.ofNat ([] : List Int32).length) = (own_n p1))).2 ?_
    show Steps p.tables e below (T19.setTop (mkF m 160 #[.val (.int p1), .val (.int p2), .val (.int p3), .val (.int p4), .val (.int p5), .val (.int p6), .val (.int (own_n p1)), .val (.int (val1 p2)), .val (.int (val1 p3)), .val (.int (val1 p4)), .val (.int (val1 p5)), .val (.int (val1 p6)), .val (.ref b12), .val (.int (((((val6 (0 : Int32) (val1 p2)) + (val6 (0 : Int32) (val1 p3))) + (val6 (0 : Int32) (val1 p4))) + (val6 (0 : Int32) (val1 p5))) + (val6 (0 : Int32) (val1 p6)))), .val (.int (Int32.ofNat ([] : List Int32).length - ((2 : Int32) * own_cnt ([] : List Int32))))] [])) _
    refine XS.iload X19.here hx rfl (hb hby at_160) rfl ?_
    show Steps p.tables e below (T19.setTop (mkF m 162 #[.val (.int p1), .val (.int p2), .val (.int p3), .val (.int p4), .val (.int p5), .val (.int p6), .val (.int (own_n p1)), .val (.int (val1 p2)), .val (.int (val1 p3)), .val (.int (val1 p4)), .val (.int (val1 p5)), .val (.int (val1 p6)), .val (.ref b12), .val (.int (((((val6 (0 : Int32) (val1 p2)) + (val6 (0 : Int32) (val1 p3))) + (val6 (0 : Int32) (val1 p4))) + (val6 (0 : Int32) (val1 p5))) + (val6 (0 : Int32) (val1 p6)))), .val (.int (Int32.ofNat ([] : List Int32).length - ((2 : Int32) * own_cnt ([] : List Int32))))] [(.int (Int32.ofNat ([] : List Int32).length - ((2 : Int32) * own_cnt ([] : List Int32))))])) _
    refine XS.iload X19.here hx rfl (hb hby at_162) rfl ?_
    show Steps p.tables e below (T19.setTop (mkF m 164 #[.val (.int p1), .val (.int p2), .val (.int p3), .val (.int p4), .val (.int p5), .val (.int p6), .val (.int (own_n p1)), .val (.int (val1 p2)), .val (.int (val1 p3)), .val (.int (val1 p4)), .val (.int (val1 p5)), .val (.int (val1 p6)), .val (.ref b12), .val (.int (((((val6 (0 : Int32) (val1 p2)) + (val6 (0 : Int32) (val1 p3))) + (val6 (0 : Int32) (val1 p4))) + (val6 (0 : Int32) (val1 p5))) + (val6 (0 : Int32) (val1 p6)))), .val (.int (Int32.ofNat ([] : List Int32).length - ((2 : Int32) * own_cnt ([] : List Int32))))] [(.int (own_n p1)), (.int (Int32.ofNat ([] : List Int32).length - ((2 : Int32) * own_cnt ([] : List Int32))))])) _
    refine XS.iconst X19.here hx rfl (hb hby at_164) ?_
    show Steps p.tables e below (T19.setTop (mkF m 165 #[.val (.int p1), .val (.int p2), .val (.int p3), .val (.int p4), .val (.int p5), .val (.int p6), .val (.int (own_n p1)), .val (.int (val1 p2)), .val (.int (val1 p3)), .val (.int (val1 p4)), .val (.int (val1 p5)), .val (.int (val1 p6)), .val (.ref b12), .val (.int (((((val6 (0 : Int32) (val1 p2)) + (val6 (0 : Int32) (val1 p3))) + (val6 (0 : Int32) (val1 p4))) + (val6 (0 : Int32) (val1 p5))) + (val6 (0 : Int32) (val1 p6)))), .val (.int (Int32.ofNat ([] : List Int32).length - ((2 : Int32) * own_cnt ([] : List Int32))))] [(.int (2 : Int32)), (.int (own_n p1)), (.int (Int32.ofNat ([] : List Int32).length - ((2 : Int32) * own_cnt ([] : List Int32))))])) _
    refine XS.iload X19.here hx rfl (hb hby at_165) rfl ?_
    show Steps p.tables e below (T19.setTop (mkF m 167 #[.val (.int p1), .val (.int p2), .val (.int p3), .val (.int p4), .val (.int p5), .val (.int p6), .val (.int (own_n p1)), .val (.int (val1 p2)), .val (.int (val1 p3)), .val (.int (val1 p4)), .val (.int (val1 p5)), .val (.int (val1 p6)), .val (.ref b12), .val (.int (((((val6 (0 : Int32) (val1 p2)) + (val6 (0 : Int32) (val1 p3))) + (val6 (0 : Int32) (val1 p4))) + (val6 (0 : Int32) (val1 p5))) + (val6 (0 : Int32) (val1 p6)))), .val (.int (Int32.ofNat ([] : List Int32).length - ((2 : Int32) * own_cnt ([] : List Int32))))] [(.int (((((val6 (0 : Int32) (val1 p2)) + (val6 (0 : Int32) (val1 p3))) + (val6 (0 : Int32) (val1 p4))) + (val6 (0 : Int32) (val1 p5))) + (val6 (0 : Int32) (val1 p6)))), (.int (2 : Int32)), (.int (own_n p1)), (.int (Int32.ofNat ([] : List Int32).length - ((2 : Int32) * own_cnt ([] : List Int32))))])) _
    refine XS.imul X19.here hx rfl (hb hby at_167) rfl ?_
    show Steps p.tables e below (T19.setTop (mkF m 168 #[.val (.int p1), .val (.int p2), .val (.int p3), .val (.int p4), .val (.int p5), .val (.int p6), .val (.int (own_n p1)), .val (.int (val1 p2)), .val (.int (val1 p3)), .val (.int (val1 p4)), .val (.int (val1 p5)), .val (.int (val1 p6)), .val (.ref b12), .val (.int (((((val6 (0 : Int32) (val1 p2)) + (val6 (0 : Int32) (val1 p3))) + (val6 (0 : Int32) (val1 p4))) + (val6 (0 : Int32) (val1 p5))) + (val6 (0 : Int32) (val1 p6)))), .val (.int (Int32.ofNat ([] : List Int32).length - ((2 : Int32) * own_cnt ([] : List Int32))))] [(.int ((2 : Int32) * (((((val6 (0 : Int32) (val1 p2)) + (val6 (0 : Int32) (val1 p3))) + (val6 (0 : Int32) (val1 p4))) + (val6 (0 : Int32) (val1 p5))) + (val6 (0 : Int32) (val1 p6))))), (.int (own_n p1)), (.int (Int32.ofNat ([] : List Int32).length - ((2 : Int32) * own_cnt ([] : List Int32))))])) _
    refine XS.isub X19.here hx rfl (hb hby at_168) rfl ?_
    show Steps p.tables e below (T19.setTop (mkF m 169 #[.val (.int p1), .val (.int p2), .val (.int p3), .val (.int p4), .val (.int p5), .val (.int p6), .val (.int (own_n p1)), .val (.int (val1 p2)), .val (.int (val1 p3)), .val (.int (val1 p4)), .val (.int (val1 p5)), .val (.int (val1 p6)), .val (.ref b12), .val (.int (((((val6 (0 : Int32) (val1 p2)) + (val6 (0 : Int32) (val1 p3))) + (val6 (0 : Int32) (val1 p4))) + (val6 (0 : Int32) (val1 p5))) + (val6 (0 : Int32) (val1 p6)))), .val (.int (Int32.ofNat ([] : List Int32).length - ((2 : Int32) * own_cnt ([] : List Int32))))] [(.int ((own_n p1) - ((2 : Int32) * (((((val6 (0 : Int32) (val1 p2)) + (val6 (0 : Int32) (val1 p3))) + (val6 (0 : Int32) (val1 p4))) + (val6 (0 : Int32) (val1 p5))) + (val6 (0 : Int32) (val1 p6)))))), (.int (Int32.ofNat ([] : List Int32).length - ((2 : Int32) * own_cnt ([] : List Int32))))])) _
    refine XS.icmpNo X19.here hx rfl (hb hby at_169) rfl (teq (own_fin0 p1 p2 p3 p4 p5 p6 hn : (Int32.ofNat ([] : List Int32).length - ((2 : Int32) * own_cnt ([] : List Int32))) = ((own_n p1) - ((2 : Int32) * (((((val6 (0 : Int32) (val1 p2)) + (val6 (0 : Int32) (val1 p3))) + (val6 (0 : Int32) (val1 p4))) + (val6 (0 : Int32) (val1 p5))) + (val6 (0 : Int32) (val1 p6))))))).2 ?_
    show Steps p.tables e below (T19.setTop (mkF m 172 #[.val (.int p1), .val (.int p2), .val (.int p3), .val (.int p4), .val (.int p5), .val (.int p6), .val (.int (own_n p1)), .val (.int (val1 p2)), .val (.int (val1 p3)), .val (.int (val1 p4)), .val (.int (val1 p5)), .val (.int (val1 p6)), .val (.ref b12), .val (.int (((((val6 (0 : Int32) (val1 p2)) + (val6 (0 : Int32) (val1 p3))) + (val6 (0 : Int32) (val1 p4))) + (val6 (0 : Int32) (val1 p5))) + (val6 (0 : Int32) (val1 p6)))), .val (.int (Int32.ofNat ([] : List Int32).length - ((2 : Int32) * own_cnt ([] : List Int32))))] [])) _
    refine XS.iconst X19.here hx rfl (hb hby at_172) ?_
    show Steps p.tables e below (T19.setTop (mkF m 173 #[.val (.int p1), .val (.int p2), .val (.int p3), .val (.int p4), .val (.int p5), .val (.int p6), .val (.int (own_n p1)), .val (.int (val1 p2)), .val (.int (val1 p3)), .val (.int (val1 p4)), .val (.int (val1 p5)), .val (.int (val1 p6)), .val (.ref b12), .val (.int (((((val6 (0 : Int32) (val1 p2)) + (val6 (0 : Int32) (val1 p3))) + (val6 (0 : Int32) (val1 p4))) + (val6 (0 : Int32) (val1 p5))) + (val6 (0 : Int32) (val1 p6)))), .val (.int (Int32.ofNat ([] : List Int32).length - ((2 : Int32) * own_cnt ([] : List Int32))))] [(.int (1 : Int32))])) _
    refine XS.goto X19.here hx rfl (pc0 := 173) (pc' := 177) rfl (hb hby at_173) (by decide) (by decide) ?_
    show Steps p.tables e below (T19.setTop (mkF m 177 #[.val (.int p1), .val (.int p2), .val (.int p3), .val (.int p4), .val (.int p5), .val (.int p6), .val (.int (own_n p1)), .val (.int (val1 p2)), .val (.int (val1 p3)), .val (.int (val1 p4)), .val (.int (val1 p5)), .val (.int (val1 p6)), .val (.ref b12), .val (.int (((((val6 (0 : Int32) (val1 p2)) + (val6 (0 : Int32) (val1 p3))) + (val6 (0 : Int32) (val1 p4))) + (val6 (0 : Int32) (val1 p5))) + (val6 (0 : Int32) (val1 p6)))), .val (.int (Int32.ofNat ([] : List Int32).length - ((2 : Int32) * own_cnt ([] : List Int32))))] [(.int (1 : Int32))])) _
    exact retN X19 hx (t := .boolean) Bd.returns (by simp) (hb hby at_177) hr
  · show Q0 Z p1 p2 p3 p4 p5 p6 h0 n0 _ T19.heap _
    exact ⟨rfl, N19⟩
set_option maxRecDepth 65536 in
set_option maxHeartbeats 40000000 in
theorem comes_1 {Post : Tables → Env → Array Value → State → Outcome → State → Prop} (hpost : ∀ tb e args s v u, (limb_1_1.after args s (.returned v) u = true ∧ limb_1_2.after args s (.returned v) u = true ∧ True) → ReturnedEndW s (.returned v) u (Jvm.fieldLocs frame_1_writes args s ++ Jvm.arrayLocs frame_1_arrays args s ++ Jvm.staticLocs frame_1_statics s) 16 1152 → Post tb e args s (.returned v) u) :
    ArmFor flags0 classFile x code maxLocals ret World_1 tables_1 room_1 Calls_1 rest_1 Pre_1 Post := by
  intro l hfl _ _ p e ha hc hk s m args below hf hA hF happ hP
  obtain ⟨hcalls, hrest, hpre⟩ := hP
  obtain ⟨-, -, -, hnamed, -, -, -, hat⟩ := (Spec.applies_iff hf).mp happ
  obtain ⟨hg, hn⟩ := and_e (Cond.before_iff.mp (show (Jvm.Cond.and given_1 narrow_1).before args s = true from hpre))
  obtain ⟨g20, g21⟩ := and_e hg
  obtain ⟨g22, g23⟩ := and_e g21
  obtain ⟨g24, g25⟩ := and_e g23
  obtain ⟨g26, g27⟩ := and_e g25
  obtain ⟨g28, g29⟩ := and_e g27
  obtain ⟨g30, g31⟩ := and_e g29
  obtain ⟨w0, w1, w2, w3, w4, w5, rfl⟩ : ∃ w0 w1 w2 w3 w4 w5 : Value, args = #[w0, w1, w2, w3, w4, w5] := by
    have hs : args.size = 6 := by simpa [Cond.value, given_1] using g20
    obtain ⟨L⟩ := args
    match L, hs with
    | [w0, w1, w2, w3, w4, w5], _ => exact ⟨w0, w1, w2, w3, w4, w5, rfl⟩
  have hw := fun d (hd : d ∈ tables_1) => atoms_spec (ws := Jvm.Cond.code x code maxLocals ret :: tables_1) hat d (List.mem_cons_of_mem _ hd)
  have hfit : Fit s := fun {y c} hc i hi => by
    obtain ⟨ha, rfl⟩ := Array.getElem?_eq_some_iff.mp hc
    have q := List.all_eq_true.mp ((Array.all_eq_true_iff_forall_mem.mp hF) _ (Array.getElem_mem ha)) i (List.mem_range.mpr hi)
    simpa [Array.getElem?_eq_getElem hi] using q
  obtain ⟨hsets, hown0⟩ := atoms_of _ (rest_1_c_eq ▸ (show rest_1_c.before _ s = true from hrest))
  have hr0 := Cond.before_iff.mp hown0
  obtain ⟨i0, ei0⟩ := is_v g22
  obtain rfl : w0 = (.int i0) := Option.some.inj ei0
  obtain ⟨i1, ei1⟩ := is_v g24
  obtain rfl : w1 = (.int i1) := Option.some.inj ei1
  obtain ⟨i2, ei2⟩ := is_v g26
  obtain rfl : w2 = (.int i2) := Option.some.inj ei2
  obtain ⟨i3, ei3⟩ := is_v g28
  obtain rfl : w3 = (.int i3) := Option.some.inj ei3
  obtain ⟨i4, ei4⟩ := is_v g30
  obtain rfl : w4 = (.int i4) := Option.some.inj ei4
  obtain ⟨i5, ei5⟩ := is_v g31
  obtain rfl : w5 = (.int i5) := Option.some.inj ei5
  have n3 := not_v (Cond.before_iff.mp (hsets _ (List.mem_of_getElem? (i := 2) rfl)))
  obtain ⟨i7, e7⟩ := is_v (Cond.before_iff.mp (hsets _ (List.mem_of_getElem? (i := 1) rfl)))
  have S8 : Sta s s.heap "java/lang/String" "COMPACT_STRINGS" "Z" (.int i7) := Sta.start e7 (Or.inl (hsets _ (List.mem_of_getElem? (i := 0) rfl)))
  obtain ⟨v9, e10, r11⟩ := isR_v (Cond.before_iff.mp (hsets _ (List.mem_of_getElem? (i := 8) rfl)))
  have S12 : Sta s s.heap "jdk/internal/util/Preconditions" "SIOOBE_FORMATTER" "Ljava/util/function/BiFunction;" v9 := Sta.start e10 (Or.inl (hsets _ (List.mem_of_getElem? (i := 7) rfl)))
  have c13 : ¬ (i7 = (0 : Int32)) := gotF (Cond.eq_ints e7 (Term.int_eval (0))) n3
  have hcH : Jvm.Lit.constHeld s "java/lang/String" 7 := hcalls.1 ("java/lang/String", 7) (by simp [consts_1])
  have hcw : Jvm.Lit.compactW.before _ s = true := hsets _ (List.mem_of_getElem? (i := 2) rfl)
  rcases own_n6 i0 with h | h | h | h | h | h
  · obtain ⟨n, o, h1, h2, h3, _, L, rfl, ⟨rfl, N⟩, hq⟩ := rm0_0 l s _ hw tables_1 i0 i1 i2 i3 i4 i5 s.heap s.heap.size (Nat.le_refl _) i7 S8 c13 (Old.start s) v9 S12 r11 h hcH hcw p e ha hc hk s m _ below hf ((Spec.applies_iff_loose hf).mp happ).1 ⟨rfl, ⟨State.Warmed39.refl s, rfl⟩, rfl⟩ trivial
    refine ⟨n, _, h1, h2, h3, hpost _ _ _ _ _ _ ⟨Cond.after_iff.mpr rfl, Cond.after_iff.mpr (eq_i res_at (Term.int_eval (1)) rfl), trivial⟩ ⟨hq.1, hq.2.1, hq.2.2.1, (hq.2.2.2.sift fun y hy => Or.inr (N y hy)).mono (by decide) (by decide)⟩⟩
  · obtain ⟨n, o, h1, h2, h3, _, L, rfl, ⟨rfl, N⟩, hq⟩ := rm0_1 l s _ hw tables_1 i0 i1 i2 i3 i4 i5 s.heap s.heap.size (Nat.le_refl _) i7 S8 c13 (Old.start s) v9 S12 r11 h p e ha hc hk s m _ below hf ((Spec.applies_iff_loose hf).mp happ).1 ⟨rfl, State.Warmed39.refl s, rfl⟩ trivial
    have hq := ReturnedEndW.of_narrow hq.1 hq.2.1 hq.2.2
    refine ⟨n, _, h1, h2, h3, hpost _ _ _ _ _ _ ⟨Cond.after_iff.mpr rfl, Cond.after_iff.mpr (eq_i res_at (Term.int_eval (1)) rfl), trivial⟩ ⟨hq.1, hq.2.1, hq.2.2.1, (hq.2.2.2.sift fun y hy => Or.inr (N y hy)).mono (by decide) (by decide)⟩⟩
  · obtain ⟨n, o, h1, h2, h3, _, L, rfl, ⟨rfl, N⟩, hq⟩ := rm0_2 l s _ hw tables_1 i0 i1 i2 i3 i4 i5 s.heap s.heap.size (Nat.le_refl _) i7 S8 c13 (Old.start s) v9 S12 r11 h p e ha hc hk s m _ below hf ((Spec.applies_iff_loose hf).mp happ).1 ⟨rfl, State.Warmed39.refl s, rfl⟩ trivial
    have hq := ReturnedEndW.of_narrow hq.1 hq.2.1 hq.2.2
    refine ⟨n, _, h1, h2, h3, hpost _ _ _ _ _ _ ⟨Cond.after_iff.mpr rfl, Cond.after_iff.mpr (eq_i res_at (Term.int_eval (1)) rfl), trivial⟩ ⟨hq.1, hq.2.1, hq.2.2.1, (hq.2.2.2.sift fun y hy => Or.inr (N y hy)).mono (by decide) (by decide)⟩⟩
  · obtain ⟨n, o, h1, h2, h3, _, L, rfl, ⟨rfl, N⟩, hq⟩ := rm0_3 l s _ hw tables_1 i0 i1 i2 i3 i4 i5 s.heap s.heap.size (Nat.le_refl _) i7 S8 c13 (Old.start s) v9 S12 r11 h p e ha hc hk s m _ below hf ((Spec.applies_iff_loose hf).mp happ).1 ⟨rfl, State.Warmed39.refl s, rfl⟩ trivial
    have hq := ReturnedEndW.of_narrow hq.1 hq.2.1 hq.2.2
    refine ⟨n, _, h1, h2, h3, hpost _ _ _ _ _ _ ⟨Cond.after_iff.mpr rfl, Cond.after_iff.mpr (eq_i res_at (Term.int_eval (1)) rfl), trivial⟩ ⟨hq.1, hq.2.1, hq.2.2.1, (hq.2.2.2.sift fun y hy => Or.inr (N y hy)).mono (by decide) (by decide)⟩⟩
  · obtain ⟨n, o, h1, h2, h3, _, L, rfl, ⟨rfl, N⟩, hq⟩ := rm0_4 l s _ hw tables_1 i0 i1 i2 i3 i4 i5 s.heap s.heap.size (Nat.le_refl _) i7 S8 c13 (Old.start s) v9 S12 r11 h p e ha hc hk s m _ below hf ((Spec.applies_iff_loose hf).mp happ).1 ⟨rfl, State.Warmed39.refl s, rfl⟩ trivial
    have hq := ReturnedEndW.of_narrow hq.1 hq.2.1 hq.2.2
    refine ⟨n, _, h1, h2, h3, hpost _ _ _ _ _ _ ⟨Cond.after_iff.mpr rfl, Cond.after_iff.mpr (eq_i res_at (Term.int_eval (1)) rfl), trivial⟩ ⟨hq.1, hq.2.1, hq.2.2.1, (hq.2.2.2.sift fun y hy => Or.inr (N y hy)).mono (by decide) (by decide)⟩⟩
  · obtain ⟨n, o, h1, h2, h3, _, L, rfl, ⟨rfl, N⟩, hq⟩ := rm0_5 l s _ hw tables_1 i0 i1 i2 i3 i4 i5 s.heap s.heap.size (Nat.le_refl _) i7 S8 c13 (Old.start s) v9 S12 r11 h p e ha hc hk s m _ below hf ((Spec.applies_iff_loose hf).mp happ).1 ⟨rfl, State.Warmed39.refl s, rfl⟩ trivial
    have hq := ReturnedEndW.of_narrow hq.1 hq.2.1 hq.2.2
    refine ⟨n, _, h1, h2, h3, hpost _ _ _ _ _ _ ⟨Cond.after_iff.mpr rfl, Cond.after_iff.mpr (eq_i res_at (Term.int_eval (1)) rfl), trivial⟩ ⟨hq.1, hq.2.1, hq.2.2.1, (hq.2.2.2.sift fun y hy => Or.inr (N y hy)).mono (by decide) (by decide)⟩⟩
theorem main_1_1 : Claimed_1_1 := comes_1 fun _ _ _ _ _ _ h hF => ⟨h.1, hF⟩
theorem main_1_2 : Claimed_1_2 := comes_1 fun _ _ _ _ _ _ h hF => ⟨h.2.1, hF⟩
end Jvm.Pilot.@@N@@
namespace Jvm.Pilot.@@N@@
open Jvm Jvm.ClassFile Sem Op Lib Jvm.Free Jvm.Stand Jvm.Pilot.@@N@@.Jvm.D
/-! MADE BY PROGRAM (witnessworld.py) out of the Statement's table words and the real class files: 20 classes; the members and pool entries that the words name. The judged class is class 1, her method 1. -/
namespace start1
open Jvm.ClassFile
def u (s : String) : CpInfo := .utf8 (stringToUtf16 s)
/-- a pool by its gaps: so many unusable entries, then the entry; so many at the end -/
def gap : Nat → List CpInfo → List CpInfo
  | 0, r => r
  | n + 1, r => .unusable :: gap n r
def poolList (es : List (Nat × CpInfo)) (last : Nat) : List CpInfo := es.foldr (fun e r => gap e.1 (e.2 :: r)) (gap last [])
def pool (es : List (Nat × CpInfo)) (last : Nat) : Array CpInfo := ⟨poolList es last⟩
def fileOf (pool : Array CpInfo) (this : Nat) (attrs : Array Attribute := #[]) (ms : Array MethodInfo := #[]) (fl : Nat := 33) (sup : Nat := 0) (ifs : Array Nat := #[]) (fds : Array FieldInfo := #[]) : ClassFile where
  minorVersion := 0
  majorVersion := 65
  constantPool := pool
  accessFlags := fl
  thisClass := this
  superClass := sup
  interfaces := ifs
  fields := fds
  methods := ms
  attributes := attrs
def plain (name : String) (sup : Option ClassId) : Class where
  name := name
  kind := .ordinary
  loader := none
  accessFlags := 33
  super := sup
  interfaces := #[]
  cf := none
  fields := #[]
  methods := #[]
  instanceTypes := #[]
  staticTypes := #[]
  resolved := #[]
  callSites := []
  init := .initialized
  statics := none
  mirror := none

def pool0 : Array CpInfo := pool [(5, u "<init>"), (0, u "()V"), (1, .class_ 10), (1, u "java/lang/Object")] 113

def k0c0 : Code := { maxStack := 0, maxLocals := 1, code := object_method_1_code, exceptionTable := #[], attributes := #[] }
def k0m0 : Method := { name := "<init>", desc := "()V", sig := { parameters := [], returnType := none }, accessFlags := 1, code := some k0c0 }
/-- java/lang/Object -/
def k0 : Class := { plain "java/lang/Object" none with
  accessFlags := 33
  interfaces := #[]
  cf := some (fileOf pool0 8 #[] #[{ accessFlags := 1, nameIndex := 5, descriptorIndex := 6, attributes := #[] }] 33 0 #[] #[])
  fields := #[]
  methods := #[k0m0]
  instanceTypes := #[]
  staticTypes := #[]
  resolved := Array.replicate 124 none
  statics := none }

def pool1 : Array CpInfo := pool [(2, .class_ 4), (1, u "java/lang/Object"), (0, u "<init>"), (0, u "()V"), (0, .integer 2147483647), (0, .methodref 9 10), (0, .class_ 11), (0, .nameAndType 12 13), (0, u "com/example/harburg/harburg/epc/FieldCharacterCountPinLaw"), (0, u "draw"), (0, u "(I)C"), (0, .methodref 9 15), (0, .nameAndType 16 17), (0, u "make"), (0, u "(ICCCCC)Ljava/lang/String;"), (0, .methodref 9 19), (0, .nameAndType 20 21), (0, u "pct"), (0, u "(ZC)I"), (0, .methodref 23 24), (0, .class_ 25), (0, .nameAndType 26 27), (0, u "com/example/harburg/harburg/epc/EpcScheme$Field"), (0, u "characterCount"), (0, u "(Ljava/lang/String;)I"), (0, .methodref 29 30), (0, .class_ 31), (0, .nameAndType 32 33), (0, u "java/lang/String"), (0, u "length"), (0, u "()I"), (0, .methodref 29 35), (0, .nameAndType 5 36), (0, u "([C)V"), (2, u "law"), (0, u "(IIIIII)Z")] 7

def k1m0 : Method := { name := "<init>", desc := "()V", sig := { parameters := [], returnType := none }, accessFlags := 1, code := none }
def k1c1 : Code := { maxStack := 6, maxLocals := 15, code := code, exceptionTable := #[], attributes := #[] }
def k1m1 : Method := { name := "law", desc := "(IIIIII)Z", sig := { parameters := [.int, .int, .int, .int, .int, .int], returnType := some .boolean }, accessFlags := 9, code := some k1c1 }
def k1c2 : Code := { maxStack := 2, maxLocals := 1, code := method_3_code, exceptionTable := #[], attributes := #[] }
def k1m2 : Method := { name := "draw", desc := "(I)C", sig := { parameters := [.int], returnType := some .char }, accessFlags := 10, code := some k1c2 }
def k1c3 : Code := { maxStack := 2, maxLocals := 2, code := method_4_code, exceptionTable := #[], attributes := #[] }
def k1m3 : Method := { name := "pct", desc := "(ZC)I", sig := { parameters := [.boolean, .char], returnType := some .int }, accessFlags := 10, code := some k1c3 }
def k1c4 : Code := { maxStack := 6, maxLocals := 6, code := method_5_code, exceptionTable := #[], attributes := #[] }
def k1m4 : Method := { name := "make", desc := "(ICCCCC)Ljava/lang/String;", sig := { parameters := [.int, .char, .char, .char, .char, .char], returnType := some (.object "java/lang/String") }, accessFlags := 10, code := some k1c4 }
/-- com/example/harburg/harburg/epc/FieldCharacterCountPinLaw -/
def k1 : Class := { plain "com/example/harburg/harburg/epc/FieldCharacterCountPinLaw" (some 0) with
  accessFlags := 49
  interfaces := #[]
  cf := some (fileOf pool1 9 #[] #[{ accessFlags := 1, nameIndex := 5, descriptorIndex := 6, attributes := #[] }, { accessFlags := 9, nameIndex := 39, descriptorIndex := 40, attributes := #[] }, { accessFlags := 10, nameIndex := 12, descriptorIndex := 13, attributes := #[] }, { accessFlags := 10, nameIndex := 20, descriptorIndex := 21, attributes := #[] }, { accessFlags := 10, nameIndex := 16, descriptorIndex := 17, attributes := #[] }] 49 2 #[] #[])
  fields := #[]
  methods := #[k1m0, k1m1, k1m2, k1m3, k1m4]
  instanceTypes := #[]
  staticTypes := #[]
  resolved := Array.replicate 48 none
  statics := none }

def pool2 : Array CpInfo := pool [(1, .class_ 2), (0, u "java/io/Serializable"), (0, .class_ 4), (0, u "java/lang/Object")] 2

/-- java/io/Serializable -/
def k2 : Class := { plain "java/io/Serializable" (some 0) with
  accessFlags := 1537
  interfaces := #[]
  cf := some (fileOf pool2 1 #[] #[] 1537 3 #[] #[])
  fields := #[]
  methods := #[]
  instanceTypes := #[]
  staticTypes := #[]
  resolved := Array.replicate 7 none
  statics := none }

def pool3 : Array CpInfo := pool [(1, .class_ 2), (0, u "java/lang/Comparable"), (0, .class_ 4), (0, u "java/lang/Object")] 7

/-- java/lang/Comparable -/
def k3 : Class := { plain "java/lang/Comparable" (some 0) with
  accessFlags := 1537
  interfaces := #[]
  cf := some (fileOf pool3 1 #[] #[] 1537 3 #[] #[])
  fields := #[]
  methods := #[]
  instanceTypes := #[]
  staticTypes := #[]
  resolved := Array.replicate 12 none
  statics := none }

def pool4 : Array CpInfo := pool [(2, .class_ 4), (1, u "java/lang/CharSequence"), (42, .class_ 48), (0, u "java/lang/CharSequence$1CodePointIterator"), (10, .class_ 60), (0, u "java/lang/CharSequence$1CharIterator"), (5, .class_ 67), (0, u "java/lang/Object")] 63

/-- java/lang/CharSequence -/
def k4 : Class := { plain "java/lang/CharSequence" (some 0) with
  accessFlags := 1537
  interfaces := #[]
  cf := some (fileOf pool4 2 #[.nestMembers #[47, 59]] #[] 1537 66 #[] #[])
  fields := #[]
  methods := #[]
  instanceTypes := #[]
  staticTypes := #[]
  resolved := Array.replicate 131 none
  statics := none }

def pool5 : Array CpInfo := pool [(1, .class_ 2), (0, u "java/lang/constant/Constable"), (0, .class_ 4), (0, u "java/lang/Object")] 6

/-- java/lang/constant/Constable -/
def k5 : Class := { plain "java/lang/constant/Constable" (some 0) with
  accessFlags := 1537
  interfaces := #[]
  cf := some (fileOf pool5 1 #[] #[] 1537 3 #[] #[])
  fields := #[]
  methods := #[]
  instanceTypes := #[]
  staticTypes := #[]
  resolved := Array.replicate 11 none
  statics := none }

def pool6 : Array CpInfo := pool [(1, .class_ 2), (0, u "java/lang/constant/ConstantDesc"), (0, .class_ 4), (0, u "java/lang/Object")] 32

/-- java/lang/constant/ConstantDesc -/
def k6 : Class := { plain "java/lang/constant/ConstantDesc" (some 0) with
  accessFlags := 1537
  interfaces := #[]
  cf := some (fileOf pool6 1 #[] #[] 1537 3 #[] #[])
  fields := #[]
  methods := #[]
  instanceTypes := #[]
  staticTypes := #[]
  resolved := Array.replicate 37 none
  statics := none }

def pool7 : Array CpInfo := pool [(1, .methodref 2 3), (0, .class_ 4), (0, .nameAndType 5 6), (0, u "java/lang/Object"), (0, u "<init>"), (0, u "()V"), (0, .string 8), (0, u ""), (0, .fieldref 10 11), (0, .class_ 12), (0, .nameAndType 13 14), (0, u "java/lang/String"), (0, u "value"), (0, u "[B"), (0, .fieldref 10 16), (0, .nameAndType 17 18), (0, u "coder"), (0, u "B"), (2, u "hash"), (0, u "I"), (2, u "hashIsZero"), (0, u "Z"), (0, .methodref 10 28), (0, .nameAndType 5 29), (0, u "([CIILjava/lang/Void;)V"), (8, .fieldref 10 39), (0, .nameAndType 40 26), (0, u "COMPACT_STRINGS"), (1, .class_ 44), (1, u "java/lang/StringUTF16"), (0, u "compress"), (1, .methodref 42 48), (0, .nameAndType 49 50), (0, u "coderFromArrayLen"), (0, u "([BI)B"), (56, .class_ 109), (1, u "java/lang/StringLatin1"), (32, u "()Z"), (34, .methodref 42 178), (0, .nameAndType 45 179), (0, u "([CII)[B"), (154, u "()I"), (0, .methodref 10 336), (0, .nameAndType 17 337), (0, u "()B"), (25, u "([BI)C"), (27, u "(II)V"), (35, u "(I)C"), (64, .methodref 10 493), (0, .nameAndType 494 142), (0, u "isLatin1"), (0, .methodref 107 496), (0, .nameAndType 497 363), (0, u "charAt"), (3, u "checkIndex"), (5, u "length"), (67, .class_ 576), (0, u "java/lang/CharSequence"), (22, u "CASE_INSENSITIVE_ORDER"), (0, u "Ljava/util/Comparator;"), (409, u "([C)V"), (42, .fieldref 1054 1055), (0, .class_ 1056), (0, .nameAndType 1057 1058), (0, u "jdk/internal/util/Preconditions"), (0, u "SIOOBE_FORMATTER"), (0, u "Ljava/util/function/BiFunction;"), (0, .methodref 1054 1060), (0, .nameAndType 501 1061), (0, u "(IILjava/util/function/BiFunction;)I"), (39, u "serialPersistentFields"), (0, u "[Ljava/io/ObjectStreamField;"), (0, .class_ 1104), (0, u "java/lang/String$CaseInsensitiveComparator"), (1, .class_ 1107), (0, u "java/io/Serializable"), (0, .class_ 1109), (0, u "java/lang/Comparable"), (0, .class_ 1111), (0, u "java/lang/constant/Constable"), (0, .class_ 1113), (0, u "java/lang/constant/ConstantDesc"), (2, u "serialVersionUID"), (0, u "J"), (3, u "REPL"), (0, u "C"), (2, u "LATIN1"), (1, u "UTF16")] 323

def k7m0 : Method := { name := "<init>", desc := "()V", sig := { parameters := [], returnType := none }, accessFlags := 1, code := none }
def k7c1 : Code := { maxStack := 5, maxLocals := 2, code := jdk_42_method_3_code, exceptionTable := #[], attributes := #[] }
def k7m1 : Method := { name := "<init>", desc := "([C)V", sig := { parameters := [(.array .char)], returnType := none }, accessFlags := 1, code := some k7c1 }
def k7c2 : Code := { maxStack := 2, maxLocals := 1, code := jdk_42_method_54_code, exceptionTable := #[], attributes := #[] }
def k7m2 : Method := { name := "length", desc := "()I", sig := { parameters := [], returnType := some .int }, accessFlags := 1, code := some k7c2 }
def k7c3 : Code := { maxStack := 2, maxLocals := 2, code := jdk_42_method_56_code, exceptionTable := #[], attributes := #[] }
def k7m3 : Method := { name := "charAt", desc := "(I)C", sig := { parameters := [.int], returnType := some .char }, accessFlags := 1, code := some k7c3 }
def k7c4 : Code := { maxStack := 4, maxLocals := 6, code := jdk_42_method_149_code, exceptionTable := #[], attributes := #[] }
def k7m4 : Method := { name := "<init>", desc := "([CIILjava/lang/Void;)V", sig := { parameters := [(.array .char), .int, .int, (.object "java/lang/Void")], returnType := none }, accessFlags := 2, code := some k7c4 }
def k7c5 : Code := { maxStack := 1, maxLocals := 1, code := jdk_42_method_152_code, exceptionTable := #[], attributes := #[] }
def k7m5 : Method := { name := "coder", desc := "()B", sig := { parameters := [], returnType := some .byte }, accessFlags := 0, code := some k7c5 }
def k7c6 : Code := { maxStack := 1, maxLocals := 1, code := jdk_42_method_154_code, exceptionTable := #[], attributes := #[] }
def k7m6 : Method := { name := "isLatin1", desc := "()Z", sig := { parameters := [], returnType := some .boolean }, accessFlags := 0, code := some k7c6 }
def k7c7 : Code := { maxStack := 3, maxLocals := 2, code := jdk_42_method_155_code, exceptionTable := #[], attributes := #[] }
def k7m7 : Method := { name := "checkIndex", desc := "(II)V", sig := { parameters := [.int, .int], returnType := none }, accessFlags := 8, code := some k7c7 }
/-- java/lang/String -/
def k7 : Class := { plain "java/lang/String" (some 0) with
  accessFlags := 49
  interfaces := #[2, 3, 4, 5, 6]
  cf := some (fileOf pool7 10 #[.nestMembers #[1103]] #[{ accessFlags := 1, nameIndex := 5, descriptorIndex := 6, attributes := #[] }, { accessFlags := 1, nameIndex := 5, descriptorIndex := 1010, attributes := #[] }, { accessFlags := 1, nameIndex := 507, descriptorIndex := 334, attributes := #[] }, { accessFlags := 1, nameIndex := 497, descriptorIndex := 427, attributes := #[] }, { accessFlags := 2, nameIndex := 5, descriptorIndex := 29, attributes := #[] }, { accessFlags := 0, nameIndex := 17, descriptorIndex := 337, attributes := #[] }, { accessFlags := 0, nameIndex := 494, descriptorIndex := 142, attributes := #[] }, { accessFlags := 8, nameIndex := 501, descriptorIndex := 391, attributes := #[] }] 49 2 #[1106, 1108, 575, 1110, 1112] #[{ accessFlags := 18, nameIndex := 13, descriptorIndex := 14, attributes := #[] }, { accessFlags := 18, nameIndex := 17, descriptorIndex := 18, attributes := #[] }, { accessFlags := 2, nameIndex := 21, descriptorIndex := 22, attributes := #[] }, { accessFlags := 2, nameIndex := 25, descriptorIndex := 26, attributes := #[] }, { accessFlags := 26, nameIndex := 1116, descriptorIndex := 1117, attributes := #[] }, { accessFlags := 24, nameIndex := 40, descriptorIndex := 26, attributes := #[] }, { accessFlags := 26, nameIndex := 1101, descriptorIndex := 1102, attributes := #[] }, { accessFlags := 26, nameIndex := 1121, descriptorIndex := 1122, attributes := #[] }, { accessFlags := 25, nameIndex := 599, descriptorIndex := 600, attributes := #[] }, { accessFlags := 24, nameIndex := 1125, descriptorIndex := 18, attributes := #[] }, { accessFlags := 24, nameIndex := 1127, descriptorIndex := 18, attributes := #[] }])
  fields := #[{ name := "value", type := (.array .byte), accessFlags := 18, slot := 0, constantValue := 0 }, { name := "coder", type := .byte, accessFlags := 18, slot := 1, constantValue := 0 }, { name := "hash", type := .int, accessFlags := 2, slot := 2, constantValue := 0 }, { name := "hashIsZero", type := .boolean, accessFlags := 2, slot := 3, constantValue := 0 }, { name := "serialVersionUID", type := .long, accessFlags := 26, slot := 0, constantValue := 0 }, { name := "COMPACT_STRINGS", type := .boolean, accessFlags := 24, slot := 1, constantValue := 0 }, { name := "serialPersistentFields", type := (.array (.object "java/io/ObjectStreamField")), accessFlags := 26, slot := 2, constantValue := 0 }, { name := "REPL", type := .char, accessFlags := 26, slot := 3, constantValue := 0 }, { name := "CASE_INSENSITIVE_ORDER", type := (.object "java/util/Comparator"), accessFlags := 25, slot := 4, constantValue := 0 }, { name := "LATIN1", type := .byte, accessFlags := 24, slot := 5, constantValue := 0 }, { name := "UTF16", type := .byte, accessFlags := 24, slot := 6, constantValue := 0 }]
  methods := #[k7m0, k7m1, k7m2, k7m3, k7m4, k7m5, k7m6, k7m7]
  instanceTypes := #[(.array .byte), .byte, .int, .boolean]
  staticTypes := #[.long, .boolean, (.array (.object "java/io/ObjectStreamField")), .char, (.object "java/util/Comparator"), .byte, .byte]
  resolved := Array.replicate 1451 none
  statics := some 0 }

def pool8 : Array CpInfo := pool [(2, .class_ 4), (1, u "java/lang/Object"), (3, .class_ 10), (1, u "com/example/harburg/harburg/epc/EpcScheme$Field"), (0, u "name"), (0, u "Ljava/lang/String;"), (2, u "description"), (2, u "form"), (0, u "Ljava/util/function/Predicate;"), (69, .methodref 90 91), (0, .class_ 92), (0, .nameAndType 93 94), (0, u "java/lang/String"), (0, u "length"), (0, u "()I"), (0, .methodref 90 96), (0, .nameAndType 97 98), (0, u "charAt"), (0, u "(I)C"), (16, u "GS1_ESCAPES"), (0, u "Ljava/util/List;"), (44, u "GS1_MARKS"), (3, u "CPI_PART_CHARACTER"), (2, u "PART_CHARACTER"), (19, u "characterCount"), (0, u "(Ljava/lang/String;)I"), (8, .class_ 199), (0, u "com/example/harburg/harburg/epc/EpcScheme")] 35

def k8c0 : Code := { maxStack := 3, maxLocals := 3, code := prog_14_method_16_code, exceptionTable := #[], attributes := #[] }
def k8m0 : Method := { name := "characterCount", desc := "(Ljava/lang/String;)I", sig := { parameters := [(.object "java/lang/String")], returnType := some .int }, accessFlags := 8, code := some k8c0 }
/-- com/example/harburg/harburg/epc/EpcScheme$Field -/
def k8 : Class := { plain "com/example/harburg/harburg/epc/EpcScheme$Field" (some 0) with
  accessFlags := 48
  interfaces := #[]
  cf := some (fileOf pool8 8 #[.nestHost 198] #[{ accessFlags := 8, nameIndex := 188, descriptorIndex := 189, attributes := #[] }] 48 2 #[] #[{ accessFlags := 26, nameIndex := 161, descriptorIndex := 12, attributes := #[] }, { accessFlags := 26, nameIndex := 115, descriptorIndex := 116, attributes := #[] }, { accessFlags := 26, nameIndex := 165, descriptorIndex := 12, attributes := #[] }, { accessFlags := 26, nameIndex := 168, descriptorIndex := 12, attributes := #[] }, { accessFlags := 16, nameIndex := 11, descriptorIndex := 12, attributes := #[] }, { accessFlags := 16, nameIndex := 15, descriptorIndex := 12, attributes := #[] }, { accessFlags := 18, nameIndex := 18, descriptorIndex := 19, attributes := #[] }])
  fields := #[{ name := "GS1_MARKS", type := (.object "java/lang/String"), accessFlags := 26, slot := 0, constantValue := 0 }, { name := "GS1_ESCAPES", type := (.object "java/util/List"), accessFlags := 26, slot := 1, constantValue := 0 }, { name := "CPI_PART_CHARACTER", type := (.object "java/lang/String"), accessFlags := 26, slot := 2, constantValue := 0 }, { name := "PART_CHARACTER", type := (.object "java/lang/String"), accessFlags := 26, slot := 3, constantValue := 0 }, { name := "name", type := (.object "java/lang/String"), accessFlags := 16, slot := 0, constantValue := 0 }, { name := "description", type := (.object "java/lang/String"), accessFlags := 16, slot := 1, constantValue := 0 }, { name := "form", type := (.object "java/util/function/Predicate"), accessFlags := 18, slot := 2, constantValue := 0 }]
  methods := #[k8m0]
  instanceTypes := #[(.object "java/lang/String"), (.object "java/lang/String"), (.object "java/util/function/Predicate")]
  staticTypes := #[(.object "java/lang/String"), (.object "java/util/List"), (.object "java/lang/String"), (.object "java/lang/String")]
  resolved := Array.replicate 235 none
  statics := none }

def pool9 : Array CpInfo := pool [(6, .class_ 8), (1, u "java/lang/Object"), (0, u "<init>"), (0, u "()V"), (1, .class_ 14), (1, u "java/lang/StringUTF16"), (31, u "$assertionsDisabled"), (0, u "Z"), (13, u "HI_BYTE_SHIFT"), (0, u "I"), (2, u "LO_BYTE_SHIFT"), (49, .methodref 12 116), (0, .nameAndType 117 118), (0, u "compress"), (0, u "([CI[BII)I"), (3, u "([CII)[B"), (138, u "coderFromArrayLen"), (0, u "([BI)B"), (106, .class_ 371), (1, u "java/lang/StringUTF16$LinesSpliterator"), (58, u "MAX_LENGTH"), (196, .class_ 628), (0, u "java/lang/StringUTF16$CodePointsSpliterator"), (0, .class_ 630), (0, u "java/lang/StringUTF16$CharsSpliterator")] 4

def k9m0 : Method := { name := "<init>", desc := "()V", sig := { parameters := [], returnType := none }, accessFlags := 0, code := none }
def k9c1 : Code := { maxStack := 2, maxLocals := 2, code := jdk_52_method_15_code, exceptionTable := #[], attributes := #[] }
def k9m1 : Method := { name := "coderFromArrayLen", desc := "([BI)B", sig := { parameters := [(.array .byte), .int], returnType := some .byte }, accessFlags := 8, code := some k9c1 }
def k9c2 : Code := { maxStack := 5, maxLocals := 6, code := jdk_52_method_16_code, exceptionTable := #[], attributes := #[] }
def k9m2 : Method := { name := "compress", desc := "([CII)[B", sig := { parameters := [(.array .char), .int, .int], returnType := some (.array .byte) }, accessFlags := 9, code := some k9c2 }
def k9c3 : Code := { maxStack := 3, maxLocals := 7, code := jdk_52_method_21_code, exceptionTable := #[], attributes := #[] }
def k9m3 : Method := { name := "compress", desc := "([CI[BII)I", sig := { parameters := [(.array .char), .int, (.array .byte), .int, .int], returnType := some .int }, accessFlags := 9, code := some k9c3 }
/-- java/lang/StringUTF16 -/
def k9 : Class := { plain "java/lang/StringUTF16" (some 0) with
  accessFlags := 48
  interfaces := #[]
  cf := some (fileOf pool9 12 #[.nestMembers #[627, 629, 369]] #[{ accessFlags := 0, nameIndex := 9, descriptorIndex := 10, attributes := #[] }, { accessFlags := 8, nameIndex := 261, descriptorIndex := 262, attributes := #[] }, { accessFlags := 9, nameIndex := 117, descriptorIndex := 122, attributes := #[] }, { accessFlags := 9, nameIndex := 117, descriptorIndex := 118, attributes := #[] }] 48 6 #[] #[{ accessFlags := 26, nameIndex := 61, descriptorIndex := 62, attributes := #[] }, { accessFlags := 26, nameIndex := 65, descriptorIndex := 62, attributes := #[] }, { accessFlags := 24, nameIndex := 430, descriptorIndex := 62, attributes := #[] }, { accessFlags := 4120, nameIndex := 46, descriptorIndex := 47, attributes := #[] }])
  fields := #[{ name := "HI_BYTE_SHIFT", type := .int, accessFlags := 26, slot := 0, constantValue := 0 }, { name := "LO_BYTE_SHIFT", type := .int, accessFlags := 26, slot := 1, constantValue := 0 }, { name := "MAX_LENGTH", type := .int, accessFlags := 24, slot := 2, constantValue := 0 }, { name := "$assertionsDisabled", type := .boolean, accessFlags := 4120, slot := 3, constantValue := 0 }]
  methods := #[k9m0, k9m1, k9m2, k9m3]
  instanceTypes := #[]
  staticTypes := #[.int, .int, .int, .boolean]
  resolved := Array.replicate 635 none
  statics := none }

def pool10 : Array CpInfo := pool [(1, .class_ 2), (0, u "java/lang/String"), (1, .class_ 6), (1, u "java/lang/Object"), (0, u "<init>"), (0, u "()V"), (0, .methodref 1 10), (0, .nameAndType 11 12), (0, u "checkIndex"), (0, u "(II)V"), (1, .class_ 16), (1, u "java/lang/StringLatin1"), (36, u "([BI)C"), (67, u "$assertionsDisabled"), (0, u "Z"), (98, .class_ 223), (1, u "java/lang/StringLatin1$LinesSpliterator"), (28, u "charAt"), (137, .class_ 391), (0, u "java/lang/StringLatin1$CharsSpliterator")] 3

def k10m0 : Method := { name := "<init>", desc := "()V", sig := { parameters := [], returnType := none }, accessFlags := 0, code := none }
def k10c1 : Code := { maxStack := 2, maxLocals := 2, code := jdk_43_method_2_code, exceptionTable := #[], attributes := #[] }
def k10m1 : Method := { name := "charAt", desc := "([BI)C", sig := { parameters := [(.array .byte), .int], returnType := some .char }, accessFlags := 9, code := some k10c1 }
/-- java/lang/StringLatin1 -/
def k10 : Class := { plain "java/lang/StringLatin1" (some 0) with
  accessFlags := 48
  interfaces := #[]
  cf := some (fileOf pool10 14 #[.nestMembers #[390, 221]] #[{ accessFlags := 0, nameIndex := 7, descriptorIndex := 8, attributes := #[] }, { accessFlags := 9, nameIndex := 252, descriptorIndex := 53, attributes := #[] }] 48 4 #[] #[{ accessFlags := 4120, nameIndex := 121, descriptorIndex := 122, attributes := #[] }])
  fields := #[{ name := "$assertionsDisabled", type := .boolean, accessFlags := 4120, slot := 0, constantValue := 0 }]
  methods := #[k10m0, k10m1]
  instanceTypes := #[]
  staticTypes := #[.boolean]
  resolved := Array.replicate 395 none
  statics := none }

def pool11 : Array CpInfo := pool [(2, .class_ 4), (1, u "java/lang/Object"), (0, u "<init>"), (0, u "()V"), (17, .class_ 26), (1, u "jdk/internal/util/Preconditions"), (6, u "checkIndex"), (21, .class_ 56), (0, u "jdk/internal/util/Preconditions$4"), (57, .class_ 115), (0, u "jdk/internal/util/Preconditions$1"), (7, u "SIOOBE_FORMATTER"), (0, u "Ljava/util/function/BiFunction;"), (0, .class_ 126), (0, u "jdk/internal/util/Preconditions$2"), (3, u "AIOOBE_FORMATTER"), (0, .class_ 132), (0, u "jdk/internal/util/Preconditions$3"), (3, u "IOOBE_FORMATTER"), (41, u "(IILjava/util/function/BiFunction;)I")] 15

def k11m0 : Method := { name := "<init>", desc := "()V", sig := { parameters := [], returnType := none }, accessFlags := 1, code := none }
def k11c1 : Code := { maxStack := 3, maxLocals := 3, code := jdk_41_method_11_code, exceptionTable := #[], attributes := #[] }
def k11m1 : Method := { name := "checkIndex", desc := "(IILjava/util/function/BiFunction;)I", sig := { parameters := [.int, .int, (.object "java/util/function/BiFunction")], returnType := some .int }, accessFlags := 9, code := some k11c1 }
/-- jdk/internal/util/Preconditions -/
def k11 : Class := { plain "jdk/internal/util/Preconditions" (some 0) with
  accessFlags := 33
  interfaces := #[]
  cf := some (fileOf pool11 24 #[.nestMembers #[55, 131, 125, 114]] #[{ accessFlags := 1, nameIndex := 5, descriptorIndex := 6, attributes := #[] }, { accessFlags := 9, nameIndex := 33, descriptorIndex := 178, attributes := #[] }] 33 2 #[] #[{ accessFlags := 25, nameIndex := 123, descriptorIndex := 124, attributes := #[] }, { accessFlags := 25, nameIndex := 130, descriptorIndex := 124, attributes := #[] }, { accessFlags := 25, nameIndex := 136, descriptorIndex := 124, attributes := #[] }])
  fields := #[{ name := "SIOOBE_FORMATTER", type := (.object "java/util/function/BiFunction"), accessFlags := 25, slot := 0, constantValue := 0 }, { name := "AIOOBE_FORMATTER", type := (.object "java/util/function/BiFunction"), accessFlags := 25, slot := 1, constantValue := 0 }, { name := "IOOBE_FORMATTER", type := (.object "java/util/function/BiFunction"), accessFlags := 25, slot := 2, constantValue := 0 }]
  methods := #[k11m0, k11m1]
  instanceTypes := #[]
  staticTypes := #[(.object "java/util/function/BiFunction"), (.object "java/util/function/BiFunction"), (.object "java/util/function/BiFunction")]
  resolved := Array.replicate 194 none
  statics := some 1 }

def pool12 : Array CpInfo := pool [(9, u "<init>"), (6, .class_ 18), (1, u "java/lang/Object"), (0, u "()V"), (1, .class_ 23), (1, u "jdk/internal/util/ArraysSupport"), (0, u "LOG2_ARRAY_LONG_INDEX_SCALE"), (0, u "I"), (2, u "U"), (0, u "Ljdk/internal/misc/Unsafe;"), (8, u "BIG_ENDIAN"), (0, u "Z"), (8, u "LOG2_BYTE_BIT_SIZE"), (4, u "LOG2_ARRAY_INT_INDEX_SCALE"), (54, u "JLA"), (0, u "Ljdk/internal/access/JavaLangAccess;"), (11, u "LOG2_ARRAY_BOOLEAN_INDEX_SCALE"), (9, u "LOG2_ARRAY_BYTE_INDEX_SCALE"), (5, u "LOG2_ARRAY_CHAR_INDEX_SCALE"), (5, u "LOG2_ARRAY_SHORT_INDEX_SCALE"), (18, u "LOG2_ARRAY_FLOAT_INDEX_SCALE"), (24, u "LOG2_ARRAY_DOUBLE_INDEX_SCALE"), (89, u "T_BOOLEAN"), (2, u "T_CHAR"), (1, u "T_FLOAT"), (1, u "T_DOUBLE"), (1, u "T_BYTE"), (1, u "T_SHORT"), (1, u "T_INT"), (1, u "T_LONG"), (1, u "SOFT_MAX_ARRAY_LENGTH")] 83

def k12m0 : Method := { name := "<init>", desc := "()V", sig := { parameters := [], returnType := none }, accessFlags := 2, code := none }
/-- jdk/internal/util/ArraysSupport -/
def k12 : Class := { plain "jdk/internal/util/ArraysSupport" (some 0) with
  accessFlags := 33
  interfaces := #[]
  cf := some (fileOf pool12 21 #[] #[{ accessFlags := 2, nameIndex := 9, descriptorIndex := 19, attributes := #[] }] 33 16 #[] #[{ accessFlags := 24, nameIndex := 28, descriptorIndex := 29, attributes := #[] }, { accessFlags := 26, nameIndex := 38, descriptorIndex := 39, attributes := #[] }, { accessFlags := 25, nameIndex := 121, descriptorIndex := 25, attributes := #[] }, { accessFlags := 25, nameIndex := 131, descriptorIndex := 25, attributes := #[] }, { accessFlags := 25, nameIndex := 137, descriptorIndex := 25, attributes := #[] }, { accessFlags := 25, nameIndex := 143, descriptorIndex := 25, attributes := #[] }, { accessFlags := 25, nameIndex := 53, descriptorIndex := 25, attributes := #[] }, { accessFlags := 25, nameIndex := 24, descriptorIndex := 25, attributes := #[] }, { accessFlags := 25, nameIndex := 162, descriptorIndex := 25, attributes := #[] }, { accessFlags := 25, nameIndex := 187, descriptorIndex := 25, attributes := #[] }, { accessFlags := 26, nameIndex := 48, descriptorIndex := 25, attributes := #[] }, { accessFlags := 25, nameIndex := 277, descriptorIndex := 25, attributes := #[] }, { accessFlags := 25, nameIndex := 280, descriptorIndex := 25, attributes := #[] }, { accessFlags := 25, nameIndex := 282, descriptorIndex := 25, attributes := #[] }, { accessFlags := 25, nameIndex := 284, descriptorIndex := 25, attributes := #[] }, { accessFlags := 25, nameIndex := 286, descriptorIndex := 25, attributes := #[] }, { accessFlags := 25, nameIndex := 288, descriptorIndex := 25, attributes := #[] }, { accessFlags := 25, nameIndex := 290, descriptorIndex := 25, attributes := #[] }, { accessFlags := 25, nameIndex := 292, descriptorIndex := 25, attributes := #[] }, { accessFlags := 26, nameIndex := 108, descriptorIndex := 109, attributes := #[] }, { accessFlags := 25, nameIndex := 294, descriptorIndex := 25, attributes := #[] }])
  fields := #[{ name := "U", type := (.object "jdk/internal/misc/Unsafe"), accessFlags := 24, slot := 0, constantValue := 0 }, { name := "BIG_ENDIAN", type := .boolean, accessFlags := 26, slot := 1, constantValue := 0 }, { name := "LOG2_ARRAY_BOOLEAN_INDEX_SCALE", type := .int, accessFlags := 25, slot := 2, constantValue := 0 }, { name := "LOG2_ARRAY_BYTE_INDEX_SCALE", type := .int, accessFlags := 25, slot := 3, constantValue := 0 }, { name := "LOG2_ARRAY_CHAR_INDEX_SCALE", type := .int, accessFlags := 25, slot := 4, constantValue := 0 }, { name := "LOG2_ARRAY_SHORT_INDEX_SCALE", type := .int, accessFlags := 25, slot := 5, constantValue := 0 }, { name := "LOG2_ARRAY_INT_INDEX_SCALE", type := .int, accessFlags := 25, slot := 6, constantValue := 0 }, { name := "LOG2_ARRAY_LONG_INDEX_SCALE", type := .int, accessFlags := 25, slot := 7, constantValue := 0 }, { name := "LOG2_ARRAY_FLOAT_INDEX_SCALE", type := .int, accessFlags := 25, slot := 8, constantValue := 0 }, { name := "LOG2_ARRAY_DOUBLE_INDEX_SCALE", type := .int, accessFlags := 25, slot := 9, constantValue := 0 }, { name := "LOG2_BYTE_BIT_SIZE", type := .int, accessFlags := 26, slot := 10, constantValue := 0 }, { name := "T_BOOLEAN", type := .int, accessFlags := 25, slot := 11, constantValue := 0 }, { name := "T_CHAR", type := .int, accessFlags := 25, slot := 12, constantValue := 0 }, { name := "T_FLOAT", type := .int, accessFlags := 25, slot := 13, constantValue := 0 }, { name := "T_DOUBLE", type := .int, accessFlags := 25, slot := 14, constantValue := 0 }, { name := "T_BYTE", type := .int, accessFlags := 25, slot := 15, constantValue := 0 }, { name := "T_SHORT", type := .int, accessFlags := 25, slot := 16, constantValue := 0 }, { name := "T_INT", type := .int, accessFlags := 25, slot := 17, constantValue := 0 }, { name := "T_LONG", type := .int, accessFlags := 25, slot := 18, constantValue := 0 }, { name := "JLA", type := (.object "jdk/internal/access/JavaLangAccess"), accessFlags := 26, slot := 19, constantValue := 0 }, { name := "SOFT_MAX_ARRAY_LENGTH", type := .int, accessFlags := 25, slot := 20, constantValue := 0 }]
  methods := #[k12m0]
  instanceTypes := #[]
  staticTypes := #[(.object "jdk/internal/misc/Unsafe"), .boolean, .int, .int, .int, .int, .int, .int, .int, .int, .int, .int, .int, .int, .int, .int, .int, .int, .int, (.object "jdk/internal/access/JavaLangAccess"), .int]
  resolved := Array.replicate 378 none
  statics := none }

def pool13 : Array CpInfo := pool [(1, u "java/lang/Cloneable"), (0, .class_ 1), (0, u "java/lang/Object"), (0, .class_ 3)] 3

/-- java/lang/Cloneable -/
def k13 : Class := { plain "java/lang/Cloneable" (some 0) with
  accessFlags := 1537
  interfaces := #[]
  cf := some (fileOf pool13 2 #[] #[] 1537 4 #[] #[])
  fields := #[]
  methods := #[]
  instanceTypes := #[]
  staticTypes := #[]
  resolved := Array.replicate 8 none
  statics := none }

/-- the primitive byte -/
def k14 : Class := { plain "byte" none with kind := .primitive 'B', accessFlags := 0x411 }
/-- [B -/
def k15 : Class := { plain "[B" (some 0) with kind := .array 14 .byte, interfaces := #[13, 2], accessFlags := 1041 }

/-- the primitive char -/
def k16 : Class := { plain "char" none with kind := .primitive 'C', accessFlags := 0x411 }
/-- [C -/
def k17 : Class := { plain "[C" (some 0) with kind := .array 16 .char, interfaces := #[13, 2], accessFlags := 1041 }

/-- the primitive int -/
def k18 : Class := { plain "int" none with kind := .primitive 'I', accessFlags := 0x411 }
/-- [I -/
def k19 : Class := { plain "[I" (some 0) with kind := .array 18 .int, interfaces := #[13, 2], accessFlags := 1041 }

def heap : Heap := #[{ cls := 7, slots := #[.long 0, .int 1, .null, .int 0, .null, .int 0, .int 0], vm := .statics 7 },
  { cls := 11, slots := #[.null, .null, .null], vm := .statics 11 }]
def classes : Array Class := #[k0, k1, k2, k3, k4, k5, k6, k7, k8, k9, k10, k11, k12, k13, k14, k15, k16, k17, k18, k19]
def interned : List (Array UInt16 × Addr) := []
def slotsUsed : Nat := 10
def theMethod : MethodId := ⟨1, 1⟩
def args0 : Array Value := #[.int 2, .int 3, .int 4, .int 5, .int 6, .int 7]
def aboutOver (below : List Frame) : State where
  vm := { classes := classes, interned := interned.toArray }
  heap := heap
  slotsUsed := slotsUsed
  threads := #[{ frames := .invoking theMethod args0 :: below }]
def below0 : List Frame := [.native { method := ⟨0, 0⟩, args := #[] }]
def about1 : State := aboutOver below0
def p0 : Program := .bare "" "" ""
def e0 : Env := launch0.env 0 0 0
theorem w_frames : about1.frames = Frame.invoking theMethod args0 :: below0 := rfl
set_option maxRecDepth 65536 in
theorem w_args : argsFit about1.vm theMethod args0 = true := by decide +kernel
set_option maxRecDepth 65536 in
theorem w_heap : heapFits about1 = true := by decide +kernel
set_option maxRecDepth 65536 in
theorem w_runnable : about1.curStatus? = some .runnable := by decide +kernel
set_option maxRecDepth 65536 in
theorem w_alone : about1.alone = true := by decide +kernel
set_option maxRecDepth 65536 in
theorem w_named : about1.methodNamed? x = some theMethod := by decide +kernel
set_option maxRecDepth 65536 in
theorem w_hears : about1.hears theMethod below0 = true := by decide +kernel
set_option maxRecDepth 65536 in
theorem w_ripe : about1.ripe theMethod args0 below0 = true := by decide +kernel
theorem w_running : about1.status = .running := rfl
set_option maxRecDepth 65536 in
theorem w_room : about1.hasRoom e0.platform room_1 = true :=
  launch0.hasRoom_least _ room_1 (by decide +kernel) (by decide +kernel) (by decide +kernel) (by decide +kernel) (by decide +kernel) (by decide +kernel)
theorem allAtoms_all (ts : List Jvm.Cond) (a : Array Jvm.Value) (st : Jvm.State) : (allAtoms ts).before a st = ts.all (fun c => c.before a st) := by
  induction ts with
  | nil => rfl
  | cons c t ih =>
    show (Jvm.Cond.and c (allAtoms t)).before a st = _
    rw [Jvm.Cond.before_and, ih, List.all_cons]
def words1 : List Jvm.Cond := Jvm.Cond.code x code maxLocals ret :: tables_1
/-- a 'code' word, met by the world's own term for the bytes: nothing is compared byte by byte -/
theorem code_word {y : MethodName} {bytes : ByteArray} {mx : Nat} {rt : Option FieldType} {a : Array Value} {s : State} {m : MethodId} {meth : Method} {c : Code} (h1 : s.methodNamed? y = some m) (h2 : s.vm.method? m = some meth) (h3 : meth.code = some c) (h4 : c.code = bytes)
    (h5 : (c.maxLocals == mx && c.exceptionTable.isEmpty && decide (c.maxStack ≤ mostOperands) && decide (meth.sig.returnType = rt) && !meth.locks && decide (parseMethodDescriptor y.desc = some meth.sig)) = true) : (Jvm.Cond.code y bytes mx rt).before a s = true := by
  simp only [Bool.and_eq_true, beq_iff_eq, Bool.not_eq_true', decide_eq_true_eq] at h5
  obtain ⟨⟨⟨⟨⟨g1, g2⟩, g3⟩, g4⟩, g5⟩, g6⟩ := h5
  simp [Cond.before, Cond.holds, Cond.value, h1, h2, h3, h4, g1, g2, g3, g4, g5, g6]
def isCode : Jvm.Cond → Bool
  | .code _ _ _ _ => true
  | _ => false
theorem all_split {L : List Jvm.Cond} {P : Jvm.Cond → Bool} (h1 : L.all (fun c => isCode c || P c) = true) (h2 : ∀ c ∈ L.filter isCode, P c = true) : L.all P = true := by
  refine List.all_eq_true.mpr fun c hc => ?_
  have h := List.all_eq_true.mp h1 c hc
  rcases Bool.eq_false_or_eq_true (isCode c) with hi | hi
  · exact h2 c (List.mem_filter.mpr ⟨hc, hi⟩)
  · simpa [hi] using h
set_option maxRecDepth 65536 in
theorem w_c0 : (Jvm.Cond.code x code maxLocals ret).before args0 about1 = true := code_word (m := ⟨1, 1⟩) (meth := k1m1) (c := k1c1) (by decide +kernel) rfl rfl rfl (by decide +kernel)
set_option maxRecDepth 65536 in
theorem w_c1 : (Jvm.Cond.code ({ cls := "com/example/harburg/harburg/epc/FieldCharacterCountPinLaw", name := "draw", desc := "(I)C" } : Jvm.MethodName) method_3_code (1 : Nat) (Option.some Jvm.ClassFile.FieldType.char)).before args0 about1 = true := code_word (m := ⟨1, 2⟩) (meth := k1m2) (c := k1c2) (by decide +kernel) rfl rfl rfl (by decide +kernel)
set_option maxRecDepth 65536 in
theorem w_c2 : (Jvm.Cond.code ({ cls := "com/example/harburg/harburg/epc/FieldCharacterCountPinLaw", name := "make", desc := "(ICCCCC)Ljava/lang/String;" } : Jvm.MethodName) method_5_code (6 : Nat) (Option.some (Jvm.ClassFile.FieldType.object "java/lang/String"))).before args0 about1 = true := code_word (m := ⟨1, 4⟩) (meth := k1m4) (c := k1c4) (by decide +kernel) rfl rfl rfl (by decide +kernel)
set_option maxRecDepth 65536 in
theorem w_c3 : (Jvm.Cond.code ({ cls := "java/lang/String", name := "<init>", desc := "([C)V" } : Jvm.MethodName) jdk_42_method_3_code (2 : Nat) (Option.none : Option Jvm.ClassFile.FieldType)).before args0 about1 = true := code_word (m := ⟨7, 1⟩) (meth := k7m1) (c := k7c1) (by decide +kernel) rfl rfl rfl (by decide +kernel)
set_option maxRecDepth 65536 in
theorem w_c4 : (Jvm.Cond.code ({ cls := "java/lang/String", name := "<init>", desc := "([CIILjava/lang/Void;)V" } : Jvm.MethodName) jdk_42_method_149_code (6 : Nat) (Option.none : Option Jvm.ClassFile.FieldType)).before args0 about1 = true := code_word (m := ⟨7, 4⟩) (meth := k7m4) (c := k7c4) (by decide +kernel) rfl rfl rfl (by decide +kernel)
set_option maxRecDepth 65536 in
theorem w_c5 : (Jvm.Cond.code ({ cls := "java/lang/Object", name := "<init>", desc := "()V" } : Jvm.MethodName) object_method_1_code (1 : Nat) (Option.none : Option Jvm.ClassFile.FieldType)).before args0 about1 = true := code_word (m := ⟨0, 0⟩) (meth := k0m0) (c := k0c0) (by decide +kernel) rfl rfl rfl (by decide +kernel)
set_option maxRecDepth 65536 in
theorem w_c6 : (Jvm.Cond.code ({ cls := "com/example/harburg/harburg/epc/FieldCharacterCountPinLaw", name := "pct", desc := "(ZC)I" } : Jvm.MethodName) method_4_code (2 : Nat) (Option.some Jvm.ClassFile.FieldType.int)).before args0 about1 = true := code_word (m := ⟨1, 3⟩) (meth := k1m3) (c := k1c3) (by decide +kernel) rfl rfl rfl (by decide +kernel)
set_option maxRecDepth 65536 in
theorem w_c7 : (Jvm.Cond.code ({ cls := "com/example/harburg/harburg/epc/EpcScheme$Field", name := "characterCount", desc := "(Ljava/lang/String;)I" } : Jvm.MethodName) prog_14_method_16_code (3 : Nat) (Option.some Jvm.ClassFile.FieldType.int)).before args0 about1 = true := code_word (m := ⟨8, 0⟩) (meth := k8m0) (c := k8c0) (by decide +kernel) rfl rfl rfl (by decide +kernel)
set_option maxRecDepth 65536 in
theorem w_c8 : (Jvm.Cond.code ({ cls := "java/lang/String", name := "length", desc := "()I" } : Jvm.MethodName) jdk_42_method_54_code (1 : Nat) (Option.some Jvm.ClassFile.FieldType.int)).before args0 about1 = true := code_word (m := ⟨7, 2⟩) (meth := k7m2) (c := k7c2) (by decide +kernel) rfl rfl rfl (by decide +kernel)
set_option maxRecDepth 65536 in
theorem w_c9 : (Jvm.Cond.code ({ cls := "java/lang/String", name := "coder", desc := "()B" } : Jvm.MethodName) jdk_42_method_152_code (1 : Nat) (Option.some Jvm.ClassFile.FieldType.byte)).before args0 about1 = true := code_word (m := ⟨7, 5⟩) (meth := k7m5) (c := k7c5) (by decide +kernel) rfl rfl rfl (by decide +kernel)
set_option maxRecDepth 65536 in
theorem w_c10 : (Jvm.Cond.code ({ cls := "java/lang/StringUTF16", name := "compress", desc := "([CII)[B" } : Jvm.MethodName) jdk_52_method_16_code (6 : Nat) (Option.some (Jvm.ClassFile.FieldType.array Jvm.ClassFile.FieldType.byte))).before args0 about1 = true := code_word (m := ⟨9, 2⟩) (meth := k9m2) (c := k9c2) (by decide +kernel) rfl rfl rfl (by decide +kernel)
set_option maxRecDepth 65536 in
theorem w_c11 : (Jvm.Cond.code ({ cls := "java/lang/StringUTF16", name := "compress", desc := "([CI[BII)I" } : Jvm.MethodName) jdk_52_method_21_code (7 : Nat) (Option.some Jvm.ClassFile.FieldType.int)).before args0 about1 = true := code_word (m := ⟨9, 3⟩) (meth := k9m3) (c := k9c3) (by decide +kernel) rfl rfl rfl (by decide +kernel)
set_option maxRecDepth 65536 in
theorem w_c12 : (Jvm.Cond.code ({ cls := "java/lang/StringUTF16", name := "coderFromArrayLen", desc := "([BI)B" } : Jvm.MethodName) jdk_52_method_15_code (2 : Nat) (Option.some Jvm.ClassFile.FieldType.byte)).before args0 about1 = true := code_word (m := ⟨9, 1⟩) (meth := k9m1) (c := k9c1) (by decide +kernel) rfl rfl rfl (by decide +kernel)
set_option maxRecDepth 65536 in
theorem w_c13 : (Jvm.Cond.code ({ cls := "java/lang/String", name := "charAt", desc := "(I)C" } : Jvm.MethodName) jdk_42_method_56_code (2 : Nat) (Option.some Jvm.ClassFile.FieldType.char)).before args0 about1 = true := code_word (m := ⟨7, 3⟩) (meth := k7m3) (c := k7c3) (by decide +kernel) rfl rfl rfl (by decide +kernel)
set_option maxRecDepth 65536 in
theorem w_c14 : (Jvm.Cond.code ({ cls := "java/lang/String", name := "isLatin1", desc := "()Z" } : Jvm.MethodName) jdk_42_method_154_code (1 : Nat) (Option.some Jvm.ClassFile.FieldType.boolean)).before args0 about1 = true := code_word (m := ⟨7, 6⟩) (meth := k7m6) (c := k7c6) (by decide +kernel) rfl rfl rfl (by decide +kernel)
set_option maxRecDepth 65536 in
theorem w_c15 : (Jvm.Cond.code ({ cls := "java/lang/StringLatin1", name := "charAt", desc := "([BI)C" } : Jvm.MethodName) jdk_43_method_2_code (2 : Nat) (Option.some Jvm.ClassFile.FieldType.char)).before args0 about1 = true := code_word (m := ⟨10, 1⟩) (meth := k10m1) (c := k10c1) (by decide +kernel) rfl rfl rfl (by decide +kernel)
set_option maxRecDepth 65536 in
theorem w_c16 : (Jvm.Cond.code ({ cls := "java/lang/String", name := "checkIndex", desc := "(II)V" } : Jvm.MethodName) jdk_42_method_155_code (2 : Nat) (Option.none : Option Jvm.ClassFile.FieldType)).before args0 about1 = true := code_word (m := ⟨7, 7⟩) (meth := k7m7) (c := k7c7) (by decide +kernel) rfl rfl rfl (by decide +kernel)
set_option maxRecDepth 65536 in
theorem w_c17 : (Jvm.Cond.code ({ cls := "jdk/internal/util/Preconditions", name := "checkIndex", desc := "(IILjava/util/function/BiFunction;)I" } : Jvm.MethodName) jdk_41_method_11_code (3 : Nat) (Option.some Jvm.ClassFile.FieldType.int)).before args0 about1 = true := code_word (m := ⟨11, 1⟩) (meth := k11m1) (c := k11c1) (by decide +kernel) rfl rfl rfl (by decide +kernel)
def codes1 : List Jvm.Cond := [Jvm.Cond.code x code maxLocals ret, Jvm.Cond.code ({ cls := "com/example/harburg/harburg/epc/FieldCharacterCountPinLaw", name := "draw", desc := "(I)C" } : Jvm.MethodName) method_3_code (1 : Nat) (Option.some Jvm.ClassFile.FieldType.char), Jvm.Cond.code ({ cls := "com/example/harburg/harburg/epc/FieldCharacterCountPinLaw", name := "make", desc := "(ICCCCC)Ljava/lang/String;" } : Jvm.MethodName) method_5_code (6 : Nat) (Option.some (Jvm.ClassFile.FieldType.object "java/lang/String")), Jvm.Cond.code ({ cls := "java/lang/String", name := "<init>", desc := "([C)V" } : Jvm.MethodName) jdk_42_method_3_code (2 : Nat) (Option.none : Option Jvm.ClassFile.FieldType), Jvm.Cond.code ({ cls := "java/lang/String", name := "<init>", desc := "([CIILjava/lang/Void;)V" } : Jvm.MethodName) jdk_42_method_149_code (6 : Nat) (Option.none : Option Jvm.ClassFile.FieldType), Jvm.Cond.code ({ cls := "java/lang/Object", name := "<init>", desc := "()V" } : Jvm.MethodName) object_method_1_code (1 : Nat) (Option.none : Option Jvm.ClassFile.FieldType), Jvm.Cond.code ({ cls := "com/example/harburg/harburg/epc/FieldCharacterCountPinLaw", name := "pct", desc := "(ZC)I" } : Jvm.MethodName) method_4_code (2 : Nat) (Option.some Jvm.ClassFile.FieldType.int), Jvm.Cond.code ({ cls := "com/example/harburg/harburg/epc/EpcScheme$Field", name := "characterCount", desc := "(Ljava/lang/String;)I" } : Jvm.MethodName) prog_14_method_16_code (3 : Nat) (Option.some Jvm.ClassFile.FieldType.int), Jvm.Cond.code ({ cls := "java/lang/String", name := "length", desc := "()I" } : Jvm.MethodName) jdk_42_method_54_code (1 : Nat) (Option.some Jvm.ClassFile.FieldType.int), Jvm.Cond.code ({ cls := "java/lang/String", name := "coder", desc := "()B" } : Jvm.MethodName) jdk_42_method_152_code (1 : Nat) (Option.some Jvm.ClassFile.FieldType.byte), Jvm.Cond.code ({ cls := "java/lang/StringUTF16", name := "compress", desc := "([CII)[B" } : Jvm.MethodName) jdk_52_method_16_code (6 : Nat) (Option.some (Jvm.ClassFile.FieldType.array Jvm.ClassFile.FieldType.byte)), Jvm.Cond.code ({ cls := "java/lang/StringUTF16", name := "compress", desc := "([CI[BII)I" } : Jvm.MethodName) jdk_52_method_21_code (7 : Nat) (Option.some Jvm.ClassFile.FieldType.int), Jvm.Cond.code ({ cls := "java/lang/StringUTF16", name := "coderFromArrayLen", desc := "([BI)B" } : Jvm.MethodName) jdk_52_method_15_code (2 : Nat) (Option.some Jvm.ClassFile.FieldType.byte), Jvm.Cond.code ({ cls := "java/lang/String", name := "charAt", desc := "(I)C" } : Jvm.MethodName) jdk_42_method_56_code (2 : Nat) (Option.some Jvm.ClassFile.FieldType.char), Jvm.Cond.code ({ cls := "java/lang/String", name := "isLatin1", desc := "()Z" } : Jvm.MethodName) jdk_42_method_154_code (1 : Nat) (Option.some Jvm.ClassFile.FieldType.boolean), Jvm.Cond.code ({ cls := "java/lang/StringLatin1", name := "charAt", desc := "([BI)C" } : Jvm.MethodName) jdk_43_method_2_code (2 : Nat) (Option.some Jvm.ClassFile.FieldType.char), Jvm.Cond.code ({ cls := "java/lang/String", name := "checkIndex", desc := "(II)V" } : Jvm.MethodName) jdk_42_method_155_code (2 : Nat) (Option.none : Option Jvm.ClassFile.FieldType), Jvm.Cond.code ({ cls := "jdk/internal/util/Preconditions", name := "checkIndex", desc := "(IILjava/util/function/BiFunction;)I" } : Jvm.MethodName) jdk_41_method_11_code (3 : Nat) (Option.some Jvm.ClassFile.FieldType.int)]
set_option maxRecDepth 65536 in
theorem codes_eq : words1.filter isCode = codes1 := rfl
theorem w_codes : ∀ c ∈ words1.filter isCode, c.before args0 about1 = true := by
  rw [codes_eq]
  intro c hc
  simp only [codes1, List.mem_cons, List.not_mem_nil, or_false] at hc
  rcases hc with rfl | rfl | rfl | rfl | rfl | rfl | rfl | rfl | rfl | rfl | rfl | rfl | rfl | rfl | rfl | rfl | rfl | rfl
  · exact w_c0
  · exact w_c1
  · exact w_c2
  · exact w_c3
  · exact w_c4
  · exact w_c5
  · exact w_c6
  · exact w_c7
  · exact w_c8
  · exact w_c9
  · exact w_c10
  · exact w_c11
  · exact w_c12
  · exact w_c13
  · exact w_c14
  · exact w_c15
  · exact w_c16
  · exact w_c17
set_option maxRecDepth 65536 in
theorem w_t1 : (words1.take 24).all (fun c => isCode c || c.before args0 about1) = true := by decide +kernel
set_option maxRecDepth 65536 in
theorem w_t2 : ((words1.drop 24).take 24).all (fun c => isCode c || c.before args0 about1) = true := by decide +kernel
set_option maxRecDepth 65536 in
theorem w_t3 : (((words1.drop 24).drop 24).take 24).all (fun c => isCode c || c.before args0 about1) = true := by decide +kernel
set_option maxRecDepth 65536 in
theorem w_t4 : (((words1.drop 24).drop 24).drop 24).all (fun c => isCode c || c.before args0 about1) = true := by decide +kernel
theorem w_tables : (allAtoms (Jvm.Cond.code x code maxLocals ret :: tables_1)).before args0 about1 = true := by
  rw [allAtoms_all]
  show words1.all (fun c => c.before args0 about1) = true
  refine all_split ?_ w_codes
  rw [← List.take_append_drop 24 words1, List.all_append, w_t1, ← List.take_append_drop 24 (words1.drop 24), List.all_append, w_t2, ← List.take_append_drop 24 ((words1.drop 24).drop 24), List.all_append, w_t3, w_t4]
  rfl
set_option maxRecDepth 65536 in
theorem w_rest : rest_1_c.before args0 about1 = true := by decide +kernel
set_option maxRecDepth 65536 in
theorem w_case : (Jvm.Cond.and given_1 narrow_1).before args0 about1 = true := by decide +kernel
set_option maxRecDepth 65536 in
theorem w_consts : constsHeld consts_1 about1 := Jvm.Lit.constsHeldB_iff.mp (by decide +kernel)
theorem w_applies : (headSpec (Jvm.Cond.code x code maxLocals ret :: tables_1) room_1).applies x e0.platform about1 = true :=
  (Spec.applies_iff w_frames).mpr ⟨w_running, w_runnable, w_alone, w_named, w_hears, w_ripe, w_room, w_tables⟩
theorem atStart : AtStart classFile x code maxLocals ret World_1 tables_1 room_1 Calls_1 rest_1 Pre_1 launch0 p0 e0 about1 theMethod args0 below0 :=
  ⟨lists_1, trivial, launch0.admits_env _ _ _, launch0.least_env, fairChoices_fair.cas, fairChoices_fair.clock, w_frames, w_args, w_heap, w_applies, ⟨w_consts, trivial⟩, w_rest, w_case⟩
end start1
theorem witness_1 : WitnessClaimed_1 := ⟨start1.p0, start1.e0, start1.about1, start1.theMethod, start1.args0, start1.below0, start1.atStart⟩
end Jvm.Pilot.@@N@@
