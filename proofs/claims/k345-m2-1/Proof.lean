import JvmDerived
import JvmDerived.Pilot.@@N@@Statement
import JvmDerived.Pilot.@@N@@Code
set_option linter.unusedVariables false
set_option linter.unusedSimpArgs false
namespace Jvm.RoadKit
open Sem ClassFile Op Lib Jvm.Stand Jvm.Free Jvm.LawKit
section New
variable {p : Program} {l : Launch} {e : Env} {R : Room} {s : State} {m : MethodId} {args : Array Value} {below : List Frame} {meth : Method} {c : Code} {T : State} {locs : List Loc} {cells slots : Nat}
theorem retI (X : Stand p l e R s m args below meth c T locs cells slots) (hx : p.tables.exec = Jvm.exec) {pc : Nat} {Ls : Array Slot} {z : Int32} {rest : List Value} (hret : meth.sig.returnType = some .int) (hd : decode c.code pc = .ok (.ireturn, 1)) {fs : List Frame}
    (hl : ∀ (f : JFrame) (acts : List Action), f.method = m → f.locked = none → f.entered = [] → (doReturn e (T.setTop f) acts (some (.int z))).1 = T.setFrames fs) : Steps p.tables e below (T.setTop (mkF m pc Ls (.int z :: rest))) (T.setFrames fs) := by
  have hm' : T.vm.method? m = some meth := X.method'
  have hn : narrow .int (.int z) = .int z := rfl
  show Steps p.tables e below (T.setTop { method := m, pc := pc, locals := Ls, stack := _ :: rest, locked := none }) _
  jvm_step X.here [X.here.top, hx, hd, hm', hret, hn]
  first | (intro acts; rw [hl _ acts rfl rfl rfl]) | rw [hl _ _ rfl rfl rfl]
  exact Steps.refl _
end New
end Jvm.RoadKit
/- laws to paste: Road.backV (cut by pick.py; bodies as the Statement names them) -/
namespace Jvm.Pilot.@@N@@
namespace StrChars
open Jvm Sem ClassFile Op Lib Jvm.Stand Jvm.Free.XT Jvm.Free.ALB Jvm.Free.JM Jvm.Free
open Jvm.Lib.Cold (StaticIs)
/-- a char array whose places are chars -/
def Ch (a : Addr) (A : Cell) (U : State) : Prop := Arr .char a A U ∧ Typed .char A
theorem Ch.mv {a : Addr} {A : Cell} {U U' : State} (h : Ch a A U) (hal : U.vm.Alike U'.vm) (hh : U'.heap = U.heap) : Ch a A U' := ⟨h.1.mv hal hh, h.2⟩
theorem Ch.keep {a : Addr} {A : Cell} {U U' : State} (h : Ch a A U) (hal : U.vm.Alike U'.vm) (hk : U'.heap[a]? = some A) : Ch a A U' := ⟨h.1.keep hal hk, h.2⟩
/-- what place i of a char[]'s cell holds -/
def cv (A : Cell) (i : Nat) : Int32 := match A.slots[i]? with | some (.int x) => x | _ => 0
theorem Ch.get {a : Addr} {A : Cell} {U : State} (h : Ch a A U) {i : Nat} (hi : i < A.slots.size) : A.slots[i]? = some (.int (cv A i)) := by
  have e := Array.getElem?_eq_getElem hi
  have f := h.2 i _ e
  unfold cv; rw [e]
  generalize A.slots[i] = v at f
  cases v <;> simp [fits] at f ⊢
/-- the byte that i2b leaves of a char -/
def lo8 (x : Int32) : Int32 := x.toInt8.toInt32
theorem fits_lo8 (y : Int32) : fits .byte (.int (lo8 y)) = true := by
  have h1 := y.toInt8.le_toInt
  have h2 := y.toInt8.toInt_lt
  simp only [lo8, fits, Bool.and_eq_true, decide_eq_true_eq, Int32.le_iff_toInt_le, Int8.toInt_toInt32, show (-128 : Int32).toInt = -128 from by decide, show (127 : Int32).toInt = 127 from by decide]
  omega
/-- A' is A but that each place j of lo .. hi - 1 holds f j -/
def Laid (A A' : Cell) (lo hi : Nat) (f : Nat → Value) : Prop := A'.cls = A.cls ∧ A'.vm = A.vm ∧ A'.slots.size = A.slots.size ∧ ∀ i, A'.slots[i]? = if lo ≤ i ∧ i < hi then some (f i) else A.slots[i]?
theorem Laid.zero (A : Cell) (lo : Nat) (f : Nat → Value) : Laid A A lo (lo + 0) f := ⟨rfl, rfl, rfl, fun i => by rw [if_neg (by omega)]⟩
theorem Laid.step {A Ak : Cell} {lo k : Nat} {f : Nat → Value} {v : Value} (h : Laid A Ak lo k f) (hlo : lo ≤ k) (hk : k < Ak.slots.size) (hv : v = f k) : Laid A (Ak.setSlot k v) lo (k + 1) f := by
  refine ⟨h.1, h.2.1, by simpa [Cell.setSlot] using h.2.2.1, fun i => ?_⟩
  by_cases e : k = i
  · subst e; rw [Cell.slots_setSlot_self v hk, if_pos (by omega), hv]
  · rw [Cell.slots_setSlot_ne v e, h.2.2.2 i]
    by_cases q : lo ≤ i ∧ i < k
    · rw [if_pos q, if_pos (by omega)]
    · rw [if_neg q, if_neg (by omega)]
def U16 : String := "java/lang/StringUTF16"
namespace Cmp5
def yN : MethodName := ⟨"java/lang/StringUTF16", "compress", "([CI[BII)I"⟩
abbrev yB : ByteArray := jdk_52_method_21_code
theorem d0 : decode yB 0 = .ok (.iconst 0, 1) := by decide +kernel
theorem d1 : decode yB 1 = .ok (.istore 5, 2) := by decide +kernel
theorem d3 : decode yB 3 = .ok (.iload 5, 2) := by decide +kernel
theorem d5 : decode yB 5 = .ok (.iload 4, 2) := by decide +kernel
theorem d7 : decode yB 7 = .ok (.if_icmp (.ge) 37, 3) := by decide +kernel
theorem d10 : decode yB 10 = .ok (.aload_n 0, 1) := by decide +kernel
theorem d11 : decode yB 11 = .ok (.iload_n 1, 1) := by decide +kernel
theorem d12 : decode yB 12 = .ok (.caload, 1) := by decide +kernel
theorem d13 : decode yB 13 = .ok (.istore 6, 2) := by decide +kernel
theorem d15 : decode yB 15 = .ok (.iload 6, 2) := by decide +kernel
theorem d17 : decode yB 17 = .ok (.sipush 255, 3) := by decide +kernel
theorem d20 : decode yB 20 = .ok (.if_icmp (.le) 6, 3) := by decide +kernel
theorem d26 : decode yB 26 = .ok (.aload_n 2, 1) := by decide +kernel
theorem d27 : decode yB 27 = .ok (.iload_n 3, 1) := by decide +kernel
theorem d28 : decode yB 28 = .ok (.iload 6, 2) := by decide +kernel
theorem d30 : decode yB 30 = .ok (.i2b, 1) := by decide +kernel
theorem d31 : decode yB 31 = .ok (.bastore, 1) := by decide +kernel
theorem d32 : decode yB 32 = .ok (.iinc 1 1, 3) := by decide +kernel
theorem d35 : decode yB 35 = .ok (.iinc 3 1, 3) := by decide +kernel
theorem d38 : decode yB 38 = .ok (.iinc 5 1, 3) := by decide +kernel
theorem d41 : decode yB 41 = .ok (.goto (-38), 3) := by decide +kernel
theorem d44 : decode yB 44 = .ok (.iload 4, 2) := by decide +kernel
theorem d46 : decode yB 46 = .ok (.ireturn, 1) := by decide +kernel
def site : List Cond := []
def tab : Cond := tabOf yN yB 7 (some .int) site
def P (b : Addr) (A : Cell) (d : Addr) (B : Cell) (o q len : Nat) (args : Array Value) (s : State) : Prop := args = #[.ref b, .int (Int32.ofNat o), .ref d, .int (Int32.ofNat q), .int (Int32.ofNat len)] ∧ Ch b A s ∧ Arr .byte d B s ∧ b ≠ d ∧ o + len ≤ A.slots.size ∧ q + len ≤ B.slots.size ∧ ∀ i, i < len → ¬ 255 < cv A (o + i)
def E (b : Addr) (A : Cell) (d : Addr) (B : Cell) (o q len : Nat) (r : Option Value) (s u : State) : Prop := r = some (.int (Int32.ofNat len)) ∧ ∃ B', Put d B' s u ∧ Laid B B' q (q + len) (fun j => Value.int (lo8 (cv A (o + (j - q)))))
/-- no char of the range above 255: len; the places written hold each char's low byte -/
theorem law (l : Launch) (b : Addr) (A : Cell) (d : Addr) (B : Cell) (o q len : Nat) : Law l yN 5 5 0 0 yB 7 (some .int) site (P b A d B o q len) (E b A d B o q len) (copyLocs d q len) 0 0 := by
  refine Law.of_walk (plainFor_of_name (by decide +kernel)) (by decide +kernel) (by decide +kernel) (by decide) (fun _ _ h => by rw [h.1]; rfl) (fun _ U U' hal hh h => ⟨h.1, h.2.1.mv hal hh, h.2.2.1.mv hal hh, h.2.2.2⟩) (fun r U U' V V' h1 hal h2 h => ⟨h.1, h.2.elim fun B' q => ⟨B', q.1.mv h1 h2, q.2⟩⟩) ?_
  intro p e s m args below meth c s₁ X0 hexec hbytes hml hret hlk hnm hown hh0 W hP
  obtain ⟨rfl, hA, hB, hne, l1, l2, hp⟩ := hP
  have c1 : Steps p.tables e below (s₁.setTop (entryFrame m #[.ref b, .int (Int32.ofNat o), .ref d, .int (Int32.ofNat q), .int (Int32.ofNat len)] 7)) (s₁.setTop (mkF m 0 #[.val (.ref b), .val (.int (Int32.ofNat o)), .val (.ref d), .val (.int (Int32.ofNat q)), .val (.int (Int32.ofNat len)), .unset, .unset] [])) := entry rfl
  have hA0 := hA.1.mv X0.warmed.alike hh0
  have hB0 := hB.mv X0.warmed.alike hh0
  have a31 := hA.1.2.2.2
  have c2 : Steps p.tables e below (s₁.setTop (entryFrame m #[.ref b, .int (Int32.ofNat o), .ref d, .int (Int32.ofNat q), .int (Int32.ofNat len)] 7)) (s₁.setTop (mkF m 3 #[.val (.ref b), .val (.int (Int32.ofNat o)), .val (.ref d), .val (.int (Int32.ofNat q)), .val (.int (Int32.ofNat len)), .val (.int 0), .unset] [])) := c1.trans (by
    refine iconstV X0.here hexec rfl 0 (hb hbytes d0) (by decide) ?_
    refine XS.istore X0.here hexec rfl (hb hbytes d1) rfl rfl ?_
    exact Steps.refl _)
  have loop : ∀ (r i : Nat), i + r = len → ∀ (z : Slot), (z = .unset ∨ ∃ w, z = .val w ∧ w.category = 1) → ∀ (Tl : State) (Bk : Cell), Stand p l e { frames := 0, locals := 0, cells := 0, slots := 0 } s m #[.ref b, .int (Int32.ofNat o), .ref d, .int (Int32.ofNat q), .int (Int32.ofNat len)] below meth c Tl ([] ++ copyLocs d q i) 0 0 → Put d Bk s₁ Tl → Laid B Bk q (q + i) (fun j => Value.int (lo8 (cv A (o + (j - q))))) →
      Steps p.tables e below (s₁.setTop (entryFrame m #[.ref b, .int (Int32.ofNat o), .ref d, .int (Int32.ofNat q), .int (Int32.ofNat len)] 7)) (Tl.setTop (mkF m 3 #[.val (.ref b), .val (.int (Int32.ofNat (o + i))), .val (.ref d), .val (.int (Int32.ofNat (q + i))), .val (.int (Int32.ofNat len)), .val (.int (Int32.ofNat i)), z] [])) → ∃ (T' : State) (B' : Cell) (z' : Slot), Stand p l e { frames := 0, locals := 0, cells := 0, slots := 0 } s m #[.ref b, .int (Int32.ofNat o), .ref d, .int (Int32.ofNat q), .int (Int32.ofNat len)] below meth c T' ([] ++ copyLocs d q len) 0 0 ∧ Put d B' s₁ T' ∧ Laid B B' q (q + len) (fun j => Value.int (lo8 (cv A (o + (j - q))))) ∧
      Steps p.tables e below (s₁.setTop (entryFrame m #[.ref b, .int (Int32.ofNat o), .ref d, .int (Int32.ofNat q), .int (Int32.ofNat len)] 7)) (T'.setTop (mkF m 3 #[.val (.ref b), .val (.int (Int32.ofNat (o + len))), .val (.ref d), .val (.int (Int32.ofNat (q + len))), .val (.int (Int32.ofNat len)), .val (.int (Int32.ofNat len)), z'] [])) := by
    intro r
    induction r with
    | zero =>
      intro i hi z hz Tl Bk Xl pl fl cl
      have hil : i = len := by omega
      rw [hil] at Xl fl cl
      exact ⟨Tl, Bk, z, Xl, pl, fl, cl⟩
    | succ r ih =>
      intro i hi z hz Tl Bk Xl pl fl cl
      have all := X0.warmed.alike.symm.trans Xl.warmed.alike
      have hAl := hA0.keep all (pl.other hne hA0.1)
      have hBk := hB0.like all pl.1 fl.1 fl.2.1 fl.2.2.1
      have hlt : q + i < Bk.slots.size := by rw [fl.2.2.1]; omega
      have c3 : Steps p.tables e below (s₁.setTop (entryFrame m #[.ref b, .int (Int32.ofNat o), .ref d, .int (Int32.ofNat q), .int (Int32.ofNat len)] 7)) (Tl.setTop (mkF m 12 #[.val (.ref b), .val (.int (Int32.ofNat (o + i))), .val (.ref d), .val (.int (Int32.ofNat (q + i))), .val (.int (Int32.ofNat len)), .val (.int (Int32.ofNat i)), z] [.int (Int32.ofNat (o + i)), .ref b])) := cl.trans (by
        refine XS.iload Xl.here hexec rfl (hb hbytes d3) rfl ?_
        refine XS.iload Xl.here hexec rfl (hb hbytes d5) rfl ?_
        refine XS.icmpNo Xl.here hexec rfl (hb hbytes d7) rfl (ii_ge_f (lt32 (by omega) (by omega))) ?_
        refine XS.aloadN Xl.here hexec rfl (hb hbytes d10) rfl rfl ?_
        refine XS.iloadN Xl.here hexec rfl (hb hbytes d11) rfl ?_
        exact Steps.refl _)
      have c4 : Steps p.tables e below (s₁.setTop (entryFrame m #[.ref b, .int (Int32.ofNat o), .ref d, .int (Int32.ofNat q), .int (Int32.ofNat len)] 7)) (Tl.setTop (mkF m 13 #[.val (.ref b), .val (.int (Int32.ofNat (o + i))), .val (.ref d), .val (.int (Int32.ofNat (q + i))), .val (.int (Int32.ofNat len)), .val (.int (Int32.ofNat i)), z] [.int (cv A (o + i))])) := c3.trans (by
        refine Xl.aget hexec hAl rfl (hA.get (i := o + i) (by omega)) rfl rfl (hb hbytes d12) ?_
        exact Steps.refl _)
      have c5 : Steps p.tables e below (s₁.setTop (entryFrame m #[.ref b, .int (Int32.ofNat o), .ref d, .int (Int32.ofNat q), .int (Int32.ofNat len)] 7)) (Tl.setTop (mkF m 15 #[.val (.ref b), .val (.int (Int32.ofNat (o + i))), .val (.ref d), .val (.int (Int32.ofNat (q + i))), .val (.int (Int32.ofNat len)), .val (.int (Int32.ofNat i)), .val (.int (cv A (o + i)))] [])) := c4.trans (by
        refine XS.istoreS Xl.here hexec rfl (hb hbytes d13) rfl rfl hz ?_
        exact Steps.refl _)
      have c6 : Steps p.tables e below (s₁.setTop (entryFrame m #[.ref b, .int (Int32.ofNat o), .ref d, .int (Int32.ofNat q), .int (Int32.ofNat len)] 7)) (Tl.setTop (mkF m 31 #[.val (.ref b), .val (.int (Int32.ofNat (o + i))), .val (.ref d), .val (.int (Int32.ofNat (q + i))), .val (.int (Int32.ofNat len)), .val (.int (Int32.ofNat i)), .val (.int (cv A (o + i)))] [.int (lo8 (cv A (o + i))), .int (Int32.ofNat (q + i)), .ref d])) := c5.trans (by
        refine XS.iload Xl.here hexec rfl (hb hbytes d15) rfl ?_
        refine sipushV Xl.here hexec rfl 255 (hb hbytes d17) (by decide) ?_
        refine XS.icmpYes Xl.here hexec rfl (pc0 := 20) rfl (hb hbytes d20) rfl (ii_le_t (hp i (by omega))) (by decide) rfl ?_
        refine XS.aloadN Xl.here hexec rfl (hb hbytes d26) rfl rfl ?_
        refine XS.iloadN Xl.here hexec rfl (hb hbytes d27) rfl ?_
        refine XS.iload Xl.here hexec rfl (hb hbytes d28) rfl ?_
        refine i2b Xl.here hexec rfl (hb hbytes d30) rfl ?_
        exact Steps.refl _)
      obtain ⟨T7, X7, p7, st7⟩ := Xl.aput hexec hBk rfl hlt rfl (fits_lo8 (cv A (o + i))) (g := (mkF m 31 #[.val (.ref b), .val (.int (Int32.ofNat (o + i))), .val (.ref d), .val (.int (Int32.ofNat (q + i))), .val (.int (Int32.ofNat len)), .val (.int (Int32.ofNat i)), .val (.int (cv A (o + i)))] [.int (lo8 (cv A (o + i))), .int (Int32.ofNat (q + i)), .ref d])) rfl (rest := []) rfl (hb hbytes d31)
      have c8 : Steps p.tables e below (s₁.setTop (entryFrame m #[.ref b, .int (Int32.ofNat o), .ref d, .int (Int32.ofNat q), .int (Int32.ofNat len)] 7)) (T7.setTop (mkF m 32 #[.val (.ref b), .val (.int (Int32.ofNat (o + i))), .val (.ref d), .val (.int (Int32.ofNat (q + i))), .val (.int (Int32.ofNat len)), .val (.int (Int32.ofNat i)), .val (.int (cv A (o + i)))] [])) := c6.trans (st7 _ (Steps.refl _))
      have c9 : Steps p.tables e below (s₁.setTop (entryFrame m #[.ref b, .int (Int32.ofNat o), .ref d, .int (Int32.ofNat q), .int (Int32.ofNat len)] 7)) (T7.setTop (mkF m 3 #[.val (.ref b), .val (.int (Int32.ofNat (o + i) + 1)), .val (.ref d), .val (.int (Int32.ofNat (q + i) + 1)), .val (.int (Int32.ofNat len)), .val (.int (Int32.ofNat i + 1)), .val (.int (cv A (o + i)))] [])) := c8.trans (by
        refine iincV X7.here hexec rfl 1 (hb hbytes d32) (by decide) rfl rfl ?_
        refine iincV X7.here hexec rfl 1 (hb hbytes d35) (by decide) rfl rfl ?_
        refine iincV X7.here hexec rfl 1 (hb hbytes d38) (by decide) rfl rfl ?_
        refine XS.goto X7.here hexec rfl (pc0 := 41) rfl (hb hbytes d41) (by decide) rfl ?_
        exact Steps.refl _)
      have c10 : Steps p.tables e below (s₁.setTop (entryFrame m #[.ref b, .int (Int32.ofNat o), .ref d, .int (Int32.ofNat q), .int (Int32.ofNat len)] 7)) (T7.setTop (mkF m 3 #[.val (.ref b), .val (.int (Int32.ofNat (o + (i + 1)))), .val (.ref d), .val (.int (Int32.ofNat (q + (i + 1)))), .val (.int (Int32.ofNat len)), .val (.int (Int32.ofNat (i + 1))), .val (.int (cv A (o + i)))] [])) := by
        have := c9
        rw [succ32, succ32, succ32] at this
        exact this
      exact ih (i + 1) (by omega) _ (Or.inr ⟨_, rfl, rfl⟩) T7 _ (by rw [copyLocs_step, ← List.append_assoc]; exact X7) (pl.trans p7) (fl.step (by omega) hlt (by simp)) c10
  obtain ⟨T9, B9, z9, X9, p9, f9, g9⟩ := loop len 0 (by omega) .unset (Or.inl rfl) s₁ B (by simpa [copyLocs] using X0) ⟨hB0.1, fun _ _ => rfl, rfl⟩ (Laid.zero _ _ _) c2
  have c11 : Steps p.tables e below (s₁.setTop (entryFrame m #[.ref b, .int (Int32.ofNat o), .ref d, .int (Int32.ofNat q), .int (Int32.ofNat len)] 7)) (T9.setTop (mkF m 46 #[.val (.ref b), .val (.int (Int32.ofNat (o + len))), .val (.ref d), .val (.int (Int32.ofNat (q + len))), .val (.int (Int32.ofNat len)), .val (.int (Int32.ofNat len)), z9] [.int (Int32.ofNat len)])) := g9.trans (by
    refine XS.iload X9.here hexec rfl (hb hbytes d3) rfl ?_
    refine XS.iload X9.here hexec rfl (hb hbytes d5) rfl ?_
    refine XS.icmpYes X9.here hexec rfl (pc0 := 7) rfl (hb hbytes d7) rfl (ii_ge_t (nlt32 (by omega) (Nat.le_refl _))) (by decide) rfl ?_
    refine XS.iload X9.here hexec rfl (hb hbytes d44) rfl ?_
    exact Steps.refl _)
  exact ⟨T9, some (.int (Int32.ofNat len)), _, _, _, X9, by simp, rfl, rfl, (fun h => by cases h), ⟨rfl, B9, p9.from hh0, f9⟩, fun fs hl => c11.trans (X9.ireturnOut hexec hret rfl (Or.inl rfl) (hb hbytes d46) hl)⟩
end Cmp5
namespace Cmp3
def yN : MethodName := ⟨"java/lang/StringUTF16", "compress", "([CII)[B"⟩
abbrev yB : ByteArray := jdk_52_method_16_code
theorem d0 : decode yB 0 = .ok (.iload_n 2, 1) := by decide +kernel
theorem d1 : decode yB 1 = .ok (.newarray .byte, 2) := by decide +kernel
theorem d3 : decode yB 3 = .ok (.astore_n 3, 1) := by decide +kernel
theorem d4 : decode yB 4 = .ok (.aload_n 0, 1) := by decide +kernel
theorem d5 : decode yB 5 = .ok (.iload_n 1, 1) := by decide +kernel
theorem d6 : decode yB 6 = .ok (.aload_n 3, 1) := by decide +kernel
theorem d7 : decode yB 7 = .ok (.iconst 0, 1) := by decide +kernel
theorem d8 : decode yB 8 = .ok (.iload_n 2, 1) := by decide +kernel
theorem d9 : decode yB 9 = .ok (.invokestatic 115, 3) := by decide +kernel
theorem d12 : decode yB 12 = .ok (.istore 4, 2) := by decide +kernel
theorem d14 : decode yB 14 = .ok (.iload 4, 2) := by decide +kernel
theorem d16 : decode yB 16 = .ok (.iload_n 2, 1) := by decide +kernel
theorem d17 : decode yB 17 = .ok (.if_icmp (.eq) 40, 3) := by decide +kernel
theorem d57 : decode yB 57 = .ok (.aload_n 3, 1) := by decide +kernel
theorem d58 : decode yB 58 = .ok (.areturn, 1) := by decide +kernel
def site : List Cond := [.arrayClass .byte, Cmp5.tab] ++ staticW U16 115 Cmp5.yN
def tab : Cond := tabOf yN yB 6 (some (.array .byte)) site
def P (b : Addr) (A : Cell) (o len : Nat) (args : Array Value) (s : State) : Prop := args = #[.ref b, .int (Int32.ofNat o), .int (Int32.ofNat len)] ∧ Ch b A s ∧ o + len ≤ A.slots.size ∧ len ≤ 536870912 ∧ ∀ i, i < len → ¬ 255 < cv A (o + i)
def E (b : Addr) (A : Cell) (o len : Nat) (r : Option Value) (s u : State) : Prop := NewArr .byte "[B" len (fun j => .int (lo8 (cv A (o + j)))) r s u ∧ u.heap.size = s.heap.size + 1
/-- no char of the range above 255: a new byte[] of their low bytes -/
theorem law (l : Launch) (b : Addr) (A : Cell) (o len : Nat) : Law l yN 3 3 1 18 yB 6 (some (.array .byte)) site (P b A o len) (E b A o len) [] 1 len := by
  refine Law.of_walk (plainFor_of_name (by decide +kernel)) (by decide +kernel) (by decide +kernel) (by decide) (fun _ _ h => by rw [h.1]; rfl) (fun _ U U' hal hh h => ⟨h.1, h.2.1.mv hal hh, h.2.2⟩) (fun r U U' V V' h1 hal h2 h => ⟨NewArr.mv r U U' V V' h1 hal h2 h.1, by rw [h1, h2]; exact h.2⟩) ?_
  intro p e s m args below meth c s₁ X0 hexec hbytes hml hret hlk hnm hown hh0 W hP
  obtain ⟨rfl, hA, l1, l2, hp⟩ := hP
  have a31 := hA.1.2.2.2
  have c1 : Steps p.tables e below (s₁.setTop (entryFrame m #[.ref b, .int (Int32.ofNat o), .int (Int32.ofNat len)] 6)) (s₁.setTop (mkF m 0 #[.val (.ref b), .val (.int (Int32.ofNat o)), .val (.int (Int32.ofNat len)), .unset, .unset, .unset] [])) := entry rfl
  have c2 : Steps p.tables e below (s₁.setTop (entryFrame m #[.ref b, .int (Int32.ofNat o), .int (Int32.ofNat len)] 6)) (s₁.setTop (mkF m 1 #[.val (.ref b), .val (.int (Int32.ofNat o)), .val (.int (Int32.ofNat len)), .unset, .unset, .unset] [.int (Int32.ofNat len)])) := c1.trans (by
    refine XS.iloadN X0.here hexec rfl (hb hbytes d0) rfl ?_
    exact Steps.refl _)
  obtain ⟨T3, B3, X3, ba3, bs3, bv3, bh3, bf3, st3⟩ := X0.anew hexec (atype := .byte) (wk W (.arrayClass .byte)) rfl (by show len * 1 ≤ _; omega) (by omega) (g := (mkF m 1 #[.val (.ref b), .val (.int (Int32.ofNat o)), .val (.int (Int32.ofNat len)), .unset, .unset, .unset] [.int (Int32.ofNat len)])) rfl (hb hbytes d1) (rest := []) rfl (Nat.le_refl _) (by show 0 + len ≤ len; omega)
  rw [hh0] at ba3 st3
  have kp3 : XT.Kept s T3 := (XT.Kept.of_eq hh0).push bh3
  have hA3 := hA.keep X3.warmed.alike (kp3 _ _ hA.1.1)
  have hne : b ≠ s.heap.size := hA.1.ne
  have c4 : Steps p.tables e below (s₁.setTop (entryFrame m #[.ref b, .int (Int32.ofNat o), .int (Int32.ofNat len)] 6)) (T3.setTop (mkF m 3 #[.val (.ref b), .val (.int (Int32.ofNat o)), .val (.int (Int32.ofNat len)), .unset, .unset, .unset] [.ref s.heap.size])) := c2.trans (st3 _ (Steps.refl _))
  have c5 : Steps p.tables e below (s₁.setTop (entryFrame m #[.ref b, .int (Int32.ofNat o), .int (Int32.ofNat len)] 6)) (T3.setTop (mkF m 9 #[.val (.ref b), .val (.int (Int32.ofNat o)), .val (.int (Int32.ofNat len)), .val (.ref s.heap.size), .unset, .unset] [.int (Int32.ofNat len), .int 0, .ref s.heap.size, .int (Int32.ofNat o), .ref b])) := c4.trans (by
    refine XS.astoreN X3.here hexec rfl (hb hbytes d3) rfl rfl rfl ?_
    refine XS.aloadN X3.here hexec rfl (hb hbytes d4) rfl rfl ?_
    refine XS.iloadN X3.here hexec rfl (hb hbytes d5) rfl ?_
    refine XS.aloadN X3.here hexec rfl (hb hbytes d6) rfl rfl ?_
    refine iconstV X3.here hexec rfl 0 (hb hbytes d7) (by decide) ?_
    refine XS.iloadN X3.here hexec rfl (hb hbytes d8) rfl ?_
    exact Steps.refl _)
  obtain ⟨v6, T6, X6, E6, g6⟩ := X3.callS hexec (Cmp5.law l b A s.heap.size B3 o 0 len) hown (wks W (staticW U16 115 Cmp5.yN)) (wk W Cmp5.tab) (W := 0) (Nat.le_of_ble_eq_true rfl) (Nat.le_of_ble_eq_true rfl) (Nat.le_refl _) (by show 0 + len + 0 ≤ len; omega) (g := (mkF m 9 #[.val (.ref b), .val (.int (Int32.ofNat o)), .val (.int (Int32.ofNat len)), .val (.ref s.heap.size), .unset, .unset] [.int (Int32.ofNat len), .int (Int32.ofNat 0), .ref s.heap.size, .int (Int32.ofNat o), .ref b])) rfl (by rw [hml]; rfl) c5 (argsL := [.ref b, .int (Int32.ofNat o), .ref s.heap.size, .int (Int32.ofNat 0), .int (Int32.ofNat len)]) (rest := []) rfl rfl (by show 2 * 0 + 0 ≤ _; decide) (hb hbytes d9) (⟨rfl, hA3, ba3, hne, l1, by rw [bs3]; simp, hp⟩)
  obtain ⟨rfl, B6, p6, f6⟩ := E6
  have c7 : Steps p.tables e below (s₁.setTop (entryFrame m #[.ref b, .int (Int32.ofNat o), .int (Int32.ofNat len)] 6)) (T6.setTop (mkF m 12 #[.val (.ref b), .val (.int (Int32.ofNat o)), .val (.int (Int32.ofNat len)), .val (.ref s.heap.size), .unset, .unset] [.int (Int32.ofNat len)])) := g6
  have c8 : Steps p.tables e below (s₁.setTop (entryFrame m #[.ref b, .int (Int32.ofNat o), .int (Int32.ofNat len)] 6)) (T6.setTop (mkF m 58 #[.val (.ref b), .val (.int (Int32.ofNat o)), .val (.int (Int32.ofNat len)), .val (.ref s.heap.size), .val (.int (Int32.ofNat len)), .unset] [.ref s.heap.size])) := c7.trans (by
    refine XS.istore X6.here hexec rfl (hb hbytes d12) rfl rfl ?_
    refine XS.iload X6.here hexec rfl (hb hbytes d14) rfl ?_
    refine XS.iloadN X6.here hexec rfl (hb hbytes d16) rfl ?_
    refine XS.icmpYes X6.here hexec rfl (pc0 := 17) rfl (hb hbytes d17) rfl (ii_eq_t rfl) (by decide) rfl ?_
    refine XS.aloadN X6.here hexec rfl (hb hbytes d57) rfl rfl ?_
    exact Steps.refl _)
  have X8 := X6.wide (L' := []) (cells' := 1) (slots' := len) (fun x hx hlt => by
    simp only [List.nil_append, copyLocs, List.mem_map, List.mem_range] at hx
    obtain ⟨i, -, rfl⟩ := hx
    exact absurd hlt (Nat.lt_irrefl _)) (Nat.le_refl _) (by omega)
  exact ⟨T6, some (.ref s.heap.size), _, _, _, X8, rfl, rfl, rfl, (fun h => by cases h), ⟨⟨rfl, B6, ba3.like (X3.warmed.alike.symm.trans X6.warmed.alike) p6.1 f6.1 f6.2.1 f6.2.2.1, f6.2.1.trans bv3, by rw [X6.warmed.alike.findClass, f6.1]; exact bf3, by rw [f6.2.2.1, bs3]; simp, fun j hj => by rw [f6.2.2.2 j, if_pos (by omega)]; rfl, kp3.put p6 (Nat.le_refl _)⟩, by rw [p6.2.2, bh3, hh0]; simp⟩, fun fs hl => c8.trans (X8.areturnOut hexec rfl hret rfl (hb hbytes d58) hl)⟩
end Cmp3
namespace CodL
def yN : MethodName := ⟨"java/lang/StringUTF16", "coderFromArrayLen", "([BI)B"⟩
abbrev yB : ByteArray := jdk_52_method_15_code
theorem d0 : decode yB 0 = .ok (.iload_n 1, 1) := by decide +kernel
theorem d1 : decode yB 1 = .ok (.aload_n 0, 1) := by decide +kernel
theorem d2 : decode yB 2 = .ok (.arraylength, 1) := by decide +kernel
theorem d3 : decode yB 3 = .ok (.isub, 1) := by decide +kernel
theorem d4 : decode yB 4 = .ok (.bipush 31, 2) := by decide +kernel
theorem d6 : decode yB 6 = .ok (.iushr, 1) := by decide +kernel
theorem d7 : decode yB 7 = .ok (.i2b, 1) := by decide +kernel
theorem d8 : decode yB 8 = .ok (.ireturn, 1) := by decide +kernel
def site : List Cond := []
def tab : Cond := tabOf yN yB 2 (some .byte) site
def P (d : Addr) (B : Cell) (args : Array Value) (s : State) : Prop := args = #[.ref d, .int (Int32.ofNat B.slots.size)] ∧ Arr .byte d B s
def E (r : Option Value) (s u : State) : Prop := XT.PureE (some (.int 0)) r s u
/-- an array as long as the number of chars: LATIN1 -/
theorem law (l : Launch) (d : Addr) (B : Cell) : Law l yN 2 2 0 0 yB 2 (some .byte) site (P d B) E [] 0 0 := by
  refine Law.of_walk (plainFor_of_name (by decide +kernel)) (by decide +kernel) (by decide +kernel) (by decide) (fun _ _ h => by rw [h.1]; rfl) (fun _ U U' hal hh h => ⟨h.1, h.2.mv hal hh⟩) (fun r U U' V V' h1 hal h2 h => XT.PureE.mv r U U' V V' h1 hal h2 h) ?_
  intro p e s m args below meth c s₁ X0 hexec hbytes hml hret hlk hnm hown hh0 W hP
  obtain ⟨rfl, hB⟩ := hP
  have hB0 := hB.mv X0.warmed.alike hh0
  have c1 : Steps p.tables e below (s₁.setTop (entryFrame m #[.ref d, .int (Int32.ofNat B.slots.size)] 2)) (s₁.setTop (mkF m 0 #[.val (.ref d), .val (.int (Int32.ofNat B.slots.size))] [])) := entry rfl
  have c2 : Steps p.tables e below (s₁.setTop (entryFrame m #[.ref d, .int (Int32.ofNat B.slots.size)] 2)) (s₁.setTop (mkF m 2 #[.val (.ref d), .val (.int (Int32.ofNat B.slots.size))] [.ref d, .int (Int32.ofNat B.slots.size)])) := c1.trans (by
    refine XS.iloadN X0.here hexec rfl (hb hbytes d0) rfl ?_
    refine XS.aloadN X0.here hexec rfl (hb hbytes d1) rfl rfl ?_
    exact Steps.refl _)
  have c3 : Steps p.tables e below (s₁.setTop (entryFrame m #[.ref d, .int (Int32.ofNat B.slots.size)] 2)) (s₁.setTop (mkF m 8 #[.val (.ref d), .val (.int (Int32.ofNat B.slots.size))] [.int (lo8 (ushr (Int32.ofNat B.slots.size - Int32.ofNat B.slots.size) 31))])) := c2.trans (by
    refine X0.alen hexec hB0 rfl rfl (hb hbytes d2) ?_
    refine XS.isub X0.here hexec rfl (hb hbytes d3) rfl ?_
    refine bipushV X0.here hexec rfl 31 (hb hbytes d4) (by decide) ?_
    refine iushr X0.here hexec rfl (hb hbytes d6) rfl ?_
    refine i2b X0.here hexec rfl (hb hbytes d7) rfl ?_
    exact Steps.refl _)
  have e0 : lo8 (ushr (Int32.ofNat B.slots.size - Int32.ofNat B.slots.size) 31) = 0 := by rw [Int32.sub_self]; decide
  rw [e0] at c3
  exact ⟨s₁, some (.int 0), _, _, _, X0, rfl, rfl, rfl, (fun h => by cases h), ⟨rfl, hh0⟩, fun fs hl => c3.trans (X0.ireturnOut hexec hret rfl (Or.inr (Or.inr (Or.inl rfl))) (hb hbytes d8) hl)⟩
end CodL
/-- the String at a is Latin-1 over a new byte[] (the heap's one new cell): the low bytes of the len chars of A from o on; every cell but a is kept -/
def Got (a : Addr) (D : Cell) (fV fC : Field) (A : Cell) (o len : Nat) (r : Option Value) (s u : State) : Prop := r = none ∧ ∃ D' V : Cell, Blank "java/lang/String" a D' u ∧ Same D D' [fV.slot, fC.slot] ∧ D'.slots[fV.slot]? = some (.ref s.heap.size) ∧ D'.slots[fC.slot]? = some (.int 0) ∧ Arr .byte s.heap.size V u ∧ V.vm = .none ∧ u.vm.findClass "[B" = some V.cls ∧ V.slots.size = len ∧ (∀ j, j < len → V.slots[j]? = some (.int (lo8 (cv A (o + j))))) ∧ (∀ (y : Addr) (c : Cell), y ≠ a → s.heap[y]? = some c → u.heap[y]? = some c) ∧ u.heap.size = s.heap.size + 1
theorem Got.mv {a : Addr} {D A : Cell} {fV fC : Field} {o len : Nat} : ∀ r (U U' V V' : State), U'.heap = U.heap → V.vm.Alike V'.vm → V'.heap = V.heap → Got a D fV fC A o len r U V → Got a D fV fC A o len r U' V' :=
  fun r U U' V V' h1 hal h2 ⟨e0, D', X, a1, a2, a3, a4, a5, a6, a7, a8, a9, a10, a11⟩ => ⟨e0, D', X, a1.mv hal h2, a2, by rw [h1]; exact a3, a4, by rw [h1]; exact a5.mv hal h2, a6, by rw [hal.findClass]; exact a7, a8, a9, by rw [h1, h2]; exact a10, by rw [h1, h2]; exact a11⟩
namespace New4
def yN : MethodName := ⟨"java/lang/String", "<init>", "([CIILjava/lang/Void;)V"⟩
abbrev yB : ByteArray := jdk_42_method_149_code
theorem d0 : decode yB 0 = .ok (.aload_n 0, 1) := by decide +kernel
theorem d1 : decode yB 1 = .ok (.invokespecial 1, 3) := by decide +kernel
theorem d4 : decode yB 4 = .ok (.iload_n 3, 1) := by decide +kernel
theorem d5 : decode yB 5 = .ok (.ifCond (.ne) 22, 3) := by decide +kernel
theorem d27 : decode yB 27 = .ok (.getstatic 38, 3) := by decide +kernel
theorem d30 : decode yB 30 = .ok (.ifCond (.eq) 28, 3) := by decide +kernel
theorem d33 : decode yB 33 = .ok (.aload_n 1, 1) := by decide +kernel
theorem d34 : decode yB 34 = .ok (.iload_n 2, 1) := by decide +kernel
theorem d35 : decode yB 35 = .ok (.iload_n 3, 1) := by decide +kernel
theorem d36 : decode yB 36 = .ok (.invokestatic 177, 3) := by decide +kernel
theorem d39 : decode yB 39 = .ok (.astore 5, 2) := by decide +kernel
theorem d41 : decode yB 41 = .ok (.aload_n 0, 1) := by decide +kernel
theorem d42 : decode yB 42 = .ok (.aload 5, 2) := by decide +kernel
theorem d44 : decode yB 44 = .ok (.iload_n 3, 1) := by decide +kernel
theorem d45 : decode yB 45 = .ok (.invokestatic 47, 3) := by decide +kernel
theorem d48 : decode yB 48 = .ok (.putfield 15, 3) := by decide +kernel
theorem d51 : decode yB 51 = .ok (.aload_n 0, 1) := by decide +kernel
theorem d52 : decode yB 52 = .ok (.aload 5, 2) := by decide +kernel
theorem d54 : decode yB 54 = .ok (.putfield 9, 3) := by decide +kernel
theorem d57 : decode yB 57 = .ok (.return_, 1) := by decide +kernel
def site : List Cond := [.fieldLink "java/lang/String" 38 "java/lang/String" "COMPACT_STRINGS" "Z", Cmp3.tab, CodL.tab, .laysFinal "java/lang/String" "java/lang/String" "value" "[B", .fieldLink "java/lang/String" 9 "java/lang/String" "value" "[B", .laysFinal "java/lang/String" "java/lang/String" "coder" "B", .fieldLink "java/lang/String" 15 "java/lang/String" "coder" "B"] ++ objW "java/lang/String" 1 ++ staticW "java/lang/String" 177 Cmp3.yN ++ staticW "java/lang/String" 47 CodL.yN
def tab : Cond := tabOf yN yB 6 none site
def P (a : Addr) (D : Cell) (fV fC : Field) (b : Addr) (A : Cell) (z : Int32) (o len : Nat) (args : Array Value) (s : State) : Prop := args = #[.ref a, .ref b, .int (Int32.ofNat o), .int (Int32.ofNat len), .null] ∧ Blank "java/lang/String" a D s ∧ Found "java/lang/String" "value" "[B" fV s ∧ Found "java/lang/String" "coder" "B" fC s ∧ Ch b A s ∧ StaticIs s "java/lang/String" "COMPACT_STRINGS" "Z" (.int z) ∧ ¬ z = 0 ∧ 0 < len ∧ o + len ≤ A.slots.size ∧ len ≤ 536870912 ∧ ∀ i, i < len → ¬ 255 < cv A (o + i)
def E (a : Addr) (D : Cell) (fV fC : Field) (A : Cell) (o len : Nat) (r : Option Value) (s u : State) : Prop := Got a D fV fC A o len r s u
/-- len > 0, no char of the range above 255: a Latin-1 String of their low bytes -/
theorem law (l : Launch) (a : Addr) (D : Cell) (fV fC : Field) (b : Addr) (A : Cell) (z : Int32) (o len : Nat) : Law l yN 5 4 2 35 yB 6 none site (P a D fV fC b A z o len) (E a D fV fC A o len) [⟨a, fC.slot⟩, ⟨a, fV.slot⟩] 1 len := by
  refine Law.of_walk (plainFor_of_name (by decide +kernel)) (by decide +kernel) (by decide +kernel) (by decide) (fun _ _ h => by rw [h.1]; rfl) (fun _ U U' hal hh h => ⟨h.1, h.2.1.mv hal hh, h.2.2.1.al hal, h.2.2.2.1.al hal, h.2.2.2.2.1.mv hal hh, h.2.2.2.2.2.1.there hal hh, h.2.2.2.2.2.2⟩) (fun r U U' V V' h1 hal h2 h => Got.mv r U U' V V' h1 hal h2 h) ?_
  intro p e s m args below meth c s₁ X0 hexec hbytes hml hret hlk hnm hown hh0 W hP
  obtain ⟨rfl, hB, f1, f2, hA, s1, hz, l0, l1, l2, hp⟩ := hP
  have a31 := hA.1.2.2.2
  have c1 : Steps p.tables e below (s₁.setTop (entryFrame m #[.ref a, .ref b, .int (Int32.ofNat o), .int (Int32.ofNat len), .null] 6)) (s₁.setTop (mkF m 0 #[.val (.ref a), .val (.ref b), .val (.int (Int32.ofNat o)), .val (.int (Int32.ofNat len)), .val .null, .unset] [])) := entry rfl
  have c2 : Steps p.tables e below (s₁.setTop (entryFrame m #[.ref a, .ref b, .int (Int32.ofNat o), .int (Int32.ofNat len), .null] 6)) (s₁.setTop (mkF m 1 #[.val (.ref a), .val (.ref b), .val (.int (Int32.ofNat o)), .val (.int (Int32.ofNat len)), .val .null, .unset] [.ref a])) := c1.trans (by
    refine XS.aloadN X0.here hexec rfl (hb hbytes d0) rfl rfl ?_
    exact Steps.refl _)
  obtain ⟨T3, X3, q3, st3⟩ := X0.oinit hexec hown (wks W (objW "java/lang/String" 1)) (g := (mkF m 1 #[.val (.ref a), .val (.ref b), .val (.int (Int32.ofNat o)), .val (.int (Int32.ofNat len)), .val .null, .unset] [.ref a])) rfl (by rw [hml]; rfl) (rest := []) rfl (hb hbytes d1) (W := 0) (by show 2 * 0 + 0 ≤ _; decide) (Nat.le_of_ble_eq_true rfl) (Nat.le_of_ble_eq_true rfl)
  have hh3 := q3.trans hh0
  have c4 : Steps p.tables e below (s₁.setTop (entryFrame m #[.ref a, .ref b, .int (Int32.ofNat o), .int (Int32.ofNat len), .null] 6)) (T3.setTop (mkF m 27 #[.val (.ref a), .val (.ref b), .val (.int (Int32.ofNat o)), .val (.int (Int32.ofNat len)), .val .null, .unset] [])) := (c2.trans (st3 _ (Steps.refl _))).trans (by
    refine XS.iloadN X3.here hexec rfl (hb hbytes d4) rfl ?_
    refine XS.ifYes X3.here hexec rfl (pc0 := 5) rfl (hb hbytes d5) rfl (i0_ne_t (nz32 (by omega) l0)) (by decide) rfl ?_
    exact Steps.refl _)
  obtain ⟨T5, X5, q5, st5⟩ := X3.sget hexec hown (wk W (.fieldLink "java/lang/String" 38 "java/lang/String" "COMPACT_STRINGS" "Z")) s1 (fun _ _ h => by rw [hh3]; exact h) (g := (mkF m 27 #[.val (.ref a), .val (.ref b), .val (.int (Int32.ofNat o)), .val (.int (Int32.ofNat len)), .val .null, .unset] [])) rfl (hb hbytes d27)
  have hh5 := q5.trans hh3
  have c6 : Steps p.tables e below (s₁.setTop (entryFrame m #[.ref a, .ref b, .int (Int32.ofNat o), .int (Int32.ofNat len), .null] 6)) (T5.setTop (mkF m 30 #[.val (.ref a), .val (.ref b), .val (.int (Int32.ofNat o)), .val (.int (Int32.ofNat len)), .val .null, .unset] [.int z])) := c4.trans (st5 _ (Steps.refl _))
  have c7 : Steps p.tables e below (s₁.setTop (entryFrame m #[.ref a, .ref b, .int (Int32.ofNat o), .int (Int32.ofNat len), .null] 6)) (T5.setTop (mkF m 36 #[.val (.ref a), .val (.ref b), .val (.int (Int32.ofNat o)), .val (.int (Int32.ofNat len)), .val .null, .unset] [.int (Int32.ofNat len), .int (Int32.ofNat o), .ref b])) := c6.trans (by
    refine XS.ifNo X5.here hexec rfl (hb hbytes d30) rfl (i0_eq_f hz) ?_
    refine XS.aloadN X5.here hexec rfl (hb hbytes d33) rfl rfl ?_
    refine XS.iloadN X5.here hexec rfl (hb hbytes d34) rfl ?_
    refine XS.iloadN X5.here hexec rfl (hb hbytes d35) rfl ?_
    exact Steps.refl _)
  obtain ⟨v8, T8, X8, E8, g8⟩ := X5.callS hexec (Cmp3.law l b A o len) hown (wks W (staticW "java/lang/String" 177 Cmp3.yN)) (wk W Cmp3.tab) (W := 0) (Nat.le_of_ble_eq_true rfl) (Nat.le_of_ble_eq_true rfl) (Nat.le_refl _) (by show 0 + len ≤ len; omega) (g := (mkF m 36 #[.val (.ref a), .val (.ref b), .val (.int (Int32.ofNat o)), .val (.int (Int32.ofNat len)), .val .null, .unset] [.int (Int32.ofNat len), .int (Int32.ofNat o), .ref b])) rfl (by rw [hml]; rfl) c7 (argsL := [.ref b, .int (Int32.ofNat o), .int (Int32.ofNat len)]) (rest := []) rfl rfl (by show 2 * 0 + 0 ≤ _; decide) (hb hbytes d36) (⟨rfl, hA.mv X5.warmed.alike hh5, l1, l2, hp⟩)
  obtain ⟨e8, z8⟩ := E8
  obtain ⟨rfl, N, n1, n2, n3, n4, n5, n6⟩ := NewArr.mv _ T5 s _ _ hh5.symm (Vm.Alike.refl _) rfl e8
  rw [hh5] at z8
  have hB1 := hB.keep X8.warmed.alike (n6 _ _ hB.1)
  have hne : s.heap.size ≠ a := (Nat.ne_of_lt (Array.getElem?_eq_some_iff.mp hB.1).1).symm
  have c9 : Steps p.tables e below (s₁.setTop (entryFrame m #[.ref a, .ref b, .int (Int32.ofNat o), .int (Int32.ofNat len), .null] 6)) (T8.setTop (mkF m 39 #[.val (.ref a), .val (.ref b), .val (.int (Int32.ofNat o)), .val (.int (Int32.ofNat len)), .val .null, .unset] [.ref s.heap.size])) := g8
  have c10 : Steps p.tables e below (s₁.setTop (entryFrame m #[.ref a, .ref b, .int (Int32.ofNat o), .int (Int32.ofNat len), .null] 6)) (T8.setTop (mkF m 45 #[.val (.ref a), .val (.ref b), .val (.int (Int32.ofNat o)), .val (.int (Int32.ofNat len)), .val .null, .val (.ref s.heap.size)] [.int (Int32.ofNat N.slots.size), .ref s.heap.size, .ref a])) := by
    have hc : Steps p.tables e below (s₁.setTop (entryFrame m #[.ref a, .ref b, .int (Int32.ofNat o), .int (Int32.ofNat len), .null] 6)) (T8.setTop (mkF m 45 #[.val (.ref a), .val (.ref b), .val (.int (Int32.ofNat o)), .val (.int (Int32.ofNat len)), .val .null, .val (.ref s.heap.size)] [.int (Int32.ofNat len), .ref s.heap.size, .ref a])) := c9.trans (by
      refine XS.astore X8.here hexec rfl (hb hbytes d39) rfl rfl rfl ?_
      refine XS.aloadN X8.here hexec rfl (hb hbytes d41) rfl rfl ?_
      refine XS.aload X8.here hexec rfl (hb hbytes d42) rfl rfl ?_
      refine XS.iloadN X8.here hexec rfl (hb hbytes d44) rfl ?_
      exact Steps.refl _)
    rw [n4]; exact hc
  obtain ⟨v11, T11, X11, E11, g11⟩ := X8.callS hexec (CodL.law l s.heap.size N) hown (wks W (staticW "java/lang/String" 47 CodL.yN)) (wk W CodL.tab) (W := 1) (Nat.le_of_ble_eq_true rfl) (Nat.le_of_ble_eq_true rfl) (Nat.le_refl _) (by show 0 + len + 0 ≤ len; omega) (g := (mkF m 45 #[.val (.ref a), .val (.ref b), .val (.int (Int32.ofNat o)), .val (.int (Int32.ofNat len)), .val .null, .val (.ref s.heap.size)] [.int (Int32.ofNat N.slots.size), .ref s.heap.size, .ref a])) rfl (by rw [hml]; rfl) c10 (argsL := [.ref s.heap.size, .int (Int32.ofNat N.slots.size)]) (rest := [.ref a]) rfl rfl (by show 2 * 0 + (1 + 0) ≤ _; decide) (hb hbytes d45) (⟨rfl, n1⟩)
  obtain ⟨rfl, q11⟩ := E11
  have hB11 := hB1.mv (X8.warmed.alike.symm.trans X11.warmed.alike) q11
  have c12 : Steps p.tables e below (s₁.setTop (entryFrame m #[.ref a, .ref b, .int (Int32.ofNat o), .int (Int32.ofNat len), .null] 6)) (T11.setTop (mkF m 48 #[.val (.ref a), .val (.ref b), .val (.int (Int32.ofNat o)), .val (.int (Int32.ofNat len)), .val .null, .val (.ref s.heap.size)] [.int 0, .ref a])) := g11
  obtain ⟨T13, X13, p13, bl13, sl13, st13⟩ := X11.finit hexec hown (wk W (.fieldLink "java/lang/String" 15 "java/lang/String" "coder" "B")) (Or.inr ⟨_, (wk W (.laysFinal "java/lang/String" "java/lang/String" "coder" "B"))⟩) (Or.inl ⟨rfl, hnm⟩) f2 (Or.inl rfl) hB11 (t := .byte) (by decide +kernel) rfl (g := (mkF m 48 #[.val (.ref a), .val (.ref b), .val (.int (Int32.ofNat o)), .val (.int (Int32.ofNat len)), .val .null, .val (.ref s.heap.size)] [.int 0, .ref a])) rfl (rest := []) rfl (hb hbytes d48)
  have c14 : Steps p.tables e below (s₁.setTop (entryFrame m #[.ref a, .ref b, .int (Int32.ofNat o), .int (Int32.ofNat len), .null] 6)) (T13.setTop (mkF m 54 #[.val (.ref a), .val (.ref b), .val (.int (Int32.ofNat o)), .val (.int (Int32.ofNat len)), .val .null, .val (.ref s.heap.size)] [.ref s.heap.size, .ref a])) := (c12.trans (st13 _ (Steps.refl _))).trans (by
    refine XS.aloadN X13.here hexec rfl (hb hbytes d51) rfl rfl ?_
    refine XS.aload X13.here hexec rfl (hb hbytes d52) rfl rfl ?_
    exact Steps.refl _)
  obtain ⟨T15, X15, p15, bl15, sl15, st15⟩ := X13.finit hexec hown (wk W (.fieldLink "java/lang/String" 9 "java/lang/String" "value" "[B")) (Or.inr ⟨_, (wk W (.laysFinal "java/lang/String" "java/lang/String" "value" "[B"))⟩) (Or.inl ⟨rfl, hnm⟩) f1 (Or.inl rfl) bl13 (t := (.array .byte)) (by decide +kernel) rfl (g := (mkF m 54 #[.val (.ref a), .val (.ref b), .val (.int (Int32.ofNat o)), .val (.int (Int32.ofNat len)), .val .null, .val (.ref s.heap.size)] [.ref s.heap.size, .ref a])) rfl (rest := []) rfl (hb hbytes d54)
  have c16 : Steps p.tables e below (s₁.setTop (entryFrame m #[.ref a, .ref b, .int (Int32.ofNat o), .int (Int32.ofNat len), .null] 6)) (T15.setTop (mkF m 57 #[.val (.ref a), .val (.ref b), .val (.int (Int32.ofNat o)), .val (.int (Int32.ofNat len)), .val .null, .val (.ref s.heap.size)] [])) := c14.trans (st15 _ (Steps.refl _))
  have ap := apart (Or.inr ⟨_, (wk W (.laysFinal "java/lang/String" "java/lang/String" "value" "[B"))⟩) (Or.inr ⟨_, (wk W (.laysFinal "java/lang/String" "java/lang/String" "coder" "B"))⟩) f1 f2 (t₁ := .array .byte) (t₂ := .byte) (by decide +kernel) (by decide +kernel) (by decide)
  have al := X8.warmed.alike.symm.trans X15.warmed.alike
  have n7 : T11.heap[s.heap.size]? = some N := by rw [q11]; exact n1.1
  exact ⟨T15, none, _, _, _, X15, by simp, rfl, by omega, (fun _ => rfl), ⟨rfl, _, N, bl15, ((Same.refl D _).set _ (by simp)).set _ (by simp), sl15, (Cell.slots_setSlot_ne _ ap).trans sl13, n1.keep al (p15.other hne (p13.other hne n7)), n2, by rw [al.findClass]; exact n3, n4, n5, fun y c h1 h2 => p15.other h1 (p13.other h1 (by rw [q11]; exact n6 y c h2)), by rw [p15.2.2, p13.2.2, q11]; exact z8⟩, fun fs hl => c16.trans (X15.returnOut hexec hret (hb hbytes d57) hl)⟩
end New4
namespace New1
def yN : MethodName := ⟨"java/lang/String", "<init>", "([C)V"⟩
abbrev yB : ByteArray := jdk_42_method_3_code
theorem d0 : decode yB 0 = .ok (.aload_n 0, 1) := by decide +kernel
theorem d1 : decode yB 1 = .ok (.aload_n 1, 1) := by decide +kernel
theorem d2 : decode yB 2 = .ok (.iconst 0, 1) := by decide +kernel
theorem d3 : decode yB 3 = .ok (.aload_n 1, 1) := by decide +kernel
theorem d4 : decode yB 4 = .ok (.arraylength, 1) := by decide +kernel
theorem d5 : decode yB 5 = .ok (.aconst_null, 1) := by decide +kernel
theorem d6 : decode yB 6 = .ok (.invokespecial 27, 3) := by decide +kernel
theorem d9 : decode yB 9 = .ok (.return_, 1) := by decide +kernel
def site : List Cond := [New4.tab] ++ initW "java/lang/String" 27 New4.yN
def tab : Cond := tabOf yN yB 2 none site
def P (a : Addr) (D : Cell) (fV fC : Field) (b : Addr) (A : Cell) (z : Int32) (args : Array Value) (s : State) : Prop := args = #[.ref a, .ref b] ∧ Blank "java/lang/String" a D s ∧ Found "java/lang/String" "value" "[B" fV s ∧ Found "java/lang/String" "coder" "B" fC s ∧ Ch b A s ∧ StaticIs s "java/lang/String" "COMPACT_STRINGS" "Z" (.int z) ∧ ¬ z = 0 ∧ 0 < A.slots.size ∧ A.slots.size ≤ 536870912 ∧ ∀ i, i < A.slots.size → ¬ 255 < cv A i
def E (a : Addr) (D : Cell) (fV fC : Field) (A : Cell) (r : Option Value) (s u : State) : Prop := Got a D fV fC A 0 A.slots.size r s u
/-- new String(chars), not empty, no char above 255: a Latin-1 String of their low bytes -/
theorem law (l : Launch) (a : Addr) (D : Cell) (fV fC : Field) (b : Addr) (A : Cell) (z : Int32) : Law l yN 2 1 3 52 yB 2 none site (P a D fV fC b A z) (E a D fV fC A) [⟨a, fC.slot⟩, ⟨a, fV.slot⟩] 1 A.slots.size := by
  refine Law.of_walk (plainFor_of_name (by decide +kernel)) (by decide +kernel) (by decide +kernel) (by decide) (fun _ _ h => by rw [h.1]; rfl) (fun _ U U' hal hh h => ⟨h.1, h.2.1.mv hal hh, h.2.2.1.al hal, h.2.2.2.1.al hal, h.2.2.2.2.1.mv hal hh, h.2.2.2.2.2.1.there hal hh, h.2.2.2.2.2.2⟩) (fun r U U' V V' h1 hal h2 h => Got.mv r U U' V V' h1 hal h2 h) ?_
  intro p e s m args below meth c s₁ X0 hexec hbytes hml hret hlk hnm hown hh0 W hP
  obtain ⟨rfl, hB, f1, f2, hA, s1, hz, l0, l2, hp⟩ := hP
  have c1 : Steps p.tables e below (s₁.setTop (entryFrame m #[.ref a, .ref b] 2)) (s₁.setTop (mkF m 0 #[.val (.ref a), .val (.ref b)] [])) := entry rfl
  have c2 : Steps p.tables e below (s₁.setTop (entryFrame m #[.ref a, .ref b] 2)) (s₁.setTop (mkF m 6 #[.val (.ref a), .val (.ref b)] [.null, .int (Int32.ofNat A.slots.size), .int 0, .ref b, .ref a])) := c1.trans (by
    refine XS.aloadN X0.here hexec rfl (hb hbytes d0) rfl rfl ?_
    refine XS.aloadN X0.here hexec rfl (hb hbytes d1) rfl rfl ?_
    refine iconstV X0.here hexec rfl 0 (hb hbytes d2) (by decide) ?_
    refine XS.aloadN X0.here hexec rfl (hb hbytes d3) rfl rfl ?_
    refine X0.alen hexec (hA.1.mv X0.warmed.alike hh0) rfl rfl (hb hbytes d4) ?_
    refine XS.aconstNull X0.here hexec rfl (hb hbytes d5) ?_
    exact Steps.refl _)
  obtain ⟨v3, T3, X3, E3, g3⟩ := X0.callN hexec (New4.law l a D fV fC b A z 0 A.slots.size) rfl hown (wks W (initW "java/lang/String" 27 New4.yN)) (W New4.tab (by simp only [site, List.mem_cons, List.mem_append, true_or, or_true])) (W := 0) (Nat.le_of_ble_eq_true rfl) (Nat.le_of_ble_eq_true rfl) (Nat.le_refl _) (by show 0 + A.slots.size ≤ A.slots.size; omega) (g := (mkF m 6 #[.val (.ref a), .val (.ref b)] [.null, .int (Int32.ofNat A.slots.size), .int (Int32.ofNat 0), .ref b, .ref a])) rfl (by rw [hml]; rfl) c2 (argsL := [.ref b, .int (Int32.ofNat 0), .int (Int32.ofNat A.slots.size), .null]) (rest := []) rfl rfl (by show 2 * 0 + 0 ≤ _; decide) (hb hbytes d6) (⟨rfl, hB.mv X0.warmed.alike hh0, f1.al X0.warmed.alike, f2.al X0.warmed.alike, hA.mv X0.warmed.alike hh0, s1.there X0.warmed.alike hh0, hz, l0, by omega, l2, fun i hi => by rw [Nat.zero_add]; exact hp i hi⟩)
  have e0 := Got.mv _ s₁ s _ _ hh0.symm (Vm.Alike.refl _) rfl E3
  obtain rfl := e0.1
  have c4 : Steps p.tables e below (s₁.setTop (entryFrame m #[.ref a, .ref b] 2)) (T3.setTop (mkF m 9 #[.val (.ref a), .val (.ref b)] [])) := g3
  exact ⟨T3, none, _, _, _, X3, by simp, rfl, by omega, (fun _ => rfl), e0, fun fs hl => c4.trans (X3.returnOut hexec hret (hb hbytes d9) hl)⟩
theorem pays {l : Launch} {R : Room} {p : Program} {e : Env} {below : List Frame} {s : State} {sargs : Array Value} {len W : Nat} (a : Addr) (D : Cell) (fV fC : Field) (b : Addr) (A : Cell) (z : Int32) (htab : tab.before sargs s = true) (hfr : 4 ≤ R.frames) (hlo : W + 65 ≤ R.locals) :
    Back l R p e below s sargs yN len W (fun A₁ a₁ => A₁.cells + 1 ≤ R.cells ∧ A₁.slots + A.slots.size ≤ R.slots ∧ P a D fV fC b A z a₁ A₁.U) (fun A₁ _ v₁ B₁ => E a D fV fC A v₁ A₁.U B₁.U ∧ B₁.locs = A₁.locs ++ [⟨a, fC.slot⟩, ⟨a, fV.slot⟩] ∧ B₁.cells = A₁.cells + 1 ∧ B₁.slots = A₁.slots + A.slots.size) :=
  (law l a D fV fC b A z).pays htab hfr (by omega)
end New1
end StrChars
namespace StrChars.Road
open Jvm Sem ClassFile Op Lib Jvm.Stand Jvm.Free Jvm.Free.XT
open Jvm.Lib.Cold (StaticIs)
abbrev ST : String := "java/lang/String"
/-- every table word that New1's law asks, flat -/
abbrev words : List Jvm.Cond := [.code New1.yN New1.yB 2 none, .initialized ST, .methodLink ST 27 New4.yN, .instanceMethod New4.yN,
  .code New4.yN New4.yB 6 none, .fieldLink ST 38 ST "COMPACT_STRINGS" "Z", .laysFinal ST ST "value" "[B", .fieldLink ST 9 ST "value" "[B", .laysFinal ST ST "coder" "B", .fieldLink ST 15 ST "coder" "B",
  .methodLink ST 1 Lib.objectInit, .instanceMethod Lib.objectInit, .code Lib.objectInit ⟨#[0xb1]⟩ 1 none, .methodLink ST 177 Cmp3.yN, .static Cmp3.yN, .methodLink ST 47 CodL.yN, .static CodL.yN,
  .code Cmp3.yN Cmp3.yB 6 (some (.array .byte)), .initialized U16, .arrayClass .byte, .methodLink U16 115 Cmp5.yN, .static Cmp5.yN, .code Cmp5.yN Cmp5.yB 7 (some .int), .code CodL.yN CodL.yB 2 (some .byte)]
theorem tab_of {a : Array Value} {s : State} (h : ∀ w ∈ words, w.before a s = true) : New1.tab.before a s = true := by
  have h5 : Cmp5.tab.before a s = true := unparts (wk h (.code Cmp5.yN Cmp5.yB 7 (some .int))) (wks h (.initialized Cmp5.yN.cls :: Cmp5.site))
  have hc : CodL.tab.before a s = true := unparts (wk h (.code CodL.yN CodL.yB 2 (some .byte))) (wks h (.initialized CodL.yN.cls :: CodL.site))
  have q5 : ∀ w ∈ Cmp5.tab :: words, w.before a s = true := fun w hw => (List.mem_cons.mp hw).elim (fun e => e ▸ h5) (h w)
  have h3 : Cmp3.tab.before a s = true := unparts (wk q5 (.code Cmp3.yN Cmp3.yB 6 (some (.array .byte)))) (wks q5 (.initialized Cmp3.yN.cls :: Cmp3.site))
  have q3 : ∀ w ∈ Cmp3.tab :: CodL.tab :: words, w.before a s = true := fun w hw => (List.mem_cons.mp hw).elim (fun e => e ▸ h3) fun hw => (List.mem_cons.mp hw).elim (fun e => e ▸ hc) (h w)
  have h4 : New4.tab.before a s = true := unparts (wk q3 (.code New4.yN New4.yB 6 none)) (wks q3 (.initialized New4.yN.cls :: New4.site))
  have q4 : ∀ w ∈ New4.tab :: words, w.before a s = true := fun w hw => (List.mem_cons.mp hw).elim (fun e => e ▸ h4) (h w)
  exact unparts (wk q4 (.code New1.yN New1.yB 2 none)) (wks q4 (.initialized New1.yN.cls :: New1.site))
/-- the words ride from the start Z to the walk's own state -/
theorem moved {Z s : State} {a0 args : Array Value} (hZ : Z.Warmed39 s.vm) (hw : ∀ d ∈ words, d.before a0 Z = true) : ∀ d ∈ words, d.before args s = true := fun d hd => by
  have q := hw d hd
  have t : ∀ d ∈ words, d = .arrayClass .byte ∨ (d.onTables && d.keepsFace) = true := by decide +kernel
  rcases t d hd with rfl | t
  · exact RoadKit.mvA hZ q
  · exact RoadKit.mv hZ q t
/-- WHAT COMES BACK, over the tables of the start Z: h the heap at the call, h' behind it -/
def Q (Z : State) (x : Addr) (A : Cell) (h : Heap) (v : Option Value) (h' : Heap) (L : List Loc) : Prop := v = none ∧ (∀ y ∈ L, y.base = x) ∧ RoadKit.Keep h h' [x] ∧ h'.size = h.size + 1 ∧ RoadKit.Exa Z h' x ST ∧ RoadKit.Fld Z h' x ST "value" "[B" (.ref h.size) ∧ RoadKit.Fld Z h' x ST "coder" "B" (.int 0) ∧
  (∃ V : Cell, RoadKit.Arr Z h' h.size V .byte ∧ V.vm = .none ∧ Z.vm.findClass "[B" = some V.cls ∧ V.slots.size = A.slots.size ∧ ∀ j, j < A.slots.size → V.slots[j]? = some (.int (lo8 (cv A j)))) ∧
  ∀ (O n d : String) (w : Value), RoadKit.Fld Z h x O n d w → RoadKit.slotOf Z O n d ≠ RoadKit.slotOf Z ST "value" "[B" → RoadKit.slotOf Z O n d ≠ RoadKit.slotOf Z ST "coder" "B" → RoadKit.Fld Z h' x O n d w
/-- **new String(chars) AT A CALL, IN THE ROAD'S FORM**: for specialBack behind newO: x the fresh String, b the char[] with the cell A -/
theorem back {p : Program} {l : Launch} {e : Env} {R : Room} {s : State} {args : Array Value} {below : List Frame} {len W : Nat} {Z : State} {a0 : Array Value} {h : Heap} (hZ : Z.Warmed39 s.vm) (hw : ∀ d ∈ words, d.before a0 Z = true) {kI : Nat} (wi : (Jvm.Cond.instantiable ST kI).before a0 Z = true)
    {x b : Addr} {A : Cell} {z : Int32} {v0 c0 : Value} (E : RoadKit.Exa Z h x ST) (V : RoadKit.Fld Z h x ST "value" "[B" v0) (C : RoadKit.Fld Z h x ST "coder" "B" c0) (K : RoadKit.Arr Z h b A .char) (hty : Typed .char A) (S : RoadKit.Sta Z h ST "COMPACT_STRINGS" "Z" (.int z)) (hz : ¬ z = 0)
    (l0 : 0 < A.slots.size) (l2 : A.slots.size ≤ 536870912) (hp : ∀ i, i < A.slots.size → ¬ 255 < cv A i) (hfr : 4 ≤ R.frames) (hlo : W + 65 ≤ R.locals) :
    Back l R p e below s args New1.yN len W (fun P a => a = #[.ref x, .ref b] ∧ P.U.heap = h ∧ P.cells + 1 ≤ R.cells ∧ P.slots + A.slots.size ≤ R.slots)
      (fun P _ v B => ∃ L, Q Z x A h v B.U.heap L ∧ B.locs = P.locs ++ L ∧ B.cells = P.cells + 1 ∧ B.slots = P.slots + A.slots.size) := by
  intro m meth c P g ig mk a X hg hsize hdg hW hn hp'
  obtain ⟨rfl, rfl, r1, r2⟩ := hp'
  have al : Z.vm.Alike P.U.vm := hZ.alike.trans X.warmed.alike
  obtain ⟨D, cfV, kV, iV, fV, hD, gV, stV, knV, obV, asV, slV⟩ := id V
  obtain ⟨D', cfC, kC, iC, fC, hD', gC, stC, -, -, asC, slC⟩ := id C
  cases hD.symm.trans hD'
  obtain ⟨D2, kD, e1, e2, e3, e4, e5⟩ := id E
  cases hD.symm.trans e1
  obtain ⟨c2, k2, i1, i2, i3, -⟩ := Cond.instantiable_spec wi
  cases e2.symm.trans i1
  cases e3.symm.trans i2
  obtain ⟨kU, u1, u2⟩ := al.2.2 _ _ e3
  have hB : Blank ST x D P.U := ⟨hD, ⟨knV, fun q hq => by rw [hq] at obV; cases obV⟩, by rw [al.findClass]; exact e2, kU, u1, by rw [u2]; exact i3, by rw [u2]; exact e5 i3⟩
  have F1 : Found ST "value" "[B" fV P.U := ⟨SBG.found_only al ⟨cfV, kV, iV, gV⟩, stV⟩
  have F2 : Found ST "coder" "B" fC P.U := ⟨SBG.found_only al ⟨cfC, kC, iC, gC⟩, stC⟩
  have hA : Ch b A P.U := ⟨⟨K.1, State.isArrayOf_alike al K.2.1, K.2.2, by omega⟩, hty⟩
  have hS : StaticIs P.U ST "COMPACT_STRINGS" "Z" (.int z) := by
    obtain ⟨cfS, iS, kS, fS, st, cS, t1, t2, t3, t4, t5, t6, t7⟩ := S
    exact StaticIs.there (s := { Z with heap := P.U.heap }) ⟨cfS, iS, kS, fS, st, cS, t1, t2, t3, t4, t5, (fun q => by rw [q] at t6; cases t6), t7⟩ al rfl
  obtain ⟨v, B, X', ⟨⟨hv, E', V', q1, q2, q3, q4, q5, q6, q7, q8, q9, q10, q11⟩, hl, hc, hs⟩, st⟩ := New1.pays x D fV fC b A z (tab_of (moved hZ hw)) hfr hlo m meth c P g ig mk _ X hg hsize hdg hW hn ⟨r1, r2, rfl, hB, F1, F2, hA, hS, hz, l0, l2, hp⟩
  have al' : Z.vm.Alike B.U.vm := hZ.alike.trans X'.warmed.alike
  have hsz : E'.slots.size = D.slots.size := by
    obtain ⟨-, -, -, kB, w1, w2, w3⟩ := q1
    obtain ⟨kB', y1, y2⟩ := al'.2.2 _ _ e3
    rw [q2.2.1] at w1
    cases w1.symm.trans y1
    rw [w3, e5 i3, y2]
  refine ⟨v, B, X', ⟨_, ⟨hv, ?_, ⟨by omega, fun y cy hy hn' => q10 y cy (by simpa using hn') hy, fun y cy hy => ?_⟩, q11, ⟨E', _, q1.1, by rw [q2.2.1]; exact e2, by rw [q2.2.1]; exact e3, by rw [q2.1]; exact obV, fun _ => by rw [hsz]; exact e5 i3⟩,
    ⟨E', cfV, kV, iV, fV, q1.1, gV, stV, by rw [q2.1]; exact knV, by rw [q2.1]; exact obV, by rw [q2.2.1]; exact asV, q3⟩, ⟨E', cfC, kC, iC, fC, q1.1, gC, stC, by rw [q2.1]; exact knV, by rw [q2.1]; exact obV, by rw [q2.2.1]; exact asC, q4⟩,
    ⟨V', ⟨q5.1, State.isArrayOf_alike al'.symm q5.2.1, q5.2.2.1⟩, q6, by rw [← al'.findClass]; exact q7, q8, fun j hj => by have := q9 j hj; rwa [Nat.zero_add] at this⟩, fun O n d w F n1 n2 => ?_⟩, hl, hc, hs⟩, st⟩
  · intro y hy
    simp only [List.mem_cons, List.not_mem_nil, or_false] at hy
    rcases hy with rfl | rfl <;> rfl
  · by_cases q : y = x
    · subst q
      cases hD.symm.trans hy
      exact ⟨E', q1.1, q2.2.1, q2.1, hsz⟩
    · exact ⟨cy, q10 y cy q hy, rfl, rfl, rfl⟩
  · obtain ⟨D3, cf, k, i, f, g1, g2, g3, g4, g5, g6, g7⟩ := F
    cases hD.symm.trans g1
    simp only [RoadKit.slotOf, g2, gV, gC, Option.map_some, Option.getD_some] at n1 n2
    exact ⟨E', cf, k, i, f, q1.1, g2, g3, by rw [q2.1]; exact g4, by rw [q2.1]; exact g5, by rw [q2.2.1]; exact g6, by rw [q2.2.2 f.slot (by simp [n1, n2])]; exact g7⟩
end StrChars.Road
namespace StrChars.Road
open Jvm Sem ClassFile Op Lib Jvm.Stand Jvm.Free Jvm.Free.XT
/-- WHAT COMES BACK, the byte[] as a list of values -/
def QA (Z : State) (x : Addr) (zn : Int32) (cs : List Int32) (h : Heap) (v : Option Value) (h' : Heap) (L : List Loc) : Prop := v = none ∧ (∀ y ∈ L, y.base = x) ∧ RoadKit.Keep h h' [x] ∧ h'.size = h.size + 1 ∧ RoadKit.Exa Z h' x ST ∧ RoadKit.Fld Z h' x ST "value" "[B" (.ref h.size) ∧ RoadKit.Fld Z h' x ST "coder" "B" (.int 0) ∧
  (∃ kb, Z.vm.findClass "[B" = some kb ∧ RoadKit.Arv Z h' h.size kb .byte zn (cs.map fun c => .int (lo8 c)) (.int 0)) ∧
  ∀ (O n d : String) (w : Value), RoadKit.Fld Z h x O n d w → RoadKit.slotOf Z O n d ≠ RoadKit.slotOf Z ST "value" "[B" → RoadKit.slotOf Z O n d ≠ RoadKit.slotOf Z ST "coder" "B" → RoadKit.Fld Z h' x O n d w
/-- **new String(chars) AT A CALL, THE ARRAYS AS LISTS**: the char[] at b holds cs, not empty, no char above 255 -/
theorem backArv {p : Program} {l : Launch} {e : Env} {R : Room} {s : State} {args : Array Value} {below : List Frame} {len W : Nat} {Z : State} {a0 : Array Value} {h : Heap} (hZ : Z.Warmed39 s.vm) (hw : ∀ d ∈ words, d.before a0 Z = true) {kI : Nat} (wi : (Jvm.Cond.instantiable ST kI).before a0 Z = true)
    {x b : Addr} {k : ClassId} {zn z : Int32} {cs : List Int32} {dv v0 c0 : Value} (E : RoadKit.Exa Z h x ST) (V : RoadKit.Fld Z h x ST "value" "[B" v0) (C : RoadKit.Fld Z h x ST "coder" "B" c0) (K : RoadKit.Arv Z h b k .char zn (cs.map Value.int) dv) (S : RoadKit.Sta Z h ST "COMPACT_STRINGS" "Z" (.int z)) (hz : ¬ z = 0)
    (hlen : zn.toNatClampNeg = cs.length) (h0 : 0 < cs.length) (hbig : cs.length ≤ 536870912) (hall : ∀ c ∈ cs, ¬ 255 < c) (hfr : 4 ≤ R.frames) (hlo : W + 65 ≤ R.locals) :
    Back l R p e below s args New1.yN len W (fun P a => a = #[.ref x, .ref b] ∧ P.U.heap = h ∧ P.cells + 1 ≤ R.cells ∧ P.slots + cs.length ≤ R.slots)
      (fun P _ v B => ∃ L, QA Z x zn cs h v B.U.heap L ∧ B.locs = P.locs ++ L ∧ B.cells = P.cells + 1 ∧ B.slots = P.slots + cs.length) := by
  obtain ⟨A, K1, K2, K3, K4, K5, K6⟩ := K
  have e : A.slots.size = cs.length := K3.trans hlen
  have hat : ∀ (i : Nat) (hi : i < cs.length), A.slots[i]? = some (.int cs[i]) := fun i hi => by rw [K5 i (by omega)]; simp [List.getD_eq_getElem?_getD, hi]
  have hcv : ∀ (i : Nat) (hi : i < cs.length), cv A i = cs[i] := fun i hi => by unfold cv; rw [hat i hi]
  have hty : Typed .char A := fun i v hv => by
    have hi : i < A.slots.size := (Array.getElem?_eq_some_iff.mp hv).1
    have q := K5 i hi
    rw [hv] at q
    rw [Option.some.inj q]
    exact K6 i hi
  refine Back.mono (back hZ hw wi E V C K1 hty S hz (by omega) (by omega) (fun i hi => by rw [hcv i (by omega)]; exact hall _ (List.getElem_mem _)) hfr hlo) (fun P a hp => ⟨hp.1, hp.2.1, hp.2.2.1, by rw [e]; exact hp.2.2.2⟩) (fun P a v B hp hq => ?_)
  obtain ⟨L, ⟨q1, q2, q3, q4, q5, q6, q7, ⟨V', v1, v2, v3, v4, v5⟩, q9⟩, hl, hc, hs⟩ := hq
  refine ⟨L, ⟨q1, q2, q3, q4, q5, q6, q7, ⟨V'.cls, v3, V', v1, rfl, by rw [v4, e, hlen], K4, fun i hi => ?_, fun i hi => ?_⟩, q9⟩, hl, hc, by rw [hs, e]⟩
  · have hi' : i < cs.length := by omega
    rw [v5 i (by omega), hcv i hi']; simp [List.getD_eq_getElem?_getD, hi']
  · have hi' : i < cs.length := by omega
    simp only [List.getD_eq_getElem?_getD, List.getElem?_map, List.getElem?_eq_getElem hi', Option.map_some, Option.getD_some]
    exact fits_lo8 _
end StrChars.Road
namespace StrChars.Road
open Jvm Sem ClassFile Op Lib Jvm.Stand Jvm.Free Jvm.Free.XT
/-- WHAT COMES BACK, in the writer's own shape -/
def QV (Z : State) (x : Addr) (N : Int32) (bs : List Int32) (h : Heap) (n0 : Nat) (v : Option Value) (h' : Heap) (L : List Loc) : Prop := v = none ∧ RoadKit.Fr n0 L ∧ RoadKit.Keep h h' [x] ∧ RoadKit.Exa Z h' x ST ∧ RoadKit.Fld Z h' x ST "coder" "B" (.int 0) ∧
  ∃ (t : Addr) (kb : ClassId), n0 ≤ t ∧ h.size ≤ t ∧ ¬ t = x ∧ RoadKit.Fld Z h' x ST "value" "[B" (.ref t) ∧ RoadKit.Arv Z h' t kb .byte N (bs.map Value.int) (.int 0)
/-- **new String(chars) AT A CALL, FOR THE WRITER**: a char[] of n known ints, each 0 to 255 -/
theorem backV {p : Program} {l : Launch} {e : Env} {R : Room} {s : State} {args : Array Value} {below : List Frame} {len W : Nat} {Z : State} {a0 : Array Value} {h : Heap} (hZ : Z.Warmed39 s.vm) (hw : ∀ d ∈ words, d.before a0 Z = true) {kI : Nat} (wi : (Jvm.Cond.instantiable ST kI).before a0 Z = true)
    {x b : Addr} {kC : ClassId} {cs bs : List Int32} {d v0 c0 : Value} {z N : Int32} {n n0 : Nat} (hx0 : n0 ≤ x) (hh0 : n0 ≤ h.size) (E : RoadKit.Exa Z h x ST) (V : RoadKit.Fld Z h x ST "value" "[B" v0) (C : RoadKit.Fld Z h x ST "coder" "B" c0) (K : RoadKit.Arv Z h b kC .char N (cs.map Value.int) d) (S : RoadKit.Sta Z h ST "COMPACT_STRINGS" "Z" (.int z)) (hz : ¬ z = 0)
    (hn : cs.length = n) (hN : N = Int32.ofNat n) (l0 : 0 < n) (l2 : n ≤ 4000) (hp : ∀ c ∈ cs, ¬ c < 0 ∧ ¬ (255 : Int32) < c) (hb : bs = cs.map (fun c => c.toInt8.toInt32)) (hfr : 4 ≤ R.frames) (hlo : W + 65 ≤ R.locals) :
    Back l R p e below s args (⟨"java/lang/String", "<init>", "([C)V"⟩ : MethodName) len W (fun P a => a = #[.ref x, .ref b] ∧ P.U.heap = h ∧ P.cells + 1 ≤ R.cells ∧ P.slots + n ≤ R.slots)
      (fun P _ v B => ∃ L, QV Z x N bs h n0 v B.U.heap L ∧ B.locs = P.locs ++ L ∧ B.cells = P.cells + 1 ∧ B.slots = P.slots + n) := by
  subst hn hN hb
  refine Back.mono (backArv hZ hw wi E V C K S hz (n32 (by omega)) l0 (by omega) (fun c hc => (hp c hc).2) hfr hlo) (fun P a hp => hp) (fun P a v B hp hq => ?_)
  obtain ⟨L, ⟨q1, q2, q3, q4, q5, q6, q7, ⟨kb, v1, v2⟩, q9⟩, hl, hc, hs⟩ := hq
  exact ⟨L, ⟨q1, fun y hy => by rw [q2 y hy]; exact hx0, q3, q5, q7, h.size, kb, hh0, Nat.le_refl _, Nat.ne_of_gt E.lt, q6, by rw [List.map_map]; exact v2⟩, hl, hc, hs⟩
end StrChars.Road
end Jvm.Pilot.@@N@@
namespace Jvm.Pilot.@@N@@
open Jvm Jvm.ClassFile Sem Op Lib Jvm.Free Jvm.Stand Jvm.LawKit Jvm.RoadKit Bundle Jvm.Pilot.@@N@@.Jvm.D
section OwnRun
variable {p : Program} {l : Launch} {e : Env} {R : Room} {s : State} {m : MethodId} {args : Array Value} {below : List Frame} {meth : Method} {c : Code} {T T' : State} {locs : List Loc} {cells slots : Nat} {Q : Option Value → Heap → List Loc → Prop} {C S : Nat} {F : Outcome → State → Prop}
/-- from T with the frame g on top the body comes to its end, and what it leaves is as Q says -/
def ORunF (p : Program) (e : Env) (below : List Frame) (F : Outcome → State → Prop) (T : State) (g : JFrame) : Prop :=
  ∃ s₂ o, Steps p.tables e below (T.setTop g) s₂ ∧ s₂.status = .running ∧ Ended s₂ below o ∧ F o s₂
abbrev OFw (s : State) (Q : Option Value → Heap → List Loc → Prop) (C S : Nat) : Outcome → State → Prop := fun o s₂ => ∃ v L, o = .returned v ∧ Q v s₂.heap L ∧ FrameEnd s o s₂ L C S
theorem own_by {g g' : JFrame} (st : ∀ t, Steps p.tables e below (T'.setTop g') t → Steps p.tables e below (T.setTop g) t) (h : ORunF p e below F T' g') : ORunF p e below F T g := by
  obtain ⟨s₂, o, h1, h2⟩ := h
  exact ⟨s₂, o, st _ h1, h2⟩
theorem own_tr {g g' : JFrame} (st : Steps p.tables e below (T.setTop g) (T'.setTop g')) (h : ORunF p e below F T' g') : ORunF p e below F T g := own_by (fun _ k => st.trans k) h
theorem own_letI (x : Int32) {f : Int32 → JFrame} (h : ∀ v, v = x → ORunF p e below F T (f v)) : ORunF p e below F T (f x) := h x rfl
theorem own_letJ (x : Int64) {f : Int64 → JFrame} (h : ∀ v, v = x → ORunF p e below F T (f v)) : ORunF p e below F T (f x) := h x rfl
theorem own_retI (X : Stand p l e R s m args below meth c T locs cells slots) (hx : p.tables.exec = Jvm.exec) {pc : Nat} {Ls : Array Slot} {z : Int32} {rest : List Value} (hret : meth.sig.returnType = some .int) (hlk : meth.locks = false) (hd : decode c.code pc = .ok (.ireturn, 1)) (hc : cells ≤ C) (hs : slots ≤ S) (hQ : Q (some (.int z)) T.heap locs) :
    ORunF p e below (OFw s Q C S) T (mkF m pc Ls (.int z :: rest)) := by
  obtain ⟨fs, hr, hrun, hended, hW, hsame⟩ := X.leave (v := some (.int z)) (fun h => by rw [hret] at h; cases h) hlk
  exact ⟨_, _, retI X hx hret hd hr, hrun, hended, _, _, rfl, hQ, ⟨_, rfl⟩, hW, hsame.mono hc hs⟩
theorem own_retN (X : Stand p l e R s m args below meth c T locs cells slots) (hx : p.tables.exec = Jvm.exec) {pc : Nat} {Ls : Array Slot} {z : Int32} {t : FieldType} {rest : List Value} (hret : meth.sig.returnType = some t) (ht : t = .boolean ∨ t = .byte ∨ t = .char ∨ t = .short) (hlk : meth.locks = false) (hd : decode c.code pc = .ok (.ireturn, 1)) (hc : cells ≤ C) (hs : slots ≤ S) (hQ : Q (some (.int (nar t z))) T.heap locs) :
    ORunF p e below (OFw s Q C S) T (mkF m pc Ls (.int z :: rest)) := by
  obtain ⟨fs, hr, hrun, hended, hW, hsame⟩ := X.leave (v := some (.int (nar t z))) (fun h => by rw [hret] at h; cases h) hlk
  exact ⟨_, _, retN X hx hret ht hd hr, hrun, hended, _, _, rfl, hQ, ⟨_, rfl⟩, hW, hsame.mono hc hs⟩
theorem own_retJ (X : Stand p l e R s m args below meth c T locs cells slots) (hx : p.tables.exec = Jvm.exec) {pc : Nat} {Ls : Array Slot} {z : Int64} (hret : meth.sig.returnType = some .long) (hlk : meth.locks = false) (hd : decode c.code pc = .ok (.lreturn, 1)) (hc : cells ≤ C) (hs : slots ≤ S) (hQ : Q (some (.long z)) T.heap locs) :
    ORunF p e below (OFw s Q C S) T (mkF m pc Ls [.long z]) := by
  obtain ⟨fs, hr, hrun, hended, hW, hsame⟩ := X.leave (v := some (.long z)) (fun h => by rw [hret] at h; cases h) hlk
  exact ⟨_, _, X.lreturnOut hx hret hd hr, hrun, hended, _, _, rfl, hQ, ⟨_, rfl⟩, hW, hsame.mono hc hs⟩
theorem own_retA (X : Stand p l e R s m args below meth c T locs cells slots) (hx : p.tables.exec = Jvm.exec) {pc : Nat} {Ls : Array Slot} {z : Value} {t : FieldType} {rest : List Value} (hret : meth.sig.returnType = some t) (ht : t.isReference = true) (hz : z.isRef = true) (hn : narrow t z = z) (hlk : meth.locks = false) (hd : decode c.code pc = .ok (.areturn, 1)) (hc : cells ≤ C) (hs : slots ≤ S) (hQ : Q (some z) T.heap locs) :
    ORunF p e below (OFw s Q C S) T (mkF m pc Ls (z :: rest)) := by
  obtain ⟨fs, hr, hrun, hended, hW, hsame⟩ := X.leave (v := some z) (fun h => by rw [hret] at h; cases h) hlk
  exact ⟨_, _, retOut X hx hret hn (Or.inr (Or.inr (Or.inr (Or.inr ⟨rfl, ht, hz⟩)))) hd hr, hrun, hended, _, _, rfl, hQ, ⟨_, rfl⟩, hW, hsame.mono hc hs⟩
theorem own_retV (X : Stand p l e R s m args below meth c T locs cells slots) (hx : p.tables.exec = Jvm.exec) {pc : Nat} {Ls : Array Slot} (hret : meth.sig.returnType = none) (hlk : meth.locks = false) (hd : decode c.code pc = .ok (.return_, 1)) (hc : cells ≤ C) (hs : slots ≤ S) (hQ : Q none T.heap locs) :
    ORunF p e below (OFw s Q C S) T (mkF m pc Ls []) := by
  obtain ⟨fs, hr, hrun, hended, hW, hsame⟩ := X.leave (v := none) (fun _ => rfl) hlk
  exact ⟨_, _, X.returnOut hx hret hd hr, hrun, hended, _, _, rfl, hQ, ⟨_, rfl⟩, hW, hsame.mono hc hs⟩
/-- a body's contract: called with as at the heap h (tables as at Z) it returns, and what it leaves is as Q says -/
abbrev OMet (l : Launch) (y : MethodName) (bytes : ByteArray) (maxL : Nat) (ret : Option FieldType) (ws : List Jvm.Cond) (rm : Room) (as' : Array Value) (Z : State) (h : Heap) (Q : Option Value → Heap → List Loc → Prop) : Prop :=
  MetFree l y (head1 (Jvm.Cond.code y bytes maxL ret :: ws) rm) (fun a U => a = as' ∧ Z.Warmed39 U.vm ∧ U.heap = h) (fun _ _ _ _ _ => True) (fun _ U o U' => ∃ v L, o = .returned v ∧ Q v U'.heap L ∧ FrameEnd U o U' L rm.cells rm.slots)
theorem own_met {y : MethodName} {bytes : ByteArray} {maxL : Nat} {ret : Option FieldType} {ws : List Jvm.Cond} {rm : Room} {as' : Array Value} {Z : State} {h : Heap} {Q : Option Value → Heap → List Loc → Prop} (hpn : plainFor y = true)
    (body : ∀ p e s m below meth c s₁, Stand p l e rm s m as' below meth c s₁ [] 0 0 → p.tables.exec = Jvm.exec → c.code = bytes → c.maxLocals = maxL → s.vm.findClass y.cls = some m.cls → meth.name = y.name → meth.sig.returnType = ret → meth.locks = false → Z.Warmed39 s.vm → s₁.heap = h →
      ORunF p e below (OFw s Q rm.cells rm.slots) s₁ (entryFrame m as' maxL)) : OMet l y bytes maxL ret ws rm as' Z h Q := by
  refine MetFree.of_bodySF hpn hisR ?_
  intro p e s m args below meth c s₁ Bd hml0 hP hK
  obtain ⟨rfl, hZ, hh⟩ := hP
  exact body p e s m below meth c s₁ (Stand.of_body Bd) Bd.exec Bd.bytes hml0 (findClass_of_methodNamed Bd.named) (name_of_methodNamed Bd.named Bd.method).1 Bd.returns Bd.notSynchronized hZ (by rw [← hh, Bd.state]; rfl)
section Calls
variable {Z : State} {a0 : Array Value} {h : Heap} {own : String} {index : Nat} {y z : MethodName} {bytes : ByteArray} {maxL : Nat} {ret : Option FieldType} {rm : Room} {as' : Array Value} {Qc : Option Value → Heap → List Loc → Prop} {W pc : Nat} {Ls : Array Slot} {st argsL rest : List Value}
theorem own_callS (X : Stand p l e R s m args below meth c T locs cells slots) (hx : p.tables.exec = Jvm.exec) (hZ : Z.Warmed39 s.vm) (hown : s.vm.findClass own = some m.cls) (w1 : (Jvm.Cond.methodLink own index y).before a0 Z = true) (w2 : (Jvm.Cond.static y).before a0 Z = true) (w3 : (Jvm.Cond.initialized y.cls).before a0 Z = true) (w4 : (Jvm.Cond.code y bytes maxL ret).before a0 Z = true)
    (hy : y.cls ≠ "java/lang/invoke/MethodHandle" ∧ y.cls ≠ "java/lang/invoke/VarHandle") (M : OMet l y bytes maxL ret [] rm as' Z h Qc) (eT : T.heap = h) (hf : rm.frames + 1 ≤ R.frames) (hl : W + (maxL + 11) + rm.locals ≤ R.locals) (hc : cells + rm.cells ≤ R.cells) (hs : slots + rm.slots ≤ R.slots)
    (hsz : Ls.size = c.maxLocals) (hlen : ∀ sig, parseMethodDescriptor y.desc = some sig → argsL.length = sig.parameters.length) (hst : st = argsL.reverse ++ rest) (has : argsL.toArray = as') (hW : 2 * 0 + (rest.map fun v => v.category).sum ≤ W) (hd : decode c.code pc = .ok (.invokestatic index, 3))
    (K : ∀ T' L v, Stand p l e R s m args below meth c T' (locs ++ L) (cells + rm.cells) (slots + rm.slots) → Qc v T'.heap L → ORunF p e below F T' (mkF m (pc + 3) Ls (v.toList ++ rest))) : ORunF p e below F T (mkF m pc Ls st) := by
  obtain ⟨v, _, ⟨T', L', k', n'⟩, -, X', ⟨Lc, hQ, e1, e2, e3⟩, stp⟩ := Jvm.LawKit.callS X hx (y := y) hown (mvT hZ w1) (mvT hZ w2) (mvT hZ w3) (mvT hZ w4) hy (backOf (W := W) M hZ w4 w3 hf hl) (g := mkF m pc Ls st) rfl hsz (argsL := argsL) (rest := rest) hlen hst hW hd (fun _ _ => ⟨has, eT, hc, hs⟩)
  dsimp only [Pt.U, Pt.locs, Pt.cells, Pt.slots] at X' e1 e2 e3 stp hQ
  subst e1 e2 e3
  exact own_by stp (K T' Lc v X' hQ)
theorem own_callC (X : Stand p l e R s m args below meth c T locs cells slots) (hx : p.tables.exec = Jvm.exec) (hZ : Z.Warmed39 s.vm) (hown : s.vm.findClass own = some m.cls) (hn : y.name = "<init>") (w1 : (Jvm.Cond.methodLink own index y).before a0 Z = true) (w2 : (Jvm.Cond.instanceMethod y).before a0 Z = true) (w3 : (Jvm.Cond.initialized y.cls).before a0 Z = true) (w4 : (Jvm.Cond.code y bytes maxL none).before a0 Z = true)
    (hy : y.cls ≠ "java/lang/invoke/MethodHandle" ∧ y.cls ≠ "java/lang/invoke/VarHandle") (M : OMet l y bytes maxL none [] rm as' Z h Qc) (eT : T.heap = h) (hf : rm.frames + 1 ≤ R.frames) (hl : W + (maxL + 11) + rm.locals ≤ R.locals) (hc : cells + rm.cells ≤ R.cells) (hs : slots + rm.slots ≤ R.slots)
    {b : Addr} (hsz : Ls.size = c.maxLocals) (hlen : ∀ sig, parseMethodDescriptor y.desc = some sig → argsL.length = sig.parameters.length) (hst : st = argsL.reverse ++ .ref b :: rest) (has : (.ref b :: argsL).toArray = as') (hW : 2 * 0 + (rest.map fun v => v.category).sum ≤ W) (hd : decode c.code pc = .ok (.invokespecial index, 3))
    (K : ∀ T' L v, Stand p l e R s m args below meth c T' (locs ++ L) (cells + rm.cells) (slots + rm.slots) → Qc v T'.heap L → ORunF p e below F T' (mkF m (pc + 3) Ls (v.toList ++ rest))) : ORunF p e below F T (mkF m pc Ls st) := by
  obtain ⟨v, _, ⟨T', L', k', n'⟩, -, X', ⟨Lc, hQ, e1, e2, e3⟩, stp⟩ := X.specialBack hx (y := y) hn hown (mvT hZ w1) (mvT hZ w2) (mvT hZ w4) hy (backOf (W := W) M hZ w4 w3 hf hl) (g := mkF m pc Ls st) rfl hsz (Steps.refl _) (a := b) (argsL := argsL) (rest := rest) hlen hst hW hd (fun _ _ => ⟨has, eT, hc, hs⟩)
  dsimp only [Pt.U, Pt.locs, Pt.cells, Pt.slots] at X' e1 e2 e3 stp hQ
  subst e1 e2 e3
  exact own_tr stp (K T' Lc v X' hQ)
theorem own_callV (X : Stand p l e R s m args below meth c T locs cells slots) (hx : p.tables.exec = Jvm.exec) (hZ : Z.Warmed39 s.vm) (hown : s.vm.findClass own = some m.cls) {Cn : String} {b : Addr} (E : Exa Z h b Cn) (w1 : (Jvm.Cond.methodLink own index y).before a0 Z = true) (wd : (Jvm.Cond.declares y).before a0 Z = true) (nf : NotFace s y) (ws : (Jvm.Cond.selects Cn y z).before a0 Z = true) (w2 : (Jvm.Cond.instanceMethod z).before a0 Z = true) (w3 : (Jvm.Cond.initialized z.cls).before a0 Z = true) (w4 : (Jvm.Cond.code z bytes maxL ret).before a0 Z = true)
    (hy : y.cls ≠ "java/lang/invoke/MethodHandle" ∧ y.cls ≠ "java/lang/invoke/VarHandle") (M : OMet l z bytes maxL ret [] rm as' Z h Qc) (eT : T.heap = h) (hf : rm.frames + 1 ≤ R.frames) (hl : W + (maxL + 11) + rm.locals ≤ R.locals) (hc : cells + rm.cells ≤ R.cells) (hs : slots + rm.slots ≤ R.slots)
    (hsz : Ls.size = c.maxLocals) (hlen : ∀ sig, parseMethodDescriptor y.desc = some sig → argsL.length = sig.parameters.length) (hst : st = argsL.reverse ++ .ref b :: rest) (has : (.ref b :: argsL).toArray = as') (hW : 2 * 0 + (rest.map fun v => v.category).sum ≤ W) (hd : decode c.code pc = .ok (.invokevirtual index, 3))
    (K : ∀ T' L v, Stand p l e R s m args below meth c T' (locs ++ L) (cells + rm.cells) (slots + rm.slots) → Qc v T'.heap L → ORunF p e below F T' (mkF m (pc + 3) Ls (v.toList ++ rest))) : ORunF p e below F T (mkF m pc Ls st) := by
  obtain ⟨cq, kq, qa, qb, qc⟩ := isOf hZ eT E
  obtain ⟨v, _, ⟨T', L', k', n'⟩, -, X', ⟨Lc, hQ, e1, e2, e3⟩, stp⟩ := X.virtualBack hx (y := y) (z := z) hown (mvT hZ w1) (mvT hZ wd) nf (mvT hZ ws) (mvT hZ w2) hy (backOf (W := W) M hZ w4 w3 hf hl) qa qc (g := mkF m pc Ls st) rfl hsz (Steps.refl _) (argsL := argsL) (rest := rest) hlen hst hW hd (fun _ _ => ⟨has, eT, hc, hs⟩)
  dsimp only [Pt.U, Pt.locs, Pt.cells, Pt.slots] at X' e1 e2 e3 stp hQ
  subst e1 e2 e3
  exact own_tr stp (K T' Lc v X' hQ)
end Calls
end OwnRun
theorem own_lt {x y : Int32} {a b : Int} (h : x < y) (ha : x.toInt = a) (hb : y.toInt = b) : a < b := by subst ha hb; exact Int32.lt_iff_toInt_lt.mp h
theorem own_nlt {x y : Int32} {a b : Int} (h : ¬ x < y) (ha : x.toInt = a) (hb : y.toInt = b) : b ≤ a := by subst ha hb; exact Int.not_lt.mp fun q => h (Int32.lt_iff_toInt_lt.mpr q)
theorem own_eq {x y : Int32} {a b : Int} (h : x = y) (ha : x.toInt = a) (hb : y.toInt = b) : a = b := by subst ha hb h; rfl
theorem own_ne {x y : Int32} {a b : Int} (h : ¬ x = y) (ha : x.toInt = a) (hb : y.toInt = b) : a ≠ b := by subst ha hb; exact fun q => h (Int32.toInt_inj.mp q)
theorem own_ltL {x y : Int64} {a b : Int} (h : x < y) (ha : x.toInt = a) (hb : y.toInt = b) : a < b := by subst ha hb; exact Int64.lt_iff_toInt_lt.mp h
theorem own_nltL {x y : Int64} {a b : Int} (h : ¬ x < y) (ha : x.toInt = a) (hb : y.toInt = b) : b ≤ a := by subst ha hb; exact Int.not_lt.mp fun q => h (Int64.lt_iff_toInt_lt.mpr q)
theorem own_eqL {x y : Int64} {a b : Int} (h : x = y) (ha : x.toInt = a) (hb : y.toInt = b) : a = b := by subst ha hb h; rfl
theorem own_neL {x y : Int64} {a b : Int} (h : ¬ x = y) (ha : x.toInt = a) (hb : y.toInt = b) : a ≠ b := by subst ha hb; exact fun q => h (Int64.toInt_inj.mp q)
theorem own_lc {cd : ClassFile.Cond} {x y : Int64} {b : Bool} (h : if_icmp.holds cd (lcmpW x y) 0 = b) : ifCond.holds cd (lcmpW x y) = b := (if0 _ _).trans h
theorem own_lclt {x y : Int64} (h : x < y) : ifCond.holds .lt (lcmpW x y) = true ∧ ifCond.holds .ge (lcmpW x y) = false := ⟨own_lc (tlt ((lw_lt x y).mpr h)).1, own_lc (tlt ((lw_lt x y).mpr h)).2.1⟩
theorem own_lcnlt {x y : Int64} (h : ¬ x < y) : ifCond.holds .lt (lcmpW x y) = false ∧ ifCond.holds .ge (lcmpW x y) = true := have q : ¬ lcmpW x y < 0 := fun z => h ((lw_lt x y).mp z); ⟨own_lc (flt q).1, own_lc (flt q).2.1⟩
theorem own_lcgt {x y : Int64} (h : y < x) : ifCond.holds .gt (lcmpW x y) = true ∧ ifCond.holds .le (lcmpW x y) = false := ⟨own_lc (tlt ((lw_gt x y).mpr h)).2.2.1, own_lc (tlt ((lw_gt x y).mpr h)).2.2.2⟩
theorem own_lcngt {x y : Int64} (h : ¬ y < x) : ifCond.holds .gt (lcmpW x y) = false ∧ ifCond.holds .le (lcmpW x y) = true := have q : ¬ 0 < lcmpW x y := fun z => h ((lw_gt x y).mp z); ⟨own_lc (flt q).2.2.1, own_lc (flt q).2.2.2⟩
theorem own_lceq {x y : Int64} (h : x = y) : ifCond.holds .eq (lcmpW x y) = true ∧ ifCond.holds .ne (lcmpW x y) = false := ⟨own_lc (teq ((lw_eq x y).mpr h)).1, own_lc (teq ((lw_eq x y).mpr h)).2⟩
theorem own_lcne {x y : Int64} (h : ¬ x = y) : ifCond.holds .eq (lcmpW x y) = false ∧ ifCond.holds .ne (lcmpW x y) = true := have q : ¬ lcmpW x y = 0 := fun z => h ((lw_eq x y).mp z); ⟨own_lc (feq q).1, own_lc (feq q).2⟩
theorem own_kext {h0 h : Heap} (K : Keep h0 h []) : Ext h0 h := ⟨K.1, fun a c q => K.2.1 a c q nin0⟩
section OwnVec
variable {p : Program} {l : Launch} {e : Env} {R : Room} {s : State} {m : MethodId} {args : Array Value} {below : List Frame} {meth : Method} {c : Code} {T T' : State} {locs : List Loc} {cells slots : Nat} {Q : Option Value → Heap → List Loc → Prop} {C S : Nat} {F : Outcome → State → Prop} {Z : State} {a0 : Array Value} {h h' : Heap} {a b : Addr} {ty : FieldType} {L : List Int32} {pc : Nat} {Ls : Array Slot} {rest : List Value}
/-- the array at a holds the ints of L, and no more -/
def OVec (Z : State) (h : Heap) (a : Addr) (ty : FieldType) (L : List Int32) : Prop := ∃ c : Cell, Arr Z h a c ty ∧ c.slots = (L.map Value.int).toArray
theorem OVec.lt (V : OVec Z h a ty L) : a < h.size := by obtain ⟨c, A, -⟩ := V; exact A.lt
theorem OVec.ext (V : OVec Z h a ty L) (E : Ext h h') : OVec Z h' a ty L := by obtain ⟨c, A, r⟩ := V; exact ⟨c, A.ext E, r⟩
theorem OVec.other {sl : Nat} {v : Value} (V : OVec Z h b ty L) (W : Wr h h' a sl v) (q : b ≠ a) : OVec Z h' b ty L := by obtain ⟨c, A, r⟩ := V; exact ⟨c, A.other W q, r⟩
theorem OVec.keep {ws : List Addr} (V : OVec Z h a ty L) (K : Keep h h' ws) (q : a ∉ ws) : OVec Z h' a ty L := by obtain ⟨c, A, r⟩ := V; exact ⟨c, ⟨K.2.1 a c A.1 q, A.2⟩, r⟩
theorem OVec.set {j : Nat} {x : Int32} (V : OVec Z h a ty L) (W : Wr h h' a j (.int x)) : OVec Z h' a ty (L.set j x) := by
  obtain ⟨c, A, r⟩ := V
  refine ⟨c.setSlot j (.int x), A.same W, ?_⟩
  show c.slots.setIfInBounds j (.int x) = _
  rw [r, List.setIfInBounds_toArray, List.map_set]
theorem OVec.new {k : ClassId} {n : Int32} (A : Arr Z h a (newA k ty n) ty) (hd : defaultValue ty = .int 0) {N : Nat} (hn : n.toInt = N) : OVec Z h a ty (List.replicate N 0) := by
  refine ⟨_, A, ?_⟩
  have e : n.toNatClampNeg = N := by simp only [Int32.toNatClampNeg]; omega
  simp [newA, hd, e]
theorem own_ix {j : Int32} {i : Nat} (hj : j.toInt = i) : ¬ j < 0 ∧ j.toNatClampNeg = i := by
  refine ⟨fun q => ?_, ?_⟩
  · have := Int32.lt_iff_toInt_lt.mp q; have z : (0 : Int32).toInt = 0 := rfl; omega
  · simp only [Int32.toNatClampNeg]; omega
theorem own_in {c : Cell} {j : Int32} {i : Nat} (hj : j.toInt = i) (r : c.slots = (L.map Value.int).toArray) (hi : i < L.length) : ¬ (j < 0 ∨ c.slots.size ≤ j.toNatClampNeg) := by
  obtain ⟨q1, q2⟩ := own_ix hj
  rintro (q | q)
  · exact q1 q
  · rw [r, q2] at q; simp at q; omega
theorem own_iaload (X : Stand p l e R s m args below meth c T locs cells slots) (hx : p.tables.exec = Jvm.exec) (hZ : Z.Warmed39 s.vm) (eT : T.heap = h) (V : OVec Z h a .int L) {j : Int32} {i : Nat} (hj : j.toInt = i) (hi : i < L.length) (hd : decode c.code pc = .ok (.iaload, 1))
    (K : ∀ v, v = L.getD i 0 → ORunF p e below F T (mkF m (pc + 1) Ls (.int v :: rest))) : ORunF p e below F T (mkF m pc Ls (.int j :: .ref a :: rest)) := by
  obtain ⟨cl, A, r⟩ := V
  refine own_by (fun t k => X.iaload hx (j := j) (v := .int (L.getD i 0)) (by rw [eT]; exact A.1) (State.isArrayOf_alike hZ.alike A.2.1) A.2.2 (own_in hj r hi) ?_ (g := mkF m pc Ls (.int j :: .ref a :: rest)) rfl rfl hd _ k) (K _ rfl)
  rw [(own_ix hj).2, r]; simp [List.getD_eq_getElem?_getD, List.getElem?_eq_getElem hi]
theorem own_baload (X : Stand p l e R s m args below meth c T locs cells slots) (hx : p.tables.exec = Jvm.exec) (hZ : Z.Warmed39 s.vm) (eT : T.heap = h) (V : OVec Z h a .byte L) {j : Int32} {i : Nat} (hj : j.toInt = i) (hi : i < L.length) (hd : decode c.code pc = .ok (.baload, 1))
    (K : ∀ v, v = L.getD i 0 → ORunF p e below F T (mkF m (pc + 1) Ls (.int v :: rest))) : ORunF p e below F T (mkF m pc Ls (.int j :: .ref a :: rest)) := by
  obtain ⟨cl, A, r⟩ := V
  refine own_by (fun t k => X.baloadBytes hx (j := j) (v := .int (L.getD i 0)) (by rw [eT]; exact A.1) (State.isArrayOf_alike hZ.alike A.2.1) A.2.2 (own_in hj r hi) ?_ (g := mkF m pc Ls (.int j :: .ref a :: rest)) rfl rfl hd _ k) (K _ rfl)
  rw [(own_ix hj).2, r]; simp [List.getD_eq_getElem?_getD, List.getElem?_eq_getElem hi]
theorem own_len (X : Stand p l e R s m args below meth c T locs cells slots) (hx : p.tables.exec = Jvm.exec) (hZ : Z.Warmed39 s.vm) (eT : T.heap = h) (V : OVec Z h a ty L) {n : Nat} (hl : L.length = n) (hd : decode c.code pc = .ok (.arraylength, 1))
    (K : ORunF p e below F T (mkF m (pc + 1) Ls (.int n.toInt32 :: rest))) : ORunF p e below F T (mkF m pc Ls (.ref a :: rest)) := by
  obtain ⟨cl, A, r⟩ := V
  have hs : cl.slots.size = n := by rw [r]; simp [hl]
  refine own_by (fun t k => X.arraylength hx (by rw [eT]; exact A.1) (State.isArrayOf_alike hZ.alike A.2.1) (g := mkF m pc Ls (.ref a :: rest)) rfl rfl hd _ k) ?_
  rw [hs]; exact K
theorem own_iastore (X : Stand p l e R s m args below meth c T locs cells slots) (hx : p.tables.exec = Jvm.exec) (hZ : Z.Warmed39 s.vm) (eT : T.heap = h) (V : OVec Z h a .int L) {j x : Int32} {i : Nat} (hj : j.toInt = i) (hi : i < L.length) (hd : decode c.code pc = .ok (.iastore, 1))
    (K : ∀ T' h' L', Stand p l e R s m args below meth c T' (locs ++ [⟨a, i⟩]) cells slots → T'.heap = h' → Wr h h' a i (.int x) → L' = L.set i x → OVec Z h' a .int L' → ORunF p e below F T' (mkF m (pc + 1) Ls rest)) : ORunF p e below F T (mkF m pc Ls (.int x :: .int j :: .ref a :: rest)) := by
  obtain ⟨cl, A, r⟩ := id V
  obtain ⟨T', h', X', e', W, st⟩ := stI X hx hZ eT A (own_in hj r hi) (g := mkF m pc Ls (.int x :: .int j :: .ref a :: rest)) rfl rfl hd
  rw [(own_ix hj).2] at X' W
  exact own_by st (K T' h' _ X' e' W rfl (V.set W))
theorem own_bastore (X : Stand p l e R s m args below meth c T locs cells slots) (hx : p.tables.exec = Jvm.exec) (hZ : Z.Warmed39 s.vm) (eT : T.heap = h) (V : OVec Z h a .byte L) {j x : Int32} {i : Nat} (hj : j.toInt = i) (hi : i < L.length) (hd : decode c.code pc = .ok (.bastore, 1))
    (K : ∀ T' h' L', Stand p l e R s m args below meth c T' (locs ++ [⟨a, i⟩]) cells slots → T'.heap = h' → Wr h h' a i (.int (nar .byte x)) → L' = L.set i (nar .byte x) → OVec Z h' a .byte L' → ORunF p e below F T' (mkF m (pc + 1) Ls rest)) : ORunF p e below F T (mkF m pc Ls (.int x :: .int j :: .ref a :: rest)) := by
  obtain ⟨cl, A, r⟩ := id V
  obtain ⟨T', h', X', e', W, st⟩ := stB X hx hZ eT A (own_in hj r hi) (g := mkF m pc Ls (.int x :: .int j :: .ref a :: rest)) rfl rfl hd
  rw [(own_ix hj).2] at X' W
  exact own_by st (K T' h' _ X' e' W rfl (V.set W))
theorem own_newarray (X : Stand p l e R s m args below meth c T locs cells slots) (hx : p.tables.exec = Jvm.exec) (hZ : Z.Warmed39 s.vm) {aty : ArrayType} (w : (Jvm.Cond.arrayClass (newarray.typeOf aty)).before a0 Z = true) (eT : T.heap = h) (hdv : defaultValue (newarray.typeOf aty) = .int 0) {n : Int32} {N cap : Nat} (hn : n.toInt = N) (hcap : N ≤ cap) (hb : cap * 8 ≤ 536870912) (hc : cells + 1 ≤ R.cells) (hl : slots + cap ≤ R.slots) {ad : String} (had : "[" ++ (newarray.typeOf aty).toString = ad) (hd : decode c.code pc = .ok (.newarray aty, 2))
    (K : ∀ T' h' b L', b = h.size → Stand p l e R s m args below meth c T' locs (cells + 1) (slots + cap) → T'.heap = h' → Ext h h' → L' = List.replicate N (0 : Int32) → OVec Z h' b (newarray.typeOf aty) L' → Exa Z h' b ad → ORunF p e below F T' (mkF m (pc + 2) Ls (.ref b :: rest))) : ORunF p e below F T (mkF m pc Ls (.int n :: rest)) := by
  have q := own_ix hn
  obtain ⟨T', h', cA, X', e', E, A, Ex, st⟩ := newPE X hx hZ w eT (g := mkF m pc Ls (.int n :: rest)) rfl hd rfl q.1 (cap := cap) (by rw [q.2]; exact hcap) hb hc hl had
  exact own_by st (K T' h' _ _ rfl X' e' E rfl (OVec.new A hdv hn) Ex)
end OwnVec
section OwnVecJ
variable {p : Program} {l : Launch} {e : Env} {R : Room} {s : State} {m : MethodId} {args : Array Value} {below : List Frame} {meth : Method} {c : Code} {T T' : State} {locs : List Loc} {cells slots : Nat} {Q : Option Value → Heap → List Loc → Prop} {C S : Nat} {F : Outcome → State → Prop} {Z : State} {a0 : Array Value} {h h' : Heap} {a b : Addr} {L : List Int64} {pc : Nat} {Ls : Array Slot} {rest : List Value}
def OVecJ (Z : State) (h : Heap) (a : Addr) (L : List Int64) : Prop := ∃ c : Cell, Arr Z h a c .long ∧ c.slots = (L.map Value.long).toArray
theorem OVecJ.lt (V : OVecJ Z h a L) : a < h.size := by obtain ⟨c, A, -⟩ := V; exact A.lt
theorem OVecJ.ext (V : OVecJ Z h a L) (E : Ext h h') : OVecJ Z h' a L := by obtain ⟨c, A, r⟩ := V; exact ⟨c, A.ext E, r⟩
theorem OVecJ.other {sl : Nat} {v : Value} (V : OVecJ Z h b L) (W : Wr h h' a sl v) (q : b ≠ a) : OVecJ Z h' b L := by obtain ⟨c, A, r⟩ := V; exact ⟨c, A.other W q, r⟩
theorem OVecJ.keep {ws : List Addr} (V : OVecJ Z h a L) (K : Keep h h' ws) (q : a ∉ ws) : OVecJ Z h' a L := by obtain ⟨c, A, r⟩ := V; exact ⟨c, ⟨K.2.1 a c A.1 q, A.2⟩, r⟩
theorem OVecJ.set {j : Nat} {x : Int64} (V : OVecJ Z h a L) (W : Wr h h' a j (.long x)) : OVecJ Z h' a (L.set j x) := by
  obtain ⟨c, A, r⟩ := V
  refine ⟨c.setSlot j (.long x), A.same W, ?_⟩
  show c.slots.setIfInBounds j (.long x) = _
  rw [r, List.setIfInBounds_toArray, List.map_set]
theorem OVecJ.new {k : ClassId} {n : Int32} (A : Arr Z h a (newA k .long n) .long) {N : Nat} (hn : n.toInt = N) : OVecJ Z h a (List.replicate N 0) := by
  refine ⟨_, A, ?_⟩
  have e : n.toNatClampNeg = N := by simp only [Int32.toNatClampNeg]; omega
  have d : defaultValue .long = .long 0 := rfl
  simp [newA, e, d]
theorem own_inJ {c : Cell} {j : Int32} {i : Nat} (hj : j.toInt = i) (r : c.slots = (L.map Value.long).toArray) (hi : i < L.length) : ¬ (j < 0 ∨ c.slots.size ≤ j.toNatClampNeg) := by
  obtain ⟨q1, q2⟩ := own_ix hj
  rintro (q | q)
  · exact q1 q
  · rw [r, q2] at q; simp at q; omega
theorem own_laload (X : Stand p l e R s m args below meth c T locs cells slots) (hx : p.tables.exec = Jvm.exec) (hZ : Z.Warmed39 s.vm) (eT : T.heap = h) (V : OVecJ Z h a L) {j : Int32} {i : Nat} (hj : j.toInt = i) (hi : i < L.length) (hd : decode c.code pc = .ok (.laload, 1))
    (K : ∀ v, v = L.getD i 0 → ORunF p e below F T (mkF m (pc + 1) Ls (.long v :: rest))) : ORunF p e below F T (mkF m pc Ls (.int j :: .ref a :: rest)) := by
  obtain ⟨cl, A, r⟩ := V
  refine own_by (fun t k => X.laload hx (j := j) (v := .long (L.getD i 0)) (by rw [eT]; exact A.1) (State.isArrayOf_alike hZ.alike A.2.1) A.2.2 (own_inJ hj r hi) ?_ (g := mkF m pc Ls (.int j :: .ref a :: rest)) rfl rfl hd _ k) (K _ rfl)
  rw [(own_ix hj).2, r]; simp [List.getD_eq_getElem?_getD, List.getElem?_eq_getElem hi]
theorem own_lastore (X : Stand p l e R s m args below meth c T locs cells slots) (hx : p.tables.exec = Jvm.exec) (hZ : Z.Warmed39 s.vm) (eT : T.heap = h) (V : OVecJ Z h a L) {j : Int32} {x : Int64} {i : Nat} (hj : j.toInt = i) (hi : i < L.length) (hd : decode c.code pc = .ok (.lastore, 1))
    (K : ∀ T' h' L', Stand p l e R s m args below meth c T' (locs ++ [⟨a, i⟩]) cells slots → T'.heap = h' → Wr h h' a i (.long x) → L' = L.set i x → OVecJ Z h' a L' → ORunF p e below F T' (mkF m (pc + 1) Ls rest)) : ORunF p e below F T (mkF m pc Ls (.long x :: .int j :: .ref a :: rest)) := by
  obtain ⟨cl, A, r⟩ := id V
  obtain ⟨T', h', X', e', W, st⟩ := stJ X hx hZ eT A (own_inJ hj r hi) (g := mkF m pc Ls (.long x :: .int j :: .ref a :: rest)) rfl rfl hd
  rw [(own_ix hj).2] at X' W
  exact own_by st (K T' h' _ X' e' W rfl (V.set W))
theorem own_newJ (X : Stand p l e R s m args below meth c T locs cells slots) (hx : p.tables.exec = Jvm.exec) (hZ : Z.Warmed39 s.vm) (w : (Jvm.Cond.arrayClass .long).before a0 Z = true) (eT : T.heap = h) {n : Int32} {N cap : Nat} (hn : n.toInt = N) (hcap : N ≤ cap) (hb : cap * 8 ≤ 536870912) (hc : cells + 1 ≤ R.cells) (hl : slots + cap ≤ R.slots) (hd : decode c.code pc = .ok (.newarray .long, 2))
    (K : ∀ T' h' b L', b = h.size → Stand p l e R s m args below meth c T' locs (cells + 1) (slots + cap) → T'.heap = h' → Ext h h' → L' = List.replicate N (0 : Int64) → OVecJ Z h' b L' → ORunF p e below F T' (mkF m (pc + 2) Ls (.ref b :: rest))) : ORunF p e below F T (mkF m pc Ls (.int n :: rest)) := by
  have q := own_ix hn
  obtain ⟨T', h', cA, X', e', E, A, st⟩ := newP X hx hZ (aty := .long) w eT (g := mkF m pc Ls (.int n :: rest)) rfl hd rfl q.1 (cap := cap) (by rw [q.2]; exact hcap) hb hc hl
  exact own_by st (K T' h' _ _ rfl X' e' E rfl (OVecJ.new A hn))
end OwnVecJ
section OwnCopy
variable {p : Program} {l : Launch} {e : Env} {R : Room} {s : State} {m : MethodId} {args : Array Value} {below : List Frame} {meth : Method} {c : Code} {T T' : State} {locs : List Loc} {cells slots : Nat} {Q : Option Value → Heap → List Loc → Prop} {C S : Nat} {F : Outcome → State → Prop} {Z : State} {a0 : Array Value} {h h' : Heap} {a b : Addr} {ty : FieldType} {L M : List Int32} {pc : Nat} {Ls : Array Slot} {rest : List Value}
theorem own_getD (L : List Int32) (i : Nat) : (L.map Value.int).getD i (.int 0) = .int (L.getD i 0) := by
  simp only [List.getD_eq_getElem?_getD, List.getElem?_map]
  cases L[i]? <;> rfl
theorem OVec.arv (V : OVec Z h a .int L) (hn : L.length < 2 ^ 31) : ∃ k, Arv Z h a k .int (Int32.ofNat L.length) (L.map Value.int) (.int 0) := by
  obtain ⟨cl, A, r⟩ := V
  have e0 : (Int32.ofNat L.length).toInt = L.length := Int32.toInt_ofNat_of_lt hn
  obtain ⟨q1, q2⟩ := own_ix e0
  refine ⟨cl.cls, cl, A, rfl, by rw [q2, r]; simp, q1, fun i hi => ?_, fun i _ => by rw [own_getD]; rfl⟩
  rw [own_getD, r]
  rw [r] at hi
  have hi' : i < L.length := by simpa using hi
  simp [List.getD_eq_getElem?_getD, hi']
theorem OVec.of_arv {k : ClassId} {z : Int32} {vs : List Value} {d : Value} (F : Arv Z h a k ty z vs d) (ev : vs = L.map Value.int) (hl : L.length = z.toNatClampNeg) : OVec Z h a ty L := by
  obtain ⟨cl, A, -, S, -, H, -⟩ := F
  refine ⟨cl, A, ?_⟩
  apply Array.ext_getElem?
  intro i
  by_cases hi : i < L.length
  · rw [H i (by omega), ev]; simp [List.getD_eq_getElem?_getD, hi]
  · rw [Array.getElem?_eq_none (by omega), Array.getElem?_eq_none (by simp; omega)]
theorem own_us (L : List Int32) (i k : Nat) (h : i + k ≤ L.length) : ((List.range k).map fun x => (L.map Value.int).getD (i + x) (.int 0)) = ((L.drop i).take k).map Value.int := by
  apply List.ext_getElem?
  intro x
  by_cases hx : x < k
  · have h2 : i + x < L.length := by omega
    simp [own_getD, hx, List.getD_eq_getElem?_getD, List.getElem?_take, List.getElem?_drop, h2]
  · rw [List.getElem?_eq_none (by simp; omega), List.getElem?_eq_none (by simp; omega)]
theorem own_acopy (X : Stand p l e R s m args below meth c T locs cells slots) (hx : p.tables.exec = Jvm.exec) (hZ : Z.Warmed39 s.vm) {own : String} {index : Nat} (hown : s.vm.findClass own = some m.cls)
    (w1 : (Jvm.Cond.methodLink own index Jvm.Stand.acN).before a0 Z = true) (w2 : (Jvm.Cond.native Jvm.Stand.acN).before a0 Z = true) (w3 : (Jvm.Cond.static Jvm.Stand.acN).before a0 Z = true) (w4 : (Jvm.Cond.initialized "java/lang/System").before a0 Z = true) (eT : T.heap = h)
    (A : OVec Z h a .int L) (B : OVec Z h b .int M) (hL : L.length < 2 ^ 31) (hM : M.length < 2 ^ 31) {sp dp nn : Int32} {i j k : Nat} (hi : sp.toInt = i) (hj : dp.toInt = j) (hk : nn.toInt = k) (h4 : i + k ≤ L.length) (h5 : j + k ≤ M.length) {n0 : Nat} (N : Fr n0 locs) (ge : n0 ≤ b)
    (hsize : Ls.size = c.maxLocals) (hd : decode c.code pc = .ok (.invokestatic index, 3)) (hf : 1 ≤ R.frames) {W : Nat} (hW : 2 * 0 + (rest.map fun v => v.category).sum ≤ W) (hlo : W + (nativeFrameWords "java/lang/System" "arraycopy" 5 + 11) ≤ R.locals)
    (K : ∀ T' h' L2, Stand p l e R s m args below meth c T' L2 cells slots → T'.heap = h' → Fr n0 L2 → Keep h h' [b] → OVec Z h' b .int (M.take j ++ (L.drop i).take k ++ M.drop (j + k)) → ORunF p e below F T' (mkF m (pc + 3) Ls rest)) :
    ORunF p e below F T (mkF m pc Ls (.int nn :: .int dp :: .ref b :: .int sp :: .ref a :: rest)) := by
  obtain ⟨ka, Fa⟩ := A.arv hL
  obtain ⟨kb, Fb⟩ := B.arv hM
  obtain ⟨i1, i2⟩ := own_ix hi
  obtain ⟨j1, j2⟩ := own_ix hj
  obtain ⟨k1, k2⟩ := own_ix hk
  have zl : (Int32.ofNat L.length).toNatClampNeg = L.length := (own_ix (Int32.toInt_ofNat_of_lt hL)).2
  have zm : (Int32.ofNat M.length).toNatClampNeg = M.length := (own_ix (Int32.toInt_ofNat_of_lt hM)).2
  obtain ⟨T', h', L2, X', e', N', K', F', st⟩ := cpA X hx hZ hown w1 w2 w3 w4 eT Fa Fb (Or.inl ⟨rfl, rfl⟩) i1 j1 k1 (by rw [i2, k2, zl]; exact h4) (by rw [j2, k2, zm]; exact h5) rfl (by rw [j2, k2]; simpa using h5) N ge (g := mkF m pc Ls (.int nn :: .int dp :: .ref b :: .int sp :: .ref a :: rest)) rfl hsize rfl hd hf hW hlo
  rw [i2, j2, k2, own_us L i k h4] at F'
  refine own_by st (K T' h' L2 X' e' N' K' (OVec.of_arv F' (by simp) ?_))
  rw [zm]; simp; omega
theorem own_lenv (X : Stand p l e R s m args below meth c T locs cells slots) (hx : p.tables.exec = Jvm.exec) (hZ : Z.Warmed39 s.vm) (eT : T.heap = h) (V : OVec Z h a ty L) {n : Nat} (hl : L.length = n) (hn : n < 2 ^ 31) (hd : decode c.code pc = .ok (.arraylength, 1))
    (K : ∀ v : Int32, v.toInt = n → ORunF p e below F T (mkF m (pc + 1) Ls (.int v :: rest))) : ORunF p e below F T (mkF m pc Ls (.ref a :: rest)) :=
  own_len X hx hZ eT V hl hd (K _ (len_toInt hn))
theorem own_clone (X : Stand p l e R s m args below meth c T locs cells slots) (hx : p.tables.exec = Jvm.exec) (hZ : Z.Warmed39 s.vm) {own : String} {index : Nat} (hown : s.vm.findClass own = some m.cls)
    (w1 : (Jvm.Cond.methodLink own index ⟨"[I", "clone", "()Ljava/lang/Object;"⟩).before a0 Z = true) (w2 : (Jvm.Cond.sameMethod "[I" "java/lang/Object" "clone" "()Ljava/lang/Object;").before a0 Z = true) (w3 : (Jvm.Cond.native ⟨"java/lang/Object", "clone", "()Ljava/lang/Object;"⟩).before a0 Z = true)
    (w4 : (Jvm.Cond.instanceMethod ⟨"java/lang/Object", "clone", "()Ljava/lang/Object;"⟩).before a0 Z = true) (w5 : (Jvm.Cond.selects "[I" ⟨"[I", "clone", "()Ljava/lang/Object;"⟩ ⟨"java/lang/Object", "clone", "()Ljava/lang/Object;"⟩).before a0 Z = true) (w6 : (Jvm.Cond.castable "[I" "java/lang/Cloneable").before a0 Z = true)
    (eT : T.heap = h) (V : OVec Z h a .int L) (E : Exa Z h a "[I") (hsize : Ls.size = c.maxLocals) (hd : decode c.code pc = .ok (.invokevirtual index, 3)) (hf : 1 ≤ R.frames) {W cap : Nat} (hW : 2 * 0 + (rest.map fun v => v.category).sum ≤ W) (hl : W + 14 ≤ R.locals) (hcap : L.length ≤ cap) (hc : cells + 1 ≤ R.cells) (hsl : slots + cap ≤ R.slots)
    (K : ∀ T' h' b, b = h.size → Stand p l e R s m args below meth c T' locs (cells + 1) (slots + cap) → T'.heap = h' → Ext h h' → OVec Z h' b .int L → Exa Z h' b "[I" → ORunF p e below F T' (mkF m (pc + 3) Ls (.ref b :: rest))) :
    ORunF p e below F T (mkF m pc Ls (.ref a :: rest)) := by
  obtain ⟨cl, A, r⟩ := V
  have FC : FitC Z cl := fitC_of A fun i hi v hv => by
    rw [r] at hv
    simp only [List.getElem?_toArray, List.getElem?_map] at hv
    cases hL : L[i]? with
    | none => rw [hL] at hv; cases hv
    | some x => rw [hL] at hv; cases hv; rfl
  obtain ⟨T', h', X', e', ex, A', E', st⟩ := cloneA X hx hZ hown w1 w2 w3 w4 w5 w6 eT A E FC (g := mkF m pc Ls (.ref a :: rest)) rfl hsize rfl hd hf hW hl (by rw [r]; simpa using hcap) hc hsl
  exact own_by st (K T' h' _ rfl X' e' ex ⟨cloneOf cl, A', r⟩ E')
end OwnCopy
section OwnStr
variable {p : Program} {l : Launch} {e : Env} {R : Room} {s : State} {m : MethodId} {args : Array Value} {below : List Frame} {meth : Method} {c : Code} {T T' : State} {locs : List Loc} {cells slots : Nat} {Q : Option Value → Heap → List Loc → Prop} {C S : Nat} {F : Outcome → State → Prop} {Z : State} {a0 : Array Value} {h h' : Heap} {a b : Addr} {ty : FieldType} {L : List Int32} {pc : Nat} {Ls : Array Slot} {rest : List Value}
theorem own_castore (X : Stand p l e R s m args below meth c T locs cells slots) (hx : p.tables.exec = Jvm.exec) (hZ : Z.Warmed39 s.vm) (eT : T.heap = h) (V : OVec Z h a .char L) {j x : Int32} {i : Nat} (hj : j.toInt = i) (hi : i < L.length) (hd : decode c.code pc = .ok (.castore, 1))
    (K : ∀ T' h' L', Stand p l e R s m args below meth c T' (locs ++ [⟨a, i⟩]) cells slots → T'.heap = h' → Wr h h' a i (.int (nar .char x)) → L' = L.set i (nar .char x) → OVec Z h' a .char L' → ORunF p e below F T' (mkF m (pc + 1) Ls rest)) : ORunF p e below F T (mkF m pc Ls (.int x :: .int j :: .ref a :: rest)) := by
  obtain ⟨cl, A, r⟩ := id V
  obtain ⟨T', h', X', e', W, st⟩ := stC X hx hZ eT A (own_in hj r hi) (g := mkF m pc Ls (.int x :: .int j :: .ref a :: rest)) rfl rfl hd
  rw [(own_ix hj).2] at X' W
  exact own_by st (K T' h' _ X' e' W rfl (V.set W))
theorem own_getD' (L : List Int32) (i : Nat) : (L.map Value.int).getD i (.int 0) = .int (L.getD i 0) := by
  simp only [List.getD_eq_getElem?_getD, List.getElem?_map]
  cases L[i]? <;> rfl
theorem OVec.arvC (V : OVec Z h a ty L) (hf : ∀ x ∈ L, fits ty (.int x) = true) (hn : L.length < 2 ^ 31) : ∃ k, Arv Z h a k ty (Int32.ofNat L.length) (L.map Value.int) (.int 0) := by
  obtain ⟨cl, A, r⟩ := V
  have e0 : (Int32.ofNat L.length).toInt = L.length := Int32.toInt_ofNat_of_lt hn
  obtain ⟨q1, q2⟩ := own_ix e0
  refine ⟨cl.cls, cl, A, rfl, by rw [q2, r]; simp, q1, fun i hi => ?_, fun i hi => ?_⟩
  · rw [own_getD', r]
    rw [r] at hi
    have hi' : i < L.length := by simpa using hi
    simp [List.getD_eq_getElem?_getD, hi']
  · rw [own_getD']
    rw [r] at hi
    have hi' : i < L.length := by simpa using hi
    apply hf
    simp [List.getD_eq_getElem?_getD, hi']
theorem own_callCB {own : String} {index : Nat} {y : MethodName} {bytes : ByteArray} {maxL kc ks W : Nat} {as' : Array Value} {Qc : Option Value → Heap → List Loc → Prop} {st argsL : List Value} (X : Stand p l e R s m args below meth c T locs cells slots) (hx : p.tables.exec = Jvm.exec) (hZ : Z.Warmed39 s.vm) (hown : s.vm.findClass own = some m.cls) (hn : y.name = "<init>") (w1 : (Jvm.Cond.methodLink own index y).before a0 Z = true) (w2 : (Jvm.Cond.instanceMethod y).before a0 Z = true) (w4 : (Jvm.Cond.code y bytes maxL none).before a0 Z = true)
    (hy : y.cls ≠ "java/lang/invoke/MethodHandle" ∧ y.cls ≠ "java/lang/invoke/VarHandle") (hK : Back l R p e below s args y 3 W (fun P a => a = as' ∧ P.U.heap = h ∧ P.cells + kc ≤ R.cells ∧ P.slots + ks ≤ R.slots) (fun P _ v B => ∃ L, Qc v B.U.heap L ∧ B.locs = P.locs ++ L ∧ B.cells = P.cells + kc ∧ B.slots = P.slots + ks)) (eT : T.heap = h) (hc : cells + kc ≤ R.cells) (hs : slots + ks ≤ R.slots)
    {b : Addr} (hsz : Ls.size = c.maxLocals) (hlen : ∀ sig, parseMethodDescriptor y.desc = some sig → argsL.length = sig.parameters.length) (hst : st = argsL.reverse ++ .ref b :: rest) (has : (.ref b :: argsL).toArray = as') (hW : 2 * 0 + (rest.map fun v => v.category).sum ≤ W) (hd : decode c.code pc = .ok (.invokespecial index, 3))
    (K : ∀ T' L v, Stand p l e R s m args below meth c T' (locs ++ L) (cells + kc) (slots + ks) → Qc v T'.heap L → ORunF p e below F T' (mkF m (pc + 3) Ls (v.toList ++ rest))) : ORunF p e below F T (mkF m pc Ls st) := by
  obtain ⟨v, _, ⟨T', L', k', n'⟩, -, X', ⟨Lc, hQ, e1, e2, e3⟩, stp⟩ := X.specialBack hx (y := y) hn hown (mvT hZ w1) (mvT hZ w2) (mvT hZ w4) hy hK (g := mkF m pc Ls st) rfl hsz (Steps.refl _) (a := b) (argsL := argsL) (rest := rest) hlen hst hW hd (fun _ _ => ⟨has, eT, hc, hs⟩)
  dsimp only [Pt.U, Pt.locs, Pt.cells, Pt.slots] at X' e1 e2 e3 stp hQ
  subst e1 e2 e3
  exact own_tr stp (K T' Lc v X' hQ)
/-- an array of references to objects of class K -/
def OVecR (Z : State) (h : Heap) (a : Addr) (K : String) (L : List Value) : Prop := ∃ c : Cell, Arr Z h a c (.object K) ∧ Ovr Z c.cls K ∧ c.slots = L.toArray
variable {Kn : String} {Lr : List Value}
theorem OVecR.lt (V : OVecR Z h a Kn Lr) : a < h.size := by obtain ⟨c, A, -⟩ := V; exact A.lt
theorem OVecR.ext (V : OVecR Z h a Kn Lr) (E : Ext h h') : OVecR Z h' a Kn Lr := by obtain ⟨c, A, r⟩ := V; exact ⟨c, A.ext E, r⟩
theorem OVecR.other {sl : Nat} {v : Value} (V : OVecR Z h b Kn Lr) (W : Wr h h' a sl v) (q : b ≠ a) : OVecR Z h' b Kn Lr := by obtain ⟨c, A, r⟩ := V; exact ⟨c, A.other W q, r⟩
theorem OVecR.keep {ws : List Addr} (V : OVecR Z h a Kn Lr) (K : Keep h h' ws) (q : a ∉ ws) : OVecR Z h' a Kn Lr := by obtain ⟨c, A, r⟩ := V; exact ⟨c, ⟨K.2.1 a c A.1 q, A.2⟩, r⟩
theorem own_aastore (X : Stand p l e R s m args below meth c T locs cells slots) (hx : p.tables.exec = Jvm.exec) (hZ : Z.Warmed39 s.vm) (eT : T.heap = h) (V : OVecR Z h a Kn Lr) {x : Addr} (I : Ins Z h x Kn true) {j : Int32} {i : Nat} (hj : j.toInt = i) (hi : i < Lr.length) (hd : decode c.code pc = .ok (.aastore, 1))
    (K : ∀ T' h', Stand p l e R s m args below meth c T' (locs ++ [⟨a, i⟩]) cells slots → T'.heap = h' → Wr h h' a i (.ref x) → OVecR Z h' a Kn (Lr.set i (.ref x)) → ORunF p e below F T' (mkF m (pc + 1) Ls rest)) : ORunF p e below F T (mkF m pc Ls (.ref x :: .int j :: .ref a :: rest)) := by
  obtain ⟨cl, A, O, r⟩ := id V
  have hin : ¬ (j < 0 ∨ cl.slots.size ≤ j.toNatClampNeg) := by
    rintro (q | q)
    · exact (own_ix hj).1 q
    · rw [r, (own_ix hj).2] at q; simp at q; omega
  obtain ⟨T', h', X', e', W, st⟩ := stR X hx hZ eT A hin rfl (Sto.of A O I) (g := mkF m pc Ls (.ref x :: .int j :: .ref a :: rest)) rfl rfl hd
  rw [(own_ix hj).2] at X' W
  refine own_by st (K T' h' X' e' W ⟨cl.setSlot i (.ref x), A.same W, O, ?_⟩)
  show cl.slots.setIfInBounds i (.ref x) = _
  rw [r, List.setIfInBounds_toArray]
theorem own_aaload (X : Stand p l e R s m args below meth c T locs cells slots) (hx : p.tables.exec = Jvm.exec) (hZ : Z.Warmed39 s.vm) (eT : T.heap = h) (V : OVecR Z h a Kn Lr) {j : Int32} {i : Nat} (hj : j.toInt = i) {v : Value} (hi : Lr[i]? = some v) (hd : decode c.code pc = .ok (.aaload, 1))
    (K : ORunF p e below F T (mkF m (pc + 1) Ls (v :: rest))) : ORunF p e below F T (mkF m pc Ls (.int j :: .ref a :: rest)) := by
  obtain ⟨cl, A, O, r⟩ := V
  have hil : i < Lr.length := (List.getElem?_eq_some_iff.mp hi).1
  have hin : ¬ (j < 0 ∨ cl.slots.size ≤ j.toNatClampNeg) := by
    rintro (q | q)
    · exact (own_ix hj).1 q
    · rw [r, (own_ix hj).2] at q; simp at q; omega
  refine own_by (fun t k => X.aaload hx (j := j) (v := v) (by rw [eT]; exact A.1) (State.isArrayOf_alike hZ.alike A.2.1) rfl A.2.2 hin ?_ (g := mkF m pc Ls (.int j :: .ref a :: rest)) rfl rfl hd _ k) K
  rw [(own_ix hj).2, r]; simpa using hi
theorem own_alen (X : Stand p l e R s m args below meth c T locs cells slots) (hx : p.tables.exec = Jvm.exec) (hZ : Z.Warmed39 s.vm) (eT : T.heap = h) (V : OVecR Z h a Kn Lr) {n : Nat} (hl : Lr.length = n) (hd : decode c.code pc = .ok (.arraylength, 1))
    (K : ORunF p e below F T (mkF m (pc + 1) Ls (.int n.toInt32 :: rest))) : ORunF p e below F T (mkF m pc Ls (.ref a :: rest)) := by
  obtain ⟨cl, A, O, r⟩ := V
  have hs : cl.slots.size = n := by rw [r]; simp [hl]
  refine own_by (fun t k => X.arraylength hx (by rw [eT]; exact A.1) (State.isArrayOf_alike hZ.alike A.2.1) (g := mkF m pc Ls (.ref a :: rest)) rfl rfl hd _ k) ?_
  rw [hs]; exact K
theorem own_newR (X : Stand p l e R s m args below meth c T locs cells slots) (hx : p.tables.exec = Jvm.exec) (hZ : Z.Warmed39 s.vm) {own : String} {index : Nat} (hown : s.vm.findClass own = some m.cls) (w1 : (Jvm.Cond.classLink own index Kn).before a0 Z = true) (w2 : (Jvm.Cond.arrayOver (.object Kn)).before a0 Z = true) (eT : T.heap = h) {n : Int32} {N cap : Nat} (hn : n.toInt = N) (hcap : N ≤ cap) (hb : cap * 8 ≤ 536870912) (hc : cells + 1 ≤ R.cells) (hl : slots + cap ≤ R.slots) (hd : decode c.code pc = .ok (.anewarray index, 3))
    (K : ∀ T' h' b, b = h.size → Stand p l e R s m args below meth c T' locs (cells + 1) (slots + cap) → T'.heap = h' → Ext h h' → OVecR Z h' b Kn (List.replicate N .null) → ORunF p e below F T' (mkF m (pc + 3) Ls (.ref b :: rest))) : ORunF p e below F T (mkF m pc Ls (.int n :: rest)) := by
  have q := own_ix hn
  obtain ⟨T', h', cA, X', e', E, A, O, st⟩ := newR X hx hZ hown w1 w2 eT (g := mkF m pc Ls (.int n :: rest)) rfl hd rfl q.1 (cap := cap) (by rw [q.2]; exact hcap) hb hc hl
  refine own_by st (K T' h' _ rfl X' e' E ⟨_, A, O, ?_⟩)
  have d : defaultValue (.object Kn) = .null := rfl
  simp [newA, q.2, d]
end OwnStr
theorem OVec.of_arvE {Z : State} {h : Heap} {a : Addr} {ty : FieldType} {L : List Int32} {k : ClassId} {z : Int32} {vs : List Value} {d : Value} (F : Arv Z h a k ty z vs d) (ev : vs = L.map Value.int) (hl : L.length = z.toNatClampNeg) : OVec Z h a ty L := by
  obtain ⟨cl, A, -, S, -, H, -⟩ := F
  refine ⟨cl, A, ?_⟩
  apply Array.ext_getElem?
  intro i
  by_cases hi : i < L.length
  · rw [H i (by omega), ev]; simp [List.getD_eq_getElem?_getD, hi]
  · rw [Array.getElem?_eq_none (by omega), Array.getElem?_eq_none (by simp; omega)]
section OwnCold
variable {p : Program} {l : Launch} {e : Env} {R : Room} {s : State} {m : MethodId} {args : Array Value} {below : List Frame} {meth : Method} {c : Code} {T T' : State} {locs : List Loc} {cells slots : Nat} {Q : Option Value → Heap → List Loc → Prop} {C S : Nat} {F : Outcome → State → Prop} {Z : State} {a0 : Array Value} {EL : List (String × Nat)} {h : Heap} {vm0 : Vm} {k0 : Nat}
/-- a wide end: literals may have been loaded on the way -/
abbrev OFc (Z : State) (EL : List (String × Nat)) (s : State) (Q : Option Value → Heap → List Loc → Prop) (C S : Nat) : Outcome → State → Prop := fun o s₂ => ∃ v L, o = .returned v ∧ Q v s₂.heap L ∧ CHr Z EL s.vm s.heap s₂.vm s₂.heap ∧ ReturnedEndW s o s₂ L C S
theorem own_mono {s' t : State} {L : List Loc} {k n k' n' : Nat} {o : Outcome} (hr : ReturnedEndW s o t L k n) (hk : k ≤ k') (hn : n ≤ n') : ReturnedEndW s o t L k' n' := ⟨hr.1, hr.2.1, hr.2.2.1, hr.2.2.2.mono hk hn⟩
theorem own_retAc {t : FieldType} {z : Value} {pc : Nat} {Ls : Array Slot} {rest : List Value} (X : Stand p l e R (s.setVm vm0) m args below meth c T locs cells slots) (hx : p.tables.exec = Jvm.exec) (hS : s.Since vm0 k0) (hk : k0 ≤ T.heap.size) (hZ : Z.Warmed39 vm0) (hEL : EW Z a0 EL) (CR : CHr Z EL s.vm s.heap vm0 T.heap) (hret : meth.sig.returnType = some t) (ht : t.isReference = true) (hz : z.isRef = true) (hn : narrow t z = z) (hlk : meth.locks = false) (hd : decode c.code pc = .ok (.areturn, 1)) (hc : cells ≤ C) (hs : slots ≤ S) (hQ : Q (some z) T.heap locs) :
    ORunF p e below (OFc Z EL s Q C S) T (mkF m pc Ls (z :: rest)) := by
  obtain ⟨fs, hr, hrun, hended, hW⟩ := X.leaveW hS hk (v := some z) (fun h => by rw [hret] at h; cases h) hlk
  have q : CHr Z EL s.vm s.heap T.vm T.heap := CR.trans (CHv.at X hZ hEL CR.1)
  exact ⟨_, _, retOut X hx hret hn (Or.inr (Or.inr (Or.inr (Or.inr ⟨rfl, ht, hz⟩)))) hd hr, hrun, hended, _, _, rfl, hQ, q, own_mono (s' := s) hW hc hs⟩
theorem own_retVc {pc : Nat} {Ls : Array Slot} (X : Stand p l e R (s.setVm vm0) m args below meth c T locs cells slots) (hx : p.tables.exec = Jvm.exec) (hS : s.Since vm0 k0) (hk : k0 ≤ T.heap.size) (hZ : Z.Warmed39 vm0) (hEL : EW Z a0 EL) (CR : CHr Z EL s.vm s.heap vm0 T.heap) (hret : meth.sig.returnType = none) (hlk : meth.locks = false) (hd : decode c.code pc = .ok (.return_, 1)) (hc : cells ≤ C) (hs : slots ≤ S) (hQ : Q none T.heap locs) :
    ORunF p e below (OFc Z EL s Q C S) T (mkF m pc Ls []) := by
  obtain ⟨fs, hr, hrun, hended, hW⟩ := X.leaveW hS hk (v := none) (fun _ => rfl) hlk
  have q : CHr Z EL s.vm s.heap T.vm T.heap := CR.trans (CHv.at X hZ hEL CR.1)
  exact ⟨_, _, X.returnOut hx hret hd hr, hrun, hended, _, _, rfl, hQ, q, own_mono (s' := s) hW hc hs⟩
theorem own_retNc {t : FieldType} {z : Int32} {pc : Nat} {Ls : Array Slot} {rest : List Value} (X : Stand p l e R (s.setVm vm0) m args below meth c T locs cells slots) (hx : p.tables.exec = Jvm.exec) (hS : s.Since vm0 k0) (hk : k0 ≤ T.heap.size) (hZ : Z.Warmed39 vm0) (hEL : EW Z a0 EL) (CR : CHr Z EL s.vm s.heap vm0 T.heap) (hret : meth.sig.returnType = some t) (ht : t = .boolean ∨ t = .byte ∨ t = .char ∨ t = .short) (hlk : meth.locks = false) (hd : decode c.code pc = .ok (.ireturn, 1)) (hc : cells ≤ C) (hs : slots ≤ S) (hQ : Q (some (.int (nar t z))) T.heap locs) :
    ORunF p e below (OFc Z EL s Q C S) T (mkF m pc Ls (.int z :: rest)) := by
  obtain ⟨fs, hr, hrun, hended, hW⟩ := X.leaveW hS hk (v := some (.int (nar t z))) (fun h => by rw [hret] at h; cases h) hlk
  have q : CHr Z EL s.vm s.heap T.vm T.heap := CR.trans (CHv.at X hZ hEL CR.1)
  exact ⟨_, _, retN X hx hret ht hd hr, hrun, hended, _, _, rfl, hQ, q, own_mono (s' := s) hW hc hs⟩
/-- a contract with a wide end -/
abbrev OMetH (l : Launch) (y : MethodName) (bytes : ByteArray) (maxL : Nat) (ret : Option FieldType) (ws : List Jvm.Cond) (rm : Room) (as' : Array Value) (Z : State) (EL : List (String × Nat)) (h : Heap) (Q : Option Value → Heap → List Loc → Prop) : Prop :=
  MetFree l y (head1 (Jvm.Cond.code y bytes maxL ret :: ws) rm) (fun a U => a = as' ∧ Z.Warmed39 U.vm ∧ U.heap = h ∧ CHv Z EL U.vm h) (fun _ _ _ _ _ => True) (fun _ U o U' => ∃ v L, o = .returned v ∧ Q v U'.heap L ∧ CHr Z EL U.vm U.heap U'.vm U'.heap ∧ ReturnedEndW U o U' L rm.cells rm.slots)
theorem own_metH {y : MethodName} {bytes : ByteArray} {maxL : Nat} {ret : Option FieldType} {ws : List Jvm.Cond} {rm : Room} {as' : Array Value} (hpn : plainFor y = true)
    (body : ∀ p e s m below meth c s₁, Stand p l e rm (s.setVm s.vm) m as' below meth c s₁ [] 0 0 → p.tables.exec = Jvm.exec → c.code = bytes → c.maxLocals = maxL → s.vm.findClass y.cls = some m.cls → meth.name = y.name → meth.sig.returnType = ret → meth.locks = false → Z.Warmed39 s.vm → s₁.heap = h → s.heap = h → s.Since s.vm 0 → CHr Z EL s.vm s.heap s.vm h →
      ORunF p e below (OFc Z EL s Q rm.cells rm.slots) s₁ (entryFrame m as' maxL)) : OMetH l y bytes maxL ret ws rm as' Z EL h Q := by
  refine MetFree.of_bodySF hpn hisR ?_
  intro p e s m args below meth c s₁ Bd hml0 hP hK
  obtain ⟨rfl, hZ, hh, hCH⟩ := hP
  have X : Stand p l e rm s m args below meth c s₁ [] 0 0 := Stand.of_body Bd
  exact body p e s m below meth c s₁ X Bd.exec Bd.bytes hml0 (findClass_of_methodNamed Bd.named) (name_of_methodNamed Bd.named Bd.method).1 Bd.returns Bd.notSynchronized hZ (by rw [← hh, Bd.state]; rfl) hh ((State.WarmedH.refl s).since 0) (by rw [hh]; exact CHr.refl hCH)
section Calls
variable {own : String} {index : Nat} {y z : MethodName} {bytes : ByteArray} {maxL : Nat} {ret : Option FieldType} {rm : Room} {as' : Array Value} {Qc : Option Value → Heap → List Loc → Prop} {W pc : Nat} {Ls : Array Slot} {st argsL rest : List Value}
theorem own_callSH (X : Stand p l e R (s.setVm vm0) m args below meth c T locs cells slots) (hx : p.tables.exec = Jvm.exec) (hS : s.Since vm0 k0) (hk : k0 ≤ h.size) (hZ : Z.Warmed39 vm0) (hown : vm0.findClass own = some m.cls) (hEL : EW Z a0 EL) (H : CHv Z EL vm0 h) (w1 : (Jvm.Cond.methodLink own index y).before a0 Z = true) (w2 : (Jvm.Cond.static y).before a0 Z = true) (w3 : (Jvm.Cond.initialized y.cls).before a0 Z = true) (w4 : (Jvm.Cond.code y bytes maxL ret).before a0 Z = true)
    (hy : y.cls ≠ "java/lang/invoke/MethodHandle" ∧ y.cls ≠ "java/lang/invoke/VarHandle") (M : OMetH l y bytes maxL ret [] rm as' Z EL h Qc) (eT : T.heap = h) (hf : rm.frames + 1 ≤ R.frames) (hl : W + (maxL + 11) + rm.locals ≤ R.locals) (hc : cells + rm.cells ≤ R.cells) (hs : slots + rm.slots ≤ R.slots)
    (hsz : Ls.size = c.maxLocals) (hlen : ∀ sig, parseMethodDescriptor y.desc = some sig → argsL.length = sig.parameters.length) (hst : st = argsL.reverse ++ rest) (has : argsL.toArray = as') (hW : 2 * 0 + (rest.map fun v => v.category).sum ≤ W) (hd : decode c.code pc = .ok (.invokestatic index, 3))
    (K : ∀ T' L v vm1 k1, Stand p l e R (s.setVm vm1) m args below meth c T' (locs ++ L) (cells + rm.cells) (slots + rm.slots) → s.Since vm1 k1 → k1 ≤ T'.heap.size → Z.Warmed39 vm1 → vm1.findClass own = some m.cls → CHr Z EL vm0 h vm1 T'.heap → Qc v T'.heap L → ORunF p e below F T' (mkF m (pc + 3) Ls (v.toList ++ rest))) : ORunF p e below F T (mkF m pc Ls st) := by
  obtain ⟨v, _, ⟨T', L', k', n'⟩, -, X', hS', hg, ⟨Lc, hQ, e1, e2, e3, hC⟩, stp⟩ := callSS X hx (y := y) hown (mvT (s := s.setVm vm0) hZ w1) (mvT (s := s.setVm vm0) hZ w2) (mvT (s := s.setVm vm0) hZ w3) (mvT (s := s.setVm vm0) hZ w4) hy (backOfSH (W := W) M hZ w4 w3 hf hl hEL H) (g := mkF m pc Ls st) rfl hsz (argsL := argsL) (rest := rest) hlen hst hW hd (fun _ _ => ⟨has, eT, hc, hs⟩)
  dsimp only [Pt.U, Pt.locs, Pt.cells, Pt.slots] at X' e1 e2 e3 stp hQ hS' hg hC
  subst e1 e2 e3
  obtain ⟨X2, hS2, hZ2, hown2⟩ := rebS hS (by rw [eT]; exact hk) X' hS' hg hZ hown
  exact own_tr stp (K T' Lc v _ _ X2 hS2 (Nat.le_refl _) hZ2 hown2 hC hQ)
theorem own_callCH (X : Stand p l e R (s.setVm vm0) m args below meth c T locs cells slots) (hx : p.tables.exec = Jvm.exec) (hS : s.Since vm0 k0) (hk : k0 ≤ h.size) (hZ : Z.Warmed39 vm0) (hown : vm0.findClass own = some m.cls) (hEL : EW Z a0 EL) (H : CHv Z EL vm0 h) (hn : y.name = "<init>") (w1 : (Jvm.Cond.methodLink own index y).before a0 Z = true) (w2 : (Jvm.Cond.instanceMethod y).before a0 Z = true) (w3 : (Jvm.Cond.initialized y.cls).before a0 Z = true) (w4 : (Jvm.Cond.code y bytes maxL none).before a0 Z = true)
    (hy : y.cls ≠ "java/lang/invoke/MethodHandle" ∧ y.cls ≠ "java/lang/invoke/VarHandle") (M : OMetH l y bytes maxL none [] rm as' Z EL h Qc) (eT : T.heap = h) (hf : rm.frames + 1 ≤ R.frames) (hl : W + (maxL + 11) + rm.locals ≤ R.locals) (hc : cells + rm.cells ≤ R.cells) (hs : slots + rm.slots ≤ R.slots)
    {b : Addr} (hsz : Ls.size = c.maxLocals) (hlen : ∀ sig, parseMethodDescriptor y.desc = some sig → argsL.length = sig.parameters.length) (hst : st = argsL.reverse ++ .ref b :: rest) (has : (.ref b :: argsL).toArray = as') (hW : 2 * 0 + (rest.map fun v => v.category).sum ≤ W) (hd : decode c.code pc = .ok (.invokespecial index, 3))
    (K : ∀ T' L v vm1 k1, Stand p l e R (s.setVm vm1) m args below meth c T' (locs ++ L) (cells + rm.cells) (slots + rm.slots) → s.Since vm1 k1 → k1 ≤ T'.heap.size → Z.Warmed39 vm1 → vm1.findClass own = some m.cls → CHr Z EL vm0 h vm1 T'.heap → Qc v T'.heap L → ORunF p e below F T' (mkF m (pc + 3) Ls (v.toList ++ rest))) : ORunF p e below F T (mkF m pc Ls st) := by
  obtain ⟨v, _, ⟨T', L', k', n'⟩, -, X', hS', hg, ⟨Lc, hQ, e1, e2, e3, hC⟩, stp⟩ := X.specialBackS hx (y := y) hn hown (mvT (s := s.setVm vm0) hZ w1) (mvT (s := s.setVm vm0) hZ w2) (mvT (s := s.setVm vm0) hZ w4) hy (backOfSH (W := W) M hZ w4 w3 hf hl hEL H) (g := mkF m pc Ls st) rfl hsz (Steps.refl _) (a := b) (argsL := argsL) (rest := rest) hlen hst hW hd (fun _ _ => ⟨has, eT, hc, hs⟩)
  dsimp only [Pt.U, Pt.locs, Pt.cells, Pt.slots] at X' e1 e2 e3 stp hQ hS' hg hC
  subst e1 e2 e3
  obtain ⟨X2, hS2, hZ2, hown2⟩ := rebS hS (by rw [eT]; exact hk) X' hS' hg hZ hown
  exact own_tr stp (K T' Lc v _ _ X2 hS2 (Nat.le_refl _) hZ2 hown2 hC hQ)
theorem own_callVH (X : Stand p l e R (s.setVm vm0) m args below meth c T locs cells slots) (hx : p.tables.exec = Jvm.exec) (hS : s.Since vm0 k0) (hk : k0 ≤ h.size) (hZ : Z.Warmed39 vm0) (hown : vm0.findClass own = some m.cls) (hEL : EW Z a0 EL) (H : CHv Z EL vm0 h) {Cn : String} {b : Addr} (E : Exa Z h b Cn) (w1 : (Jvm.Cond.methodLink own index y).before a0 Z = true) (wd : (Jvm.Cond.declares y).before a0 Z = true) (nf : NotFace (s.setVm vm0) y) (ws : (Jvm.Cond.selects Cn y z).before a0 Z = true) (w2 : (Jvm.Cond.instanceMethod z).before a0 Z = true) (w3 : (Jvm.Cond.initialized z.cls).before a0 Z = true) (w4 : (Jvm.Cond.code z bytes maxL ret).before a0 Z = true)
    (hy : y.cls ≠ "java/lang/invoke/MethodHandle" ∧ y.cls ≠ "java/lang/invoke/VarHandle") (M : OMetH l z bytes maxL ret [] rm as' Z EL h Qc) (eT : T.heap = h) (hf : rm.frames + 1 ≤ R.frames) (hl : W + (maxL + 11) + rm.locals ≤ R.locals) (hc : cells + rm.cells ≤ R.cells) (hs : slots + rm.slots ≤ R.slots)
    (hsz : Ls.size = c.maxLocals) (hlen : ∀ sig, parseMethodDescriptor y.desc = some sig → argsL.length = sig.parameters.length) (hst : st = argsL.reverse ++ .ref b :: rest) (has : (.ref b :: argsL).toArray = as') (hW : 2 * 0 + (rest.map fun v => v.category).sum ≤ W) (hd : decode c.code pc = .ok (.invokevirtual index, 3))
    (K : ∀ T' L v vm1 k1, Stand p l e R (s.setVm vm1) m args below meth c T' (locs ++ L) (cells + rm.cells) (slots + rm.slots) → s.Since vm1 k1 → k1 ≤ T'.heap.size → Z.Warmed39 vm1 → vm1.findClass own = some m.cls → CHr Z EL vm0 h vm1 T'.heap → Qc v T'.heap L → ORunF p e below F T' (mkF m (pc + 3) Ls (v.toList ++ rest))) : ORunF p e below F T (mkF m pc Ls st) := by
  obtain ⟨cq, kq, qa, qb, qc⟩ := isOf (s := s.setVm vm0) hZ eT E
  obtain ⟨v, _, ⟨T', L', k', n'⟩, -, X', hS', hg, ⟨Lc, hQ, e1, e2, e3, hC⟩, stp⟩ := X.virtualBackS hx (y := y) (z := z) hown (mvT (s := s.setVm vm0) hZ w1) (mvT (s := s.setVm vm0) hZ wd) nf (mvT (s := s.setVm vm0) hZ ws) (mvT (s := s.setVm vm0) hZ w2) hy (backOfSH (W := W) M hZ w4 w3 hf hl hEL H) qa qc (g := mkF m pc Ls st) rfl hsz (Steps.refl _) (argsL := argsL) (rest := rest) hlen hst hW hd (fun _ _ => ⟨has, eT, hc, hs⟩)
  dsimp only [Pt.U, Pt.locs, Pt.cells, Pt.slots] at X' e1 e2 e3 stp hQ hS' hg hC
  subst e1 e2 e3
  obtain ⟨X2, hS2, hZ2, hown2⟩ := rebS hS (by rw [eT]; exact hk) X' hS' hg hZ hown
  exact own_tr stp (K T' Lc v _ _ X2 hS2 (Nat.le_refl _) hZ2 hown2 hC hQ)
/-- the literal "" -/
theorem own_ldc0 (X : Stand p l e R (s.setVm vm0) m args below meth c T locs cells slots) (hx : p.tables.exec = Jvm.exec) (hS : s.Since vm0 k0) (hk : k0 ≤ h.size) (hZ : Z.Warmed39 vm0) (hown : vm0.findClass own = some m.cls) (hEL : EW Z a0 EL) (H : CHv Z EL vm0 h) (w : (Jvm.Cond.stringLink own index "").before a0 Z = true) (wS : ∀ a ∈ Bundle.stringAtoms, a.before a0 Z = true) (hmem : (own, index) ∈ EL) (eT : T.heap = h) (hd : decode c.code pc = .ok (.ldc index, 2)) (hc : cells + 2 ≤ R.cells) (hl' : slots + 4 ≤ R.slots)
    (K : ∀ a b T' h' vm1 k1, Stand p l e R (s.setVm vm1) m args below meth c T' locs (cells + 2) (slots + 4) → T'.heap = h' → Ext h h' → s.Since vm1 k1 → k1 ≤ h'.size → Z.Warmed39 vm1 → vm1.findClass own = some m.cls → Exa Z h' a "java/lang/String" → Fld Z h' a "java/lang/String" "coder" "B" (.int 0) → Fld Z h' a "java/lang/String" "value" "[B" (.ref b) → OVec Z h' b .byte [] → CHr Z EL vm0 h vm1 h' → (∀ x, Safe Z EL vm1 h' x → x ≠ a ∧ x ≠ b) → ORunF p e below F T' (mkF m (pc + 2) Ls (.ref a :: rest))) : ORunF p e below F T (mkF m pc Ls rest) := by
  obtain ⟨a, T', h', k1, b, k, X', e', E, hS', hk', hZ', hown', Ex, Fc, Fv, Av, -, -, hC, -, hSf, stp⟩ := ldcCH X hx hZ hown w wS eT hS hk hEL hmem H (vs := []) (z := 0) ⟨by simp, rfl⟩ (by decide) rfl (g := mkF m pc Ls rest) rfl hd (n := 0) (by decide) (by decide) hc hl'
  exact own_by stp (K a b T' h' _ k1 X' e' E hS' hk' hZ' hown' Ex Fc Fv (OVec.of_arvE Av rfl rfl) hC hSf)
end Calls
end OwnCold
section OwnStr
variable {p : Program} {l : Launch} {e : Env} {R : Room} {s : State} {m : MethodId} {args : Array Value} {below : List Frame} {meth : Method} {c : Code} {T T' : State} {locs : List Loc} {cells slots : Nat} {F : Outcome → State → Prop} {Z : State} {a0 : Array Value} {EL : List (String × Nat)} {h h' : Heap} {a b : Addr} {L M : List Int32} {pc : Nat} {Ls : Array Slot} {rest : List Value} {vm0 : Vm} {k0 : Nat}
theorem own_acopyB (X : Stand p l e R s m args below meth c T locs cells slots) (hx : p.tables.exec = Jvm.exec) (hZ : Z.Warmed39 s.vm) {own : String} {index : Nat} (hown : s.vm.findClass own = some m.cls)
    (w1 : (Jvm.Cond.methodLink own index Jvm.Stand.acN).before a0 Z = true) (w2 : (Jvm.Cond.native Jvm.Stand.acN).before a0 Z = true) (w3 : (Jvm.Cond.static Jvm.Stand.acN).before a0 Z = true) (w4 : (Jvm.Cond.initialized "java/lang/System").before a0 Z = true) (eT : T.heap = h)
    (A : OVec Z h a .byte L) (B : OVec Z h b .byte M) (fA : ∀ x ∈ L, fits .byte (.int x) = true) (fB : ∀ x ∈ M, fits .byte (.int x) = true) (hL : L.length < 2 ^ 31) (hM : M.length < 2 ^ 31) {sp dp nn : Int32} {i j k : Nat} (hi : sp.toInt = i) (hj : dp.toInt = j) (hk : nn.toInt = k) (h4 : i + k ≤ L.length) (h5 : j + k ≤ M.length) {n0 : Nat} (N : Fr n0 locs) (ge : n0 ≤ b)
    (hsize : Ls.size = c.maxLocals) (hd : decode c.code pc = .ok (.invokestatic index, 3)) (hf : 1 ≤ R.frames) {W : Nat} (hW : 2 * 0 + (rest.map fun v => v.category).sum ≤ W) (hlo : W + (nativeFrameWords "java/lang/System" "arraycopy" 5 + 11) ≤ R.locals)
    (K : ∀ T' h' L2, Stand p l e R s m args below meth c T' L2 cells slots → T'.heap = h' → Fr n0 L2 → Keep h h' [b] → OVec Z h' b .byte (M.take j ++ (L.drop i).take k ++ M.drop (j + k)) → ORunF p e below F T' (mkF m (pc + 3) Ls rest)) :
    ORunF p e below F T (mkF m pc Ls (.int nn :: .int dp :: .ref b :: .int sp :: .ref a :: rest)) := by
  obtain ⟨ka, Fa⟩ := A.arvC fA hL
  obtain ⟨kb, Fb⟩ := B.arvC fB hM
  obtain ⟨i1, i2⟩ := own_ix hi
  obtain ⟨j1, j2⟩ := own_ix hj
  obtain ⟨k1, k2⟩ := own_ix hk
  have zl : (Int32.ofNat L.length).toNatClampNeg = L.length := (own_ix (Int32.toInt_ofNat_of_lt hL)).2
  have zm : (Int32.ofNat M.length).toNatClampNeg = M.length := (own_ix (Int32.toInt_ofNat_of_lt hM)).2
  obtain ⟨T', h', L2, X', e', N', K', F', st⟩ := cpA X hx hZ hown w1 w2 w3 w4 eT Fa Fb (Or.inl ⟨rfl, rfl⟩) i1 j1 k1 (by rw [i2, k2, zl]; exact h4) (by rw [j2, k2, zm]; exact h5) rfl (by rw [j2, k2]; simpa using h5) N ge (g := mkF m pc Ls (.int nn :: .int dp :: .ref b :: .int sp :: .ref a :: rest)) rfl hsize rfl hd hf hW hlo
  rw [i2, j2, k2, own_us L i k h4] at F'
  refine own_by st (K T' h' L2 X' e' N' K' (OVec.of_arv F' (by simp) ?_))
  rw [zm]; simp; omega
def own_bt (c : Int32) : Int32 := c.toInt8.toInt32
/-- a String at x with these bytes -/
def OStr (Z : State) (h : Heap) (x : Addr) (bs : List Int32) : Prop := Exa Z h x "java/lang/String" ∧ Fld Z h x "java/lang/String" "coder" "B" (.int 0) ∧ ∃ t, Fld Z h x "java/lang/String" "value" "[B" (.ref t) ∧ OVec Z h t .byte bs ∧ ∀ y ∈ bs, fits .byte (.int y) = true
theorem own_fit_bt (cs : List Int32) : ∀ y ∈ cs.map own_bt, fits .byte (.int y) = true := fun y hy => by
  obtain ⟨c, -, rfl⟩ := List.mem_map.mp hy
  exact fits_nar_byte c
abbrev QStr (Z : State) (h0 : Heap) (n0 : Nat) (x : Addr) (bs : List Int32) : Option Value → Heap → List Loc → Prop := fun v h L => v = none ∧ Fr n0 L ∧ Keep h0 h [x] ∧ OStr Z h x bs
theorem own_strC {own : String} {index W n0 kI : Nat} {bytes : ByteArray} {rm : Room} {cs : List Int32} {x : Addr} {z : Int32} {v0 c0 : Value} (X : Stand p l e R (s.setVm vm0) m args below meth c T locs cells slots) (hx : p.tables.exec = Jvm.exec) (hS : s.Since vm0 k0) (hk : k0 ≤ h.size) (hZ : Z.Warmed39 vm0) (hown : vm0.findClass own = some m.cls) (hEL : EW Z a0 EL) (H : CHv Z EL vm0 h)
    (w1 : (Jvm.Cond.methodLink own index (⟨"java/lang/String", "<init>", "([C)V"⟩ : MethodName)).before a0 Z = true) (w2 : (Jvm.Cond.instanceMethod (⟨"java/lang/String", "<init>", "([C)V"⟩ : MethodName)).before a0 Z = true) (w3 : (Jvm.Cond.initialized "java/lang/String").before a0 Z = true) (w4 : (Jvm.Cond.code (⟨"java/lang/String", "<init>", "([C)V"⟩ : MethodName) bytes 2 none).before a0 Z = true)
    (hws : ∀ d ∈ StrChars.Road.words, d.before a0 Z = true) (wi : (Jvm.Cond.instantiable "java/lang/String" kI).before a0 Z = true) (hx0 : n0 ≤ x) (hh0 : n0 ≤ h.size) (Sx : Safe Z EL vm0 h x) (E : Exa Z h x "java/lang/String") (V : Fld Z h x "java/lang/String" "value" "[B" v0) (Cc : Fld Z h x "java/lang/String" "coder" "B" c0) (Vb : OVec Z h b .char cs) (hp : ∀ c ∈ cs, 0 ≤ c.toInt ∧ c.toInt < 256) (hl4 : cs.length ≤ 4) (S : Sta Z h "java/lang/String" "COMPACT_STRINGS" "Z" (.int z)) (hz : ¬ z = 0)
    (M0 : cs = [] → OMetH l (⟨"java/lang/String", "<init>", "([C)V"⟩ : MethodName) bytes 2 none [] rm #[.ref x, .ref b] Z EL h (QStr Z h n0 x [])) (eT : T.heap = h) (hf : rm.frames + 1 ≤ R.frames) (hl : W + (2 + 11) + rm.locals ≤ R.locals) (hf4 : 4 ≤ R.frames) (hl65 : W + 65 ≤ R.locals) (hc : cells + 4 ≤ R.cells) (hs : slots + 8 ≤ R.slots) (hr1 : rm.cells = 4) (hr2 : rm.slots = 8)
    (hsz : Ls.size = c.maxLocals) (hlen : ∀ sig, parseMethodDescriptor "([C)V" = some sig → 1 = sig.parameters.length) (hW : 2 * 0 + (rest.map fun v => v.category).sum ≤ W) (hd : decode c.code pc = .ok (.invokespecial index, 3))
    (K : ∀ T' L' vm1 k1, Stand p l e R (s.setVm vm1) m args below meth c T' (locs ++ L') (cells + 4) (slots + 8) → s.Since vm1 k1 → k1 ≤ T'.heap.size → Z.Warmed39 vm1 → vm1.findClass own = some m.cls → CHr Z EL vm0 h vm1 T'.heap → Fr n0 L' → Keep h T'.heap [x] → OStr Z T'.heap x (cs.map own_bt) → ORunF p e below F T' (mkF m (pc + 3) Ls rest)) : ORunF p e below F T (mkF m pc Ls (.ref b :: .ref x :: rest)) := by
  by_cases h0 : cs = []
  · refine own_callCH X hx hS hk hZ hown hEL H rfl w1 w2 w3 w4 (by decide) (M0 h0) eT hf (W := W) hl (by rw [hr1]; exact hc) (by rw [hr2]; exact hs) (b := x) (argsL := [.ref b]) (rest := rest) hsz hlen rfl rfl hW hd ?_
    intro T' L' v vm1 k1 X' hS' hk' hZ' hown' CR hQ
    obtain ⟨rfl, N, Kp, O⟩ := hQ
    rw [hr1, hr2] at X'
    subst h0
    exact K T' L' vm1 k1 X' hS' hk' hZ' hown' CR N Kp O
  · have hlt : ∀ c ∈ cs, ¬ c < 0 ∧ ¬ (255 : Int32) < c := fun c hc => by
      have q := hp c hc
      have z0 : (0 : Int32).toInt = 0 := rfl
      have z1 : (255 : Int32).toInt = 255 := rfl
      exact ⟨fun q => by rw [Int32.lt_iff_toInt_lt] at q; omega, fun q => by rw [Int32.lt_iff_toInt_lt] at q; omega⟩
    have hft : ∀ x ∈ cs, fits .char (.int x) = true := fun x hx => by
      have q := hp x hx
      have q2 := c_i2c x
      have e : nar .char x = x := Int32.toInt_inj.mp (by show x.toUInt32.toUInt16.toUInt32.toInt32.toInt = _; omega)
      rw [← e]; exact fits_nar_char x
    obtain ⟨kc, Ar⟩ := Vb.arvC hft (by omega)
    have hpos : 0 < cs.length := List.length_pos_iff.mpr h0
    refine own_callCB X hx hZ hown rfl w1 w2 w4 (by decide) (W := W) (kc := 1) (ks := cs.length) (StrChars.Road.backV (W := W) (s := s.setVm vm0) hZ hws wi hx0 hh0 E V Cc Ar S hz rfl rfl hpos (by omega) hlt rfl hf4 hl65) eT (by omega) (by omega) (b := x) (argsL := [.ref b]) (rest := rest) hsz hlen rfl rfl hW hd ?_
    intro T' L' v X' hQ
    obtain ⟨rfl, N, Kp, En, Fc, t, kb, gt, sz, nt, Fv, Ab⟩ := hQ
    have hlen' : (cs.map own_bt).length = (Int32.ofNat cs.length).toNatClampNeg := by rw [(own_ix (Int32.toInt_ofNat_of_lt (by omega : cs.length < 2 ^ 31))).2]; simp
    exact K T' L' vm0 k0 (X'.mono (by omega) (by omega)) hS (Nat.le_trans hk Kp.1) hZ hown (CHr.keep Kp (sfS Sx sf0) H) N Kp ⟨En, Fc, t, Fv, OVec.of_arvE Ab rfl hlen', own_fit_bt cs⟩
theorem own_safe0 {vm : Vm} {x : Addr} (hal : Z.vm.Alike vm) (E : Exa Z h x "java/lang/String") (Fv : Fld Z h x "java/lang/String" "value" "[B" .null) : Safe Z EL vm h x := fun B => by
  obtain ⟨p, -, u, a, -, q, -, F, rfl | rfl⟩ := B
  · obtain ⟨cell, cf, k, i, f, g1, g2, -, -, -, -, g7⟩ := Fv
    have e0 := (show h[q.sa]? = some q.sC from F.ha)
    obtain rfl : q.sC = cell := Option.some.inj (e0.symm.trans g1)
    obtain ⟨cS, ⟨⟨-, -, -, ⟨c1, k1, i1, f1, -⟩, -, -, -, v1, -⟩, -⟩, -⟩ := F
    obtain ⟨k3, e3, -⟩ := State.fieldFound?_setVm (s := Z) hal g2
    have e4 := (show (Wst Z vm h).fieldFound? _ _ _ = _ from e3).symm.trans f1
    simp only [Option.some.injEq, Prod.mk.injEq] at e4
    rw [← e4.2.2.2, g7] at v1
    cases v1
  · obtain ⟨cell, k, e1, e2, e3, -, -⟩ := E
    cases (show h[q.sd]? = some q.SA from F.hd).symm.trans e1
    obtain ⟨cS, -, -, f, -⟩ := F
    have f' := (show vm.findClass "[B" = some q.SA.cls from f)
    rw [hal.findClass] at f'
    obtain ⟨k1, q1, q2⟩ := Vm.findClass_spec f'
    obtain ⟨k2, q3, q4⟩ := Vm.findClass_spec e2
    cases q1.symm.trans q3
    exact absurd (q2.symm.trans q4) (by decide)
theorem own_narC {x : Int32} (h0 : 0 ≤ x.toInt) (h1 : x.toInt < 65536) : nar .char x = x := by
  have q := c_i2c x
  exact Int32.toInt_inj.mp (by show x.toUInt32.toUInt16.toUInt32.toInt32.toInt = _; omega)
theorem own_btI {c : Int32} (h0 : 0 ≤ c.toInt) (h1 : c.toInt < 256) {q : Int} (q0 : 0 ≤ q) (q1 : q < 128) : (own_bt c).toInt = q ↔ c.toInt = q := by
  have z := c_i2b c
  have e : (own_bt c).toInt = c.toInt8.toInt32.toInt := rfl
  rw [e]
  constructor <;> intro h <;> omega
theorem own_lt0 {P : Nat → Prop} : ∀ j, j < 0 → P j := fun j h => absurd h (Nat.not_lt_zero j)
theorem own_ltS {P : Nat → Prop} {n : Nat} (h : ∀ j, j < n → P j) (hn : P n) : ∀ j, j < n + 1 → P j := fun j hj => by
  by_cases q : j < n
  · exact h j q
  · have : j = n := by omega
    rw [this]; exact hn
theorem own_fin {c0 c1 c2 c3 C : Int32} {n d : Int32} {kk : Nat} (r0 : 0 ≤ c0.toInt ∧ c0.toInt < 256) (r1 : 0 ≤ c1.toInt ∧ c1.toInt < 256) (r2 : 0 ≤ c2.toInt ∧ c2.toInt < 256) (r3 : 0 ≤ c3.toInt ∧ c3.toInt < 256) (hC : 0 ≤ C.toInt ∧ C.toInt < 128) (hn : 0 ≤ n.toInt ∧ n.toInt ≤ 4)
    (hd : 0 ≤ d.toInt ∧ d.toInt ≤ n.toInt ∧ (0 < d.toInt → c0.toInt ≠ C.toInt) ∧ (1 < d.toInt → c1.toInt ≠ C.toInt) ∧ (2 < d.toInt → c2.toInt ≠ C.toInt) ∧ (3 < d.toInt → c3.toInt ≠ C.toInt) ∧ (d.toInt = 0 → 0 < n.toInt → c0.toInt = C.toInt) ∧ (d.toInt = 1 → 1 < n.toInt → c1.toInt = C.toInt) ∧ (d.toInt = 2 → 2 < n.toInt → c2.toInt = C.toInt) ∧ (d.toInt = 3 → 3 < n.toInt → c3.toInt = C.toInt))
    (hk : kk ≤ n.toInt.toNat) (h1 : ∀ j, j < kk → ((([c0, c1, c2, c3].take n.toInt.toNat).map own_bt).getD j 0) ≠ C) (h2 : kk < n.toInt.toNat → (([c0, c1, c2, c3].take n.toInt.toNat).map own_bt).getD kk 0 = C) :
    (([c0, c1, c2, c3].take n.toInt.toNat).map own_bt).take kk = ([c0, c1, c2, c3].take d.toInt.toNat).map own_bt := by
  have g : ∀ j, j < n.toInt.toNat → ((([c0, c1, c2, c3].take n.toInt.toNat).map own_bt).getD j 0) = own_bt ([c0, c1, c2, c3].getD j 0) := fun j hj => by
    have h4 : j < [c0, c1, c2, c3].length := by simp; omega
    rw [List.getD_eq_getElem?_getD, List.getElem?_map, List.getElem?_take, if_pos hj, List.getD_eq_getElem?_getD, List.getElem?_eq_getElem h4]; rfl
  have b0 := own_btI r0.1 r0.2 hC.1 hC.2
  have b1 := own_btI r1.1 r1.2 hC.1 hC.2
  have b2 := own_btI r2.1 r2.2 hC.1 hC.2
  have b3 := own_btI r3.1 r3.2 hC.1 hC.2
  obtain ⟨e0, e1, p0, p1, p2, p3, q0, q1, q2, q3⟩ := hd
  have hkd : kk = d.toInt.toNat := by
    clear r0 r1 r2 r3 hC
    rcases Nat.lt_trichotomy kk d.toInt.toNat with q | q | q
    · have z := h2 (by clear b0 b1 b2 b3 p0 p1 p2 p3 q0 q1 q2 q3; omega)
      rw [g kk (by clear b0 b1 b2 b3 p0 p1 p2 p3 q0 q1 q2 q3; omega)] at z
      have z' := congrArg Int32.toInt z
      obtain rfl | rfl | rfl | rfl : kk = 0 ∨ kk = 1 ∨ kk = 2 ∨ kk = 3 := by clear b0 b1 b2 b3 p0 p1 p2 p3 q0 q1 q2 q3 z z'; omega
      · exact absurd (b0.mp z') (p0 (by clear b0 b1 b2 b3 p0 p1 p2 p3 q0 q1 q2 q3 z z'; omega))
      · exact absurd (b1.mp z') (p1 (by clear b0 b1 b2 b3 p0 p1 p2 p3 q0 q1 q2 q3 z z'; omega))
      · exact absurd (b2.mp z') (p2 (by clear b0 b1 b2 b3 p0 p1 p2 p3 q0 q1 q2 q3 z z'; omega))
      · exact absurd (b3.mp z') (p3 (by clear b0 b1 b2 b3 p0 p1 p2 p3 q0 q1 q2 q3 z z'; omega))
    · exact q
    · have z := h1 d.toInt.toNat q
      rw [g _ (by clear b0 b1 b2 b3 p0 p1 p2 p3 q0 q1 q2 q3; omega)] at z
      have z' : (own_bt ([c0, c1, c2, c3].getD d.toInt.toNat 0)).toInt ≠ C.toInt := fun q => z (Int32.toInt_inj.mp q)
      clear z
      obtain w | w | w | w : d.toInt.toNat = 0 ∨ d.toInt.toNat = 1 ∨ d.toInt.toNat = 2 ∨ d.toInt.toNat = 3 := by clear b0 b1 b2 b3 p0 p1 p2 p3 q0 q1 q2 q3 z'; omega
      · rw [w] at z'
        exact absurd (b0.mpr (q0 (by clear b0 b1 b2 b3 p0 p1 p2 p3 q0 q1 q2 q3 z'; omega) (by clear b0 b1 b2 b3 p0 p1 p2 p3 q0 q1 q2 q3 z'; omega))) z'
      · rw [w] at z'
        exact absurd (b1.mpr (q1 (by clear b0 b1 b2 b3 p0 p1 p2 p3 q0 q1 q2 q3 z'; omega) (by clear b0 b1 b2 b3 p0 p1 p2 p3 q0 q1 q2 q3 z'; omega))) z'
      · rw [w] at z'
        exact absurd (b2.mpr (q2 (by clear b0 b1 b2 b3 p0 p1 p2 p3 q0 q1 q2 q3 z'; omega) (by clear b0 b1 b2 b3 p0 p1 p2 p3 q0 q1 q2 q3 z'; omega))) z'
      · rw [w] at z'
        exact absurd (b3.mpr (q3 (by clear b0 b1 b2 b3 p0 p1 p2 p3 q0 q1 q2 q3 z'; omega) (by clear b0 b1 b2 b3 p0 p1 p2 p3 q0 q1 q2 q3 z'; omega))) z'
  clear p0 p1 p2 p3 q0 q1 q2 q3 b0 b1 b2 b3
  rw [hkd, ← List.map_take, List.take_take]
  congr 2
  omega
end OwnStr
theorem pd_0 : parseMethodDescriptor "()B" = some ⟨[], some .byte⟩ := by decide +kernel
theorem pd_1 : parseMethodDescriptor "(I)Z" = some ⟨[.int], some .boolean⟩ := by decide +kernel
theorem pd_2 : parseMethodDescriptor "(II)I" = some ⟨[.int, .int], some .int⟩ := by decide +kernel
theorem pd_3 : parseMethodDescriptor "([BIII)I" = some ⟨[(.array .byte), .int, .int, .int], some .int⟩ := by decide +kernel
theorem pd_4 : parseMethodDescriptor "()Z" = some ⟨[], some .boolean⟩ := by decide +kernel
theorem pd_5 : parseMethodDescriptor "()I" = some ⟨[], some .int⟩ := by decide +kernel
theorem pd_6 : parseMethodDescriptor "([B[B)Z" = some ⟨[(.array .byte), (.array .byte)], some .boolean⟩ := by decide +kernel
theorem pd_7 : parseMethodDescriptor "(IIILjava/util/function/BiFunction;)I" = some ⟨[.int, .int, .int, (.object "java/util/function/BiFunction")], some .int⟩ := by decide +kernel
theorem pd_8 : parseMethodDescriptor "(II)V" = some ⟨[.int, .int], none⟩ := by decide +kernel
theorem pd_9 : parseMethodDescriptor "([BII)[B" = some ⟨[(.array .byte), .int, .int], some (.array .byte)⟩ := by decide +kernel
theorem pd_10 : parseMethodDescriptor "([BB)V" = some ⟨[(.array .byte), .byte], none⟩ := by decide +kernel
theorem pd_11 : parseMethodDescriptor "(III)V" = some ⟨[.int, .int, .int], none⟩ := by decide +kernel
theorem pd_12 : parseMethodDescriptor "([BII)Ljava/lang/String;" = some ⟨[(.array .byte), .int, .int], some (.object "java/lang/String")⟩ := by decide +kernel
theorem pd_13 : parseMethodDescriptor "([CIILjava/lang/Void;)V" = some ⟨[(.array .char), .int, .int, (.object "java/lang/Void")], none⟩ := by decide +kernel
theorem pd_14 : parseMethodDescriptor "([C)V" = some ⟨[(.array .char)], none⟩ := by decide +kernel
theorem pd_15 : parseMethodDescriptor "(I)I" = some ⟨[.int], some .int⟩ := by decide +kernel
theorem pd_16 : parseMethodDescriptor "(II)Ljava/lang/String;" = some ⟨[.int, .int], some (.object "java/lang/String")⟩ := by decide +kernel
theorem pd_17 : parseMethodDescriptor "(I)C" = some ⟨[.int], some .char⟩ := by decide +kernel
theorem pd_18 : parseMethodDescriptor "(ICCCC)Ljava/lang/String;" = some ⟨[.int, .char, .char, .char, .char], some (.object "java/lang/String")⟩ := by decide +kernel
theorem pd_19 : parseMethodDescriptor "(Ljava/lang/String;)Ljava/lang/String;" = some ⟨[(.object "java/lang/String")], some (.object "java/lang/String")⟩ := by decide +kernel
theorem pd_20 : parseMethodDescriptor "(Ljava/lang/Object;)Z" = some ⟨[(.object "java/lang/Object")], some .boolean⟩ := by decide +kernel
theorem d11_0 : decode jdk_42_method_152_code 0 = .ok (.getstatic 38, 3) := by decide +kernel
theorem d11_3 : decode jdk_42_method_152_code 3 = .ok (.ifCond .eq 10, 3) := by decide +kernel
theorem d11_6 : decode jdk_42_method_152_code 6 = .ok (.aload_n 0, 1) := by decide +kernel
theorem d11_7 : decode jdk_42_method_152_code 7 = .ok (.getfield 15, 3) := by decide +kernel
theorem d11_10 : decode jdk_42_method_152_code 10 = .ok (.goto 4, 3) := by decide +kernel
theorem d11_14 : decode jdk_42_method_152_code 14 = .ok (.ireturn, 1) := by decide +kernel
theorem pn_rm11 : plainName "java/lang/String" = true := by first | (simp [plainName, overriddenIn]; done) | decide +kernel
theorem ef_rm11 (m : MethodId) (x0 : Addr) : entryFrame m #[(.ref x0)] 1 = mkF m 0 #[.val (.ref x0)] [] := by first | (simp [entryFrame, mkF, argsToLocals, Value.category]; done) | rfl
set_option maxRecDepth 65536 in
set_option maxHeartbeats 40000000 in
theorem rm11 (l : Launch) (Z : State) (a0 : Array Value) (hw : ∀ d ∈ tables_1, d.before a0 Z = true) (ws : List Jvm.Cond) (h0 : Heap) (n0 : Nat) (Z0 : n0 ≤ h0.size) (a1 : Addr) (z : Int32) (hz : ¬ z = 0) (Sc : Sta Z h0 "java/lang/String" "COMPACT_STRINGS" "Z" (.int z)) (Fc_a1 : Fld Z h0 a1 "java/lang/String" "coder" "B" (.int 0)) :
    OMet l (⟨"java/lang/String", "coder", "()B"⟩ : MethodName) jdk_42_method_152_code 1 (some .byte) ws ({ frames := 0, cells := 0, slots := 0, locals := 0 } : Room) #[(.ref a1)] Z h0 (fun v h L' => v = some (.int 0) ∧ Fr n0 L' ∧ h = h0) := by
  refine own_met (plainFor_of_name pn_rm11) ?_
  intro p e s m below meth c s₁ X0 hx hby hml hown hnm hret hlk hZ e0
  rw [ef_rm11]
  have N0 := Fr.nil n0
  show ORunF p e below _ s₁ (mkF m 0 #[.val (.ref a1)] [])
  obtain ⟨T1, X1, e1, st1⟩ := getS2 X0 hx hZ hown (host := "") (Or.inl (hw _ (List.mem_of_getElem? (i := 49) rfl))) Via.refl e0 Sc (g := (mkF m 0 #[.val (.ref a1)] [])) rfl (hb hby d11_0)
  refine own_by st1 ?_
  show ORunF p e below _ T1 (mkF m 3 #[.val (.ref a1)] [(.int z)])
  refine own_by (fun t k => XS.ifNo X1.here hx rfl (hb hby d11_3) rfl ((if0 _ _).trans (feq hz).1) k) ?_
  show ORunF p e below _ T1 (mkF m 6 #[.val (.ref a1)] [])
  refine own_by (fun t k => XS.aloadN X1.here hx rfl (hb hby d11_6) rfl rfl k) ?_
  show ORunF p e below _ T1 (mkF m 7 #[.val (.ref a1)] [(.ref a1)])
  obtain ⟨T2, X2, e2, st2⟩ := getF X1 hx hZ hown (host := "") (Or.inl (hw _ (List.mem_of_getElem? (i := 29) rfl))) Via.refl e1 Fc_a1 (g := (mkF m 7 #[.val (.ref a1)] [(.ref a1)])) rfl rfl (hb hby d11_7)
  refine own_by st2 ?_
  show ORunF p e below _ T2 (mkF m 10 #[.val (.ref a1)] [(.int (0 : Int32))])
  refine own_by (fun t k => XS.goto X2.here hx rfl (pc0 := 10) (pc' := 14) rfl (hb hby d11_10) (by decide) (by decide) k) ?_
  show ORunF p e below _ T2 (mkF m 14 #[.val (.ref a1)] [(.int (0 : Int32))])
  refine own_retN X2 hx (t := .byte) hret (by simp) hlk (hb hby d11_14) (by decide) (by decide) ?_
  exact ⟨rfl, N0, e2⟩
theorem d9_0 : decode jdk_42_method_154_code 0 = .ok (.getstatic 38, 3) := by decide +kernel
theorem d9_3 : decode jdk_42_method_154_code 3 = .ok (.ifCond .eq 14, 3) := by decide +kernel
theorem d9_6 : decode jdk_42_method_154_code 6 = .ok (.aload_n 0, 1) := by decide +kernel
theorem d9_7 : decode jdk_42_method_154_code 7 = .ok (.getfield 15, 3) := by decide +kernel
theorem d9_10 : decode jdk_42_method_154_code 10 = .ok (.ifCond .ne 7, 3) := by decide +kernel
theorem d9_13 : decode jdk_42_method_154_code 13 = .ok (.iconst 1, 1) := by decide +kernel
theorem d9_14 : decode jdk_42_method_154_code 14 = .ok (.goto 4, 3) := by decide +kernel
theorem d9_18 : decode jdk_42_method_154_code 18 = .ok (.ireturn, 1) := by decide +kernel
theorem pn_rm9 : plainName "java/lang/String" = true := by first | (simp [plainName, overriddenIn]; done) | decide +kernel
theorem ef_rm9 (m : MethodId) (x0 : Addr) : entryFrame m #[(.ref x0)] 1 = mkF m 0 #[.val (.ref x0)] [] := by first | (simp [entryFrame, mkF, argsToLocals, Value.category]; done) | rfl
set_option maxRecDepth 65536 in
set_option maxHeartbeats 40000000 in
theorem rm9 (l : Launch) (Z : State) (a0 : Array Value) (hw : ∀ d ∈ tables_1, d.before a0 Z = true) (ws : List Jvm.Cond) (h0 : Heap) (n0 : Nat) (Z0 : n0 ≤ h0.size) (a1 : Addr) (z : Int32) (hz : ¬ z = 0) (Sc : Sta Z h0 "java/lang/String" "COMPACT_STRINGS" "Z" (.int z)) (Fc_a1 : Fld Z h0 a1 "java/lang/String" "coder" "B" (.int 0)) :
    OMet l (⟨"java/lang/String", "isLatin1", "()Z"⟩ : MethodName) jdk_42_method_154_code 1 (some .boolean) ws ({ frames := 0, cells := 0, slots := 0, locals := 0 } : Room) #[(.ref a1)] Z h0 (fun v h L' => v = some (.int 1) ∧ Fr n0 L' ∧ h = h0) := by
  refine own_met (plainFor_of_name pn_rm9) ?_
  intro p e s m below meth c s₁ X0 hx hby hml hown hnm hret hlk hZ e0
  rw [ef_rm9]
  have N0 := Fr.nil n0
  show ORunF p e below _ s₁ (mkF m 0 #[.val (.ref a1)] [])
  obtain ⟨T1, X1, e1, st1⟩ := getS2 X0 hx hZ hown (host := "") (Or.inl (hw _ (List.mem_of_getElem? (i := 49) rfl))) Via.refl e0 Sc (g := (mkF m 0 #[.val (.ref a1)] [])) rfl (hb hby d9_0)
  refine own_by st1 ?_
  show ORunF p e below _ T1 (mkF m 3 #[.val (.ref a1)] [(.int z)])
  refine own_by (fun t k => XS.ifNo X1.here hx rfl (hb hby d9_3) rfl ((if0 _ _).trans (feq hz).1) k) ?_
  show ORunF p e below _ T1 (mkF m 6 #[.val (.ref a1)] [])
  refine own_by (fun t k => XS.aloadN X1.here hx rfl (hb hby d9_6) rfl rfl k) ?_
  show ORunF p e below _ T1 (mkF m 7 #[.val (.ref a1)] [(.ref a1)])
  obtain ⟨T2, X2, e2, st2⟩ := getF X1 hx hZ hown (host := "") (Or.inl (hw _ (List.mem_of_getElem? (i := 29) rfl))) Via.refl e1 Fc_a1 (g := (mkF m 7 #[.val (.ref a1)] [(.ref a1)])) rfl rfl (hb hby d9_7)
  refine own_by st2 ?_
  show ORunF p e below _ T2 (mkF m 10 #[.val (.ref a1)] [(.int (0 : Int32))])
  refine own_by (fun t k => XS.ifNo X2.here hx rfl (hb hby d9_10) rfl ((if0 _ _).trans (teq (by decide)).2) k) ?_
  show ORunF p e below _ T2 (mkF m 13 #[.val (.ref a1)] [])
  refine own_by (fun t k => XS.iconst X2.here hx rfl (hb hby d9_13) k) ?_
  show ORunF p e below _ T2 (mkF m 14 #[.val (.ref a1)] [(.int (1 : Int32))])
  refine own_by (fun t k => XS.goto X2.here hx rfl (pc0 := 14) (pc' := 18) rfl (hb hby d9_14) (by decide) (by decide) k) ?_
  show ORunF p e below _ T2 (mkF m 18 #[.val (.ref a1)] [(.int (1 : Int32))])
  refine own_retN X2 hx (t := .boolean) hret (by simp) hlk (hb hby d9_18) (by decide) (by decide) ?_
  exact ⟨rfl, N0, e2⟩
theorem d10_0 : decode jdk_42_method_54_code 0 = .ok (.aload_n 0, 1) := by decide +kernel
theorem d10_1 : decode jdk_42_method_54_code 1 = .ok (.getfield 9, 3) := by decide +kernel
theorem d10_4 : decode jdk_42_method_54_code 4 = .ok (.arraylength, 1) := by decide +kernel
theorem d10_5 : decode jdk_42_method_54_code 5 = .ok (.aload_n 0, 1) := by decide +kernel
theorem d10_6 : decode jdk_42_method_54_code 6 = .ok (.invokevirtual 335, 3) := by decide +kernel
theorem d10_9 : decode jdk_42_method_54_code 9 = .ok (.ishr, 1) := by decide +kernel
theorem d10_10 : decode jdk_42_method_54_code 10 = .ok (.ireturn, 1) := by decide +kernel
theorem pn_rm10 : plainName "java/lang/String" = true := by first | (simp [plainName, overriddenIn]; done) | decide +kernel
theorem ef_rm10 (m : MethodId) (x0 : Addr) : entryFrame m #[(.ref x0)] 1 = mkF m 0 #[.val (.ref x0)] [] := by first | (simp [entryFrame, mkF, argsToLocals, Value.category]; done) | rfl
set_option maxRecDepth 65536 in
set_option maxHeartbeats 40000000 in
theorem rm10 (l : Launch) (Z : State) (a0 : Array Value) (hw : ∀ d ∈ tables_1, d.before a0 Z = true) (ws : List Jvm.Cond) (h0 : Heap) (n0 : Nat) (Z0 : n0 ≤ h0.size) (a1 b1 : Addr) (L : List Int32) (N : Nat) (z : Int32) (hz : ¬ z = 0) (Sc : Sta Z h0 "java/lang/String" "COMPACT_STRINGS" "Z" (.int z)) (E_a1 : Exa Z h0 a1 "java/lang/String") (Fc_a1 : Fld Z h0 a1 "java/lang/String" "coder" "B" (.int 0)) (Fv_a1 : Fld Z h0 a1 "java/lang/String" "value" "[B" (.ref b1)) (V_b1 : OVec Z h0 b1 .byte L) (hN : L.length = N) (hN4 : N ≤ 4) :
    OMet l (⟨"java/lang/String", "length", "()I"⟩ : MethodName) jdk_42_method_54_code 1 (some .int) ws ({ frames := 1, cells := 0, slots := 0, locals := 20 } : Room) #[(.ref a1)] Z h0 (fun v h L' => ∃ r : Int32, v = some (.int r) ∧ r.toInt = N ∧ Fr n0 L' ∧ h = h0) := by
  refine own_met (plainFor_of_name pn_rm10) ?_
  intro p e s m below meth c s₁ X0 hx hby hml hown hnm hret hlk hZ e0
  rw [ef_rm10]
  have N0 := Fr.nil n0
  show ORunF p e below _ s₁ (mkF m 0 #[.val (.ref a1)] [])
  refine own_by (fun t k => XS.aloadN X0.here hx rfl (hb hby d10_0) rfl rfl k) ?_
  show ORunF p e below _ s₁ (mkF m 1 #[.val (.ref a1)] [(.ref a1)])
  obtain ⟨T1, X1, e1, st1⟩ := getF X0 hx hZ hown (host := "") (Or.inl (hw _ (List.mem_of_getElem? (i := 28) rfl))) Via.refl e0 Fv_a1 (g := (mkF m 1 #[.val (.ref a1)] [(.ref a1)])) rfl rfl (hb hby d10_1)
  refine own_by st1 ?_
  show ORunF p e below _ T1 (mkF m 4 #[.val (.ref a1)] [(.ref b1)])
  refine own_lenv X1 hx hZ e1 V_b1 (n := N) hN (by omega) (hb hby d10_4) ?_
  intro v2 hv2
  show ORunF p e below _ T1 (mkF m 5 #[.val (.ref a1)] [(.int v2)])
  refine own_by (fun t k => XS.aloadN X1.here hx rfl (hb hby d10_5) rfl rfl k) ?_
  show ORunF p e below _ T1 (mkF m 6 #[.val (.ref a1)] [(.ref a1), (.int v2)])
  refine own_callV X1 hx hZ hown E_a1 (hw _ (List.mem_of_getElem? (i := 55) rfl)) (hw _ (List.mem_of_getElem? (i := 56) rfl)) (notFace_of_selects (args := #[]) (mvT hZ (hw _ (List.mem_of_getElem? (i := 58) rfl)))) (hw _ (List.mem_of_getElem? (i := 58) rfl)) (hw _ (List.mem_of_getElem? (i := 57) rfl)) (hw _ (List.mem_of_getElem? (i := 10) rfl)) (hw _ (List.mem_of_getElem? (i := 59) rfl)) (by decide) (rm11 l Z a0 hw [] h0 n0 Z0 a1 z hz Sc Fc_a1) e1 (by decide) (W := 1) (by decide) (by decide) (by decide) (argsL := []) (rest := [(.int v2)]) (by rw [hml]; rfl) (lenOf pd_0 rfl) rfl rfl (Nat.le_of_eq rfl) (hb hby d10_6) ?_
  intro T3 L3 u3 X3 hQ3
  obtain ⟨rfl, Nq3, e3⟩ := hQ3
  have N3 := Fr.app N0 Nq3
  show ORunF p e below _ T3 (mkF m 9 #[.val (.ref a1)] [(.int (0 : Int32)), (.int v2)])
  refine own_by (fun t k => XS.ishr X3.here hx rfl (hb hby d10_9) rfl k) (own_letI (f := (fun z => (mkF m 10 #[.val (.ref a1)] [(.int z)]))) (v2 >>> ((0 : Int32) &&& 31)) fun v4 hv4 => ?_)
  show ORunF p e below _ T3 (mkF m 10 #[.val (.ref a1)] [(.int v4)])
  have a4a : v4.toInt = v2.toInt / 1 := by rw [hv4]; exact c_ishr v2 (0 : Int32) 0 (by decide)
  have r4 := rng32 v4
  refine own_retI X3 hx hret hlk (hb hby d10_10) (by decide) (by decide) ?_
  exact ⟨v4, rfl, by omega, N3, e3⟩
theorem d13_0 : decode jdk_43_method_4_code 0 = .ok (.iload_n 0, 1) := by decide +kernel
theorem d13_1 : decode jdk_43_method_4_code 1 = .ok (.ifCond .lt 14, 3) := by decide +kernel
theorem d13_4 : decode jdk_43_method_4_code 4 = .ok (.iload_n 0, 1) := by decide +kernel
theorem d13_5 : decode jdk_43_method_4_code 5 = .ok (.sipush 255, 3) := by decide +kernel
theorem d13_8 : decode jdk_43_method_4_code 8 = .ok (.if_icmp .gt 7, 3) := by decide +kernel
theorem d13_11 : decode jdk_43_method_4_code 11 = .ok (.iconst 1, 1) := by decide +kernel
theorem d13_12 : decode jdk_43_method_4_code 12 = .ok (.goto 4, 3) := by decide +kernel
theorem d13_15 : decode jdk_43_method_4_code 15 = .ok (.iconst 0, 1) := by decide +kernel
theorem d13_16 : decode jdk_43_method_4_code 16 = .ok (.ireturn, 1) := by decide +kernel
theorem pn_rm13 : plainName "java/lang/StringLatin1" = true := by first | (simp [plainName, overriddenIn]; done) | decide +kernel
theorem ef_rm13 (m : MethodId) (x0 : Int32) : entryFrame m #[(.int x0)] 1 = mkF m 0 #[.val (.int x0)] [] := by first | (simp [entryFrame, mkF, argsToLocals, Value.category]; done) | rfl
set_option maxRecDepth 65536 in
set_option maxHeartbeats 40000000 in
theorem rm13 (l : Launch) (Z : State) (a0 : Array Value) (hw : ∀ d ∈ tables_1, d.before a0 Z = true) (ws : List Jvm.Cond) (h0 : Heap) (n0 : Nat) (Z0 : n0 ≤ h0.size) (cq : Int32) (hc : 0 ≤ cq.toInt ∧ cq.toInt < 128) :
    OMet l (⟨"java/lang/StringLatin1", "canEncode", "(I)Z"⟩ : MethodName) jdk_43_method_4_code 1 (some .boolean) ws ({ frames := 0, cells := 0, slots := 0, locals := 0 } : Room) #[(.int cq)] Z h0 (fun v h L' => v = some (.int 1) ∧ Fr n0 L' ∧ h = h0) := by
  refine own_met (plainFor_of_name pn_rm13) ?_
  intro p e s m below meth c s₁ X0 hx hby hml hown hnm hret hlk hZ e0
  rw [ef_rm13]
  have N0 := Fr.nil n0
  have rg_cq := rng32 cq
  show ORunF p e below _ s₁ (mkF m 0 #[.val (.int cq)] [])
  refine own_by (fun t k => XS.iloadN X0.here hx rfl (hb hby d13_0) rfl k) ?_
  show ORunF p e below _ s₁ (mkF m 1 #[.val (.int cq)] [(.int cq)])
  by_cases hc1 : cq < (0 : Int32)
  · have t1 := own_lt hc1 (a := cq.toInt) (b := 0) rfl (by decide)
    refine own_by (fun t k => XS.ifYes X0.here hx rfl (pc0 := 1) (pc' := 15) rfl (hb hby d13_1) rfl ((if0 _ _).trans (tlt hc1).1) (by decide) (by decide) k) ?_
    show ORunF p e below _ s₁ (mkF m 15 #[.val (.int cq)] [])
    refine own_by (fun t k => XS.iconst X0.here hx rfl (hb hby d13_15) k) ?_
    show ORunF p e below _ s₁ (mkF m 16 #[.val (.int cq)] [(.int (0 : Int32))])
    refine own_retN X0 hx (t := .boolean) hret (by simp) hlk (hb hby d13_16) (by decide) (by decide) ?_
    exfalso
    omega
  · have t1 := own_nlt hc1 (a := cq.toInt) (b := 0) rfl (by decide)
    refine own_by (fun t k => XS.ifNo X0.here hx rfl (hb hby d13_1) rfl ((if0 _ _).trans (flt hc1).1) k) ?_
    show ORunF p e below _ s₁ (mkF m 4 #[.val (.int cq)] [])
    refine own_by (fun t k => XS.iloadN X0.here hx rfl (hb hby d13_4) rfl k) ?_
    show ORunF p e below _ s₁ (mkF m 5 #[.val (.int cq)] [(.int cq)])
    refine own_by (fun t k => XS.sipush X0.here hx rfl (hb hby d13_5) k) ?_
    show ORunF p e below _ s₁ (mkF m 8 #[.val (.int cq)] [(.int (255 : Int32)), (.int cq)])
    by_cases hc2 : (255 : Int32) < cq
    · have t2 := own_lt hc2 (a := 255) (b := cq.toInt) (by decide) rfl
      refine own_by (fun t k => XS.icmpYes X0.here hx rfl (pc0 := 8) (pc' := 15) rfl (hb hby d13_8) rfl (tlt hc2).2.2.1 (by decide) (by decide) k) ?_
      show ORunF p e below _ s₁ (mkF m 15 #[.val (.int cq)] [])
      refine own_by (fun t k => XS.iconst X0.here hx rfl (hb hby d13_15) k) ?_
      show ORunF p e below _ s₁ (mkF m 16 #[.val (.int cq)] [(.int (0 : Int32))])
      refine own_retN X0 hx (t := .boolean) hret (by simp) hlk (hb hby d13_16) (by decide) (by decide) ?_
      exfalso
      omega
    · have t2 := own_nlt hc2 (a := 255) (b := cq.toInt) (by decide) rfl
      refine own_by (fun t k => XS.icmpNo X0.here hx rfl (hb hby d13_8) rfl (flt hc2).2.2.1 k) ?_
      show ORunF p e below _ s₁ (mkF m 11 #[.val (.int cq)] [])
      refine own_by (fun t k => XS.iconst X0.here hx rfl (hb hby d13_11) k) ?_
      show ORunF p e below _ s₁ (mkF m 12 #[.val (.int cq)] [(.int (1 : Int32))])
      refine own_by (fun t k => XS.goto X0.here hx rfl (pc0 := 12) (pc' := 16) rfl (hb hby d13_12) (by decide) (by decide) k) ?_
      show ORunF p e below _ s₁ (mkF m 16 #[.val (.int cq)] [(.int (1 : Int32))])
      refine own_retN X0 hx (t := .boolean) hret (by simp) hlk (hb hby d13_16) (by decide) (by decide) ?_
      exact ⟨rfl, N0, e0⟩
theorem d14_0 : decode jdk_29_method_65_code 0 = .ok (.iload_n 0, 1) := by decide +kernel
theorem d14_1 : decode jdk_29_method_65_code 1 = .ok (.iload_n 1, 1) := by decide +kernel
theorem d14_2 : decode jdk_29_method_65_code 2 = .ok (.if_icmp .lt 7, 3) := by decide +kernel
theorem d14_5 : decode jdk_29_method_65_code 5 = .ok (.iload_n 0, 1) := by decide +kernel
theorem d14_6 : decode jdk_29_method_65_code 6 = .ok (.goto 4, 3) := by decide +kernel
theorem d14_9 : decode jdk_29_method_65_code 9 = .ok (.iload_n 1, 1) := by decide +kernel
theorem d14_10 : decode jdk_29_method_65_code 10 = .ok (.ireturn, 1) := by decide +kernel
theorem pn_rm14 : plainFor (⟨"java/lang/Math", "max", "(II)I"⟩ : MethodName) = true := Jvm.Free.JP.mathPlain rfl (by decide +kernel)
theorem ef_rm14 (m : MethodId) (x0 : Int32) (x1 : Int32) : entryFrame m #[(.int x0), (.int x1)] 2 = mkF m 0 #[.val (.int x0), .val (.int x1)] [] := by first | (simp [entryFrame, mkF, argsToLocals, Value.category]; done) | rfl
set_option maxRecDepth 65536 in
set_option maxHeartbeats 40000000 in
theorem rm14 (l : Launch) (Z : State) (a0 : Array Value) (hw : ∀ d ∈ tables_1, d.before a0 Z = true) (ws : List Jvm.Cond) (h0 : Heap) (n0 : Nat) (Z0 : n0 ≤ h0.size) (p1 p2 : Int32) :
    OMet l (⟨"java/lang/Math", "max", "(II)I"⟩ : MethodName) jdk_29_method_65_code 2 (some .int) ws ({ frames := 0, cells := 0, slots := 0, locals := 0 } : Room) #[(.int p1), (.int p2)] Z h0 (fun v h L' => ∃ r : Int32, v = some (.int r) ∧ ((r.toInt = p1.toInt ∧ p2.toInt ≤ p1.toInt) ∨ (r.toInt = p2.toInt ∧ p1.toInt ≤ p2.toInt)) ∧ Fr n0 L' ∧ h = h0) := by
  refine own_met pn_rm14 ?_
  intro p e s m below meth c s₁ X0 hx hby hml hown hnm hret hlk hZ e0
  rw [ef_rm14]
  have N0 := Fr.nil n0
  have rg_p1 := rng32 p1
  have rg_p2 := rng32 p2
  show ORunF p e below _ s₁ (mkF m 0 #[.val (.int p1), .val (.int p2)] [])
  refine own_by (fun t k => XS.iloadN X0.here hx rfl (hb hby d14_0) rfl k) ?_
  show ORunF p e below _ s₁ (mkF m 1 #[.val (.int p1), .val (.int p2)] [(.int p1)])
  refine own_by (fun t k => XS.iloadN X0.here hx rfl (hb hby d14_1) rfl k) ?_
  show ORunF p e below _ s₁ (mkF m 2 #[.val (.int p1), .val (.int p2)] [(.int p2), (.int p1)])
  by_cases hc1 : p1 < p2
  · have t1 := own_lt hc1 (a := p1.toInt) (b := p2.toInt) rfl rfl
    refine own_by (fun t k => XS.icmpYes X0.here hx rfl (pc0 := 2) (pc' := 9) rfl (hb hby d14_2) rfl (tlt hc1).1 (by decide) (by decide) k) ?_
    show ORunF p e below _ s₁ (mkF m 9 #[.val (.int p1), .val (.int p2)] [])
    refine own_by (fun t k => XS.iloadN X0.here hx rfl (hb hby d14_9) rfl k) ?_
    show ORunF p e below _ s₁ (mkF m 10 #[.val (.int p1), .val (.int p2)] [(.int p2)])
    refine own_retI X0 hx hret hlk (hb hby d14_10) (by decide) (by decide) ?_
    exact ⟨p2, rfl, by omega, N0, e0⟩
  · have t1 := own_nlt hc1 (a := p1.toInt) (b := p2.toInt) rfl rfl
    refine own_by (fun t k => XS.icmpNo X0.here hx rfl (hb hby d14_2) rfl (flt hc1).1 k) ?_
    show ORunF p e below _ s₁ (mkF m 5 #[.val (.int p1), .val (.int p2)] [])
    refine own_by (fun t k => XS.iloadN X0.here hx rfl (hb hby d14_5) rfl k) ?_
    show ORunF p e below _ s₁ (mkF m 6 #[.val (.int p1), .val (.int p2)] [(.int p1)])
    refine own_by (fun t k => XS.goto X0.here hx rfl (pc0 := 6) (pc' := 10) rfl (hb hby d14_6) (by decide) (by decide) k) ?_
    show ORunF p e below _ s₁ (mkF m 10 #[.val (.int p1), .val (.int p2)] [(.int p1)])
    refine own_retI X0 hx hret hlk (hb hby d14_10) (by decide) (by decide) ?_
    exact ⟨p1, rfl, by omega, N0, e0⟩
theorem d15_0 : decode jdk_29_method_69_code 0 = .ok (.iload_n 0, 1) := by decide +kernel
theorem d15_1 : decode jdk_29_method_69_code 1 = .ok (.iload_n 1, 1) := by decide +kernel
theorem d15_2 : decode jdk_29_method_69_code 2 = .ok (.if_icmp .gt 7, 3) := by decide +kernel
theorem d15_5 : decode jdk_29_method_69_code 5 = .ok (.iload_n 0, 1) := by decide +kernel
theorem d15_6 : decode jdk_29_method_69_code 6 = .ok (.goto 4, 3) := by decide +kernel
theorem d15_9 : decode jdk_29_method_69_code 9 = .ok (.iload_n 1, 1) := by decide +kernel
theorem d15_10 : decode jdk_29_method_69_code 10 = .ok (.ireturn, 1) := by decide +kernel
theorem pn_rm15 : plainFor (⟨"java/lang/Math", "min", "(II)I"⟩ : MethodName) = true := Jvm.Free.JP.mathPlain rfl (by decide +kernel)
theorem ef_rm15 (m : MethodId) (x0 : Int32) (x1 : Int32) : entryFrame m #[(.int x0), (.int x1)] 2 = mkF m 0 #[.val (.int x0), .val (.int x1)] [] := by first | (simp [entryFrame, mkF, argsToLocals, Value.category]; done) | rfl
set_option maxRecDepth 65536 in
set_option maxHeartbeats 40000000 in
theorem rm15 (l : Launch) (Z : State) (a0 : Array Value) (hw : ∀ d ∈ tables_1, d.before a0 Z = true) (ws : List Jvm.Cond) (h0 : Heap) (n0 : Nat) (Z0 : n0 ≤ h0.size) (p1 p2 : Int32) :
    OMet l (⟨"java/lang/Math", "min", "(II)I"⟩ : MethodName) jdk_29_method_69_code 2 (some .int) ws ({ frames := 0, cells := 0, slots := 0, locals := 0 } : Room) #[(.int p1), (.int p2)] Z h0 (fun v h L' => ∃ r : Int32, v = some (.int r) ∧ ((r.toInt = p1.toInt ∧ p1.toInt ≤ p2.toInt) ∨ (r.toInt = p2.toInt ∧ p2.toInt ≤ p1.toInt)) ∧ Fr n0 L' ∧ h = h0) := by
  refine own_met pn_rm15 ?_
  intro p e s m below meth c s₁ X0 hx hby hml hown hnm hret hlk hZ e0
  rw [ef_rm15]
  have N0 := Fr.nil n0
  have rg_p1 := rng32 p1
  have rg_p2 := rng32 p2
  show ORunF p e below _ s₁ (mkF m 0 #[.val (.int p1), .val (.int p2)] [])
  refine own_by (fun t k => XS.iloadN X0.here hx rfl (hb hby d15_0) rfl k) ?_
  show ORunF p e below _ s₁ (mkF m 1 #[.val (.int p1), .val (.int p2)] [(.int p1)])
  refine own_by (fun t k => XS.iloadN X0.here hx rfl (hb hby d15_1) rfl k) ?_
  show ORunF p e below _ s₁ (mkF m 2 #[.val (.int p1), .val (.int p2)] [(.int p2), (.int p1)])
  by_cases hc1 : p2 < p1
  · have t1 := own_lt hc1 (a := p2.toInt) (b := p1.toInt) rfl rfl
    refine own_by (fun t k => XS.icmpYes X0.here hx rfl (pc0 := 2) (pc' := 9) rfl (hb hby d15_2) rfl (tlt hc1).2.2.1 (by decide) (by decide) k) ?_
    show ORunF p e below _ s₁ (mkF m 9 #[.val (.int p1), .val (.int p2)] [])
    refine own_by (fun t k => XS.iloadN X0.here hx rfl (hb hby d15_9) rfl k) ?_
    show ORunF p e below _ s₁ (mkF m 10 #[.val (.int p1), .val (.int p2)] [(.int p2)])
    refine own_retI X0 hx hret hlk (hb hby d15_10) (by decide) (by decide) ?_
    exact ⟨p2, rfl, by omega, N0, e0⟩
  · have t1 := own_nlt hc1 (a := p2.toInt) (b := p1.toInt) rfl rfl
    refine own_by (fun t k => XS.icmpNo X0.here hx rfl (hb hby d15_2) rfl (flt hc1).2.2.1 k) ?_
    show ORunF p e below _ s₁ (mkF m 5 #[.val (.int p1), .val (.int p2)] [])
    refine own_by (fun t k => XS.iloadN X0.here hx rfl (hb hby d15_5) rfl k) ?_
    show ORunF p e below _ s₁ (mkF m 6 #[.val (.int p1), .val (.int p2)] [(.int p1)])
    refine own_by (fun t k => XS.goto X0.here hx rfl (pc0 := 6) (pc' := 10) rfl (hb hby d15_6) (by decide) (by decide) k) ?_
    show ORunF p e below _ s₁ (mkF m 10 #[.val (.int p1), .val (.int p2)] [(.int p1)])
    refine own_retI X0 hx hret hlk (hb hby d15_10) (by decide) (by decide) ?_
    exact ⟨p1, rfl, by omega, N0, e0⟩
theorem d21_0 : decode jdk_43_method_23_code 0 = .ok (.iload_n 1, 1) := by decide +kernel
theorem d21_1 : decode jdk_43_method_23_code 1 = .ok (.i2b, 1) := by decide +kernel
theorem d21_2 : decode jdk_43_method_23_code 2 = .ok (.istore 4, 2) := by decide +kernel
theorem d21_4 : decode jdk_43_method_23_code 4 = .ok (.iload_n 2, 1) := by decide +kernel
theorem d21_5 : decode jdk_43_method_23_code 5 = .ok (.istore 5, 2) := by decide +kernel
theorem d21_7 : decode jdk_43_method_23_code 7 = .ok (.iload 5, 2) := by decide +kernel
theorem d21_9 : decode jdk_43_method_23_code 9 = .ok (.iload_n 3, 1) := by decide +kernel
theorem d21_10 : decode jdk_43_method_23_code 10 = .ok (.if_icmp .ge 21, 3) := by decide +kernel
theorem d21_13 : decode jdk_43_method_23_code 13 = .ok (.aload_n 0, 1) := by decide +kernel
theorem d21_14 : decode jdk_43_method_23_code 14 = .ok (.iload 5, 2) := by decide +kernel
theorem d21_16 : decode jdk_43_method_23_code 16 = .ok (.baload, 1) := by decide +kernel
theorem d21_17 : decode jdk_43_method_23_code 17 = .ok (.iload 4, 2) := by decide +kernel
theorem d21_19 : decode jdk_43_method_23_code 19 = .ok (.if_icmp .ne 6, 3) := by decide +kernel
theorem d21_22 : decode jdk_43_method_23_code 22 = .ok (.iload 5, 2) := by decide +kernel
theorem d21_24 : decode jdk_43_method_23_code 24 = .ok (.ireturn, 1) := by decide +kernel
theorem d21_25 : decode jdk_43_method_23_code 25 = .ok (.iinc 5 1, 3) := by decide +kernel
theorem d21_28 : decode jdk_43_method_23_code 28 = .ok (.goto (-21), 3) := by decide +kernel
theorem d21_31 : decode jdk_43_method_23_code 31 = .ok (.iconst (-1), 1) := by decide +kernel
theorem d21_32 : decode jdk_43_method_23_code 32 = .ok (.ireturn, 1) := by decide +kernel
theorem pn_rm21 : plainName "java/lang/StringLatin1" = true := by first | (simp [plainName, overriddenIn]; done) | decide +kernel
theorem ef_rm21 (m : MethodId) (x0 : Addr) (x1 : Int32) (x2 : Int32) (x3 : Int32) : entryFrame m #[(.ref x0), (.int x1), (.int x2), (.int x3)] 6 = mkF m 0 #[.val (.ref x0), .val (.int x1), .val (.int x2), .val (.int x3), .unset, .unset] [] := by first | (simp [entryFrame, mkF, argsToLocals, Value.category]; done) | rfl
set_option maxRecDepth 65536 in
set_option maxHeartbeats 40000000 in
theorem rm21 (l : Launch) (Z : State) (a0 : Array Value) (hw : ∀ d ∈ tables_1, d.before a0 Z = true) (ws : List Jvm.Cond) (h0 : Heap) (n0 : Nat) (Z0 : n0 ≤ h0.size) (b1 : Addr) (cq p4 : Int32) (L : List Int32) (N : Nat) (V_b1 : OVec Z h0 b1 .byte L) (hN : L.length = N) (hN4 : N ≤ 4) (hc : 0 ≤ cq.toInt ∧ cq.toInt < 128) (hp4 : p4.toInt = N) :
    OMet l (⟨"java/lang/StringLatin1", "indexOfChar", "([BIII)I"⟩ : MethodName) jdk_43_method_23_code 6 (some .int) ws ({ frames := 0, cells := 0, slots := 0, locals := 0 } : Room) #[(.ref b1), (.int cq), (.int (0 : Int32)), (.int p4)] Z h0 (fun v h L' => ∃ r : Int32, v = some (.int r) ∧ ((0 ≤ r.toInt ∧ r.toInt < N ∧ L.getD r.toInt.toNat 0 = cq ∧ ∀ j, j < r.toInt.toNat → L.getD j 0 ≠ cq) ∨ (r.toInt = -1 ∧ ∀ j, j < N → L.getD j 0 ≠ cq)) ∧ Fr n0 L' ∧ h = h0) := by
  refine own_met (plainFor_of_name pn_rm21) ?_
  intro p e s m below meth c s₁ X0 hx hby hml hown hnm hret hlk hZ e0
  rw [ef_rm21]
  have N0 := Fr.nil n0
  have rg_cq := rng32 cq
  have rg_p4 := rng32 p4
  show ORunF p e below _ s₁ (mkF m 0 #[.val (.ref b1), .val (.int cq), .val (.int (0 : Int32)), .val (.int p4), .unset, .unset] [])
  refine own_by (fun t k => XS.iloadN X0.here hx rfl (hb hby d21_0) rfl k) ?_
  show ORunF p e below _ s₁ (mkF m 1 #[.val (.ref b1), .val (.int cq), .val (.int (0 : Int32)), .val (.int p4), .unset, .unset] [(.int cq)])
  refine own_by (fun t k => XS.i2b X0.here hx rfl (hb hby d21_1) rfl k) (own_letI (f := (fun z => (mkF m 2 #[.val (.ref b1), .val (.int cq), .val (.int (0 : Int32)), .val (.int p4), .unset, .unset] [(.int z)]))) (cq.toInt8.toInt32) fun v1 hv1 => ?_)
  show ORunF p e below _ s₁ (mkF m 2 #[.val (.ref b1), .val (.int cq), .val (.int (0 : Int32)), .val (.int p4), .unset, .unset] [(.int v1)])
  have a1a : (v1.toInt - cq.toInt) % 256 = 0 ∧ -128 ≤ v1.toInt ∧ v1.toInt < 128 := by rw [hv1]; exact c_i2b cq
  have r1 := rng32 v1
  have ec : v1 = cq := Int32.toInt_inj.mp (by omega)
  rw [ec]
  show ORunF p e below _ s₁ (mkF m 2 #[.val (.ref b1), .val (.int cq), .val (.int (0 : Int32)), .val (.int p4), .unset, .unset] [(.int cq)])
  refine own_by (fun t k => XS.istore X0.here hx rfl (hb hby d21_2) rfl (l' := #[.val (.ref b1), .val (.int cq), .val (.int (0 : Int32)), .val (.int p4), .val (.int cq), .unset]) rfl k) ?_
  show ORunF p e below _ s₁ (mkF m 4 #[.val (.ref b1), .val (.int cq), .val (.int (0 : Int32)), .val (.int p4), .val (.int cq), .unset] [])
  refine own_by (fun t k => XS.iloadN X0.here hx rfl (hb hby d21_4) rfl k) ?_
  show ORunF p e below _ s₁ (mkF m 5 #[.val (.ref b1), .val (.int cq), .val (.int (0 : Int32)), .val (.int p4), .val (.int cq), .unset] [(.int (0 : Int32))])
  refine own_by (fun t k => XS.istore X0.here hx rfl (hb hby d21_5) rfl (l' := #[.val (.ref b1), .val (.int cq), .val (.int (0 : Int32)), .val (.int p4), .val (.int cq), .val (.int (0 : Int32))]) rfl k) ?_
  show ORunF p e below _ s₁ (mkF m 7 #[.val (.ref b1), .val (.int cq), .val (.int (0 : Int32)), .val (.int p4), .val (.int cq), .val (.int (0 : Int32))] [])
  refine own_by (fun t k => XS.iload X0.here hx rfl (hb hby d21_7) rfl k) ?_
  show ORunF p e below _ s₁ (mkF m 9 #[.val (.ref b1), .val (.int cq), .val (.int (0 : Int32)), .val (.int p4), .val (.int cq), .val (.int (0 : Int32))] [(.int (0 : Int32))])
  refine own_by (fun t k => XS.iloadN X0.here hx rfl (hb hby d21_9) rfl k) ?_
  show ORunF p e below _ s₁ (mkF m 10 #[.val (.ref b1), .val (.int cq), .val (.int (0 : Int32)), .val (.int p4), .val (.int cq), .val (.int (0 : Int32))] [(.int p4), (.int (0 : Int32))])
  by_cases hc2 : (0 : Int32) < p4
  · have t2 := own_lt hc2 (a := 0) (b := p4.toInt) (by decide) rfl
    refine own_by (fun t k => XS.icmpNo X0.here hx rfl (hb hby d21_10) rfl (tlt hc2).2.1 k) ?_
    show ORunF p e below _ s₁ (mkF m 13 #[.val (.ref b1), .val (.int cq), .val (.int (0 : Int32)), .val (.int p4), .val (.int cq), .val (.int (0 : Int32))] [])
    refine own_by (fun t k => XS.aloadN X0.here hx rfl (hb hby d21_13) rfl rfl k) ?_
    show ORunF p e below _ s₁ (mkF m 14 #[.val (.ref b1), .val (.int cq), .val (.int (0 : Int32)), .val (.int p4), .val (.int cq), .val (.int (0 : Int32))] [(.ref b1)])
    refine own_by (fun t k => XS.iload X0.here hx rfl (hb hby d21_14) rfl k) ?_
    show ORunF p e below _ s₁ (mkF m 16 #[.val (.ref b1), .val (.int cq), .val (.int (0 : Int32)), .val (.int p4), .val (.int cq), .val (.int (0 : Int32))] [(.int (0 : Int32)), (.ref b1)])
    refine own_baload X0 hx hZ e0 V_b1 (i := 0) (by decide) (by omega) (hb hby d21_16) ?_
    intro v3 hv3
    have r3 := rng32 v3
    show ORunF p e below _ s₁ (mkF m 17 #[.val (.ref b1), .val (.int cq), .val (.int (0 : Int32)), .val (.int p4), .val (.int cq), .val (.int (0 : Int32))] [(.int v3)])
    refine own_by (fun t k => XS.iload X0.here hx rfl (hb hby d21_17) rfl k) ?_
    show ORunF p e below _ s₁ (mkF m 19 #[.val (.ref b1), .val (.int cq), .val (.int (0 : Int32)), .val (.int p4), .val (.int cq), .val (.int (0 : Int32))] [(.int cq), (.int v3)])
    by_cases hc4 : v3 = cq
    · have t4 := own_eq hc4 (a := v3.toInt) (b := cq.toInt) rfl rfl
      refine own_by (fun t k => XS.icmpNo X0.here hx rfl (hb hby d21_19) rfl (teq hc4).2 k) ?_
      show ORunF p e below _ s₁ (mkF m 22 #[.val (.ref b1), .val (.int cq), .val (.int (0 : Int32)), .val (.int p4), .val (.int cq), .val (.int (0 : Int32))] [])
      refine own_by (fun t k => XS.iload X0.here hx rfl (hb hby d21_22) rfl k) ?_
      show ORunF p e below _ s₁ (mkF m 24 #[.val (.ref b1), .val (.int cq), .val (.int (0 : Int32)), .val (.int p4), .val (.int cq), .val (.int (0 : Int32))] [(.int (0 : Int32))])
      refine own_retI X0 hx hret hlk (hb hby d21_24) (by decide) (by decide) ?_
      have tz : ((0 : Int32)).toInt = 0 := by decide
      exact ⟨_, rfl, Or.inl ⟨by decide, by rw [tz]; omega, (hv3.symm.trans hc4), own_lt0⟩, N0, e0⟩
    · have t4 := own_ne hc4 (a := v3.toInt) (b := cq.toInt) rfl rfl
      refine own_by (fun t k => XS.icmpYes X0.here hx rfl (pc0 := 19) (pc' := 25) rfl (hb hby d21_19) rfl (feq hc4).2 (by decide) (by decide) k) ?_
      show ORunF p e below _ s₁ (mkF m 25 #[.val (.ref b1), .val (.int cq), .val (.int (0 : Int32)), .val (.int p4), .val (.int cq), .val (.int (0 : Int32))] [])
      refine own_by (fun t k => XS.iinc X0.here hx rfl (hb hby d21_25) rfl (l' := #[.val (.ref b1), .val (.int cq), .val (.int (0 : Int32)), .val (.int p4), .val (.int cq), .val (.int (1 : Int32))]) rfl k) ?_
      show ORunF p e below _ s₁ (mkF m 28 #[.val (.ref b1), .val (.int cq), .val (.int (0 : Int32)), .val (.int p4), .val (.int cq), .val (.int (1 : Int32))] [])
      refine own_by (fun t k => XS.goto X0.here hx rfl (pc0 := 28) (pc' := 7) rfl (hb hby d21_28) (by decide) (by decide) k) ?_
      show ORunF p e below _ s₁ (mkF m 7 #[.val (.ref b1), .val (.int cq), .val (.int (0 : Int32)), .val (.int p4), .val (.int cq), .val (.int (1 : Int32))] [])
      refine own_by (fun t k => XS.iload X0.here hx rfl (hb hby d21_7) rfl k) ?_
      show ORunF p e below _ s₁ (mkF m 9 #[.val (.ref b1), .val (.int cq), .val (.int (0 : Int32)), .val (.int p4), .val (.int cq), .val (.int (1 : Int32))] [(.int (1 : Int32))])
      refine own_by (fun t k => XS.iloadN X0.here hx rfl (hb hby d21_9) rfl k) ?_
      show ORunF p e below _ s₁ (mkF m 10 #[.val (.ref b1), .val (.int cq), .val (.int (0 : Int32)), .val (.int p4), .val (.int cq), .val (.int (1 : Int32))] [(.int p4), (.int (1 : Int32))])
      by_cases hc5 : (1 : Int32) < p4
      · have t5 := own_lt hc5 (a := 1) (b := p4.toInt) (by decide) rfl
        refine own_by (fun t k => XS.icmpNo X0.here hx rfl (hb hby d21_10) rfl (tlt hc5).2.1 k) ?_
        show ORunF p e below _ s₁ (mkF m 13 #[.val (.ref b1), .val (.int cq), .val (.int (0 : Int32)), .val (.int p4), .val (.int cq), .val (.int (1 : Int32))] [])
        refine own_by (fun t k => XS.aloadN X0.here hx rfl (hb hby d21_13) rfl rfl k) ?_
        show ORunF p e below _ s₁ (mkF m 14 #[.val (.ref b1), .val (.int cq), .val (.int (0 : Int32)), .val (.int p4), .val (.int cq), .val (.int (1 : Int32))] [(.ref b1)])
        refine own_by (fun t k => XS.iload X0.here hx rfl (hb hby d21_14) rfl k) ?_
        show ORunF p e below _ s₁ (mkF m 16 #[.val (.ref b1), .val (.int cq), .val (.int (0 : Int32)), .val (.int p4), .val (.int cq), .val (.int (1 : Int32))] [(.int (1 : Int32)), (.ref b1)])
        refine own_baload X0 hx hZ e0 V_b1 (i := 1) (by decide) (by omega) (hb hby d21_16) ?_
        intro v6 hv6
        have r6 := rng32 v6
        show ORunF p e below _ s₁ (mkF m 17 #[.val (.ref b1), .val (.int cq), .val (.int (0 : Int32)), .val (.int p4), .val (.int cq), .val (.int (1 : Int32))] [(.int v6)])
        refine own_by (fun t k => XS.iload X0.here hx rfl (hb hby d21_17) rfl k) ?_
        show ORunF p e below _ s₁ (mkF m 19 #[.val (.ref b1), .val (.int cq), .val (.int (0 : Int32)), .val (.int p4), .val (.int cq), .val (.int (1 : Int32))] [(.int cq), (.int v6)])
        by_cases hc7 : v6 = cq
        · have t7 := own_eq hc7 (a := v6.toInt) (b := cq.toInt) rfl rfl
          refine own_by (fun t k => XS.icmpNo X0.here hx rfl (hb hby d21_19) rfl (teq hc7).2 k) ?_
          show ORunF p e below _ s₁ (mkF m 22 #[.val (.ref b1), .val (.int cq), .val (.int (0 : Int32)), .val (.int p4), .val (.int cq), .val (.int (1 : Int32))] [])
          refine own_by (fun t k => XS.iload X0.here hx rfl (hb hby d21_22) rfl k) ?_
          show ORunF p e below _ s₁ (mkF m 24 #[.val (.ref b1), .val (.int cq), .val (.int (0 : Int32)), .val (.int p4), .val (.int cq), .val (.int (1 : Int32))] [(.int (1 : Int32))])
          refine own_retI X0 hx hret hlk (hb hby d21_24) (by decide) (by decide) ?_
          have tz : ((1 : Int32)).toInt = 1 := by decide
          exact ⟨_, rfl, Or.inl ⟨by decide, by rw [tz]; omega, (hv6.symm.trans hc7), (own_ltS own_lt0 (fun q => hc4 ((hv3).trans q)))⟩, N0, e0⟩
        · have t7 := own_ne hc7 (a := v6.toInt) (b := cq.toInt) rfl rfl
          refine own_by (fun t k => XS.icmpYes X0.here hx rfl (pc0 := 19) (pc' := 25) rfl (hb hby d21_19) rfl (feq hc7).2 (by decide) (by decide) k) ?_
          show ORunF p e below _ s₁ (mkF m 25 #[.val (.ref b1), .val (.int cq), .val (.int (0 : Int32)), .val (.int p4), .val (.int cq), .val (.int (1 : Int32))] [])
          refine own_by (fun t k => XS.iinc X0.here hx rfl (hb hby d21_25) rfl (l' := #[.val (.ref b1), .val (.int cq), .val (.int (0 : Int32)), .val (.int p4), .val (.int cq), .val (.int (2 : Int32))]) rfl k) ?_
          show ORunF p e below _ s₁ (mkF m 28 #[.val (.ref b1), .val (.int cq), .val (.int (0 : Int32)), .val (.int p4), .val (.int cq), .val (.int (2 : Int32))] [])
          refine own_by (fun t k => XS.goto X0.here hx rfl (pc0 := 28) (pc' := 7) rfl (hb hby d21_28) (by decide) (by decide) k) ?_
          show ORunF p e below _ s₁ (mkF m 7 #[.val (.ref b1), .val (.int cq), .val (.int (0 : Int32)), .val (.int p4), .val (.int cq), .val (.int (2 : Int32))] [])
          refine own_by (fun t k => XS.iload X0.here hx rfl (hb hby d21_7) rfl k) ?_
          show ORunF p e below _ s₁ (mkF m 9 #[.val (.ref b1), .val (.int cq), .val (.int (0 : Int32)), .val (.int p4), .val (.int cq), .val (.int (2 : Int32))] [(.int (2 : Int32))])
          refine own_by (fun t k => XS.iloadN X0.here hx rfl (hb hby d21_9) rfl k) ?_
          show ORunF p e below _ s₁ (mkF m 10 #[.val (.ref b1), .val (.int cq), .val (.int (0 : Int32)), .val (.int p4), .val (.int cq), .val (.int (2 : Int32))] [(.int p4), (.int (2 : Int32))])
          by_cases hc8 : (2 : Int32) < p4
          · have t8 := own_lt hc8 (a := 2) (b := p4.toInt) (by decide) rfl
            refine own_by (fun t k => XS.icmpNo X0.here hx rfl (hb hby d21_10) rfl (tlt hc8).2.1 k) ?_
            show ORunF p e below _ s₁ (mkF m 13 #[.val (.ref b1), .val (.int cq), .val (.int (0 : Int32)), .val (.int p4), .val (.int cq), .val (.int (2 : Int32))] [])
            refine own_by (fun t k => XS.aloadN X0.here hx rfl (hb hby d21_13) rfl rfl k) ?_
            show ORunF p e below _ s₁ (mkF m 14 #[.val (.ref b1), .val (.int cq), .val (.int (0 : Int32)), .val (.int p4), .val (.int cq), .val (.int (2 : Int32))] [(.ref b1)])
            refine own_by (fun t k => XS.iload X0.here hx rfl (hb hby d21_14) rfl k) ?_
            show ORunF p e below _ s₁ (mkF m 16 #[.val (.ref b1), .val (.int cq), .val (.int (0 : Int32)), .val (.int p4), .val (.int cq), .val (.int (2 : Int32))] [(.int (2 : Int32)), (.ref b1)])
            refine own_baload X0 hx hZ e0 V_b1 (i := 2) (by decide) (by omega) (hb hby d21_16) ?_
            intro v9 hv9
            have r9 := rng32 v9
            show ORunF p e below _ s₁ (mkF m 17 #[.val (.ref b1), .val (.int cq), .val (.int (0 : Int32)), .val (.int p4), .val (.int cq), .val (.int (2 : Int32))] [(.int v9)])
            refine own_by (fun t k => XS.iload X0.here hx rfl (hb hby d21_17) rfl k) ?_
            show ORunF p e below _ s₁ (mkF m 19 #[.val (.ref b1), .val (.int cq), .val (.int (0 : Int32)), .val (.int p4), .val (.int cq), .val (.int (2 : Int32))] [(.int cq), (.int v9)])
            by_cases hc10 : v9 = cq
            · have t10 := own_eq hc10 (a := v9.toInt) (b := cq.toInt) rfl rfl
              refine own_by (fun t k => XS.icmpNo X0.here hx rfl (hb hby d21_19) rfl (teq hc10).2 k) ?_
              show ORunF p e below _ s₁ (mkF m 22 #[.val (.ref b1), .val (.int cq), .val (.int (0 : Int32)), .val (.int p4), .val (.int cq), .val (.int (2 : Int32))] [])
              refine own_by (fun t k => XS.iload X0.here hx rfl (hb hby d21_22) rfl k) ?_
              show ORunF p e below _ s₁ (mkF m 24 #[.val (.ref b1), .val (.int cq), .val (.int (0 : Int32)), .val (.int p4), .val (.int cq), .val (.int (2 : Int32))] [(.int (2 : Int32))])
              refine own_retI X0 hx hret hlk (hb hby d21_24) (by decide) (by decide) ?_
              have tz : ((2 : Int32)).toInt = 2 := by decide
              exact ⟨_, rfl, Or.inl ⟨by decide, by rw [tz]; omega, (hv9.symm.trans hc10), (own_ltS (own_ltS own_lt0 (fun q => hc4 ((hv3).trans q))) (fun q => hc7 ((hv6).trans q)))⟩, N0, e0⟩
            · have t10 := own_ne hc10 (a := v9.toInt) (b := cq.toInt) rfl rfl
              refine own_by (fun t k => XS.icmpYes X0.here hx rfl (pc0 := 19) (pc' := 25) rfl (hb hby d21_19) rfl (feq hc10).2 (by decide) (by decide) k) ?_
              show ORunF p e below _ s₁ (mkF m 25 #[.val (.ref b1), .val (.int cq), .val (.int (0 : Int32)), .val (.int p4), .val (.int cq), .val (.int (2 : Int32))] [])
              refine own_by (fun t k => XS.iinc X0.here hx rfl (hb hby d21_25) rfl (l' := #[.val (.ref b1), .val (.int cq), .val (.int (0 : Int32)), .val (.int p4), .val (.int cq), .val (.int (3 : Int32))]) rfl k) ?_
              show ORunF p e below _ s₁ (mkF m 28 #[.val (.ref b1), .val (.int cq), .val (.int (0 : Int32)), .val (.int p4), .val (.int cq), .val (.int (3 : Int32))] [])
              refine own_by (fun t k => XS.goto X0.here hx rfl (pc0 := 28) (pc' := 7) rfl (hb hby d21_28) (by decide) (by decide) k) ?_
              show ORunF p e below _ s₁ (mkF m 7 #[.val (.ref b1), .val (.int cq), .val (.int (0 : Int32)), .val (.int p4), .val (.int cq), .val (.int (3 : Int32))] [])
              refine own_by (fun t k => XS.iload X0.here hx rfl (hb hby d21_7) rfl k) ?_
              show ORunF p e below _ s₁ (mkF m 9 #[.val (.ref b1), .val (.int cq), .val (.int (0 : Int32)), .val (.int p4), .val (.int cq), .val (.int (3 : Int32))] [(.int (3 : Int32))])
              refine own_by (fun t k => XS.iloadN X0.here hx rfl (hb hby d21_9) rfl k) ?_
              show ORunF p e below _ s₁ (mkF m 10 #[.val (.ref b1), .val (.int cq), .val (.int (0 : Int32)), .val (.int p4), .val (.int cq), .val (.int (3 : Int32))] [(.int p4), (.int (3 : Int32))])
              by_cases hc11 : (3 : Int32) < p4
              · have t11 := own_lt hc11 (a := 3) (b := p4.toInt) (by decide) rfl
                refine own_by (fun t k => XS.icmpNo X0.here hx rfl (hb hby d21_10) rfl (tlt hc11).2.1 k) ?_
                show ORunF p e below _ s₁ (mkF m 13 #[.val (.ref b1), .val (.int cq), .val (.int (0 : Int32)), .val (.int p4), .val (.int cq), .val (.int (3 : Int32))] [])
                refine own_by (fun t k => XS.aloadN X0.here hx rfl (hb hby d21_13) rfl rfl k) ?_
                show ORunF p e below _ s₁ (mkF m 14 #[.val (.ref b1), .val (.int cq), .val (.int (0 : Int32)), .val (.int p4), .val (.int cq), .val (.int (3 : Int32))] [(.ref b1)])
                refine own_by (fun t k => XS.iload X0.here hx rfl (hb hby d21_14) rfl k) ?_
                show ORunF p e below _ s₁ (mkF m 16 #[.val (.ref b1), .val (.int cq), .val (.int (0 : Int32)), .val (.int p4), .val (.int cq), .val (.int (3 : Int32))] [(.int (3 : Int32)), (.ref b1)])
                refine own_baload X0 hx hZ e0 V_b1 (i := 3) (by decide) (by omega) (hb hby d21_16) ?_
                intro v12 hv12
                have r12 := rng32 v12
                show ORunF p e below _ s₁ (mkF m 17 #[.val (.ref b1), .val (.int cq), .val (.int (0 : Int32)), .val (.int p4), .val (.int cq), .val (.int (3 : Int32))] [(.int v12)])
                refine own_by (fun t k => XS.iload X0.here hx rfl (hb hby d21_17) rfl k) ?_
                show ORunF p e below _ s₁ (mkF m 19 #[.val (.ref b1), .val (.int cq), .val (.int (0 : Int32)), .val (.int p4), .val (.int cq), .val (.int (3 : Int32))] [(.int cq), (.int v12)])
                by_cases hc13 : v12 = cq
                · have t13 := own_eq hc13 (a := v12.toInt) (b := cq.toInt) rfl rfl
                  refine own_by (fun t k => XS.icmpNo X0.here hx rfl (hb hby d21_19) rfl (teq hc13).2 k) ?_
                  show ORunF p e below _ s₁ (mkF m 22 #[.val (.ref b1), .val (.int cq), .val (.int (0 : Int32)), .val (.int p4), .val (.int cq), .val (.int (3 : Int32))] [])
                  refine own_by (fun t k => XS.iload X0.here hx rfl (hb hby d21_22) rfl k) ?_
                  show ORunF p e below _ s₁ (mkF m 24 #[.val (.ref b1), .val (.int cq), .val (.int (0 : Int32)), .val (.int p4), .val (.int cq), .val (.int (3 : Int32))] [(.int (3 : Int32))])
                  refine own_retI X0 hx hret hlk (hb hby d21_24) (by decide) (by decide) ?_
                  have tz : ((3 : Int32)).toInt = 3 := by decide
                  exact ⟨_, rfl, Or.inl ⟨by decide, by rw [tz]; omega, (hv12.symm.trans hc13), (own_ltS (own_ltS (own_ltS own_lt0 (fun q => hc4 ((hv3).trans q))) (fun q => hc7 ((hv6).trans q))) (fun q => hc10 ((hv9).trans q)))⟩, N0, e0⟩
                · have t13 := own_ne hc13 (a := v12.toInt) (b := cq.toInt) rfl rfl
                  refine own_by (fun t k => XS.icmpYes X0.here hx rfl (pc0 := 19) (pc' := 25) rfl (hb hby d21_19) rfl (feq hc13).2 (by decide) (by decide) k) ?_
                  show ORunF p e below _ s₁ (mkF m 25 #[.val (.ref b1), .val (.int cq), .val (.int (0 : Int32)), .val (.int p4), .val (.int cq), .val (.int (3 : Int32))] [])
                  refine own_by (fun t k => XS.iinc X0.here hx rfl (hb hby d21_25) rfl (l' := #[.val (.ref b1), .val (.int cq), .val (.int (0 : Int32)), .val (.int p4), .val (.int cq), .val (.int (4 : Int32))]) rfl k) ?_
                  show ORunF p e below _ s₁ (mkF m 28 #[.val (.ref b1), .val (.int cq), .val (.int (0 : Int32)), .val (.int p4), .val (.int cq), .val (.int (4 : Int32))] [])
                  refine own_by (fun t k => XS.goto X0.here hx rfl (pc0 := 28) (pc' := 7) rfl (hb hby d21_28) (by decide) (by decide) k) ?_
                  show ORunF p e below _ s₁ (mkF m 7 #[.val (.ref b1), .val (.int cq), .val (.int (0 : Int32)), .val (.int p4), .val (.int cq), .val (.int (4 : Int32))] [])
                  refine own_by (fun t k => XS.iload X0.here hx rfl (hb hby d21_7) rfl k) ?_
                  show ORunF p e below _ s₁ (mkF m 9 #[.val (.ref b1), .val (.int cq), .val (.int (0 : Int32)), .val (.int p4), .val (.int cq), .val (.int (4 : Int32))] [(.int (4 : Int32))])
                  refine own_by (fun t k => XS.iloadN X0.here hx rfl (hb hby d21_9) rfl k) ?_
                  show ORunF p e below _ s₁ (mkF m 10 #[.val (.ref b1), .val (.int cq), .val (.int (0 : Int32)), .val (.int p4), .val (.int cq), .val (.int (4 : Int32))] [(.int p4), (.int (4 : Int32))])
                  by_cases hc14 : (4 : Int32) < p4
                  · have t14 := own_lt hc14 (a := 4) (b := p4.toInt) (by decide) rfl
                    exfalso
                    omega
                  · have t14 := own_nlt hc14 (a := 4) (b := p4.toInt) (by decide) rfl
                    refine own_by (fun t k => XS.icmpYes X0.here hx rfl (pc0 := 10) (pc' := 31) rfl (hb hby d21_10) rfl (flt hc14).2.1 (by decide) (by decide) k) ?_
                    show ORunF p e below _ s₁ (mkF m 31 #[.val (.ref b1), .val (.int cq), .val (.int (0 : Int32)), .val (.int p4), .val (.int cq), .val (.int (4 : Int32))] [])
                    refine own_by (fun t k => XS.iconst X0.here hx rfl (hb hby d21_31) k) ?_
                    show ORunF p e below _ s₁ (mkF m 32 #[.val (.ref b1), .val (.int cq), .val (.int (0 : Int32)), .val (.int p4), .val (.int cq), .val (.int (4 : Int32))] [(.int (-1 : Int32))])
                    refine own_retI X0 hx hret hlk (hb hby d21_32) (by decide) (by decide) ?_
                    refine ⟨_, rfl, Or.inr ⟨by decide, ?_⟩, N0, e0⟩
                    have eN : N = 4 := by omega
                    rw [eN]
                    exact (own_ltS (own_ltS (own_ltS (own_ltS own_lt0 (fun q => hc4 ((hv3).trans q))) (fun q => hc7 ((hv6).trans q))) (fun q => hc10 ((hv9).trans q))) (fun q => hc13 ((hv12).trans q)))
              · have t11 := own_nlt hc11 (a := 3) (b := p4.toInt) (by decide) rfl
                refine own_by (fun t k => XS.icmpYes X0.here hx rfl (pc0 := 10) (pc' := 31) rfl (hb hby d21_10) rfl (flt hc11).2.1 (by decide) (by decide) k) ?_
                show ORunF p e below _ s₁ (mkF m 31 #[.val (.ref b1), .val (.int cq), .val (.int (0 : Int32)), .val (.int p4), .val (.int cq), .val (.int (3 : Int32))] [])
                refine own_by (fun t k => XS.iconst X0.here hx rfl (hb hby d21_31) k) ?_
                show ORunF p e below _ s₁ (mkF m 32 #[.val (.ref b1), .val (.int cq), .val (.int (0 : Int32)), .val (.int p4), .val (.int cq), .val (.int (3 : Int32))] [(.int (-1 : Int32))])
                refine own_retI X0 hx hret hlk (hb hby d21_32) (by decide) (by decide) ?_
                refine ⟨_, rfl, Or.inr ⟨by decide, ?_⟩, N0, e0⟩
                have eN : N = 3 := by omega
                rw [eN]
                exact (own_ltS (own_ltS (own_ltS own_lt0 (fun q => hc4 ((hv3).trans q))) (fun q => hc7 ((hv6).trans q))) (fun q => hc10 ((hv9).trans q)))
          · have t8 := own_nlt hc8 (a := 2) (b := p4.toInt) (by decide) rfl
            refine own_by (fun t k => XS.icmpYes X0.here hx rfl (pc0 := 10) (pc' := 31) rfl (hb hby d21_10) rfl (flt hc8).2.1 (by decide) (by decide) k) ?_
            show ORunF p e below _ s₁ (mkF m 31 #[.val (.ref b1), .val (.int cq), .val (.int (0 : Int32)), .val (.int p4), .val (.int cq), .val (.int (2 : Int32))] [])
            refine own_by (fun t k => XS.iconst X0.here hx rfl (hb hby d21_31) k) ?_
            show ORunF p e below _ s₁ (mkF m 32 #[.val (.ref b1), .val (.int cq), .val (.int (0 : Int32)), .val (.int p4), .val (.int cq), .val (.int (2 : Int32))] [(.int (-1 : Int32))])
            refine own_retI X0 hx hret hlk (hb hby d21_32) (by decide) (by decide) ?_
            refine ⟨_, rfl, Or.inr ⟨by decide, ?_⟩, N0, e0⟩
            have eN : N = 2 := by omega
            rw [eN]
            exact (own_ltS (own_ltS own_lt0 (fun q => hc4 ((hv3).trans q))) (fun q => hc7 ((hv6).trans q)))
      · have t5 := own_nlt hc5 (a := 1) (b := p4.toInt) (by decide) rfl
        refine own_by (fun t k => XS.icmpYes X0.here hx rfl (pc0 := 10) (pc' := 31) rfl (hb hby d21_10) rfl (flt hc5).2.1 (by decide) (by decide) k) ?_
        show ORunF p e below _ s₁ (mkF m 31 #[.val (.ref b1), .val (.int cq), .val (.int (0 : Int32)), .val (.int p4), .val (.int cq), .val (.int (1 : Int32))] [])
        refine own_by (fun t k => XS.iconst X0.here hx rfl (hb hby d21_31) k) ?_
        show ORunF p e below _ s₁ (mkF m 32 #[.val (.ref b1), .val (.int cq), .val (.int (0 : Int32)), .val (.int p4), .val (.int cq), .val (.int (1 : Int32))] [(.int (-1 : Int32))])
        refine own_retI X0 hx hret hlk (hb hby d21_32) (by decide) (by decide) ?_
        refine ⟨_, rfl, Or.inr ⟨by decide, ?_⟩, N0, e0⟩
        have eN : N = 1 := by omega
        rw [eN]
        exact (own_ltS own_lt0 (fun q => hc4 ((hv3).trans q)))
  · have t2 := own_nlt hc2 (a := 0) (b := p4.toInt) (by decide) rfl
    refine own_by (fun t k => XS.icmpYes X0.here hx rfl (pc0 := 10) (pc' := 31) rfl (hb hby d21_10) rfl (flt hc2).2.1 (by decide) (by decide) k) ?_
    show ORunF p e below _ s₁ (mkF m 31 #[.val (.ref b1), .val (.int cq), .val (.int (0 : Int32)), .val (.int p4), .val (.int cq), .val (.int (0 : Int32))] [])
    refine own_by (fun t k => XS.iconst X0.here hx rfl (hb hby d21_31) k) ?_
    show ORunF p e below _ s₁ (mkF m 32 #[.val (.ref b1), .val (.int cq), .val (.int (0 : Int32)), .val (.int p4), .val (.int cq), .val (.int (0 : Int32))] [(.int (-1 : Int32))])
    refine own_retI X0 hx hret hlk (hb hby d21_32) (by decide) (by decide) ?_
    refine ⟨_, rfl, Or.inr ⟨by decide, ?_⟩, N0, e0⟩
    have eN : N = 0 := by omega
    rw [eN]
    exact own_lt0
theorem d12_0 : decode jdk_43_method_22_code 0 = .ok (.iload_n 1, 1) := by decide +kernel
theorem d12_1 : decode jdk_43_method_22_code 1 = .ok (.invokestatic 88, 3) := by decide +kernel
theorem d12_4 : decode jdk_43_method_22_code 4 = .ok (.ifCond .ne 5, 3) := by decide +kernel
theorem d12_9 : decode jdk_43_method_22_code 9 = .ok (.iload_n 2, 1) := by decide +kernel
theorem d12_10 : decode jdk_43_method_22_code 10 = .ok (.iconst 0, 1) := by decide +kernel
theorem d12_11 : decode jdk_43_method_22_code 11 = .ok (.invokestatic 92, 3) := by decide +kernel
theorem d12_14 : decode jdk_43_method_22_code 14 = .ok (.istore_n 2, 1) := by decide +kernel
theorem d12_15 : decode jdk_43_method_22_code 15 = .ok (.iload_n 3, 1) := by decide +kernel
theorem d12_16 : decode jdk_43_method_22_code 16 = .ok (.aload_n 0, 1) := by decide +kernel
theorem d12_17 : decode jdk_43_method_22_code 17 = .ok (.arraylength, 1) := by decide +kernel
theorem d12_18 : decode jdk_43_method_22_code 18 = .ok (.invokestatic 38, 3) := by decide +kernel
theorem d12_21 : decode jdk_43_method_22_code 21 = .ok (.istore_n 3, 1) := by decide +kernel
theorem d12_22 : decode jdk_43_method_22_code 22 = .ok (.iload_n 2, 1) := by decide +kernel
theorem d12_23 : decode jdk_43_method_22_code 23 = .ok (.iload_n 3, 1) := by decide +kernel
theorem d12_24 : decode jdk_43_method_22_code 24 = .ok (.if_icmp .lt 5, 3) := by decide +kernel
theorem d12_27 : decode jdk_43_method_22_code 27 = .ok (.iconst (-1), 1) := by decide +kernel
theorem d12_28 : decode jdk_43_method_22_code 28 = .ok (.ireturn, 1) := by decide +kernel
theorem d12_29 : decode jdk_43_method_22_code 29 = .ok (.aload_n 0, 1) := by decide +kernel
theorem d12_30 : decode jdk_43_method_22_code 30 = .ok (.iload_n 1, 1) := by decide +kernel
theorem d12_31 : decode jdk_43_method_22_code 31 = .ok (.iload_n 2, 1) := by decide +kernel
theorem d12_32 : decode jdk_43_method_22_code 32 = .ok (.iload_n 3, 1) := by decide +kernel
theorem d12_33 : decode jdk_43_method_22_code 33 = .ok (.invokestatic 95, 3) := by decide +kernel
theorem d12_36 : decode jdk_43_method_22_code 36 = .ok (.ireturn, 1) := by decide +kernel
theorem pn_rm12 : plainName "java/lang/StringLatin1" = true := by first | (simp [plainName, overriddenIn]; done) | decide +kernel
theorem ef_rm12 (m : MethodId) (x0 : Addr) (x1 : Int32) (x2 : Int32) (x3 : Int32) : entryFrame m #[(.ref x0), (.int x1), (.int x2), (.int x3)] 4 = mkF m 0 #[.val (.ref x0), .val (.int x1), .val (.int x2), .val (.int x3)] [] := by first | (simp [entryFrame, mkF, argsToLocals, Value.category]; done) | rfl
set_option maxRecDepth 65536 in
set_option maxHeartbeats 40000000 in
theorem rm12 (l : Launch) (Z : State) (a0 : Array Value) (hw : ∀ d ∈ tables_1, d.before a0 Z = true) (ws : List Jvm.Cond) (h0 : Heap) (n0 : Nat) (Z0 : n0 ≤ h0.size) (b1 : Addr) (cq p4 : Int32) (L : List Int32) (N : Nat) (V_b1 : OVec Z h0 b1 .byte L) (hN : L.length = N) (hN4 : N ≤ 4) (hc : 0 ≤ cq.toInt ∧ cq.toInt < 128) (hp4 : p4.toInt = N) :
    OMet l (⟨"java/lang/StringLatin1", "indexOf", "([BIII)I"⟩ : MethodName) jdk_43_method_22_code 4 (some .int) ws ({ frames := 1, cells := 0, slots := 0, locals := 20 } : Room) #[(.ref b1), (.int cq), (.int (0 : Int32)), (.int p4)] Z h0 (fun v h L' => ∃ r : Int32, v = some (.int r) ∧ ((0 ≤ r.toInt ∧ r.toInt < N ∧ L.getD r.toInt.toNat 0 = cq ∧ ∀ j, j < r.toInt.toNat → L.getD j 0 ≠ cq) ∨ (r.toInt = -1 ∧ ∀ j, j < N → L.getD j 0 ≠ cq)) ∧ Fr n0 L' ∧ h = h0) := by
  refine own_met (plainFor_of_name pn_rm12) ?_
  intro p e s m below meth c s₁ X0 hx hby hml hown hnm hret hlk hZ e0
  rw [ef_rm12]
  have N0 := Fr.nil n0
  have rg_cq := rng32 cq
  have rg_p4 := rng32 p4
  show ORunF p e below _ s₁ (mkF m 0 #[.val (.ref b1), .val (.int cq), .val (.int (0 : Int32)), .val (.int p4)] [])
  refine own_by (fun t k => XS.iloadN X0.here hx rfl (hb hby d12_0) rfl k) ?_
  show ORunF p e below _ s₁ (mkF m 1 #[.val (.ref b1), .val (.int cq), .val (.int (0 : Int32)), .val (.int p4)] [(.int cq)])
  refine own_callS X0 hx hZ hown (hw _ (List.mem_of_getElem? (i := 64) rfl)) (hw _ (List.mem_of_getElem? (i := 65) rfl)) (hw _ (List.mem_of_getElem? (i := 62) rfl)) (hw _ (List.mem_of_getElem? (i := 66) rfl)) (by decide) (rm13 l Z a0 hw [] h0 n0 Z0 cq hc) e0 (by decide) (W := 0) (by decide) (by decide) (by decide) (argsL := [(.int cq)]) (rest := []) (by rw [hml]; rfl) (lenOf pd_1 rfl) rfl rfl (Nat.le_of_eq rfl) (hb hby d12_1) ?_
  intro T1 L1 u1 X1 hQ1
  obtain ⟨rfl, Nq1, e1⟩ := hQ1
  have N1 := Fr.app N0 Nq1
  show ORunF p e below _ T1 (mkF m 4 #[.val (.ref b1), .val (.int cq), .val (.int (0 : Int32)), .val (.int p4)] [(.int (1 : Int32))])
  refine own_by (fun t k => XS.ifYes X1.here hx rfl (pc0 := 4) (pc' := 9) rfl (hb hby d12_4) rfl ((if0 _ _).trans (feq (by decide)).2) (by decide) (by decide) k) ?_
  show ORunF p e below _ T1 (mkF m 9 #[.val (.ref b1), .val (.int cq), .val (.int (0 : Int32)), .val (.int p4)] [])
  refine own_by (fun t k => XS.iloadN X1.here hx rfl (hb hby d12_9) rfl k) ?_
  show ORunF p e below _ T1 (mkF m 10 #[.val (.ref b1), .val (.int cq), .val (.int (0 : Int32)), .val (.int p4)] [(.int (0 : Int32))])
  refine own_by (fun t k => XS.iconst X1.here hx rfl (hb hby d12_10) k) ?_
  show ORunF p e below _ T1 (mkF m 11 #[.val (.ref b1), .val (.int cq), .val (.int (0 : Int32)), .val (.int p4)] [(.int (0 : Int32)), (.int (0 : Int32))])
  refine own_callS X1 hx hZ hown (hw _ (List.mem_of_getElem? (i := 67) rfl)) (hw _ (List.mem_of_getElem? (i := 68) rfl)) (hw _ (List.mem_of_getElem? (i := 69) rfl)) (hw _ (List.mem_of_getElem? (i := 70) rfl)) (by decide) (rm14 l Z a0 hw [] h0 n0 Z0 (0 : Int32) (0 : Int32)) e1 (by decide) (W := 0) (by decide) (by decide) (by decide) (argsL := [(.int (0 : Int32)), (.int (0 : Int32))]) (rest := []) (by rw [hml]; rfl) (lenOf pd_2 rfl) rfl rfl (Nat.le_of_eq rfl) (hb hby d12_11) ?_
  intro T2 L2 u2 X2 hQ2
  obtain ⟨y2, rfl, hy2, Nq2, e2⟩ := hQ2
  have N2 := Fr.app N1 Nq2
  have tz2_0 : ((0 : Int32)).toInt = 0 := by decide
  show ORunF p e below _ T2 (mkF m 14 #[.val (.ref b1), .val (.int cq), .val (.int (0 : Int32)), .val (.int p4)] [(.int y2)])
  refine own_by (fun t k => XS.istoreN X2.here hx rfl (hb hby d12_14) rfl (l' := #[.val (.ref b1), .val (.int cq), .val (.int y2), .val (.int p4)]) rfl k) ?_
  show ORunF p e below _ T2 (mkF m 15 #[.val (.ref b1), .val (.int cq), .val (.int y2), .val (.int p4)] [])
  refine own_by (fun t k => XS.iloadN X2.here hx rfl (hb hby d12_15) rfl k) ?_
  show ORunF p e below _ T2 (mkF m 16 #[.val (.ref b1), .val (.int cq), .val (.int y2), .val (.int p4)] [(.int p4)])
  refine own_by (fun t k => XS.aloadN X2.here hx rfl (hb hby d12_16) rfl rfl k) ?_
  show ORunF p e below _ T2 (mkF m 17 #[.val (.ref b1), .val (.int cq), .val (.int y2), .val (.int p4)] [(.ref b1), (.int p4)])
  refine own_lenv X2 hx hZ e2 V_b1 (n := N) hN (by omega) (hb hby d12_17) ?_
  intro v3 hv3
  show ORunF p e below _ T2 (mkF m 18 #[.val (.ref b1), .val (.int cq), .val (.int y2), .val (.int p4)] [(.int v3), (.int p4)])
  refine own_callS X2 hx hZ hown (hw _ (List.mem_of_getElem? (i := 71) rfl)) (hw _ (List.mem_of_getElem? (i := 72) rfl)) (hw _ (List.mem_of_getElem? (i := 69) rfl)) (hw _ (List.mem_of_getElem? (i := 73) rfl)) (by decide) (rm15 l Z a0 hw [] h0 n0 Z0 p4 v3) e2 (by decide) (W := 0) (by decide) (by decide) (by decide) (argsL := [(.int p4), (.int v3)]) (rest := []) (by rw [hml]; rfl) (lenOf pd_2 rfl) rfl rfl (Nat.le_of_eq rfl) (hb hby d12_18) ?_
  intro T4 L4 u4 X4 hQ4
  obtain ⟨y4, rfl, hy4, Nq4, e4⟩ := hQ4
  have N4 := Fr.app N2 Nq4
  show ORunF p e below _ T4 (mkF m 21 #[.val (.ref b1), .val (.int cq), .val (.int y2), .val (.int p4)] [(.int y4)])
  refine own_by (fun t k => XS.istoreN X4.here hx rfl (hb hby d12_21) rfl (l' := #[.val (.ref b1), .val (.int cq), .val (.int y2), .val (.int y4)]) rfl k) ?_
  show ORunF p e below _ T4 (mkF m 22 #[.val (.ref b1), .val (.int cq), .val (.int y2), .val (.int y4)] [])
  refine own_by (fun t k => XS.iloadN X4.here hx rfl (hb hby d12_22) rfl k) ?_
  show ORunF p e below _ T4 (mkF m 23 #[.val (.ref b1), .val (.int cq), .val (.int y2), .val (.int y4)] [(.int y2)])
  refine own_by (fun t k => XS.iloadN X4.here hx rfl (hb hby d12_23) rfl k) ?_
  show ORunF p e below _ T4 (mkF m 24 #[.val (.ref b1), .val (.int cq), .val (.int y2), .val (.int y4)] [(.int y4), (.int y2)])
  by_cases hc5 : y2 < y4
  · have t5 := own_lt hc5 (a := y2.toInt) (b := y4.toInt) rfl rfl
    refine own_by (fun t k => XS.icmpYes X4.here hx rfl (pc0 := 24) (pc' := 29) rfl (hb hby d12_24) rfl (tlt hc5).1 (by decide) (by decide) k) ?_
    show ORunF p e below _ T4 (mkF m 29 #[.val (.ref b1), .val (.int cq), .val (.int y2), .val (.int y4)] [])
    refine own_by (fun t k => XS.aloadN X4.here hx rfl (hb hby d12_29) rfl rfl k) ?_
    show ORunF p e below _ T4 (mkF m 30 #[.val (.ref b1), .val (.int cq), .val (.int y2), .val (.int y4)] [(.ref b1)])
    refine own_by (fun t k => XS.iloadN X4.here hx rfl (hb hby d12_30) rfl k) ?_
    show ORunF p e below _ T4 (mkF m 31 #[.val (.ref b1), .val (.int cq), .val (.int y2), .val (.int y4)] [(.int cq), (.ref b1)])
    refine own_by (fun t k => XS.iloadN X4.here hx rfl (hb hby d12_31) rfl k) ?_
    show ORunF p e below _ T4 (mkF m 32 #[.val (.ref b1), .val (.int cq), .val (.int y2), .val (.int y4)] [(.int y2), (.int cq), (.ref b1)])
    refine own_by (fun t k => XS.iloadN X4.here hx rfl (hb hby d12_32) rfl k) ?_
    show ORunF p e below _ T4 (mkF m 33 #[.val (.ref b1), .val (.int cq), .val (.int y2), .val (.int y4)] [(.int y4), (.int y2), (.int cq), (.ref b1)])
    have z06 : y2.toInt = 0 := by omega
    obtain rfl : y2 = (0 : Int32) := Int32.toInt_inj.mp z06
    refine own_callS X4 hx hZ hown (hw _ (List.mem_of_getElem? (i := 93) rfl)) (hw _ (List.mem_of_getElem? (i := 94) rfl)) (hw _ (List.mem_of_getElem? (i := 62) rfl)) (hw _ (List.mem_of_getElem? (i := 95) rfl)) (by decide) (rm21 l Z a0 hw [] h0 n0 Z0 b1 cq y4 L N V_b1 hN hN4 hc (by omega)) e4 (by decide) (W := 0) (by decide) (by decide) (by decide) (argsL := [(.ref b1), (.int cq), (.int (0 : Int32)), (.int y4)]) (rest := []) (by rw [hml]; rfl) (lenOf pd_3 rfl) rfl rfl (Nat.le_of_eq rfl) (hb hby d12_33) ?_
    intro T6 L6 u6 X6 hQ6
    obtain ⟨y6, rfl, hy6, Nq6, e6⟩ := hQ6
    have N6 := Fr.app N4 Nq6
    have ry6 := rng32 y6
    show ORunF p e below _ T6 (mkF m 36 #[.val (.ref b1), .val (.int cq), .val (.int (0 : Int32)), .val (.int y4)] [(.int y6)])
    refine own_retI X6 hx hret hlk (hb hby d12_36) (by decide) (by decide) ?_
    exact ⟨_, rfl, hy6, N6, e6⟩
  · have t5 := own_nlt hc5 (a := y2.toInt) (b := y4.toInt) rfl rfl
    refine own_by (fun t k => XS.icmpNo X4.here hx rfl (hb hby d12_24) rfl (flt hc5).1 k) ?_
    show ORunF p e below _ T4 (mkF m 27 #[.val (.ref b1), .val (.int cq), .val (.int y2), .val (.int y4)] [])
    refine own_by (fun t k => XS.iconst X4.here hx rfl (hb hby d12_27) k) ?_
    show ORunF p e below _ T4 (mkF m 28 #[.val (.ref b1), .val (.int cq), .val (.int y2), .val (.int y4)] [(.int (-1 : Int32))])
    refine own_retI X4 hx hret hlk (hb hby d12_28) (by decide) (by decide) ?_
    exact ⟨_, rfl, Or.inr ⟨by decide, fun j hj => absurd hj (by omega)⟩, N4, e4⟩
theorem d8_0 : decode jdk_42_method_80_code 0 = .ok (.aload_n 0, 1) := by decide +kernel
theorem d8_1 : decode jdk_42_method_80_code 1 = .ok (.invokevirtual 492, 3) := by decide +kernel
theorem d8_4 : decode jdk_42_method_80_code 4 = .ok (.ifCond .eq 19, 3) := by decide +kernel
theorem d8_7 : decode jdk_42_method_80_code 7 = .ok (.aload_n 0, 1) := by decide +kernel
theorem d8_8 : decode jdk_42_method_80_code 8 = .ok (.getfield 9, 3) := by decide +kernel
theorem d8_11 : decode jdk_42_method_80_code 11 = .ok (.iload_n 1, 1) := by decide +kernel
theorem d8_12 : decode jdk_42_method_80_code 12 = .ok (.iload_n 2, 1) := by decide +kernel
theorem d8_13 : decode jdk_42_method_80_code 13 = .ok (.aload_n 0, 1) := by decide +kernel
theorem d8_14 : decode jdk_42_method_80_code 14 = .ok (.invokevirtual 505, 3) := by decide +kernel
theorem d8_17 : decode jdk_42_method_80_code 17 = .ok (.invokestatic 637, 3) := by decide +kernel
theorem d8_20 : decode jdk_42_method_80_code 20 = .ok (.goto 16, 3) := by decide +kernel
theorem d8_36 : decode jdk_42_method_80_code 36 = .ok (.ireturn, 1) := by decide +kernel
theorem pn_rm8 : plainName "java/lang/String" = true := by first | (simp [plainName, overriddenIn]; done) | decide +kernel
theorem ef_rm8 (m : MethodId) (x0 : Addr) (x1 : Int32) (x2 : Int32) : entryFrame m #[(.ref x0), (.int x1), (.int x2)] 3 = mkF m 0 #[.val (.ref x0), .val (.int x1), .val (.int x2)] [] := by first | (simp [entryFrame, mkF, argsToLocals, Value.category]; done) | rfl
set_option maxRecDepth 65536 in
set_option maxHeartbeats 40000000 in
theorem rm8 (l : Launch) (Z : State) (a0 : Array Value) (hw : ∀ d ∈ tables_1, d.before a0 Z = true) (ws : List Jvm.Cond) (h0 : Heap) (n0 : Nat) (Z0 : n0 ≤ h0.size) (a1 b1 : Addr) (cq : Int32) (L : List Int32) (N : Nat) (z : Int32) (hz : ¬ z = 0) (Sc : Sta Z h0 "java/lang/String" "COMPACT_STRINGS" "Z" (.int z)) (E_a1 : Exa Z h0 a1 "java/lang/String") (Fc_a1 : Fld Z h0 a1 "java/lang/String" "coder" "B" (.int 0)) (Fv_a1 : Fld Z h0 a1 "java/lang/String" "value" "[B" (.ref b1)) (V_b1 : OVec Z h0 b1 .byte L) (hN : L.length = N) (hN4 : N ≤ 4) (hc : 0 ≤ cq.toInt ∧ cq.toInt < 128) :
    OMet l (⟨"java/lang/String", "indexOf", "(II)I"⟩ : MethodName) jdk_42_method_80_code 3 (some .int) ws ({ frames := 2, cells := 0, slots := 0, locals := 50 } : Room) #[(.ref a1), (.int cq), (.int (0 : Int32))] Z h0 (fun v h L' => ∃ r : Int32, v = some (.int r) ∧ ((0 ≤ r.toInt ∧ r.toInt < N ∧ L.getD r.toInt.toNat 0 = cq ∧ ∀ j, j < r.toInt.toNat → L.getD j 0 ≠ cq) ∨ (r.toInt = -1 ∧ ∀ j, j < N → L.getD j 0 ≠ cq)) ∧ Fr n0 L' ∧ h = h0) := by
  refine own_met (plainFor_of_name pn_rm8) ?_
  intro p e s m below meth c s₁ X0 hx hby hml hown hnm hret hlk hZ e0
  rw [ef_rm8]
  have N0 := Fr.nil n0
  have rg_cq := rng32 cq
  show ORunF p e below _ s₁ (mkF m 0 #[.val (.ref a1), .val (.int cq), .val (.int (0 : Int32))] [])
  refine own_by (fun t k => XS.aloadN X0.here hx rfl (hb hby d8_0) rfl rfl k) ?_
  show ORunF p e below _ s₁ (mkF m 1 #[.val (.ref a1), .val (.int cq), .val (.int (0 : Int32))] [(.ref a1)])
  refine own_callV X0 hx hZ hown E_a1 (hw _ (List.mem_of_getElem? (i := 44) rfl)) (hw _ (List.mem_of_getElem? (i := 45) rfl)) (notFace_of_selects (args := #[]) (mvT hZ (hw _ (List.mem_of_getElem? (i := 47) rfl)))) (hw _ (List.mem_of_getElem? (i := 47) rfl)) (hw _ (List.mem_of_getElem? (i := 46) rfl)) (hw _ (List.mem_of_getElem? (i := 10) rfl)) (hw _ (List.mem_of_getElem? (i := 48) rfl)) (by decide) (rm9 l Z a0 hw [] h0 n0 Z0 a1 z hz Sc Fc_a1) e0 (by decide) (W := 0) (by decide) (by decide) (by decide) (argsL := []) (rest := []) (by rw [hml]; rfl) (lenOf pd_4 rfl) rfl rfl (Nat.le_of_eq rfl) (hb hby d8_1) ?_
  intro T1 L1 u1 X1 hQ1
  obtain ⟨rfl, Nq1, e1⟩ := hQ1
  have N1 := Fr.app N0 Nq1
  show ORunF p e below _ T1 (mkF m 4 #[.val (.ref a1), .val (.int cq), .val (.int (0 : Int32))] [(.int (1 : Int32))])
  refine own_by (fun t k => XS.ifNo X1.here hx rfl (hb hby d8_4) rfl ((if0 _ _).trans (feq (by decide)).1) k) ?_
  show ORunF p e below _ T1 (mkF m 7 #[.val (.ref a1), .val (.int cq), .val (.int (0 : Int32))] [])
  refine own_by (fun t k => XS.aloadN X1.here hx rfl (hb hby d8_7) rfl rfl k) ?_
  show ORunF p e below _ T1 (mkF m 8 #[.val (.ref a1), .val (.int cq), .val (.int (0 : Int32))] [(.ref a1)])
  obtain ⟨T2, X2, e2, st2⟩ := getF X1 hx hZ hown (host := "") (Or.inl (hw _ (List.mem_of_getElem? (i := 28) rfl))) Via.refl e1 Fv_a1 (g := (mkF m 8 #[.val (.ref a1), .val (.int cq), .val (.int (0 : Int32))] [(.ref a1)])) rfl rfl (hb hby d8_8)
  refine own_by st2 ?_
  show ORunF p e below _ T2 (mkF m 11 #[.val (.ref a1), .val (.int cq), .val (.int (0 : Int32))] [(.ref b1)])
  refine own_by (fun t k => XS.iloadN X2.here hx rfl (hb hby d8_11) rfl k) ?_
  show ORunF p e below _ T2 (mkF m 12 #[.val (.ref a1), .val (.int cq), .val (.int (0 : Int32))] [(.int cq), (.ref b1)])
  refine own_by (fun t k => XS.iloadN X2.here hx rfl (hb hby d8_12) rfl k) ?_
  show ORunF p e below _ T2 (mkF m 13 #[.val (.ref a1), .val (.int cq), .val (.int (0 : Int32))] [(.int (0 : Int32)), (.int cq), (.ref b1)])
  refine own_by (fun t k => XS.aloadN X2.here hx rfl (hb hby d8_13) rfl rfl k) ?_
  show ORunF p e below _ T2 (mkF m 14 #[.val (.ref a1), .val (.int cq), .val (.int (0 : Int32))] [(.ref a1), (.int (0 : Int32)), (.int cq), (.ref b1)])
  refine own_callV X2 hx hZ hown E_a1 (hw _ (List.mem_of_getElem? (i := 50) rfl)) (hw _ (List.mem_of_getElem? (i := 51) rfl)) (notFace_of_selects (args := #[]) (mvT hZ (hw _ (List.mem_of_getElem? (i := 53) rfl)))) (hw _ (List.mem_of_getElem? (i := 53) rfl)) (hw _ (List.mem_of_getElem? (i := 52) rfl)) (hw _ (List.mem_of_getElem? (i := 10) rfl)) (hw _ (List.mem_of_getElem? (i := 54) rfl)) (by decide) (rm10 l Z a0 hw [] h0 n0 Z0 a1 b1 L N z hz Sc E_a1 Fc_a1 Fv_a1 V_b1 hN (by omega)) e2 (by decide) (W := 3) (by decide) (by decide) (by decide) (argsL := []) (rest := [(.int (0 : Int32)), (.int cq), (.ref b1)]) (by rw [hml]; rfl) (lenOf pd_5 rfl) rfl rfl (Nat.le_of_eq rfl) (hb hby d8_14) ?_
  intro T3 L3 u3 X3 hQ3
  obtain ⟨y3, rfl, hy3, Nq3, e3⟩ := hQ3
  have N3 := Fr.app N1 Nq3
  have ry3 := rng32 y3
  show ORunF p e below _ T3 (mkF m 17 #[.val (.ref a1), .val (.int cq), .val (.int (0 : Int32))] [(.int y3), (.int (0 : Int32)), (.int cq), (.ref b1)])
  refine own_callS X3 hx hZ hown (hw _ (List.mem_of_getElem? (i := 60) rfl)) (hw _ (List.mem_of_getElem? (i := 61) rfl)) (hw _ (List.mem_of_getElem? (i := 62) rfl)) (hw _ (List.mem_of_getElem? (i := 63) rfl)) (by decide) (rm12 l Z a0 hw [] h0 n0 Z0 b1 cq y3 L N V_b1 hN hN4 hc (by omega)) e3 (by decide) (W := 0) (by decide) (by decide) (by decide) (argsL := [(.ref b1), (.int cq), (.int (0 : Int32)), (.int y3)]) (rest := []) (by rw [hml]; rfl) (lenOf pd_3 rfl) rfl rfl (Nat.le_of_eq rfl) (hb hby d8_17) ?_
  intro T4 L4 u4 X4 hQ4
  obtain ⟨y4, rfl, hy4, Nq4, e4⟩ := hQ4
  have N4 := Fr.app N3 Nq4
  have ry4 := rng32 y4
  show ORunF p e below _ T4 (mkF m 20 #[.val (.ref a1), .val (.int cq), .val (.int (0 : Int32))] [(.int y4)])
  refine own_by (fun t k => XS.goto X4.here hx rfl (pc0 := 20) (pc' := 36) rfl (hb hby d8_20) (by decide) (by decide) k) ?_
  show ORunF p e below _ T4 (mkF m 36 #[.val (.ref a1), .val (.int cq), .val (.int (0 : Int32))] [(.int y4)])
  refine own_retI X4 hx hret hlk (hb hby d8_36) (by decide) (by decide) ?_
  exact ⟨_, rfl, hy4, N4, e4⟩
theorem d7_0 : decode jdk_42_method_79_code 0 = .ok (.aload_n 0, 1) := by decide +kernel
theorem d7_1 : decode jdk_42_method_79_code 1 = .ok (.iload_n 1, 1) := by decide +kernel
theorem d7_2 : decode jdk_42_method_79_code 2 = .ok (.iconst 0, 1) := by decide +kernel
theorem d7_3 : decode jdk_42_method_79_code 3 = .ok (.invokevirtual 633, 3) := by decide +kernel
theorem d7_6 : decode jdk_42_method_79_code 6 = .ok (.ireturn, 1) := by decide +kernel
theorem pn_rm7 : plainName "java/lang/String" = true := by first | (simp [plainName, overriddenIn]; done) | decide +kernel
theorem ef_rm7 (m : MethodId) (x0 : Addr) (x1 : Int32) : entryFrame m #[(.ref x0), (.int x1)] 2 = mkF m 0 #[.val (.ref x0), .val (.int x1)] [] := by first | (simp [entryFrame, mkF, argsToLocals, Value.category]; done) | rfl
set_option maxRecDepth 65536 in
set_option maxHeartbeats 40000000 in
theorem rm7 (l : Launch) (Z : State) (a0 : Array Value) (hw : ∀ d ∈ tables_1, d.before a0 Z = true) (ws : List Jvm.Cond) (h0 : Heap) (n0 : Nat) (Z0 : n0 ≤ h0.size) (a1 b1 : Addr) (cq : Int32) (L : List Int32) (N : Nat) (z : Int32) (hz : ¬ z = 0) (Sc : Sta Z h0 "java/lang/String" "COMPACT_STRINGS" "Z" (.int z)) (E_a1 : Exa Z h0 a1 "java/lang/String") (Fc_a1 : Fld Z h0 a1 "java/lang/String" "coder" "B" (.int 0)) (Fv_a1 : Fld Z h0 a1 "java/lang/String" "value" "[B" (.ref b1)) (V_b1 : OVec Z h0 b1 .byte L) (hN : L.length = N) (hN4 : N ≤ 4) (hc : 0 ≤ cq.toInt ∧ cq.toInt < 128) :
    OMet l (⟨"java/lang/String", "indexOf", "(I)I"⟩ : MethodName) jdk_42_method_79_code 2 (some .int) ws ({ frames := 3, cells := 0, slots := 0, locals := 80 } : Room) #[(.ref a1), (.int cq)] Z h0 (fun v h L' => ∃ r : Int32, v = some (.int r) ∧ ((0 ≤ r.toInt ∧ r.toInt < N ∧ L.getD r.toInt.toNat 0 = cq ∧ ∀ j, j < r.toInt.toNat → L.getD j 0 ≠ cq) ∨ (r.toInt = -1 ∧ ∀ j, j < N → L.getD j 0 ≠ cq)) ∧ Fr n0 L' ∧ h = h0) := by
  refine own_met (plainFor_of_name pn_rm7) ?_
  intro p e s m below meth c s₁ X0 hx hby hml hown hnm hret hlk hZ e0
  rw [ef_rm7]
  have N0 := Fr.nil n0
  have rg_cq := rng32 cq
  show ORunF p e below _ s₁ (mkF m 0 #[.val (.ref a1), .val (.int cq)] [])
  refine own_by (fun t k => XS.aloadN X0.here hx rfl (hb hby d7_0) rfl rfl k) ?_
  show ORunF p e below _ s₁ (mkF m 1 #[.val (.ref a1), .val (.int cq)] [(.ref a1)])
  refine own_by (fun t k => XS.iloadN X0.here hx rfl (hb hby d7_1) rfl k) ?_
  show ORunF p e below _ s₁ (mkF m 2 #[.val (.ref a1), .val (.int cq)] [(.int cq), (.ref a1)])
  refine own_by (fun t k => XS.iconst X0.here hx rfl (hb hby d7_2) k) ?_
  show ORunF p e below _ s₁ (mkF m 3 #[.val (.ref a1), .val (.int cq)] [(.int (0 : Int32)), (.int cq), (.ref a1)])
  refine own_callV X0 hx hZ hown E_a1 (hw _ (List.mem_of_getElem? (i := 39) rfl)) (hw _ (List.mem_of_getElem? (i := 40) rfl)) (notFace_of_selects (args := #[]) (mvT hZ (hw _ (List.mem_of_getElem? (i := 42) rfl)))) (hw _ (List.mem_of_getElem? (i := 42) rfl)) (hw _ (List.mem_of_getElem? (i := 41) rfl)) (hw _ (List.mem_of_getElem? (i := 10) rfl)) (hw _ (List.mem_of_getElem? (i := 43) rfl)) (by decide) (rm8 l Z a0 hw [] h0 n0 Z0 a1 b1 cq L N z hz Sc E_a1 Fc_a1 Fv_a1 V_b1 hN hN4 hc) e0 (by decide) (W := 0) (by decide) (by decide) (by decide) (argsL := [(.int cq), (.int (0 : Int32))]) (rest := []) (by rw [hml]; rfl) (lenOf pd_2 rfl) rfl rfl (Nat.le_of_eq rfl) (hb hby d7_3) ?_
  intro T1 L1 u1 X1 hQ1
  obtain ⟨y1, rfl, hy1, Nq1, e1⟩ := hQ1
  have N1 := Fr.app N0 Nq1
  show ORunF p e below _ T1 (mkF m 6 #[.val (.ref a1), .val (.int cq)] [(.int y1)])
  refine own_retI X1 hx hret hlk (hb hby d7_6) (by decide) (by decide) ?_
  exact ⟨_, rfl, hy1, N1, e1⟩
theorem d17_0 : decode jdk_43_method_13_code 0 = .ok (.aload_n 0, 1) := by decide +kernel
theorem d17_1 : decode jdk_43_method_13_code 1 = .ok (.arraylength, 1) := by decide +kernel
theorem d17_2 : decode jdk_43_method_13_code 2 = .ok (.aload_n 1, 1) := by decide +kernel
theorem d17_3 : decode jdk_43_method_13_code 3 = .ok (.arraylength, 1) := by decide +kernel
theorem d17_4 : decode jdk_43_method_13_code 4 = .ok (.if_icmp .ne 30, 3) := by decide +kernel
theorem d17_7 : decode jdk_43_method_13_code 7 = .ok (.iconst 0, 1) := by decide +kernel
theorem d17_8 : decode jdk_43_method_13_code 8 = .ok (.istore_n 2, 1) := by decide +kernel
theorem d17_9 : decode jdk_43_method_13_code 9 = .ok (.iload_n 2, 1) := by decide +kernel
theorem d17_10 : decode jdk_43_method_13_code 10 = .ok (.aload_n 0, 1) := by decide +kernel
theorem d17_11 : decode jdk_43_method_13_code 11 = .ok (.arraylength, 1) := by decide +kernel
theorem d17_12 : decode jdk_43_method_13_code 12 = .ok (.if_icmp .ge 20, 3) := by decide +kernel
theorem d17_15 : decode jdk_43_method_13_code 15 = .ok (.aload_n 0, 1) := by decide +kernel
theorem d17_16 : decode jdk_43_method_13_code 16 = .ok (.iload_n 2, 1) := by decide +kernel
theorem d17_17 : decode jdk_43_method_13_code 17 = .ok (.baload, 1) := by decide +kernel
theorem d17_18 : decode jdk_43_method_13_code 18 = .ok (.aload_n 1, 1) := by decide +kernel
theorem d17_19 : decode jdk_43_method_13_code 19 = .ok (.iload_n 2, 1) := by decide +kernel
theorem d17_20 : decode jdk_43_method_13_code 20 = .ok (.baload, 1) := by decide +kernel
theorem d17_21 : decode jdk_43_method_13_code 21 = .ok (.if_icmp .eq 5, 3) := by decide +kernel
theorem d17_26 : decode jdk_43_method_13_code 26 = .ok (.iinc 2 1, 3) := by decide +kernel
theorem d17_29 : decode jdk_43_method_13_code 29 = .ok (.goto (-20), 3) := by decide +kernel
theorem d17_32 : decode jdk_43_method_13_code 32 = .ok (.iconst 1, 1) := by decide +kernel
theorem d17_33 : decode jdk_43_method_13_code 33 = .ok (.ireturn, 1) := by decide +kernel
theorem pn_rm17 : plainName "java/lang/StringLatin1" = true := by first | (simp [plainName, overriddenIn]; done) | decide +kernel
theorem ef_rm17 (m : MethodId) (x0 : Addr) (x1 : Addr) : entryFrame m #[(.ref x0), (.ref x1)] 3 = mkF m 0 #[.val (.ref x0), .val (.ref x1), .unset] [] := by first | (simp [entryFrame, mkF, argsToLocals, Value.category]; done) | rfl
set_option maxRecDepth 65536 in
set_option maxHeartbeats 40000000 in
theorem rm17 (l : Launch) (Z : State) (a0 : Array Value) (hw : ∀ d ∈ tables_1, d.before a0 Z = true) (ws : List Jvm.Cond) (h0 : Heap) (n0 : Nat) (Z0 : n0 ≤ h0.size) (b1 b2 : Addr) (L : List Int32) (N : Nat) (V_b1 : OVec Z h0 b1 .byte L) (V_b2 : OVec Z h0 b2 .byte L) (hN : L.length = N) (hN4 : N ≤ 4) :
    OMet l (⟨"java/lang/StringLatin1", "equals", "([B[B)Z"⟩ : MethodName) jdk_43_method_13_code 3 (some .boolean) ws ({ frames := 0, cells := 0, slots := 0, locals := 0 } : Room) #[(.ref b1), (.ref b2)] Z h0 (fun v h L' => v = some (.int 1) ∧ Fr n0 L' ∧ h = h0) := by
  refine own_met (plainFor_of_name pn_rm17) ?_
  intro p e s m below meth c s₁ X0 hx hby hml hown hnm hret hlk hZ e0
  rw [ef_rm17]
  have N0 := Fr.nil n0
  show ORunF p e below _ s₁ (mkF m 0 #[.val (.ref b1), .val (.ref b2), .unset] [])
  refine own_by (fun t k => XS.aloadN X0.here hx rfl (hb hby d17_0) rfl rfl k) ?_
  show ORunF p e below _ s₁ (mkF m 1 #[.val (.ref b1), .val (.ref b2), .unset] [(.ref b1)])
  refine own_lenv X0 hx hZ e0 V_b1 (n := N) hN (by omega) (hb hby d17_1) ?_
  intro v1 hv1
  show ORunF p e below _ s₁ (mkF m 2 #[.val (.ref b1), .val (.ref b2), .unset] [(.int v1)])
  refine own_by (fun t k => XS.aloadN X0.here hx rfl (hb hby d17_2) rfl rfl k) ?_
  show ORunF p e below _ s₁ (mkF m 3 #[.val (.ref b1), .val (.ref b2), .unset] [(.ref b2), (.int v1)])
  refine own_lenv X0 hx hZ e0 V_b2 (n := N) hN (by omega) (hb hby d17_3) ?_
  intro v2 hv2
  show ORunF p e below _ s₁ (mkF m 4 #[.val (.ref b1), .val (.ref b2), .unset] [(.int v2), (.int v1)])
  refine own_by (fun t k => XS.icmpNo X0.here hx rfl (hb hby d17_4) rfl (teq (Int32.toInt_inj.mp (by omega))).2 k) ?_
  show ORunF p e below _ s₁ (mkF m 7 #[.val (.ref b1), .val (.ref b2), .unset] [])
  refine own_by (fun t k => XS.iconst X0.here hx rfl (hb hby d17_7) k) ?_
  show ORunF p e below _ s₁ (mkF m 8 #[.val (.ref b1), .val (.ref b2), .unset] [(.int (0 : Int32))])
  refine own_by (fun t k => XS.istoreN X0.here hx rfl (hb hby d17_8) rfl (l' := #[.val (.ref b1), .val (.ref b2), .val (.int (0 : Int32))]) rfl k) ?_
  show ORunF p e below _ s₁ (mkF m 9 #[.val (.ref b1), .val (.ref b2), .val (.int (0 : Int32))] [])
  refine own_by (fun t k => XS.iloadN X0.here hx rfl (hb hby d17_9) rfl k) ?_
  show ORunF p e below _ s₁ (mkF m 10 #[.val (.ref b1), .val (.ref b2), .val (.int (0 : Int32))] [(.int (0 : Int32))])
  refine own_by (fun t k => XS.aloadN X0.here hx rfl (hb hby d17_10) rfl rfl k) ?_
  show ORunF p e below _ s₁ (mkF m 11 #[.val (.ref b1), .val (.ref b2), .val (.int (0 : Int32))] [(.ref b1), (.int (0 : Int32))])
  refine own_lenv X0 hx hZ e0 V_b1 (n := N) hN (by omega) (hb hby d17_11) ?_
  intro v3 hv3
  show ORunF p e below _ s₁ (mkF m 12 #[.val (.ref b1), .val (.ref b2), .val (.int (0 : Int32))] [(.int v3), (.int (0 : Int32))])
  by_cases hc4 : (0 : Int32) < v3
  · have t4 := own_lt hc4 (a := 0) (b := v3.toInt) (by decide) rfl
    refine own_by (fun t k => XS.icmpNo X0.here hx rfl (hb hby d17_12) rfl (tlt hc4).2.1 k) ?_
    show ORunF p e below _ s₁ (mkF m 15 #[.val (.ref b1), .val (.ref b2), .val (.int (0 : Int32))] [])
    refine own_by (fun t k => XS.aloadN X0.here hx rfl (hb hby d17_15) rfl rfl k) ?_
    show ORunF p e below _ s₁ (mkF m 16 #[.val (.ref b1), .val (.ref b2), .val (.int (0 : Int32))] [(.ref b1)])
    refine own_by (fun t k => XS.iloadN X0.here hx rfl (hb hby d17_16) rfl k) ?_
    show ORunF p e below _ s₁ (mkF m 17 #[.val (.ref b1), .val (.ref b2), .val (.int (0 : Int32))] [(.int (0 : Int32)), (.ref b1)])
    refine own_baload X0 hx hZ e0 V_b1 (i := 0) (by decide) (by omega) (hb hby d17_17) ?_
    intro v5 hv5
    have r5 := rng32 v5
    show ORunF p e below _ s₁ (mkF m 18 #[.val (.ref b1), .val (.ref b2), .val (.int (0 : Int32))] [(.int v5)])
    refine own_by (fun t k => XS.aloadN X0.here hx rfl (hb hby d17_18) rfl rfl k) ?_
    show ORunF p e below _ s₁ (mkF m 19 #[.val (.ref b1), .val (.ref b2), .val (.int (0 : Int32))] [(.ref b2), (.int v5)])
    refine own_by (fun t k => XS.iloadN X0.here hx rfl (hb hby d17_19) rfl k) ?_
    show ORunF p e below _ s₁ (mkF m 20 #[.val (.ref b1), .val (.ref b2), .val (.int (0 : Int32))] [(.int (0 : Int32)), (.ref b2), (.int v5)])
    refine own_baload X0 hx hZ e0 V_b2 (i := 0) (by decide) (by omega) (hb hby d17_20) ?_
    intro v6 hv6
    have r6 := rng32 v6
    show ORunF p e below _ s₁ (mkF m 21 #[.val (.ref b1), .val (.ref b2), .val (.int (0 : Int32))] [(.int v6), (.int v5)])
    refine own_by (fun t k => XS.icmpYes X0.here hx rfl (pc0 := 21) (pc' := 26) rfl (hb hby d17_21) rfl (teq (hv5.trans hv6.symm)).1 (by decide) (by decide) k) ?_
    show ORunF p e below _ s₁ (mkF m 26 #[.val (.ref b1), .val (.ref b2), .val (.int (0 : Int32))] [])
    refine own_by (fun t k => XS.iinc X0.here hx rfl (hb hby d17_26) rfl (l' := #[.val (.ref b1), .val (.ref b2), .val (.int (1 : Int32))]) rfl k) ?_
    show ORunF p e below _ s₁ (mkF m 29 #[.val (.ref b1), .val (.ref b2), .val (.int (1 : Int32))] [])
    refine own_by (fun t k => XS.goto X0.here hx rfl (pc0 := 29) (pc' := 9) rfl (hb hby d17_29) (by decide) (by decide) k) ?_
    show ORunF p e below _ s₁ (mkF m 9 #[.val (.ref b1), .val (.ref b2), .val (.int (1 : Int32))] [])
    refine own_by (fun t k => XS.iloadN X0.here hx rfl (hb hby d17_9) rfl k) ?_
    show ORunF p e below _ s₁ (mkF m 10 #[.val (.ref b1), .val (.ref b2), .val (.int (1 : Int32))] [(.int (1 : Int32))])
    refine own_by (fun t k => XS.aloadN X0.here hx rfl (hb hby d17_10) rfl rfl k) ?_
    show ORunF p e below _ s₁ (mkF m 11 #[.val (.ref b1), .val (.ref b2), .val (.int (1 : Int32))] [(.ref b1), (.int (1 : Int32))])
    refine own_lenv X0 hx hZ e0 V_b1 (n := N) hN (by omega) (hb hby d17_11) ?_
    intro v7 hv7
    show ORunF p e below _ s₁ (mkF m 12 #[.val (.ref b1), .val (.ref b2), .val (.int (1 : Int32))] [(.int v7), (.int (1 : Int32))])
    by_cases hc8 : (1 : Int32) < v7
    · have t8 := own_lt hc8 (a := 1) (b := v7.toInt) (by decide) rfl
      refine own_by (fun t k => XS.icmpNo X0.here hx rfl (hb hby d17_12) rfl (tlt hc8).2.1 k) ?_
      show ORunF p e below _ s₁ (mkF m 15 #[.val (.ref b1), .val (.ref b2), .val (.int (1 : Int32))] [])
      refine own_by (fun t k => XS.aloadN X0.here hx rfl (hb hby d17_15) rfl rfl k) ?_
      show ORunF p e below _ s₁ (mkF m 16 #[.val (.ref b1), .val (.ref b2), .val (.int (1 : Int32))] [(.ref b1)])
      refine own_by (fun t k => XS.iloadN X0.here hx rfl (hb hby d17_16) rfl k) ?_
      show ORunF p e below _ s₁ (mkF m 17 #[.val (.ref b1), .val (.ref b2), .val (.int (1 : Int32))] [(.int (1 : Int32)), (.ref b1)])
      refine own_baload X0 hx hZ e0 V_b1 (i := 1) (by decide) (by omega) (hb hby d17_17) ?_
      intro v9 hv9
      have r9 := rng32 v9
      show ORunF p e below _ s₁ (mkF m 18 #[.val (.ref b1), .val (.ref b2), .val (.int (1 : Int32))] [(.int v9)])
      refine own_by (fun t k => XS.aloadN X0.here hx rfl (hb hby d17_18) rfl rfl k) ?_
      show ORunF p e below _ s₁ (mkF m 19 #[.val (.ref b1), .val (.ref b2), .val (.int (1 : Int32))] [(.ref b2), (.int v9)])
      refine own_by (fun t k => XS.iloadN X0.here hx rfl (hb hby d17_19) rfl k) ?_
      show ORunF p e below _ s₁ (mkF m 20 #[.val (.ref b1), .val (.ref b2), .val (.int (1 : Int32))] [(.int (1 : Int32)), (.ref b2), (.int v9)])
      refine own_baload X0 hx hZ e0 V_b2 (i := 1) (by decide) (by omega) (hb hby d17_20) ?_
      intro v10 hv10
      have r10 := rng32 v10
      show ORunF p e below _ s₁ (mkF m 21 #[.val (.ref b1), .val (.ref b2), .val (.int (1 : Int32))] [(.int v10), (.int v9)])
      refine own_by (fun t k => XS.icmpYes X0.here hx rfl (pc0 := 21) (pc' := 26) rfl (hb hby d17_21) rfl (teq (hv9.trans hv10.symm)).1 (by decide) (by decide) k) ?_
      show ORunF p e below _ s₁ (mkF m 26 #[.val (.ref b1), .val (.ref b2), .val (.int (1 : Int32))] [])
      refine own_by (fun t k => XS.iinc X0.here hx rfl (hb hby d17_26) rfl (l' := #[.val (.ref b1), .val (.ref b2), .val (.int (2 : Int32))]) rfl k) ?_
      show ORunF p e below _ s₁ (mkF m 29 #[.val (.ref b1), .val (.ref b2), .val (.int (2 : Int32))] [])
      refine own_by (fun t k => XS.goto X0.here hx rfl (pc0 := 29) (pc' := 9) rfl (hb hby d17_29) (by decide) (by decide) k) ?_
      show ORunF p e below _ s₁ (mkF m 9 #[.val (.ref b1), .val (.ref b2), .val (.int (2 : Int32))] [])
      refine own_by (fun t k => XS.iloadN X0.here hx rfl (hb hby d17_9) rfl k) ?_
      show ORunF p e below _ s₁ (mkF m 10 #[.val (.ref b1), .val (.ref b2), .val (.int (2 : Int32))] [(.int (2 : Int32))])
      refine own_by (fun t k => XS.aloadN X0.here hx rfl (hb hby d17_10) rfl rfl k) ?_
      show ORunF p e below _ s₁ (mkF m 11 #[.val (.ref b1), .val (.ref b2), .val (.int (2 : Int32))] [(.ref b1), (.int (2 : Int32))])
      refine own_lenv X0 hx hZ e0 V_b1 (n := N) hN (by omega) (hb hby d17_11) ?_
      intro v11 hv11
      show ORunF p e below _ s₁ (mkF m 12 #[.val (.ref b1), .val (.ref b2), .val (.int (2 : Int32))] [(.int v11), (.int (2 : Int32))])
      by_cases hc12 : (2 : Int32) < v11
      · have t12 := own_lt hc12 (a := 2) (b := v11.toInt) (by decide) rfl
        refine own_by (fun t k => XS.icmpNo X0.here hx rfl (hb hby d17_12) rfl (tlt hc12).2.1 k) ?_
        show ORunF p e below _ s₁ (mkF m 15 #[.val (.ref b1), .val (.ref b2), .val (.int (2 : Int32))] [])
        refine own_by (fun t k => XS.aloadN X0.here hx rfl (hb hby d17_15) rfl rfl k) ?_
        show ORunF p e below _ s₁ (mkF m 16 #[.val (.ref b1), .val (.ref b2), .val (.int (2 : Int32))] [(.ref b1)])
        refine own_by (fun t k => XS.iloadN X0.here hx rfl (hb hby d17_16) rfl k) ?_
        show ORunF p e below _ s₁ (mkF m 17 #[.val (.ref b1), .val (.ref b2), .val (.int (2 : Int32))] [(.int (2 : Int32)), (.ref b1)])
        refine own_baload X0 hx hZ e0 V_b1 (i := 2) (by decide) (by omega) (hb hby d17_17) ?_
        intro v13 hv13
        have r13 := rng32 v13
        show ORunF p e below _ s₁ (mkF m 18 #[.val (.ref b1), .val (.ref b2), .val (.int (2 : Int32))] [(.int v13)])
        refine own_by (fun t k => XS.aloadN X0.here hx rfl (hb hby d17_18) rfl rfl k) ?_
        show ORunF p e below _ s₁ (mkF m 19 #[.val (.ref b1), .val (.ref b2), .val (.int (2 : Int32))] [(.ref b2), (.int v13)])
        refine own_by (fun t k => XS.iloadN X0.here hx rfl (hb hby d17_19) rfl k) ?_
        show ORunF p e below _ s₁ (mkF m 20 #[.val (.ref b1), .val (.ref b2), .val (.int (2 : Int32))] [(.int (2 : Int32)), (.ref b2), (.int v13)])
        refine own_baload X0 hx hZ e0 V_b2 (i := 2) (by decide) (by omega) (hb hby d17_20) ?_
        intro v14 hv14
        have r14 := rng32 v14
        show ORunF p e below _ s₁ (mkF m 21 #[.val (.ref b1), .val (.ref b2), .val (.int (2 : Int32))] [(.int v14), (.int v13)])
        refine own_by (fun t k => XS.icmpYes X0.here hx rfl (pc0 := 21) (pc' := 26) rfl (hb hby d17_21) rfl (teq (hv13.trans hv14.symm)).1 (by decide) (by decide) k) ?_
        show ORunF p e below _ s₁ (mkF m 26 #[.val (.ref b1), .val (.ref b2), .val (.int (2 : Int32))] [])
        refine own_by (fun t k => XS.iinc X0.here hx rfl (hb hby d17_26) rfl (l' := #[.val (.ref b1), .val (.ref b2), .val (.int (3 : Int32))]) rfl k) ?_
        show ORunF p e below _ s₁ (mkF m 29 #[.val (.ref b1), .val (.ref b2), .val (.int (3 : Int32))] [])
        refine own_by (fun t k => XS.goto X0.here hx rfl (pc0 := 29) (pc' := 9) rfl (hb hby d17_29) (by decide) (by decide) k) ?_
        show ORunF p e below _ s₁ (mkF m 9 #[.val (.ref b1), .val (.ref b2), .val (.int (3 : Int32))] [])
        refine own_by (fun t k => XS.iloadN X0.here hx rfl (hb hby d17_9) rfl k) ?_
        show ORunF p e below _ s₁ (mkF m 10 #[.val (.ref b1), .val (.ref b2), .val (.int (3 : Int32))] [(.int (3 : Int32))])
        refine own_by (fun t k => XS.aloadN X0.here hx rfl (hb hby d17_10) rfl rfl k) ?_
        show ORunF p e below _ s₁ (mkF m 11 #[.val (.ref b1), .val (.ref b2), .val (.int (3 : Int32))] [(.ref b1), (.int (3 : Int32))])
        refine own_lenv X0 hx hZ e0 V_b1 (n := N) hN (by omega) (hb hby d17_11) ?_
        intro v15 hv15
        show ORunF p e below _ s₁ (mkF m 12 #[.val (.ref b1), .val (.ref b2), .val (.int (3 : Int32))] [(.int v15), (.int (3 : Int32))])
        by_cases hc16 : (3 : Int32) < v15
        · have t16 := own_lt hc16 (a := 3) (b := v15.toInt) (by decide) rfl
          refine own_by (fun t k => XS.icmpNo X0.here hx rfl (hb hby d17_12) rfl (tlt hc16).2.1 k) ?_
          show ORunF p e below _ s₁ (mkF m 15 #[.val (.ref b1), .val (.ref b2), .val (.int (3 : Int32))] [])
          refine own_by (fun t k => XS.aloadN X0.here hx rfl (hb hby d17_15) rfl rfl k) ?_
          show ORunF p e below _ s₁ (mkF m 16 #[.val (.ref b1), .val (.ref b2), .val (.int (3 : Int32))] [(.ref b1)])
          refine own_by (fun t k => XS.iloadN X0.here hx rfl (hb hby d17_16) rfl k) ?_
          show ORunF p e below _ s₁ (mkF m 17 #[.val (.ref b1), .val (.ref b2), .val (.int (3 : Int32))] [(.int (3 : Int32)), (.ref b1)])
          refine own_baload X0 hx hZ e0 V_b1 (i := 3) (by decide) (by omega) (hb hby d17_17) ?_
          intro v17 hv17
          have r17 := rng32 v17
          show ORunF p e below _ s₁ (mkF m 18 #[.val (.ref b1), .val (.ref b2), .val (.int (3 : Int32))] [(.int v17)])
          refine own_by (fun t k => XS.aloadN X0.here hx rfl (hb hby d17_18) rfl rfl k) ?_
          show ORunF p e below _ s₁ (mkF m 19 #[.val (.ref b1), .val (.ref b2), .val (.int (3 : Int32))] [(.ref b2), (.int v17)])
          refine own_by (fun t k => XS.iloadN X0.here hx rfl (hb hby d17_19) rfl k) ?_
          show ORunF p e below _ s₁ (mkF m 20 #[.val (.ref b1), .val (.ref b2), .val (.int (3 : Int32))] [(.int (3 : Int32)), (.ref b2), (.int v17)])
          refine own_baload X0 hx hZ e0 V_b2 (i := 3) (by decide) (by omega) (hb hby d17_20) ?_
          intro v18 hv18
          have r18 := rng32 v18
          show ORunF p e below _ s₁ (mkF m 21 #[.val (.ref b1), .val (.ref b2), .val (.int (3 : Int32))] [(.int v18), (.int v17)])
          refine own_by (fun t k => XS.icmpYes X0.here hx rfl (pc0 := 21) (pc' := 26) rfl (hb hby d17_21) rfl (teq (hv17.trans hv18.symm)).1 (by decide) (by decide) k) ?_
          show ORunF p e below _ s₁ (mkF m 26 #[.val (.ref b1), .val (.ref b2), .val (.int (3 : Int32))] [])
          refine own_by (fun t k => XS.iinc X0.here hx rfl (hb hby d17_26) rfl (l' := #[.val (.ref b1), .val (.ref b2), .val (.int (4 : Int32))]) rfl k) ?_
          show ORunF p e below _ s₁ (mkF m 29 #[.val (.ref b1), .val (.ref b2), .val (.int (4 : Int32))] [])
          refine own_by (fun t k => XS.goto X0.here hx rfl (pc0 := 29) (pc' := 9) rfl (hb hby d17_29) (by decide) (by decide) k) ?_
          show ORunF p e below _ s₁ (mkF m 9 #[.val (.ref b1), .val (.ref b2), .val (.int (4 : Int32))] [])
          refine own_by (fun t k => XS.iloadN X0.here hx rfl (hb hby d17_9) rfl k) ?_
          show ORunF p e below _ s₁ (mkF m 10 #[.val (.ref b1), .val (.ref b2), .val (.int (4 : Int32))] [(.int (4 : Int32))])
          refine own_by (fun t k => XS.aloadN X0.here hx rfl (hb hby d17_10) rfl rfl k) ?_
          show ORunF p e below _ s₁ (mkF m 11 #[.val (.ref b1), .val (.ref b2), .val (.int (4 : Int32))] [(.ref b1), (.int (4 : Int32))])
          refine own_lenv X0 hx hZ e0 V_b1 (n := N) hN (by omega) (hb hby d17_11) ?_
          intro v19 hv19
          show ORunF p e below _ s₁ (mkF m 12 #[.val (.ref b1), .val (.ref b2), .val (.int (4 : Int32))] [(.int v19), (.int (4 : Int32))])
          by_cases hc20 : (4 : Int32) < v19
          · have t20 := own_lt hc20 (a := 4) (b := v19.toInt) (by decide) rfl
            exfalso
            omega
          · have t20 := own_nlt hc20 (a := 4) (b := v19.toInt) (by decide) rfl
            refine own_by (fun t k => XS.icmpYes X0.here hx rfl (pc0 := 12) (pc' := 32) rfl (hb hby d17_12) rfl (flt hc20).2.1 (by decide) (by decide) k) ?_
            show ORunF p e below _ s₁ (mkF m 32 #[.val (.ref b1), .val (.ref b2), .val (.int (4 : Int32))] [])
            refine own_by (fun t k => XS.iconst X0.here hx rfl (hb hby d17_32) k) ?_
            show ORunF p e below _ s₁ (mkF m 33 #[.val (.ref b1), .val (.ref b2), .val (.int (4 : Int32))] [(.int (1 : Int32))])
            refine own_retN X0 hx (t := .boolean) hret (by simp) hlk (hb hby d17_33) (by decide) (by decide) ?_
            exact ⟨rfl, N0, e0⟩
        · have t16 := own_nlt hc16 (a := 3) (b := v15.toInt) (by decide) rfl
          refine own_by (fun t k => XS.icmpYes X0.here hx rfl (pc0 := 12) (pc' := 32) rfl (hb hby d17_12) rfl (flt hc16).2.1 (by decide) (by decide) k) ?_
          show ORunF p e below _ s₁ (mkF m 32 #[.val (.ref b1), .val (.ref b2), .val (.int (3 : Int32))] [])
          refine own_by (fun t k => XS.iconst X0.here hx rfl (hb hby d17_32) k) ?_
          show ORunF p e below _ s₁ (mkF m 33 #[.val (.ref b1), .val (.ref b2), .val (.int (3 : Int32))] [(.int (1 : Int32))])
          refine own_retN X0 hx (t := .boolean) hret (by simp) hlk (hb hby d17_33) (by decide) (by decide) ?_
          exact ⟨rfl, N0, e0⟩
      · have t12 := own_nlt hc12 (a := 2) (b := v11.toInt) (by decide) rfl
        refine own_by (fun t k => XS.icmpYes X0.here hx rfl (pc0 := 12) (pc' := 32) rfl (hb hby d17_12) rfl (flt hc12).2.1 (by decide) (by decide) k) ?_
        show ORunF p e below _ s₁ (mkF m 32 #[.val (.ref b1), .val (.ref b2), .val (.int (2 : Int32))] [])
        refine own_by (fun t k => XS.iconst X0.here hx rfl (hb hby d17_32) k) ?_
        show ORunF p e below _ s₁ (mkF m 33 #[.val (.ref b1), .val (.ref b2), .val (.int (2 : Int32))] [(.int (1 : Int32))])
        refine own_retN X0 hx (t := .boolean) hret (by simp) hlk (hb hby d17_33) (by decide) (by decide) ?_
        exact ⟨rfl, N0, e0⟩
    · have t8 := own_nlt hc8 (a := 1) (b := v7.toInt) (by decide) rfl
      refine own_by (fun t k => XS.icmpYes X0.here hx rfl (pc0 := 12) (pc' := 32) rfl (hb hby d17_12) rfl (flt hc8).2.1 (by decide) (by decide) k) ?_
      show ORunF p e below _ s₁ (mkF m 32 #[.val (.ref b1), .val (.ref b2), .val (.int (1 : Int32))] [])
      refine own_by (fun t k => XS.iconst X0.here hx rfl (hb hby d17_32) k) ?_
      show ORunF p e below _ s₁ (mkF m 33 #[.val (.ref b1), .val (.ref b2), .val (.int (1 : Int32))] [(.int (1 : Int32))])
      refine own_retN X0 hx (t := .boolean) hret (by simp) hlk (hb hby d17_33) (by decide) (by decide) ?_
      exact ⟨rfl, N0, e0⟩
  · have t4 := own_nlt hc4 (a := 0) (b := v3.toInt) (by decide) rfl
    refine own_by (fun t k => XS.icmpYes X0.here hx rfl (pc0 := 12) (pc' := 32) rfl (hb hby d17_12) rfl (flt hc4).2.1 (by decide) (by decide) k) ?_
    show ORunF p e below _ s₁ (mkF m 32 #[.val (.ref b1), .val (.ref b2), .val (.int (0 : Int32))] [])
    refine own_by (fun t k => XS.iconst X0.here hx rfl (hb hby d17_32) k) ?_
    show ORunF p e below _ s₁ (mkF m 33 #[.val (.ref b1), .val (.ref b2), .val (.int (0 : Int32))] [(.int (1 : Int32))])
    refine own_retN X0 hx (t := .boolean) hret (by simp) hlk (hb hby d17_33) (by decide) (by decide) ?_
    exact ⟨rfl, N0, e0⟩
theorem d16_0 : decode jdk_42_method_66_code 0 = .ok (.aload_n 0, 1) := by decide +kernel
theorem d16_1 : decode jdk_42_method_66_code 1 = .ok (.aload_n 1, 1) := by decide +kernel
theorem d16_2 : decode jdk_42_method_66_code 2 = .ok (.if_acmp .ne 5, 3) := by decide +kernel
theorem d16_5 : decode jdk_42_method_66_code 5 = .ok (.iconst 1, 1) := by decide +kernel
theorem d16_6 : decode jdk_42_method_66_code 6 = .ok (.ireturn, 1) := by decide +kernel
theorem pn_rmeqA : plainName "java/lang/String" = true := by first | (simp [plainName, overriddenIn]; done) | decide +kernel
theorem ef_rmeqA (m : MethodId) (x0 : Addr) (x1 : Addr) : entryFrame m #[(.ref x0), (.ref x1)] 3 = mkF m 0 #[.val (.ref x0), .val (.ref x1), .unset] [] := by first | (simp [entryFrame, mkF, argsToLocals, Value.category]; done) | rfl
set_option maxRecDepth 65536 in
set_option maxHeartbeats 40000000 in
theorem rmeqA (l : Launch) (Z : State) (a0 : Array Value) (hw : ∀ d ∈ tables_1, d.before a0 Z = true) (ws : List Jvm.Cond) (h0 : Heap) (n0 : Nat) (Z0 : n0 ≤ h0.size) (a1 : Addr) :
    OMet l (⟨"java/lang/String", "equals", "(Ljava/lang/Object;)Z"⟩ : MethodName) jdk_42_method_66_code 3 (some .boolean) ws ({ frames := 1, cells := 0, slots := 0, locals := 30 } : Room) #[(.ref a1), (.ref a1)] Z h0 (fun v h L' => v = some (.int 1) ∧ Fr n0 L' ∧ h = h0) := by
  refine own_met (plainFor_of_name pn_rmeqA) ?_
  intro p e s m below meth c s₁ X0 hx hby hml hown hnm hret hlk hZ e0
  rw [ef_rmeqA]
  have N0 := Fr.nil n0
  show ORunF p e below _ s₁ (mkF m 0 #[.val (.ref a1), .val (.ref a1), .unset] [])
  refine own_by (fun t k => XS.aloadN X0.here hx rfl (hb hby d16_0) rfl rfl k) ?_
  show ORunF p e below _ s₁ (mkF m 1 #[.val (.ref a1), .val (.ref a1), .unset] [(.ref a1)])
  refine own_by (fun t k => XS.aloadN X0.here hx rfl (hb hby d16_1) rfl rfl k) ?_
  show ORunF p e below _ s₁ (mkF m 2 #[.val (.ref a1), .val (.ref a1), .unset] [(.ref a1), (.ref a1)])
  refine own_by (fun t k => Jvm.RoadKit.acmp (g := (mkF m 2 #[.val (.ref a1), .val (.ref a1), .unset] [(.ref a1), (.ref a1)])) X0 hx rfl rfl rfl (pc0 := 2) (pc' := 5) (same := true) rfl (hb hby d16_2) rfl (decide_eq_true rfl) (by decide) (by decide) k) ?_
  show ORunF p e below _ s₁ (mkF m 5 #[.val (.ref a1), .val (.ref a1), .unset] [])
  refine own_by (fun t k => XS.iconst X0.here hx rfl (hb hby d16_5) k) ?_
  show ORunF p e below _ s₁ (mkF m 6 #[.val (.ref a1), .val (.ref a1), .unset] [(.int (1 : Int32))])
  refine own_retN X0 hx (t := .boolean) hret (by simp) hlk (hb hby d16_6) (by decide) (by decide) ?_
  exact ⟨rfl, N0, e0⟩
theorem d16_7 : decode jdk_42_method_66_code 7 = .ok (.aload_n 1, 1) := by decide +kernel
theorem d16_8 : decode jdk_42_method_66_code 8 = .ok (.instanceof 10, 3) := by decide +kernel
theorem d16_11 : decode jdk_42_method_66_code 11 = .ok (.ifCond .eq 43, 3) := by decide +kernel
theorem d16_14 : decode jdk_42_method_66_code 14 = .ok (.aload_n 1, 1) := by decide +kernel
theorem d16_15 : decode jdk_42_method_66_code 15 = .ok (.checkcast 10, 3) := by decide +kernel
theorem d16_18 : decode jdk_42_method_66_code 18 = .ok (.astore_n 2, 1) := by decide +kernel
theorem d16_19 : decode jdk_42_method_66_code 19 = .ok (.getstatic 38, 3) := by decide +kernel
theorem d16_22 : decode jdk_42_method_66_code 22 = .ok (.ifCond .eq 14, 3) := by decide +kernel
theorem d16_25 : decode jdk_42_method_66_code 25 = .ok (.aload_n 0, 1) := by decide +kernel
theorem d16_26 : decode jdk_42_method_66_code 26 = .ok (.getfield 15, 3) := by decide +kernel
theorem d16_29 : decode jdk_42_method_66_code 29 = .ok (.aload_n 2, 1) := by decide +kernel
theorem d16_30 : decode jdk_42_method_66_code 30 = .ok (.getfield 15, 3) := by decide +kernel
theorem d16_33 : decode jdk_42_method_66_code 33 = .ok (.if_icmp .ne 21, 3) := by decide +kernel
theorem d16_36 : decode jdk_42_method_66_code 36 = .ok (.aload_n 0, 1) := by decide +kernel
theorem d16_37 : decode jdk_42_method_66_code 37 = .ok (.getfield 9, 3) := by decide +kernel
theorem d16_40 : decode jdk_42_method_66_code 40 = .ok (.aload_n 2, 1) := by decide +kernel
theorem d16_41 : decode jdk_42_method_66_code 41 = .ok (.getfield 9, 3) := by decide +kernel
theorem d16_44 : decode jdk_42_method_66_code 44 = .ok (.invokestatic 541, 3) := by decide +kernel
theorem d16_47 : decode jdk_42_method_66_code 47 = .ok (.ifCond .eq 7, 3) := by decide +kernel
theorem d16_50 : decode jdk_42_method_66_code 50 = .ok (.iconst 1, 1) := by decide +kernel
theorem d16_51 : decode jdk_42_method_66_code 51 = .ok (.goto 4, 3) := by decide +kernel
theorem d16_55 : decode jdk_42_method_66_code 55 = .ok (.ireturn, 1) := by decide +kernel
theorem pn_rmeqB : plainName "java/lang/String" = true := by first | (simp [plainName, overriddenIn]; done) | decide +kernel
theorem ef_rmeqB (m : MethodId) (x0 : Addr) (x1 : Addr) : entryFrame m #[(.ref x0), (.ref x1)] 3 = mkF m 0 #[.val (.ref x0), .val (.ref x1), .unset] [] := by first | (simp [entryFrame, mkF, argsToLocals, Value.category]; done) | rfl
set_option maxRecDepth 65536 in
set_option maxHeartbeats 40000000 in
theorem rmeqB (l : Launch) (Z : State) (a0 : Array Value) (hw : ∀ d ∈ tables_1, d.before a0 Z = true) (ws : List Jvm.Cond) (h0 : Heap) (n0 : Nat) (Z0 : n0 ≤ h0.size) (a1 a2 : Addr) (b1 b2 : Addr) (L : List Int32) (N : Nat) (z : Int32) (hz : ¬ z = 0) (Sc : Sta Z h0 "java/lang/String" "COMPACT_STRINGS" "Z" (.int z)) (E_a1 : Exa Z h0 a1 "java/lang/String") (Fc_a1 : Fld Z h0 a1 "java/lang/String" "coder" "B" (.int 0)) (Fv_a1 : Fld Z h0 a1 "java/lang/String" "value" "[B" (.ref b1)) (V_b1 : OVec Z h0 b1 .byte L) (E_a2 : Exa Z h0 a2 "java/lang/String") (Fc_a2 : Fld Z h0 a2 "java/lang/String" "coder" "B" (.int 0)) (Fv_a2 : Fld Z h0 a2 "java/lang/String" "value" "[B" (.ref b2)) (V_b2 : OVec Z h0 b2 .byte L) (hN : L.length = N) (hN4 : N ≤ 4) (hne : a1 ≠ a2) :
    OMet l (⟨"java/lang/String", "equals", "(Ljava/lang/Object;)Z"⟩ : MethodName) jdk_42_method_66_code 3 (some .boolean) ws ({ frames := 1, cells := 0, slots := 0, locals := 30 } : Room) #[(.ref a1), (.ref a2)] Z h0 (fun v h L' => v = some (.int 1) ∧ Fr n0 L' ∧ h = h0) := by
  refine own_met (plainFor_of_name pn_rmeqB) ?_
  intro p e s m below meth c s₁ X0 hx hby hml hown hnm hret hlk hZ e0
  rw [ef_rmeqB]
  have N0 := Fr.nil n0
  show ORunF p e below _ s₁ (mkF m 0 #[.val (.ref a1), .val (.ref a2), .unset] [])
  refine own_by (fun t k => XS.aloadN X0.here hx rfl (hb hby d16_0) rfl rfl k) ?_
  show ORunF p e below _ s₁ (mkF m 1 #[.val (.ref a1), .val (.ref a2), .unset] [(.ref a1)])
  refine own_by (fun t k => XS.aloadN X0.here hx rfl (hb hby d16_1) rfl rfl k) ?_
  show ORunF p e below _ s₁ (mkF m 2 #[.val (.ref a1), .val (.ref a2), .unset] [(.ref a2), (.ref a1)])
  refine own_by (fun t k => Jvm.RoadKit.acmp (g := (mkF m 2 #[.val (.ref a1), .val (.ref a2), .unset] [(.ref a2), (.ref a1)])) X0 hx rfl rfl rfl (pc0 := 2) (pc' := 7) (same := false) rfl (hb hby d16_2) rfl (decide_eq_false fun q => hne (Value.ref.inj q)) (by decide) (by decide) k) ?_
  show ORunF p e below _ s₁ (mkF m 7 #[.val (.ref a1), .val (.ref a2), .unset] [])
  refine own_by (fun t k => XS.aloadN X0.here hx rfl (hb hby d16_7) rfl rfl k) ?_
  show ORunF p e below _ s₁ (mkF m 8 #[.val (.ref a1), .val (.ref a2), .unset] [(.ref a2)])
  obtain ⟨T1, X1, e1, st1⟩ := instY X0 hx hZ hown (hw _ (List.mem_of_getElem? (i := 79) rfl)) e0 (Ins.self E_a2) (g := (mkF m 8 #[.val (.ref a1), .val (.ref a2), .unset] [(.ref a2)])) rfl rfl (hb hby d16_8)
  refine own_by st1 ?_
  show ORunF p e below _ T1 (mkF m 11 #[.val (.ref a1), .val (.ref a2), .unset] [(.int (1 : Int32))])
  refine own_by (fun t k => XS.ifNo X1.here hx rfl (hb hby d16_11) rfl ((if0 _ _).trans (feq (by decide)).1) k) ?_
  show ORunF p e below _ T1 (mkF m 14 #[.val (.ref a1), .val (.ref a2), .unset] [])
  refine own_by (fun t k => XS.aloadN X1.here hx rfl (hb hby d16_14) rfl rfl k) ?_
  show ORunF p e below _ T1 (mkF m 15 #[.val (.ref a1), .val (.ref a2), .unset] [(.ref a2)])
  obtain ⟨T2, X2, e2, st2⟩ := castY X1 hx hZ hown (hw _ (List.mem_of_getElem? (i := 79) rfl)) e1 (Ins.self E_a2) (g := (mkF m 15 #[.val (.ref a1), .val (.ref a2), .unset] [(.ref a2)])) rfl rfl (hb hby d16_15)
  refine own_by st2 ?_
  show ORunF p e below _ T2 (mkF m 18 #[.val (.ref a1), .val (.ref a2), .unset] [(.ref a2)])
  refine own_by (fun t k => XS.astoreN X2.here hx rfl (hb hby d16_18) rfl rfl (l' := #[.val (.ref a1), .val (.ref a2), .val (.ref a2)]) rfl k) ?_
  show ORunF p e below _ T2 (mkF m 19 #[.val (.ref a1), .val (.ref a2), .val (.ref a2)] [])
  obtain ⟨T3, X3, e3, st3⟩ := getS2 X2 hx hZ hown (host := "") (Or.inl (hw _ (List.mem_of_getElem? (i := 49) rfl))) Via.refl e2 Sc (g := (mkF m 19 #[.val (.ref a1), .val (.ref a2), .val (.ref a2)] [])) rfl (hb hby d16_19)
  refine own_by st3 ?_
  show ORunF p e below _ T3 (mkF m 22 #[.val (.ref a1), .val (.ref a2), .val (.ref a2)] [(.int z)])
  refine own_by (fun t k => XS.ifNo X3.here hx rfl (hb hby d16_22) rfl ((if0 _ _).trans (feq hz).1) k) ?_
  show ORunF p e below _ T3 (mkF m 25 #[.val (.ref a1), .val (.ref a2), .val (.ref a2)] [])
  refine own_by (fun t k => XS.aloadN X3.here hx rfl (hb hby d16_25) rfl rfl k) ?_
  show ORunF p e below _ T3 (mkF m 26 #[.val (.ref a1), .val (.ref a2), .val (.ref a2)] [(.ref a1)])
  obtain ⟨T4, X4, e4, st4⟩ := getF X3 hx hZ hown (host := "") (Or.inl (hw _ (List.mem_of_getElem? (i := 29) rfl))) Via.refl e3 Fc_a1 (g := (mkF m 26 #[.val (.ref a1), .val (.ref a2), .val (.ref a2)] [(.ref a1)])) rfl rfl (hb hby d16_26)
  refine own_by st4 ?_
  show ORunF p e below _ T4 (mkF m 29 #[.val (.ref a1), .val (.ref a2), .val (.ref a2)] [(.int (0 : Int32))])
  refine own_by (fun t k => XS.aloadN X4.here hx rfl (hb hby d16_29) rfl rfl k) ?_
  show ORunF p e below _ T4 (mkF m 30 #[.val (.ref a1), .val (.ref a2), .val (.ref a2)] [(.ref a2), (.int (0 : Int32))])
  obtain ⟨T5, X5, e5, st5⟩ := getF X4 hx hZ hown (host := "") (Or.inl (hw _ (List.mem_of_getElem? (i := 29) rfl))) Via.refl e4 Fc_a2 (g := (mkF m 30 #[.val (.ref a1), .val (.ref a2), .val (.ref a2)] [(.ref a2), (.int (0 : Int32))])) rfl rfl (hb hby d16_30)
  refine own_by st5 ?_
  show ORunF p e below _ T5 (mkF m 33 #[.val (.ref a1), .val (.ref a2), .val (.ref a2)] [(.int (0 : Int32)), (.int (0 : Int32))])
  refine own_by (fun t k => XS.icmpNo X5.here hx rfl (hb hby d16_33) rfl (teq (by decide)).2 k) ?_
  show ORunF p e below _ T5 (mkF m 36 #[.val (.ref a1), .val (.ref a2), .val (.ref a2)] [])
  refine own_by (fun t k => XS.aloadN X5.here hx rfl (hb hby d16_36) rfl rfl k) ?_
  show ORunF p e below _ T5 (mkF m 37 #[.val (.ref a1), .val (.ref a2), .val (.ref a2)] [(.ref a1)])
  obtain ⟨T6, X6, e6, st6⟩ := getF X5 hx hZ hown (host := "") (Or.inl (hw _ (List.mem_of_getElem? (i := 28) rfl))) Via.refl e5 Fv_a1 (g := (mkF m 37 #[.val (.ref a1), .val (.ref a2), .val (.ref a2)] [(.ref a1)])) rfl rfl (hb hby d16_37)
  refine own_by st6 ?_
  show ORunF p e below _ T6 (mkF m 40 #[.val (.ref a1), .val (.ref a2), .val (.ref a2)] [(.ref b1)])
  refine own_by (fun t k => XS.aloadN X6.here hx rfl (hb hby d16_40) rfl rfl k) ?_
  show ORunF p e below _ T6 (mkF m 41 #[.val (.ref a1), .val (.ref a2), .val (.ref a2)] [(.ref a2), (.ref b1)])
  obtain ⟨T7, X7, e7, st7⟩ := getF X6 hx hZ hown (host := "") (Or.inl (hw _ (List.mem_of_getElem? (i := 28) rfl))) Via.refl e6 Fv_a2 (g := (mkF m 41 #[.val (.ref a1), .val (.ref a2), .val (.ref a2)] [(.ref a2), (.ref b1)])) rfl rfl (hb hby d16_41)
  refine own_by st7 ?_
  show ORunF p e below _ T7 (mkF m 44 #[.val (.ref a1), .val (.ref a2), .val (.ref a2)] [(.ref b2), (.ref b1)])
  refine own_callS X7 hx hZ hown (hw _ (List.mem_of_getElem? (i := 80) rfl)) (hw _ (List.mem_of_getElem? (i := 81) rfl)) (hw _ (List.mem_of_getElem? (i := 62) rfl)) (hw _ (List.mem_of_getElem? (i := 82) rfl)) (by decide) (rm17 l Z a0 hw [] h0 n0 Z0 b1 b2 L N V_b1 V_b2 hN hN4) e7 (by decide) (W := 0) (by decide) (by decide) (by decide) (argsL := [(.ref b1), (.ref b2)]) (rest := []) (by rw [hml]; rfl) (lenOf pd_6 rfl) rfl rfl (Nat.le_of_eq rfl) (hb hby d16_44) ?_
  intro T8 L8 u8 X8 hQ8
  obtain ⟨rfl, Nq8, e8⟩ := hQ8
  have N8 := Fr.app N0 Nq8
  show ORunF p e below _ T8 (mkF m 47 #[.val (.ref a1), .val (.ref a2), .val (.ref a2)] [(.int (1 : Int32))])
  refine own_by (fun t k => XS.ifNo X8.here hx rfl (hb hby d16_47) rfl ((if0 _ _).trans (feq (by decide)).1) k) ?_
  show ORunF p e below _ T8 (mkF m 50 #[.val (.ref a1), .val (.ref a2), .val (.ref a2)] [])
  refine own_by (fun t k => XS.iconst X8.here hx rfl (hb hby d16_50) k) ?_
  show ORunF p e below _ T8 (mkF m 51 #[.val (.ref a1), .val (.ref a2), .val (.ref a2)] [(.int (1 : Int32))])
  refine own_by (fun t k => XS.goto X8.here hx rfl (pc0 := 51) (pc' := 55) rfl (hb hby d16_51) (by decide) (by decide) k) ?_
  show ORunF p e below _ T8 (mkF m 55 #[.val (.ref a1), .val (.ref a2), .val (.ref a2)] [(.int (1 : Int32))])
  refine own_retN X8 hx (t := .boolean) hret (by simp) hlk (hb hby d16_55) (by decide) (by decide) ?_
  exact ⟨rfl, N8, e8⟩
theorem rm16 (l : Launch) (Z : State) (a0 : Array Value) (hw : ∀ d ∈ tables_1, d.before a0 Z = true) (ws : List Jvm.Cond) (h0 : Heap) (n0 : Nat) (Z0 : n0 ≤ h0.size) (a1 a2 : Addr) (b1 b2 : Addr) (L : List Int32) (N : Nat) (z : Int32) (hz : ¬ z = 0) (Sc : Sta Z h0 "java/lang/String" "COMPACT_STRINGS" "Z" (.int z)) (E_a1 : Exa Z h0 a1 "java/lang/String") (Fc_a1 : Fld Z h0 a1 "java/lang/String" "coder" "B" (.int 0)) (Fv_a1 : Fld Z h0 a1 "java/lang/String" "value" "[B" (.ref b1)) (V_b1 : OVec Z h0 b1 .byte L) (E_a2 : Exa Z h0 a2 "java/lang/String") (Fc_a2 : Fld Z h0 a2 "java/lang/String" "coder" "B" (.int 0)) (Fv_a2 : Fld Z h0 a2 "java/lang/String" "value" "[B" (.ref b2)) (V_b2 : OVec Z h0 b2 .byte L) (hN : L.length = N) (hN4 : N ≤ 4) : OMet l (⟨"java/lang/String", "equals", "(Ljava/lang/Object;)Z"⟩ : MethodName) jdk_42_method_66_code 3 (some .boolean) ws ({ frames := 1, cells := 0, slots := 0, locals := 30 } : Room) #[.ref a1, .ref a2] Z h0 (fun v h L' => v = some (.int 1) ∧ Fr n0 L' ∧ h = h0) := by
  by_cases q : a1 = a2
  · subst q
    exact rmeqA l Z a0 hw ws h0 n0 Z0 a1
  · exact rmeqB l Z a0 hw ws h0 n0 Z0 a1 a2 b1 b2 L N z hz Sc E_a1 Fc_a1 Fv_a1 V_b1 E_a2 Fc_a2 Fv_a2 V_b2 hN hN4 q
theorem d24_0 : decode jdk_41_method_12_code 0 = .ok (.iload_n 0, 1) := by decide +kernel
theorem d24_1 : decode jdk_41_method_12_code 1 = .ok (.ifCond .lt 13, 3) := by decide +kernel
theorem d24_4 : decode jdk_41_method_12_code 4 = .ok (.iload_n 0, 1) := by decide +kernel
theorem d24_5 : decode jdk_41_method_12_code 5 = .ok (.iload_n 1, 1) := by decide +kernel
theorem d24_6 : decode jdk_41_method_12_code 6 = .ok (.if_icmp .gt 8, 3) := by decide +kernel
theorem d24_9 : decode jdk_41_method_12_code 9 = .ok (.iload_n 1, 1) := by decide +kernel
theorem d24_10 : decode jdk_41_method_12_code 10 = .ok (.iload_n 2, 1) := by decide +kernel
theorem d24_11 : decode jdk_41_method_12_code 11 = .ok (.if_icmp .le 11, 3) := by decide +kernel
theorem d24_22 : decode jdk_41_method_12_code 22 = .ok (.iload_n 0, 1) := by decide +kernel
theorem d24_23 : decode jdk_41_method_12_code 23 = .ok (.ireturn, 1) := by decide +kernel
theorem pn_rm24 : plainName "jdk/internal/util/Preconditions" = true := by first | (simp [plainName, overriddenIn]; done) | decide +kernel
theorem ef_rm24 (m : MethodId) (x0 : Int32) (x1 : Int32) (x2 : Int32) (x3 : Value) (hq3 : x3.isRef = true) : entryFrame m #[(.int x0), (.int x1), (.int x2), x3] 4 = mkF m 0 #[.val (.int x0), .val (.int x1), .val (.int x2), .val x3] [] := by cases x3 <;> simp only [Value.isRef, Bool.false_eq_true] at hq3 <;> first | (simp [entryFrame, mkF, argsToLocals, Value.category]; done) | rfl
set_option maxRecDepth 65536 in
set_option maxHeartbeats 40000000 in
theorem rm24 (l : Launch) (Z : State) (a0 : Array Value) (hw : ∀ d ∈ tables_1, d.before a0 Z = true) (ws : List Jvm.Cond) (h0 : Heap) (n0 : Nat) (Z0 : n0 ≤ h0.size) (p2 p3 : Int32) (vf : Value) (hvf : vf.isRef = true) (hbd : 0 ≤ p2.toInt ∧ p2.toInt ≤ p3.toInt) :
    OMet l (⟨"jdk/internal/util/Preconditions", "checkFromToIndex", "(IIILjava/util/function/BiFunction;)I"⟩ : MethodName) jdk_41_method_12_code 4 (some .int) ws ({ frames := 0, cells := 0, slots := 0, locals := 0 } : Room) #[(.int (0 : Int32)), (.int p2), (.int p3), vf] Z h0 (fun v h L' => ∃ r : Int32, v = some (.int r) ∧ Fr n0 L' ∧ h = h0) := by
  refine own_met (plainFor_of_name pn_rm24) ?_
  intro p e s m below meth c s₁ X0 hx hby hml hown hnm hret hlk hZ e0
  rw [ef_rm24 (hq3 := hvf)]
  have N0 := Fr.nil n0
  have rg_p2 := rng32 p2
  have rg_p3 := rng32 p3
  show ORunF p e below _ s₁ (mkF m 0 #[.val (.int (0 : Int32)), .val (.int p2), .val (.int p3), .val vf] [])
  refine own_by (fun t k => XS.iloadN X0.here hx rfl (hb hby d24_0) rfl k) ?_
  show ORunF p e below _ s₁ (mkF m 1 #[.val (.int (0 : Int32)), .val (.int p2), .val (.int p3), .val vf] [(.int (0 : Int32))])
  refine own_by (fun t k => XS.ifNo X0.here hx rfl (hb hby d24_1) rfl ((if0 _ _).trans (flt (by decide)).1) k) ?_
  show ORunF p e below _ s₁ (mkF m 4 #[.val (.int (0 : Int32)), .val (.int p2), .val (.int p3), .val vf] [])
  refine own_by (fun t k => XS.iloadN X0.here hx rfl (hb hby d24_4) rfl k) ?_
  show ORunF p e below _ s₁ (mkF m 5 #[.val (.int (0 : Int32)), .val (.int p2), .val (.int p3), .val vf] [(.int (0 : Int32))])
  refine own_by (fun t k => XS.iloadN X0.here hx rfl (hb hby d24_5) rfl k) ?_
  show ORunF p e below _ s₁ (mkF m 6 #[.val (.int (0 : Int32)), .val (.int p2), .val (.int p3), .val vf] [(.int p2), (.int (0 : Int32))])
  by_cases hc1 : p2 < (0 : Int32)
  · have t1 := own_lt hc1 (a := p2.toInt) (b := 0) rfl (by decide)
    exfalso
    omega
  · have t1 := own_nlt hc1 (a := p2.toInt) (b := 0) rfl (by decide)
    refine own_by (fun t k => XS.icmpNo X0.here hx rfl (hb hby d24_6) rfl (flt hc1).2.2.1 k) ?_
    show ORunF p e below _ s₁ (mkF m 9 #[.val (.int (0 : Int32)), .val (.int p2), .val (.int p3), .val vf] [])
    refine own_by (fun t k => XS.iloadN X0.here hx rfl (hb hby d24_9) rfl k) ?_
    show ORunF p e below _ s₁ (mkF m 10 #[.val (.int (0 : Int32)), .val (.int p2), .val (.int p3), .val vf] [(.int p2)])
    refine own_by (fun t k => XS.iloadN X0.here hx rfl (hb hby d24_10) rfl k) ?_
    show ORunF p e below _ s₁ (mkF m 11 #[.val (.int (0 : Int32)), .val (.int p2), .val (.int p3), .val vf] [(.int p3), (.int p2)])
    by_cases hc2 : p3 < p2
    · have t2 := own_lt hc2 (a := p3.toInt) (b := p2.toInt) rfl rfl
      exfalso
      omega
    · have t2 := own_nlt hc2 (a := p3.toInt) (b := p2.toInt) rfl rfl
      refine own_by (fun t k => XS.icmpYes X0.here hx rfl (pc0 := 11) (pc' := 22) rfl (hb hby d24_11) rfl (flt hc2).2.2.2 (by decide) (by decide) k) ?_
      show ORunF p e below _ s₁ (mkF m 22 #[.val (.int (0 : Int32)), .val (.int p2), .val (.int p3), .val vf] [])
      refine own_by (fun t k => XS.iloadN X0.here hx rfl (hb hby d24_22) rfl k) ?_
      show ORunF p e below _ s₁ (mkF m 23 #[.val (.int (0 : Int32)), .val (.int p2), .val (.int p3), .val vf] [(.int (0 : Int32))])
      refine own_retI X0 hx hret hlk (hb hby d24_23) (by decide) (by decide) ?_
      exact ⟨_, rfl, N0, e0⟩
theorem d23_0 : decode jdk_42_method_158_code 0 = .ok (.iload_n 0, 1) := by decide +kernel
theorem d23_1 : decode jdk_42_method_158_code 1 = .ok (.iload_n 1, 1) := by decide +kernel
theorem d23_2 : decode jdk_42_method_158_code 2 = .ok (.iload_n 2, 1) := by decide +kernel
theorem d23_3 : decode jdk_42_method_158_code 3 = .ok (.getstatic 1053, 3) := by decide +kernel
theorem d23_6 : decode jdk_42_method_158_code 6 = .ok (.invokestatic 1062, 3) := by decide +kernel
theorem d23_9 : decode jdk_42_method_158_code 9 = .ok (.pop, 1) := by decide +kernel
theorem d23_10 : decode jdk_42_method_158_code 10 = .ok (.return_, 1) := by decide +kernel
theorem pn_rm23 : plainName "java/lang/String" = true := by first | (simp [plainName, overriddenIn]; done) | decide +kernel
theorem ef_rm23 (m : MethodId) (x0 : Int32) (x1 : Int32) (x2 : Int32) : entryFrame m #[(.int x0), (.int x1), (.int x2)] 3 = mkF m 0 #[.val (.int x0), .val (.int x1), .val (.int x2)] [] := by first | (simp [entryFrame, mkF, argsToLocals, Value.category]; done) | rfl
set_option maxRecDepth 65536 in
set_option maxHeartbeats 40000000 in
theorem rm23 (l : Launch) (Z : State) (a0 : Array Value) (hw : ∀ d ∈ tables_1, d.before a0 Z = true) (ws : List Jvm.Cond) (h0 : Heap) (n0 : Nat) (Z0 : n0 ≤ h0.size) (p2 p3 : Int32) (vf : Value) (hvf : vf.isRef = true) (Sf : Sta Z h0 "jdk/internal/util/Preconditions" "SIOOBE_FORMATTER" "Ljava/util/function/BiFunction;" vf) (hbd : 0 ≤ p2.toInt ∧ p2.toInt ≤ p3.toInt) :
    OMet l (⟨"java/lang/String", "checkBoundsBeginEnd", "(III)V"⟩ : MethodName) jdk_42_method_158_code 3 none ws ({ frames := 1, cells := 0, slots := 0, locals := 20 } : Room) #[(.int (0 : Int32)), (.int p2), (.int p3)] Z h0 (fun v h L' => v = none ∧ Fr n0 L' ∧ h = h0) := by
  refine own_met (plainFor_of_name pn_rm23) ?_
  intro p e s m below meth c s₁ X0 hx hby hml hown hnm hret hlk hZ e0
  rw [ef_rm23]
  have N0 := Fr.nil n0
  have rg_p2 := rng32 p2
  have rg_p3 := rng32 p3
  show ORunF p e below _ s₁ (mkF m 0 #[.val (.int (0 : Int32)), .val (.int p2), .val (.int p3)] [])
  refine own_by (fun t k => XS.iloadN X0.here hx rfl (hb hby d23_0) rfl k) ?_
  show ORunF p e below _ s₁ (mkF m 1 #[.val (.int (0 : Int32)), .val (.int p2), .val (.int p3)] [(.int (0 : Int32))])
  refine own_by (fun t k => XS.iloadN X0.here hx rfl (hb hby d23_1) rfl k) ?_
  show ORunF p e below _ s₁ (mkF m 2 #[.val (.int (0 : Int32)), .val (.int p2), .val (.int p3)] [(.int p2), (.int (0 : Int32))])
  refine own_by (fun t k => XS.iloadN X0.here hx rfl (hb hby d23_2) rfl k) ?_
  show ORunF p e below _ s₁ (mkF m 3 #[.val (.int (0 : Int32)), .val (.int p2), .val (.int p3)] [(.int p3), (.int p2), (.int (0 : Int32))])
  obtain ⟨T1, X1, e1, st1⟩ := getS2 X0 hx hZ hown (host := "") (Or.inl (hw _ (List.mem_of_getElem? (i := 104) rfl))) Via.refl e0 Sf (g := (mkF m 3 #[.val (.int (0 : Int32)), .val (.int p2), .val (.int p3)] [(.int p3), (.int p2), (.int (0 : Int32))])) rfl (hb hby d23_3)
  refine own_by st1 ?_
  show ORunF p e below _ T1 (mkF m 6 #[.val (.int (0 : Int32)), .val (.int p2), .val (.int p3)] [vf, (.int p3), (.int p2), (.int (0 : Int32))])
  refine own_callS X1 hx hZ hown (hw _ (List.mem_of_getElem? (i := 106) rfl)) (hw _ (List.mem_of_getElem? (i := 107) rfl)) (hw _ (List.mem_of_getElem? (i := 105) rfl)) (hw _ (List.mem_of_getElem? (i := 108) rfl)) (by decide) (rm24 l Z a0 hw [] h0 n0 Z0 p2 p3 vf hvf hbd) e1 (by decide) (W := 0) (by decide) (by decide) (by decide) (argsL := [(.int (0 : Int32)), (.int p2), (.int p3), vf]) (rest := []) (by rw [hml]; rfl) (lenOf pd_7 rfl) rfl rfl (Nat.le_of_eq rfl) (hb hby d23_6) ?_
  intro T2 L2 u2 X2 hQ2
  obtain ⟨y2, rfl, Nq2, e2⟩ := hQ2
  have N2 := Fr.app N0 Nq2
  show ORunF p e below _ T2 (mkF m 9 #[.val (.int (0 : Int32)), .val (.int p2), .val (.int p3)] [(.int y2)])
  refine own_by (fun t k => XS.pop X2.here hx rfl (hb hby d23_9) rfl rfl k) ?_
  show ORunF p e below _ T2 (mkF m 10 #[.val (.int (0 : Int32)), .val (.int p2), .val (.int p3)] [])
  refine own_retV X2 hx hret hlk (hb hby d23_10) (by decide) (by decide) ?_
  exact ⟨rfl, N2, e2⟩
theorem d28_0 : decode jdk_65_method_131_code 0 = .ok (.iload_n 1, 1) := by decide +kernel
theorem d28_1 : decode jdk_65_method_131_code 1 = .ok (.iload_n 0, 1) := by decide +kernel
theorem d28_2 : decode jdk_65_method_131_code 2 = .ok (.if_icmp .ge 35, 3) := by decide +kernel
theorem d28_37 : decode jdk_65_method_131_code 37 = .ok (.return_, 1) := by decide +kernel
theorem pn_rm28 : plainName "java/util/Arrays" = true := by first | (simp [plainName, overriddenIn]; done) | decide +kernel
theorem ef_rm28 (m : MethodId) (x0 : Int32) (x1 : Int32) : entryFrame m #[(.int x0), (.int x1)] 2 = mkF m 0 #[.val (.int x0), .val (.int x1)] [] := by first | (simp [entryFrame, mkF, argsToLocals, Value.category]; done) | rfl
set_option maxRecDepth 65536 in
set_option maxHeartbeats 40000000 in
theorem rm28 (l : Launch) (Z : State) (a0 : Array Value) (hw : ∀ d ∈ tables_1, d.before a0 Z = true) (ws : List Jvm.Cond) (h0 : Heap) (n0 : Nat) (Z0 : n0 ≤ h0.size) (p2 : Int32) (hbd : 0 ≤ p2.toInt) :
    OMet l (⟨"java/util/Arrays", "checkLength", "(II)V"⟩ : MethodName) jdk_65_method_131_code 2 none ws ({ frames := 0, cells := 0, slots := 0, locals := 0 } : Room) #[(.int (0 : Int32)), (.int p2)] Z h0 (fun v h L' => v = none ∧ Fr n0 L' ∧ h = h0) := by
  refine own_met (plainFor_of_name pn_rm28) ?_
  intro p e s m below meth c s₁ X0 hx hby hml hown hnm hret hlk hZ e0
  rw [ef_rm28]
  have N0 := Fr.nil n0
  have rg_p2 := rng32 p2
  show ORunF p e below _ s₁ (mkF m 0 #[.val (.int (0 : Int32)), .val (.int p2)] [])
  refine own_by (fun t k => XS.iloadN X0.here hx rfl (hb hby d28_0) rfl k) ?_
  show ORunF p e below _ s₁ (mkF m 1 #[.val (.int (0 : Int32)), .val (.int p2)] [(.int p2)])
  refine own_by (fun t k => XS.iloadN X0.here hx rfl (hb hby d28_1) rfl k) ?_
  show ORunF p e below _ s₁ (mkF m 2 #[.val (.int (0 : Int32)), .val (.int p2)] [(.int (0 : Int32)), (.int p2)])
  refine own_by (fun t k => XS.icmpYes X0.here hx rfl (pc0 := 2) (pc' := 37) rfl (hb hby d28_2) rfl (flt (fun q => absurd (Int32.lt_iff_toInt_lt.mp q) (by have z0 : (0 : Int32).toInt = 0 := rfl; omega))).2.1 (by decide) (by decide) k) ?_
  show ORunF p e below _ s₁ (mkF m 37 #[.val (.int (0 : Int32)), .val (.int p2)] [])
  refine own_retV X0 hx hret hlk (hb hby d28_37) (by decide) (by decide) ?_
  exact ⟨rfl, N0, e0⟩
theorem d27_0 : decode jdk_65_method_133_code 0 = .ok (.iload_n 1, 1) := by decide +kernel
theorem d27_1 : decode jdk_65_method_133_code 1 = .ok (.iload_n 2, 1) := by decide +kernel
theorem d27_2 : decode jdk_65_method_133_code 2 = .ok (.invokestatic 343, 3) := by decide +kernel
theorem d27_5 : decode jdk_65_method_133_code 5 = .ok (.iload_n 2, 1) := by decide +kernel
theorem d27_6 : decode jdk_65_method_133_code 6 = .ok (.iload_n 1, 1) := by decide +kernel
theorem d27_7 : decode jdk_65_method_133_code 7 = .ok (.isub, 1) := by decide +kernel
theorem d27_8 : decode jdk_65_method_133_code 8 = .ok (.istore_n 3, 1) := by decide +kernel
theorem d27_9 : decode jdk_65_method_133_code 9 = .ok (.iload_n 3, 1) := by decide +kernel
theorem d27_10 : decode jdk_65_method_133_code 10 = .ok (.newarray .byte, 2) := by decide +kernel
theorem d27_12 : decode jdk_65_method_133_code 12 = .ok (.astore 4, 2) := by decide +kernel
theorem d27_14 : decode jdk_65_method_133_code 14 = .ok (.aload_n 0, 1) := by decide +kernel
theorem d27_15 : decode jdk_65_method_133_code 15 = .ok (.iload_n 1, 1) := by decide +kernel
theorem d27_16 : decode jdk_65_method_133_code 16 = .ok (.aload 4, 2) := by decide +kernel
theorem d27_18 : decode jdk_65_method_133_code 18 = .ok (.iconst 0, 1) := by decide +kernel
theorem d27_19 : decode jdk_65_method_133_code 19 = .ok (.aload_n 0, 1) := by decide +kernel
theorem d27_20 : decode jdk_65_method_133_code 20 = .ok (.arraylength, 1) := by decide +kernel
theorem d27_21 : decode jdk_65_method_133_code 21 = .ok (.iload_n 1, 1) := by decide +kernel
theorem d27_22 : decode jdk_65_method_133_code 22 = .ok (.isub, 1) := by decide +kernel
theorem d27_23 : decode jdk_65_method_133_code 23 = .ok (.iload_n 3, 1) := by decide +kernel
theorem d27_24 : decode jdk_65_method_133_code 24 = .ok (.invokestatic 304, 3) := by decide +kernel
theorem d27_27 : decode jdk_65_method_133_code 27 = .ok (.invokestatic 150, 3) := by decide +kernel
theorem d27_30 : decode jdk_65_method_133_code 30 = .ok (.aload 4, 2) := by decide +kernel
theorem d27_32 : decode jdk_65_method_133_code 32 = .ok (.areturn, 1) := by decide +kernel
theorem pn_rm27 : plainName "java/util/Arrays" = true := by first | (simp [plainName, overriddenIn]; done) | decide +kernel
theorem ef_rm27 (m : MethodId) (x0 : Addr) (x1 : Int32) (x2 : Int32) : entryFrame m #[(.ref x0), (.int x1), (.int x2)] 5 = mkF m 0 #[.val (.ref x0), .val (.int x1), .val (.int x2), .unset, .unset] [] := by first | (simp [entryFrame, mkF, argsToLocals, Value.category]; done) | rfl
set_option maxRecDepth 65536 in
set_option maxHeartbeats 40000000 in
theorem rm27 (l : Launch) (Z : State) (a0 : Array Value) (hw : ∀ d ∈ tables_1, d.before a0 Z = true) (ws : List Jvm.Cond) (h0 : Heap) (n0 : Nat) (Z0 : n0 ≤ h0.size) (b1 : Addr) (p3 : Int32) (L : List Int32) (N : Nat) (V_b1 : OVec Z h0 b1 .byte L) (hN : L.length = N) (hN4 : N ≤ 4) (hft : ∀ y ∈ L, fits .byte (.int y) = true) (hbd : 0 ≤ p3.toInt ∧ p3.toInt < N) :
    OMet l (⟨"java/util/Arrays", "copyOfRangeByte", "([BII)[B"⟩ : MethodName) jdk_65_method_133_code 5 (some (.array .byte)) ws ({ frames := 1, cells := 1, slots := 4, locals := 60 } : Room) #[(.ref b1), (.int (0 : Int32)), (.int p3)] Z h0 (fun v h L' => ∃ t : Addr, v = some (.ref t) ∧ Fr n0 L' ∧ Keep h0 h [] ∧ h0.size ≤ t ∧ OVec Z h t .byte (L.take p3.toInt.toNat)) := by
  refine own_met (plainFor_of_name pn_rm27) ?_
  intro p e s m below meth c s₁ X0 hx hby hml hown hnm hret hlk hZ e0
  rw [ef_rm27]
  have N0 := Fr.nil n0
  have rg_p3 := rng32 p3
  show ORunF p e below _ s₁ (mkF m 0 #[.val (.ref b1), .val (.int (0 : Int32)), .val (.int p3), .unset, .unset] [])
  refine own_by (fun t k => XS.iloadN X0.here hx rfl (hb hby d27_0) rfl k) ?_
  show ORunF p e below _ s₁ (mkF m 1 #[.val (.ref b1), .val (.int (0 : Int32)), .val (.int p3), .unset, .unset] [(.int (0 : Int32))])
  refine own_by (fun t k => XS.iloadN X0.here hx rfl (hb hby d27_1) rfl k) ?_
  show ORunF p e below _ s₁ (mkF m 2 #[.val (.ref b1), .val (.int (0 : Int32)), .val (.int p3), .unset, .unset] [(.int p3), (.int (0 : Int32))])
  refine own_callS X0 hx hZ hown (hw _ (List.mem_of_getElem? (i := 121) rfl)) (hw _ (List.mem_of_getElem? (i := 122) rfl)) (hw _ (List.mem_of_getElem? (i := 116) rfl)) (hw _ (List.mem_of_getElem? (i := 123) rfl)) (by decide) (rm28 l Z a0 hw [] h0 n0 Z0 p3 hbd.1) e0 (by decide) (W := 0) (by decide) (by decide) (by decide) (argsL := [(.int (0 : Int32)), (.int p3)]) (rest := []) (by rw [hml]; rfl) (lenOf pd_8 rfl) rfl rfl (Nat.le_of_eq rfl) (hb hby d27_2) ?_
  intro T1 L1 u1 X1 hQ1
  obtain ⟨rfl, Nq1, e1⟩ := hQ1
  have N1 := Fr.app N0 Nq1
  show ORunF p e below _ T1 (mkF m 5 #[.val (.ref b1), .val (.int (0 : Int32)), .val (.int p3), .unset, .unset] [])
  refine own_by (fun t k => XS.iloadN X1.here hx rfl (hb hby d27_5) rfl k) ?_
  show ORunF p e below _ T1 (mkF m 6 #[.val (.ref b1), .val (.int (0 : Int32)), .val (.int p3), .unset, .unset] [(.int p3)])
  refine own_by (fun t k => XS.iloadN X1.here hx rfl (hb hby d27_6) rfl k) ?_
  show ORunF p e below _ T1 (mkF m 7 #[.val (.ref b1), .val (.int (0 : Int32)), .val (.int p3), .unset, .unset] [(.int (0 : Int32)), (.int p3)])
  refine own_by (fun t k => XS.isub X1.here hx rfl (hb hby d27_7) rfl k) (own_letI (f := (fun z => (mkF m 8 #[.val (.ref b1), .val (.int (0 : Int32)), .val (.int p3), .unset, .unset] [(.int z)]))) (p3 - (0 : Int32)) fun v2 hv2 => ?_)
  show ORunF p e below _ T1 (mkF m 8 #[.val (.ref b1), .val (.int (0 : Int32)), .val (.int p3), .unset, .unset] [(.int v2)])
  have r2 := rng32 v2
  have a2 : v2.toInt = p3.toInt - 0 := by
    have q : (v2.toInt - (p3.toInt - 0)) % 4294967296 = 0 := by rw [hv2]; exact c_isub p3 (0 : Int32)
    omega
  refine own_by (fun t k => XS.istoreN X1.here hx rfl (hb hby d27_8) rfl (l' := #[.val (.ref b1), .val (.int (0 : Int32)), .val (.int p3), .val (.int v2), .unset]) rfl k) ?_
  show ORunF p e below _ T1 (mkF m 9 #[.val (.ref b1), .val (.int (0 : Int32)), .val (.int p3), .val (.int v2), .unset] [])
  refine own_by (fun t k => XS.iloadN X1.here hx rfl (hb hby d27_9) rfl k) ?_
  show ORunF p e below _ T1 (mkF m 10 #[.val (.ref b1), .val (.int (0 : Int32)), .val (.int p3), .val (.int v2), .unset] [(.int v2)])
  refine own_newarray X1 hx hZ (aty := .byte) (hw _ (List.mem_of_getElem? (i := 23) rfl)) e1 rfl (N := v2.toInt.toNat) (cap := 4) (by omega) (by omega) (by decide) (by decide) (by decide) (ad := "[B") (by decide) (hb hby d27_10) ?_
  intro T3 h3 b3 L3 g3 X3 e3 E3 hL3 V3 Ex3
  have len3 : L3.length = v2.toInt.toNat := by rw [hL3]; exact List.length_replicate
  have old_b3 : n0 ≤ b3 := Nat.le_trans Z0 (Nat.le_of_eq g3.symm)
  have sz_b3 : h0.size ≤ b3 := Nat.le_trans (Nat.le_refl h0.size) (Nat.le_of_eq g3.symm)
  have ne_b1_b3 : b1 ≠ b3 := Nat.ne_of_lt (Nat.lt_of_lt_of_le V_b1.lt (Nat.le_of_eq g3.symm))
  show ORunF p e below _ T3 (mkF m 12 #[.val (.ref b1), .val (.int (0 : Int32)), .val (.int p3), .val (.int v2), .unset] [(.ref b3)])
  refine own_by (fun t k => XS.astore X3.here hx rfl (hb hby d27_12) rfl rfl (l' := #[.val (.ref b1), .val (.int (0 : Int32)), .val (.int p3), .val (.int v2), .val (.ref b3)]) rfl k) ?_
  show ORunF p e below _ T3 (mkF m 14 #[.val (.ref b1), .val (.int (0 : Int32)), .val (.int p3), .val (.int v2), .val (.ref b3)] [])
  refine own_by (fun t k => XS.aloadN X3.here hx rfl (hb hby d27_14) rfl rfl k) ?_
  show ORunF p e below _ T3 (mkF m 15 #[.val (.ref b1), .val (.int (0 : Int32)), .val (.int p3), .val (.int v2), .val (.ref b3)] [(.ref b1)])
  refine own_by (fun t k => XS.iloadN X3.here hx rfl (hb hby d27_15) rfl k) ?_
  show ORunF p e below _ T3 (mkF m 16 #[.val (.ref b1), .val (.int (0 : Int32)), .val (.int p3), .val (.int v2), .val (.ref b3)] [(.int (0 : Int32)), (.ref b1)])
  refine own_by (fun t k => XS.aload X3.here hx rfl (hb hby d27_16) rfl rfl k) ?_
  show ORunF p e below _ T3 (mkF m 18 #[.val (.ref b1), .val (.int (0 : Int32)), .val (.int p3), .val (.int v2), .val (.ref b3)] [(.ref b3), (.int (0 : Int32)), (.ref b1)])
  refine own_by (fun t k => XS.iconst X3.here hx rfl (hb hby d27_18) k) ?_
  show ORunF p e below _ T3 (mkF m 19 #[.val (.ref b1), .val (.int (0 : Int32)), .val (.int p3), .val (.int v2), .val (.ref b3)] [(.int (0 : Int32)), (.ref b3), (.int (0 : Int32)), (.ref b1)])
  refine own_by (fun t k => XS.aloadN X3.here hx rfl (hb hby d27_19) rfl rfl k) ?_
  show ORunF p e below _ T3 (mkF m 20 #[.val (.ref b1), .val (.int (0 : Int32)), .val (.int p3), .val (.int v2), .val (.ref b3)] [(.ref b1), (.int (0 : Int32)), (.ref b3), (.int (0 : Int32)), (.ref b1)])
  refine own_lenv X3 hx hZ e3 (V_b1.ext E3) (n := N) hN (by omega) (hb hby d27_20) ?_
  intro v4 hv4
  show ORunF p e below _ T3 (mkF m 21 #[.val (.ref b1), .val (.int (0 : Int32)), .val (.int p3), .val (.int v2), .val (.ref b3)] [(.int v4), (.int (0 : Int32)), (.ref b3), (.int (0 : Int32)), (.ref b1)])
  refine own_by (fun t k => XS.iloadN X3.here hx rfl (hb hby d27_21) rfl k) ?_
  show ORunF p e below _ T3 (mkF m 22 #[.val (.ref b1), .val (.int (0 : Int32)), .val (.int p3), .val (.int v2), .val (.ref b3)] [(.int (0 : Int32)), (.int v4), (.int (0 : Int32)), (.ref b3), (.int (0 : Int32)), (.ref b1)])
  refine own_by (fun t k => XS.isub X3.here hx rfl (hb hby d27_22) rfl k) (own_letI (f := (fun z => (mkF m 23 #[.val (.ref b1), .val (.int (0 : Int32)), .val (.int p3), .val (.int v2), .val (.ref b3)] [(.int z), (.int (0 : Int32)), (.ref b3), (.int (0 : Int32)), (.ref b1)]))) (v4 - (0 : Int32)) fun v5 hv5 => ?_)
  show ORunF p e below _ T3 (mkF m 23 #[.val (.ref b1), .val (.int (0 : Int32)), .val (.int p3), .val (.int v2), .val (.ref b3)] [(.int v5), (.int (0 : Int32)), (.ref b3), (.int (0 : Int32)), (.ref b1)])
  have r5 := rng32 v5
  have a5 : v5.toInt = v4.toInt - 0 := by
    have q : (v5.toInt - (v4.toInt - 0)) % 4294967296 = 0 := by rw [hv5]; exact c_isub v4 (0 : Int32)
    omega
  refine own_by (fun t k => XS.iloadN X3.here hx rfl (hb hby d27_23) rfl k) ?_
  show ORunF p e below _ T3 (mkF m 24 #[.val (.ref b1), .val (.int (0 : Int32)), .val (.int p3), .val (.int v2), .val (.ref b3)] [(.int v2), (.int v5), (.int (0 : Int32)), (.ref b3), (.int (0 : Int32)), (.ref b1)])
  refine own_callS X3 hx hZ hown (hw _ (List.mem_of_getElem? (i := 124) rfl)) (hw _ (List.mem_of_getElem? (i := 72) rfl)) (hw _ (List.mem_of_getElem? (i := 69) rfl)) (hw _ (List.mem_of_getElem? (i := 73) rfl)) (by decide) (rm15 l Z a0 hw [] h3 n0 (Nat.le_trans Z0 E3.1) v5 v2) e3 (by decide) (W := 4) (by decide) (by decide) (by decide) (argsL := [(.int v5), (.int v2)]) (rest := [(.int (0 : Int32)), (.ref b3), (.int (0 : Int32)), (.ref b1)]) (by rw [hml]; rfl) (lenOf pd_2 rfl) rfl rfl (Nat.le_of_eq rfl) (hb hby d27_24) ?_
  intro T6 L6 u6 X6 hQ6
  obtain ⟨y6, rfl, hy6, Nq6, e6⟩ := hQ6
  have N6 := Fr.app N1 Nq6
  show ORunF p e below _ T6 (mkF m 27 #[.val (.ref b1), .val (.int (0 : Int32)), .val (.int p3), .val (.int v2), .val (.ref b3)] [(.int y6), (.int (0 : Int32)), (.ref b3), (.int (0 : Int32)), (.ref b1)])
  refine own_acopyB X6 hx hZ hown (hw _ (List.mem_of_getElem? (i := 125) rfl)) (hw _ (List.mem_of_getElem? (i := 128) rfl)) (hw _ (List.mem_of_getElem? (i := 126) rfl)) (hw _ (List.mem_of_getElem? (i := 127) rfl)) e6 (V_b1.ext E3) V3 hft (fun x hx => by rw [hL3] at hx; rw [(List.mem_replicate.mp hx).2]; rfl) (by omega) (by omega) (i := 0) (j := 0) (k := y6.toInt.toNat) (by decide) (by decide) (by omega) (by omega) (by omega) N6 old_b3 (by rw [hml]; rfl) (hb hby d27_27) (by decide) (W := 0) (Nat.le_of_eq rfl) (by decide) ?_
  intro T7 h7 lo7 X7 e7 N7 K7 V7
  show ORunF p e below _ T7 (mkF m 30 #[.val (.ref b1), .val (.int (0 : Int32)), .val (.int p3), .val (.int v2), .val (.ref b3)] [])
  refine own_by (fun t k => XS.aload X7.here hx rfl (hb hby d27_30) rfl rfl k) ?_
  show ORunF p e below _ T7 (mkF m 32 #[.val (.ref b1), .val (.int (0 : Int32)), .val (.int p3), .val (.int v2), .val (.ref b3)] [(.ref b3)])
  refine own_retA X7 hx hret rfl rfl rfl hlk (hb hby d27_32) (by decide) (by decide) ?_
  rw [e7]
  refine ⟨b3, rfl, N7, (((Keep.refl h0 []).ext E3).trans K7 (allS (Or.inr sz_b3) all0)), sz_b3, ?_⟩
  have q := V7
  have e1 : y6.toInt.toNat = p3.toInt.toNat := by omega
  have e2 : L3.length = p3.toInt.toNat := by omega
  rw [e1, List.drop_eq_nil_of_le (by omega : L3.length ≤ 0 + p3.toInt.toNat)] at q
  simpa using q
theorem d26_0 : decode jdk_65_method_132_code 0 = .ok (.iload_n 1, 1) := by decide +kernel
theorem d26_1 : decode jdk_65_method_132_code 1 = .ok (.ifCond .ne 9, 3) := by decide +kernel
theorem d26_4 : decode jdk_65_method_132_code 4 = .ok (.iload_n 2, 1) := by decide +kernel
theorem d26_5 : decode jdk_65_method_132_code 5 = .ok (.aload_n 0, 1) := by decide +kernel
theorem d26_6 : decode jdk_65_method_132_code 6 = .ok (.arraylength, 1) := by decide +kernel
theorem d26_7 : decode jdk_65_method_132_code 7 = .ok (.if_icmp .eq 10, 3) := by decide +kernel
theorem d26_10 : decode jdk_65_method_132_code 10 = .ok (.aload_n 0, 1) := by decide +kernel
theorem d26_11 : decode jdk_65_method_132_code 11 = .ok (.iload_n 1, 1) := by decide +kernel
theorem d26_12 : decode jdk_65_method_132_code 12 = .ok (.iload_n 2, 1) := by decide +kernel
theorem d26_13 : decode jdk_65_method_132_code 13 = .ok (.invokestatic 339, 3) := by decide +kernel
theorem d26_16 : decode jdk_65_method_132_code 16 = .ok (.areturn, 1) := by decide +kernel
theorem pn_rm26 : plainName "java/util/Arrays" = true := by first | (simp [plainName, overriddenIn]; done) | decide +kernel
theorem ef_rm26 (m : MethodId) (x0 : Addr) (x1 : Int32) (x2 : Int32) : entryFrame m #[(.ref x0), (.int x1), (.int x2)] 3 = mkF m 0 #[.val (.ref x0), .val (.int x1), .val (.int x2)] [] := by first | (simp [entryFrame, mkF, argsToLocals, Value.category]; done) | rfl
set_option maxRecDepth 65536 in
set_option maxHeartbeats 40000000 in
theorem rm26 (l : Launch) (Z : State) (a0 : Array Value) (hw : ∀ d ∈ tables_1, d.before a0 Z = true) (ws : List Jvm.Cond) (h0 : Heap) (n0 : Nat) (Z0 : n0 ≤ h0.size) (b1 : Addr) (p3 : Int32) (L : List Int32) (N : Nat) (V_b1 : OVec Z h0 b1 .byte L) (hN : L.length = N) (hN4 : N ≤ 4) (hft : ∀ y ∈ L, fits .byte (.int y) = true) (hbd : 0 ≤ p3.toInt ∧ p3.toInt < N) :
    OMet l (⟨"java/util/Arrays", "copyOfRange", "([BII)[B"⟩ : MethodName) jdk_65_method_132_code 3 (some (.array .byte)) ws ({ frames := 2, cells := 1, slots := 4, locals := 90 } : Room) #[(.ref b1), (.int (0 : Int32)), (.int p3)] Z h0 (fun v h L' => ∃ t : Addr, v = some (.ref t) ∧ Fr n0 L' ∧ Keep h0 h [] ∧ h0.size ≤ t ∧ OVec Z h t .byte (L.take p3.toInt.toNat)) := by
  refine own_met (plainFor_of_name pn_rm26) ?_
  intro p e s m below meth c s₁ X0 hx hby hml hown hnm hret hlk hZ e0
  rw [ef_rm26]
  have N0 := Fr.nil n0
  have rg_p3 := rng32 p3
  show ORunF p e below _ s₁ (mkF m 0 #[.val (.ref b1), .val (.int (0 : Int32)), .val (.int p3)] [])
  refine own_by (fun t k => XS.iloadN X0.here hx rfl (hb hby d26_0) rfl k) ?_
  show ORunF p e below _ s₁ (mkF m 1 #[.val (.ref b1), .val (.int (0 : Int32)), .val (.int p3)] [(.int (0 : Int32))])
  refine own_by (fun t k => XS.ifNo X0.here hx rfl (hb hby d26_1) rfl ((if0 _ _).trans (teq (by decide)).2) k) ?_
  show ORunF p e below _ s₁ (mkF m 4 #[.val (.ref b1), .val (.int (0 : Int32)), .val (.int p3)] [])
  refine own_by (fun t k => XS.iloadN X0.here hx rfl (hb hby d26_4) rfl k) ?_
  show ORunF p e below _ s₁ (mkF m 5 #[.val (.ref b1), .val (.int (0 : Int32)), .val (.int p3)] [(.int p3)])
  refine own_by (fun t k => XS.aloadN X0.here hx rfl (hb hby d26_5) rfl rfl k) ?_
  show ORunF p e below _ s₁ (mkF m 6 #[.val (.ref b1), .val (.int (0 : Int32)), .val (.int p3)] [(.ref b1), (.int p3)])
  refine own_lenv X0 hx hZ e0 V_b1 (n := N) hN (by omega) (hb hby d26_6) ?_
  intro v1 hv1
  show ORunF p e below _ s₁ (mkF m 7 #[.val (.ref b1), .val (.int (0 : Int32)), .val (.int p3)] [(.int v1), (.int p3)])
  refine own_by (fun t k => XS.icmpNo X0.here hx rfl (hb hby d26_7) rfl (feq (fun q => absurd (congrArg Int32.toInt q) (by omega))).1 k) ?_
  show ORunF p e below _ s₁ (mkF m 10 #[.val (.ref b1), .val (.int (0 : Int32)), .val (.int p3)] [])
  refine own_by (fun t k => XS.aloadN X0.here hx rfl (hb hby d26_10) rfl rfl k) ?_
  show ORunF p e below _ s₁ (mkF m 11 #[.val (.ref b1), .val (.int (0 : Int32)), .val (.int p3)] [(.ref b1)])
  refine own_by (fun t k => XS.iloadN X0.here hx rfl (hb hby d26_11) rfl k) ?_
  show ORunF p e below _ s₁ (mkF m 12 #[.val (.ref b1), .val (.int (0 : Int32)), .val (.int p3)] [(.int (0 : Int32)), (.ref b1)])
  refine own_by (fun t k => XS.iloadN X0.here hx rfl (hb hby d26_12) rfl k) ?_
  show ORunF p e below _ s₁ (mkF m 13 #[.val (.ref b1), .val (.int (0 : Int32)), .val (.int p3)] [(.int p3), (.int (0 : Int32)), (.ref b1)])
  refine own_callS X0 hx hZ hown (hw _ (List.mem_of_getElem? (i := 118) rfl)) (hw _ (List.mem_of_getElem? (i := 119) rfl)) (hw _ (List.mem_of_getElem? (i := 116) rfl)) (hw _ (List.mem_of_getElem? (i := 120) rfl)) (by decide) (rm27 l Z a0 hw [] h0 n0 Z0 b1 p3 L N V_b1 hN hN4 hft hbd) e0 (by decide) (W := 0) (by decide) (by decide) (by decide) (argsL := [(.ref b1), (.int (0 : Int32)), (.int p3)]) (rest := []) (by rw [hml]; rfl) (lenOf pd_9 rfl) rfl rfl (Nat.le_of_eq rfl) (hb hby d26_13) ?_
  intro T2 L2 u2 X2 hQ2
  obtain ⟨o2, rfl, Nq2, K2, sz_o2, Vq2⟩ := hQ2
  have N2 := Fr.app N0 Nq2
  show ORunF p e below _ T2 (mkF m 16 #[.val (.ref b1), .val (.int (0 : Int32)), .val (.int p3)] [(.ref o2)])
  refine own_retA X2 hx hret rfl rfl rfl hlk (hb hby d26_16) (by decide) (by decide) ?_
  exact ⟨o2, rfl, N2, ((Keep.refl h0 []).trans K2 all0), sz_o2, Vq2⟩
theorem d29_0 : decode jdk_42_method_151_code 0 = .ok (.aload_n 0, 1) := by decide +kernel
theorem d29_1 : decode jdk_42_method_151_code 1 = .ok (.invokespecial 1, 3) := by decide +kernel
theorem d29_4 : decode jdk_42_method_151_code 4 = .ok (.aload_n 0, 1) := by decide +kernel
theorem d29_5 : decode jdk_42_method_151_code 5 = .ok (.aload_n 1, 1) := by decide +kernel
theorem d29_6 : decode jdk_42_method_151_code 6 = .ok (.putfield 9, 3) := by decide +kernel
theorem d29_9 : decode jdk_42_method_151_code 9 = .ok (.aload_n 0, 1) := by decide +kernel
theorem d29_10 : decode jdk_42_method_151_code 10 = .ok (.iload_n 2, 1) := by decide +kernel
theorem d29_11 : decode jdk_42_method_151_code 11 = .ok (.putfield 15, 3) := by decide +kernel
theorem d29_14 : decode jdk_42_method_151_code 14 = .ok (.return_, 1) := by decide +kernel
theorem pn_rm29 : plainName "java/lang/String" = true := by first | (simp [plainName, overriddenIn]; done) | decide +kernel
theorem ef_rm29 (m : MethodId) (x0 : Addr) (x1 : Addr) (x2 : Int32) : entryFrame m #[(.ref x0), (.ref x1), (.int x2)] 3 = mkF m 0 #[.val (.ref x0), .val (.ref x1), .val (.int x2)] [] := by first | (simp [entryFrame, mkF, argsToLocals, Value.category]; done) | rfl
set_option maxRecDepth 65536 in
set_option maxHeartbeats 40000000 in
theorem rm29 (l : Launch) (Z : State) (a0 : Array Value) (hw : ∀ d ∈ tables_1, d.before a0 Z = true) (ws : List Jvm.Cond) (h0 : Heap) (n0 : Nat) (Z0 : n0 ≤ h0.size) (a1 b1 : Addr) (g_a1 : n0 ≤ a1) (E_a1 : Exa Z h0 a1 "java/lang/String") (Fc_a1 : Fld Z h0 a1 "java/lang/String" "coder" "B" (.int 0)) (Fv_a1 : Fld Z h0 a1 "java/lang/String" "value" "[B" .null) :
    OMet l (⟨"java/lang/String", "<init>", "([BB)V"⟩ : MethodName) jdk_42_method_151_code 3 none ws ({ frames := 1, cells := 0, slots := 0, locals := 20 } : Room) #[(.ref a1), (.ref b1), (.int (0 : Int32))] Z h0 (fun v h L' => v = none ∧ Fr n0 L' ∧ Keep h0 h [a1] ∧ Exa Z h a1 "java/lang/String" ∧ Fld Z h a1 "java/lang/String" "coder" "B" (.int 0) ∧ Fld Z h a1 "java/lang/String" "value" "[B" (.ref b1)) := by
  refine own_met (plainFor_of_name pn_rm29) ?_
  intro p e s m below meth c s₁ X0 hx hby hml hown hnm hret hlk hZ e0
  rw [ef_rm29]
  have N0 := Fr.nil n0
  show ORunF p e below _ s₁ (mkF m 0 #[.val (.ref a1), .val (.ref b1), .val (.int (0 : Int32))] [])
  refine own_by (fun t k => XS.aloadN X0.here hx rfl (hb hby d29_0) rfl rfl k) ?_
  show ORunF p e below _ s₁ (mkF m 1 #[.val (.ref a1), .val (.ref b1), .val (.int (0 : Int32))] [(.ref a1)])
  obtain ⟨T1, X1, e1, st1⟩ := initO X0 hx hZ hown (hw _ (List.mem_of_getElem? (i := 19) rfl)) (hw _ (List.mem_of_getElem? (i := 20) rfl)) (hw _ (List.mem_of_getElem? (i := 21) rfl)) e0 (g := (mkF m 1 #[.val (.ref a1), .val (.ref b1), .val (.int (0 : Int32))] [(.ref a1)])) rfl (by rw [hml]; rfl) rfl (hb hby d29_1) (by decide) (W := 0) (by show 2 * 0 + _ ≤ _; exact Nat.le_of_eq rfl) (by decide)
  refine own_by st1 ?_
  show ORunF p e below _ T1 (mkF m 4 #[.val (.ref a1), .val (.ref b1), .val (.int (0 : Int32))] [])
  refine own_by (fun t k => XS.aloadN X1.here hx rfl (hb hby d29_4) rfl rfl k) ?_
  show ORunF p e below _ T1 (mkF m 5 #[.val (.ref a1), .val (.ref b1), .val (.int (0 : Int32))] [(.ref a1)])
  refine own_by (fun t k => XS.aloadN X1.here hx rfl (hb hby d29_5) rfl rfl k) ?_
  show ORunF p e below _ T1 (mkF m 6 #[.val (.ref a1), .val (.ref b1), .val (.int (0 : Int32))] [(.ref b1), (.ref a1)])
  obtain ⟨T2, h2, X2, e2, W2, st2⟩ := putF X1 hx hZ hown (host := "") (Or.inl (hw _ (List.mem_of_getElem? (i := 28) rfl))) Via.refl e1 Fv_a1 E_a1 (Or.inr ⟨(hw _ (List.mem_of_getElem? (i := 24) rfl)), rfl, hnm⟩) (hw _ (List.mem_of_getElem? (i := 9) rfl)) (ty := (.array .byte)) (by decide) rfl rfl (g := (mkF m 6 #[.val (.ref a1), .val (.ref b1), .val (.int (0 : Int32))] [(.ref b1), (.ref a1)])) rfl rfl (hb hby d29_6)
  have Fw2 := Fld.same W2 Fv_a1
  have N2 := Fr.snoc X2 N0 g_a1
  refine own_by st2 ?_
  show ORunF p e below _ T2 (mkF m 9 #[.val (.ref a1), .val (.ref b1), .val (.int (0 : Int32))] [])
  refine own_by (fun t k => XS.aloadN X2.here hx rfl (hb hby d29_9) rfl rfl k) ?_
  show ORunF p e below _ T2 (mkF m 10 #[.val (.ref a1), .val (.ref b1), .val (.int (0 : Int32))] [(.ref a1)])
  refine own_by (fun t k => XS.iloadN X2.here hx rfl (hb hby d29_10) rfl k) ?_
  show ORunF p e below _ T2 (mkF m 11 #[.val (.ref a1), .val (.ref b1), .val (.int (0 : Int32))] [(.int (0 : Int32)), (.ref a1)])
  obtain ⟨T3, h3, X3, e3, W3, st3⟩ := putFN X2 hx hZ hown (hw _ (List.mem_of_getElem? (i := 29) rfl)) Via.refl e2 (Fc_a1.other W2 (Or.inr (slot_ne (Or.inr (hw _ (List.mem_of_getElem? (i := 25) rfl))) (Or.inr (hw _ (List.mem_of_getElem? (i := 24) rfl))) (by decide) (t := .byte) (t' := (.array .byte)) (by decide) (by decide)))) (E_a1.wr W2) (Or.inr ⟨(hw _ (List.mem_of_getElem? (i := 25) rfl)), rfl, hnm⟩) (hw _ (List.mem_of_getElem? (i := 9) rfl)) (ty := .byte) (v' := (.int (nar .byte (0 : Int32)))) (by decide) rfl (fits_nar_byte _) (g := (mkF m 11 #[.val (.ref a1), .val (.ref b1), .val (.int (0 : Int32))] [(.int (0 : Int32)), (.ref a1)])) rfl rfl (hb hby d29_11)
  have Fw3 := Fld.same W3 (Fc_a1.other W2 (Or.inr (slot_ne (Or.inr (hw _ (List.mem_of_getElem? (i := 25) rfl))) (Or.inr (hw _ (List.mem_of_getElem? (i := 24) rfl))) (by decide) (t := .byte) (t' := (.array .byte)) (by decide) (by decide))))
  have N3 := Fr.snoc X3 N2 g_a1
  refine own_by st3 ?_
  show ORunF p e below _ T3 (mkF m 14 #[.val (.ref a1), .val (.ref b1), .val (.int (0 : Int32))] [])
  refine own_retV X3 hx hret hlk (hb hby d29_14) (by decide) (by decide) ?_
  rw [e3]
  exact ⟨rfl, N3, (((Keep.refl h0 [a1]).wr W2 (Or.inl (List.mem_of_getElem? (i := 0) rfl))).wr W3 (Or.inl (List.mem_of_getElem? (i := 0) rfl))), ((E_a1.wr W2).wr W3), Fw3, (Fw2.other W3 (Or.inr (slot_ne (Or.inr (hw _ (List.mem_of_getElem? (i := 24) rfl))) (Or.inr (hw _ (List.mem_of_getElem? (i := 25) rfl))) (by decide) (t := (.array .byte)) (t' := .byte) (by decide) (by decide))))⟩
theorem d25_0 : decode jdk_43_method_47_code 0 = .ok (.iload_n 2, 1) := by decide +kernel
theorem d25_1 : decode jdk_43_method_47_code 1 = .ok (.ifCond .ne 6, 3) := by decide +kernel
theorem d25_4 : decode jdk_43_method_47_code 4 = .ok (.ldc 151, 2) := by decide +kernel
theorem d25_6 : decode jdk_43_method_47_code 6 = .ok (.areturn, 1) := by decide +kernel
theorem d25_7 : decode jdk_43_method_47_code 7 = .ok (.new 1, 3) := by decide +kernel
theorem d25_10 : decode jdk_43_method_47_code 10 = .ok (.dup, 1) := by decide +kernel
theorem d25_11 : decode jdk_43_method_47_code 11 = .ok (.aload_n 0, 1) := by decide +kernel
theorem d25_12 : decode jdk_43_method_47_code 12 = .ok (.iload_n 1, 1) := by decide +kernel
theorem d25_13 : decode jdk_43_method_47_code 13 = .ok (.iload_n 1, 1) := by decide +kernel
theorem d25_14 : decode jdk_43_method_47_code 14 = .ok (.iload_n 2, 1) := by decide +kernel
theorem d25_15 : decode jdk_43_method_47_code 15 = .ok (.iadd, 1) := by decide +kernel
theorem d25_16 : decode jdk_43_method_47_code 16 = .ok (.invokestatic 232, 3) := by decide +kernel
theorem d25_19 : decode jdk_43_method_47_code 19 = .ok (.iconst 0, 1) := by decide +kernel
theorem d25_20 : decode jdk_43_method_47_code 20 = .ok (.invokespecial 112, 3) := by decide +kernel
theorem d25_23 : decode jdk_43_method_47_code 23 = .ok (.areturn, 1) := by decide +kernel
theorem pn_rm25 : plainName "java/lang/StringLatin1" = true := by first | (simp [plainName, overriddenIn]; done) | decide +kernel
theorem ef_rm25 (m : MethodId) (x0 : Addr) (x1 : Int32) (x2 : Int32) : entryFrame m #[(.ref x0), (.int x1), (.int x2)] 3 = mkF m 0 #[.val (.ref x0), .val (.int x1), .val (.int x2)] [] := by first | (simp [entryFrame, mkF, argsToLocals, Value.category]; done) | rfl
set_option maxRecDepth 65536 in
set_option maxHeartbeats 40000000 in
theorem rm25 (l : Launch) (Z : State) (a0 : Array Value) (hw : ∀ d ∈ tables_1, d.before a0 Z = true) (ws : List Jvm.Cond) (h0 : Heap) (n0 : Nat) (Z0 : n0 ≤ h0.size) (EL : List (String × Nat)) (hEL : EW Z a0 EL) (wS : ∀ a ∈ Bundle.stringAtoms, a.before a0 Z = true) (hm1 : ("java/lang/String", 7) ∈ EL) (hm2 : ("java/lang/StringLatin1", 151) ∈ EL) (b1 : Addr) (p3 : Int32) (L : List Int32) (N : Nat) (V_b1 : OVec Z h0 b1 .byte L) (hN : L.length = N) (hN4 : N ≤ 4) (hft : ∀ y ∈ L, fits .byte (.int y) = true) (hbd : 0 ≤ p3.toInt ∧ p3.toInt < N) :
    OMetH l (⟨"java/lang/StringLatin1", "newString", "([BII)Ljava/lang/String;"⟩ : MethodName) jdk_43_method_47_code 3 (some (.object "java/lang/String")) ws ({ frames := 3, cells := 3, slots := 10, locals := 120 } : Room) #[(.ref b1), (.int (0 : Int32)), (.int p3)] Z EL h0 (fun v h L' => ∃ x : Addr, v = some (.ref x) ∧ Fr n0 L' ∧ Keep h0 h [] ∧ OStr Z h x (L.take p3.toInt.toNat)) := by
  refine own_metH (plainFor_of_name pn_rm25) ?_
  intro p e s m below meth c s₁ X0 hx hby hml hown hnm hret hlk hZ e0 hs0 hS0 CR0
  rw [ef_rm25]
  have N0 := Fr.nil n0
  have hk0 : 0 ≤ h0.size := Nat.zero_le _
  have rg_p3 := rng32 p3
  show ORunF p e below _ s₁ (mkF m 0 #[.val (.ref b1), .val (.int (0 : Int32)), .val (.int p3)] [])
  refine own_by (fun t k => XS.iloadN X0.here hx rfl (hb hby d25_0) rfl k) ?_
  show ORunF p e below _ s₁ (mkF m 1 #[.val (.ref b1), .val (.int (0 : Int32)), .val (.int p3)] [(.int p3)])
  by_cases hc1 : p3 = (0 : Int32)
  · have t1 := own_eq hc1 (a := p3.toInt) (b := 0) rfl (by decide)
    refine own_by (fun t k => XS.ifNo X0.here hx rfl (hb hby d25_1) rfl ((if0 _ _).trans (teq hc1).2) k) ?_
    show ORunF p e below _ s₁ (mkF m 4 #[.val (.ref b1), .val (.int (0 : Int32)), .val (.int p3)] [])
    refine own_ldc0 X0 hx hS0 hk0 hZ hown hEL CR0.1 (hw _ (List.mem_of_getElem? (i := 112) rfl)) wS (by assumption) e0 (hb hby d25_4) (by decide) (by decide) ?_
    intro s2 b2 T2 h2 vm2 kk2 X2 e2 E2 hS2 hk2 hZ hown Ex2 Fc2 Fv2 Vb2 CRc2 Sfl2
    have CR3 := CHr.trans CR0 CRc2
    show ORunF p e below _ T2 (mkF m 6 #[.val (.ref b1), .val (.int (0 : Int32)), .val (.int p3)] [(.ref s2)])
    refine own_retAc X2 hx hS2 (by rw [e2]; exact hk2) hZ hEL (by rw [e2]; exact CR3) hret rfl rfl rfl hlk (hb hby d25_6) (by decide) (by decide) ?_
    rw [e2]
    have hN' := hN
    have e0 : p3.toInt.toNat = 0 := by omega
    have e1 : L.take p3.toInt.toNat = [] := by rw [e0]; rfl
    exact ⟨s2, rfl, N0, ((Keep.refl h0 []).ext E2), Ex2, Fc2, b2, Fv2, (by rw [e1]; exact Vb2), (by rw [e1]; exact fun y hy => nomatch hy)⟩
  · have t1 := own_ne hc1 (a := p3.toInt) (b := 0) rfl (by decide)
    refine own_by (fun t k => XS.ifYes X0.here hx rfl (pc0 := 1) (pc' := 7) rfl (hb hby d25_1) rfl ((if0 _ _).trans (feq hc1).2) (by decide) (by decide) k) ?_
    show ORunF p e below _ s₁ (mkF m 7 #[.val (.ref b1), .val (.int (0 : Int32)), .val (.int p3)] [])
    obtain ⟨T4, h4, X4, e4, E4, A4, D4, -, st4⟩ := newO X0 hx hZ hown (hw _ (List.mem_of_getElem? (i := 113) rfl)) (hw _ (List.mem_of_getElem? (i := 9) rfl)) (hw _ (List.mem_of_getElem? (i := 10) rfl)) e0 (g := (mkF m 7 #[.val (.ref b1), .val (.int (0 : Int32)), .val (.int p3)] [])) rfl (hb hby d25_7) (by decide) (by decide)
    obtain ⟨b4, g4⟩ : ∃ z, z = h0.size := ⟨_, rfl⟩
    rw [← g4] at A4 D4 st4
    have old_b4 : n0 ≤ b4 := Nat.le_trans Z0 (Nat.le_of_eq g4.symm)
    have sz_b4 : h0.size ≤ b4 := Nat.le_trans (Nat.le_refl h0.size) (Nat.le_of_eq g4.symm)
    have ne_b1_b4 : b1 ≠ b4 := Nat.ne_of_lt (Nat.lt_of_lt_of_le V_b1.lt (Nat.le_of_eq g4.symm))
    have Sb_b4 := Safe.ext E4 CR0.1 (Safe.new (Nat.le_of_eq g4.symm))
    have CR5 := CHr.trans CR0 (CHr.ext E4 CR0.1)
    have hk5 := Nat.le_trans hk0 E4.1
    have F4_24 : Fld Z h4 b4 "java/lang/String" "value" "[B" .null := D4 (Or.inr (hw _ (List.mem_of_getElem? (i := 24) rfl))) (ty := (.array .byte)) (by decide)
    have F4_25 : Fld Z h4 b4 "java/lang/String" "coder" "B" (.int (0 : Int32)) := D4 (Or.inr (hw _ (List.mem_of_getElem? (i := 25) rfl))) (ty := .byte) (by decide)
    refine own_by st4 ?_
    show ORunF p e below _ T4 (mkF m 10 #[.val (.ref b1), .val (.int (0 : Int32)), .val (.int p3)] [(.ref b4)])
    refine own_by (fun t k => XS.dup X4.here hx rfl (hb hby d25_10) rfl rfl k) ?_
    show ORunF p e below _ T4 (mkF m 11 #[.val (.ref b1), .val (.int (0 : Int32)), .val (.int p3)] [(.ref b4), (.ref b4)])
    refine own_by (fun t k => XS.aloadN X4.here hx rfl (hb hby d25_11) rfl rfl k) ?_
    show ORunF p e below _ T4 (mkF m 12 #[.val (.ref b1), .val (.int (0 : Int32)), .val (.int p3)] [(.ref b1), (.ref b4), (.ref b4)])
    refine own_by (fun t k => XS.iloadN X4.here hx rfl (hb hby d25_12) rfl k) ?_
    show ORunF p e below _ T4 (mkF m 13 #[.val (.ref b1), .val (.int (0 : Int32)), .val (.int p3)] [(.int (0 : Int32)), (.ref b1), (.ref b4), (.ref b4)])
    refine own_by (fun t k => XS.iloadN X4.here hx rfl (hb hby d25_13) rfl k) ?_
    show ORunF p e below _ T4 (mkF m 14 #[.val (.ref b1), .val (.int (0 : Int32)), .val (.int p3)] [(.int (0 : Int32)), (.int (0 : Int32)), (.ref b1), (.ref b4), (.ref b4)])
    refine own_by (fun t k => XS.iloadN X4.here hx rfl (hb hby d25_14) rfl k) ?_
    show ORunF p e below _ T4 (mkF m 15 #[.val (.ref b1), .val (.int (0 : Int32)), .val (.int p3)] [(.int p3), (.int (0 : Int32)), (.int (0 : Int32)), (.ref b1), (.ref b4), (.ref b4)])
    refine own_by (fun t k => XS.iadd X4.here hx rfl (hb hby d25_15) rfl k) (own_letI (f := (fun z => (mkF m 16 #[.val (.ref b1), .val (.int (0 : Int32)), .val (.int p3)] [(.int z), (.int (0 : Int32)), (.ref b1), (.ref b4), (.ref b4)]))) ((0 : Int32) + p3) fun v6 hv6 => ?_)
    show ORunF p e below _ T4 (mkF m 16 #[.val (.ref b1), .val (.int (0 : Int32)), .val (.int p3)] [(.int v6), (.int (0 : Int32)), (.ref b1), (.ref b4), (.ref b4)])
    have r6 := rng32 v6
    have a6 : v6.toInt = 0 + p3.toInt := by
      have q : (v6.toInt - (0 + p3.toInt)) % 4294967296 = 0 := by rw [hv6]; exact c_iadd (0 : Int32) p3
      omega
    have lt_b4 := A4.lt
    have e2 : v6 = p3 := Int32.toInt_inj.mp (by omega)
    rw [e2]
    show ORunF p e below _ T4 (mkF m 16 #[.val (.ref b1), .val (.int (0 : Int32)), .val (.int p3)] [(.int p3), (.int (0 : Int32)), (.ref b1), (.ref b4), (.ref b4)])
    refine own_callS X4 hx hZ hown (hw _ (List.mem_of_getElem? (i := 114) rfl)) (hw _ (List.mem_of_getElem? (i := 115) rfl)) (hw _ (List.mem_of_getElem? (i := 116) rfl)) (hw _ (List.mem_of_getElem? (i := 117) rfl)) (by decide) (rm26 l Z a0 hw [] h4 n0 (Nat.le_trans Z0 E4.1) b1 p3 L N (V_b1.ext E4) hN hN4 hft (by omega)) e4 (by decide) (W := 2) (by decide) (by decide) (by decide) (argsL := [(.ref b1), (.int (0 : Int32)), (.int p3)]) (rest := [(.ref b4), (.ref b4)]) (by rw [hml]; rfl) (lenOf pd_9 rfl) rfl rfl (Nat.le_of_eq rfl) (hb hby d25_16) ?_
    intro T7 L7 u7 X7 hQ7
    obtain ⟨o7, rfl, Nq7, K7, sz_o7, Vq7⟩ := hQ7
    have N7 := Fr.app N0 Nq7
    have CR8 := CHr.trans CR5 (CHr.keep K7 all0 CR5.1)
    have hk8 := Nat.le_trans hk5 K7.1
    have Sf8_b4 := Safe.keep K7 all0 CR5.1 Sb_b4
    show ORunF p e below _ T7 (mkF m 19 #[.val (.ref b1), .val (.int (0 : Int32)), .val (.int p3)] [(.ref o7), (.ref b4), (.ref b4)])
    refine own_by (fun t k => XS.iconst X7.here hx rfl (hb hby d25_19) k) ?_
    show ORunF p e below _ T7 (mkF m 20 #[.val (.ref b1), .val (.int (0 : Int32)), .val (.int p3)] [(.int (0 : Int32)), (.ref o7), (.ref b4), (.ref b4)])
    have ne_o7_b4 : o7 ≠ b4 := (Nat.ne_of_lt (Nat.lt_of_lt_of_le lt_b4 sz_o7)).symm
    refine own_callC X7 hx hZ hown rfl (hw _ (List.mem_of_getElem? (i := 129) rfl)) (hw _ (List.mem_of_getElem? (i := 130) rfl)) (hw _ (List.mem_of_getElem? (i := 10) rfl)) (hw _ (List.mem_of_getElem? (i := 131) rfl)) (by decide) (rm29 l Z a0 hw [] T7.heap n0 (Nat.le_trans (Nat.le_trans Z0 E4.1) K7.1) b4 o7 old_b4 (A4.keep K7) (F4_25.keep K7 nin0) (F4_24.keep K7 nin0)) rfl (by decide) (W := 1) (by decide) (by decide) (by decide) (b := b4) (argsL := [(.ref o7), (.int (0 : Int32))]) (rest := [(.ref b4)]) (by rw [hml]; rfl) (lenOf pd_10 rfl) rfl rfl (Nat.le_of_eq rfl) (hb hby d25_20) ?_
    intro T9 L9 u9 X9 hQ9
    obtain ⟨rfl, Nq9, K9, En9, Fc9, Fv9⟩ := hQ9
    have N9 := Fr.app N7 Nq9
    have CR10 := CHr.trans CR8 (CHr.keep K9 (allS Sf8_b4 all0) CR8.1)
    have hk10 := Nat.le_trans hk8 K9.1
    have Sf10_b4 := Safe.keep K9 (allS Sf8_b4 all0) CR8.1 Sf8_b4
    show ORunF p e below _ T9 (mkF m 23 #[.val (.ref b1), .val (.int (0 : Int32)), .val (.int p3)] [(.ref b4)])
    refine own_retAc X9 hx hS0 hk10 hZ hEL CR10 hret rfl rfl rfl hlk (hb hby d25_23) (by decide) (by decide) ?_
    have hN' := hN
    exact ⟨b4, rfl, N9, ((((Keep.refl h0 []).ext E4).trans K7 all0).trans K9 (allS (Or.inr sz_b4) all0)), En9, Fc9, o7, Fv9, (Vq7.keep K9 (ninS ne_o7_b4 nin0)), (fun y hy => hft y (List.mem_of_mem_take hy))⟩
theorem d22_0 : decode jdk_42_method_92_code 0 = .ok (.aload_n 0, 1) := by decide +kernel
theorem d22_1 : decode jdk_42_method_92_code 1 = .ok (.invokevirtual 505, 3) := by decide +kernel
theorem d22_4 : decode jdk_42_method_92_code 4 = .ok (.istore_n 3, 1) := by decide +kernel
theorem d22_5 : decode jdk_42_method_92_code 5 = .ok (.iload_n 1, 1) := by decide +kernel
theorem d22_6 : decode jdk_42_method_92_code 6 = .ok (.iload_n 2, 1) := by decide +kernel
theorem d22_7 : decode jdk_42_method_92_code 7 = .ok (.iload_n 3, 1) := by decide +kernel
theorem d22_8 : decode jdk_42_method_92_code 8 = .ok (.invokestatic 521, 3) := by decide +kernel
theorem d22_11 : decode jdk_42_method_92_code 11 = .ok (.iload_n 1, 1) := by decide +kernel
theorem d22_12 : decode jdk_42_method_92_code 12 = .ok (.ifCond .ne 10, 3) := by decide +kernel
theorem d22_15 : decode jdk_42_method_92_code 15 = .ok (.iload_n 2, 1) := by decide +kernel
theorem d22_16 : decode jdk_42_method_92_code 16 = .ok (.iload_n 3, 1) := by decide +kernel
theorem d22_17 : decode jdk_42_method_92_code 17 = .ok (.if_icmp .ne 5, 3) := by decide +kernel
theorem d22_20 : decode jdk_42_method_92_code 20 = .ok (.aload_n 0, 1) := by decide +kernel
theorem d22_21 : decode jdk_42_method_92_code 21 = .ok (.areturn, 1) := by decide +kernel
theorem d22_22 : decode jdk_42_method_92_code 22 = .ok (.iload_n 2, 1) := by decide +kernel
theorem d22_23 : decode jdk_42_method_92_code 23 = .ok (.iload_n 1, 1) := by decide +kernel
theorem d22_24 : decode jdk_42_method_92_code 24 = .ok (.isub, 1) := by decide +kernel
theorem d22_25 : decode jdk_42_method_92_code 25 = .ok (.istore 4, 2) := by decide +kernel
theorem d22_27 : decode jdk_42_method_92_code 27 = .ok (.aload_n 0, 1) := by decide +kernel
theorem d22_28 : decode jdk_42_method_92_code 28 = .ok (.invokevirtual 492, 3) := by decide +kernel
theorem d22_31 : decode jdk_42_method_92_code 31 = .ok (.ifCond .eq 16, 3) := by decide +kernel
theorem d22_34 : decode jdk_42_method_92_code 34 = .ok (.aload_n 0, 1) := by decide +kernel
theorem d22_35 : decode jdk_42_method_92_code 35 = .ok (.getfield 9, 3) := by decide +kernel
theorem d22_38 : decode jdk_42_method_92_code 38 = .ok (.iload_n 1, 1) := by decide +kernel
theorem d22_39 : decode jdk_42_method_92_code 39 = .ok (.iload 4, 2) := by decide +kernel
theorem d22_41 : decode jdk_42_method_92_code 41 = .ok (.invokestatic 685, 3) := by decide +kernel
theorem d22_44 : decode jdk_42_method_92_code 44 = .ok (.goto 13, 3) := by decide +kernel
theorem d22_57 : decode jdk_42_method_92_code 57 = .ok (.areturn, 1) := by decide +kernel
theorem pn_rm22 : plainName "java/lang/String" = true := by first | (simp [plainName, overriddenIn]; done) | decide +kernel
theorem ef_rm22 (m : MethodId) (x0 : Addr) (x1 : Int32) (x2 : Int32) : entryFrame m #[(.ref x0), (.int x1), (.int x2)] 5 = mkF m 0 #[.val (.ref x0), .val (.int x1), .val (.int x2), .unset, .unset] [] := by first | (simp [entryFrame, mkF, argsToLocals, Value.category]; done) | rfl
set_option maxRecDepth 65536 in
set_option maxHeartbeats 40000000 in
theorem rm22 (l : Launch) (Z : State) (a0 : Array Value) (hw : ∀ d ∈ tables_1, d.before a0 Z = true) (ws : List Jvm.Cond) (h0 : Heap) (n0 : Nat) (Z0 : n0 ≤ h0.size) (EL : List (String × Nat)) (hEL : EW Z a0 EL) (wS : ∀ a ∈ Bundle.stringAtoms, a.before a0 Z = true) (hm1 : ("java/lang/String", 7) ∈ EL) (hm2 : ("java/lang/StringLatin1", 151) ∈ EL) (a1 b1 : Addr) (p3 : Int32) (L : List Int32) (N : Nat) (z : Int32) (hz : ¬ z = 0) (Sc : Sta Z h0 "java/lang/String" "COMPACT_STRINGS" "Z" (.int z)) (vf : Value) (hvf : vf.isRef = true) (Sf : Sta Z h0 "jdk/internal/util/Preconditions" "SIOOBE_FORMATTER" "Ljava/util/function/BiFunction;" vf) (E_a1 : Exa Z h0 a1 "java/lang/String") (Fc_a1 : Fld Z h0 a1 "java/lang/String" "coder" "B" (.int 0)) (Fv_a1 : Fld Z h0 a1 "java/lang/String" "value" "[B" (.ref b1)) (V_b1 : OVec Z h0 b1 .byte L) (hN : L.length = N) (hN4 : N ≤ 4) (hft : ∀ y ∈ L, fits .byte (.int y) = true) (hbd : 0 ≤ p3.toInt ∧ p3.toInt < N) :
    OMetH l (⟨"java/lang/String", "substring", "(II)Ljava/lang/String;"⟩ : MethodName) jdk_42_method_92_code 5 (some (.object "java/lang/String")) ws ({ frames := 4, cells := 3, slots := 10, locals := 150 } : Room) #[(.ref a1), (.int (0 : Int32)), (.int p3)] Z EL h0 (fun v h L' => ∃ x : Addr, v = some (.ref x) ∧ Fr n0 L' ∧ Keep h0 h [] ∧ OStr Z h x (L.take p3.toInt.toNat)) := by
  refine own_metH (plainFor_of_name pn_rm22) ?_
  intro p e s m below meth c s₁ X0 hx hby hml hown hnm hret hlk hZ e0 hs0 hS0 CR0
  rw [ef_rm22]
  have N0 := Fr.nil n0
  have hk0 : 0 ≤ h0.size := Nat.zero_le _
  have rg_p3 := rng32 p3
  show ORunF p e below _ s₁ (mkF m 0 #[.val (.ref a1), .val (.int (0 : Int32)), .val (.int p3), .unset, .unset] [])
  refine own_by (fun t k => XS.aloadN X0.here hx rfl (hb hby d22_0) rfl rfl k) ?_
  show ORunF p e below _ s₁ (mkF m 1 #[.val (.ref a1), .val (.int (0 : Int32)), .val (.int p3), .unset, .unset] [(.ref a1)])
  refine own_callV X0 hx hZ hown E_a1 (hw _ (List.mem_of_getElem? (i := 50) rfl)) (hw _ (List.mem_of_getElem? (i := 51) rfl)) (notFace_of_selects (args := #[]) (mvT hZ (hw _ (List.mem_of_getElem? (i := 53) rfl)))) (hw _ (List.mem_of_getElem? (i := 53) rfl)) (hw _ (List.mem_of_getElem? (i := 52) rfl)) (hw _ (List.mem_of_getElem? (i := 10) rfl)) (hw _ (List.mem_of_getElem? (i := 54) rfl)) (by decide) (rm10 l Z a0 hw [] h0 n0 Z0 a1 b1 L N z hz Sc E_a1 Fc_a1 Fv_a1 V_b1 hN (by omega)) e0 (by decide) (W := 0) (by decide) (by decide) (by decide) (argsL := []) (rest := []) (by rw [hml]; rfl) (lenOf pd_5 rfl) rfl rfl (Nat.le_of_eq rfl) (hb hby d22_1) ?_
  intro T1 L1 u1 X1 hQ1
  obtain ⟨y1, rfl, hy1, Nq1, e1⟩ := hQ1
  have N1 := Fr.app N0 Nq1
  have ry1 := rng32 y1
  show ORunF p e below _ T1 (mkF m 4 #[.val (.ref a1), .val (.int (0 : Int32)), .val (.int p3), .unset, .unset] [(.int y1)])
  refine own_by (fun t k => XS.istoreN X1.here hx rfl (hb hby d22_4) rfl (l' := #[.val (.ref a1), .val (.int (0 : Int32)), .val (.int p3), .val (.int y1), .unset]) rfl k) ?_
  show ORunF p e below _ T1 (mkF m 5 #[.val (.ref a1), .val (.int (0 : Int32)), .val (.int p3), .val (.int y1), .unset] [])
  refine own_by (fun t k => XS.iloadN X1.here hx rfl (hb hby d22_5) rfl k) ?_
  show ORunF p e below _ T1 (mkF m 6 #[.val (.ref a1), .val (.int (0 : Int32)), .val (.int p3), .val (.int y1), .unset] [(.int (0 : Int32))])
  refine own_by (fun t k => XS.iloadN X1.here hx rfl (hb hby d22_6) rfl k) ?_
  show ORunF p e below _ T1 (mkF m 7 #[.val (.ref a1), .val (.int (0 : Int32)), .val (.int p3), .val (.int y1), .unset] [(.int p3), (.int (0 : Int32))])
  refine own_by (fun t k => XS.iloadN X1.here hx rfl (hb hby d22_7) rfl k) ?_
  show ORunF p e below _ T1 (mkF m 8 #[.val (.ref a1), .val (.int (0 : Int32)), .val (.int p3), .val (.int y1), .unset] [(.int y1), (.int p3), (.int (0 : Int32))])
  refine own_callS X1 hx hZ hown (hw _ (List.mem_of_getElem? (i := 101) rfl)) (hw _ (List.mem_of_getElem? (i := 102) rfl)) (hw _ (List.mem_of_getElem? (i := 10) rfl)) (hw _ (List.mem_of_getElem? (i := 103) rfl)) (by decide) (rm23 l Z a0 hw [] h0 n0 Z0 p3 y1 vf hvf Sf (by omega)) e1 (by decide) (W := 0) (by decide) (by decide) (by decide) (argsL := [(.int (0 : Int32)), (.int p3), (.int y1)]) (rest := []) (by rw [hml]; rfl) (lenOf pd_11 rfl) rfl rfl (Nat.le_of_eq rfl) (hb hby d22_8) ?_
  intro T2 L2 u2 X2 hQ2
  obtain ⟨rfl, Nq2, e2⟩ := hQ2
  have N2 := Fr.app N1 Nq2
  show ORunF p e below _ T2 (mkF m 11 #[.val (.ref a1), .val (.int (0 : Int32)), .val (.int p3), .val (.int y1), .unset] [])
  refine own_by (fun t k => XS.iloadN X2.here hx rfl (hb hby d22_11) rfl k) ?_
  show ORunF p e below _ T2 (mkF m 12 #[.val (.ref a1), .val (.int (0 : Int32)), .val (.int p3), .val (.int y1), .unset] [(.int (0 : Int32))])
  refine own_by (fun t k => XS.ifNo X2.here hx rfl (hb hby d22_12) rfl ((if0 _ _).trans (teq (by decide)).2) k) ?_
  show ORunF p e below _ T2 (mkF m 15 #[.val (.ref a1), .val (.int (0 : Int32)), .val (.int p3), .val (.int y1), .unset] [])
  refine own_by (fun t k => XS.iloadN X2.here hx rfl (hb hby d22_15) rfl k) ?_
  show ORunF p e below _ T2 (mkF m 16 #[.val (.ref a1), .val (.int (0 : Int32)), .val (.int p3), .val (.int y1), .unset] [(.int p3)])
  refine own_by (fun t k => XS.iloadN X2.here hx rfl (hb hby d22_16) rfl k) ?_
  show ORunF p e below _ T2 (mkF m 17 #[.val (.ref a1), .val (.int (0 : Int32)), .val (.int p3), .val (.int y1), .unset] [(.int y1), (.int p3)])
  by_cases hc3 : p3 = y1
  · have t3 := own_eq hc3 (a := p3.toInt) (b := y1.toInt) rfl rfl
    refine own_by (fun t k => XS.icmpNo X2.here hx rfl (hb hby d22_17) rfl (teq hc3).2 k) ?_
    show ORunF p e below _ T2 (mkF m 20 #[.val (.ref a1), .val (.int (0 : Int32)), .val (.int p3), .val (.int y1), .unset] [])
    refine own_by (fun t k => XS.aloadN X2.here hx rfl (hb hby d22_20) rfl rfl k) ?_
    show ORunF p e below _ T2 (mkF m 21 #[.val (.ref a1), .val (.int (0 : Int32)), .val (.int p3), .val (.int y1), .unset] [(.ref a1)])
    refine own_retAc X2 hx hS0 (by rw [e2]; exact hk0) hZ hEL (by rw [e2]; exact CR0) hret rfl rfl rfl hlk (hb hby d22_21) (by decide) (by decide) ?_
    rw [e2]
    have e1 : L.take p3.toInt.toNat = L := List.take_of_length_le (by omega)
    rw [e1]
    exact ⟨a1, rfl, N2, (Keep.refl h0 []), E_a1, Fc_a1, b1, Fv_a1, V_b1, hft⟩
  · have t3 := own_ne hc3 (a := p3.toInt) (b := y1.toInt) rfl rfl
    refine own_by (fun t k => XS.icmpYes X2.here hx rfl (pc0 := 17) (pc' := 22) rfl (hb hby d22_17) rfl (feq hc3).2 (by decide) (by decide) k) ?_
    show ORunF p e below _ T2 (mkF m 22 #[.val (.ref a1), .val (.int (0 : Int32)), .val (.int p3), .val (.int y1), .unset] [])
    refine own_by (fun t k => XS.iloadN X2.here hx rfl (hb hby d22_22) rfl k) ?_
    show ORunF p e below _ T2 (mkF m 23 #[.val (.ref a1), .val (.int (0 : Int32)), .val (.int p3), .val (.int y1), .unset] [(.int p3)])
    refine own_by (fun t k => XS.iloadN X2.here hx rfl (hb hby d22_23) rfl k) ?_
    show ORunF p e below _ T2 (mkF m 24 #[.val (.ref a1), .val (.int (0 : Int32)), .val (.int p3), .val (.int y1), .unset] [(.int (0 : Int32)), (.int p3)])
    refine own_by (fun t k => XS.isub X2.here hx rfl (hb hby d22_24) rfl k) (own_letI (f := (fun z => (mkF m 25 #[.val (.ref a1), .val (.int (0 : Int32)), .val (.int p3), .val (.int y1), .unset] [(.int z)]))) (p3 - (0 : Int32)) fun v4 hv4 => ?_)
    show ORunF p e below _ T2 (mkF m 25 #[.val (.ref a1), .val (.int (0 : Int32)), .val (.int p3), .val (.int y1), .unset] [(.int v4)])
    have r4 := rng32 v4
    have a4 : v4.toInt = p3.toInt - 0 := by
      have q : (v4.toInt - (p3.toInt - 0)) % 4294967296 = 0 := by rw [hv4]; exact c_isub p3 (0 : Int32)
      omega
    refine own_by (fun t k => XS.istore X2.here hx rfl (hb hby d22_25) rfl (l' := #[.val (.ref a1), .val (.int (0 : Int32)), .val (.int p3), .val (.int y1), .val (.int v4)]) rfl k) ?_
    show ORunF p e below _ T2 (mkF m 27 #[.val (.ref a1), .val (.int (0 : Int32)), .val (.int p3), .val (.int y1), .val (.int v4)] [])
    refine own_by (fun t k => XS.aloadN X2.here hx rfl (hb hby d22_27) rfl rfl k) ?_
    show ORunF p e below _ T2 (mkF m 28 #[.val (.ref a1), .val (.int (0 : Int32)), .val (.int p3), .val (.int y1), .val (.int v4)] [(.ref a1)])
    refine own_callV X2 hx hZ hown E_a1 (hw _ (List.mem_of_getElem? (i := 44) rfl)) (hw _ (List.mem_of_getElem? (i := 45) rfl)) (notFace_of_selects (args := #[]) (mvT hZ (hw _ (List.mem_of_getElem? (i := 47) rfl)))) (hw _ (List.mem_of_getElem? (i := 47) rfl)) (hw _ (List.mem_of_getElem? (i := 46) rfl)) (hw _ (List.mem_of_getElem? (i := 10) rfl)) (hw _ (List.mem_of_getElem? (i := 48) rfl)) (by decide) (rm9 l Z a0 hw [] h0 n0 Z0 a1 z hz Sc Fc_a1) e2 (by decide) (W := 0) (by decide) (by decide) (by decide) (argsL := []) (rest := []) (by rw [hml]; rfl) (lenOf pd_4 rfl) rfl rfl (Nat.le_of_eq rfl) (hb hby d22_28) ?_
    intro T5 L5 u5 X5 hQ5
    obtain ⟨rfl, Nq5, e5⟩ := hQ5
    have N5 := Fr.app N2 Nq5
    show ORunF p e below _ T5 (mkF m 31 #[.val (.ref a1), .val (.int (0 : Int32)), .val (.int p3), .val (.int y1), .val (.int v4)] [(.int (1 : Int32))])
    refine own_by (fun t k => XS.ifNo X5.here hx rfl (hb hby d22_31) rfl ((if0 _ _).trans (feq (by decide)).1) k) ?_
    show ORunF p e below _ T5 (mkF m 34 #[.val (.ref a1), .val (.int (0 : Int32)), .val (.int p3), .val (.int y1), .val (.int v4)] [])
    refine own_by (fun t k => XS.aloadN X5.here hx rfl (hb hby d22_34) rfl rfl k) ?_
    show ORunF p e below _ T5 (mkF m 35 #[.val (.ref a1), .val (.int (0 : Int32)), .val (.int p3), .val (.int y1), .val (.int v4)] [(.ref a1)])
    obtain ⟨T6, X6, e6, st6⟩ := getF X5 hx hZ hown (host := "") (Or.inl (hw _ (List.mem_of_getElem? (i := 28) rfl))) Via.refl e5 Fv_a1 (g := (mkF m 35 #[.val (.ref a1), .val (.int (0 : Int32)), .val (.int p3), .val (.int y1), .val (.int v4)] [(.ref a1)])) rfl rfl (hb hby d22_35)
    refine own_by st6 ?_
    show ORunF p e below _ T6 (mkF m 38 #[.val (.ref a1), .val (.int (0 : Int32)), .val (.int p3), .val (.int y1), .val (.int v4)] [(.ref b1)])
    refine own_by (fun t k => XS.iloadN X6.here hx rfl (hb hby d22_38) rfl k) ?_
    show ORunF p e below _ T6 (mkF m 39 #[.val (.ref a1), .val (.int (0 : Int32)), .val (.int p3), .val (.int y1), .val (.int v4)] [(.int (0 : Int32)), (.ref b1)])
    refine own_by (fun t k => XS.iload X6.here hx rfl (hb hby d22_39) rfl k) ?_
    show ORunF p e below _ T6 (mkF m 41 #[.val (.ref a1), .val (.int (0 : Int32)), .val (.int p3), .val (.int y1), .val (.int v4)] [(.int v4), (.int (0 : Int32)), (.ref b1)])
    have e2 : v4 = p3 := Int32.toInt_inj.mp (by omega)
    rw [e2]
    show ORunF p e below _ T6 (mkF m 41 #[.val (.ref a1), .val (.int (0 : Int32)), .val (.int p3), .val (.int y1), .val (.int p3)] [(.int p3), (.int (0 : Int32)), (.ref b1)])
    refine own_callSH X6 hx hS0 hk0 hZ hown hEL CR0.1 (hw _ (List.mem_of_getElem? (i := 109) rfl)) (hw _ (List.mem_of_getElem? (i := 110) rfl)) (hw _ (List.mem_of_getElem? (i := 62) rfl)) (hw _ (List.mem_of_getElem? (i := 111) rfl)) (by decide) (rm25 l Z a0 hw [] h0 n0 Z0 EL hEL wS hm1 hm2 b1 p3 L N V_b1 hN hN4 hft (by omega)) e6 (by decide) (W := 0) (by decide) (by decide) (by decide) (argsL := [(.ref b1), (.int (0 : Int32)), (.int p3)]) (rest := []) (by rw [hml]; rfl) (lenOf pd_12 rfl) rfl rfl (Nat.le_of_eq rfl) (hb hby d22_41) ?_
    intro T7 L7 u7 vm7 kk7 X7 hS7 hk7 hZ hown CRc7 hQ7
    obtain ⟨o7, rfl, Nq7, K7, Os_o7⟩ := hQ7
    have N7 := Fr.app N5 Nq7
    have CR8 := CHr.trans CR0 CRc7
    show ORunF p e below _ T7 (mkF m 44 #[.val (.ref a1), .val (.int (0 : Int32)), .val (.int p3), .val (.int y1), .val (.int p3)] [(.ref o7)])
    refine own_by (fun t k => XS.goto X7.here hx rfl (pc0 := 44) (pc' := 57) rfl (hb hby d22_44) (by decide) (by decide) k) ?_
    show ORunF p e below _ T7 (mkF m 57 #[.val (.ref a1), .val (.int (0 : Int32)), .val (.int p3), .val (.int y1), .val (.int p3)] [(.ref o7)])
    refine own_retAc X7 hx hS7 hk7 hZ hEL CR8 hret rfl rfl rfl hlk (hb hby d22_57) (by decide) (by decide) ?_
    exact ⟨o7, rfl, N7, ((Keep.refl h0 []).trans K7 all0), Os_o7⟩
theorem d4_0 : decode jdk_42_method_149_code 0 = .ok (.aload_n 0, 1) := by decide +kernel
theorem d4_1 : decode jdk_42_method_149_code 1 = .ok (.invokespecial 1, 3) := by decide +kernel
theorem d4_4 : decode jdk_42_method_149_code 4 = .ok (.iload_n 3, 1) := by decide +kernel
theorem d4_5 : decode jdk_42_method_149_code 5 = .ok (.ifCond .ne 22, 3) := by decide +kernel
theorem d4_8 : decode jdk_42_method_149_code 8 = .ok (.aload_n 0, 1) := by decide +kernel
theorem d4_9 : decode jdk_42_method_149_code 9 = .ok (.ldc 7, 2) := by decide +kernel
theorem d4_11 : decode jdk_42_method_149_code 11 = .ok (.getfield 9, 3) := by decide +kernel
theorem d4_14 : decode jdk_42_method_149_code 14 = .ok (.putfield 9, 3) := by decide +kernel
theorem d4_17 : decode jdk_42_method_149_code 17 = .ok (.aload_n 0, 1) := by decide +kernel
theorem d4_18 : decode jdk_42_method_149_code 18 = .ok (.ldc 7, 2) := by decide +kernel
theorem d4_20 : decode jdk_42_method_149_code 20 = .ok (.getfield 15, 3) := by decide +kernel
theorem d4_23 : decode jdk_42_method_149_code 23 = .ok (.putfield 15, 3) := by decide +kernel
theorem d4_26 : decode jdk_42_method_149_code 26 = .ok (.return_, 1) := by decide +kernel
theorem pn_rm4 : plainName "java/lang/String" = true := by first | (simp [plainName, overriddenIn]; done) | decide +kernel
theorem ef_rm4 (m : MethodId) (x0 : Addr) (x1 : Addr) (x2 : Int32) (x3 : Int32) : entryFrame m #[(.ref x0), (.ref x1), (.int x2), (.int x3), .null] 6 = mkF m 0 #[.val (.ref x0), .val (.ref x1), .val (.int x2), .val (.int x3), .val .null, .unset] [] := by first | (simp [entryFrame, mkF, argsToLocals, Value.category]; done) | rfl
set_option maxRecDepth 65536 in
set_option maxHeartbeats 40000000 in
theorem rm4 (l : Launch) (Z : State) (a0 : Array Value) (hw : ∀ d ∈ tables_1, d.before a0 Z = true) (ws : List Jvm.Cond) (h0 : Heap) (n0 : Nat) (Z0 : n0 ≤ h0.size) (EL : List (String × Nat)) (hEL : EW Z a0 EL) (wS : ∀ a ∈ Bundle.stringAtoms, a.before a0 Z = true) (hm1 : ("java/lang/String", 7) ∈ EL) (hm2 : ("java/lang/StringLatin1", 151) ∈ EL) (a1 b1 : Addr) (g_a1 : n0 ≤ a1) (E_a1 : Exa Z h0 a1 "java/lang/String") (Fc_a1 : Fld Z h0 a1 "java/lang/String" "coder" "B" (.int 0)) (Fv_a1 : Fld Z h0 a1 "java/lang/String" "value" "[B" .null) (V_b1 : OVec Z h0 b1 .char []) :
    OMetH l (⟨"java/lang/String", "<init>", "([CIILjava/lang/Void;)V"⟩ : MethodName) jdk_42_method_149_code 6 none ws ({ frames := 1, cells := 4, slots := 8, locals := 20 } : Room) #[(.ref a1), (.ref b1), (.int (0 : Int32)), (.int (0 : Int32)), .null] Z EL h0 (QStr Z h0 n0 a1 []) := by
  refine own_metH (plainFor_of_name pn_rm4) ?_
  intro p e s m below meth c s₁ X0 hx hby hml hown hnm hret hlk hZ e0 hs0 hS0 CR0
  rw [ef_rm4]
  have N0 := Fr.nil n0
  have hk0 : 0 ≤ h0.size := Nat.zero_le _
  have Sx : Safe Z EL s.vm h0 a1 := own_safe0 hZ.alike E_a1 Fv_a1
  show ORunF p e below _ s₁ (mkF m 0 #[.val (.ref a1), .val (.ref b1), .val (.int (0 : Int32)), .val (.int (0 : Int32)), .val .null, .unset] [])
  refine own_by (fun t k => XS.aloadN X0.here hx rfl (hb hby d4_0) rfl rfl k) ?_
  show ORunF p e below _ s₁ (mkF m 1 #[.val (.ref a1), .val (.ref b1), .val (.int (0 : Int32)), .val (.int (0 : Int32)), .val .null, .unset] [(.ref a1)])
  obtain ⟨T1, X1, e1, st1⟩ := initO X0 hx hZ hown (hw _ (List.mem_of_getElem? (i := 19) rfl)) (hw _ (List.mem_of_getElem? (i := 20) rfl)) (hw _ (List.mem_of_getElem? (i := 21) rfl)) e0 (g := (mkF m 1 #[.val (.ref a1), .val (.ref b1), .val (.int (0 : Int32)), .val (.int (0 : Int32)), .val .null, .unset] [(.ref a1)])) rfl (by rw [hml]; rfl) rfl (hb hby d4_1) (by decide) (W := 0) (by show 2 * 0 + _ ≤ _; exact Nat.le_of_eq rfl) (by decide)
  refine own_by st1 ?_
  show ORunF p e below _ T1 (mkF m 4 #[.val (.ref a1), .val (.ref b1), .val (.int (0 : Int32)), .val (.int (0 : Int32)), .val .null, .unset] [])
  refine own_by (fun t k => XS.iloadN X1.here hx rfl (hb hby d4_4) rfl k) ?_
  show ORunF p e below _ T1 (mkF m 5 #[.val (.ref a1), .val (.ref b1), .val (.int (0 : Int32)), .val (.int (0 : Int32)), .val .null, .unset] [(.int (0 : Int32))])
  refine own_by (fun t k => XS.ifNo X1.here hx rfl (hb hby d4_5) rfl ((if0 _ _).trans (teq (by decide)).2) k) ?_
  show ORunF p e below _ T1 (mkF m 8 #[.val (.ref a1), .val (.ref b1), .val (.int (0 : Int32)), .val (.int (0 : Int32)), .val .null, .unset] [])
  refine own_by (fun t k => XS.aloadN X1.here hx rfl (hb hby d4_8) rfl rfl k) ?_
  show ORunF p e below _ T1 (mkF m 9 #[.val (.ref a1), .val (.ref b1), .val (.int (0 : Int32)), .val (.int (0 : Int32)), .val .null, .unset] [(.ref a1)])
  refine own_ldc0 X1 hx hS0 hk0 hZ hown hEL CR0.1 (hw _ (List.mem_of_getElem? (i := 22) rfl)) wS (by assumption) e1 (hb hby d4_9) (by decide) (by decide) ?_
  intro s2 b2 T2 h2 vm2 kk2 X2 e2 E2 hS2 hk2 hZ hown Ex2 Fc2 Fv2 Vb2 CRc2 Sfl2
  have CR3 := CHr.trans CR0 CRc2
  have Sf3_a1 := CHr.safe CRc2 E_a1.lt Sx
  have nl2_a1 := Sfl2 _ Sf3_a1
  show ORunF p e below _ T2 (mkF m 11 #[.val (.ref a1), .val (.ref b1), .val (.int (0 : Int32)), .val (.int (0 : Int32)), .val .null, .unset] [(.ref s2), (.ref a1)])
  obtain ⟨T4, X4, e4, st4⟩ := getF X2 hx hZ hown (host := "") (Or.inl (hw _ (List.mem_of_getElem? (i := 28) rfl))) Via.refl e2 Fv2 (g := (mkF m 11 #[.val (.ref a1), .val (.ref b1), .val (.int (0 : Int32)), .val (.int (0 : Int32)), .val .null, .unset] [(.ref s2), (.ref a1)])) rfl rfl (hb hby d4_11)
  refine own_by st4 ?_
  show ORunF p e below _ T4 (mkF m 14 #[.val (.ref a1), .val (.ref b1), .val (.int (0 : Int32)), .val (.int (0 : Int32)), .val .null, .unset] [(.ref b2), (.ref a1)])
  obtain ⟨T5, h5, X5, e5, W5, st5⟩ := putF X4 hx hZ hown (host := "") (Or.inl (hw _ (List.mem_of_getElem? (i := 28) rfl))) Via.refl e4 (Fv_a1.ext E2) (E_a1.ext E2) (Or.inr ⟨(hw _ (List.mem_of_getElem? (i := 24) rfl)), rfl, hnm⟩) (hw _ (List.mem_of_getElem? (i := 9) rfl)) (ty := (.array .byte)) (by decide) rfl rfl (g := (mkF m 14 #[.val (.ref a1), .val (.ref b1), .val (.int (0 : Int32)), .val (.int (0 : Int32)), .val .null, .unset] [(.ref b2), (.ref a1)])) rfl rfl (hb hby d4_14)
  have Fw5 := Fld.same W5 (Fv_a1.ext E2)
  have N5 := Fr.snoc X5 N0 g_a1
  have CR6 := CHr.trans CR3 (CHr.wr W5 Sf3_a1 CR3.1)
  have hk6 := Nat.le_trans hk2 (Keep.of_wr W5).1
  have Sf6_a1 := Safe.wr W5 Sf3_a1 CR3.1 Sf3_a1
  refine own_by st5 ?_
  show ORunF p e below _ T5 (mkF m 17 #[.val (.ref a1), .val (.ref b1), .val (.int (0 : Int32)), .val (.int (0 : Int32)), .val .null, .unset] [])
  refine own_by (fun t k => XS.aloadN X5.here hx rfl (hb hby d4_17) rfl rfl k) ?_
  show ORunF p e below _ T5 (mkF m 18 #[.val (.ref a1), .val (.ref b1), .val (.int (0 : Int32)), .val (.int (0 : Int32)), .val .null, .unset] [(.ref a1)])
  refine own_ldc0 X5 hx hS2 hk6 hZ hown hEL CR6.1 (hw _ (List.mem_of_getElem? (i := 22) rfl)) wS (by assumption) e5 (hb hby d4_18) (by decide) (by decide) ?_
  intro s7 b7 T7 h7 vm7 kk7 X7 e7 E7 hS7 hk7 hZ hown Ex7 Fc7 Fv7 Vb7 CRc7 Sfl7
  have CR8 := CHr.trans CR6 CRc7
  have Sf8_a1 := CHr.safe CRc7 ((E_a1.ext E2).wr W5).lt Sf6_a1
  have nl7_a1 := Sfl7 _ Sf8_a1
  show ORunF p e below _ T7 (mkF m 20 #[.val (.ref a1), .val (.ref b1), .val (.int (0 : Int32)), .val (.int (0 : Int32)), .val .null, .unset] [(.ref s7), (.ref a1)])
  obtain ⟨T9, X9, e9, st9⟩ := getF X7 hx hZ hown (host := "") (Or.inl (hw _ (List.mem_of_getElem? (i := 29) rfl))) Via.refl e7 Fc7 (g := (mkF m 20 #[.val (.ref a1), .val (.ref b1), .val (.int (0 : Int32)), .val (.int (0 : Int32)), .val .null, .unset] [(.ref s7), (.ref a1)])) rfl rfl (hb hby d4_20)
  refine own_by st9 ?_
  show ORunF p e below _ T9 (mkF m 23 #[.val (.ref a1), .val (.ref b1), .val (.int (0 : Int32)), .val (.int (0 : Int32)), .val .null, .unset] [(.int (0 : Int32)), (.ref a1)])
  obtain ⟨T10, h10, X10, e10, W10, st10⟩ := putFN X9 hx hZ hown (hw _ (List.mem_of_getElem? (i := 29) rfl)) Via.refl e9 (((Fc_a1.ext E2).other W5 (Or.inr (slot_ne (Or.inr (hw _ (List.mem_of_getElem? (i := 25) rfl))) (Or.inr (hw _ (List.mem_of_getElem? (i := 24) rfl))) (by decide) (t := .byte) (t' := (.array .byte)) (by decide) (by decide)))).ext E7) (((E_a1.ext E2).wr W5).ext E7) (Or.inr ⟨(hw _ (List.mem_of_getElem? (i := 25) rfl)), rfl, hnm⟩) (hw _ (List.mem_of_getElem? (i := 9) rfl)) (ty := .byte) (v' := (.int (nar .byte (0 : Int32)))) (by decide) rfl (fits_nar_byte _) (g := (mkF m 23 #[.val (.ref a1), .val (.ref b1), .val (.int (0 : Int32)), .val (.int (0 : Int32)), .val .null, .unset] [(.int (0 : Int32)), (.ref a1)])) rfl rfl (hb hby d4_23)
  have Fw10 := Fld.same W10 (((Fc_a1.ext E2).other W5 (Or.inr (slot_ne (Or.inr (hw _ (List.mem_of_getElem? (i := 25) rfl))) (Or.inr (hw _ (List.mem_of_getElem? (i := 24) rfl))) (by decide) (t := .byte) (t' := (.array .byte)) (by decide) (by decide)))).ext E7)
  have N10 := Fr.snoc X10 N5 g_a1
  have CR11 := CHr.trans CR8 (CHr.wr W10 Sf8_a1 CR8.1)
  have hk11 := Nat.le_trans hk7 (Keep.of_wr W10).1
  have Sf11_a1 := Safe.wr W10 Sf8_a1 CR8.1 Sf8_a1
  refine own_by st10 ?_
  show ORunF p e below _ T10 (mkF m 26 #[.val (.ref a1), .val (.ref b1), .val (.int (0 : Int32)), .val (.int (0 : Int32)), .val .null, .unset] [])
  refine own_retVc X10 hx hS7 (by rw [e10]; exact hk11) hZ hEL (by rw [e10]; exact CR11) hret hlk (hb hby d4_26) (by decide) (by decide) ?_
  rw [e10]
  exact ⟨rfl, N10, (((((Keep.refl h0 [a1]).ext E2).wr W5 (Or.inl (List.mem_of_getElem? (i := 0) rfl))).ext E7).wr W10 (Or.inl (List.mem_of_getElem? (i := 0) rfl))), ((((E_a1.ext E2).wr W5).ext E7).wr W10), Fw10, b2, ((Fw5.ext E7).other W10 (Or.inr (slot_ne (Or.inr (hw _ (List.mem_of_getElem? (i := 24) rfl))) (Or.inr (hw _ (List.mem_of_getElem? (i := 25) rfl))) (by decide) (t := (.array .byte)) (t' := .byte) (by decide) (by decide)))), (((Vb2.other W5 (Ne.symm nl2_a1.2)).ext E7).other W10 (Ne.symm nl2_a1.2)), fun y hy => nomatch hy⟩
theorem d3_0 : decode jdk_42_method_3_code 0 = .ok (.aload_n 0, 1) := by decide +kernel
theorem d3_1 : decode jdk_42_method_3_code 1 = .ok (.aload_n 1, 1) := by decide +kernel
theorem d3_2 : decode jdk_42_method_3_code 2 = .ok (.iconst 0, 1) := by decide +kernel
theorem d3_3 : decode jdk_42_method_3_code 3 = .ok (.aload_n 1, 1) := by decide +kernel
theorem d3_4 : decode jdk_42_method_3_code 4 = .ok (.arraylength, 1) := by decide +kernel
theorem d3_5 : decode jdk_42_method_3_code 5 = .ok (.aconst_null, 1) := by decide +kernel
theorem d3_6 : decode jdk_42_method_3_code 6 = .ok (.invokespecial 27, 3) := by decide +kernel
theorem d3_9 : decode jdk_42_method_3_code 9 = .ok (.return_, 1) := by decide +kernel
theorem pn_rm3 : plainName "java/lang/String" = true := by first | (simp [plainName, overriddenIn]; done) | decide +kernel
theorem ef_rm3 (m : MethodId) (x0 : Addr) (x1 : Addr) : entryFrame m #[(.ref x0), (.ref x1)] 2 = mkF m 0 #[.val (.ref x0), .val (.ref x1)] [] := by first | (simp [entryFrame, mkF, argsToLocals, Value.category]; done) | rfl
set_option maxRecDepth 65536 in
set_option maxHeartbeats 40000000 in
theorem rm3 (l : Launch) (Z : State) (a0 : Array Value) (hw : ∀ d ∈ tables_1, d.before a0 Z = true) (ws : List Jvm.Cond) (h0 : Heap) (n0 : Nat) (Z0 : n0 ≤ h0.size) (EL : List (String × Nat)) (hEL : EW Z a0 EL) (wS : ∀ a ∈ Bundle.stringAtoms, a.before a0 Z = true) (hm1 : ("java/lang/String", 7) ∈ EL) (hm2 : ("java/lang/StringLatin1", 151) ∈ EL) (a1 b1 : Addr) (g_a1 : n0 ≤ a1) (E_a1 : Exa Z h0 a1 "java/lang/String") (Fc_a1 : Fld Z h0 a1 "java/lang/String" "coder" "B" (.int 0)) (Fv_a1 : Fld Z h0 a1 "java/lang/String" "value" "[B" .null) (V_b1 : OVec Z h0 b1 .char []) :
    OMetH l (⟨"java/lang/String", "<init>", "([C)V"⟩ : MethodName) jdk_42_method_3_code 2 none ws ({ frames := 2, cells := 4, slots := 8, locals := 50 } : Room) #[(.ref a1), (.ref b1)] Z EL h0 (QStr Z h0 n0 a1 []) := by
  refine own_metH (plainFor_of_name pn_rm3) ?_
  intro p e s m below meth c s₁ X0 hx hby hml hown hnm hret hlk hZ e0 hs0 hS0 CR0
  rw [ef_rm3]
  have N0 := Fr.nil n0
  have hk0 : 0 ≤ h0.size := Nat.zero_le _
  have Sx : Safe Z EL s.vm h0 a1 := own_safe0 hZ.alike E_a1 Fv_a1
  show ORunF p e below _ s₁ (mkF m 0 #[.val (.ref a1), .val (.ref b1)] [])
  refine own_by (fun t k => XS.aloadN X0.here hx rfl (hb hby d3_0) rfl rfl k) ?_
  show ORunF p e below _ s₁ (mkF m 1 #[.val (.ref a1), .val (.ref b1)] [(.ref a1)])
  refine own_by (fun t k => XS.aloadN X0.here hx rfl (hb hby d3_1) rfl rfl k) ?_
  show ORunF p e below _ s₁ (mkF m 2 #[.val (.ref a1), .val (.ref b1)] [(.ref b1), (.ref a1)])
  refine own_by (fun t k => XS.iconst X0.here hx rfl (hb hby d3_2) k) ?_
  show ORunF p e below _ s₁ (mkF m 3 #[.val (.ref a1), .val (.ref b1)] [(.int (0 : Int32)), (.ref b1), (.ref a1)])
  refine own_by (fun t k => XS.aloadN X0.here hx rfl (hb hby d3_3) rfl rfl k) ?_
  show ORunF p e below _ s₁ (mkF m 4 #[.val (.ref a1), .val (.ref b1)] [(.ref b1), (.int (0 : Int32)), (.ref b1), (.ref a1)])
  refine own_len X0 hx hZ e0 V_b1 (n := 0) (rfl : ([] : List Int32).length = 0) (hb hby d3_4) ?_
  show ORunF p e below _ s₁ (mkF m 5 #[.val (.ref a1), .val (.ref b1)] [(.int (0 : Int32)), (.int (0 : Int32)), (.ref b1), (.ref a1)])
  refine own_by (fun t k => XS.aconstNull X0.here hx rfl (hb hby d3_5) k) ?_
  show ORunF p e below _ s₁ (mkF m 6 #[.val (.ref a1), .val (.ref b1)] [.null, (.int (0 : Int32)), (.int (0 : Int32)), (.ref b1), (.ref a1)])
  refine own_callCH X0 hx hS0 hk0 hZ hown hEL CR0.1 rfl (hw _ (List.mem_of_getElem? (i := 15) rfl)) (hw _ (List.mem_of_getElem? (i := 16) rfl)) (hw _ (List.mem_of_getElem? (i := 10) rfl)) (hw _ (List.mem_of_getElem? (i := 18) rfl)) (by decide) (rm4 l Z a0 hw [] h0 n0 Z0 EL hEL wS hm1 hm2 a1 b1 g_a1 E_a1 Fc_a1 Fv_a1 V_b1) e0 (by decide) (W := 0) (by decide) (by decide) (by decide) (b := a1) (argsL := [(.ref b1), (.int (0 : Int32)), (.int (0 : Int32)), .null]) (rest := []) (by rw [hml]; rfl) (lenOf pd_13 rfl) rfl rfl (Nat.le_of_eq rfl) (hb hby d3_6) ?_
  intro T1 L1 u1 vm1 kk1 X1 hS1 hk1 hZ hown CRc1 hQ1
  obtain ⟨rfl, Nq1, K1, Os1⟩ := hQ1
  have N1 := Fr.app N0 Nq1
  have CR2 := CHr.trans CR0 CRc1
  have Sf2_a1 := CHr.safe CRc1 E_a1.lt Sx
  show ORunF p e below _ T1 (mkF m 9 #[.val (.ref a1), .val (.ref b1)] [])
  refine own_retVc X1 hx hS1 hk1 hZ hEL CR2 hret hlk (hb hby d3_9) (by decide) (by decide) ?_
  exact ⟨rfl, N1, ((Keep.refl h0 [a1]).trans K1 (allS (Or.inl (List.mem_of_getElem? (i := 0) rfl)) all0)), Os1⟩
theorem d1_0 : decode method_2_code 0 = .ok (.iload_n 0, 1) := by decide +kernel
theorem d1_1 : decode method_2_code 1 = .ok (.iconst 3, 1) := by decide +kernel
theorem d1_2 : decode method_2_code 2 = .ok (.iand, 1) := by decide +kernel
theorem d1_3 : decode method_2_code 3 = .ok (.ifCond .ne 6, 3) := by decide +kernel
theorem d1_6 : decode method_2_code 6 = .ok (.bipush 58, 2) := by decide +kernel
theorem d1_8 : decode method_2_code 8 = .ok (.ireturn, 1) := by decide +kernel
theorem d1_9 : decode method_2_code 9 = .ok (.iload_n 0, 1) := by decide +kernel
theorem d1_10 : decode method_2_code 10 = .ok (.iconst 2, 1) := by decide +kernel
theorem d1_11 : decode method_2_code 11 = .ok (.iushr, 1) := by decide +kernel
theorem d1_12 : decode method_2_code 12 = .ok (.sipush 255, 3) := by decide +kernel
theorem d1_15 : decode method_2_code 15 = .ok (.iand, 1) := by decide +kernel
theorem d1_16 : decode method_2_code 16 = .ok (.i2c, 1) := by decide +kernel
theorem d1_17 : decode method_2_code 17 = .ok (.ireturn, 1) := by decide +kernel
theorem pn_rm1 : plainName "com/example/fondsworks/fondsworks/FindingAidFondsKeyInPinLaw" = true := by first | (simp [plainName, overriddenIn]; done) | decide +kernel
theorem ef_rm1 (m : MethodId) (x0 : Int32) : entryFrame m #[(.int x0)] 1 = mkF m 0 #[.val (.int x0)] [] := by first | (simp [entryFrame, mkF, argsToLocals, Value.category]; done) | rfl
set_option maxRecDepth 65536 in
set_option maxHeartbeats 40000000 in
theorem rm1 (l : Launch) (Z : State) (a0 : Array Value) (hw : ∀ d ∈ tables_1, d.before a0 Z = true) (ws : List Jvm.Cond) (h0 : Heap) (n0 : Nat) (Z0 : n0 ≤ h0.size) (p1 : Int32) :
    OMet l (⟨"com/example/fondsworks/fondsworks/FindingAidFondsKeyInPinLaw", "drawn", "(I)C"⟩ : MethodName) method_2_code 1 (some .char) ws ({ frames := 0, cells := 0, slots := 0, locals := 0 } : Room) #[(.int p1)] Z h0 (fun v h L' => ∃ r : Int32, v = some (.int r) ∧ (0 ≤ r.toInt ∧ r.toInt < 256) ∧ Fr n0 L' ∧ h = h0) := by
  refine own_met (plainFor_of_name pn_rm1) ?_
  intro p e s m below meth c s₁ X0 hx hby hml hown hnm hret hlk hZ e0
  rw [ef_rm1]
  have N0 := Fr.nil n0
  have rg_p1 := rng32 p1
  show ORunF p e below _ s₁ (mkF m 0 #[.val (.int p1)] [])
  refine own_by (fun t k => XS.iloadN X0.here hx rfl (hb hby d1_0) rfl k) ?_
  show ORunF p e below _ s₁ (mkF m 1 #[.val (.int p1)] [(.int p1)])
  refine own_by (fun t k => XS.iconst X0.here hx rfl (hb hby d1_1) k) ?_
  show ORunF p e below _ s₁ (mkF m 2 #[.val (.int p1)] [(.int (3 : Int32)), (.int p1)])
  refine own_by (fun t k => XS.iand X0.here hx rfl (hb hby d1_2) rfl k) (own_letI (f := (fun z => (mkF m 3 #[.val (.int p1)] [(.int z)]))) (p1 &&& (3 : Int32)) fun v1 hv1 => ?_)
  show ORunF p e below _ s₁ (mkF m 3 #[.val (.int p1)] [(.int v1)])
  have a1a : v1.toInt = p1.toInt % 4 := by rw [hv1]; exact c_mask p1 (3 : Int32) 2 (by decide) (by decide)
  have r1 := rng32 v1
  by_cases hc2 : v1 = (0 : Int32)
  · have t2 := own_eq hc2 (a := v1.toInt) (b := 0) rfl (by decide)
    refine own_by (fun t k => XS.ifNo X0.here hx rfl (hb hby d1_3) rfl ((if0 _ _).trans (teq hc2).2) k) ?_
    show ORunF p e below _ s₁ (mkF m 6 #[.val (.int p1)] [])
    refine own_by (fun t k => XS.bipush X0.here hx rfl (hb hby d1_6) k) ?_
    show ORunF p e below _ s₁ (mkF m 8 #[.val (.int p1)] [(.int (58 : Int32))])
    refine own_retN X0 hx (t := .char) hret (by simp) hlk (hb hby d1_8) (by decide) (by decide) ?_
    have tz : ((58 : Int32)).toInt = 58 := by decide
    refine ⟨_, rfl, ?_, N0, e0⟩
    rw [own_narC (by omega) (by omega)]
    omega
  · have t2 := own_ne hc2 (a := v1.toInt) (b := 0) rfl (by decide)
    refine own_by (fun t k => XS.ifYes X0.here hx rfl (pc0 := 3) (pc' := 9) rfl (hb hby d1_3) rfl ((if0 _ _).trans (feq hc2).2) (by decide) (by decide) k) ?_
    show ORunF p e below _ s₁ (mkF m 9 #[.val (.int p1)] [])
    refine own_by (fun t k => XS.iloadN X0.here hx rfl (hb hby d1_9) rfl k) ?_
    show ORunF p e below _ s₁ (mkF m 10 #[.val (.int p1)] [(.int p1)])
    refine own_by (fun t k => XS.iconst X0.here hx rfl (hb hby d1_10) k) ?_
    show ORunF p e below _ s₁ (mkF m 11 #[.val (.int p1)] [(.int (2 : Int32)), (.int p1)])
    refine own_by (fun t k => XS.iushr X0.here hx rfl (hb hby d1_11) rfl k) (own_letI (f := (fun z => (mkF m 12 #[.val (.int p1)] [(.int z)]))) ((p1.toUInt32 >>> ((2 : Int32) &&& 31).toUInt32).toInt32) fun v3 hv3 => ?_)
    show ORunF p e below _ s₁ (mkF m 12 #[.val (.int p1)] [(.int v3)])
    have a3a : v3.toInt = (p1.toInt % 4294967296) / 4 := by rw [hv3]; exact c_iushr p1 (2 : Int32) 2 (by decide) (by decide)
    have r3 := rng32 v3
    refine own_by (fun t k => XS.sipush X0.here hx rfl (hb hby d1_12) k) ?_
    show ORunF p e below _ s₁ (mkF m 15 #[.val (.int p1)] [(.int (255 : Int32)), (.int v3)])
    refine own_by (fun t k => XS.iand X0.here hx rfl (hb hby d1_15) rfl k) (own_letI (f := (fun z => (mkF m 16 #[.val (.int p1)] [(.int z)]))) (v3 &&& (255 : Int32)) fun v4 hv4 => ?_)
    show ORunF p e below _ s₁ (mkF m 16 #[.val (.int p1)] [(.int v4)])
    have a4a : v4.toInt = v3.toInt % 256 := by rw [hv4]; exact c_mask v3 (255 : Int32) 8 (by decide) (by decide)
    have r4 := rng32 v4
    refine own_by (fun t k => XS.i2c X0.here hx rfl (hb hby d1_16) rfl k) (own_letI (f := (fun z => (mkF m 17 #[.val (.int p1)] [(.int z)]))) (v4.toUInt32.toUInt16.toUInt32.toInt32) fun v5 hv5 => ?_)
    show ORunF p e below _ s₁ (mkF m 17 #[.val (.int p1)] [(.int v5)])
    have a5a : (v5.toInt - v4.toInt) % 65536 = 0 ∧ 0 ≤ v5.toInt ∧ v5.toInt < 65536 := by rw [hv5]; exact c_i2c v4
    have r5 := rng32 v5
    refine own_retN X0 hx (t := .char) hret (by simp) hlk (hb hby d1_17) (by decide) (by decide) ?_
    refine ⟨_, rfl, ?_, N0, e0⟩
    rw [own_narC (by omega) (by omega)]
    omega
theorem d2_0 : decode method_3_code 0 = .ok (.iload_n 0, 1) := by decide +kernel
theorem d2_1 : decode method_3_code 1 = .ok (.ifCond .ne 14, 3) := by decide +kernel
theorem d2_4 : decode method_3_code 4 = .ok (.new 7, 3) := by decide +kernel
theorem d2_7 : decode method_3_code 7 = .ok (.dup, 1) := by decide +kernel
theorem d2_8 : decode method_3_code 8 = .ok (.iconst 0, 1) := by decide +kernel
theorem d2_9 : decode method_3_code 9 = .ok (.newarray .char, 2) := by decide +kernel
theorem d2_11 : decode method_3_code 11 = .ok (.invokespecial 9, 3) := by decide +kernel
theorem d2_14 : decode method_3_code 14 = .ok (.areturn, 1) := by decide +kernel
theorem d2_15 : decode method_3_code 15 = .ok (.iload_n 0, 1) := by decide +kernel
theorem d2_16 : decode method_3_code 16 = .ok (.iconst 1, 1) := by decide +kernel
theorem d2_17 : decode method_3_code 17 = .ok (.if_icmp .ne 18, 3) := by decide +kernel
theorem d2_20 : decode method_3_code 20 = .ok (.new 7, 3) := by decide +kernel
theorem d2_23 : decode method_3_code 23 = .ok (.dup, 1) := by decide +kernel
theorem d2_24 : decode method_3_code 24 = .ok (.iconst 1, 1) := by decide +kernel
theorem d2_25 : decode method_3_code 25 = .ok (.newarray .char, 2) := by decide +kernel
theorem d2_27 : decode method_3_code 27 = .ok (.dup, 1) := by decide +kernel
theorem d2_28 : decode method_3_code 28 = .ok (.iconst 0, 1) := by decide +kernel
theorem d2_29 : decode method_3_code 29 = .ok (.iload_n 1, 1) := by decide +kernel
theorem d2_30 : decode method_3_code 30 = .ok (.castore, 1) := by decide +kernel
theorem d2_31 : decode method_3_code 31 = .ok (.invokespecial 9, 3) := by decide +kernel
theorem d2_34 : decode method_3_code 34 = .ok (.areturn, 1) := by decide +kernel
theorem d2_35 : decode method_3_code 35 = .ok (.iload_n 0, 1) := by decide +kernel
theorem d2_36 : decode method_3_code 36 = .ok (.iconst 2, 1) := by decide +kernel
theorem d2_37 : decode method_3_code 37 = .ok (.if_icmp .ne 22, 3) := by decide +kernel
theorem d2_40 : decode method_3_code 40 = .ok (.new 7, 3) := by decide +kernel
theorem d2_43 : decode method_3_code 43 = .ok (.dup, 1) := by decide +kernel
theorem d2_44 : decode method_3_code 44 = .ok (.iconst 2, 1) := by decide +kernel
theorem d2_45 : decode method_3_code 45 = .ok (.newarray .char, 2) := by decide +kernel
theorem d2_47 : decode method_3_code 47 = .ok (.dup, 1) := by decide +kernel
theorem d2_48 : decode method_3_code 48 = .ok (.iconst 0, 1) := by decide +kernel
theorem d2_49 : decode method_3_code 49 = .ok (.iload_n 1, 1) := by decide +kernel
theorem d2_50 : decode method_3_code 50 = .ok (.castore, 1) := by decide +kernel
theorem d2_51 : decode method_3_code 51 = .ok (.dup, 1) := by decide +kernel
theorem d2_52 : decode method_3_code 52 = .ok (.iconst 1, 1) := by decide +kernel
theorem d2_53 : decode method_3_code 53 = .ok (.iload_n 2, 1) := by decide +kernel
theorem d2_54 : decode method_3_code 54 = .ok (.castore, 1) := by decide +kernel
theorem d2_55 : decode method_3_code 55 = .ok (.invokespecial 9, 3) := by decide +kernel
theorem d2_58 : decode method_3_code 58 = .ok (.areturn, 1) := by decide +kernel
theorem d2_59 : decode method_3_code 59 = .ok (.iload_n 0, 1) := by decide +kernel
theorem d2_60 : decode method_3_code 60 = .ok (.iconst 3, 1) := by decide +kernel
theorem d2_61 : decode method_3_code 61 = .ok (.if_icmp .ne 26, 3) := by decide +kernel
theorem d2_64 : decode method_3_code 64 = .ok (.new 7, 3) := by decide +kernel
theorem d2_67 : decode method_3_code 67 = .ok (.dup, 1) := by decide +kernel
theorem d2_68 : decode method_3_code 68 = .ok (.iconst 3, 1) := by decide +kernel
theorem d2_69 : decode method_3_code 69 = .ok (.newarray .char, 2) := by decide +kernel
theorem d2_71 : decode method_3_code 71 = .ok (.dup, 1) := by decide +kernel
theorem d2_72 : decode method_3_code 72 = .ok (.iconst 0, 1) := by decide +kernel
theorem d2_73 : decode method_3_code 73 = .ok (.iload_n 1, 1) := by decide +kernel
theorem d2_74 : decode method_3_code 74 = .ok (.castore, 1) := by decide +kernel
theorem d2_75 : decode method_3_code 75 = .ok (.dup, 1) := by decide +kernel
theorem d2_76 : decode method_3_code 76 = .ok (.iconst 1, 1) := by decide +kernel
theorem d2_77 : decode method_3_code 77 = .ok (.iload_n 2, 1) := by decide +kernel
theorem d2_78 : decode method_3_code 78 = .ok (.castore, 1) := by decide +kernel
theorem d2_79 : decode method_3_code 79 = .ok (.dup, 1) := by decide +kernel
theorem d2_80 : decode method_3_code 80 = .ok (.iconst 2, 1) := by decide +kernel
theorem d2_81 : decode method_3_code 81 = .ok (.iload_n 3, 1) := by decide +kernel
theorem d2_82 : decode method_3_code 82 = .ok (.castore, 1) := by decide +kernel
theorem d2_83 : decode method_3_code 83 = .ok (.invokespecial 9, 3) := by decide +kernel
theorem d2_86 : decode method_3_code 86 = .ok (.areturn, 1) := by decide +kernel
theorem d2_87 : decode method_3_code 87 = .ok (.new 7, 3) := by decide +kernel
theorem d2_90 : decode method_3_code 90 = .ok (.dup, 1) := by decide +kernel
theorem d2_91 : decode method_3_code 91 = .ok (.iconst 4, 1) := by decide +kernel
theorem d2_92 : decode method_3_code 92 = .ok (.newarray .char, 2) := by decide +kernel
theorem d2_94 : decode method_3_code 94 = .ok (.dup, 1) := by decide +kernel
theorem d2_95 : decode method_3_code 95 = .ok (.iconst 0, 1) := by decide +kernel
theorem d2_96 : decode method_3_code 96 = .ok (.iload_n 1, 1) := by decide +kernel
theorem d2_97 : decode method_3_code 97 = .ok (.castore, 1) := by decide +kernel
theorem d2_98 : decode method_3_code 98 = .ok (.dup, 1) := by decide +kernel
theorem d2_99 : decode method_3_code 99 = .ok (.iconst 1, 1) := by decide +kernel
theorem d2_100 : decode method_3_code 100 = .ok (.iload_n 2, 1) := by decide +kernel
theorem d2_101 : decode method_3_code 101 = .ok (.castore, 1) := by decide +kernel
theorem d2_102 : decode method_3_code 102 = .ok (.dup, 1) := by decide +kernel
theorem d2_103 : decode method_3_code 103 = .ok (.iconst 2, 1) := by decide +kernel
theorem d2_104 : decode method_3_code 104 = .ok (.iload_n 3, 1) := by decide +kernel
theorem d2_105 : decode method_3_code 105 = .ok (.castore, 1) := by decide +kernel
theorem d2_106 : decode method_3_code 106 = .ok (.dup, 1) := by decide +kernel
theorem d2_107 : decode method_3_code 107 = .ok (.iconst 3, 1) := by decide +kernel
theorem d2_108 : decode method_3_code 108 = .ok (.iload 4, 2) := by decide +kernel
theorem d2_110 : decode method_3_code 110 = .ok (.castore, 1) := by decide +kernel
theorem d2_111 : decode method_3_code 111 = .ok (.invokespecial 9, 3) := by decide +kernel
theorem d2_114 : decode method_3_code 114 = .ok (.areturn, 1) := by decide +kernel
theorem pn_rm2 : plainName "com/example/fondsworks/fondsworks/FindingAidFondsKeyInPinLaw" = true := by first | (simp [plainName, overriddenIn]; done) | decide +kernel
theorem ef_rm2 (m : MethodId) (x0 : Int32) (x1 : Int32) (x2 : Int32) (x3 : Int32) (x4 : Int32) : entryFrame m #[(.int x0), (.int x1), (.int x2), (.int x3), (.int x4)] 5 = mkF m 0 #[.val (.int x0), .val (.int x1), .val (.int x2), .val (.int x3), .val (.int x4)] [] := by first | (simp [entryFrame, mkF, argsToLocals, Value.category]; done) | rfl
set_option maxRecDepth 65536 in
set_option maxHeartbeats 40000000 in
theorem rm2 (l : Launch) (Z : State) (a0 : Array Value) (hw : ∀ d ∈ tables_1, d.before a0 Z = true) (ws : List Jvm.Cond) (h0 : Heap) (n0 : Nat) (Z0 : n0 ≤ h0.size) (EL : List (String × Nat)) (hEL : EW Z a0 EL) (wS : ∀ a ∈ Bundle.stringAtoms, a.before a0 Z = true) (hm1 : ("java/lang/String", 7) ∈ EL) (hm2 : ("java/lang/StringLatin1", 151) ∈ EL) (p1 p2 p3 p4 p5 : Int32) (z : Int32) (hz : ¬ z = 0) (Sc : Sta Z h0 "java/lang/String" "COMPACT_STRINGS" "Z" (.int z)) (hn : 0 ≤ p1.toInt ∧ p1.toInt ≤ 4) (hp2 : 0 ≤ p2.toInt ∧ p2.toInt < 256) (hp3 : 0 ≤ p3.toInt ∧ p3.toInt < 256) (hp4 : 0 ≤ p4.toInt ∧ p4.toInt < 256) (hp5 : 0 ≤ p5.toInt ∧ p5.toInt < 256) :
    OMetH l (⟨"com/example/fondsworks/fondsworks/FindingAidFondsKeyInPinLaw", "str", "(ICCCC)Ljava/lang/String;"⟩ : MethodName) method_3_code 5 (some (.object "java/lang/String")) ws ({ frames := 4, cells := 6, slots := 16, locals := 110 } : Room) #[(.int p1), (.int p2), (.int p3), (.int p4), (.int p5)] Z EL h0 (fun v h L' => ∃ x : Addr, v = some (.ref x) ∧ Fr n0 L' ∧ Keep h0 h [] ∧ h0.size ≤ x ∧ OStr Z h x (([p2, p3, p4, p5].take p1.toInt.toNat).map own_bt)) := by
  refine own_metH (plainFor_of_name pn_rm2) ?_
  intro p e s m below meth c s₁ X0 hx hby hml hown hnm hret hlk hZ e0 hs0 hS0 CR0
  rw [ef_rm2]
  have N0 := Fr.nil n0
  have hk0 : 0 ≤ h0.size := Nat.zero_le _
  have rg_p1 := rng32 p1
  have rg_p2 := rng32 p2
  have rg_p3 := rng32 p3
  have rg_p4 := rng32 p4
  have rg_p5 := rng32 p5
  have hws : ∀ d ∈ StrChars.Road.words, d.before a0 Z = true := fun d hd => hw d ((by decide +kernel : ∀ d ∈ StrChars.Road.words, d ∈ tables_1) d hd)
  show ORunF p e below _ s₁ (mkF m 0 #[.val (.int p1), .val (.int p2), .val (.int p3), .val (.int p4), .val (.int p5)] [])
  refine own_by (fun t k => XS.iloadN X0.here hx rfl (hb hby d2_0) rfl k) ?_
  show ORunF p e below _ s₁ (mkF m 1 #[.val (.int p1), .val (.int p2), .val (.int p3), .val (.int p4), .val (.int p5)] [(.int p1)])
  by_cases hc1 : p1 = (0 : Int32)
  · have t1 := own_eq hc1 (a := p1.toInt) (b := 0) rfl (by decide)
    refine own_by (fun t k => XS.ifNo X0.here hx rfl (hb hby d2_1) rfl ((if0 _ _).trans (teq hc1).2) k) ?_
    show ORunF p e below _ s₁ (mkF m 4 #[.val (.int p1), .val (.int p2), .val (.int p3), .val (.int p4), .val (.int p5)] [])
    obtain ⟨T2, h2, X2, e2, E2, A2, D2, -, st2⟩ := newO X0 hx hZ hown (hw _ (List.mem_of_getElem? (i := 8) rfl)) (hw _ (List.mem_of_getElem? (i := 9) rfl)) (hw _ (List.mem_of_getElem? (i := 10) rfl)) e0 (g := (mkF m 4 #[.val (.int p1), .val (.int p2), .val (.int p3), .val (.int p4), .val (.int p5)] [])) rfl (hb hby d2_4) (by decide) (by decide)
    obtain ⟨b2, g2⟩ : ∃ z, z = h0.size := ⟨_, rfl⟩
    rw [← g2] at A2 D2 st2
    have old_b2 : n0 ≤ b2 := Nat.le_trans Z0 (Nat.le_of_eq g2.symm)
    have sz_b2 : h0.size ≤ b2 := Nat.le_trans (Nat.le_refl h0.size) (Nat.le_of_eq g2.symm)
    have Sb_b2 := Safe.ext E2 CR0.1 (Safe.new (Nat.le_of_eq g2.symm))
    have CR3 := CHr.trans CR0 (CHr.ext E2 CR0.1)
    have hk3 := Nat.le_trans hk0 E2.1
    have F2_24 : Fld Z h2 b2 "java/lang/String" "value" "[B" .null := D2 (Or.inr (hw _ (List.mem_of_getElem? (i := 24) rfl))) (ty := (.array .byte)) (by decide)
    have F2_25 : Fld Z h2 b2 "java/lang/String" "coder" "B" (.int (0 : Int32)) := D2 (Or.inr (hw _ (List.mem_of_getElem? (i := 25) rfl))) (ty := .byte) (by decide)
    refine own_by st2 ?_
    show ORunF p e below _ T2 (mkF m 7 #[.val (.int p1), .val (.int p2), .val (.int p3), .val (.int p4), .val (.int p5)] [(.ref b2)])
    refine own_by (fun t k => XS.dup X2.here hx rfl (hb hby d2_7) rfl rfl k) ?_
    show ORunF p e below _ T2 (mkF m 8 #[.val (.int p1), .val (.int p2), .val (.int p3), .val (.int p4), .val (.int p5)] [(.ref b2), (.ref b2)])
    refine own_by (fun t k => XS.iconst X2.here hx rfl (hb hby d2_8) k) ?_
    show ORunF p e below _ T2 (mkF m 9 #[.val (.int p1), .val (.int p2), .val (.int p3), .val (.int p4), .val (.int p5)] [(.int (0 : Int32)), (.ref b2), (.ref b2)])
    refine own_newarray X2 hx hZ (aty := .char) (hw _ (List.mem_of_getElem? (i := 11) rfl)) e2 rfl (N := 0) (cap := 0) (by decide) (Nat.le_refl _) (by decide) (by decide) (by decide) (ad := "[C") (by decide) (hb hby d2_9) ?_
    intro T4 h4 b4 L4 g4 X4 e4 E4 hL4 V4 Ex4
    have len4 : L4.length = 0 := by rw [hL4]; exact List.length_replicate
    have old_b4 : n0 ≤ b4 := Nat.le_trans (Nat.le_trans Z0 E2.1) (Nat.le_of_eq g4.symm)
    have sz_b4 : h0.size ≤ b4 := Nat.le_trans (Nat.le_trans (Nat.le_refl h0.size) E2.1) (Nat.le_of_eq g4.symm)
    have ne_b2_b4 : b2 ≠ b4 := Nat.ne_of_lt (Nat.lt_of_lt_of_le A2.lt (Nat.le_of_eq g4.symm))
    have Sb_b4 := Safe.ext E4 CR3.1 (Safe.new (Nat.le_of_eq g4.symm))
    have CR5 := CHr.trans CR3 (CHr.ext E4 CR3.1)
    have hk5 := Nat.le_trans hk3 E4.1
    have Sf5_b2 := Safe.ext E4 CR3.1 Sb_b2
    obtain rfl : [] = L4 := hL4.symm
    show ORunF p e below _ T4 (mkF m 11 #[.val (.int p1), .val (.int p2), .val (.int p3), .val (.int p4), .val (.int p5)] [(.ref b4), (.ref b2), (.ref b2)])
    have Vx6 : OVec Z h4 b4 .char ([] : List Int32) := by
      have q := V4
      exact q
    have hp6 : ∀ c ∈ ([] : List Int32), 0 ≤ c.toInt ∧ c.toInt < 256 := fun c hc => by
      exact nomatch hc
    refine own_strC (cs := ([] : List Int32)) (rm := ({ frames := 2, cells := 4, slots := 8, locals := 50 } : Room)) (W := 1) X4 hx hS0 hk5 hZ hown hEL CR5.1 (hw _ (List.mem_of_getElem? (i := 12) rfl)) (hw _ (List.mem_of_getElem? (i := 13) rfl)) (hw _ (List.mem_of_getElem? (i := 10) rfl)) (hw _ (List.mem_of_getElem? (i := 14) rfl)) hws (kI := 4) (hw _ (List.mem_of_getElem? (i := 9) rfl)) old_b2 (Nat.le_trans (Nat.le_trans Z0 E2.1) E4.1) Sf5_b2 (A2.ext E4) (F2_24.ext E4) (F2_25.ext E4) Vx6 hp6 (by simp) ((Sc.ext E2).ext E4) hz (fun q => rm3 l Z a0 hw [] h4 n0 (Nat.le_trans (Nat.le_trans Z0 E2.1) E4.1) EL hEL wS hm1 hm2 b2 b4 old_b2 (A2.ext E4) (F2_25.ext E4) (F2_24.ext E4) (by have v := Vx6; rw [q] at v; exact v)) e4 (by decide) (by decide) (by decide) (by decide) (by decide) (by decide) rfl rfl (by rw [hml]; rfl) (fun sig hs => by rw [pd_14] at hs; cases hs; rfl) (Nat.le_of_eq rfl) (hb hby d2_11) ?_
    intro T6 L6 vm6 kk6 X6 hS6 hk6 hZ hown CRc6 Nq6 K6 Os6
    have N6 := Fr.app N0 Nq6
    have CR7 := CHr.trans CR5 CRc6
    have Sf7_b2 := CHr.safe CRc6 (A2.ext E4).lt Sf5_b2
    have Sf7_b4 := CHr.safe CRc6 Vx6.lt Sb_b4
    obtain ⟨En6, Fc6, t6, Fv6, Vt6, ft6⟩ := Os6
    show ORunF p e below _ T6 (mkF m 14 #[.val (.int p1), .val (.int p2), .val (.int p3), .val (.int p4), .val (.int p5)] [(.ref b2)])
    refine own_retAc X6 hx hS6 hk6 hZ hEL CR7 hret rfl rfl rfl hlk (hb hby d2_14) (by decide) (by decide) ?_
    have e1 : p1.toInt.toNat = 0 := by omega
    rw [e1]
    exact ⟨b2, rfl, N6, ((((Keep.refl h0 []).ext E2).ext E4).trans K6 (allS (Or.inr sz_b2) all0)), sz_b2, ⟨En6, Fc6, t6, Fv6, Vt6, ft6⟩⟩
  · have t1 := own_ne hc1 (a := p1.toInt) (b := 0) rfl (by decide)
    refine own_by (fun t k => XS.ifYes X0.here hx rfl (pc0 := 1) (pc' := 15) rfl (hb hby d2_1) rfl ((if0 _ _).trans (feq hc1).2) (by decide) (by decide) k) ?_
    show ORunF p e below _ s₁ (mkF m 15 #[.val (.int p1), .val (.int p2), .val (.int p3), .val (.int p4), .val (.int p5)] [])
    refine own_by (fun t k => XS.iloadN X0.here hx rfl (hb hby d2_15) rfl k) ?_
    show ORunF p e below _ s₁ (mkF m 16 #[.val (.int p1), .val (.int p2), .val (.int p3), .val (.int p4), .val (.int p5)] [(.int p1)])
    refine own_by (fun t k => XS.iconst X0.here hx rfl (hb hby d2_16) k) ?_
    show ORunF p e below _ s₁ (mkF m 17 #[.val (.int p1), .val (.int p2), .val (.int p3), .val (.int p4), .val (.int p5)] [(.int (1 : Int32)), (.int p1)])
    by_cases hc8 : p1 = (1 : Int32)
    · have t8 := own_eq hc8 (a := p1.toInt) (b := 1) rfl (by decide)
      refine own_by (fun t k => XS.icmpNo X0.here hx rfl (hb hby d2_17) rfl (teq hc8).2 k) ?_
      show ORunF p e below _ s₁ (mkF m 20 #[.val (.int p1), .val (.int p2), .val (.int p3), .val (.int p4), .val (.int p5)] [])
      obtain ⟨T9, h9, X9, e9, E9, A9, D9, -, st9⟩ := newO X0 hx hZ hown (hw _ (List.mem_of_getElem? (i := 8) rfl)) (hw _ (List.mem_of_getElem? (i := 9) rfl)) (hw _ (List.mem_of_getElem? (i := 10) rfl)) e0 (g := (mkF m 20 #[.val (.int p1), .val (.int p2), .val (.int p3), .val (.int p4), .val (.int p5)] [])) rfl (hb hby d2_20) (by decide) (by decide)
      obtain ⟨b9, g9⟩ : ∃ z, z = h0.size := ⟨_, rfl⟩
      rw [← g9] at A9 D9 st9
      have old_b9 : n0 ≤ b9 := Nat.le_trans Z0 (Nat.le_of_eq g9.symm)
      have sz_b9 : h0.size ≤ b9 := Nat.le_trans (Nat.le_refl h0.size) (Nat.le_of_eq g9.symm)
      have Sb_b9 := Safe.ext E9 CR0.1 (Safe.new (Nat.le_of_eq g9.symm))
      have CR10 := CHr.trans CR0 (CHr.ext E9 CR0.1)
      have hk10 := Nat.le_trans hk0 E9.1
      have F9_24 : Fld Z h9 b9 "java/lang/String" "value" "[B" .null := D9 (Or.inr (hw _ (List.mem_of_getElem? (i := 24) rfl))) (ty := (.array .byte)) (by decide)
      have F9_25 : Fld Z h9 b9 "java/lang/String" "coder" "B" (.int (0 : Int32)) := D9 (Or.inr (hw _ (List.mem_of_getElem? (i := 25) rfl))) (ty := .byte) (by decide)
      refine own_by st9 ?_
      show ORunF p e below _ T9 (mkF m 23 #[.val (.int p1), .val (.int p2), .val (.int p3), .val (.int p4), .val (.int p5)] [(.ref b9)])
      refine own_by (fun t k => XS.dup X9.here hx rfl (hb hby d2_23) rfl rfl k) ?_
      show ORunF p e below _ T9 (mkF m 24 #[.val (.int p1), .val (.int p2), .val (.int p3), .val (.int p4), .val (.int p5)] [(.ref b9), (.ref b9)])
      refine own_by (fun t k => XS.iconst X9.here hx rfl (hb hby d2_24) k) ?_
      show ORunF p e below _ T9 (mkF m 25 #[.val (.int p1), .val (.int p2), .val (.int p3), .val (.int p4), .val (.int p5)] [(.int (1 : Int32)), (.ref b9), (.ref b9)])
      refine own_newarray X9 hx hZ (aty := .char) (hw _ (List.mem_of_getElem? (i := 11) rfl)) e9 rfl (N := 1) (cap := 1) (by decide) (Nat.le_refl _) (by decide) (by decide) (by decide) (ad := "[C") (by decide) (hb hby d2_25) ?_
      intro T11 h11 b11 L11 g11 X11 e11 E11 hL11 V11 Ex11
      have len11 : L11.length = 1 := by rw [hL11]; exact List.length_replicate
      have old_b11 : n0 ≤ b11 := Nat.le_trans (Nat.le_trans Z0 E9.1) (Nat.le_of_eq g11.symm)
      have sz_b11 : h0.size ≤ b11 := Nat.le_trans (Nat.le_trans (Nat.le_refl h0.size) E9.1) (Nat.le_of_eq g11.symm)
      have ne_b9_b11 : b9 ≠ b11 := Nat.ne_of_lt (Nat.lt_of_lt_of_le A9.lt (Nat.le_of_eq g11.symm))
      have Sb_b11 := Safe.ext E11 CR10.1 (Safe.new (Nat.le_of_eq g11.symm))
      have CR12 := CHr.trans CR10 (CHr.ext E11 CR10.1)
      have hk12 := Nat.le_trans hk10 E11.1
      have Sf12_b9 := Safe.ext E11 CR10.1 Sb_b9
      obtain rfl : [(0 : Int32)] = L11 := hL11.symm
      show ORunF p e below _ T11 (mkF m 27 #[.val (.int p1), .val (.int p2), .val (.int p3), .val (.int p4), .val (.int p5)] [(.ref b11), (.ref b9), (.ref b9)])
      refine own_by (fun t k => XS.dup X11.here hx rfl (hb hby d2_27) rfl rfl k) ?_
      show ORunF p e below _ T11 (mkF m 28 #[.val (.int p1), .val (.int p2), .val (.int p3), .val (.int p4), .val (.int p5)] [(.ref b11), (.ref b11), (.ref b9), (.ref b9)])
      refine own_by (fun t k => XS.iconst X11.here hx rfl (hb hby d2_28) k) ?_
      show ORunF p e below _ T11 (mkF m 29 #[.val (.int p1), .val (.int p2), .val (.int p3), .val (.int p4), .val (.int p5)] [(.int (0 : Int32)), (.ref b11), (.ref b11), (.ref b9), (.ref b9)])
      refine own_by (fun t k => XS.iloadN X11.here hx rfl (hb hby d2_29) rfl k) ?_
      show ORunF p e below _ T11 (mkF m 30 #[.val (.int p1), .val (.int p2), .val (.int p3), .val (.int p4), .val (.int p5)] [(.int p2), (.int (0 : Int32)), (.ref b11), (.ref b11), (.ref b9), (.ref b9)])
      refine own_castore X11 hx hZ e11 V11 (i := 0) (by decide) (by omega) (hb hby d2_30) ?_
      intro T13 h13 L13 X13 e13 W13 hL13 V13
      have len13 : L13.length = 1 := by rw [hL13, List.length_set]; exact len11
      have N13 := Fr.snoc X13 N0 old_b11
      have CR14 := CHr.trans CR12 (CHr.wr W13 Sb_b11 CR12.1)
      have hk14 := Nat.le_trans hk12 (Keep.of_wr W13).1
      have Sf14_b9 := Safe.wr W13 Sb_b11 CR12.1 Sf12_b9
      have Sf14_b11 := Safe.wr W13 Sb_b11 CR12.1 Sb_b11
      obtain rfl : [(nar .char p2)] = L13 := hL13.symm
      show ORunF p e below _ T13 (mkF m 31 #[.val (.int p1), .val (.int p2), .val (.int p3), .val (.int p4), .val (.int p5)] [(.ref b11), (.ref b9), (.ref b9)])
      have Vx15 : OVec Z h13 b11 .char ([p2] : List Int32) := by
        have q := V13
        rw [own_narC hp2.1 (by omega)] at q
        exact q
      have hp15 : ∀ c ∈ ([p2] : List Int32), 0 ≤ c.toInt ∧ c.toInt < 256 := fun c hc => by
        simp only [List.mem_cons, List.not_mem_nil, or_false] at hc
        rcases hc with rfl <;> assumption
      refine own_strC (cs := ([p2] : List Int32)) (rm := ({ frames := 2, cells := 4, slots := 8, locals := 50 } : Room)) (W := 1) X13 hx hS0 hk14 hZ hown hEL CR14.1 (hw _ (List.mem_of_getElem? (i := 12) rfl)) (hw _ (List.mem_of_getElem? (i := 13) rfl)) (hw _ (List.mem_of_getElem? (i := 10) rfl)) (hw _ (List.mem_of_getElem? (i := 14) rfl)) hws (kI := 4) (hw _ (List.mem_of_getElem? (i := 9) rfl)) old_b9 (Nat.le_trans (Nat.le_trans (Nat.le_trans Z0 E9.1) E11.1) (Keep.of_wr W13).1) Sf14_b9 ((A9.ext E11).wr W13) ((F9_24.ext E11).other W13 (Or.inl ne_b9_b11)) ((F9_25.ext E11).other W13 (Or.inl ne_b9_b11)) Vx15 hp15 (by simp) (((Sc.ext E9).ext E11).wr W13) hz (fun q => rm3 l Z a0 hw [] h13 n0 (Nat.le_trans (Nat.le_trans (Nat.le_trans Z0 E9.1) E11.1) (Keep.of_wr W13).1) EL hEL wS hm1 hm2 b9 b11 old_b9 ((A9.ext E11).wr W13) ((F9_25.ext E11).other W13 (Or.inl ne_b9_b11)) ((F9_24.ext E11).other W13 (Or.inl ne_b9_b11)) (by have v := Vx15; rw [q] at v; exact v)) e13 (by decide) (by decide) (by decide) (by decide) (by decide) (by decide) rfl rfl (by rw [hml]; rfl) (fun sig hs => by rw [pd_14] at hs; cases hs; rfl) (Nat.le_of_eq rfl) (hb hby d2_31) ?_
      intro T15 L15 vm15 kk15 X15 hS15 hk15 hZ hown CRc15 Nq15 K15 Os15
      have N15 := Fr.app N13 Nq15
      have CR16 := CHr.trans CR14 CRc15
      have Sf16_b9 := CHr.safe CRc15 ((A9.ext E11).wr W13).lt Sf14_b9
      have Sf16_b11 := CHr.safe CRc15 Vx15.lt Sf14_b11
      obtain ⟨En15, Fc15, t15, Fv15, Vt15, ft15⟩ := Os15
      show ORunF p e below _ T15 (mkF m 34 #[.val (.int p1), .val (.int p2), .val (.int p3), .val (.int p4), .val (.int p5)] [(.ref b9)])
      refine own_retAc X15 hx hS15 hk15 hZ hEL CR16 hret rfl rfl rfl hlk (hb hby d2_34) (by decide) (by decide) ?_
      have e1 : p1.toInt.toNat = 1 := by omega
      rw [e1]
      exact ⟨b9, rfl, N15, (((((Keep.refl h0 []).ext E9).ext E11).wr W13 (Or.inr sz_b11)).trans K15 (allS (Or.inr sz_b9) all0)), sz_b9, ⟨En15, Fc15, t15, Fv15, Vt15, ft15⟩⟩
    · have t8 := own_ne hc8 (a := p1.toInt) (b := 1) rfl (by decide)
      refine own_by (fun t k => XS.icmpYes X0.here hx rfl (pc0 := 17) (pc' := 35) rfl (hb hby d2_17) rfl (feq hc8).2 (by decide) (by decide) k) ?_
      show ORunF p e below _ s₁ (mkF m 35 #[.val (.int p1), .val (.int p2), .val (.int p3), .val (.int p4), .val (.int p5)] [])
      refine own_by (fun t k => XS.iloadN X0.here hx rfl (hb hby d2_35) rfl k) ?_
      show ORunF p e below _ s₁ (mkF m 36 #[.val (.int p1), .val (.int p2), .val (.int p3), .val (.int p4), .val (.int p5)] [(.int p1)])
      refine own_by (fun t k => XS.iconst X0.here hx rfl (hb hby d2_36) k) ?_
      show ORunF p e below _ s₁ (mkF m 37 #[.val (.int p1), .val (.int p2), .val (.int p3), .val (.int p4), .val (.int p5)] [(.int (2 : Int32)), (.int p1)])
      by_cases hc17 : p1 = (2 : Int32)
      · have t17 := own_eq hc17 (a := p1.toInt) (b := 2) rfl (by decide)
        refine own_by (fun t k => XS.icmpNo X0.here hx rfl (hb hby d2_37) rfl (teq hc17).2 k) ?_
        show ORunF p e below _ s₁ (mkF m 40 #[.val (.int p1), .val (.int p2), .val (.int p3), .val (.int p4), .val (.int p5)] [])
        obtain ⟨T18, h18, X18, e18, E18, A18, D18, -, st18⟩ := newO X0 hx hZ hown (hw _ (List.mem_of_getElem? (i := 8) rfl)) (hw _ (List.mem_of_getElem? (i := 9) rfl)) (hw _ (List.mem_of_getElem? (i := 10) rfl)) e0 (g := (mkF m 40 #[.val (.int p1), .val (.int p2), .val (.int p3), .val (.int p4), .val (.int p5)] [])) rfl (hb hby d2_40) (by decide) (by decide)
        obtain ⟨b18, g18⟩ : ∃ z, z = h0.size := ⟨_, rfl⟩
        rw [← g18] at A18 D18 st18
        have old_b18 : n0 ≤ b18 := Nat.le_trans Z0 (Nat.le_of_eq g18.symm)
        have sz_b18 : h0.size ≤ b18 := Nat.le_trans (Nat.le_refl h0.size) (Nat.le_of_eq g18.symm)
        have Sb_b18 := Safe.ext E18 CR0.1 (Safe.new (Nat.le_of_eq g18.symm))
        have CR19 := CHr.trans CR0 (CHr.ext E18 CR0.1)
        have hk19 := Nat.le_trans hk0 E18.1
        have F18_24 : Fld Z h18 b18 "java/lang/String" "value" "[B" .null := D18 (Or.inr (hw _ (List.mem_of_getElem? (i := 24) rfl))) (ty := (.array .byte)) (by decide)
        have F18_25 : Fld Z h18 b18 "java/lang/String" "coder" "B" (.int (0 : Int32)) := D18 (Or.inr (hw _ (List.mem_of_getElem? (i := 25) rfl))) (ty := .byte) (by decide)
        refine own_by st18 ?_
        show ORunF p e below _ T18 (mkF m 43 #[.val (.int p1), .val (.int p2), .val (.int p3), .val (.int p4), .val (.int p5)] [(.ref b18)])
        refine own_by (fun t k => XS.dup X18.here hx rfl (hb hby d2_43) rfl rfl k) ?_
        show ORunF p e below _ T18 (mkF m 44 #[.val (.int p1), .val (.int p2), .val (.int p3), .val (.int p4), .val (.int p5)] [(.ref b18), (.ref b18)])
        refine own_by (fun t k => XS.iconst X18.here hx rfl (hb hby d2_44) k) ?_
        show ORunF p e below _ T18 (mkF m 45 #[.val (.int p1), .val (.int p2), .val (.int p3), .val (.int p4), .val (.int p5)] [(.int (2 : Int32)), (.ref b18), (.ref b18)])
        refine own_newarray X18 hx hZ (aty := .char) (hw _ (List.mem_of_getElem? (i := 11) rfl)) e18 rfl (N := 2) (cap := 2) (by decide) (Nat.le_refl _) (by decide) (by decide) (by decide) (ad := "[C") (by decide) (hb hby d2_45) ?_
        intro T20 h20 b20 L20 g20 X20 e20 E20 hL20 V20 Ex20
        have len20 : L20.length = 2 := by rw [hL20]; exact List.length_replicate
        have old_b20 : n0 ≤ b20 := Nat.le_trans (Nat.le_trans Z0 E18.1) (Nat.le_of_eq g20.symm)
        have sz_b20 : h0.size ≤ b20 := Nat.le_trans (Nat.le_trans (Nat.le_refl h0.size) E18.1) (Nat.le_of_eq g20.symm)
        have ne_b18_b20 : b18 ≠ b20 := Nat.ne_of_lt (Nat.lt_of_lt_of_le A18.lt (Nat.le_of_eq g20.symm))
        have Sb_b20 := Safe.ext E20 CR19.1 (Safe.new (Nat.le_of_eq g20.symm))
        have CR21 := CHr.trans CR19 (CHr.ext E20 CR19.1)
        have hk21 := Nat.le_trans hk19 E20.1
        have Sf21_b18 := Safe.ext E20 CR19.1 Sb_b18
        obtain rfl : [(0 : Int32), (0 : Int32)] = L20 := hL20.symm
        show ORunF p e below _ T20 (mkF m 47 #[.val (.int p1), .val (.int p2), .val (.int p3), .val (.int p4), .val (.int p5)] [(.ref b20), (.ref b18), (.ref b18)])
        refine own_by (fun t k => XS.dup X20.here hx rfl (hb hby d2_47) rfl rfl k) ?_
        show ORunF p e below _ T20 (mkF m 48 #[.val (.int p1), .val (.int p2), .val (.int p3), .val (.int p4), .val (.int p5)] [(.ref b20), (.ref b20), (.ref b18), (.ref b18)])
        refine own_by (fun t k => XS.iconst X20.here hx rfl (hb hby d2_48) k) ?_
        show ORunF p e below _ T20 (mkF m 49 #[.val (.int p1), .val (.int p2), .val (.int p3), .val (.int p4), .val (.int p5)] [(.int (0 : Int32)), (.ref b20), (.ref b20), (.ref b18), (.ref b18)])
        refine own_by (fun t k => XS.iloadN X20.here hx rfl (hb hby d2_49) rfl k) ?_
        show ORunF p e below _ T20 (mkF m 50 #[.val (.int p1), .val (.int p2), .val (.int p3), .val (.int p4), .val (.int p5)] [(.int p2), (.int (0 : Int32)), (.ref b20), (.ref b20), (.ref b18), (.ref b18)])
        refine own_castore X20 hx hZ e20 V20 (i := 0) (by decide) (by omega) (hb hby d2_50) ?_
        intro T22 h22 L22 X22 e22 W22 hL22 V22
        have len22 : L22.length = 2 := by rw [hL22, List.length_set]; exact len20
        have N22 := Fr.snoc X22 N0 old_b20
        have CR23 := CHr.trans CR21 (CHr.wr W22 Sb_b20 CR21.1)
        have hk23 := Nat.le_trans hk21 (Keep.of_wr W22).1
        have Sf23_b18 := Safe.wr W22 Sb_b20 CR21.1 Sf21_b18
        have Sf23_b20 := Safe.wr W22 Sb_b20 CR21.1 Sb_b20
        obtain rfl : [(nar .char p2), (0 : Int32)] = L22 := hL22.symm
        show ORunF p e below _ T22 (mkF m 51 #[.val (.int p1), .val (.int p2), .val (.int p3), .val (.int p4), .val (.int p5)] [(.ref b20), (.ref b18), (.ref b18)])
        refine own_by (fun t k => XS.dup X22.here hx rfl (hb hby d2_51) rfl rfl k) ?_
        show ORunF p e below _ T22 (mkF m 52 #[.val (.int p1), .val (.int p2), .val (.int p3), .val (.int p4), .val (.int p5)] [(.ref b20), (.ref b20), (.ref b18), (.ref b18)])
        refine own_by (fun t k => XS.iconst X22.here hx rfl (hb hby d2_52) k) ?_
        show ORunF p e below _ T22 (mkF m 53 #[.val (.int p1), .val (.int p2), .val (.int p3), .val (.int p4), .val (.int p5)] [(.int (1 : Int32)), (.ref b20), (.ref b20), (.ref b18), (.ref b18)])
        refine own_by (fun t k => XS.iloadN X22.here hx rfl (hb hby d2_53) rfl k) ?_
        show ORunF p e below _ T22 (mkF m 54 #[.val (.int p1), .val (.int p2), .val (.int p3), .val (.int p4), .val (.int p5)] [(.int p3), (.int (1 : Int32)), (.ref b20), (.ref b20), (.ref b18), (.ref b18)])
        refine own_castore X22 hx hZ e22 V22 (i := 1) (by decide) (by omega) (hb hby d2_54) ?_
        intro T24 h24 L24 X24 e24 W24 hL24 V24
        have len24 : L24.length = 2 := by rw [hL24, List.length_set]; exact len22
        have N24 := Fr.snoc X24 N22 old_b20
        have CR25 := CHr.trans CR23 (CHr.wr W24 Sf23_b20 CR23.1)
        have hk25 := Nat.le_trans hk23 (Keep.of_wr W24).1
        have Sf25_b18 := Safe.wr W24 Sf23_b20 CR23.1 Sf23_b18
        have Sf25_b20 := Safe.wr W24 Sf23_b20 CR23.1 Sf23_b20
        obtain rfl : [(nar .char p2), (nar .char p3)] = L24 := hL24.symm
        show ORunF p e below _ T24 (mkF m 55 #[.val (.int p1), .val (.int p2), .val (.int p3), .val (.int p4), .val (.int p5)] [(.ref b20), (.ref b18), (.ref b18)])
        have Vx26 : OVec Z h24 b20 .char ([p2, p3] : List Int32) := by
          have q := V24
          rw [own_narC hp2.1 (by omega), own_narC hp3.1 (by omega)] at q
          exact q
        have hp26 : ∀ c ∈ ([p2, p3] : List Int32), 0 ≤ c.toInt ∧ c.toInt < 256 := fun c hc => by
          simp only [List.mem_cons, List.not_mem_nil, or_false] at hc
          rcases hc with rfl | rfl <;> assumption
        refine own_strC (cs := ([p2, p3] : List Int32)) (rm := ({ frames := 2, cells := 4, slots := 8, locals := 50 } : Room)) (W := 1) X24 hx hS0 hk25 hZ hown hEL CR25.1 (hw _ (List.mem_of_getElem? (i := 12) rfl)) (hw _ (List.mem_of_getElem? (i := 13) rfl)) (hw _ (List.mem_of_getElem? (i := 10) rfl)) (hw _ (List.mem_of_getElem? (i := 14) rfl)) hws (kI := 4) (hw _ (List.mem_of_getElem? (i := 9) rfl)) old_b18 (Nat.le_trans (Nat.le_trans (Nat.le_trans (Nat.le_trans Z0 E18.1) E20.1) (Keep.of_wr W22).1) (Keep.of_wr W24).1) Sf25_b18 (((A18.ext E20).wr W22).wr W24) (((F18_24.ext E20).other W22 (Or.inl ne_b18_b20)).other W24 (Or.inl ne_b18_b20)) (((F18_25.ext E20).other W22 (Or.inl ne_b18_b20)).other W24 (Or.inl ne_b18_b20)) Vx26 hp26 (by simp) ((((Sc.ext E18).ext E20).wr W22).wr W24) hz (fun q => rm3 l Z a0 hw [] h24 n0 (Nat.le_trans (Nat.le_trans (Nat.le_trans (Nat.le_trans Z0 E18.1) E20.1) (Keep.of_wr W22).1) (Keep.of_wr W24).1) EL hEL wS hm1 hm2 b18 b20 old_b18 (((A18.ext E20).wr W22).wr W24) (((F18_25.ext E20).other W22 (Or.inl ne_b18_b20)).other W24 (Or.inl ne_b18_b20)) (((F18_24.ext E20).other W22 (Or.inl ne_b18_b20)).other W24 (Or.inl ne_b18_b20)) (by have v := Vx26; rw [q] at v; exact v)) e24 (by decide) (by decide) (by decide) (by decide) (by decide) (by decide) rfl rfl (by rw [hml]; rfl) (fun sig hs => by rw [pd_14] at hs; cases hs; rfl) (Nat.le_of_eq rfl) (hb hby d2_55) ?_
        intro T26 L26 vm26 kk26 X26 hS26 hk26 hZ hown CRc26 Nq26 K26 Os26
        have N26 := Fr.app N24 Nq26
        have CR27 := CHr.trans CR25 CRc26
        have Sf27_b18 := CHr.safe CRc26 (((A18.ext E20).wr W22).wr W24).lt Sf25_b18
        have Sf27_b20 := CHr.safe CRc26 Vx26.lt Sf25_b20
        obtain ⟨En26, Fc26, t26, Fv26, Vt26, ft26⟩ := Os26
        show ORunF p e below _ T26 (mkF m 58 #[.val (.int p1), .val (.int p2), .val (.int p3), .val (.int p4), .val (.int p5)] [(.ref b18)])
        refine own_retAc X26 hx hS26 hk26 hZ hEL CR27 hret rfl rfl rfl hlk (hb hby d2_58) (by decide) (by decide) ?_
        have e1 : p1.toInt.toNat = 2 := by omega
        rw [e1]
        exact ⟨b18, rfl, N26, ((((((Keep.refl h0 []).ext E18).ext E20).wr W22 (Or.inr sz_b20)).wr W24 (Or.inr sz_b20)).trans K26 (allS (Or.inr sz_b18) all0)), sz_b18, ⟨En26, Fc26, t26, Fv26, Vt26, ft26⟩⟩
      · have t17 := own_ne hc17 (a := p1.toInt) (b := 2) rfl (by decide)
        refine own_by (fun t k => XS.icmpYes X0.here hx rfl (pc0 := 37) (pc' := 59) rfl (hb hby d2_37) rfl (feq hc17).2 (by decide) (by decide) k) ?_
        show ORunF p e below _ s₁ (mkF m 59 #[.val (.int p1), .val (.int p2), .val (.int p3), .val (.int p4), .val (.int p5)] [])
        refine own_by (fun t k => XS.iloadN X0.here hx rfl (hb hby d2_59) rfl k) ?_
        show ORunF p e below _ s₁ (mkF m 60 #[.val (.int p1), .val (.int p2), .val (.int p3), .val (.int p4), .val (.int p5)] [(.int p1)])
        refine own_by (fun t k => XS.iconst X0.here hx rfl (hb hby d2_60) k) ?_
        show ORunF p e below _ s₁ (mkF m 61 #[.val (.int p1), .val (.int p2), .val (.int p3), .val (.int p4), .val (.int p5)] [(.int (3 : Int32)), (.int p1)])
        by_cases hc28 : p1 = (3 : Int32)
        · have t28 := own_eq hc28 (a := p1.toInt) (b := 3) rfl (by decide)
          refine own_by (fun t k => XS.icmpNo X0.here hx rfl (hb hby d2_61) rfl (teq hc28).2 k) ?_
          show ORunF p e below _ s₁ (mkF m 64 #[.val (.int p1), .val (.int p2), .val (.int p3), .val (.int p4), .val (.int p5)] [])
          obtain ⟨T29, h29, X29, e29, E29, A29, D29, -, st29⟩ := newO X0 hx hZ hown (hw _ (List.mem_of_getElem? (i := 8) rfl)) (hw _ (List.mem_of_getElem? (i := 9) rfl)) (hw _ (List.mem_of_getElem? (i := 10) rfl)) e0 (g := (mkF m 64 #[.val (.int p1), .val (.int p2), .val (.int p3), .val (.int p4), .val (.int p5)] [])) rfl (hb hby d2_64) (by decide) (by decide)
          obtain ⟨b29, g29⟩ : ∃ z, z = h0.size := ⟨_, rfl⟩
          rw [← g29] at A29 D29 st29
          have old_b29 : n0 ≤ b29 := Nat.le_trans Z0 (Nat.le_of_eq g29.symm)
          have sz_b29 : h0.size ≤ b29 := Nat.le_trans (Nat.le_refl h0.size) (Nat.le_of_eq g29.symm)
          have Sb_b29 := Safe.ext E29 CR0.1 (Safe.new (Nat.le_of_eq g29.symm))
          have CR30 := CHr.trans CR0 (CHr.ext E29 CR0.1)
          have hk30 := Nat.le_trans hk0 E29.1
          have F29_24 : Fld Z h29 b29 "java/lang/String" "value" "[B" .null := D29 (Or.inr (hw _ (List.mem_of_getElem? (i := 24) rfl))) (ty := (.array .byte)) (by decide)
          have F29_25 : Fld Z h29 b29 "java/lang/String" "coder" "B" (.int (0 : Int32)) := D29 (Or.inr (hw _ (List.mem_of_getElem? (i := 25) rfl))) (ty := .byte) (by decide)
          refine own_by st29 ?_
          show ORunF p e below _ T29 (mkF m 67 #[.val (.int p1), .val (.int p2), .val (.int p3), .val (.int p4), .val (.int p5)] [(.ref b29)])
          refine own_by (fun t k => XS.dup X29.here hx rfl (hb hby d2_67) rfl rfl k) ?_
          show ORunF p e below _ T29 (mkF m 68 #[.val (.int p1), .val (.int p2), .val (.int p3), .val (.int p4), .val (.int p5)] [(.ref b29), (.ref b29)])
          refine own_by (fun t k => XS.iconst X29.here hx rfl (hb hby d2_68) k) ?_
          show ORunF p e below _ T29 (mkF m 69 #[.val (.int p1), .val (.int p2), .val (.int p3), .val (.int p4), .val (.int p5)] [(.int (3 : Int32)), (.ref b29), (.ref b29)])
          refine own_newarray X29 hx hZ (aty := .char) (hw _ (List.mem_of_getElem? (i := 11) rfl)) e29 rfl (N := 3) (cap := 3) (by decide) (Nat.le_refl _) (by decide) (by decide) (by decide) (ad := "[C") (by decide) (hb hby d2_69) ?_
          intro T31 h31 b31 L31 g31 X31 e31 E31 hL31 V31 Ex31
          have len31 : L31.length = 3 := by rw [hL31]; exact List.length_replicate
          have old_b31 : n0 ≤ b31 := Nat.le_trans (Nat.le_trans Z0 E29.1) (Nat.le_of_eq g31.symm)
          have sz_b31 : h0.size ≤ b31 := Nat.le_trans (Nat.le_trans (Nat.le_refl h0.size) E29.1) (Nat.le_of_eq g31.symm)
          have ne_b29_b31 : b29 ≠ b31 := Nat.ne_of_lt (Nat.lt_of_lt_of_le A29.lt (Nat.le_of_eq g31.symm))
          have Sb_b31 := Safe.ext E31 CR30.1 (Safe.new (Nat.le_of_eq g31.symm))
          have CR32 := CHr.trans CR30 (CHr.ext E31 CR30.1)
          have hk32 := Nat.le_trans hk30 E31.1
          have Sf32_b29 := Safe.ext E31 CR30.1 Sb_b29
          obtain rfl : [(0 : Int32), (0 : Int32), (0 : Int32)] = L31 := hL31.symm
          show ORunF p e below _ T31 (mkF m 71 #[.val (.int p1), .val (.int p2), .val (.int p3), .val (.int p4), .val (.int p5)] [(.ref b31), (.ref b29), (.ref b29)])
          refine own_by (fun t k => XS.dup X31.here hx rfl (hb hby d2_71) rfl rfl k) ?_
          show ORunF p e below _ T31 (mkF m 72 #[.val (.int p1), .val (.int p2), .val (.int p3), .val (.int p4), .val (.int p5)] [(.ref b31), (.ref b31), (.ref b29), (.ref b29)])
          refine own_by (fun t k => XS.iconst X31.here hx rfl (hb hby d2_72) k) ?_
          show ORunF p e below _ T31 (mkF m 73 #[.val (.int p1), .val (.int p2), .val (.int p3), .val (.int p4), .val (.int p5)] [(.int (0 : Int32)), (.ref b31), (.ref b31), (.ref b29), (.ref b29)])
          refine own_by (fun t k => XS.iloadN X31.here hx rfl (hb hby d2_73) rfl k) ?_
          show ORunF p e below _ T31 (mkF m 74 #[.val (.int p1), .val (.int p2), .val (.int p3), .val (.int p4), .val (.int p5)] [(.int p2), (.int (0 : Int32)), (.ref b31), (.ref b31), (.ref b29), (.ref b29)])
          refine own_castore X31 hx hZ e31 V31 (i := 0) (by decide) (by omega) (hb hby d2_74) ?_
          intro T33 h33 L33 X33 e33 W33 hL33 V33
          have len33 : L33.length = 3 := by rw [hL33, List.length_set]; exact len31
          have N33 := Fr.snoc X33 N0 old_b31
          have CR34 := CHr.trans CR32 (CHr.wr W33 Sb_b31 CR32.1)
          have hk34 := Nat.le_trans hk32 (Keep.of_wr W33).1
          have Sf34_b29 := Safe.wr W33 Sb_b31 CR32.1 Sf32_b29
          have Sf34_b31 := Safe.wr W33 Sb_b31 CR32.1 Sb_b31
          obtain rfl : [(nar .char p2), (0 : Int32), (0 : Int32)] = L33 := hL33.symm
          show ORunF p e below _ T33 (mkF m 75 #[.val (.int p1), .val (.int p2), .val (.int p3), .val (.int p4), .val (.int p5)] [(.ref b31), (.ref b29), (.ref b29)])
          refine own_by (fun t k => XS.dup X33.here hx rfl (hb hby d2_75) rfl rfl k) ?_
          show ORunF p e below _ T33 (mkF m 76 #[.val (.int p1), .val (.int p2), .val (.int p3), .val (.int p4), .val (.int p5)] [(.ref b31), (.ref b31), (.ref b29), (.ref b29)])
          refine own_by (fun t k => XS.iconst X33.here hx rfl (hb hby d2_76) k) ?_
          show ORunF p e below _ T33 (mkF m 77 #[.val (.int p1), .val (.int p2), .val (.int p3), .val (.int p4), .val (.int p5)] [(.int (1 : Int32)), (.ref b31), (.ref b31), (.ref b29), (.ref b29)])
          refine own_by (fun t k => XS.iloadN X33.here hx rfl (hb hby d2_77) rfl k) ?_
          show ORunF p e below _ T33 (mkF m 78 #[.val (.int p1), .val (.int p2), .val (.int p3), .val (.int p4), .val (.int p5)] [(.int p3), (.int (1 : Int32)), (.ref b31), (.ref b31), (.ref b29), (.ref b29)])
          refine own_castore X33 hx hZ e33 V33 (i := 1) (by decide) (by omega) (hb hby d2_78) ?_
          intro T35 h35 L35 X35 e35 W35 hL35 V35
          have len35 : L35.length = 3 := by rw [hL35, List.length_set]; exact len33
          have N35 := Fr.snoc X35 N33 old_b31
          have CR36 := CHr.trans CR34 (CHr.wr W35 Sf34_b31 CR34.1)
          have hk36 := Nat.le_trans hk34 (Keep.of_wr W35).1
          have Sf36_b29 := Safe.wr W35 Sf34_b31 CR34.1 Sf34_b29
          have Sf36_b31 := Safe.wr W35 Sf34_b31 CR34.1 Sf34_b31
          obtain rfl : [(nar .char p2), (nar .char p3), (0 : Int32)] = L35 := hL35.symm
          show ORunF p e below _ T35 (mkF m 79 #[.val (.int p1), .val (.int p2), .val (.int p3), .val (.int p4), .val (.int p5)] [(.ref b31), (.ref b29), (.ref b29)])
          refine own_by (fun t k => XS.dup X35.here hx rfl (hb hby d2_79) rfl rfl k) ?_
          show ORunF p e below _ T35 (mkF m 80 #[.val (.int p1), .val (.int p2), .val (.int p3), .val (.int p4), .val (.int p5)] [(.ref b31), (.ref b31), (.ref b29), (.ref b29)])
          refine own_by (fun t k => XS.iconst X35.here hx rfl (hb hby d2_80) k) ?_
          show ORunF p e below _ T35 (mkF m 81 #[.val (.int p1), .val (.int p2), .val (.int p3), .val (.int p4), .val (.int p5)] [(.int (2 : Int32)), (.ref b31), (.ref b31), (.ref b29), (.ref b29)])
          refine own_by (fun t k => XS.iloadN X35.here hx rfl (hb hby d2_81) rfl k) ?_
          show ORunF p e below _ T35 (mkF m 82 #[.val (.int p1), .val (.int p2), .val (.int p3), .val (.int p4), .val (.int p5)] [(.int p4), (.int (2 : Int32)), (.ref b31), (.ref b31), (.ref b29), (.ref b29)])
          refine own_castore X35 hx hZ e35 V35 (i := 2) (by decide) (by omega) (hb hby d2_82) ?_
          intro T37 h37 L37 X37 e37 W37 hL37 V37
          have len37 : L37.length = 3 := by rw [hL37, List.length_set]; exact len35
          have N37 := Fr.snoc X37 N35 old_b31
          have CR38 := CHr.trans CR36 (CHr.wr W37 Sf36_b31 CR36.1)
          have hk38 := Nat.le_trans hk36 (Keep.of_wr W37).1
          have Sf38_b29 := Safe.wr W37 Sf36_b31 CR36.1 Sf36_b29
          have Sf38_b31 := Safe.wr W37 Sf36_b31 CR36.1 Sf36_b31
          obtain rfl : [(nar .char p2), (nar .char p3), (nar .char p4)] = L37 := hL37.symm
          show ORunF p e below _ T37 (mkF m 83 #[.val (.int p1), .val (.int p2), .val (.int p3), .val (.int p4), .val (.int p5)] [(.ref b31), (.ref b29), (.ref b29)])
          have Vx39 : OVec Z h37 b31 .char ([p2, p3, p4] : List Int32) := by
            have q := V37
            rw [own_narC hp2.1 (by omega), own_narC hp3.1 (by omega), own_narC hp4.1 (by omega)] at q
            exact q
          have hp39 : ∀ c ∈ ([p2, p3, p4] : List Int32), 0 ≤ c.toInt ∧ c.toInt < 256 := fun c hc => by
            simp only [List.mem_cons, List.not_mem_nil, or_false] at hc
            rcases hc with rfl | rfl | rfl <;> assumption
          refine own_strC (cs := ([p2, p3, p4] : List Int32)) (rm := ({ frames := 2, cells := 4, slots := 8, locals := 50 } : Room)) (W := 1) X37 hx hS0 hk38 hZ hown hEL CR38.1 (hw _ (List.mem_of_getElem? (i := 12) rfl)) (hw _ (List.mem_of_getElem? (i := 13) rfl)) (hw _ (List.mem_of_getElem? (i := 10) rfl)) (hw _ (List.mem_of_getElem? (i := 14) rfl)) hws (kI := 4) (hw _ (List.mem_of_getElem? (i := 9) rfl)) old_b29 (Nat.le_trans (Nat.le_trans (Nat.le_trans (Nat.le_trans (Nat.le_trans Z0 E29.1) E31.1) (Keep.of_wr W33).1) (Keep.of_wr W35).1) (Keep.of_wr W37).1) Sf38_b29 ((((A29.ext E31).wr W33).wr W35).wr W37) ((((F29_24.ext E31).other W33 (Or.inl ne_b29_b31)).other W35 (Or.inl ne_b29_b31)).other W37 (Or.inl ne_b29_b31)) ((((F29_25.ext E31).other W33 (Or.inl ne_b29_b31)).other W35 (Or.inl ne_b29_b31)).other W37 (Or.inl ne_b29_b31)) Vx39 hp39 (by simp) (((((Sc.ext E29).ext E31).wr W33).wr W35).wr W37) hz (fun q => rm3 l Z a0 hw [] h37 n0 (Nat.le_trans (Nat.le_trans (Nat.le_trans (Nat.le_trans (Nat.le_trans Z0 E29.1) E31.1) (Keep.of_wr W33).1) (Keep.of_wr W35).1) (Keep.of_wr W37).1) EL hEL wS hm1 hm2 b29 b31 old_b29 ((((A29.ext E31).wr W33).wr W35).wr W37) ((((F29_25.ext E31).other W33 (Or.inl ne_b29_b31)).other W35 (Or.inl ne_b29_b31)).other W37 (Or.inl ne_b29_b31)) ((((F29_24.ext E31).other W33 (Or.inl ne_b29_b31)).other W35 (Or.inl ne_b29_b31)).other W37 (Or.inl ne_b29_b31)) (by have v := Vx39; rw [q] at v; exact v)) e37 (by decide) (by decide) (by decide) (by decide) (by decide) (by decide) rfl rfl (by rw [hml]; rfl) (fun sig hs => by rw [pd_14] at hs; cases hs; rfl) (Nat.le_of_eq rfl) (hb hby d2_83) ?_
          intro T39 L39 vm39 kk39 X39 hS39 hk39 hZ hown CRc39 Nq39 K39 Os39
          have N39 := Fr.app N37 Nq39
          have CR40 := CHr.trans CR38 CRc39
          have Sf40_b29 := CHr.safe CRc39 ((((A29.ext E31).wr W33).wr W35).wr W37).lt Sf38_b29
          have Sf40_b31 := CHr.safe CRc39 Vx39.lt Sf38_b31
          obtain ⟨En39, Fc39, t39, Fv39, Vt39, ft39⟩ := Os39
          show ORunF p e below _ T39 (mkF m 86 #[.val (.int p1), .val (.int p2), .val (.int p3), .val (.int p4), .val (.int p5)] [(.ref b29)])
          refine own_retAc X39 hx hS39 hk39 hZ hEL CR40 hret rfl rfl rfl hlk (hb hby d2_86) (by decide) (by decide) ?_
          have e1 : p1.toInt.toNat = 3 := by omega
          rw [e1]
          exact ⟨b29, rfl, N39, (((((((Keep.refl h0 []).ext E29).ext E31).wr W33 (Or.inr sz_b31)).wr W35 (Or.inr sz_b31)).wr W37 (Or.inr sz_b31)).trans K39 (allS (Or.inr sz_b29) all0)), sz_b29, ⟨En39, Fc39, t39, Fv39, Vt39, ft39⟩⟩
        · have t28 := own_ne hc28 (a := p1.toInt) (b := 3) rfl (by decide)
          refine own_by (fun t k => XS.icmpYes X0.here hx rfl (pc0 := 61) (pc' := 87) rfl (hb hby d2_61) rfl (feq hc28).2 (by decide) (by decide) k) ?_
          show ORunF p e below _ s₁ (mkF m 87 #[.val (.int p1), .val (.int p2), .val (.int p3), .val (.int p4), .val (.int p5)] [])
          obtain ⟨T41, h41, X41, e41, E41, A41, D41, -, st41⟩ := newO X0 hx hZ hown (hw _ (List.mem_of_getElem? (i := 8) rfl)) (hw _ (List.mem_of_getElem? (i := 9) rfl)) (hw _ (List.mem_of_getElem? (i := 10) rfl)) e0 (g := (mkF m 87 #[.val (.int p1), .val (.int p2), .val (.int p3), .val (.int p4), .val (.int p5)] [])) rfl (hb hby d2_87) (by decide) (by decide)
          obtain ⟨b41, g41⟩ : ∃ z, z = h0.size := ⟨_, rfl⟩
          rw [← g41] at A41 D41 st41
          have old_b41 : n0 ≤ b41 := Nat.le_trans Z0 (Nat.le_of_eq g41.symm)
          have sz_b41 : h0.size ≤ b41 := Nat.le_trans (Nat.le_refl h0.size) (Nat.le_of_eq g41.symm)
          have Sb_b41 := Safe.ext E41 CR0.1 (Safe.new (Nat.le_of_eq g41.symm))
          have CR42 := CHr.trans CR0 (CHr.ext E41 CR0.1)
          have hk42 := Nat.le_trans hk0 E41.1
          have F41_24 : Fld Z h41 b41 "java/lang/String" "value" "[B" .null := D41 (Or.inr (hw _ (List.mem_of_getElem? (i := 24) rfl))) (ty := (.array .byte)) (by decide)
          have F41_25 : Fld Z h41 b41 "java/lang/String" "coder" "B" (.int (0 : Int32)) := D41 (Or.inr (hw _ (List.mem_of_getElem? (i := 25) rfl))) (ty := .byte) (by decide)
          refine own_by st41 ?_
          show ORunF p e below _ T41 (mkF m 90 #[.val (.int p1), .val (.int p2), .val (.int p3), .val (.int p4), .val (.int p5)] [(.ref b41)])
          refine own_by (fun t k => XS.dup X41.here hx rfl (hb hby d2_90) rfl rfl k) ?_
          show ORunF p e below _ T41 (mkF m 91 #[.val (.int p1), .val (.int p2), .val (.int p3), .val (.int p4), .val (.int p5)] [(.ref b41), (.ref b41)])
          refine own_by (fun t k => XS.iconst X41.here hx rfl (hb hby d2_91) k) ?_
          show ORunF p e below _ T41 (mkF m 92 #[.val (.int p1), .val (.int p2), .val (.int p3), .val (.int p4), .val (.int p5)] [(.int (4 : Int32)), (.ref b41), (.ref b41)])
          refine own_newarray X41 hx hZ (aty := .char) (hw _ (List.mem_of_getElem? (i := 11) rfl)) e41 rfl (N := 4) (cap := 4) (by decide) (Nat.le_refl _) (by decide) (by decide) (by decide) (ad := "[C") (by decide) (hb hby d2_92) ?_
          intro T43 h43 b43 L43 g43 X43 e43 E43 hL43 V43 Ex43
          have len43 : L43.length = 4 := by rw [hL43]; exact List.length_replicate
          have old_b43 : n0 ≤ b43 := Nat.le_trans (Nat.le_trans Z0 E41.1) (Nat.le_of_eq g43.symm)
          have sz_b43 : h0.size ≤ b43 := Nat.le_trans (Nat.le_trans (Nat.le_refl h0.size) E41.1) (Nat.le_of_eq g43.symm)
          have ne_b41_b43 : b41 ≠ b43 := Nat.ne_of_lt (Nat.lt_of_lt_of_le A41.lt (Nat.le_of_eq g43.symm))
          have Sb_b43 := Safe.ext E43 CR42.1 (Safe.new (Nat.le_of_eq g43.symm))
          have CR44 := CHr.trans CR42 (CHr.ext E43 CR42.1)
          have hk44 := Nat.le_trans hk42 E43.1
          have Sf44_b41 := Safe.ext E43 CR42.1 Sb_b41
          obtain rfl : [(0 : Int32), (0 : Int32), (0 : Int32), (0 : Int32)] = L43 := hL43.symm
          show ORunF p e below _ T43 (mkF m 94 #[.val (.int p1), .val (.int p2), .val (.int p3), .val (.int p4), .val (.int p5)] [(.ref b43), (.ref b41), (.ref b41)])
          refine own_by (fun t k => XS.dup X43.here hx rfl (hb hby d2_94) rfl rfl k) ?_
          show ORunF p e below _ T43 (mkF m 95 #[.val (.int p1), .val (.int p2), .val (.int p3), .val (.int p4), .val (.int p5)] [(.ref b43), (.ref b43), (.ref b41), (.ref b41)])
          refine own_by (fun t k => XS.iconst X43.here hx rfl (hb hby d2_95) k) ?_
          show ORunF p e below _ T43 (mkF m 96 #[.val (.int p1), .val (.int p2), .val (.int p3), .val (.int p4), .val (.int p5)] [(.int (0 : Int32)), (.ref b43), (.ref b43), (.ref b41), (.ref b41)])
          refine own_by (fun t k => XS.iloadN X43.here hx rfl (hb hby d2_96) rfl k) ?_
          show ORunF p e below _ T43 (mkF m 97 #[.val (.int p1), .val (.int p2), .val (.int p3), .val (.int p4), .val (.int p5)] [(.int p2), (.int (0 : Int32)), (.ref b43), (.ref b43), (.ref b41), (.ref b41)])
          refine own_castore X43 hx hZ e43 V43 (i := 0) (by decide) (by omega) (hb hby d2_97) ?_
          intro T45 h45 L45 X45 e45 W45 hL45 V45
          have len45 : L45.length = 4 := by rw [hL45, List.length_set]; exact len43
          have N45 := Fr.snoc X45 N0 old_b43
          have CR46 := CHr.trans CR44 (CHr.wr W45 Sb_b43 CR44.1)
          have hk46 := Nat.le_trans hk44 (Keep.of_wr W45).1
          have Sf46_b41 := Safe.wr W45 Sb_b43 CR44.1 Sf44_b41
          have Sf46_b43 := Safe.wr W45 Sb_b43 CR44.1 Sb_b43
          obtain rfl : [(nar .char p2), (0 : Int32), (0 : Int32), (0 : Int32)] = L45 := hL45.symm
          show ORunF p e below _ T45 (mkF m 98 #[.val (.int p1), .val (.int p2), .val (.int p3), .val (.int p4), .val (.int p5)] [(.ref b43), (.ref b41), (.ref b41)])
          refine own_by (fun t k => XS.dup X45.here hx rfl (hb hby d2_98) rfl rfl k) ?_
          show ORunF p e below _ T45 (mkF m 99 #[.val (.int p1), .val (.int p2), .val (.int p3), .val (.int p4), .val (.int p5)] [(.ref b43), (.ref b43), (.ref b41), (.ref b41)])
          refine own_by (fun t k => XS.iconst X45.here hx rfl (hb hby d2_99) k) ?_
          show ORunF p e below _ T45 (mkF m 100 #[.val (.int p1), .val (.int p2), .val (.int p3), .val (.int p4), .val (.int p5)] [(.int (1 : Int32)), (.ref b43), (.ref b43), (.ref b41), (.ref b41)])
          refine own_by (fun t k => XS.iloadN X45.here hx rfl (hb hby d2_100) rfl k) ?_
          show ORunF p e below _ T45 (mkF m 101 #[.val (.int p1), .val (.int p2), .val (.int p3), .val (.int p4), .val (.int p5)] [(.int p3), (.int (1 : Int32)), (.ref b43), (.ref b43), (.ref b41), (.ref b41)])
          refine own_castore X45 hx hZ e45 V45 (i := 1) (by decide) (by omega) (hb hby d2_101) ?_
          intro T47 h47 L47 X47 e47 W47 hL47 V47
          have len47 : L47.length = 4 := by rw [hL47, List.length_set]; exact len45
          have N47 := Fr.snoc X47 N45 old_b43
          have CR48 := CHr.trans CR46 (CHr.wr W47 Sf46_b43 CR46.1)
          have hk48 := Nat.le_trans hk46 (Keep.of_wr W47).1
          have Sf48_b41 := Safe.wr W47 Sf46_b43 CR46.1 Sf46_b41
          have Sf48_b43 := Safe.wr W47 Sf46_b43 CR46.1 Sf46_b43
          obtain rfl : [(nar .char p2), (nar .char p3), (0 : Int32), (0 : Int32)] = L47 := hL47.symm
          show ORunF p e below _ T47 (mkF m 102 #[.val (.int p1), .val (.int p2), .val (.int p3), .val (.int p4), .val (.int p5)] [(.ref b43), (.ref b41), (.ref b41)])
          refine own_by (fun t k => XS.dup X47.here hx rfl (hb hby d2_102) rfl rfl k) ?_
          show ORunF p e below _ T47 (mkF m 103 #[.val (.int p1), .val (.int p2), .val (.int p3), .val (.int p4), .val (.int p5)] [(.ref b43), (.ref b43), (.ref b41), (.ref b41)])
          refine own_by (fun t k => XS.iconst X47.here hx rfl (hb hby d2_103) k) ?_
          show ORunF p e below _ T47 (mkF m 104 #[.val (.int p1), .val (.int p2), .val (.int p3), .val (.int p4), .val (.int p5)] [(.int (2 : Int32)), (.ref b43), (.ref b43), (.ref b41), (.ref b41)])
          refine own_by (fun t k => XS.iloadN X47.here hx rfl (hb hby d2_104) rfl k) ?_
          show ORunF p e below _ T47 (mkF m 105 #[.val (.int p1), .val (.int p2), .val (.int p3), .val (.int p4), .val (.int p5)] [(.int p4), (.int (2 : Int32)), (.ref b43), (.ref b43), (.ref b41), (.ref b41)])
          refine own_castore X47 hx hZ e47 V47 (i := 2) (by decide) (by omega) (hb hby d2_105) ?_
          intro T49 h49 L49 X49 e49 W49 hL49 V49
          have len49 : L49.length = 4 := by rw [hL49, List.length_set]; exact len47
          have N49 := Fr.snoc X49 N47 old_b43
          have CR50 := CHr.trans CR48 (CHr.wr W49 Sf48_b43 CR48.1)
          have hk50 := Nat.le_trans hk48 (Keep.of_wr W49).1
          have Sf50_b41 := Safe.wr W49 Sf48_b43 CR48.1 Sf48_b41
          have Sf50_b43 := Safe.wr W49 Sf48_b43 CR48.1 Sf48_b43
          obtain rfl : [(nar .char p2), (nar .char p3), (nar .char p4), (0 : Int32)] = L49 := hL49.symm
          show ORunF p e below _ T49 (mkF m 106 #[.val (.int p1), .val (.int p2), .val (.int p3), .val (.int p4), .val (.int p5)] [(.ref b43), (.ref b41), (.ref b41)])
          refine own_by (fun t k => XS.dup X49.here hx rfl (hb hby d2_106) rfl rfl k) ?_
          show ORunF p e below _ T49 (mkF m 107 #[.val (.int p1), .val (.int p2), .val (.int p3), .val (.int p4), .val (.int p5)] [(.ref b43), (.ref b43), (.ref b41), (.ref b41)])
          refine own_by (fun t k => XS.iconst X49.here hx rfl (hb hby d2_107) k) ?_
          show ORunF p e below _ T49 (mkF m 108 #[.val (.int p1), .val (.int p2), .val (.int p3), .val (.int p4), .val (.int p5)] [(.int (3 : Int32)), (.ref b43), (.ref b43), (.ref b41), (.ref b41)])
          refine own_by (fun t k => XS.iload X49.here hx rfl (hb hby d2_108) rfl k) ?_
          show ORunF p e below _ T49 (mkF m 110 #[.val (.int p1), .val (.int p2), .val (.int p3), .val (.int p4), .val (.int p5)] [(.int p5), (.int (3 : Int32)), (.ref b43), (.ref b43), (.ref b41), (.ref b41)])
          refine own_castore X49 hx hZ e49 V49 (i := 3) (by decide) (by omega) (hb hby d2_110) ?_
          intro T51 h51 L51 X51 e51 W51 hL51 V51
          have len51 : L51.length = 4 := by rw [hL51, List.length_set]; exact len49
          have N51 := Fr.snoc X51 N49 old_b43
          have CR52 := CHr.trans CR50 (CHr.wr W51 Sf50_b43 CR50.1)
          have hk52 := Nat.le_trans hk50 (Keep.of_wr W51).1
          have Sf52_b41 := Safe.wr W51 Sf50_b43 CR50.1 Sf50_b41
          have Sf52_b43 := Safe.wr W51 Sf50_b43 CR50.1 Sf50_b43
          obtain rfl : [(nar .char p2), (nar .char p3), (nar .char p4), (nar .char p5)] = L51 := hL51.symm
          show ORunF p e below _ T51 (mkF m 111 #[.val (.int p1), .val (.int p2), .val (.int p3), .val (.int p4), .val (.int p5)] [(.ref b43), (.ref b41), (.ref b41)])
          have Vx53 : OVec Z h51 b43 .char ([p2, p3, p4, p5] : List Int32) := by
            have q := V51
            rw [own_narC hp2.1 (by omega), own_narC hp3.1 (by omega), own_narC hp4.1 (by omega), own_narC hp5.1 (by omega)] at q
            exact q
          have hp53 : ∀ c ∈ ([p2, p3, p4, p5] : List Int32), 0 ≤ c.toInt ∧ c.toInt < 256 := fun c hc => by
            simp only [List.mem_cons, List.not_mem_nil, or_false] at hc
            rcases hc with rfl | rfl | rfl | rfl <;> assumption
          refine own_strC (cs := ([p2, p3, p4, p5] : List Int32)) (rm := ({ frames := 2, cells := 4, slots := 8, locals := 50 } : Room)) (W := 1) X51 hx hS0 hk52 hZ hown hEL CR52.1 (hw _ (List.mem_of_getElem? (i := 12) rfl)) (hw _ (List.mem_of_getElem? (i := 13) rfl)) (hw _ (List.mem_of_getElem? (i := 10) rfl)) (hw _ (List.mem_of_getElem? (i := 14) rfl)) hws (kI := 4) (hw _ (List.mem_of_getElem? (i := 9) rfl)) old_b41 (Nat.le_trans (Nat.le_trans (Nat.le_trans (Nat.le_trans (Nat.le_trans (Nat.le_trans Z0 E41.1) E43.1) (Keep.of_wr W45).1) (Keep.of_wr W47).1) (Keep.of_wr W49).1) (Keep.of_wr W51).1) Sf52_b41 (((((A41.ext E43).wr W45).wr W47).wr W49).wr W51) (((((F41_24.ext E43).other W45 (Or.inl ne_b41_b43)).other W47 (Or.inl ne_b41_b43)).other W49 (Or.inl ne_b41_b43)).other W51 (Or.inl ne_b41_b43)) (((((F41_25.ext E43).other W45 (Or.inl ne_b41_b43)).other W47 (Or.inl ne_b41_b43)).other W49 (Or.inl ne_b41_b43)).other W51 (Or.inl ne_b41_b43)) Vx53 hp53 (by simp) ((((((Sc.ext E41).ext E43).wr W45).wr W47).wr W49).wr W51) hz (fun q => rm3 l Z a0 hw [] h51 n0 (Nat.le_trans (Nat.le_trans (Nat.le_trans (Nat.le_trans (Nat.le_trans (Nat.le_trans Z0 E41.1) E43.1) (Keep.of_wr W45).1) (Keep.of_wr W47).1) (Keep.of_wr W49).1) (Keep.of_wr W51).1) EL hEL wS hm1 hm2 b41 b43 old_b41 (((((A41.ext E43).wr W45).wr W47).wr W49).wr W51) (((((F41_25.ext E43).other W45 (Or.inl ne_b41_b43)).other W47 (Or.inl ne_b41_b43)).other W49 (Or.inl ne_b41_b43)).other W51 (Or.inl ne_b41_b43)) (((((F41_24.ext E43).other W45 (Or.inl ne_b41_b43)).other W47 (Or.inl ne_b41_b43)).other W49 (Or.inl ne_b41_b43)).other W51 (Or.inl ne_b41_b43)) (by have v := Vx53; rw [q] at v; exact v)) e51 (by decide) (by decide) (by decide) (by decide) (by decide) (by decide) rfl rfl (by rw [hml]; rfl) (fun sig hs => by rw [pd_14] at hs; cases hs; rfl) (Nat.le_of_eq rfl) (hb hby d2_111) ?_
          intro T53 L53 vm53 kk53 X53 hS53 hk53 hZ hown CRc53 Nq53 K53 Os53
          have N53 := Fr.app N51 Nq53
          have CR54 := CHr.trans CR52 CRc53
          have Sf54_b41 := CHr.safe CRc53 (((((A41.ext E43).wr W45).wr W47).wr W49).wr W51).lt Sf52_b41
          have Sf54_b43 := CHr.safe CRc53 Vx53.lt Sf52_b43
          obtain ⟨En53, Fc53, t53, Fv53, Vt53, ft53⟩ := Os53
          show ORunF p e below _ T53 (mkF m 114 #[.val (.int p1), .val (.int p2), .val (.int p3), .val (.int p4), .val (.int p5)] [(.ref b41)])
          refine own_retAc X53 hx hS53 hk53 hZ hEL CR54 hret rfl rfl rfl hlk (hb hby d2_114) (by decide) (by decide) ?_
          have e1 : p1.toInt.toNat = 4 := by omega
          rw [e1]
          exact ⟨b41, rfl, N53, ((((((((Keep.refl h0 []).ext E41).ext E43).wr W45 (Or.inr sz_b43)).wr W47 (Or.inr sz_b43)).wr W49 (Or.inr sz_b43)).wr W51 (Or.inr sz_b43)).trans K53 (allS (Or.inr sz_b41) all0)), sz_b41, ⟨En53, Fc53, t53, Fv53, Vt53, ft53⟩⟩
theorem d6_0 : decode prog_15_method_9_code 0 = .ok (.aload_n 0, 1) := by decide +kernel
theorem d6_1 : decode prog_15_method_9_code 1 = .ok (.bipush 58, 2) := by decide +kernel
theorem d6_3 : decode prog_15_method_9_code 3 = .ok (.invokevirtual 192, 3) := by decide +kernel
theorem d6_6 : decode prog_15_method_9_code 6 = .ok (.istore_n 1, 1) := by decide +kernel
theorem d6_7 : decode prog_15_method_9_code 7 = .ok (.iload_n 1, 1) := by decide +kernel
theorem d6_8 : decode prog_15_method_9_code 8 = .ok (.ifCond .ge 7, 3) := by decide +kernel
theorem d6_11 : decode prog_15_method_9_code 11 = .ok (.aload_n 0, 1) := by decide +kernel
theorem d6_12 : decode prog_15_method_9_code 12 = .ok (.goto 9, 3) := by decide +kernel
theorem d6_15 : decode prog_15_method_9_code 15 = .ok (.aload_n 0, 1) := by decide +kernel
theorem d6_16 : decode prog_15_method_9_code 16 = .ok (.iconst 0, 1) := by decide +kernel
theorem d6_17 : decode prog_15_method_9_code 17 = .ok (.iload_n 1, 1) := by decide +kernel
theorem d6_18 : decode prog_15_method_9_code 18 = .ok (.invokevirtual 149, 3) := by decide +kernel
theorem d6_21 : decode prog_15_method_9_code 21 = .ok (.areturn, 1) := by decide +kernel
theorem pn_rm6 : plainName "com/example/fondsworks/fondsworks/FindingAid" = true := by first | (simp [plainName, overriddenIn]; done) | decide +kernel
theorem ef_rm6 (m : MethodId) (x0 : Addr) : entryFrame m #[(.ref x0)] 2 = mkF m 0 #[.val (.ref x0), .unset] [] := by first | (simp [entryFrame, mkF, argsToLocals, Value.category]; done) | rfl
set_option maxRecDepth 65536 in
set_option maxHeartbeats 40000000 in
theorem rm6 (l : Launch) (Z : State) (a0 : Array Value) (hw : ∀ d ∈ tables_1, d.before a0 Z = true) (ws : List Jvm.Cond) (h0 : Heap) (n0 : Nat) (Z0 : n0 ≤ h0.size) (EL : List (String × Nat)) (hEL : EW Z a0 EL) (wS : ∀ a ∈ Bundle.stringAtoms, a.before a0 Z = true) (hm1 : ("java/lang/String", 7) ∈ EL) (hm2 : ("java/lang/StringLatin1", 151) ∈ EL) (a1 b1 : Addr) (L : List Int32) (N : Nat) (z : Int32) (hz : ¬ z = 0) (Sc : Sta Z h0 "java/lang/String" "COMPACT_STRINGS" "Z" (.int z)) (vf : Value) (hvf : vf.isRef = true) (Sf : Sta Z h0 "jdk/internal/util/Preconditions" "SIOOBE_FORMATTER" "Ljava/util/function/BiFunction;" vf) (E_a1 : Exa Z h0 a1 "java/lang/String") (Fc_a1 : Fld Z h0 a1 "java/lang/String" "coder" "B" (.int 0)) (Fv_a1 : Fld Z h0 a1 "java/lang/String" "value" "[B" (.ref b1)) (V_b1 : OVec Z h0 b1 .byte L) (hN : L.length = N) (hN4 : N ≤ 4) (hft : ∀ y ∈ L, fits .byte (.int y) = true) :
    OMetH l (⟨"com/example/fondsworks/fondsworks/FindingAid", "fondsKeyIn", "(Ljava/lang/String;)Ljava/lang/String;"⟩ : MethodName) prog_15_method_9_code 2 (some (.object "java/lang/String")) ws ({ frames := 5, cells := 3, slots := 10, locals := 180 } : Room) #[(.ref a1)] Z EL h0 (fun v h L' => ∃ (x : Addr) (kk : Nat), v = some (.ref x) ∧ Fr n0 L' ∧ Keep h0 h [] ∧ OStr Z h x (L.take kk) ∧ kk ≤ N ∧ (∀ j, j < kk → L.getD j 0 ≠ (58 : Int32)) ∧ (kk < N → L.getD kk 0 = (58 : Int32))) := by
  refine own_metH (plainFor_of_name pn_rm6) ?_
  intro p e s m below meth c s₁ X0 hx hby hml hown hnm hret hlk hZ e0 hs0 hS0 CR0
  rw [ef_rm6]
  have N0 := Fr.nil n0
  have hk0 : 0 ≤ h0.size := Nat.zero_le _
  show ORunF p e below _ s₁ (mkF m 0 #[.val (.ref a1), .unset] [])
  refine own_by (fun t k => XS.aloadN X0.here hx rfl (hb hby d6_0) rfl rfl k) ?_
  show ORunF p e below _ s₁ (mkF m 1 #[.val (.ref a1), .unset] [(.ref a1)])
  refine own_by (fun t k => XS.bipush X0.here hx rfl (hb hby d6_1) k) ?_
  show ORunF p e below _ s₁ (mkF m 3 #[.val (.ref a1), .unset] [(.int (58 : Int32)), (.ref a1)])
  refine own_callV X0 hx hZ hown E_a1 (hw _ (List.mem_of_getElem? (i := 34) rfl)) (hw _ (List.mem_of_getElem? (i := 35) rfl)) (notFace_of_selects (args := #[]) (mvT hZ (hw _ (List.mem_of_getElem? (i := 37) rfl)))) (hw _ (List.mem_of_getElem? (i := 37) rfl)) (hw _ (List.mem_of_getElem? (i := 36) rfl)) (hw _ (List.mem_of_getElem? (i := 10) rfl)) (hw _ (List.mem_of_getElem? (i := 38) rfl)) (by decide) (rm7 l Z a0 hw [] h0 n0 Z0 a1 b1 (58 : Int32) L N z hz Sc E_a1 Fc_a1 Fv_a1 V_b1 hN hN4 (by decide)) e0 (by decide) (W := 0) (by decide) (by decide) (by decide) (argsL := [(.int (58 : Int32))]) (rest := []) (by rw [hml]; rfl) (lenOf pd_15 rfl) rfl rfl (Nat.le_of_eq rfl) (hb hby d6_3) ?_
  intro T1 L1 u1 X1 hQ1
  obtain ⟨y1, rfl, hy1, Nq1, e1⟩ := hQ1
  have N1 := Fr.app N0 Nq1
  show ORunF p e below _ T1 (mkF m 6 #[.val (.ref a1), .unset] [(.int y1)])
  refine own_by (fun t k => XS.istoreN X1.here hx rfl (hb hby d6_6) rfl (l' := #[.val (.ref a1), .val (.int y1)]) rfl k) ?_
  show ORunF p e below _ T1 (mkF m 7 #[.val (.ref a1), .val (.int y1)] [])
  refine own_by (fun t k => XS.iloadN X1.here hx rfl (hb hby d6_7) rfl k) ?_
  show ORunF p e below _ T1 (mkF m 8 #[.val (.ref a1), .val (.int y1)] [(.int y1)])
  by_cases hc2 : y1 < (0 : Int32)
  · have t2 := own_lt hc2 (a := y1.toInt) (b := 0) rfl (by decide)
    refine own_by (fun t k => XS.ifNo X1.here hx rfl (hb hby d6_8) rfl ((if0 _ _).trans (tlt hc2).2.1) k) ?_
    show ORunF p e below _ T1 (mkF m 11 #[.val (.ref a1), .val (.int y1)] [])
    refine own_by (fun t k => XS.aloadN X1.here hx rfl (hb hby d6_11) rfl rfl k) ?_
    show ORunF p e below _ T1 (mkF m 12 #[.val (.ref a1), .val (.int y1)] [(.ref a1)])
    refine own_by (fun t k => XS.goto X1.here hx rfl (pc0 := 12) (pc' := 21) rfl (hb hby d6_12) (by decide) (by decide) k) ?_
    show ORunF p e below _ T1 (mkF m 21 #[.val (.ref a1), .val (.int y1)] [(.ref a1)])
    refine own_retAc X1 hx hS0 (by rw [e1]; exact hk0) hZ hEL (by rw [e1]; exact CR0) hret rfl rfl rfl hlk (hb hby d6_21) (by decide) (by decide) ?_
    have zz := hy1.resolve_left (fun q => by have := q.1; omega)
    rw [e1]
    exact ⟨a1, N, rfl, N1, (Keep.refl h0 []), ⟨E_a1, Fc_a1, b1, Fv_a1, by rw [List.take_of_length_le (by omega)]; exact V_b1, by rw [List.take_of_length_le (by omega)]; exact hft⟩, Nat.le_refl _, zz.2, fun q => absurd q (Nat.lt_irrefl _)⟩
  · have t2 := own_nlt hc2 (a := y1.toInt) (b := 0) rfl (by decide)
    refine own_by (fun t k => XS.ifYes X1.here hx rfl (pc0 := 8) (pc' := 15) rfl (hb hby d6_8) rfl ((if0 _ _).trans (flt hc2).2.1) (by decide) (by decide) k) ?_
    show ORunF p e below _ T1 (mkF m 15 #[.val (.ref a1), .val (.int y1)] [])
    refine own_by (fun t k => XS.aloadN X1.here hx rfl (hb hby d6_15) rfl rfl k) ?_
    show ORunF p e below _ T1 (mkF m 16 #[.val (.ref a1), .val (.int y1)] [(.ref a1)])
    refine own_by (fun t k => XS.iconst X1.here hx rfl (hb hby d6_16) k) ?_
    show ORunF p e below _ T1 (mkF m 17 #[.val (.ref a1), .val (.int y1)] [(.int (0 : Int32)), (.ref a1)])
    refine own_by (fun t k => XS.iloadN X1.here hx rfl (hb hby d6_17) rfl k) ?_
    show ORunF p e below _ T1 (mkF m 18 #[.val (.ref a1), .val (.int y1)] [(.int y1), (.int (0 : Int32)), (.ref a1)])
    obtain ⟨z0, z1, z2, z3⟩ : 0 ≤ y1.toInt ∧ y1.toInt < N ∧ L.getD y1.toInt.toNat 0 = (58 : Int32) ∧ ∀ j, j < y1.toInt.toNat → L.getD j 0 ≠ (58 : Int32) := hy1.resolve_right (fun q => by have := q.1; omega)
    refine own_callVH X1 hx hS0 hk0 hZ hown hEL CR0.1 E_a1 (hw _ (List.mem_of_getElem? (i := 96) rfl)) (hw _ (List.mem_of_getElem? (i := 97) rfl)) (notFace_of_selects (args := #[]) (mvT (s := s.setVm _) hZ (hw _ (List.mem_of_getElem? (i := 99) rfl)))) (hw _ (List.mem_of_getElem? (i := 99) rfl)) (hw _ (List.mem_of_getElem? (i := 98) rfl)) (hw _ (List.mem_of_getElem? (i := 10) rfl)) (hw _ (List.mem_of_getElem? (i := 100) rfl)) (by decide) (rm22 l Z a0 hw [] h0 n0 Z0 EL hEL wS hm1 hm2 a1 b1 y1 L N z hz Sc vf hvf Sf E_a1 Fc_a1 Fv_a1 V_b1 hN hN4 hft ⟨z0, z1⟩) e1 (by decide) (W := 0) (by decide) (by decide) (by decide) (argsL := [(.int (0 : Int32)), (.int y1)]) (rest := []) (by rw [hml]; rfl) (lenOf pd_16 rfl) rfl rfl (Nat.le_of_eq rfl) (hb hby d6_18) ?_
    intro T3 L3 u3 vm3 kk3 X3 hS3 hk3 hZ hown CRc3 hQ3
    obtain ⟨o3, rfl, Nq3, K3, Os_o3⟩ := hQ3
    have N3 := Fr.app N1 Nq3
    have CR4 := CHr.trans CR0 CRc3
    show ORunF p e below _ T3 (mkF m 21 #[.val (.ref a1), .val (.int y1)] [(.ref o3)])
    refine own_retAc X3 hx hS3 hk3 hZ hEL CR4 hret rfl rfl rfl hlk (hb hby d6_21) (by decide) (by decide) ?_
    exact ⟨o3, y1.toInt.toNat, rfl, N3, ((Keep.refl h0 []).trans K3 all0), Os_o3, by omega, z3, fun _ => z2⟩
theorem pn_rm0 : plainName "com/example/fondsworks/fondsworks/FindingAidFondsKeyInPinLaw" = true := by first | (simp [plainName, overriddenIn]; done) | decide +kernel
theorem ef_rm0 (m : MethodId) (x0 : Int32) (x1 : Int32) (x2 : Int32) (x3 : Int32) (x4 : Int32) : entryFrame m #[(.int x0), (.int x1), (.int x2), (.int x3), (.int x4)] maxLocals = mkF m 0 #[.val (.int x0), .val (.int x1), .val (.int x2), .val (.int x3), .val (.int x4), .unset, .unset, .unset, .unset, .unset, .unset, .unset, .unset, .unset] [] := by first | (simp [entryFrame, mkF, argsToLocals, Value.category, maxLocals]; done) | rfl
set_option maxRecDepth 65536 in
set_option maxHeartbeats 40000000 in
theorem rm0 (l : Launch) (Z : State) (a0 : Array Value) (hw : ∀ d ∈ tables_1, d.before a0 Z = true) (ws : List Jvm.Cond) (h0 : Heap) (n0 : Nat) (Z0 : n0 ≤ h0.size) (EL : List (String × Nat)) (hEL : EW Z a0 EL) (wS : ∀ a ∈ Bundle.stringAtoms, a.before a0 Z = true) (hm1 : ("java/lang/String", 7) ∈ EL) (hm2 : ("java/lang/StringLatin1", 151) ∈ EL) (p1 p2 p3 p4 p5 : Int32) (z : Int32) (hz : ¬ z = 0) (Sc : Sta Z h0 "java/lang/String" "COMPACT_STRINGS" "Z" (.int z)) (vf : Value) (hvf : vf.isRef = true) (Sf : Sta Z h0 "jdk/internal/util/Preconditions" "SIOOBE_FORMATTER" "Ljava/util/function/BiFunction;" vf) :
    OMetH l x code maxLocals ret ws room_1 #[(.int p1), (.int p2), (.int p3), (.int p4), (.int p5)] Z EL h0 (fun v h L => v = some (.int 1) ∧ Fr n0 L) := by
  refine own_metH (plainFor_of_name pn_rm0) ?_
  intro p e s m below meth c s₁ X0 hx hby hml hown hnm hret hlk hZ e0 hs0 hS0 CR0
  rw [ef_rm0]
  have N0 := Fr.nil n0
  have hk0 : 0 ≤ h0.size := Nat.zero_le _
  have rg_p1 := rng32 p1
  have rg_p2 := rng32 p2
  have rg_p3 := rng32 p3
  have rg_p4 := rng32 p4
  have rg_p5 := rng32 p5
  show ORunF p e below _ s₁ (mkF m 0 #[.val (.int p1), .val (.int p2), .val (.int p3), .val (.int p4), .val (.int p5), .unset, .unset, .unset, .unset, .unset, .unset, .unset, .unset, .unset] [])
  refine own_by (fun t k => XS.iloadN X0.here hx rfl (hb hby at_0) rfl k) ?_
  show ORunF p e below _ s₁ (mkF m 1 #[.val (.int p1), .val (.int p2), .val (.int p3), .val (.int p4), .val (.int p5), .unset, .unset, .unset, .unset, .unset, .unset, .unset, .unset, .unset] [(.int p1)])
  refine own_by (fun t k => X0.ldcInt hx hown (mvT hZ (hw _ (List.mem_of_getElem? (i := 0) rfl))) (g := (mkF m 1 #[.val (.int p1), .val (.int p2), .val (.int p3), .val (.int p4), .val (.int p5), .unset, .unset, .unset, .unset, .unset, .unset, .unset, .unset, .unset] [(.int p1)])) rfl (hb hby at_1) _ k) ?_
  show ORunF p e below _ s₁ (mkF m 3 #[.val (.int p1), .val (.int p2), .val (.int p3), .val (.int p4), .val (.int p5), .unset, .unset, .unset, .unset, .unset, .unset, .unset, .unset, .unset] [(.int (2147483647 : Int32)), (.int p1)])
  refine own_by (fun t k => XS.iand X0.here hx rfl (hb hby at_3) rfl k) (own_letI (f := (fun z => (mkF m 4 #[.val (.int p1), .val (.int p2), .val (.int p3), .val (.int p4), .val (.int p5), .unset, .unset, .unset, .unset, .unset, .unset, .unset, .unset, .unset] [(.int z)]))) (p1 &&& (2147483647 : Int32)) fun v1 hv1 => ?_)
  show ORunF p e below _ s₁ (mkF m 4 #[.val (.int p1), .val (.int p2), .val (.int p3), .val (.int p4), .val (.int p5), .unset, .unset, .unset, .unset, .unset, .unset, .unset, .unset, .unset] [(.int v1)])
  have a1a : v1.toInt = p1.toInt % 2147483648 := by rw [hv1]; exact c_mask p1 (2147483647 : Int32) 31 (by decide) (by decide)
  have r1 := rng32 v1
  refine own_by (fun t k => XS.iconst X0.here hx rfl (hb hby at_4) k) ?_
  show ORunF p e below _ s₁ (mkF m 5 #[.val (.int p1), .val (.int p2), .val (.int p3), .val (.int p4), .val (.int p5), .unset, .unset, .unset, .unset, .unset, .unset, .unset, .unset, .unset] [(.int (5 : Int32)), (.int v1)])
  refine own_by (fun t k => iremM X0 hx rfl (hb hby at_5) rfl (by decide) k) (own_letI (f := (fun z => (mkF m 6 #[.val (.int p1), .val (.int p2), .val (.int p3), .val (.int p4), .val (.int p5), .unset, .unset, .unset, .unset, .unset, .unset, .unset, .unset, .unset] [(.int z)]))) (v1 % (5 : Int32)) fun v2 hv2 => ?_)
  show ORunF p e below _ s₁ (mkF m 6 #[.val (.int p1), .val (.int p2), .val (.int p3), .val (.int p4), .val (.int p5), .unset, .unset, .unset, .unset, .unset, .unset, .unset, .unset, .unset] [(.int v2)])
  have r2 := rng32 v2
  have a2 : v2.toInt = v1.toInt % 5 := by
    have q : (0 ≤ v1.toInt → v2.toInt = v1.toInt % 5) ∧ (v1.toInt < 0 → v2.toInt = -((-v1.toInt) % 5)) := by rw [hv2]; exact c_irem v1 (5 : Int32) 5 (by decide)
    omega
  have hn : 0 ≤ v2.toInt ∧ v2.toInt ≤ 4 := by omega
  clear a1a r1 a2 r2
  refine own_by (fun t k => XS.istore X0.here hx rfl (hb hby at_6) rfl (l' := #[.val (.int p1), .val (.int p2), .val (.int p3), .val (.int p4), .val (.int p5), .val (.int v2), .unset, .unset, .unset, .unset, .unset, .unset, .unset, .unset]) rfl k) ?_
  show ORunF p e below _ s₁ (mkF m 8 #[.val (.int p1), .val (.int p2), .val (.int p3), .val (.int p4), .val (.int p5), .val (.int v2), .unset, .unset, .unset, .unset, .unset, .unset, .unset, .unset] [])
  refine own_by (fun t k => XS.iloadN X0.here hx rfl (hb hby at_8) rfl k) ?_
  show ORunF p e below _ s₁ (mkF m 9 #[.val (.int p1), .val (.int p2), .val (.int p3), .val (.int p4), .val (.int p5), .val (.int v2), .unset, .unset, .unset, .unset, .unset, .unset, .unset, .unset] [(.int p2)])
  refine own_callS X0 hx hZ hown (hw _ (List.mem_of_getElem? (i := 1) rfl)) (hw _ (List.mem_of_getElem? (i := 2) rfl)) (hw _ (List.mem_of_getElem? (i := 3) rfl)) (hw _ (List.mem_of_getElem? (i := 4) rfl)) (by decide) (rm1 l Z a0 hw [] h0 n0 Z0 p2) e0 (by decide) (W := 0) (by decide) (by decide) (by decide) (argsL := [(.int p2)]) (rest := []) (by rw [hml]; rfl) (lenOf pd_17 rfl) rfl rfl (Nat.le_of_eq rfl) (hb hby at_9) ?_
  intro T3 L3 u3 X3 hQ3
  obtain ⟨y3, rfl, hy3, Nq3, e3⟩ := hQ3
  have N3 := Fr.app N0 Nq3
  show ORunF p e below _ T3 (mkF m 12 #[.val (.int p1), .val (.int p2), .val (.int p3), .val (.int p4), .val (.int p5), .val (.int v2), .unset, .unset, .unset, .unset, .unset, .unset, .unset, .unset] [(.int y3)])
  refine own_by (fun t k => XS.istore X3.here hx rfl (hb hby at_12) rfl (l' := #[.val (.int p1), .val (.int p2), .val (.int p3), .val (.int p4), .val (.int p5), .val (.int v2), .val (.int y3), .unset, .unset, .unset, .unset, .unset, .unset, .unset]) rfl k) ?_
  show ORunF p e below _ T3 (mkF m 14 #[.val (.int p1), .val (.int p2), .val (.int p3), .val (.int p4), .val (.int p5), .val (.int v2), .val (.int y3), .unset, .unset, .unset, .unset, .unset, .unset, .unset] [])
  refine own_by (fun t k => XS.iloadN X3.here hx rfl (hb hby at_14) rfl k) ?_
  show ORunF p e below _ T3 (mkF m 15 #[.val (.int p1), .val (.int p2), .val (.int p3), .val (.int p4), .val (.int p5), .val (.int v2), .val (.int y3), .unset, .unset, .unset, .unset, .unset, .unset, .unset] [(.int p3)])
  refine own_callS X3 hx hZ hown (hw _ (List.mem_of_getElem? (i := 1) rfl)) (hw _ (List.mem_of_getElem? (i := 2) rfl)) (hw _ (List.mem_of_getElem? (i := 3) rfl)) (hw _ (List.mem_of_getElem? (i := 4) rfl)) (by decide) (rm1 l Z a0 hw [] h0 n0 Z0 p3) e3 (by decide) (W := 0) (by decide) (by decide) (by decide) (argsL := [(.int p3)]) (rest := []) (by rw [hml]; rfl) (lenOf pd_17 rfl) rfl rfl (Nat.le_of_eq rfl) (hb hby at_15) ?_
  intro T4 L4 u4 X4 hQ4
  obtain ⟨y4, rfl, hy4, Nq4, e4⟩ := hQ4
  have N4 := Fr.app N3 Nq4
  show ORunF p e below _ T4 (mkF m 18 #[.val (.int p1), .val (.int p2), .val (.int p3), .val (.int p4), .val (.int p5), .val (.int v2), .val (.int y3), .unset, .unset, .unset, .unset, .unset, .unset, .unset] [(.int y4)])
  refine own_by (fun t k => XS.istore X4.here hx rfl (hb hby at_18) rfl (l' := #[.val (.int p1), .val (.int p2), .val (.int p3), .val (.int p4), .val (.int p5), .val (.int v2), .val (.int y3), .val (.int y4), .unset, .unset, .unset, .unset, .unset, .unset]) rfl k) ?_
  show ORunF p e below _ T4 (mkF m 20 #[.val (.int p1), .val (.int p2), .val (.int p3), .val (.int p4), .val (.int p5), .val (.int v2), .val (.int y3), .val (.int y4), .unset, .unset, .unset, .unset, .unset, .unset] [])
  refine own_by (fun t k => XS.iloadN X4.here hx rfl (hb hby at_20) rfl k) ?_
  show ORunF p e below _ T4 (mkF m 21 #[.val (.int p1), .val (.int p2), .val (.int p3), .val (.int p4), .val (.int p5), .val (.int v2), .val (.int y3), .val (.int y4), .unset, .unset, .unset, .unset, .unset, .unset] [(.int p4)])
  refine own_callS X4 hx hZ hown (hw _ (List.mem_of_getElem? (i := 1) rfl)) (hw _ (List.mem_of_getElem? (i := 2) rfl)) (hw _ (List.mem_of_getElem? (i := 3) rfl)) (hw _ (List.mem_of_getElem? (i := 4) rfl)) (by decide) (rm1 l Z a0 hw [] h0 n0 Z0 p4) e4 (by decide) (W := 0) (by decide) (by decide) (by decide) (argsL := [(.int p4)]) (rest := []) (by rw [hml]; rfl) (lenOf pd_17 rfl) rfl rfl (Nat.le_of_eq rfl) (hb hby at_21) ?_
  intro T5 L5 u5 X5 hQ5
  obtain ⟨y5, rfl, hy5, Nq5, e5⟩ := hQ5
  have N5 := Fr.app N4 Nq5
  show ORunF p e below _ T5 (mkF m 24 #[.val (.int p1), .val (.int p2), .val (.int p3), .val (.int p4), .val (.int p5), .val (.int v2), .val (.int y3), .val (.int y4), .unset, .unset, .unset, .unset, .unset, .unset] [(.int y5)])
  refine own_by (fun t k => XS.istore X5.here hx rfl (hb hby at_24) rfl (l' := #[.val (.int p1), .val (.int p2), .val (.int p3), .val (.int p4), .val (.int p5), .val (.int v2), .val (.int y3), .val (.int y4), .val (.int y5), .unset, .unset, .unset, .unset, .unset]) rfl k) ?_
  show ORunF p e below _ T5 (mkF m 26 #[.val (.int p1), .val (.int p2), .val (.int p3), .val (.int p4), .val (.int p5), .val (.int v2), .val (.int y3), .val (.int y4), .val (.int y5), .unset, .unset, .unset, .unset, .unset] [])
  refine own_by (fun t k => XS.iload X5.here hx rfl (hb hby at_26) rfl k) ?_
  show ORunF p e below _ T5 (mkF m 28 #[.val (.int p1), .val (.int p2), .val (.int p3), .val (.int p4), .val (.int p5), .val (.int v2), .val (.int y3), .val (.int y4), .val (.int y5), .unset, .unset, .unset, .unset, .unset] [(.int p5)])
  refine own_callS X5 hx hZ hown (hw _ (List.mem_of_getElem? (i := 1) rfl)) (hw _ (List.mem_of_getElem? (i := 2) rfl)) (hw _ (List.mem_of_getElem? (i := 3) rfl)) (hw _ (List.mem_of_getElem? (i := 4) rfl)) (by decide) (rm1 l Z a0 hw [] h0 n0 Z0 p5) e5 (by decide) (W := 0) (by decide) (by decide) (by decide) (argsL := [(.int p5)]) (rest := []) (by rw [hml]; rfl) (lenOf pd_17 rfl) rfl rfl (Nat.le_of_eq rfl) (hb hby at_28) ?_
  intro T6 L6 u6 X6 hQ6
  obtain ⟨y6, rfl, hy6, Nq6, e6⟩ := hQ6
  have N6 := Fr.app N5 Nq6
  show ORunF p e below _ T6 (mkF m 31 #[.val (.int p1), .val (.int p2), .val (.int p3), .val (.int p4), .val (.int p5), .val (.int v2), .val (.int y3), .val (.int y4), .val (.int y5), .unset, .unset, .unset, .unset, .unset] [(.int y6)])
  refine own_by (fun t k => XS.istore X6.here hx rfl (hb hby at_31) rfl (l' := #[.val (.int p1), .val (.int p2), .val (.int p3), .val (.int p4), .val (.int p5), .val (.int v2), .val (.int y3), .val (.int y4), .val (.int y5), .val (.int y6), .unset, .unset, .unset, .unset]) rfl k) ?_
  show ORunF p e below _ T6 (mkF m 33 #[.val (.int p1), .val (.int p2), .val (.int p3), .val (.int p4), .val (.int p5), .val (.int v2), .val (.int y3), .val (.int y4), .val (.int y5), .val (.int y6), .unset, .unset, .unset, .unset] [])
  refine own_by (fun t k => XS.iload X6.here hx rfl (hb hby at_33) rfl k) ?_
  show ORunF p e below _ T6 (mkF m 35 #[.val (.int p1), .val (.int p2), .val (.int p3), .val (.int p4), .val (.int p5), .val (.int v2), .val (.int y3), .val (.int y4), .val (.int y5), .val (.int y6), .unset, .unset, .unset, .unset] [(.int v2)])
  refine own_by (fun t k => XS.iload X6.here hx rfl (hb hby at_35) rfl k) ?_
  show ORunF p e below _ T6 (mkF m 37 #[.val (.int p1), .val (.int p2), .val (.int p3), .val (.int p4), .val (.int p5), .val (.int v2), .val (.int y3), .val (.int y4), .val (.int y5), .val (.int y6), .unset, .unset, .unset, .unset] [(.int y3), (.int v2)])
  refine own_by (fun t k => XS.iload X6.here hx rfl (hb hby at_37) rfl k) ?_
  show ORunF p e below _ T6 (mkF m 39 #[.val (.int p1), .val (.int p2), .val (.int p3), .val (.int p4), .val (.int p5), .val (.int v2), .val (.int y3), .val (.int y4), .val (.int y5), .val (.int y6), .unset, .unset, .unset, .unset] [(.int y4), (.int y3), (.int v2)])
  refine own_by (fun t k => XS.iload X6.here hx rfl (hb hby at_39) rfl k) ?_
  show ORunF p e below _ T6 (mkF m 41 #[.val (.int p1), .val (.int p2), .val (.int p3), .val (.int p4), .val (.int p5), .val (.int v2), .val (.int y3), .val (.int y4), .val (.int y5), .val (.int y6), .unset, .unset, .unset, .unset] [(.int y5), (.int y4), (.int y3), (.int v2)])
  refine own_by (fun t k => XS.iload X6.here hx rfl (hb hby at_41) rfl k) ?_
  show ORunF p e below _ T6 (mkF m 43 #[.val (.int p1), .val (.int p2), .val (.int p3), .val (.int p4), .val (.int p5), .val (.int v2), .val (.int y3), .val (.int y4), .val (.int y5), .val (.int y6), .unset, .unset, .unset, .unset] [(.int y6), (.int y5), (.int y4), (.int y3), (.int v2)])
  refine own_callSH X6 hx hS0 hk0 hZ hown hEL CR0.1 (hw _ (List.mem_of_getElem? (i := 5) rfl)) (hw _ (List.mem_of_getElem? (i := 6) rfl)) (hw _ (List.mem_of_getElem? (i := 3) rfl)) (hw _ (List.mem_of_getElem? (i := 7) rfl)) (by decide) (rm2 l Z a0 hw [] h0 n0 Z0 EL hEL wS hm1 hm2 v2 y3 y4 y5 y6 z hz Sc (by omega) hy3 hy4 hy5 hy6) e6 (by decide) (W := 0) (by decide) (by decide) (by decide) (argsL := [(.int v2), (.int y3), (.int y4), (.int y5), (.int y6)]) (rest := []) (by rw [hml]; rfl) (lenOf pd_18 rfl) rfl rfl (Nat.le_of_eq rfl) (hb hby at_43) ?_
  intro T7 L7 u7 vm7 kk7 X7 hS7 hk7 hZ hown CRc7 hQ7
  obtain ⟨o7, rfl, Nq7, K7, sz_o7, Os7⟩ := hQ7
  have N7 := Fr.app N6 Nq7
  have CR8 := CHr.trans CR0 CRc7
  obtain ⟨En7, Fc7, t7', Fv7, Vt7, ft7⟩ := Os7
  show ORunF p e below _ T7 (mkF m 46 #[.val (.int p1), .val (.int p2), .val (.int p3), .val (.int p4), .val (.int p5), .val (.int v2), .val (.int y3), .val (.int y4), .val (.int y5), .val (.int y6), .unset, .unset, .unset, .unset] [(.ref o7)])
  refine own_by (fun t k => XS.astore X7.here hx rfl (hb hby at_46) rfl rfl (l' := #[.val (.int p1), .val (.int p2), .val (.int p3), .val (.int p4), .val (.int p5), .val (.int v2), .val (.int y3), .val (.int y4), .val (.int y5), .val (.int y6), .val (.ref o7), .unset, .unset, .unset]) rfl k) ?_
  show ORunF p e below _ T7 (mkF m 48 #[.val (.int p1), .val (.int p2), .val (.int p3), .val (.int p4), .val (.int p5), .val (.int v2), .val (.int y3), .val (.int y4), .val (.int y5), .val (.int y6), .val (.ref o7), .unset, .unset, .unset] [])
  refine own_by (fun t k => XS.iload X7.here hx rfl (hb hby at_48) rfl k) ?_
  show ORunF p e below _ T7 (mkF m 50 #[.val (.int p1), .val (.int p2), .val (.int p3), .val (.int p4), .val (.int p5), .val (.int v2), .val (.int y3), .val (.int y4), .val (.int y5), .val (.int y6), .val (.ref o7), .unset, .unset, .unset] [(.int v2)])
  refine own_by (fun t k => XS.istore X7.here hx rfl (hb hby at_50) rfl (l' := #[.val (.int p1), .val (.int p2), .val (.int p3), .val (.int p4), .val (.int p5), .val (.int v2), .val (.int y3), .val (.int y4), .val (.int y5), .val (.int y6), .val (.ref o7), .val (.int v2), .unset, .unset]) rfl k) ?_
  show ORunF p e below _ T7 (mkF m 52 #[.val (.int p1), .val (.int p2), .val (.int p3), .val (.int p4), .val (.int p5), .val (.int v2), .val (.int y3), .val (.int y4), .val (.int y5), .val (.int y6), .val (.ref o7), .val (.int v2), .unset, .unset] [])
  have J9 : ∀ w9 : Int32, 0 ≤ w9.toInt ∧ w9.toInt ≤ v2.toInt ∧ (3 < w9.toInt → y6.toInt ≠ 58) ∧ (w9.toInt = 3 → 3 < v2.toInt → y6.toInt = 58) ∧ (w9.toInt < v2.toInt → 3 ≤ w9.toInt) → ORunF p e below (OFc Z EL s (fun v h L => v = some (.int 1) ∧ Fr n0 L) room_1.cells room_1.slots) T7 (mkF m 68 #[.val (.int p1), .val (.int p2), .val (.int p3), .val (.int p4), .val (.int p5), .val (.int v2), .val (.int y3), .val (.int y4), .val (.int y5), .val (.int y6), .val (.ref o7), .val (.int w9), .unset, .unset] []) := by
    intro w9 hJ9
    have J10 : ∀ w10 : Int32, 0 ≤ w10.toInt ∧ w10.toInt ≤ v2.toInt ∧ (2 < w10.toInt → y5.toInt ≠ 58) ∧ (3 < w10.toInt → y6.toInt ≠ 58) ∧ (w10.toInt = 2 → 2 < v2.toInt → y5.toInt = 58) ∧ (w10.toInt = 3 → 3 < v2.toInt → y6.toInt = 58) ∧ (w10.toInt < v2.toInt → 2 ≤ w10.toInt) → ORunF p e below (OFc Z EL s (fun v h L => v = some (.int 1) ∧ Fr n0 L) room_1.cells room_1.slots) T7 (mkF m 84 #[.val (.int p1), .val (.int p2), .val (.int p3), .val (.int p4), .val (.int p5), .val (.int v2), .val (.int y3), .val (.int y4), .val (.int y5), .val (.int y6), .val (.ref o7), .val (.int w10), .unset, .unset] []) := by
      intro w10 hJ10
      have J11 : ∀ w11 : Int32, 0 ≤ w11.toInt ∧ w11.toInt ≤ v2.toInt ∧ (1 < w11.toInt → y4.toInt ≠ 58) ∧ (2 < w11.toInt → y5.toInt ≠ 58) ∧ (3 < w11.toInt → y6.toInt ≠ 58) ∧ (w11.toInt = 1 → 1 < v2.toInt → y4.toInt = 58) ∧ (w11.toInt = 2 → 2 < v2.toInt → y5.toInt = 58) ∧ (w11.toInt = 3 → 3 < v2.toInt → y6.toInt = 58) ∧ (w11.toInt < v2.toInt → 1 ≤ w11.toInt) → ORunF p e below (OFc Z EL s (fun v h L => v = some (.int 1) ∧ Fr n0 L) room_1.cells room_1.slots) T7 (mkF m 100 #[.val (.int p1), .val (.int p2), .val (.int p3), .val (.int p4), .val (.int p5), .val (.int v2), .val (.int y3), .val (.int y4), .val (.int y5), .val (.int y6), .val (.ref o7), .val (.int w11), .unset, .unset] []) := by
        intro w11 hJ11
        have J12 : ∀ w12 : Int32, 0 ≤ w12.toInt ∧ w12.toInt ≤ v2.toInt ∧ (0 < w12.toInt → y3.toInt ≠ 58) ∧ (1 < w12.toInt → y4.toInt ≠ 58) ∧ (2 < w12.toInt → y5.toInt ≠ 58) ∧ (3 < w12.toInt → y6.toInt ≠ 58) ∧ (w12.toInt = 0 → 0 < v2.toInt → y3.toInt = 58) ∧ (w12.toInt = 1 → 1 < v2.toInt → y4.toInt = 58) ∧ (w12.toInt = 2 → 2 < v2.toInt → y5.toInt = 58) ∧ (w12.toInt = 3 → 3 < v2.toInt → y6.toInt = 58) → ORunF p e below (OFc Z EL s (fun v h L => v = some (.int 1) ∧ Fr n0 L) room_1.cells room_1.slots) T7 (mkF m 115 #[.val (.int p1), .val (.int p2), .val (.int p3), .val (.int p4), .val (.int p5), .val (.int v2), .val (.int y3), .val (.int y4), .val (.int y5), .val (.int y6), .val (.ref o7), .val (.int w12), .unset, .unset] []) := by
          intro w12 hJ12
          refine own_by (fun t k => XS.iload X7.here hx rfl (hb hby at_115) rfl k) ?_
          show ORunF p e below _ T7 (mkF m 117 #[.val (.int p1), .val (.int p2), .val (.int p3), .val (.int p4), .val (.int p5), .val (.int v2), .val (.int y3), .val (.int y4), .val (.int y5), .val (.int y6), .val (.ref o7), .val (.int w12), .unset, .unset] [(.int w12)])
          refine own_by (fun t k => XS.iload X7.here hx rfl (hb hby at_117) rfl k) ?_
          show ORunF p e below _ T7 (mkF m 119 #[.val (.int p1), .val (.int p2), .val (.int p3), .val (.int p4), .val (.int p5), .val (.int v2), .val (.int y3), .val (.int y4), .val (.int y5), .val (.int y6), .val (.ref o7), .val (.int w12), .unset, .unset] [(.int y3), (.int w12)])
          refine own_by (fun t k => XS.iload X7.here hx rfl (hb hby at_119) rfl k) ?_
          show ORunF p e below _ T7 (mkF m 121 #[.val (.int p1), .val (.int p2), .val (.int p3), .val (.int p4), .val (.int p5), .val (.int v2), .val (.int y3), .val (.int y4), .val (.int y5), .val (.int y6), .val (.ref o7), .val (.int w12), .unset, .unset] [(.int y4), (.int y3), (.int w12)])
          refine own_by (fun t k => XS.iload X7.here hx rfl (hb hby at_121) rfl k) ?_
          show ORunF p e below _ T7 (mkF m 123 #[.val (.int p1), .val (.int p2), .val (.int p3), .val (.int p4), .val (.int p5), .val (.int v2), .val (.int y3), .val (.int y4), .val (.int y5), .val (.int y6), .val (.ref o7), .val (.int w12), .unset, .unset] [(.int y5), (.int y4), (.int y3), (.int w12)])
          refine own_by (fun t k => XS.iload X7.here hx rfl (hb hby at_123) rfl k) ?_
          show ORunF p e below _ T7 (mkF m 125 #[.val (.int p1), .val (.int p2), .val (.int p3), .val (.int p4), .val (.int p5), .val (.int v2), .val (.int y3), .val (.int y4), .val (.int y5), .val (.int y6), .val (.ref o7), .val (.int w12), .unset, .unset] [(.int y6), (.int y5), (.int y4), (.int y3), (.int w12)])
          refine own_callSH X7 hx hS7 hk7 hZ hown hEL CR8.1 (hw _ (List.mem_of_getElem? (i := 5) rfl)) (hw _ (List.mem_of_getElem? (i := 6) rfl)) (hw _ (List.mem_of_getElem? (i := 3) rfl)) (hw _ (List.mem_of_getElem? (i := 7) rfl)) (by decide) (rm2 l Z a0 hw [] T7.heap n0 (Nat.le_trans Z0 K7.1) EL hEL wS hm1 hm2 w12 y3 y4 y5 y6 z hz (Sc.ext (own_kext ((Keep.refl h0 []).trans K7 all0))) ⟨hJ12.1, by have := hJ12.2.1; omega⟩ hy3 hy4 hy5 hy6) rfl (by decide) (W := 0) (by decide) (by decide) (by decide) (argsL := [(.int w12), (.int y3), (.int y4), (.int y5), (.int y6)]) (rest := []) (by rw [hml]; rfl) (lenOf pd_18 rfl) rfl rfl (Nat.le_of_eq rfl) (hb hby at_125) ?_
          intro T13 L13 u13 vm13 kk13 X13 hS13 hk13 hZ hown CRc13 hQ13
          obtain ⟨o13, rfl, Nq13, K13, sz_o13, Os13⟩ := hQ13
          have N13 := Fr.app N7 Nq13
          have CR14 := CHr.trans CR8 CRc13
          obtain ⟨En13, Fc13, t13', Fv13, Vt13, ft13⟩ := Os13
          show ORunF p e below _ T13 (mkF m 128 #[.val (.int p1), .val (.int p2), .val (.int p3), .val (.int p4), .val (.int p5), .val (.int v2), .val (.int y3), .val (.int y4), .val (.int y5), .val (.int y6), .val (.ref o7), .val (.int w12), .unset, .unset] [(.ref o13)])
          refine own_by (fun t k => XS.astore X13.here hx rfl (hb hby at_128) rfl rfl (l' := #[.val (.int p1), .val (.int p2), .val (.int p3), .val (.int p4), .val (.int p5), .val (.int v2), .val (.int y3), .val (.int y4), .val (.int y5), .val (.int y6), .val (.ref o7), .val (.int w12), .val (.ref o13), .unset]) rfl k) ?_
          show ORunF p e below _ T13 (mkF m 130 #[.val (.int p1), .val (.int p2), .val (.int p3), .val (.int p4), .val (.int p5), .val (.int v2), .val (.int y3), .val (.int y4), .val (.int y5), .val (.int y6), .val (.ref o7), .val (.int w12), .val (.ref o13), .unset] [])
          refine own_by (fun t k => XS.aload X13.here hx rfl (hb hby at_130) rfl rfl k) ?_
          show ORunF p e below _ T13 (mkF m 132 #[.val (.int p1), .val (.int p2), .val (.int p3), .val (.int p4), .val (.int p5), .val (.int v2), .val (.int y3), .val (.int y4), .val (.int y5), .val (.int y6), .val (.ref o7), .val (.int w12), .val (.ref o13), .unset] [(.ref o7)])
          have hlen15 : (([y3, y4, y5, y6].take v2.toInt.toNat).map own_bt).length = v2.toInt.toNat := by rw [List.length_map, List.length_take]; show min _ 4 = _; omega
          refine own_callSH X13 hx hS13 hk13 hZ hown hEL CR14.1 (hw _ (List.mem_of_getElem? (i := 30) rfl)) (hw _ (List.mem_of_getElem? (i := 31) rfl)) (hw _ (List.mem_of_getElem? (i := 32) rfl)) (hw _ (List.mem_of_getElem? (i := 33) rfl)) (by decide) (rm6 l Z a0 hw [] T13.heap n0 (Nat.le_trans (Nat.le_trans Z0 K7.1) K13.1) EL hEL wS hm1 hm2 o7 t7' (([y3, y4, y5, y6].take v2.toInt.toNat).map own_bt) v2.toInt.toNat z hz (Sc.ext (own_kext (((Keep.refl h0 []).trans K7 all0).trans K13 all0))) vf hvf (Sf.ext (own_kext (((Keep.refl h0 []).trans K7 all0).trans K13 all0))) (En7.keep K13) (Fc7.keep K13 nin0) (Fv7.keep K13 nin0) (Vt7.keep K13 nin0) hlen15 (by omega) ft7) rfl (by decide) (W := 0) (by decide) (by decide) (by decide) (argsL := [(.ref o7)]) (rest := []) (by rw [hml]; rfl) (lenOf pd_19 rfl) rfl rfl (Nat.le_of_eq rfl) (hb hby at_132) ?_
          intro T15 L15 u15 vm15 kk15 X15 hS15 hk15 hZ hown CRc15 hQ15
          obtain ⟨o15, kk15', rfl, Nq15, K15, Os_o15, hk1, hk2, hk3⟩ := hQ15
          have N15 := Fr.app N13 Nq15
          have CR16 := CHr.trans CR14 CRc15
          have fin := own_fin (C := (58 : Int32)) hy3 hy4 hy5 hy6 (by decide) hn hJ12 hk1 hk2 hk3
          rw [fin] at Os_o15
          obtain ⟨Eg, Fcg, tg, Fvg, Vg, ftg⟩ := Os_o15
          show ORunF p e below _ T15 (mkF m 135 #[.val (.int p1), .val (.int p2), .val (.int p3), .val (.int p4), .val (.int p5), .val (.int v2), .val (.int y3), .val (.int y4), .val (.int y5), .val (.int y6), .val (.ref o7), .val (.int w12), .val (.ref o13), .unset] [(.ref o15)])
          refine own_by (fun t k => XS.astore X15.here hx rfl (hb hby at_135) rfl rfl (l' := #[.val (.int p1), .val (.int p2), .val (.int p3), .val (.int p4), .val (.int p5), .val (.int v2), .val (.int y3), .val (.int y4), .val (.int y5), .val (.int y6), .val (.ref o7), .val (.int w12), .val (.ref o13), .val (.ref o15)]) rfl k) ?_
          show ORunF p e below _ T15 (mkF m 137 #[.val (.int p1), .val (.int p2), .val (.int p3), .val (.int p4), .val (.int p5), .val (.int v2), .val (.int y3), .val (.int y4), .val (.int y5), .val (.int y6), .val (.ref o7), .val (.int w12), .val (.ref o13), .val (.ref o15)] [])
          refine own_by (fun t k => XS.aload X15.here hx rfl (hb hby at_137) rfl rfl k) ?_
          show ORunF p e below _ T15 (mkF m 139 #[.val (.int p1), .val (.int p2), .val (.int p3), .val (.int p4), .val (.int p5), .val (.int v2), .val (.int y3), .val (.int y4), .val (.int y5), .val (.int y6), .val (.ref o7), .val (.int w12), .val (.ref o13), .val (.ref o15)] [(.ref o15)])
          refine own_by (fun t k => XS.ifnullNo X15.here hx rfl (hb hby at_139) rfl k) ?_
          show ORunF p e below _ T15 (mkF m 142 #[.val (.int p1), .val (.int p2), .val (.int p3), .val (.int p4), .val (.int p5), .val (.int v2), .val (.int y3), .val (.int y4), .val (.int y5), .val (.int y6), .val (.ref o7), .val (.int w12), .val (.ref o13), .val (.ref o15)] [])
          refine own_by (fun t k => XS.aload X15.here hx rfl (hb hby at_142) rfl rfl k) ?_
          show ORunF p e below _ T15 (mkF m 144 #[.val (.int p1), .val (.int p2), .val (.int p3), .val (.int p4), .val (.int p5), .val (.int v2), .val (.int y3), .val (.int y4), .val (.int y5), .val (.int y6), .val (.ref o7), .val (.int w12), .val (.ref o13), .val (.ref o15)] [(.ref o15)])
          refine own_by (fun t k => XS.aload X15.here hx rfl (hb hby at_144) rfl rfl k) ?_
          show ORunF p e below _ T15 (mkF m 146 #[.val (.int p1), .val (.int p2), .val (.int p3), .val (.int p4), .val (.int p5), .val (.int v2), .val (.int y3), .val (.int y4), .val (.int y5), .val (.int y6), .val (.ref o7), .val (.int w12), .val (.ref o13), .val (.ref o15)] [(.ref o13), (.ref o15)])
          have hle17 : (([y3, y4, y5, y6].take w12.toInt.toNat).map own_bt).length = w12.toInt.toNat := by rw [List.length_map, List.length_take]; show min _ 4 = _; have := hJ12.1; have := hJ12.2.1; omega
          refine own_callV X15 hx hZ hown Eg (hw _ (List.mem_of_getElem? (i := 74) rfl)) (hw _ (List.mem_of_getElem? (i := 75) rfl)) (notFace_of_selects (args := #[]) (mvT hZ (hw _ (List.mem_of_getElem? (i := 77) rfl)))) (hw _ (List.mem_of_getElem? (i := 77) rfl)) (hw _ (List.mem_of_getElem? (i := 76) rfl)) (hw _ (List.mem_of_getElem? (i := 10) rfl)) (hw _ (List.mem_of_getElem? (i := 78) rfl)) (by decide) (rm16 l Z a0 hw [] T15.heap n0 (Nat.le_trans (Nat.le_trans (Nat.le_trans Z0 K7.1) K13.1) K15.1) o15 o13 tg t13' (([y3, y4, y5, y6].take w12.toInt.toNat).map own_bt) w12.toInt.toNat z hz (Sc.ext (own_kext ((((Keep.refl h0 []).trans K7 all0).trans K13 all0).trans K15 all0))) Eg Fcg Fvg Vg (En13.keep K15) (Fc13.keep K15 nin0) (Fv13.keep K15 nin0) (Vt13.keep K15 nin0) hle17 (by have := hJ12.2.1; omega)) rfl (by decide) (W := 0) (by decide) (by decide) (by decide) (argsL := [(.ref o13)]) (rest := []) (by rw [hml]; rfl) (lenOf pd_20 rfl) rfl rfl (Nat.le_of_eq rfl) (hb hby at_146) ?_
          intro T17 L17 u17 X17 hQ17
          obtain ⟨rfl, Nq17, e17⟩ := hQ17
          have N17 := Fr.app N15 Nq17
          show ORunF p e below _ T17 (mkF m 149 #[.val (.int p1), .val (.int p2), .val (.int p3), .val (.int p4), .val (.int p5), .val (.int v2), .val (.int y3), .val (.int y4), .val (.int y5), .val (.int y6), .val (.ref o7), .val (.int w12), .val (.ref o13), .val (.ref o15)] [(.int (1 : Int32))])
          refine own_by (fun t k => XS.ifNo X17.here hx rfl (hb hby at_149) rfl ((if0 _ _).trans (feq (by decide)).1) k) ?_
          show ORunF p e below _ T17 (mkF m 152 #[.val (.int p1), .val (.int p2), .val (.int p3), .val (.int p4), .val (.int p5), .val (.int v2), .val (.int y3), .val (.int y4), .val (.int y5), .val (.int y6), .val (.ref o7), .val (.int w12), .val (.ref o13), .val (.ref o15)] [])
          refine own_by (fun t k => XS.iconst X17.here hx rfl (hb hby at_152) k) ?_
          show ORunF p e below _ T17 (mkF m 153 #[.val (.int p1), .val (.int p2), .val (.int p3), .val (.int p4), .val (.int p5), .val (.int v2), .val (.int y3), .val (.int y4), .val (.int y5), .val (.int y6), .val (.ref o7), .val (.int w12), .val (.ref o13), .val (.ref o15)] [(.int (1 : Int32))])
          refine own_by (fun t k => XS.goto X17.here hx rfl (pc0 := 153) (pc' := 157) rfl (hb hby at_153) (by decide) (by decide) k) ?_
          show ORunF p e below _ T17 (mkF m 157 #[.val (.int p1), .val (.int p2), .val (.int p3), .val (.int p4), .val (.int p5), .val (.int v2), .val (.int y3), .val (.int y4), .val (.int y5), .val (.int y6), .val (.ref o7), .val (.int w12), .val (.ref o13), .val (.ref o15)] [(.int (1 : Int32))])
          refine own_retNc X17 hx hS15 (by rw [e17]; exact hk15) hZ hEL (by rw [e17]; exact CR16) (t := .boolean) hret (by simp) hlk (hb hby at_157) (by decide) (by decide) ?_
          exact ⟨rfl, N17⟩
        refine own_by (fun t k => XS.iload X7.here hx rfl (hb hby at_100) rfl k) ?_
        show ORunF p e below _ T7 (mkF m 102 #[.val (.int p1), .val (.int p2), .val (.int p3), .val (.int p4), .val (.int p5), .val (.int v2), .val (.int y3), .val (.int y4), .val (.int y5), .val (.int y6), .val (.ref o7), .val (.int w11), .unset, .unset] [(.int v2)])
        by_cases hc18 : (0 : Int32) < v2
        · have t18 := own_lt hc18 (a := 0) (b := v2.toInt) (by decide) rfl
          refine own_by (fun t k => XS.ifNo X7.here hx rfl (hb hby at_102) rfl ((if0 _ _).trans (tlt hc18).2.2.2) k) ?_
          show ORunF p e below _ T7 (mkF m 105 #[.val (.int p1), .val (.int p2), .val (.int p3), .val (.int p4), .val (.int p5), .val (.int v2), .val (.int y3), .val (.int y4), .val (.int y5), .val (.int y6), .val (.ref o7), .val (.int w11), .unset, .unset] [])
          refine own_by (fun t k => XS.iload X7.here hx rfl (hb hby at_105) rfl k) ?_
          show ORunF p e below _ T7 (mkF m 107 #[.val (.int p1), .val (.int p2), .val (.int p3), .val (.int p4), .val (.int p5), .val (.int v2), .val (.int y3), .val (.int y4), .val (.int y5), .val (.int y6), .val (.ref o7), .val (.int w11), .unset, .unset] [(.int y3)])
          refine own_by (fun t k => XS.bipush X7.here hx rfl (hb hby at_107) k) ?_
          show ORunF p e below _ T7 (mkF m 109 #[.val (.int p1), .val (.int p2), .val (.int p3), .val (.int p4), .val (.int p5), .val (.int v2), .val (.int y3), .val (.int y4), .val (.int y5), .val (.int y6), .val (.ref o7), .val (.int w11), .unset, .unset] [(.int (58 : Int32)), (.int y3)])
          by_cases hc19 : y3 = (58 : Int32)
          · have t19 := own_eq hc19 (a := y3.toInt) (b := 58) rfl (by decide)
            refine own_by (fun t k => XS.icmpNo X7.here hx rfl (hb hby at_109) rfl (teq hc19).2 k) ?_
            show ORunF p e below _ T7 (mkF m 112 #[.val (.int p1), .val (.int p2), .val (.int p3), .val (.int p4), .val (.int p5), .val (.int v2), .val (.int y3), .val (.int y4), .val (.int y5), .val (.int y6), .val (.ref o7), .val (.int w11), .unset, .unset] [])
            refine own_by (fun t k => XS.iconst X7.here hx rfl (hb hby at_112) k) ?_
            show ORunF p e below _ T7 (mkF m 113 #[.val (.int p1), .val (.int p2), .val (.int p3), .val (.int p4), .val (.int p5), .val (.int v2), .val (.int y3), .val (.int y4), .val (.int y5), .val (.int y6), .val (.ref o7), .val (.int w11), .unset, .unset] [(.int (0 : Int32))])
            refine own_by (fun t k => XS.istore X7.here hx rfl (hb hby at_113) rfl (l' := #[.val (.int p1), .val (.int p2), .val (.int p3), .val (.int p4), .val (.int p5), .val (.int v2), .val (.int y3), .val (.int y4), .val (.int y5), .val (.int y6), .val (.ref o7), .val (.int (0 : Int32)), .unset, .unset]) rfl k) ?_
            show ORunF p e below _ T7 (mkF m 115 #[.val (.int p1), .val (.int p2), .val (.int p3), .val (.int p4), .val (.int p5), .val (.int v2), .val (.int y3), .val (.int y4), .val (.int y5), .val (.int y6), .val (.ref o7), .val (.int (0 : Int32)), .unset, .unset] [])
            exact J12 (0 : Int32) (by have tz : ((0 : Int32)).toInt = 0 := (by decide); omega)
          · have t19 := own_ne hc19 (a := y3.toInt) (b := 58) rfl (by decide)
            refine own_by (fun t k => XS.icmpYes X7.here hx rfl (pc0 := 109) (pc' := 115) rfl (hb hby at_109) rfl (feq hc19).2 (by decide) (by decide) k) ?_
            show ORunF p e below _ T7 (mkF m 115 #[.val (.int p1), .val (.int p2), .val (.int p3), .val (.int p4), .val (.int p5), .val (.int v2), .val (.int y3), .val (.int y4), .val (.int y5), .val (.int y6), .val (.ref o7), .val (.int w11), .unset, .unset] [])
            exact J12 w11 (by omega)
        · have t18 := own_nlt hc18 (a := 0) (b := v2.toInt) (by decide) rfl
          refine own_by (fun t k => XS.ifYes X7.here hx rfl (pc0 := 102) (pc' := 115) rfl (hb hby at_102) rfl ((if0 _ _).trans (flt hc18).2.2.2) (by decide) (by decide) k) ?_
          show ORunF p e below _ T7 (mkF m 115 #[.val (.int p1), .val (.int p2), .val (.int p3), .val (.int p4), .val (.int p5), .val (.int v2), .val (.int y3), .val (.int y4), .val (.int y5), .val (.int y6), .val (.ref o7), .val (.int w11), .unset, .unset] [])
          exact J12 w11 (by omega)
      refine own_by (fun t k => XS.iload X7.here hx rfl (hb hby at_84) rfl k) ?_
      show ORunF p e below _ T7 (mkF m 86 #[.val (.int p1), .val (.int p2), .val (.int p3), .val (.int p4), .val (.int p5), .val (.int v2), .val (.int y3), .val (.int y4), .val (.int y5), .val (.int y6), .val (.ref o7), .val (.int w10), .unset, .unset] [(.int v2)])
      refine own_by (fun t k => XS.iconst X7.here hx rfl (hb hby at_86) k) ?_
      show ORunF p e below _ T7 (mkF m 87 #[.val (.int p1), .val (.int p2), .val (.int p3), .val (.int p4), .val (.int p5), .val (.int v2), .val (.int y3), .val (.int y4), .val (.int y5), .val (.int y6), .val (.ref o7), .val (.int w10), .unset, .unset] [(.int (1 : Int32)), (.int v2)])
      by_cases hc20 : (1 : Int32) < v2
      · have t20 := own_lt hc20 (a := 1) (b := v2.toInt) (by decide) rfl
        refine own_by (fun t k => XS.icmpNo X7.here hx rfl (hb hby at_87) rfl (tlt hc20).2.2.2 k) ?_
        show ORunF p e below _ T7 (mkF m 90 #[.val (.int p1), .val (.int p2), .val (.int p3), .val (.int p4), .val (.int p5), .val (.int v2), .val (.int y3), .val (.int y4), .val (.int y5), .val (.int y6), .val (.ref o7), .val (.int w10), .unset, .unset] [])
        refine own_by (fun t k => XS.iload X7.here hx rfl (hb hby at_90) rfl k) ?_
        show ORunF p e below _ T7 (mkF m 92 #[.val (.int p1), .val (.int p2), .val (.int p3), .val (.int p4), .val (.int p5), .val (.int v2), .val (.int y3), .val (.int y4), .val (.int y5), .val (.int y6), .val (.ref o7), .val (.int w10), .unset, .unset] [(.int y4)])
        refine own_by (fun t k => XS.bipush X7.here hx rfl (hb hby at_92) k) ?_
        show ORunF p e below _ T7 (mkF m 94 #[.val (.int p1), .val (.int p2), .val (.int p3), .val (.int p4), .val (.int p5), .val (.int v2), .val (.int y3), .val (.int y4), .val (.int y5), .val (.int y6), .val (.ref o7), .val (.int w10), .unset, .unset] [(.int (58 : Int32)), (.int y4)])
        by_cases hc21 : y4 = (58 : Int32)
        · have t21 := own_eq hc21 (a := y4.toInt) (b := 58) rfl (by decide)
          refine own_by (fun t k => XS.icmpNo X7.here hx rfl (hb hby at_94) rfl (teq hc21).2 k) ?_
          show ORunF p e below _ T7 (mkF m 97 #[.val (.int p1), .val (.int p2), .val (.int p3), .val (.int p4), .val (.int p5), .val (.int v2), .val (.int y3), .val (.int y4), .val (.int y5), .val (.int y6), .val (.ref o7), .val (.int w10), .unset, .unset] [])
          refine own_by (fun t k => XS.iconst X7.here hx rfl (hb hby at_97) k) ?_
          show ORunF p e below _ T7 (mkF m 98 #[.val (.int p1), .val (.int p2), .val (.int p3), .val (.int p4), .val (.int p5), .val (.int v2), .val (.int y3), .val (.int y4), .val (.int y5), .val (.int y6), .val (.ref o7), .val (.int w10), .unset, .unset] [(.int (1 : Int32))])
          refine own_by (fun t k => XS.istore X7.here hx rfl (hb hby at_98) rfl (l' := #[.val (.int p1), .val (.int p2), .val (.int p3), .val (.int p4), .val (.int p5), .val (.int v2), .val (.int y3), .val (.int y4), .val (.int y5), .val (.int y6), .val (.ref o7), .val (.int (1 : Int32)), .unset, .unset]) rfl k) ?_
          show ORunF p e below _ T7 (mkF m 100 #[.val (.int p1), .val (.int p2), .val (.int p3), .val (.int p4), .val (.int p5), .val (.int v2), .val (.int y3), .val (.int y4), .val (.int y5), .val (.int y6), .val (.ref o7), .val (.int (1 : Int32)), .unset, .unset] [])
          exact J11 (1 : Int32) (by have tz : ((1 : Int32)).toInt = 1 := (by decide); omega)
        · have t21 := own_ne hc21 (a := y4.toInt) (b := 58) rfl (by decide)
          refine own_by (fun t k => XS.icmpYes X7.here hx rfl (pc0 := 94) (pc' := 100) rfl (hb hby at_94) rfl (feq hc21).2 (by decide) (by decide) k) ?_
          show ORunF p e below _ T7 (mkF m 100 #[.val (.int p1), .val (.int p2), .val (.int p3), .val (.int p4), .val (.int p5), .val (.int v2), .val (.int y3), .val (.int y4), .val (.int y5), .val (.int y6), .val (.ref o7), .val (.int w10), .unset, .unset] [])
          exact J11 w10 (by omega)
      · have t20 := own_nlt hc20 (a := 1) (b := v2.toInt) (by decide) rfl
        refine own_by (fun t k => XS.icmpYes X7.here hx rfl (pc0 := 87) (pc' := 100) rfl (hb hby at_87) rfl (flt hc20).2.2.2 (by decide) (by decide) k) ?_
        show ORunF p e below _ T7 (mkF m 100 #[.val (.int p1), .val (.int p2), .val (.int p3), .val (.int p4), .val (.int p5), .val (.int v2), .val (.int y3), .val (.int y4), .val (.int y5), .val (.int y6), .val (.ref o7), .val (.int w10), .unset, .unset] [])
        exact J11 w10 (by omega)
    refine own_by (fun t k => XS.iload X7.here hx rfl (hb hby at_68) rfl k) ?_
    show ORunF p e below _ T7 (mkF m 70 #[.val (.int p1), .val (.int p2), .val (.int p3), .val (.int p4), .val (.int p5), .val (.int v2), .val (.int y3), .val (.int y4), .val (.int y5), .val (.int y6), .val (.ref o7), .val (.int w9), .unset, .unset] [(.int v2)])
    refine own_by (fun t k => XS.iconst X7.here hx rfl (hb hby at_70) k) ?_
    show ORunF p e below _ T7 (mkF m 71 #[.val (.int p1), .val (.int p2), .val (.int p3), .val (.int p4), .val (.int p5), .val (.int v2), .val (.int y3), .val (.int y4), .val (.int y5), .val (.int y6), .val (.ref o7), .val (.int w9), .unset, .unset] [(.int (2 : Int32)), (.int v2)])
    by_cases hc22 : (2 : Int32) < v2
    · have t22 := own_lt hc22 (a := 2) (b := v2.toInt) (by decide) rfl
      refine own_by (fun t k => XS.icmpNo X7.here hx rfl (hb hby at_71) rfl (tlt hc22).2.2.2 k) ?_
      show ORunF p e below _ T7 (mkF m 74 #[.val (.int p1), .val (.int p2), .val (.int p3), .val (.int p4), .val (.int p5), .val (.int v2), .val (.int y3), .val (.int y4), .val (.int y5), .val (.int y6), .val (.ref o7), .val (.int w9), .unset, .unset] [])
      refine own_by (fun t k => XS.iload X7.here hx rfl (hb hby at_74) rfl k) ?_
      show ORunF p e below _ T7 (mkF m 76 #[.val (.int p1), .val (.int p2), .val (.int p3), .val (.int p4), .val (.int p5), .val (.int v2), .val (.int y3), .val (.int y4), .val (.int y5), .val (.int y6), .val (.ref o7), .val (.int w9), .unset, .unset] [(.int y5)])
      refine own_by (fun t k => XS.bipush X7.here hx rfl (hb hby at_76) k) ?_
      show ORunF p e below _ T7 (mkF m 78 #[.val (.int p1), .val (.int p2), .val (.int p3), .val (.int p4), .val (.int p5), .val (.int v2), .val (.int y3), .val (.int y4), .val (.int y5), .val (.int y6), .val (.ref o7), .val (.int w9), .unset, .unset] [(.int (58 : Int32)), (.int y5)])
      by_cases hc23 : y5 = (58 : Int32)
      · have t23 := own_eq hc23 (a := y5.toInt) (b := 58) rfl (by decide)
        refine own_by (fun t k => XS.icmpNo X7.here hx rfl (hb hby at_78) rfl (teq hc23).2 k) ?_
        show ORunF p e below _ T7 (mkF m 81 #[.val (.int p1), .val (.int p2), .val (.int p3), .val (.int p4), .val (.int p5), .val (.int v2), .val (.int y3), .val (.int y4), .val (.int y5), .val (.int y6), .val (.ref o7), .val (.int w9), .unset, .unset] [])
        refine own_by (fun t k => XS.iconst X7.here hx rfl (hb hby at_81) k) ?_
        show ORunF p e below _ T7 (mkF m 82 #[.val (.int p1), .val (.int p2), .val (.int p3), .val (.int p4), .val (.int p5), .val (.int v2), .val (.int y3), .val (.int y4), .val (.int y5), .val (.int y6), .val (.ref o7), .val (.int w9), .unset, .unset] [(.int (2 : Int32))])
        refine own_by (fun t k => XS.istore X7.here hx rfl (hb hby at_82) rfl (l' := #[.val (.int p1), .val (.int p2), .val (.int p3), .val (.int p4), .val (.int p5), .val (.int v2), .val (.int y3), .val (.int y4), .val (.int y5), .val (.int y6), .val (.ref o7), .val (.int (2 : Int32)), .unset, .unset]) rfl k) ?_
        show ORunF p e below _ T7 (mkF m 84 #[.val (.int p1), .val (.int p2), .val (.int p3), .val (.int p4), .val (.int p5), .val (.int v2), .val (.int y3), .val (.int y4), .val (.int y5), .val (.int y6), .val (.ref o7), .val (.int (2 : Int32)), .unset, .unset] [])
        exact J10 (2 : Int32) (by have tz : ((2 : Int32)).toInt = 2 := (by decide); omega)
      · have t23 := own_ne hc23 (a := y5.toInt) (b := 58) rfl (by decide)
        refine own_by (fun t k => XS.icmpYes X7.here hx rfl (pc0 := 78) (pc' := 84) rfl (hb hby at_78) rfl (feq hc23).2 (by decide) (by decide) k) ?_
        show ORunF p e below _ T7 (mkF m 84 #[.val (.int p1), .val (.int p2), .val (.int p3), .val (.int p4), .val (.int p5), .val (.int v2), .val (.int y3), .val (.int y4), .val (.int y5), .val (.int y6), .val (.ref o7), .val (.int w9), .unset, .unset] [])
        exact J10 w9 (by omega)
    · have t22 := own_nlt hc22 (a := 2) (b := v2.toInt) (by decide) rfl
      refine own_by (fun t k => XS.icmpYes X7.here hx rfl (pc0 := 71) (pc' := 84) rfl (hb hby at_71) rfl (flt hc22).2.2.2 (by decide) (by decide) k) ?_
      show ORunF p e below _ T7 (mkF m 84 #[.val (.int p1), .val (.int p2), .val (.int p3), .val (.int p4), .val (.int p5), .val (.int v2), .val (.int y3), .val (.int y4), .val (.int y5), .val (.int y6), .val (.ref o7), .val (.int w9), .unset, .unset] [])
      exact J10 w9 (by omega)
  refine own_by (fun t k => XS.iload X7.here hx rfl (hb hby at_52) rfl k) ?_
  show ORunF p e below _ T7 (mkF m 54 #[.val (.int p1), .val (.int p2), .val (.int p3), .val (.int p4), .val (.int p5), .val (.int v2), .val (.int y3), .val (.int y4), .val (.int y5), .val (.int y6), .val (.ref o7), .val (.int v2), .unset, .unset] [(.int v2)])
  refine own_by (fun t k => XS.iconst X7.here hx rfl (hb hby at_54) k) ?_
  show ORunF p e below _ T7 (mkF m 55 #[.val (.int p1), .val (.int p2), .val (.int p3), .val (.int p4), .val (.int p5), .val (.int v2), .val (.int y3), .val (.int y4), .val (.int y5), .val (.int y6), .val (.ref o7), .val (.int v2), .unset, .unset] [(.int (3 : Int32)), (.int v2)])
  by_cases hc24 : (3 : Int32) < v2
  · have t24 := own_lt hc24 (a := 3) (b := v2.toInt) (by decide) rfl
    refine own_by (fun t k => XS.icmpNo X7.here hx rfl (hb hby at_55) rfl (tlt hc24).2.2.2 k) ?_
    show ORunF p e below _ T7 (mkF m 58 #[.val (.int p1), .val (.int p2), .val (.int p3), .val (.int p4), .val (.int p5), .val (.int v2), .val (.int y3), .val (.int y4), .val (.int y5), .val (.int y6), .val (.ref o7), .val (.int v2), .unset, .unset] [])
    refine own_by (fun t k => XS.iload X7.here hx rfl (hb hby at_58) rfl k) ?_
    show ORunF p e below _ T7 (mkF m 60 #[.val (.int p1), .val (.int p2), .val (.int p3), .val (.int p4), .val (.int p5), .val (.int v2), .val (.int y3), .val (.int y4), .val (.int y5), .val (.int y6), .val (.ref o7), .val (.int v2), .unset, .unset] [(.int y6)])
    refine own_by (fun t k => XS.bipush X7.here hx rfl (hb hby at_60) k) ?_
    show ORunF p e below _ T7 (mkF m 62 #[.val (.int p1), .val (.int p2), .val (.int p3), .val (.int p4), .val (.int p5), .val (.int v2), .val (.int y3), .val (.int y4), .val (.int y5), .val (.int y6), .val (.ref o7), .val (.int v2), .unset, .unset] [(.int (58 : Int32)), (.int y6)])
    by_cases hc25 : y6 = (58 : Int32)
    · have t25 := own_eq hc25 (a := y6.toInt) (b := 58) rfl (by decide)
      refine own_by (fun t k => XS.icmpNo X7.here hx rfl (hb hby at_62) rfl (teq hc25).2 k) ?_
      show ORunF p e below _ T7 (mkF m 65 #[.val (.int p1), .val (.int p2), .val (.int p3), .val (.int p4), .val (.int p5), .val (.int v2), .val (.int y3), .val (.int y4), .val (.int y5), .val (.int y6), .val (.ref o7), .val (.int v2), .unset, .unset] [])
      refine own_by (fun t k => XS.iconst X7.here hx rfl (hb hby at_65) k) ?_
      show ORunF p e below _ T7 (mkF m 66 #[.val (.int p1), .val (.int p2), .val (.int p3), .val (.int p4), .val (.int p5), .val (.int v2), .val (.int y3), .val (.int y4), .val (.int y5), .val (.int y6), .val (.ref o7), .val (.int v2), .unset, .unset] [(.int (3 : Int32))])
      refine own_by (fun t k => XS.istore X7.here hx rfl (hb hby at_66) rfl (l' := #[.val (.int p1), .val (.int p2), .val (.int p3), .val (.int p4), .val (.int p5), .val (.int v2), .val (.int y3), .val (.int y4), .val (.int y5), .val (.int y6), .val (.ref o7), .val (.int (3 : Int32)), .unset, .unset]) rfl k) ?_
      show ORunF p e below _ T7 (mkF m 68 #[.val (.int p1), .val (.int p2), .val (.int p3), .val (.int p4), .val (.int p5), .val (.int v2), .val (.int y3), .val (.int y4), .val (.int y5), .val (.int y6), .val (.ref o7), .val (.int (3 : Int32)), .unset, .unset] [])
      exact J9 (3 : Int32) (by have tz : ((3 : Int32)).toInt = 3 := (by decide); omega)
    · have t25 := own_ne hc25 (a := y6.toInt) (b := 58) rfl (by decide)
      refine own_by (fun t k => XS.icmpYes X7.here hx rfl (pc0 := 62) (pc' := 68) rfl (hb hby at_62) rfl (feq hc25).2 (by decide) (by decide) k) ?_
      show ORunF p e below _ T7 (mkF m 68 #[.val (.int p1), .val (.int p2), .val (.int p3), .val (.int p4), .val (.int p5), .val (.int v2), .val (.int y3), .val (.int y4), .val (.int y5), .val (.int y6), .val (.ref o7), .val (.int v2), .unset, .unset] [])
      exact J9 v2 (by omega)
  · have t24 := own_nlt hc24 (a := 3) (b := v2.toInt) (by decide) rfl
    refine own_by (fun t k => XS.icmpYes X7.here hx rfl (pc0 := 55) (pc' := 68) rfl (hb hby at_55) rfl (flt hc24).2.2.2 (by decide) (by decide) k) ?_
    show ORunF p e below _ T7 (mkF m 68 #[.val (.int p1), .val (.int p2), .val (.int p3), .val (.int p4), .val (.int p5), .val (.int v2), .val (.int y3), .val (.int y4), .val (.int y5), .val (.int y6), .val (.ref o7), .val (.int v2), .unset, .unset] [])
    exact J9 v2 (by omega)
set_option maxRecDepth 65536 in
set_option maxHeartbeats 40000000 in
theorem comes_1 {Post : Tables → Env → Array Value → State → Outcome → State → Prop} (hpost : ∀ tb e args s v u, (limb_1_1.after args s (.returned v) u = true ∧ limb_1_2.after args s (.returned v) u = true ∧ True) → ReturnedEndW s (.returned v) u (Jvm.fieldLocs frame_1_writes args s ++ Jvm.arrayLocs frame_1_arrays args s ++ Jvm.staticLocs frame_1_statics s) 32 2240 → Post tb e args s (.returned v) u) :
    ArmFor flags0 classFile x code maxLocals ret World_1 tables_1 room_1 Calls_1 rest_1 Pre_1 Post := by
  intro l hfl _ _ p e ha hc hk s m args below hf hA hF happ hP
  obtain ⟨hcalls, hrest, hpre⟩ := hP
  obtain ⟨-, -, -, hnamed, -, -, -, hat⟩ := (Spec.applies_iff hf).mp happ
  obtain ⟨hg, hn⟩ := and_e (Cond.before_iff.mp (show (Jvm.Cond.and given_1 narrow_1).before args s = true from hpre))
  obtain ⟨hcnt, g0⟩ := and_e hg
  obtain ⟨k0, g1⟩ := and_e g0
  obtain ⟨k1, g2⟩ := and_e g1
  obtain ⟨k2, g3⟩ := and_e g2
  obtain ⟨k3, g4⟩ := and_e g3
  have k4 := g4
  obtain ⟨w0, w1, w2, w3, w4, rfl⟩ : ∃ w0 w1 w2 w3 w4 : Value, args = #[w0, w1, w2, w3, w4] := by
    have hs : args.size = 5 := by simpa [Cond.value, given_1] using hcnt
    obtain ⟨L⟩ := args
    match L, hs with
    | [w0, w1, w2, w3, w4], _ => exact ⟨w0, w1, w2, w3, w4, rfl⟩
  have hw := fun d (hd : d ∈ tables_1) => atoms_spec (ws := Jvm.Cond.code x code maxLocals ret :: tables_1) hat d (List.mem_cons_of_mem _ hd)
  have hfit : Fit s := fun {y c} hc i hi => by
    obtain ⟨ha, rfl⟩ := Array.getElem?_eq_some_iff.mp hc
    have q := List.all_eq_true.mp ((Array.all_eq_true_iff_forall_mem.mp hF) _ (Array.getElem_mem ha)) i (List.mem_range.mpr hi)
    simpa [Array.getElem?_eq_getElem hi] using q
  obtain ⟨i0, e0⟩ := is_v k0
  obtain rfl : w0 = (.int i0) := Option.some.inj e0
  obtain ⟨i1, e1⟩ := is_v k1
  obtain rfl : w1 = (.int i1) := Option.some.inj e1
  obtain ⟨i2, e2⟩ := is_v k2
  obtain rfl : w2 = (.int i2) := Option.some.inj e2
  obtain ⟨i3, e3⟩ := is_v k3
  obtain rfl : w3 = (.int i3) := Option.some.inj e3
  obtain ⟨i4, e4⟩ := is_v k4
  obtain rfl : w4 = (.int i4) := Option.some.inj e4
  obtain ⟨hsets, hown0⟩ := atoms_of _ (rest_1_c_eq ▸ (show rest_1_c.before _ s = true from hrest))
  have nz := not_v (Cond.before_iff.mp (hsets _ (List.mem_of_getElem? (i := 2) rfl)))
  obtain ⟨z, ez⟩ := is_v (Cond.before_iff.mp (hsets _ (List.mem_of_getElem? (i := 1) rfl)))
  have Sc := Sta.start ez (Or.inl (hsets _ (List.mem_of_getElem? (i := 0) rfl)))
  have hz : ¬ (z = (0 : Int32)) := gotF (Cond.eq_ints ez (Term.int_eval (0))) nz
  obtain ⟨vf, ef, hvf⟩ := Cond.isRef_spec (hsets _ (List.mem_of_getElem? (i := 8) rfl))
  have Sf := Sta.start ef (Or.inl (hsets _ (List.mem_of_getElem? (i := 7) rfl)))
  have wS : ∀ a ∈ Bundle.stringAtoms, a.before _ s = true := fun d hd => hw d ((by decide +kernel : ∀ d ∈ Bundle.stringAtoms, d ∈ tables_1) d hd)
  have hEL : EW s _ [("java/lang/String", 7), ("java/lang/StringLatin1", 151)] := EW.cons (text := "") (hw _ (List.mem_of_getElem? (i := 22) rfl)) (by simp) (EW.cons (text := "") (hw _ (List.mem_of_getElem? (i := 112) rfl)) (by simp) EW.nil)
  have hCH : CHv s [("java/lang/String", 7), ("java/lang/StringLatin1", 151)] s.vm s.heap := CHv.start hEL (fun p hp => hcalls.1 p hp) (hsets _ (List.mem_of_getElem? (i := 2) rfl)) (hw _ (List.mem_of_getElem? (i := 23) rfl)) (hw _ (List.mem_of_getElem? (i := 9) rfl))
  obtain ⟨n, o, h1, h2, h3, _, L, rfl, ⟨rfl, N⟩, -, hq⟩ := rm0 l s _ hw tables_1 s.heap s.heap.size (Nat.le_refl _) _ hEL wS (by simp) (by simp) i0 i1 i2 i3 i4 z hz Sc vf hvf Sf p e ha hc hk s m _ below hf ((Spec.applies_iff_loose hf).mp happ).1 ⟨rfl, State.Warmed39.refl s, rfl, hCH⟩ trivial
  refine ⟨n, _, h1, h2, h3, hpost _ _ _ _ _ _ ⟨Cond.after_iff.mpr rfl, Cond.after_iff.mpr (eq_i res_at (Term.int_eval (1)) rfl), trivial⟩ ⟨hq.1, hq.2.1, hq.2.2.1, (hq.2.2.2.sift fun y hy => Or.inr (N y hy)).mono (by decide) (by decide)⟩⟩
theorem main_1_1 : Claimed_1_1 := comes_1 fun _ _ _ _ _ _ h hF => ⟨h.1, hF⟩
theorem main_1_2 : Claimed_1_2 := comes_1 fun _ _ _ _ _ _ h hF => ⟨h.2.1, hF⟩
end Jvm.Pilot.@@N@@
namespace Jvm.Pilot.@@N@@
open Jvm Jvm.ClassFile Sem Op Lib Jvm.Free Jvm.Stand Jvm.Pilot.@@N@@.Jvm.D
/-! MADE BY PROGRAM (witnessworld.py) out of the Statement's table words and the real class files: 23 classes; the members and pool entries that the words name. The judged class is class 1, her method 3. -/
namespace start1
open Jvm.ClassFile
def u (s : String) : CpInfo := .utf8 (stringToUtf16 s)
/-- a pool by its gaps: so many unusable entries, then the entry; so many at the end -/
def gap : Nat → List CpInfo → List CpInfo
  | 0, r => r
  | n + 1, r => .unusable :: gap n r
def poolList (es : List (Nat × CpInfo)) (last : Nat) : List CpInfo := es.foldr (fun e r => gap e.1 (e.2 :: r)) (gap last [])
def pool (es : List (Nat × CpInfo)) (last : Nat) : Array CpInfo := ⟨poolList es last⟩
def fileOf (pool : Array CpInfo) (this : Nat) (attrs : Array Attribute := #[]) (ms : Array MethodInfo := #[]) (fl : Nat := 33) (sup : Nat := 0) (ifs : Array Nat := #[]) (fds : Array FieldInfo := #[]) : ClassFile where
  minorVersion := 0
  majorVersion := 65
  constantPool := pool
  accessFlags := fl
  thisClass := this
  superClass := sup
  interfaces := ifs
  fields := fds
  methods := ms
  attributes := attrs
def plain (name : String) (sup : Option ClassId) : Class where
  name := name
  kind := .ordinary
  loader := none
  accessFlags := 33
  super := sup
  interfaces := #[]
  cf := none
  fields := #[]
  methods := #[]
  instanceTypes := #[]
  staticTypes := #[]
  resolved := #[]
  callSites := []
  init := .initialized
  statics := none
  mirror := none

def pool0 : Array CpInfo := pool [(5, u "<init>"), (0, u "()V"), (1, .class_ 10), (1, u "java/lang/Object")] 113

def k0c0 : Code := { maxStack := 0, maxLocals := 1, code := object_method_1_code, exceptionTable := #[], attributes := #[] }
def k0m0 : Method := { name := "<init>", desc := "()V", sig := { parameters := [], returnType := none }, accessFlags := 1, code := some k0c0 }
/-- java/lang/Object -/
def k0 : Class := { plain "java/lang/Object" none with
  accessFlags := 33
  interfaces := #[]
  cf := some (fileOf pool0 8 #[] #[{ accessFlags := 1, nameIndex := 5, descriptorIndex := 6, attributes := #[] }] 33 0 #[] #[])
  fields := #[]
  methods := #[k0m0]
  instanceTypes := #[]
  staticTypes := #[]
  resolved := Array.replicate 124 none
  statics := none }

def pool1 : Array CpInfo := pool [(2, .class_ 4), (1, u "java/lang/Object"), (0, u "<init>"), (0, u "()V"), (0, .class_ 8), (0, u "java/lang/String"), (0, .methodref 7 10), (0, .nameAndType 5 11), (0, u "([C)V"), (0, .integer 2147483647), (0, .methodref 14 15), (0, .class_ 16), (0, .nameAndType 17 18), (0, u "com/example/fondsworks/fondsworks/FindingAidFondsKeyInPinLaw"), (0, u "drawn"), (0, u "(I)C"), (0, .methodref 14 20), (0, .nameAndType 21 22), (0, u "str"), (0, u "(ICCCC)Ljava/lang/String;"), (0, .methodref 24 25), (0, .class_ 26), (0, .nameAndType 27 28), (0, u "com/example/fondsworks/fondsworks/FindingAid"), (0, u "fondsKeyIn"), (0, u "(Ljava/lang/String;)Ljava/lang/String;"), (0, .methodref 7 30), (0, .nameAndType 31 32), (0, u "equals"), (0, u "(Ljava/lang/Object;)Z"), (3, u "law"), (0, u "(IIIII)Z")] 2

def k1m0 : Method := { name := "<init>", desc := "()V", sig := { parameters := [], returnType := none }, accessFlags := 2, code := none }
def k1c1 : Code := { maxStack := 2, maxLocals := 1, code := method_2_code, exceptionTable := #[], attributes := #[] }
def k1m1 : Method := { name := "drawn", desc := "(I)C", sig := { parameters := [.int], returnType := some .char }, accessFlags := 10, code := some k1c1 }
def k1c2 : Code := { maxStack := 6, maxLocals := 5, code := method_3_code, exceptionTable := #[], attributes := #[] }
def k1m2 : Method := { name := "str", desc := "(ICCCC)Ljava/lang/String;", sig := { parameters := [.int, .char, .char, .char, .char], returnType := some (.object "java/lang/String") }, accessFlags := 10, code := some k1c2 }
def k1c3 : Code := { maxStack := 5, maxLocals := 14, code := code, exceptionTable := #[], attributes := #[] }
def k1m3 : Method := { name := "law", desc := "(IIIII)Z", sig := { parameters := [.int, .int, .int, .int, .int], returnType := some .boolean }, accessFlags := 9, code := some k1c3 }
/-- com/example/fondsworks/fondsworks/FindingAidFondsKeyInPinLaw -/
def k1 : Class := { plain "com/example/fondsworks/fondsworks/FindingAidFondsKeyInPinLaw" (some 0) with
  accessFlags := 49
  interfaces := #[]
  cf := some (fileOf pool1 14 #[] #[{ accessFlags := 2, nameIndex := 5, descriptorIndex := 6, attributes := #[] }, { accessFlags := 10, nameIndex := 17, descriptorIndex := 18, attributes := #[] }, { accessFlags := 10, nameIndex := 21, descriptorIndex := 22, attributes := #[] }, { accessFlags := 9, nameIndex := 36, descriptorIndex := 37, attributes := #[] }] 49 2 #[] #[])
  fields := #[]
  methods := #[k1m0, k1m1, k1m2, k1m3]
  instanceTypes := #[]
  staticTypes := #[]
  resolved := Array.replicate 40 none
  statics := none }

def pool2 : Array CpInfo := pool [(1, .class_ 2), (0, u "java/io/Serializable"), (0, .class_ 4), (0, u "java/lang/Object")] 2

/-- java/io/Serializable -/
def k2 : Class := { plain "java/io/Serializable" (some 0) with
  accessFlags := 1537
  interfaces := #[]
  cf := some (fileOf pool2 1 #[] #[] 1537 3 #[] #[])
  fields := #[]
  methods := #[]
  instanceTypes := #[]
  staticTypes := #[]
  resolved := Array.replicate 7 none
  statics := none }

def pool3 : Array CpInfo := pool [(1, .class_ 2), (0, u "java/lang/Comparable"), (0, .class_ 4), (0, u "java/lang/Object")] 7

/-- java/lang/Comparable -/
def k3 : Class := { plain "java/lang/Comparable" (some 0) with
  accessFlags := 1537
  interfaces := #[]
  cf := some (fileOf pool3 1 #[] #[] 1537 3 #[] #[])
  fields := #[]
  methods := #[]
  instanceTypes := #[]
  staticTypes := #[]
  resolved := Array.replicate 12 none
  statics := none }

def pool4 : Array CpInfo := pool [(2, .class_ 4), (1, u "java/lang/CharSequence"), (42, .class_ 48), (0, u "java/lang/CharSequence$1CodePointIterator"), (10, .class_ 60), (0, u "java/lang/CharSequence$1CharIterator"), (5, .class_ 67), (0, u "java/lang/Object")] 63

/-- java/lang/CharSequence -/
def k4 : Class := { plain "java/lang/CharSequence" (some 0) with
  accessFlags := 1537
  interfaces := #[]
  cf := some (fileOf pool4 2 #[.nestMembers #[47, 59]] #[] 1537 66 #[] #[])
  fields := #[]
  methods := #[]
  instanceTypes := #[]
  staticTypes := #[]
  resolved := Array.replicate 131 none
  statics := none }

def pool5 : Array CpInfo := pool [(1, .class_ 2), (0, u "java/lang/constant/Constable"), (0, .class_ 4), (0, u "java/lang/Object")] 6

/-- java/lang/constant/Constable -/
def k5 : Class := { plain "java/lang/constant/Constable" (some 0) with
  accessFlags := 1537
  interfaces := #[]
  cf := some (fileOf pool5 1 #[] #[] 1537 3 #[] #[])
  fields := #[]
  methods := #[]
  instanceTypes := #[]
  staticTypes := #[]
  resolved := Array.replicate 11 none
  statics := none }

def pool6 : Array CpInfo := pool [(1, .class_ 2), (0, u "java/lang/constant/ConstantDesc"), (0, .class_ 4), (0, u "java/lang/Object")] 32

/-- java/lang/constant/ConstantDesc -/
def k6 : Class := { plain "java/lang/constant/ConstantDesc" (some 0) with
  accessFlags := 1537
  interfaces := #[]
  cf := some (fileOf pool6 1 #[] #[] 1537 3 #[] #[])
  fields := #[]
  methods := #[]
  instanceTypes := #[]
  staticTypes := #[]
  resolved := Array.replicate 37 none
  statics := none }

def pool7 : Array CpInfo := pool [(1, .methodref 2 3), (0, .class_ 4), (0, .nameAndType 5 6), (0, u "java/lang/Object"), (0, u "<init>"), (0, u "()V"), (0, .string 8), (0, u ""), (0, .fieldref 10 11), (0, .class_ 12), (0, .nameAndType 13 14), (0, u "java/lang/String"), (0, u "value"), (0, u "[B"), (0, .fieldref 10 16), (0, .nameAndType 17 18), (0, u "coder"), (0, u "B"), (2, u "hash"), (0, u "I"), (2, u "hashIsZero"), (0, u "Z"), (0, .methodref 10 28), (0, .nameAndType 5 29), (0, u "([CIILjava/lang/Void;)V"), (8, .fieldref 10 39), (0, .nameAndType 40 26), (0, u "COMPACT_STRINGS"), (1, .class_ 44), (1, u "java/lang/StringUTF16"), (0, u "compress"), (1, .methodref 42 48), (0, .nameAndType 49 50), (0, u "coderFromArrayLen"), (0, u "([BI)B"), (56, .class_ 109), (1, u "java/lang/StringLatin1"), (32, u "()Z"), (34, .methodref 42 178), (0, .nameAndType 45 179), (0, u "([CII)[B"), (31, u "([BB)V"), (122, u "()I"), (0, .methodref 10 336), (0, .nameAndType 17 337), (0, u "()B"), (154, .methodref 10 493), (0, .nameAndType 494 142), (0, u "isLatin1"), (10, .methodref 10 506), (0, .nameAndType 507 334), (0, u "length"), (5, u "checkFromToIndex"), (7, .methodref 10 522), (0, .nameAndType 523 524), (0, u "checkBoundsBeginEnd"), (0, u "(III)V"), (16, .methodref 107 542), (0, .nameAndType 543 544), (0, u "equals"), (0, u "([B[B)Z"), (28, u "(Ljava/lang/Object;)Z"), (1, .class_ 576), (0, u "java/lang/CharSequence"), (22, u "CASE_INSENSITIVE_ORDER"), (0, u "Ljava/util/Comparator;"), (32, .methodref 10 634), (0, .nameAndType 635 636), (0, u "indexOf"), (0, u "(II)I"), (0, .methodref 107 638), (0, .nameAndType 635 639), (0, u "([BIII)I"), (43, u "substring"), (0, u "(II)Ljava/lang/String;"), (0, .methodref 107 686), (0, .nameAndType 687 688), (0, u "newString"), (0, u "([BII)Ljava/lang/String;"), (76, u "(I)I"), (244, u "([C)V"), (42, .fieldref 1054 1055), (0, .class_ 1056), (0, .nameAndType 1057 1058), (0, u "jdk/internal/util/Preconditions"), (0, u "SIOOBE_FORMATTER"), (0, u "Ljava/util/function/BiFunction;"), (3, .methodref 1054 1063), (0, .nameAndType 513 1064), (0, u "(IIILjava/util/function/BiFunction;)I"), (36, u "serialPersistentFields"), (0, u "[Ljava/io/ObjectStreamField;"), (0, .class_ 1104), (0, u "java/lang/String$CaseInsensitiveComparator"), (1, .class_ 1107), (0, u "java/io/Serializable"), (0, .class_ 1109), (0, u "java/lang/Comparable"), (0, .class_ 1111), (0, u "java/lang/constant/Constable"), (0, .class_ 1113), (0, u "java/lang/constant/ConstantDesc"), (2, u "serialVersionUID"), (0, u "J"), (3, u "REPL"), (0, u "C"), (2, u "LATIN1"), (1, u "UTF16")] 323

def k7m0 : Method := { name := "<init>", desc := "()V", sig := { parameters := [], returnType := none }, accessFlags := 1, code := none }
def k7c1 : Code := { maxStack := 5, maxLocals := 2, code := jdk_42_method_3_code, exceptionTable := #[], attributes := #[] }
def k7m1 : Method := { name := "<init>", desc := "([C)V", sig := { parameters := [(.array .char)], returnType := none }, accessFlags := 1, code := some k7c1 }
def k7c2 : Code := { maxStack := 2, maxLocals := 1, code := jdk_42_method_54_code, exceptionTable := #[], attributes := #[] }
def k7m2 : Method := { name := "length", desc := "()I", sig := { parameters := [], returnType := some .int }, accessFlags := 1, code := some k7c2 }
def k7c3 : Code := { maxStack := 2, maxLocals := 3, code := jdk_42_method_66_code, exceptionTable := #[], attributes := #[] }
def k7m3 : Method := { name := "equals", desc := "(Ljava/lang/Object;)Z", sig := { parameters := [(.object "java/lang/Object")], returnType := some .boolean }, accessFlags := 1, code := some k7c3 }
def k7c4 : Code := { maxStack := 3, maxLocals := 2, code := jdk_42_method_79_code, exceptionTable := #[], attributes := #[] }
def k7m4 : Method := { name := "indexOf", desc := "(I)I", sig := { parameters := [.int], returnType := some .int }, accessFlags := 1, code := some k7c4 }
def k7c5 : Code := { maxStack := 4, maxLocals := 3, code := jdk_42_method_80_code, exceptionTable := #[], attributes := #[] }
def k7m5 : Method := { name := "indexOf", desc := "(II)I", sig := { parameters := [.int, .int], returnType := some .int }, accessFlags := 1, code := some k7c5 }
def k7c6 : Code := { maxStack := 3, maxLocals := 5, code := jdk_42_method_92_code, exceptionTable := #[], attributes := #[] }
def k7m6 : Method := { name := "substring", desc := "(II)Ljava/lang/String;", sig := { parameters := [.int, .int], returnType := some (.object "java/lang/String") }, accessFlags := 1, code := some k7c6 }
def k7c7 : Code := { maxStack := 4, maxLocals := 6, code := jdk_42_method_149_code, exceptionTable := #[], attributes := #[] }
def k7m7 : Method := { name := "<init>", desc := "([CIILjava/lang/Void;)V", sig := { parameters := [(.array .char), .int, .int, (.object "java/lang/Void")], returnType := none }, accessFlags := 2, code := some k7c7 }
def k7c8 : Code := { maxStack := 2, maxLocals := 3, code := jdk_42_method_151_code, exceptionTable := #[], attributes := #[] }
def k7m8 : Method := { name := "<init>", desc := "([BB)V", sig := { parameters := [(.array .byte), .byte], returnType := none }, accessFlags := 0, code := some k7c8 }
def k7c9 : Code := { maxStack := 1, maxLocals := 1, code := jdk_42_method_152_code, exceptionTable := #[], attributes := #[] }
def k7m9 : Method := { name := "coder", desc := "()B", sig := { parameters := [], returnType := some .byte }, accessFlags := 0, code := some k7c9 }
def k7c10 : Code := { maxStack := 1, maxLocals := 1, code := jdk_42_method_154_code, exceptionTable := #[], attributes := #[] }
def k7m10 : Method := { name := "isLatin1", desc := "()Z", sig := { parameters := [], returnType := some .boolean }, accessFlags := 0, code := some k7c10 }
def k7c11 : Code := { maxStack := 4, maxLocals := 3, code := jdk_42_method_158_code, exceptionTable := #[], attributes := #[] }
def k7m11 : Method := { name := "checkBoundsBeginEnd", desc := "(III)V", sig := { parameters := [.int, .int, .int], returnType := none }, accessFlags := 8, code := some k7c11 }
/-- java/lang/String -/
def k7 : Class := { plain "java/lang/String" (some 0) with
  accessFlags := 49
  interfaces := #[2, 3, 4, 5, 6]
  cf := some (fileOf pool7 10 #[.nestMembers #[1103]] #[{ accessFlags := 1, nameIndex := 5, descriptorIndex := 6, attributes := #[] }, { accessFlags := 1, nameIndex := 5, descriptorIndex := 1010, attributes := #[] }, { accessFlags := 1, nameIndex := 507, descriptorIndex := 334, attributes := #[] }, { accessFlags := 1, nameIndex := 543, descriptorIndex := 573, attributes := #[] }, { accessFlags := 1, nameIndex := 635, descriptorIndex := 765, attributes := #[] }, { accessFlags := 1, nameIndex := 635, descriptorIndex := 636, attributes := #[] }, { accessFlags := 1, nameIndex := 683, descriptorIndex := 684, attributes := #[] }, { accessFlags := 2, nameIndex := 5, descriptorIndex := 29, attributes := #[] }, { accessFlags := 0, nameIndex := 5, descriptorIndex := 211, attributes := #[] }, { accessFlags := 0, nameIndex := 17, descriptorIndex := 337, attributes := #[] }, { accessFlags := 0, nameIndex := 494, descriptorIndex := 142, attributes := #[] }, { accessFlags := 8, nameIndex := 523, descriptorIndex := 524, attributes := #[] }] 49 2 #[1106, 1108, 575, 1110, 1112] #[{ accessFlags := 18, nameIndex := 13, descriptorIndex := 14, attributes := #[] }, { accessFlags := 18, nameIndex := 17, descriptorIndex := 18, attributes := #[] }, { accessFlags := 2, nameIndex := 21, descriptorIndex := 22, attributes := #[] }, { accessFlags := 2, nameIndex := 25, descriptorIndex := 26, attributes := #[] }, { accessFlags := 26, nameIndex := 1116, descriptorIndex := 1117, attributes := #[] }, { accessFlags := 24, nameIndex := 40, descriptorIndex := 26, attributes := #[] }, { accessFlags := 26, nameIndex := 1101, descriptorIndex := 1102, attributes := #[] }, { accessFlags := 26, nameIndex := 1121, descriptorIndex := 1122, attributes := #[] }, { accessFlags := 25, nameIndex := 599, descriptorIndex := 600, attributes := #[] }, { accessFlags := 24, nameIndex := 1125, descriptorIndex := 18, attributes := #[] }, { accessFlags := 24, nameIndex := 1127, descriptorIndex := 18, attributes := #[] }])
  fields := #[{ name := "value", type := (.array .byte), accessFlags := 18, slot := 0, constantValue := 0 }, { name := "coder", type := .byte, accessFlags := 18, slot := 1, constantValue := 0 }, { name := "hash", type := .int, accessFlags := 2, slot := 2, constantValue := 0 }, { name := "hashIsZero", type := .boolean, accessFlags := 2, slot := 3, constantValue := 0 }, { name := "serialVersionUID", type := .long, accessFlags := 26, slot := 0, constantValue := 0 }, { name := "COMPACT_STRINGS", type := .boolean, accessFlags := 24, slot := 1, constantValue := 0 }, { name := "serialPersistentFields", type := (.array (.object "java/io/ObjectStreamField")), accessFlags := 26, slot := 2, constantValue := 0 }, { name := "REPL", type := .char, accessFlags := 26, slot := 3, constantValue := 0 }, { name := "CASE_INSENSITIVE_ORDER", type := (.object "java/util/Comparator"), accessFlags := 25, slot := 4, constantValue := 0 }, { name := "LATIN1", type := .byte, accessFlags := 24, slot := 5, constantValue := 0 }, { name := "UTF16", type := .byte, accessFlags := 24, slot := 6, constantValue := 0 }]
  methods := #[k7m0, k7m1, k7m2, k7m3, k7m4, k7m5, k7m6, k7m7, k7m8, k7m9, k7m10, k7m11]
  instanceTypes := #[(.array .byte), .byte, .int, .boolean]
  staticTypes := #[.long, .boolean, (.array (.object "java/io/ObjectStreamField")), .char, (.object "java/util/Comparator"), .byte, .byte]
  resolved := Array.replicate 1451 none
  statics := some 0 }

def pool8 : Array CpInfo := pool [(4, .class_ 6), (1, u "java/lang/Object"), (3, .class_ 12), (1, u "com/example/fondsworks/fondsworks/FindingAid"), (0, u "fondsKey"), (0, u "Ljava/lang/String;"), (2, u "parents"), (0, u "[I"), (7, u "texts"), (0, u "Ljava/util/Map;"), (2, u "fondsLevel"), (2, u "levels"), (0, u "[Ljava/lang/String;"), (2, u "ends"), (8, u "firstChildren"), (2, u "children"), (2, u "positions"), (2, u "depths"), (2, u "keyLengths"), (1, .class_ 62), (1, u "java/lang/String"), (5, u "(I)I"), (8, u "keys"), (2, u "lineages"), (2, u "lineageStarts"), (65, .methodref 60 150), (0, .nameAndType 151 152), (0, u "substring"), (0, u "(II)Ljava/lang/String;"), (39, .methodref 60 193), (0, .nameAndType 194 68), (0, u "indexOf"), (0, .class_ 196), (0, u "com/example/fondsworks/fondsworks/FindingAid$MadeKey"), (10, u "fondsKeyIn"), (0, u "(Ljava/lang/String;)Ljava/lang/String;"), (78, .class_ 288), (0, u "com/example/fondsworks/fondsworks/FindingAid$Shape"), (7, u "FONDS"), (0, u "I"), (2, u "KEPT_KEY_LENGTH"), (1, u "MAX_ARRAY_LENGTH")] 80

def k8c0 : Code := { maxStack := 3, maxLocals := 2, code := prog_15_method_9_code, exceptionTable := #[], attributes := #[] }
def k8m0 : Method := { name := "fondsKeyIn", desc := "(Ljava/lang/String;)Ljava/lang/String;", sig := { parameters := [(.object "java/lang/String")], returnType := some (.object "java/lang/String") }, accessFlags := 8, code := some k8c0 }
/-- com/example/fondsworks/fondsworks/FindingAid -/
def k8 : Class := { plain "com/example/fondsworks/fondsworks/FindingAid" (some 0) with
  accessFlags := 48
  interfaces := #[]
  cf := some (fileOf pool8 10 #[.nestMembers #[287, 195]] #[{ accessFlags := 8, nameIndex := 207, descriptorIndex := 208, attributes := #[] }] 48 4 #[] #[{ accessFlags := 24, nameIndex := 296, descriptorIndex := 297, attributes := #[] }, { accessFlags := 24, nameIndex := 300, descriptorIndex := 297, attributes := #[] }, { accessFlags := 26, nameIndex := 302, descriptorIndex := 297, attributes := #[] }, { accessFlags := 18, nameIndex := 13, descriptorIndex := 14, attributes := #[] }, { accessFlags := 18, nameIndex := 17, descriptorIndex := 18, attributes := #[] }, { accessFlags := 18, nameIndex := 26, descriptorIndex := 27, attributes := #[] }, { accessFlags := 18, nameIndex := 30, descriptorIndex := 14, attributes := #[] }, { accessFlags := 18, nameIndex := 33, descriptorIndex := 34, attributes := #[] }, { accessFlags := 18, nameIndex := 37, descriptorIndex := 18, attributes := #[] }, { accessFlags := 18, nameIndex := 49, descriptorIndex := 18, attributes := #[] }, { accessFlags := 18, nameIndex := 46, descriptorIndex := 18, attributes := #[] }, { accessFlags := 18, nameIndex := 52, descriptorIndex := 18, attributes := #[] }, { accessFlags := 18, nameIndex := 55, descriptorIndex := 18, attributes := #[] }, { accessFlags := 18, nameIndex := 58, descriptorIndex := 18, attributes := #[] }, { accessFlags := 18, nameIndex := 77, descriptorIndex := 34, attributes := #[] }, { accessFlags := 18, nameIndex := 80, descriptorIndex := 18, attributes := #[] }, { accessFlags := 18, nameIndex := 83, descriptorIndex := 18, attributes := #[] }])
  fields := #[{ name := "FONDS", type := .int, accessFlags := 24, slot := 0, constantValue := 0 }, { name := "KEPT_KEY_LENGTH", type := .int, accessFlags := 24, slot := 1, constantValue := 0 }, { name := "MAX_ARRAY_LENGTH", type := .int, accessFlags := 26, slot := 2, constantValue := 0 }, { name := "fondsKey", type := (.object "java/lang/String"), accessFlags := 18, slot := 0, constantValue := 0 }, { name := "parents", type := (.array .int), accessFlags := 18, slot := 1, constantValue := 0 }, { name := "texts", type := (.object "java/util/Map"), accessFlags := 18, slot := 2, constantValue := 0 }, { name := "fondsLevel", type := (.object "java/lang/String"), accessFlags := 18, slot := 3, constantValue := 0 }, { name := "levels", type := (.array (.object "java/lang/String")), accessFlags := 18, slot := 4, constantValue := 0 }, { name := "ends", type := (.array .int), accessFlags := 18, slot := 5, constantValue := 0 }, { name := "children", type := (.array .int), accessFlags := 18, slot := 6, constantValue := 0 }, { name := "firstChildren", type := (.array .int), accessFlags := 18, slot := 7, constantValue := 0 }, { name := "positions", type := (.array .int), accessFlags := 18, slot := 8, constantValue := 0 }, { name := "depths", type := (.array .int), accessFlags := 18, slot := 9, constantValue := 0 }, { name := "keyLengths", type := (.array .int), accessFlags := 18, slot := 10, constantValue := 0 }, { name := "keys", type := (.array (.object "java/lang/String")), accessFlags := 18, slot := 11, constantValue := 0 }, { name := "lineages", type := (.array .int), accessFlags := 18, slot := 12, constantValue := 0 }, { name := "lineageStarts", type := (.array .int), accessFlags := 18, slot := 13, constantValue := 0 }]
  methods := #[k8m0]
  instanceTypes := #[(.object "java/lang/String"), (.array .int), (.object "java/util/Map"), (.object "java/lang/String"), (.array (.object "java/lang/String")), (.array .int), (.array .int), (.array .int), (.array .int), (.array .int), (.array .int), (.array (.object "java/lang/String")), (.array .int), (.array .int)]
  staticTypes := #[.int, .int, .int]
  resolved := Array.replicate 383 none
  statics := none }

def pool9 : Array CpInfo := pool [(1, .class_ 2), (0, u "java/lang/String"), (1, .class_ 6), (1, u "java/lang/Object"), (0, u "<init>"), (0, u "()V"), (5, .class_ 16), (1, u "java/lang/StringLatin1"), (21, .methodref 39 40), (0, .class_ 41), (0, .nameAndType 42 43), (0, u "java/lang/Math"), (0, u "min"), (0, u "(II)I"), (44, .methodref 14 89), (0, .nameAndType 90 91), (0, u "canEncode"), (0, u "(I)Z"), (0, .methodref 39 93), (0, .nameAndType 94 43), (0, u "max"), (0, .methodref 14 96), (0, .nameAndType 97 98), (0, u "indexOfChar"), (0, u "([BIII)I"), (2, u "indexOf"), (10, .methodref 1 113), (0, .nameAndType 7 114), (0, u "([BB)V"), (6, u "$assertionsDisabled"), (0, u "Z"), (8, .class_ 133), (1, u "java/util/Arrays"), (17, .string 152), (0, u ""), (43, u "newString"), (0, u "([BII)Ljava/lang/String;"), (23, .class_ 223), (1, u "java/lang/StringLatin1$LinesSpliterator"), (8, .methodref 131 233), (0, .nameAndType 234 235), (0, u "copyOfRange"), (0, u "([BII)[B"), (45, u "equals"), (0, u "([B[B)Z"), (107, .class_ 391), (0, u "java/lang/StringLatin1$CharsSpliterator")] 3

def k9m0 : Method := { name := "<init>", desc := "()V", sig := { parameters := [], returnType := none }, accessFlags := 0, code := none }
def k9c1 : Code := { maxStack := 2, maxLocals := 1, code := jdk_43_method_4_code, exceptionTable := #[], attributes := #[] }
def k9m1 : Method := { name := "canEncode", desc := "(I)Z", sig := { parameters := [.int], returnType := some .boolean }, accessFlags := 9, code := some k9c1 }
def k9c2 : Code := { maxStack := 3, maxLocals := 3, code := jdk_43_method_13_code, exceptionTable := #[], attributes := #[] }
def k9m2 : Method := { name := "equals", desc := "([B[B)Z", sig := { parameters := [(.array .byte), (.array .byte)], returnType := some .boolean }, accessFlags := 9, code := some k9c2 }
def k9c3 : Code := { maxStack := 4, maxLocals := 4, code := jdk_43_method_22_code, exceptionTable := #[], attributes := #[] }
def k9m3 : Method := { name := "indexOf", desc := "([BIII)I", sig := { parameters := [(.array .byte), .int, .int, .int], returnType := some .int }, accessFlags := 9, code := some k9c3 }
def k9c4 : Code := { maxStack := 2, maxLocals := 6, code := jdk_43_method_23_code, exceptionTable := #[], attributes := #[] }
def k9m4 : Method := { name := "indexOfChar", desc := "([BIII)I", sig := { parameters := [(.array .byte), .int, .int, .int], returnType := some .int }, accessFlags := 10, code := some k9c4 }
def k9c5 : Code := { maxStack := 6, maxLocals := 3, code := jdk_43_method_47_code, exceptionTable := #[], attributes := #[] }
def k9m5 : Method := { name := "newString", desc := "([BII)Ljava/lang/String;", sig := { parameters := [(.array .byte), .int, .int], returnType := some (.object "java/lang/String") }, accessFlags := 9, code := some k9c5 }
/-- java/lang/StringLatin1 -/
def k9 : Class := { plain "java/lang/StringLatin1" (some 0) with
  accessFlags := 48
  interfaces := #[]
  cf := some (fileOf pool9 14 #[.nestMembers #[390, 221]] #[{ accessFlags := 0, nameIndex := 7, descriptorIndex := 8, attributes := #[] }, { accessFlags := 9, nameIndex := 90, descriptorIndex := 91, attributes := #[] }, { accessFlags := 9, nameIndex := 281, descriptorIndex := 282, attributes := #[] }, { accessFlags := 9, nameIndex := 101, descriptorIndex := 98, attributes := #[] }, { accessFlags := 10, nameIndex := 97, descriptorIndex := 98, attributes := #[] }, { accessFlags := 9, nameIndex := 196, descriptorIndex := 197, attributes := #[] }] 48 4 #[] #[{ accessFlags := 4120, nameIndex := 121, descriptorIndex := 122, attributes := #[] }])
  fields := #[{ name := "$assertionsDisabled", type := .boolean, accessFlags := 4120, slot := 0, constantValue := 0 }]
  methods := #[k9m0, k9m1, k9m2, k9m3, k9m4, k9m5]
  instanceTypes := #[]
  staticTypes := #[.boolean]
  resolved := Array.replicate 395 none
  statics := none }

def pool10 : Array CpInfo := pool [(1, .class_ 2), (0, u "java/lang/Math"), (1, .class_ 6), (1, u "java/lang/Object"), (0, u "<init>"), (0, u "()V"), (89, .class_ 100), (1, u "java/lang/Math$RandomNumberGeneratorHolder"), (71, u "negativeZeroFloatBits"), (0, u "J"), (2, u "negativeZeroDoubleBits"), (21, u "max"), (2, u "min"), (43, u "$assertionsDisabled"), (0, u "Z"), (88, u "(II)I"), (2, u "twoToTheDoubleScaleDown"), (0, u "D"), (4, u "twoToTheDoubleScaleUp"), (9, u "E"), (3, u "PI"), (2, u "TAU"), (2, u "DEGREES_TO_RADIANS"), (0, u "RADIANS_TO_DEGREES")] 94

def k10m0 : Method := { name := "<init>", desc := "()V", sig := { parameters := [], returnType := none }, accessFlags := 2, code := none }
def k10c1 : Code := { maxStack := 2, maxLocals := 2, code := jdk_29_method_65_code, exceptionTable := #[], attributes := #[] }
def k10m1 : Method := { name := "max", desc := "(II)I", sig := { parameters := [.int, .int], returnType := some .int }, accessFlags := 9, code := some k10c1 }
def k10c2 : Code := { maxStack := 2, maxLocals := 2, code := jdk_29_method_69_code, exceptionTable := #[], attributes := #[] }
def k10m2 : Method := { name := "min", desc := "(II)I", sig := { parameters := [.int, .int], returnType := some .int }, accessFlags := 9, code := some k10c2 }
/-- java/lang/Math -/
def k10 : Class := { plain "java/lang/Math" (some 0) with
  accessFlags := 49
  interfaces := #[]
  cf := some (fileOf pool10 1 #[.nestMembers #[98]] #[{ accessFlags := 2, nameIndex := 7, descriptorIndex := 8, attributes := #[] }, { accessFlags := 9, nameIndex := 198, descriptorIndex := 335, attributes := #[] }, { accessFlags := 9, nameIndex := 201, descriptorIndex := 335, attributes := #[] }] 49 4 #[] #[{ accessFlags := 25, nameIndex := 354, descriptorIndex := 339, attributes := #[] }, { accessFlags := 25, nameIndex := 358, descriptorIndex := 339, attributes := #[] }, { accessFlags := 25, nameIndex := 361, descriptorIndex := 339, attributes := #[] }, { accessFlags := 26, nameIndex := 364, descriptorIndex := 339, attributes := #[] }, { accessFlags := 26, nameIndex := 365, descriptorIndex := 339, attributes := #[] }, { accessFlags := 26, nameIndex := 172, descriptorIndex := 173, attributes := #[] }, { accessFlags := 26, nameIndex := 176, descriptorIndex := 173, attributes := #[] }, { accessFlags := 8, nameIndex := 344, descriptorIndex := 339, attributes := #[] }, { accessFlags := 8, nameIndex := 338, descriptorIndex := 339, attributes := #[] }, { accessFlags := 4120, nameIndex := 245, descriptorIndex := 246, attributes := #[] }])
  fields := #[{ name := "E", type := .double, accessFlags := 25, slot := 0, constantValue := 0 }, { name := "PI", type := .double, accessFlags := 25, slot := 1, constantValue := 0 }, { name := "TAU", type := .double, accessFlags := 25, slot := 2, constantValue := 0 }, { name := "DEGREES_TO_RADIANS", type := .double, accessFlags := 26, slot := 3, constantValue := 0 }, { name := "RADIANS_TO_DEGREES", type := .double, accessFlags := 26, slot := 4, constantValue := 0 }, { name := "negativeZeroFloatBits", type := .long, accessFlags := 26, slot := 5, constantValue := 0 }, { name := "negativeZeroDoubleBits", type := .long, accessFlags := 26, slot := 6, constantValue := 0 }, { name := "twoToTheDoubleScaleUp", type := .double, accessFlags := 8, slot := 7, constantValue := 0 }, { name := "twoToTheDoubleScaleDown", type := .double, accessFlags := 8, slot := 8, constantValue := 0 }, { name := "$assertionsDisabled", type := .boolean, accessFlags := 4120, slot := 9, constantValue := 0 }]
  methods := #[k10m0, k10m1, k10m2]
  instanceTypes := #[]
  staticTypes := #[.double, .double, .double, .double, .double, .long, .long, .double, .double, .boolean]
  resolved := Array.replicate 460 none
  statics := none }

def pool11 : Array CpInfo := pool [(6, .class_ 8), (1, u "java/lang/Object"), (0, u "<init>"), (0, u "()V"), (1, .class_ 14), (1, u "java/lang/StringUTF16"), (31, u "$assertionsDisabled"), (0, u "Z"), (13, u "HI_BYTE_SHIFT"), (0, u "I"), (2, u "LO_BYTE_SHIFT"), (49, .methodref 12 116), (0, .nameAndType 117 118), (0, u "compress"), (0, u "([CI[BII)I"), (3, u "([CII)[B"), (138, u "coderFromArrayLen"), (0, u "([BI)B"), (106, .class_ 371), (1, u "java/lang/StringUTF16$LinesSpliterator"), (58, u "MAX_LENGTH"), (196, .class_ 628), (0, u "java/lang/StringUTF16$CodePointsSpliterator"), (0, .class_ 630), (0, u "java/lang/StringUTF16$CharsSpliterator")] 4

def k11m0 : Method := { name := "<init>", desc := "()V", sig := { parameters := [], returnType := none }, accessFlags := 0, code := none }
def k11c1 : Code := { maxStack := 2, maxLocals := 2, code := jdk_52_method_15_code, exceptionTable := #[], attributes := #[] }
def k11m1 : Method := { name := "coderFromArrayLen", desc := "([BI)B", sig := { parameters := [(.array .byte), .int], returnType := some .byte }, accessFlags := 8, code := some k11c1 }
def k11c2 : Code := { maxStack := 5, maxLocals := 6, code := jdk_52_method_16_code, exceptionTable := #[], attributes := #[] }
def k11m2 : Method := { name := "compress", desc := "([CII)[B", sig := { parameters := [(.array .char), .int, .int], returnType := some (.array .byte) }, accessFlags := 9, code := some k11c2 }
def k11c3 : Code := { maxStack := 3, maxLocals := 7, code := jdk_52_method_21_code, exceptionTable := #[], attributes := #[] }
def k11m3 : Method := { name := "compress", desc := "([CI[BII)I", sig := { parameters := [(.array .char), .int, (.array .byte), .int, .int], returnType := some .int }, accessFlags := 9, code := some k11c3 }
/-- java/lang/StringUTF16 -/
def k11 : Class := { plain "java/lang/StringUTF16" (some 0) with
  accessFlags := 48
  interfaces := #[]
  cf := some (fileOf pool11 12 #[.nestMembers #[627, 629, 369]] #[{ accessFlags := 0, nameIndex := 9, descriptorIndex := 10, attributes := #[] }, { accessFlags := 8, nameIndex := 261, descriptorIndex := 262, attributes := #[] }, { accessFlags := 9, nameIndex := 117, descriptorIndex := 122, attributes := #[] }, { accessFlags := 9, nameIndex := 117, descriptorIndex := 118, attributes := #[] }] 48 6 #[] #[{ accessFlags := 26, nameIndex := 61, descriptorIndex := 62, attributes := #[] }, { accessFlags := 26, nameIndex := 65, descriptorIndex := 62, attributes := #[] }, { accessFlags := 24, nameIndex := 430, descriptorIndex := 62, attributes := #[] }, { accessFlags := 4120, nameIndex := 46, descriptorIndex := 47, attributes := #[] }])
  fields := #[{ name := "HI_BYTE_SHIFT", type := .int, accessFlags := 26, slot := 0, constantValue := 0 }, { name := "LO_BYTE_SHIFT", type := .int, accessFlags := 26, slot := 1, constantValue := 0 }, { name := "MAX_LENGTH", type := .int, accessFlags := 24, slot := 2, constantValue := 0 }, { name := "$assertionsDisabled", type := .boolean, accessFlags := 4120, slot := 3, constantValue := 0 }]
  methods := #[k11m0, k11m1, k11m2, k11m3]
  instanceTypes := #[]
  staticTypes := #[.int, .int, .int, .boolean]
  resolved := Array.replicate 635 none
  statics := none }

def pool12 : Array CpInfo := pool [(2, .class_ 4), (1, u "java/lang/Object"), (0, u "<init>"), (0, u "()V"), (17, .class_ 26), (1, u "jdk/internal/util/Preconditions"), (20, u "checkFromToIndex"), (7, .class_ 56), (0, u "jdk/internal/util/Preconditions$4"), (57, .class_ 115), (0, u "jdk/internal/util/Preconditions$1"), (7, u "SIOOBE_FORMATTER"), (0, u "Ljava/util/function/BiFunction;"), (0, .class_ 126), (0, u "jdk/internal/util/Preconditions$2"), (3, u "AIOOBE_FORMATTER"), (0, .class_ 132), (0, u "jdk/internal/util/Preconditions$3"), (3, u "IOOBE_FORMATTER"), (46, u "(IIILjava/util/function/BiFunction;)I")] 10

def k12m0 : Method := { name := "<init>", desc := "()V", sig := { parameters := [], returnType := none }, accessFlags := 1, code := none }
def k12c1 : Code := { maxStack := 4, maxLocals := 4, code := jdk_41_method_12_code, exceptionTable := #[], attributes := #[] }
def k12m1 : Method := { name := "checkFromToIndex", desc := "(IIILjava/util/function/BiFunction;)I", sig := { parameters := [.int, .int, .int, (.object "java/util/function/BiFunction")], returnType := some .int }, accessFlags := 9, code := some k12c1 }
/-- jdk/internal/util/Preconditions -/
def k12 : Class := { plain "jdk/internal/util/Preconditions" (some 0) with
  accessFlags := 33
  interfaces := #[]
  cf := some (fileOf pool12 24 #[.nestMembers #[55, 131, 125, 114]] #[{ accessFlags := 1, nameIndex := 5, descriptorIndex := 6, attributes := #[] }, { accessFlags := 9, nameIndex := 47, descriptorIndex := 183, attributes := #[] }] 33 2 #[] #[{ accessFlags := 25, nameIndex := 123, descriptorIndex := 124, attributes := #[] }, { accessFlags := 25, nameIndex := 130, descriptorIndex := 124, attributes := #[] }, { accessFlags := 25, nameIndex := 136, descriptorIndex := 124, attributes := #[] }])
  fields := #[{ name := "SIOOBE_FORMATTER", type := (.object "java/util/function/BiFunction"), accessFlags := 25, slot := 0, constantValue := 0 }, { name := "AIOOBE_FORMATTER", type := (.object "java/util/function/BiFunction"), accessFlags := 25, slot := 1, constantValue := 0 }, { name := "IOOBE_FORMATTER", type := (.object "java/util/function/BiFunction"), accessFlags := 25, slot := 2, constantValue := 0 }]
  methods := #[k12m0, k12m1]
  instanceTypes := #[]
  staticTypes := #[(.object "java/util/function/BiFunction"), (.object "java/util/function/BiFunction"), (.object "java/util/function/BiFunction")]
  resolved := Array.replicate 194 none
  statics := some 1 }

def pool13 : Array CpInfo := pool [(2, .class_ 4), (1, u "java/lang/Object"), (0, u "<init>"), (0, u "()V"), (7, .class_ 16), (1, u "java/util/Arrays"), (57, .class_ 76), (1, u "java/util/Arrays$NaturalOrder"), (36, .class_ 115), (1, u "java/util/Arrays$LegacyMergeSort"), (1, u "Z"), (21, u "copyOfRange"), (10, .methodref 151 152), (0, .class_ 153), (0, .nameAndType 154 155), (0, u "java/lang/System"), (0, u "arraycopy"), (0, u "(Ljava/lang/Object;ILjava/lang/Object;II)V"), (148, .methodref 305 306), (0, .class_ 307), (0, .nameAndType 308 309), (0, u "java/lang/Math"), (0, u "min"), (0, u "(II)I"), (29, .methodref 14 340), (0, .nameAndType 341 342), (0, u "copyOfRangeByte"), (0, u "([BII)[B"), (0, .methodref 14 344), (0, .nameAndType 345 346), (0, u "checkLength"), (0, u "(II)V"), (28, .class_ 376), (0, u "java/util/Arrays$ArrayList"), (68, u "$assertionsDisabled"), (269, u "MIN_ARRAY_SORT_GRAN"), (0, u "I"), (2, u "INSERTIONSORT_THRESHOLD"), (255, .class_ 976), (0, u "java/util/Arrays$ArrayItr")] 52

def k13m0 : Method := { name := "<init>", desc := "()V", sig := { parameters := [], returnType := none }, accessFlags := 2, code := none }
def k13c1 : Code := { maxStack := 4, maxLocals := 2, code := jdk_65_method_131_code, exceptionTable := #[], attributes := #[] }
def k13m1 : Method := { name := "checkLength", desc := "(II)V", sig := { parameters := [.int, .int], returnType := none }, accessFlags := 10, code := some k13c1 }
def k13c2 : Code := { maxStack := 3, maxLocals := 3, code := jdk_65_method_132_code, exceptionTable := #[], attributes := #[] }
def k13m2 : Method := { name := "copyOfRange", desc := "([BII)[B", sig := { parameters := [(.array .byte), .int, .int], returnType := some (.array .byte) }, accessFlags := 9, code := some k13c2 }
def k13c3 : Code := { maxStack := 6, maxLocals := 5, code := jdk_65_method_133_code, exceptionTable := #[], attributes := #[] }
def k13m3 : Method := { name := "copyOfRangeByte", desc := "([BII)[B", sig := { parameters := [(.array .byte), .int, .int], returnType := some (.array .byte) }, accessFlags := 10, code := some k13c3 }
/-- java/util/Arrays -/
def k13 : Class := { plain "java/util/Arrays" (some 0) with
  accessFlags := 49
  interfaces := #[]
  cf := some (fileOf pool13 14 #[.nestMembers #[975, 375, 113, 74]] #[{ accessFlags := 2, nameIndex := 5, descriptorIndex := 6, attributes := #[] }, { accessFlags := 10, nameIndex := 345, descriptorIndex := 346, attributes := #[] }, { accessFlags := 9, nameIndex := 139, descriptorIndex := 342, attributes := #[] }, { accessFlags := 10, nameIndex := 341, descriptorIndex := 342, attributes := #[] }] 49 2 #[] #[{ accessFlags := 26, nameIndex := 715, descriptorIndex := 716, attributes := #[] }, { accessFlags := 26, nameIndex := 719, descriptorIndex := 716, attributes := #[] }, { accessFlags := 4120, nameIndex := 445, descriptorIndex := 117, attributes := #[] }])
  fields := #[{ name := "MIN_ARRAY_SORT_GRAN", type := .int, accessFlags := 26, slot := 0, constantValue := 0 }, { name := "INSERTIONSORT_THRESHOLD", type := .int, accessFlags := 26, slot := 1, constantValue := 0 }, { name := "$assertionsDisabled", type := .boolean, accessFlags := 4120, slot := 2, constantValue := 0 }]
  methods := #[k13m0, k13m1, k13m2, k13m3]
  instanceTypes := #[]
  staticTypes := #[.int, .int, .boolean]
  resolved := Array.replicate 1029 none
  statics := none }

def pool14 : Array CpInfo := pool [(2, .class_ 4), (1, u "java/lang/Object"), (0, u "<init>"), (0, u "()V"), (1, .class_ 10), (1, u "java/lang/System"), (0, u "allowSecurityManager"), (0, u "I"), (16, u "cons"), (0, u "Ljava/io/Console;"), (77, .class_ 110), (1, u "java/lang/System$CallersHolder"), (43, u "initialErrStream"), (0, u "Ljava/io/PrintStream;"), (19, u "security"), (0, u "Ljava/lang/SecurityManager;"), (31, .class_ 209), (0, u "java/lang/System$1"), (7, u "props"), (0, u "Ljava/util/Properties;"), (2, u "lineSeparator"), (0, u "Ljava/lang/String;"), (96, .class_ 321), (1, u "java/lang/System$LoggerFinder"), (5, .class_ 328), (0, u "java/lang/System$Logger"), (67, u "err"), (2, u "out"), (91, u "notSupportedJnuEncoding"), (15, u "in"), (17, u "initialIn"), (0, u "Ljava/io/InputStream;"), (35, u "bootLayer"), (0, u "Ljava/lang/ModuleLayer;"), (99, .class_ 664), (0, u "java/lang/System$2"), (9, u "NEVER"), (2, u "MAYBE"), (49, u "arraycopy"), (0, u "(Ljava/lang/Object;ILjava/lang/Object;II)V"), (72, .class_ 802), (0, u "java/lang/System$Logger$Level")] 31

def k14m0 : Method := { name := "<init>", desc := "()V", sig := { parameters := [], returnType := none }, accessFlags := 2, code := none }
def k14m1 : Method := { name := "arraycopy", desc := "(Ljava/lang/Object;ILjava/lang/Object;II)V", sig := { parameters := [(.object "java/lang/Object"), .int, (.object "java/lang/Object"), .int, .int], returnType := none }, accessFlags := 265, code := none }
/-- java/lang/System -/
def k14 : Class := { plain "java/lang/System" (some 0) with
  accessFlags := 49
  interfaces := #[]
  cf := some (fileOf pool14 8 #[.nestMembers #[319, 327, 801, 108, 663, 208]] #[{ accessFlags := 2, nameIndex := 5, descriptorIndex := 6, attributes := #[] }, { accessFlags := 265, nameIndex := 727, descriptorIndex := 728, attributes := #[] }] 49 2 #[] #[{ accessFlags := 25, nameIndex := 507, descriptorIndex := 526, attributes := #[] }, { accessFlags := 25, nameIndex := 399, descriptorIndex := 155, attributes := #[] }, { accessFlags := 25, nameIndex := 396, descriptorIndex := 155, attributes := #[] }, { accessFlags := 10, nameIndex := 525, descriptorIndex := 526, attributes := #[] }, { accessFlags := 26, nameIndex := 674, descriptorIndex := 12, attributes := #[] }, { accessFlags := 26, nameIndex := 677, descriptorIndex := 12, attributes := #[] }, { accessFlags := 10, nameIndex := 11, descriptorIndex := 12, attributes := #[] }, { accessFlags := 74, nameIndex := 175, descriptorIndex := 176, attributes := #[] }, { accessFlags := 10, nameIndex := 491, descriptorIndex := 222, attributes := #[] }, { accessFlags := 74, nameIndex := 29, descriptorIndex := 30, attributes := #[] }, { accessFlags := 74, nameIndex := 154, descriptorIndex := 155, attributes := #[] }, { accessFlags := 10, nameIndex := 217, descriptorIndex := 218, attributes := #[] }, { accessFlags := 10, nameIndex := 221, descriptorIndex := 222, attributes := #[] }, { accessFlags := 8, nameIndex := 562, descriptorIndex := 563, attributes := #[] }])
  fields := #[{ name := "in", type := (.object "java/io/InputStream"), accessFlags := 25, slot := 0, constantValue := 0 }, { name := "out", type := (.object "java/io/PrintStream"), accessFlags := 25, slot := 1, constantValue := 0 }, { name := "err", type := (.object "java/io/PrintStream"), accessFlags := 25, slot := 2, constantValue := 0 }, { name := "initialIn", type := (.object "java/io/InputStream"), accessFlags := 10, slot := 3, constantValue := 0 }, { name := "NEVER", type := .int, accessFlags := 26, slot := 4, constantValue := 0 }, { name := "MAYBE", type := .int, accessFlags := 26, slot := 5, constantValue := 0 }, { name := "allowSecurityManager", type := .int, accessFlags := 10, slot := 6, constantValue := 0 }, { name := "security", type := (.object "java/lang/SecurityManager"), accessFlags := 74, slot := 7, constantValue := 0 }, { name := "notSupportedJnuEncoding", type := (.object "java/lang/String"), accessFlags := 10, slot := 8, constantValue := 0 }, { name := "cons", type := (.object "java/io/Console"), accessFlags := 74, slot := 9, constantValue := 0 }, { name := "initialErrStream", type := (.object "java/io/PrintStream"), accessFlags := 74, slot := 10, constantValue := 0 }, { name := "props", type := (.object "java/util/Properties"), accessFlags := 10, slot := 11, constantValue := 0 }, { name := "lineSeparator", type := (.object "java/lang/String"), accessFlags := 10, slot := 12, constantValue := 0 }, { name := "bootLayer", type := (.object "java/lang/ModuleLayer"), accessFlags := 8, slot := 13, constantValue := 0 }]
  methods := #[k14m0, k14m1]
  instanceTypes := #[]
  staticTypes := #[(.object "java/io/InputStream"), (.object "java/io/PrintStream"), (.object "java/io/PrintStream"), (.object "java/io/InputStream"), .int, .int, .int, (.object "java/lang/SecurityManager"), (.object "java/lang/String"), (.object "java/io/Console"), (.object "java/io/PrintStream"), (.object "java/util/Properties"), (.object "java/lang/String"), (.object "java/lang/ModuleLayer")]
  resolved := Array.replicate 834 none
  statics := none }

def pool15 : Array CpInfo := pool [(9, u "<init>"), (6, .class_ 18), (1, u "java/lang/Object"), (0, u "()V"), (1, .class_ 23), (1, u "jdk/internal/util/ArraysSupport"), (0, u "LOG2_ARRAY_LONG_INDEX_SCALE"), (0, u "I"), (2, u "U"), (0, u "Ljdk/internal/misc/Unsafe;"), (8, u "BIG_ENDIAN"), (0, u "Z"), (8, u "LOG2_BYTE_BIT_SIZE"), (4, u "LOG2_ARRAY_INT_INDEX_SCALE"), (54, u "JLA"), (0, u "Ljdk/internal/access/JavaLangAccess;"), (11, u "LOG2_ARRAY_BOOLEAN_INDEX_SCALE"), (9, u "LOG2_ARRAY_BYTE_INDEX_SCALE"), (5, u "LOG2_ARRAY_CHAR_INDEX_SCALE"), (5, u "LOG2_ARRAY_SHORT_INDEX_SCALE"), (18, u "LOG2_ARRAY_FLOAT_INDEX_SCALE"), (24, u "LOG2_ARRAY_DOUBLE_INDEX_SCALE"), (89, u "T_BOOLEAN"), (2, u "T_CHAR"), (1, u "T_FLOAT"), (1, u "T_DOUBLE"), (1, u "T_BYTE"), (1, u "T_SHORT"), (1, u "T_INT"), (1, u "T_LONG"), (1, u "SOFT_MAX_ARRAY_LENGTH")] 83

def k15m0 : Method := { name := "<init>", desc := "()V", sig := { parameters := [], returnType := none }, accessFlags := 2, code := none }
/-- jdk/internal/util/ArraysSupport -/
def k15 : Class := { plain "jdk/internal/util/ArraysSupport" (some 0) with
  accessFlags := 33
  interfaces := #[]
  cf := some (fileOf pool15 21 #[] #[{ accessFlags := 2, nameIndex := 9, descriptorIndex := 19, attributes := #[] }] 33 16 #[] #[{ accessFlags := 24, nameIndex := 28, descriptorIndex := 29, attributes := #[] }, { accessFlags := 26, nameIndex := 38, descriptorIndex := 39, attributes := #[] }, { accessFlags := 25, nameIndex := 121, descriptorIndex := 25, attributes := #[] }, { accessFlags := 25, nameIndex := 131, descriptorIndex := 25, attributes := #[] }, { accessFlags := 25, nameIndex := 137, descriptorIndex := 25, attributes := #[] }, { accessFlags := 25, nameIndex := 143, descriptorIndex := 25, attributes := #[] }, { accessFlags := 25, nameIndex := 53, descriptorIndex := 25, attributes := #[] }, { accessFlags := 25, nameIndex := 24, descriptorIndex := 25, attributes := #[] }, { accessFlags := 25, nameIndex := 162, descriptorIndex := 25, attributes := #[] }, { accessFlags := 25, nameIndex := 187, descriptorIndex := 25, attributes := #[] }, { accessFlags := 26, nameIndex := 48, descriptorIndex := 25, attributes := #[] }, { accessFlags := 25, nameIndex := 277, descriptorIndex := 25, attributes := #[] }, { accessFlags := 25, nameIndex := 280, descriptorIndex := 25, attributes := #[] }, { accessFlags := 25, nameIndex := 282, descriptorIndex := 25, attributes := #[] }, { accessFlags := 25, nameIndex := 284, descriptorIndex := 25, attributes := #[] }, { accessFlags := 25, nameIndex := 286, descriptorIndex := 25, attributes := #[] }, { accessFlags := 25, nameIndex := 288, descriptorIndex := 25, attributes := #[] }, { accessFlags := 25, nameIndex := 290, descriptorIndex := 25, attributes := #[] }, { accessFlags := 25, nameIndex := 292, descriptorIndex := 25, attributes := #[] }, { accessFlags := 26, nameIndex := 108, descriptorIndex := 109, attributes := #[] }, { accessFlags := 25, nameIndex := 294, descriptorIndex := 25, attributes := #[] }])
  fields := #[{ name := "U", type := (.object "jdk/internal/misc/Unsafe"), accessFlags := 24, slot := 0, constantValue := 0 }, { name := "BIG_ENDIAN", type := .boolean, accessFlags := 26, slot := 1, constantValue := 0 }, { name := "LOG2_ARRAY_BOOLEAN_INDEX_SCALE", type := .int, accessFlags := 25, slot := 2, constantValue := 0 }, { name := "LOG2_ARRAY_BYTE_INDEX_SCALE", type := .int, accessFlags := 25, slot := 3, constantValue := 0 }, { name := "LOG2_ARRAY_CHAR_INDEX_SCALE", type := .int, accessFlags := 25, slot := 4, constantValue := 0 }, { name := "LOG2_ARRAY_SHORT_INDEX_SCALE", type := .int, accessFlags := 25, slot := 5, constantValue := 0 }, { name := "LOG2_ARRAY_INT_INDEX_SCALE", type := .int, accessFlags := 25, slot := 6, constantValue := 0 }, { name := "LOG2_ARRAY_LONG_INDEX_SCALE", type := .int, accessFlags := 25, slot := 7, constantValue := 0 }, { name := "LOG2_ARRAY_FLOAT_INDEX_SCALE", type := .int, accessFlags := 25, slot := 8, constantValue := 0 }, { name := "LOG2_ARRAY_DOUBLE_INDEX_SCALE", type := .int, accessFlags := 25, slot := 9, constantValue := 0 }, { name := "LOG2_BYTE_BIT_SIZE", type := .int, accessFlags := 26, slot := 10, constantValue := 0 }, { name := "T_BOOLEAN", type := .int, accessFlags := 25, slot := 11, constantValue := 0 }, { name := "T_CHAR", type := .int, accessFlags := 25, slot := 12, constantValue := 0 }, { name := "T_FLOAT", type := .int, accessFlags := 25, slot := 13, constantValue := 0 }, { name := "T_DOUBLE", type := .int, accessFlags := 25, slot := 14, constantValue := 0 }, { name := "T_BYTE", type := .int, accessFlags := 25, slot := 15, constantValue := 0 }, { name := "T_SHORT", type := .int, accessFlags := 25, slot := 16, constantValue := 0 }, { name := "T_INT", type := .int, accessFlags := 25, slot := 17, constantValue := 0 }, { name := "T_LONG", type := .int, accessFlags := 25, slot := 18, constantValue := 0 }, { name := "JLA", type := (.object "jdk/internal/access/JavaLangAccess"), accessFlags := 26, slot := 19, constantValue := 0 }, { name := "SOFT_MAX_ARRAY_LENGTH", type := .int, accessFlags := 25, slot := 20, constantValue := 0 }]
  methods := #[k15m0]
  instanceTypes := #[]
  staticTypes := #[(.object "jdk/internal/misc/Unsafe"), .boolean, .int, .int, .int, .int, .int, .int, .int, .int, .int, .int, .int, .int, .int, .int, .int, .int, .int, (.object "jdk/internal/access/JavaLangAccess"), .int]
  resolved := Array.replicate 378 none
  statics := none }

def pool16 : Array CpInfo := pool [(1, u "java/lang/Cloneable"), (0, .class_ 1), (0, u "java/lang/Object"), (0, .class_ 3)] 3

/-- java/lang/Cloneable -/
def k16 : Class := { plain "java/lang/Cloneable" (some 0) with
  accessFlags := 1537
  interfaces := #[]
  cf := some (fileOf pool16 2 #[] #[] 1537 4 #[] #[])
  fields := #[]
  methods := #[]
  instanceTypes := #[]
  staticTypes := #[]
  resolved := Array.replicate 8 none
  statics := none }

/-- the primitive byte -/
def k17 : Class := { plain "byte" none with kind := .primitive 'B', accessFlags := 0x411 }
/-- [B -/
def k18 : Class := { plain "[B" (some 0) with kind := .array 17 .byte, interfaces := #[16, 2], accessFlags := 1041 }

/-- the primitive char -/
def k19 : Class := { plain "char" none with kind := .primitive 'C', accessFlags := 0x411 }
/-- [C -/
def k20 : Class := { plain "[C" (some 0) with kind := .array 19 .char, interfaces := #[16, 2], accessFlags := 1041 }

/-- the primitive int -/
def k21 : Class := { plain "int" none with kind := .primitive 'I', accessFlags := 0x411 }
/-- [I -/
def k22 : Class := { plain "[I" (some 0) with kind := .array 21 .int, interfaces := #[16, 2], accessFlags := 1041 }

def heap : Heap := #[{ cls := 7, slots := #[.long 0, .int 1, .null, .int 0, .null, .int 0, .int 0], vm := .statics 7 },
  { cls := 12, slots := #[.null, .null, .null], vm := .statics 12 }]
def classes : Array Class := #[k0, k1, k2, k3, k4, k5, k6, k7, k8, k9, k10, k11, k12, k13, k14, k15, k16, k17, k18, k19, k20, k21, k22]
def interned : List (Array UInt16 × Addr) := []
def slotsUsed : Nat := 10
def theMethod : MethodId := ⟨1, 3⟩
def args0 : Array Value := #[.int 4, .int 261, .int 262, .int 4, .int 263]
def aboutOver (below : List Frame) : State where
  vm := { classes := classes, interned := interned.toArray }
  heap := heap
  slotsUsed := slotsUsed
  threads := #[{ frames := .invoking theMethod args0 :: below }]
def below0 : List Frame := [.native { method := ⟨0, 0⟩, args := #[] }]
def about1 : State := aboutOver below0
def p0 : Program := .bare "" "" ""
def e0 : Env := launch0.env 0 0 0
theorem w_frames : about1.frames = Frame.invoking theMethod args0 :: below0 := rfl
set_option maxRecDepth 65536 in
theorem w_args : argsFit about1.vm theMethod args0 = true := by decide +kernel
set_option maxRecDepth 65536 in
theorem w_heap : heapFits about1 = true := by decide +kernel
set_option maxRecDepth 65536 in
theorem w_runnable : about1.curStatus? = some .runnable := by decide +kernel
set_option maxRecDepth 65536 in
theorem w_alone : about1.alone = true := by decide +kernel
set_option maxRecDepth 65536 in
theorem w_named : about1.methodNamed? x = some theMethod := by decide +kernel
set_option maxRecDepth 65536 in
theorem w_hears : about1.hears theMethod below0 = true := by decide +kernel
set_option maxRecDepth 65536 in
theorem w_ripe : about1.ripe theMethod args0 below0 = true := by decide +kernel
theorem w_running : about1.status = .running := rfl
set_option maxRecDepth 65536 in
theorem w_room : about1.hasRoom e0.platform room_1 = true :=
  launch0.hasRoom_least _ room_1 (by decide +kernel) (by decide +kernel) (by decide +kernel) (by decide +kernel) (by decide +kernel) (by decide +kernel)
theorem allAtoms_all (ts : List Jvm.Cond) (a : Array Jvm.Value) (st : Jvm.State) : (allAtoms ts).before a st = ts.all (fun c => c.before a st) := by
  induction ts with
  | nil => rfl
  | cons c t ih =>
    show (Jvm.Cond.and c (allAtoms t)).before a st = _
    rw [Jvm.Cond.before_and, ih, List.all_cons]
def words1 : List Jvm.Cond := Jvm.Cond.code x code maxLocals ret :: tables_1
/-- a 'code' word, met by the world's own term for the bytes: nothing is compared byte by byte -/
theorem code_word {y : MethodName} {bytes : ByteArray} {mx : Nat} {rt : Option FieldType} {a : Array Value} {s : State} {m : MethodId} {meth : Method} {c : Code} (h1 : s.methodNamed? y = some m) (h2 : s.vm.method? m = some meth) (h3 : meth.code = some c) (h4 : c.code = bytes)
    (h5 : (c.maxLocals == mx && c.exceptionTable.isEmpty && decide (c.maxStack ≤ mostOperands) && decide (meth.sig.returnType = rt) && !meth.locks && decide (parseMethodDescriptor y.desc = some meth.sig)) = true) : (Jvm.Cond.code y bytes mx rt).before a s = true := by
  simp only [Bool.and_eq_true, beq_iff_eq, Bool.not_eq_true', decide_eq_true_eq] at h5
  obtain ⟨⟨⟨⟨⟨g1, g2⟩, g3⟩, g4⟩, g5⟩, g6⟩ := h5
  simp [Cond.before, Cond.holds, Cond.value, h1, h2, h3, h4, g1, g2, g3, g4, g5, g6]
def isCode : Jvm.Cond → Bool
  | .code _ _ _ _ => true
  | _ => false
theorem all_split {L : List Jvm.Cond} {P : Jvm.Cond → Bool} (h1 : L.all (fun c => isCode c || P c) = true) (h2 : ∀ c ∈ L.filter isCode, P c = true) : L.all P = true := by
  refine List.all_eq_true.mpr fun c hc => ?_
  have h := List.all_eq_true.mp h1 c hc
  rcases Bool.eq_false_or_eq_true (isCode c) with hi | hi
  · exact h2 c (List.mem_filter.mpr ⟨hc, hi⟩)
  · simpa [hi] using h
set_option maxRecDepth 65536 in
theorem w_c0 : (Jvm.Cond.code x code maxLocals ret).before args0 about1 = true := code_word (m := ⟨1, 3⟩) (meth := k1m3) (c := k1c3) (by decide +kernel) rfl rfl rfl (by decide +kernel)
set_option maxRecDepth 65536 in
theorem w_c1 : (Jvm.Cond.code ({ cls := "com/example/fondsworks/fondsworks/FindingAidFondsKeyInPinLaw", name := "drawn", desc := "(I)C" } : Jvm.MethodName) method_2_code (1 : Nat) (Option.some Jvm.ClassFile.FieldType.char)).before args0 about1 = true := code_word (m := ⟨1, 1⟩) (meth := k1m1) (c := k1c1) (by decide +kernel) rfl rfl rfl (by decide +kernel)
set_option maxRecDepth 65536 in
theorem w_c2 : (Jvm.Cond.code ({ cls := "com/example/fondsworks/fondsworks/FindingAidFondsKeyInPinLaw", name := "str", desc := "(ICCCC)Ljava/lang/String;" } : Jvm.MethodName) method_3_code (5 : Nat) (Option.some (Jvm.ClassFile.FieldType.object "java/lang/String"))).before args0 about1 = true := code_word (m := ⟨1, 2⟩) (meth := k1m2) (c := k1c2) (by decide +kernel) rfl rfl rfl (by decide +kernel)
set_option maxRecDepth 65536 in
theorem w_c3 : (Jvm.Cond.code ({ cls := "java/lang/String", name := "<init>", desc := "([C)V" } : Jvm.MethodName) jdk_42_method_3_code (2 : Nat) (Option.none : Option Jvm.ClassFile.FieldType)).before args0 about1 = true := code_word (m := ⟨7, 1⟩) (meth := k7m1) (c := k7c1) (by decide +kernel) rfl rfl rfl (by decide +kernel)
set_option maxRecDepth 65536 in
theorem w_c4 : (Jvm.Cond.code ({ cls := "java/lang/String", name := "<init>", desc := "([CIILjava/lang/Void;)V" } : Jvm.MethodName) jdk_42_method_149_code (6 : Nat) (Option.none : Option Jvm.ClassFile.FieldType)).before args0 about1 = true := code_word (m := ⟨7, 7⟩) (meth := k7m7) (c := k7c7) (by decide +kernel) rfl rfl rfl (by decide +kernel)
set_option maxRecDepth 65536 in
theorem w_c5 : (Jvm.Cond.code ({ cls := "java/lang/Object", name := "<init>", desc := "()V" } : Jvm.MethodName) object_method_1_code (1 : Nat) (Option.none : Option Jvm.ClassFile.FieldType)).before args0 about1 = true := code_word (m := ⟨0, 0⟩) (meth := k0m0) (c := k0c0) (by decide +kernel) rfl rfl rfl (by decide +kernel)
set_option maxRecDepth 65536 in
theorem w_c6 : (Jvm.Cond.code ({ cls := "com/example/fondsworks/fondsworks/FindingAid", name := "fondsKeyIn", desc := "(Ljava/lang/String;)Ljava/lang/String;" } : Jvm.MethodName) prog_15_method_9_code (2 : Nat) (Option.some (Jvm.ClassFile.FieldType.object "java/lang/String"))).before args0 about1 = true := code_word (m := ⟨8, 0⟩) (meth := k8m0) (c := k8c0) (by decide +kernel) rfl rfl rfl (by decide +kernel)
set_option maxRecDepth 65536 in
theorem w_c7 : (Jvm.Cond.code ({ cls := "java/lang/String", name := "indexOf", desc := "(I)I" } : Jvm.MethodName) jdk_42_method_79_code (2 : Nat) (Option.some Jvm.ClassFile.FieldType.int)).before args0 about1 = true := code_word (m := ⟨7, 4⟩) (meth := k7m4) (c := k7c4) (by decide +kernel) rfl rfl rfl (by decide +kernel)
set_option maxRecDepth 65536 in
theorem w_c8 : (Jvm.Cond.code ({ cls := "java/lang/String", name := "indexOf", desc := "(II)I" } : Jvm.MethodName) jdk_42_method_80_code (3 : Nat) (Option.some Jvm.ClassFile.FieldType.int)).before args0 about1 = true := code_word (m := ⟨7, 5⟩) (meth := k7m5) (c := k7c5) (by decide +kernel) rfl rfl rfl (by decide +kernel)
set_option maxRecDepth 65536 in
theorem w_c9 : (Jvm.Cond.code ({ cls := "java/lang/String", name := "isLatin1", desc := "()Z" } : Jvm.MethodName) jdk_42_method_154_code (1 : Nat) (Option.some Jvm.ClassFile.FieldType.boolean)).before args0 about1 = true := code_word (m := ⟨7, 10⟩) (meth := k7m10) (c := k7c10) (by decide +kernel) rfl rfl rfl (by decide +kernel)
set_option maxRecDepth 65536 in
theorem w_c10 : (Jvm.Cond.code ({ cls := "java/lang/String", name := "length", desc := "()I" } : Jvm.MethodName) jdk_42_method_54_code (1 : Nat) (Option.some Jvm.ClassFile.FieldType.int)).before args0 about1 = true := code_word (m := ⟨7, 2⟩) (meth := k7m2) (c := k7c2) (by decide +kernel) rfl rfl rfl (by decide +kernel)
set_option maxRecDepth 65536 in
theorem w_c11 : (Jvm.Cond.code ({ cls := "java/lang/String", name := "coder", desc := "()B" } : Jvm.MethodName) jdk_42_method_152_code (1 : Nat) (Option.some Jvm.ClassFile.FieldType.byte)).before args0 about1 = true := code_word (m := ⟨7, 9⟩) (meth := k7m9) (c := k7c9) (by decide +kernel) rfl rfl rfl (by decide +kernel)
set_option maxRecDepth 65536 in
theorem w_c12 : (Jvm.Cond.code ({ cls := "java/lang/StringLatin1", name := "indexOf", desc := "([BIII)I" } : Jvm.MethodName) jdk_43_method_22_code (4 : Nat) (Option.some Jvm.ClassFile.FieldType.int)).before args0 about1 = true := code_word (m := ⟨9, 3⟩) (meth := k9m3) (c := k9c3) (by decide +kernel) rfl rfl rfl (by decide +kernel)
set_option maxRecDepth 65536 in
theorem w_c13 : (Jvm.Cond.code ({ cls := "java/lang/StringLatin1", name := "canEncode", desc := "(I)Z" } : Jvm.MethodName) jdk_43_method_4_code (1 : Nat) (Option.some Jvm.ClassFile.FieldType.boolean)).before args0 about1 = true := code_word (m := ⟨9, 1⟩) (meth := k9m1) (c := k9c1) (by decide +kernel) rfl rfl rfl (by decide +kernel)
set_option maxRecDepth 65536 in
theorem w_c14 : (Jvm.Cond.code ({ cls := "java/lang/Math", name := "max", desc := "(II)I" } : Jvm.MethodName) jdk_29_method_65_code (2 : Nat) (Option.some Jvm.ClassFile.FieldType.int)).before args0 about1 = true := code_word (m := ⟨10, 1⟩) (meth := k10m1) (c := k10c1) (by decide +kernel) rfl rfl rfl (by decide +kernel)
set_option maxRecDepth 65536 in
theorem w_c15 : (Jvm.Cond.code ({ cls := "java/lang/Math", name := "min", desc := "(II)I" } : Jvm.MethodName) jdk_29_method_69_code (2 : Nat) (Option.some Jvm.ClassFile.FieldType.int)).before args0 about1 = true := code_word (m := ⟨10, 2⟩) (meth := k10m2) (c := k10c2) (by decide +kernel) rfl rfl rfl (by decide +kernel)
set_option maxRecDepth 65536 in
theorem w_c16 : (Jvm.Cond.code ({ cls := "java/lang/String", name := "equals", desc := "(Ljava/lang/Object;)Z" } : Jvm.MethodName) jdk_42_method_66_code (3 : Nat) (Option.some Jvm.ClassFile.FieldType.boolean)).before args0 about1 = true := code_word (m := ⟨7, 3⟩) (meth := k7m3) (c := k7c3) (by decide +kernel) rfl rfl rfl (by decide +kernel)
set_option maxRecDepth 65536 in
theorem w_c17 : (Jvm.Cond.code ({ cls := "java/lang/StringLatin1", name := "equals", desc := "([B[B)Z" } : Jvm.MethodName) jdk_43_method_13_code (3 : Nat) (Option.some Jvm.ClassFile.FieldType.boolean)).before args0 about1 = true := code_word (m := ⟨9, 2⟩) (meth := k9m2) (c := k9c2) (by decide +kernel) rfl rfl rfl (by decide +kernel)
set_option maxRecDepth 65536 in
theorem w_c18 : (Jvm.Cond.code ({ cls := "java/lang/StringUTF16", name := "compress", desc := "([CII)[B" } : Jvm.MethodName) jdk_52_method_16_code (6 : Nat) (Option.some (Jvm.ClassFile.FieldType.array Jvm.ClassFile.FieldType.byte))).before args0 about1 = true := code_word (m := ⟨11, 2⟩) (meth := k11m2) (c := k11c2) (by decide +kernel) rfl rfl rfl (by decide +kernel)
set_option maxRecDepth 65536 in
theorem w_c19 : (Jvm.Cond.code ({ cls := "java/lang/StringUTF16", name := "compress", desc := "([CI[BII)I" } : Jvm.MethodName) jdk_52_method_21_code (7 : Nat) (Option.some Jvm.ClassFile.FieldType.int)).before args0 about1 = true := code_word (m := ⟨11, 3⟩) (meth := k11m3) (c := k11c3) (by decide +kernel) rfl rfl rfl (by decide +kernel)
set_option maxRecDepth 65536 in
theorem w_c20 : (Jvm.Cond.code ({ cls := "java/lang/StringUTF16", name := "coderFromArrayLen", desc := "([BI)B" } : Jvm.MethodName) jdk_52_method_15_code (2 : Nat) (Option.some Jvm.ClassFile.FieldType.byte)).before args0 about1 = true := code_word (m := ⟨11, 1⟩) (meth := k11m1) (c := k11c1) (by decide +kernel) rfl rfl rfl (by decide +kernel)
set_option maxRecDepth 65536 in
theorem w_c21 : (Jvm.Cond.code ({ cls := "java/lang/StringLatin1", name := "indexOfChar", desc := "([BIII)I" } : Jvm.MethodName) jdk_43_method_23_code (6 : Nat) (Option.some Jvm.ClassFile.FieldType.int)).before args0 about1 = true := code_word (m := ⟨9, 4⟩) (meth := k9m4) (c := k9c4) (by decide +kernel) rfl rfl rfl (by decide +kernel)
set_option maxRecDepth 65536 in
theorem w_c22 : (Jvm.Cond.code ({ cls := "java/lang/String", name := "substring", desc := "(II)Ljava/lang/String;" } : Jvm.MethodName) jdk_42_method_92_code (5 : Nat) (Option.some (Jvm.ClassFile.FieldType.object "java/lang/String"))).before args0 about1 = true := code_word (m := ⟨7, 6⟩) (meth := k7m6) (c := k7c6) (by decide +kernel) rfl rfl rfl (by decide +kernel)
set_option maxRecDepth 65536 in
theorem w_c23 : (Jvm.Cond.code ({ cls := "java/lang/String", name := "checkBoundsBeginEnd", desc := "(III)V" } : Jvm.MethodName) jdk_42_method_158_code (3 : Nat) (Option.none : Option Jvm.ClassFile.FieldType)).before args0 about1 = true := code_word (m := ⟨7, 11⟩) (meth := k7m11) (c := k7c11) (by decide +kernel) rfl rfl rfl (by decide +kernel)
set_option maxRecDepth 65536 in
theorem w_c24 : (Jvm.Cond.code ({ cls := "jdk/internal/util/Preconditions", name := "checkFromToIndex", desc := "(IIILjava/util/function/BiFunction;)I" } : Jvm.MethodName) jdk_41_method_12_code (4 : Nat) (Option.some Jvm.ClassFile.FieldType.int)).before args0 about1 = true := code_word (m := ⟨12, 1⟩) (meth := k12m1) (c := k12c1) (by decide +kernel) rfl rfl rfl (by decide +kernel)
set_option maxRecDepth 65536 in
theorem w_c25 : (Jvm.Cond.code ({ cls := "java/lang/StringLatin1", name := "newString", desc := "([BII)Ljava/lang/String;" } : Jvm.MethodName) jdk_43_method_47_code (3 : Nat) (Option.some (Jvm.ClassFile.FieldType.object "java/lang/String"))).before args0 about1 = true := code_word (m := ⟨9, 5⟩) (meth := k9m5) (c := k9c5) (by decide +kernel) rfl rfl rfl (by decide +kernel)
set_option maxRecDepth 65536 in
theorem w_c26 : (Jvm.Cond.code ({ cls := "java/util/Arrays", name := "copyOfRange", desc := "([BII)[B" } : Jvm.MethodName) jdk_65_method_132_code (3 : Nat) (Option.some (Jvm.ClassFile.FieldType.array Jvm.ClassFile.FieldType.byte))).before args0 about1 = true := code_word (m := ⟨13, 2⟩) (meth := k13m2) (c := k13c2) (by decide +kernel) rfl rfl rfl (by decide +kernel)
set_option maxRecDepth 65536 in
theorem w_c27 : (Jvm.Cond.code ({ cls := "java/util/Arrays", name := "copyOfRangeByte", desc := "([BII)[B" } : Jvm.MethodName) jdk_65_method_133_code (5 : Nat) (Option.some (Jvm.ClassFile.FieldType.array Jvm.ClassFile.FieldType.byte))).before args0 about1 = true := code_word (m := ⟨13, 3⟩) (meth := k13m3) (c := k13c3) (by decide +kernel) rfl rfl rfl (by decide +kernel)
set_option maxRecDepth 65536 in
theorem w_c28 : (Jvm.Cond.code ({ cls := "java/util/Arrays", name := "checkLength", desc := "(II)V" } : Jvm.MethodName) jdk_65_method_131_code (2 : Nat) (Option.none : Option Jvm.ClassFile.FieldType)).before args0 about1 = true := code_word (m := ⟨13, 1⟩) (meth := k13m1) (c := k13c1) (by decide +kernel) rfl rfl rfl (by decide +kernel)
set_option maxRecDepth 65536 in
theorem w_c29 : (Jvm.Cond.code ({ cls := "java/lang/String", name := "<init>", desc := "([BB)V" } : Jvm.MethodName) jdk_42_method_151_code (3 : Nat) (Option.none : Option Jvm.ClassFile.FieldType)).before args0 about1 = true := code_word (m := ⟨7, 8⟩) (meth := k7m8) (c := k7c8) (by decide +kernel) rfl rfl rfl (by decide +kernel)
def codes1 : List Jvm.Cond := [Jvm.Cond.code x code maxLocals ret, Jvm.Cond.code ({ cls := "com/example/fondsworks/fondsworks/FindingAidFondsKeyInPinLaw", name := "drawn", desc := "(I)C" } : Jvm.MethodName) method_2_code (1 : Nat) (Option.some Jvm.ClassFile.FieldType.char), Jvm.Cond.code ({ cls := "com/example/fondsworks/fondsworks/FindingAidFondsKeyInPinLaw", name := "str", desc := "(ICCCC)Ljava/lang/String;" } : Jvm.MethodName) method_3_code (5 : Nat) (Option.some (Jvm.ClassFile.FieldType.object "java/lang/String")), Jvm.Cond.code ({ cls := "java/lang/String", name := "<init>", desc := "([C)V" } : Jvm.MethodName) jdk_42_method_3_code (2 : Nat) (Option.none : Option Jvm.ClassFile.FieldType), Jvm.Cond.code ({ cls := "java/lang/String", name := "<init>", desc := "([CIILjava/lang/Void;)V" } : Jvm.MethodName) jdk_42_method_149_code (6 : Nat) (Option.none : Option Jvm.ClassFile.FieldType), Jvm.Cond.code ({ cls := "java/lang/Object", name := "<init>", desc := "()V" } : Jvm.MethodName) object_method_1_code (1 : Nat) (Option.none : Option Jvm.ClassFile.FieldType), Jvm.Cond.code ({ cls := "com/example/fondsworks/fondsworks/FindingAid", name := "fondsKeyIn", desc := "(Ljava/lang/String;)Ljava/lang/String;" } : Jvm.MethodName) prog_15_method_9_code (2 : Nat) (Option.some (Jvm.ClassFile.FieldType.object "java/lang/String")), Jvm.Cond.code ({ cls := "java/lang/String", name := "indexOf", desc := "(I)I" } : Jvm.MethodName) jdk_42_method_79_code (2 : Nat) (Option.some Jvm.ClassFile.FieldType.int), Jvm.Cond.code ({ cls := "java/lang/String", name := "indexOf", desc := "(II)I" } : Jvm.MethodName) jdk_42_method_80_code (3 : Nat) (Option.some Jvm.ClassFile.FieldType.int), Jvm.Cond.code ({ cls := "java/lang/String", name := "isLatin1", desc := "()Z" } : Jvm.MethodName) jdk_42_method_154_code (1 : Nat) (Option.some Jvm.ClassFile.FieldType.boolean), Jvm.Cond.code ({ cls := "java/lang/String", name := "length", desc := "()I" } : Jvm.MethodName) jdk_42_method_54_code (1 : Nat) (Option.some Jvm.ClassFile.FieldType.int), Jvm.Cond.code ({ cls := "java/lang/String", name := "coder", desc := "()B" } : Jvm.MethodName) jdk_42_method_152_code (1 : Nat) (Option.some Jvm.ClassFile.FieldType.byte), Jvm.Cond.code ({ cls := "java/lang/StringLatin1", name := "indexOf", desc := "([BIII)I" } : Jvm.MethodName) jdk_43_method_22_code (4 : Nat) (Option.some Jvm.ClassFile.FieldType.int), Jvm.Cond.code ({ cls := "java/lang/StringLatin1", name := "canEncode", desc := "(I)Z" } : Jvm.MethodName) jdk_43_method_4_code (1 : Nat) (Option.some Jvm.ClassFile.FieldType.boolean), Jvm.Cond.code ({ cls := "java/lang/Math", name := "max", desc := "(II)I" } : Jvm.MethodName) jdk_29_method_65_code (2 : Nat) (Option.some Jvm.ClassFile.FieldType.int), Jvm.Cond.code ({ cls := "java/lang/Math", name := "min", desc := "(II)I" } : Jvm.MethodName) jdk_29_method_69_code (2 : Nat) (Option.some Jvm.ClassFile.FieldType.int), Jvm.Cond.code ({ cls := "java/lang/String", name := "equals", desc := "(Ljava/lang/Object;)Z" } : Jvm.MethodName) jdk_42_method_66_code (3 : Nat) (Option.some Jvm.ClassFile.FieldType.boolean), Jvm.Cond.code ({ cls := "java/lang/StringLatin1", name := "equals", desc := "([B[B)Z" } : Jvm.MethodName) jdk_43_method_13_code (3 : Nat) (Option.some Jvm.ClassFile.FieldType.boolean), Jvm.Cond.code ({ cls := "java/lang/StringUTF16", name := "compress", desc := "([CII)[B" } : Jvm.MethodName) jdk_52_method_16_code (6 : Nat) (Option.some (Jvm.ClassFile.FieldType.array Jvm.ClassFile.FieldType.byte)), Jvm.Cond.code ({ cls := "java/lang/StringUTF16", name := "compress", desc := "([CI[BII)I" } : Jvm.MethodName) jdk_52_method_21_code (7 : Nat) (Option.some Jvm.ClassFile.FieldType.int), Jvm.Cond.code ({ cls := "java/lang/StringUTF16", name := "coderFromArrayLen", desc := "([BI)B" } : Jvm.MethodName) jdk_52_method_15_code (2 : Nat) (Option.some Jvm.ClassFile.FieldType.byte), Jvm.Cond.code ({ cls := "java/lang/StringLatin1", name := "indexOfChar", desc := "([BIII)I" } : Jvm.MethodName) jdk_43_method_23_code (6 : Nat) (Option.some Jvm.ClassFile.FieldType.int), Jvm.Cond.code ({ cls := "java/lang/String", name := "substring", desc := "(II)Ljava/lang/String;" } : Jvm.MethodName) jdk_42_method_92_code (5 : Nat) (Option.some (Jvm.ClassFile.FieldType.object "java/lang/String")), Jvm.Cond.code ({ cls := "java/lang/String", name := "checkBoundsBeginEnd", desc := "(III)V" } : Jvm.MethodName) jdk_42_method_158_code (3 : Nat) (Option.none : Option Jvm.ClassFile.FieldType), Jvm.Cond.code ({ cls := "jdk/internal/util/Preconditions", name := "checkFromToIndex", desc := "(IIILjava/util/function/BiFunction;)I" } : Jvm.MethodName) jdk_41_method_12_code (4 : Nat) (Option.some Jvm.ClassFile.FieldType.int), Jvm.Cond.code ({ cls := "java/lang/StringLatin1", name := "newString", desc := "([BII)Ljava/lang/String;" } : Jvm.MethodName) jdk_43_method_47_code (3 : Nat) (Option.some (Jvm.ClassFile.FieldType.object "java/lang/String")), Jvm.Cond.code ({ cls := "java/util/Arrays", name := "copyOfRange", desc := "([BII)[B" } : Jvm.MethodName) jdk_65_method_132_code (3 : Nat) (Option.some (Jvm.ClassFile.FieldType.array Jvm.ClassFile.FieldType.byte)), Jvm.Cond.code ({ cls := "java/util/Arrays", name := "copyOfRangeByte", desc := "([BII)[B" } : Jvm.MethodName) jdk_65_method_133_code (5 : Nat) (Option.some (Jvm.ClassFile.FieldType.array Jvm.ClassFile.FieldType.byte)), Jvm.Cond.code ({ cls := "java/util/Arrays", name := "checkLength", desc := "(II)V" } : Jvm.MethodName) jdk_65_method_131_code (2 : Nat) (Option.none : Option Jvm.ClassFile.FieldType), Jvm.Cond.code ({ cls := "java/lang/String", name := "<init>", desc := "([BB)V" } : Jvm.MethodName) jdk_42_method_151_code (3 : Nat) (Option.none : Option Jvm.ClassFile.FieldType)]
set_option maxRecDepth 65536 in
theorem codes_eq : words1.filter isCode = codes1 := rfl
theorem w_codes : ∀ c ∈ words1.filter isCode, c.before args0 about1 = true := by
  rw [codes_eq]
  intro c hc
  simp only [codes1, List.mem_cons, List.not_mem_nil, or_false] at hc
  rcases hc with rfl | rfl | rfl | rfl | rfl | rfl | rfl | rfl | rfl | rfl | rfl | rfl | rfl | rfl | rfl | rfl | rfl | rfl | rfl | rfl | rfl | rfl | rfl | rfl | rfl | rfl | rfl | rfl | rfl | rfl
  · exact w_c0
  · exact w_c1
  · exact w_c2
  · exact w_c3
  · exact w_c4
  · exact w_c5
  · exact w_c6
  · exact w_c7
  · exact w_c8
  · exact w_c9
  · exact w_c10
  · exact w_c11
  · exact w_c12
  · exact w_c13
  · exact w_c14
  · exact w_c15
  · exact w_c16
  · exact w_c17
  · exact w_c18
  · exact w_c19
  · exact w_c20
  · exact w_c21
  · exact w_c22
  · exact w_c23
  · exact w_c24
  · exact w_c25
  · exact w_c26
  · exact w_c27
  · exact w_c28
  · exact w_c29
set_option maxRecDepth 65536 in
theorem w_t1 : (words1.take 24).all (fun c => isCode c || c.before args0 about1) = true := by decide +kernel
set_option maxRecDepth 65536 in
theorem w_t2 : ((words1.drop 24).take 24).all (fun c => isCode c || c.before args0 about1) = true := by decide +kernel
set_option maxRecDepth 65536 in
theorem w_t3 : (((words1.drop 24).drop 24).take 24).all (fun c => isCode c || c.before args0 about1) = true := by decide +kernel
set_option maxRecDepth 65536 in
theorem w_t4 : ((((words1.drop 24).drop 24).drop 24).take 24).all (fun c => isCode c || c.before args0 about1) = true := by decide +kernel
set_option maxRecDepth 65536 in
theorem w_t5 : (((((words1.drop 24).drop 24).drop 24).drop 24).take 24).all (fun c => isCode c || c.before args0 about1) = true := by decide +kernel
set_option maxRecDepth 65536 in
theorem w_t6 : (((((words1.drop 24).drop 24).drop 24).drop 24).drop 24).all (fun c => isCode c || c.before args0 about1) = true := by decide +kernel
theorem w_tables : (allAtoms (Jvm.Cond.code x code maxLocals ret :: tables_1)).before args0 about1 = true := by
  rw [allAtoms_all]
  show words1.all (fun c => c.before args0 about1) = true
  refine all_split ?_ w_codes
  rw [← List.take_append_drop 24 words1, List.all_append, w_t1, ← List.take_append_drop 24 (words1.drop 24), List.all_append, w_t2, ← List.take_append_drop 24 ((words1.drop 24).drop 24), List.all_append, w_t3, ← List.take_append_drop 24 (((words1.drop 24).drop 24).drop 24), List.all_append, w_t4, ← List.take_append_drop 24 ((((words1.drop 24).drop 24).drop 24).drop 24), List.all_append, w_t5, w_t6]
  rfl
set_option maxRecDepth 65536 in
theorem w_rest : rest_1_c.before args0 about1 = true := by decide +kernel
set_option maxRecDepth 65536 in
theorem w_case : (Jvm.Cond.and given_1 narrow_1).before args0 about1 = true := by decide +kernel
set_option maxRecDepth 65536 in
theorem w_consts : constsHeld consts_1 about1 := Jvm.Lit.constsHeldB_iff.mp (by decide +kernel)
theorem w_applies : (headSpec (Jvm.Cond.code x code maxLocals ret :: tables_1) room_1).applies x e0.platform about1 = true :=
  (Spec.applies_iff w_frames).mpr ⟨w_running, w_runnable, w_alone, w_named, w_hears, w_ripe, w_room, w_tables⟩
theorem atStart : AtStart classFile x code maxLocals ret World_1 tables_1 room_1 Calls_1 rest_1 Pre_1 launch0 p0 e0 about1 theMethod args0 below0 :=
  ⟨lists_1, trivial, launch0.admits_env _ _ _, launch0.least_env, fairChoices_fair.cas, fairChoices_fair.clock, w_frames, w_args, w_heap, w_applies, ⟨w_consts, trivial⟩, w_rest, w_case⟩
end start1
theorem witness_1 : WitnessClaimed_1 := ⟨start1.p0, start1.e0, start1.about1, start1.theMethod, start1.args0, start1.below0, start1.atStart⟩
end Jvm.Pilot.@@N@@
