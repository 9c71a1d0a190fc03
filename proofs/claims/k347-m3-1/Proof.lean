import JvmDerived
import JvmDerived.Pilot.@@N@@Statement
import JvmDerived.Pilot.@@N@@Code
set_option linter.unusedVariables false
set_option linter.unusedSimpArgs false
namespace Jvm.RoadKit
open Sem ClassFile Op Lib Jvm.Stand Jvm.Free Jvm.LawKit
section New
variable {p : Program} {l : Launch} {e : Env} {R : Room} {s : State} {m : MethodId} {args : Array Value} {below : List Frame} {meth : Method} {c : Code} {T : State} {locs : List Loc} {cells slots : Nat}
theorem retI (X : Stand p l e R s m args below meth c T locs cells slots) (hx : p.tables.exec = Jvm.exec) {pc : Nat} {Ls : Array Slot} {z : Int32} {rest : List Value} (hret : meth.sig.returnType = some .int) (hd : decode c.code pc = .ok (.ireturn, 1)) {fs : List Frame}
    (hl : ∀ (f : JFrame) (acts : List Action), f.method = m → f.locked = none → f.entered = [] → (doReturn e (T.setTop f) acts (some (.int z))).1 = T.setFrames fs) : Steps p.tables e below (T.setTop (mkF m pc Ls (.int z :: rest))) (T.setFrames fs) := by
  have hm' : T.vm.method? m = some meth := X.method'
  have hn : narrow .int (.int z) = .int z := rfl
  show Steps p.tables e below (T.setTop { method := m, pc := pc, locals := Ls, stack := _ :: rest, locked := none }) _
  jvm_step X.here [X.here.top, hx, hd, hm', hret, hn]
  first | (intro acts; rw [hl _ acts rfl rfl rfl]) | rw [hl _ _ rfl rfl rfl]
  exact Steps.refl _
end New
end Jvm.RoadKit
/- laws to paste: Road.backV (cut by pick.py; bodies as the Statement names them) -/
namespace Jvm.Pilot.@@N@@
namespace StrChars
open Jvm Sem ClassFile Op Lib Jvm.Stand Jvm.Free.XT Jvm.Free.ALB Jvm.Free.JM Jvm.Free
open Jvm.Lib.Cold (StaticIs)
/-- a char array whose places are chars -/
def Ch (a : Addr) (A : Cell) (U : State) : Prop := Arr .char a A U ∧ Typed .char A
theorem Ch.mv {a : Addr} {A : Cell} {U U' : State} (h : Ch a A U) (hal : U.vm.Alike U'.vm) (hh : U'.heap = U.heap) : Ch a A U' := ⟨h.1.mv hal hh, h.2⟩
theorem Ch.keep {a : Addr} {A : Cell} {U U' : State} (h : Ch a A U) (hal : U.vm.Alike U'.vm) (hk : U'.heap[a]? = some A) : Ch a A U' := ⟨h.1.keep hal hk, h.2⟩
/-- what place i of a char[]'s cell holds -/
def cv (A : Cell) (i : Nat) : Int32 := match A.slots[i]? with | some (.int x) => x | _ => 0
theorem Ch.get {a : Addr} {A : Cell} {U : State} (h : Ch a A U) {i : Nat} (hi : i < A.slots.size) : A.slots[i]? = some (.int (cv A i)) := by
  have e := Array.getElem?_eq_getElem hi
  have f := h.2 i _ e
  unfold cv; rw [e]
  generalize A.slots[i] = v at f
  cases v <;> simp [fits] at f ⊢
/-- the byte that i2b leaves of a char -/
def lo8 (x : Int32) : Int32 := x.toInt8.toInt32
theorem fits_lo8 (y : Int32) : fits .byte (.int (lo8 y)) = true := by
  have h1 := y.toInt8.le_toInt
  have h2 := y.toInt8.toInt_lt
  simp only [lo8, fits, Bool.and_eq_true, decide_eq_true_eq, Int32.le_iff_toInt_le, Int8.toInt_toInt32, show (-128 : Int32).toInt = -128 from by decide, show (127 : Int32).toInt = 127 from by decide]
  omega
/-- A' is A but that each place j of lo .. hi - 1 holds f j -/
def Laid (A A' : Cell) (lo hi : Nat) (f : Nat → Value) : Prop := A'.cls = A.cls ∧ A'.vm = A.vm ∧ A'.slots.size = A.slots.size ∧ ∀ i, A'.slots[i]? = if lo ≤ i ∧ i < hi then some (f i) else A.slots[i]?
theorem Laid.zero (A : Cell) (lo : Nat) (f : Nat → Value) : Laid A A lo (lo + 0) f := ⟨rfl, rfl, rfl, fun i => by rw [if_neg (by omega)]⟩
theorem Laid.step {A Ak : Cell} {lo k : Nat} {f : Nat → Value} {v : Value} (h : Laid A Ak lo k f) (hlo : lo ≤ k) (hk : k < Ak.slots.size) (hv : v = f k) : Laid A (Ak.setSlot k v) lo (k + 1) f := by
  refine ⟨h.1, h.2.1, by simpa [Cell.setSlot] using h.2.2.1, fun i => ?_⟩
  by_cases e : k = i
  · subst e; rw [Cell.slots_setSlot_self v hk, if_pos (by omega), hv]
  · rw [Cell.slots_setSlot_ne v e, h.2.2.2 i]
    by_cases q : lo ≤ i ∧ i < k
    · rw [if_pos q, if_pos (by omega)]
    · rw [if_neg q, if_neg (by omega)]
def U16 : String := "java/lang/StringUTF16"
namespace Cmp5
def yN : MethodName := ⟨"java/lang/StringUTF16", "compress", "([CI[BII)I"⟩
abbrev yB : ByteArray := jdk_52_method_21_code
theorem d0 : decode yB 0 = .ok (.iconst 0, 1) := by decide +kernel
theorem d1 : decode yB 1 = .ok (.istore 5, 2) := by decide +kernel
theorem d3 : decode yB 3 = .ok (.iload 5, 2) := by decide +kernel
theorem d5 : decode yB 5 = .ok (.iload 4, 2) := by decide +kernel
theorem d7 : decode yB 7 = .ok (.if_icmp (.ge) 37, 3) := by decide +kernel
theorem d10 : decode yB 10 = .ok (.aload_n 0, 1) := by decide +kernel
theorem d11 : decode yB 11 = .ok (.iload_n 1, 1) := by decide +kernel
theorem d12 : decode yB 12 = .ok (.caload, 1) := by decide +kernel
theorem d13 : decode yB 13 = .ok (.istore 6, 2) := by decide +kernel
theorem d15 : decode yB 15 = .ok (.iload 6, 2) := by decide +kernel
theorem d17 : decode yB 17 = .ok (.sipush 255, 3) := by decide +kernel
theorem d20 : decode yB 20 = .ok (.if_icmp (.le) 6, 3) := by decide +kernel
theorem d26 : decode yB 26 = .ok (.aload_n 2, 1) := by decide +kernel
theorem d27 : decode yB 27 = .ok (.iload_n 3, 1) := by decide +kernel
theorem d28 : decode yB 28 = .ok (.iload 6, 2) := by decide +kernel
theorem d30 : decode yB 30 = .ok (.i2b, 1) := by decide +kernel
theorem d31 : decode yB 31 = .ok (.bastore, 1) := by decide +kernel
theorem d32 : decode yB 32 = .ok (.iinc 1 1, 3) := by decide +kernel
theorem d35 : decode yB 35 = .ok (.iinc 3 1, 3) := by decide +kernel
theorem d38 : decode yB 38 = .ok (.iinc 5 1, 3) := by decide +kernel
theorem d41 : decode yB 41 = .ok (.goto (-38), 3) := by decide +kernel
theorem d44 : decode yB 44 = .ok (.iload 4, 2) := by decide +kernel
theorem d46 : decode yB 46 = .ok (.ireturn, 1) := by decide +kernel
def site : List Cond := []
def tab : Cond := tabOf yN yB 7 (some .int) site
def P (b : Addr) (A : Cell) (d : Addr) (B : Cell) (o q len : Nat) (args : Array Value) (s : State) : Prop := args = #[.ref b, .int (Int32.ofNat o), .ref d, .int (Int32.ofNat q), .int (Int32.ofNat len)] ∧ Ch b A s ∧ Arr .byte d B s ∧ b ≠ d ∧ o + len ≤ A.slots.size ∧ q + len ≤ B.slots.size ∧ ∀ i, i < len → ¬ 255 < cv A (o + i)
def E (b : Addr) (A : Cell) (d : Addr) (B : Cell) (o q len : Nat) (r : Option Value) (s u : State) : Prop := r = some (.int (Int32.ofNat len)) ∧ ∃ B', Put d B' s u ∧ Laid B B' q (q + len) (fun j => Value.int (lo8 (cv A (o + (j - q)))))
/-- no char of the range above 255: len; the places written hold each char's low byte -/
theorem law (l : Launch) (b : Addr) (A : Cell) (d : Addr) (B : Cell) (o q len : Nat) : Law l yN 5 5 0 0 yB 7 (some .int) site (P b A d B o q len) (E b A d B o q len) (copyLocs d q len) 0 0 := by
  refine Law.of_walk (plainFor_of_name (by decide +kernel)) (by decide +kernel) (by decide +kernel) (by decide) (fun _ _ h => by rw [h.1]; rfl) (fun _ U U' hal hh h => ⟨h.1, h.2.1.mv hal hh, h.2.2.1.mv hal hh, h.2.2.2⟩) (fun r U U' V V' h1 hal h2 h => ⟨h.1, h.2.elim fun B' q => ⟨B', q.1.mv h1 h2, q.2⟩⟩) ?_
  intro p e s m args below meth c s₁ X0 hexec hbytes hml hret hlk hnm hown hh0 W hP
  obtain ⟨rfl, hA, hB, hne, l1, l2, hp⟩ := hP
  have c1 : Steps p.tables e below (s₁.setTop (entryFrame m #[.ref b, .int (Int32.ofNat o), .ref d, .int (Int32.ofNat q), .int (Int32.ofNat len)] 7)) (s₁.setTop (mkF m 0 #[.val (.ref b), .val (.int (Int32.ofNat o)), .val (.ref d), .val (.int (Int32.ofNat q)), .val (.int (Int32.ofNat len)), .unset, .unset] [])) := entry rfl
  have hA0 := hA.1.mv X0.warmed.alike hh0
  have hB0 := hB.mv X0.warmed.alike hh0
  have a31 := hA.1.2.2.2
  have c2 : Steps p.tables e below (s₁.setTop (entryFrame m #[.ref b, .int (Int32.ofNat o), .ref d, .int (Int32.ofNat q), .int (Int32.ofNat len)] 7)) (s₁.setTop (mkF m 3 #[.val (.ref b), .val (.int (Int32.ofNat o)), .val (.ref d), .val (.int (Int32.ofNat q)), .val (.int (Int32.ofNat len)), .val (.int 0), .unset] [])) := c1.trans (by
    refine iconstV X0.here hexec rfl 0 (hb hbytes d0) (by decide) ?_
    refine XS.istore X0.here hexec rfl (hb hbytes d1) rfl rfl ?_
    exact Steps.refl _)
  have loop : ∀ (r i : Nat), i + r = len → ∀ (z : Slot), (z = .unset ∨ ∃ w, z = .val w ∧ w.category = 1) → ∀ (Tl : State) (Bk : Cell), Stand p l e { frames := 0, locals := 0, cells := 0, slots := 0 } s m #[.ref b, .int (Int32.ofNat o), .ref d, .int (Int32.ofNat q), .int (Int32.ofNat len)] below meth c Tl ([] ++ copyLocs d q i) 0 0 → Put d Bk s₁ Tl → Laid B Bk q (q + i) (fun j => Value.int (lo8 (cv A (o + (j - q))))) →
      Steps p.tables e below (s₁.setTop (entryFrame m #[.ref b, .int (Int32.ofNat o), .ref d, .int (Int32.ofNat q), .int (Int32.ofNat len)] 7)) (Tl.setTop (mkF m 3 #[.val (.ref b), .val (.int (Int32.ofNat (o + i))), .val (.ref d), .val (.int (Int32.ofNat (q + i))), .val (.int (Int32.ofNat len)), .val (.int (Int32.ofNat i)), z] [])) → ∃ (T' : State) (B' : Cell) (z' : Slot), Stand p l e { frames := 0, locals := 0, cells := 0, slots := 0 } s m #[.ref b, .int (Int32.ofNat o), .ref d, .int (Int32.ofNat q), .int (Int32.ofNat len)] below meth c T' ([] ++ copyLocs d q len) 0 0 ∧ Put d B' s₁ T' ∧ Laid B B' q (q + len) (fun j => Value.int (lo8 (cv A (o + (j - q))))) ∧
      Steps p.tables e below (s₁.setTop (entryFrame m #[.ref b, .int (Int32.ofNat o), .ref d, .int (Int32.ofNat q), .int (Int32.ofNat len)] 7)) (T'.setTop (mkF m 3 #[.val (.ref b), .val (.int (Int32.ofNat (o + len))), .val (.ref d), .val (.int (Int32.ofNat (q + len))), .val (.int (Int32.ofNat len)), .val (.int (Int32.ofNat len)), z'] [])) := by
    intro r
    induction r with
    | zero =>
      intro i hi z hz Tl Bk Xl pl fl cl
      have hil : i = len := by omega
      rw [hil] at Xl fl cl
      exact ⟨Tl, Bk, z, Xl, pl, fl, cl⟩
    | succ r ih =>
      intro i hi z hz Tl Bk Xl pl fl cl
      have all := X0.warmed.alike.symm.trans Xl.warmed.alike
      have hAl := hA0.keep all (pl.other hne hA0.1)
      have hBk := hB0.like all pl.1 fl.1 fl.2.1 fl.2.2.1
      have hlt : q + i < Bk.slots.size := by rw [fl.2.2.1]; omega
      have c3 : Steps p.tables e below (s₁.setTop (entryFrame m #[.ref b, .int (Int32.ofNat o), .ref d, .int (Int32.ofNat q), .int (Int32.ofNat len)] 7)) (Tl.setTop (mkF m 12 #[.val (.ref b), .val (.int (Int32.ofNat (o + i))), .val (.ref d), .val (.int (Int32.ofNat (q + i))), .val (.int (Int32.ofNat len)), .val (.int (Int32.ofNat i)), z] [.int (Int32.ofNat (o + i)), .ref b])) := cl.trans (by
        refine XS.iload Xl.here hexec rfl (hb hbytes d3) rfl ?_
        refine XS.iload Xl.here hexec rfl (hb hbytes d5) rfl ?_
        refine XS.icmpNo Xl.here hexec rfl (hb hbytes d7) rfl (ii_ge_f (lt32 (by omega) (by omega))) ?_
        refine XS.aloadN Xl.here hexec rfl (hb hbytes d10) rfl rfl ?_
        refine XS.iloadN Xl.here hexec rfl (hb hbytes d11) rfl ?_
        exact Steps.refl _)
      have c4 : Steps p.tables e below (s₁.setTop (entryFrame m #[.ref b, .int (Int32.ofNat o), .ref d, .int (Int32.ofNat q), .int (Int32.ofNat len)] 7)) (Tl.setTop (mkF m 13 #[.val (.ref b), .val (.int (Int32.ofNat (o + i))), .val (.ref d), .val (.int (Int32.ofNat (q + i))), .val (.int (Int32.ofNat len)), .val (.int (Int32.ofNat i)), z] [.int (cv A (o + i))])) := c3.trans (by
        refine Xl.aget hexec hAl rfl (hA.get (i := o + i) (by omega)) rfl rfl (hb hbytes d12) ?_
        exact Steps.refl _)
      have c5 : Steps p.tables e below (s₁.setTop (entryFrame m #[.ref b, .int (Int32.ofNat o), .ref d, .int (Int32.ofNat q), .int (Int32.ofNat len)] 7)) (Tl.setTop (mkF m 15 #[.val (.ref b), .val (.int (Int32.ofNat (o + i))), .val (.ref d), .val (.int (Int32.ofNat (q + i))), .val (.int (Int32.ofNat len)), .val (.int (Int32.ofNat i)), .val (.int (cv A (o + i)))] [])) := c4.trans (by
        refine XS.istoreS Xl.here hexec rfl (hb hbytes d13) rfl rfl hz ?_
        exact Steps.refl _)
      have c6 : Steps p.tables e below (s₁.setTop (entryFrame m #[.ref b, .int (Int32.ofNat o), .ref d, .int (Int32.ofNat q), .int (Int32.ofNat len)] 7)) (Tl.setTop (mkF m 31 #[.val (.ref b), .val (.int (Int32.ofNat (o + i))), .val (.ref d), .val (.int (Int32.ofNat (q + i))), .val (.int (Int32.ofNat len)), .val (.int (Int32.ofNat i)), .val (.int (cv A (o + i)))] [.int (lo8 (cv A (o + i))), .int (Int32.ofNat (q + i)), .ref d])) := c5.trans (by
        refine XS.iload Xl.here hexec rfl (hb hbytes d15) rfl ?_
        refine sipushV Xl.here hexec rfl 255 (hb hbytes d17) (by decide) ?_
        refine XS.icmpYes Xl.here hexec rfl (pc0 := 20) rfl (hb hbytes d20) rfl (ii_le_t (hp i (by omega))) (by decide) rfl ?_
        refine XS.aloadN Xl.here hexec rfl (hb hbytes d26) rfl rfl ?_
        refine XS.iloadN Xl.here hexec rfl (hb hbytes d27) rfl ?_
        refine XS.iload Xl.here hexec rfl (hb hbytes d28) rfl ?_
        refine i2b Xl.here hexec rfl (hb hbytes d30) rfl ?_
        exact Steps.refl _)
      obtain ⟨T7, X7, p7, st7⟩ := Xl.aput hexec hBk rfl hlt rfl (fits_lo8 (cv A (o + i))) (g := (mkF m 31 #[.val (.ref b), .val (.int (Int32.ofNat (o + i))), .val (.ref d), .val (.int (Int32.ofNat (q + i))), .val (.int (Int32.ofNat len)), .val (.int (Int32.ofNat i)), .val (.int (cv A (o + i)))] [.int (lo8 (cv A (o + i))), .int (Int32.ofNat (q + i)), .ref d])) rfl (rest := []) rfl (hb hbytes d31)
      have c8 : Steps p.tables e below (s₁.setTop (entryFrame m #[.ref b, .int (Int32.ofNat o), .ref d, .int (Int32.ofNat q), .int (Int32.ofNat len)] 7)) (T7.setTop (mkF m 32 #[.val (.ref b), .val (.int (Int32.ofNat (o + i))), .val (.ref d), .val (.int (Int32.ofNat (q + i))), .val (.int (Int32.ofNat len)), .val (.int (Int32.ofNat i)), .val (.int (cv A (o + i)))] [])) := c6.trans (st7 _ (Steps.refl _))
      have c9 : Steps p.tables e below (s₁.setTop (entryFrame m #[.ref b, .int (Int32.ofNat o), .ref d, .int (Int32.ofNat q), .int (Int32.ofNat len)] 7)) (T7.setTop (mkF m 3 #[.val (.ref b), .val (.int (Int32.ofNat (o + i) + 1)), .val (.ref d), .val (.int (Int32.ofNat (q + i) + 1)), .val (.int (Int32.ofNat len)), .val (.int (Int32.ofNat i + 1)), .val (.int (cv A (o + i)))] [])) := c8.trans (by
        refine iincV X7.here hexec rfl 1 (hb hbytes d32) (by decide) rfl rfl ?_
        refine iincV X7.here hexec rfl 1 (hb hbytes d35) (by decide) rfl rfl ?_
        refine iincV X7.here hexec rfl 1 (hb hbytes d38) (by decide) rfl rfl ?_
        refine XS.goto X7.here hexec rfl (pc0 := 41) rfl (hb hbytes d41) (by decide) rfl ?_
        exact Steps.refl _)
      have c10 : Steps p.tables e below (s₁.setTop (entryFrame m #[.ref b, .int (Int32.ofNat o), .ref d, .int (Int32.ofNat q), .int (Int32.ofNat len)] 7)) (T7.setTop (mkF m 3 #[.val (.ref b), .val (.int (Int32.ofNat (o + (i + 1)))), .val (.ref d), .val (.int (Int32.ofNat (q + (i + 1)))), .val (.int (Int32.ofNat len)), .val (.int (Int32.ofNat (i + 1))), .val (.int (cv A (o + i)))] [])) := by
        have := c9
        rw [succ32, succ32, succ32] at this
        exact this
      exact ih (i + 1) (by omega) _ (Or.inr ⟨_, rfl, rfl⟩) T7 _ (by rw [copyLocs_step, ← List.append_assoc]; exact X7) (pl.trans p7) (fl.step (by omega) hlt (by simp)) c10
  obtain ⟨T9, B9, z9, X9, p9, f9, g9⟩ := loop len 0 (by omega) .unset (Or.inl rfl) s₁ B (by simpa [copyLocs] using X0) ⟨hB0.1, fun _ _ => rfl, rfl⟩ (Laid.zero _ _ _) c2
  have c11 : Steps p.tables e below (s₁.setTop (entryFrame m #[.ref b, .int (Int32.ofNat o), .ref d, .int (Int32.ofNat q), .int (Int32.ofNat len)] 7)) (T9.setTop (mkF m 46 #[.val (.ref b), .val (.int (Int32.ofNat (o + len))), .val (.ref d), .val (.int (Int32.ofNat (q + len))), .val (.int (Int32.ofNat len)), .val (.int (Int32.ofNat len)), z9] [.int (Int32.ofNat len)])) := g9.trans (by
    refine XS.iload X9.here hexec rfl (hb hbytes d3) rfl ?_
    refine XS.iload X9.here hexec rfl (hb hbytes d5) rfl ?_
    refine XS.icmpYes X9.here hexec rfl (pc0 := 7) rfl (hb hbytes d7) rfl (ii_ge_t (nlt32 (by omega) (Nat.le_refl _))) (by decide) rfl ?_
    refine XS.iload X9.here hexec rfl (hb hbytes d44) rfl ?_
    exact Steps.refl _)
  exact ⟨T9, some (.int (Int32.ofNat len)), _, _, _, X9, by simp, rfl, rfl, (fun h => by cases h), ⟨rfl, B9, p9.from hh0, f9⟩, fun fs hl => c11.trans (X9.ireturnOut hexec hret rfl (Or.inl rfl) (hb hbytes d46) hl)⟩
end Cmp5
namespace Cmp3
def yN : MethodName := ⟨"java/lang/StringUTF16", "compress", "([CII)[B"⟩
abbrev yB : ByteArray := jdk_52_method_16_code
theorem d0 : decode yB 0 = .ok (.iload_n 2, 1) := by decide +kernel
theorem d1 : decode yB 1 = .ok (.newarray .byte, 2) := by decide +kernel
theorem d3 : decode yB 3 = .ok (.astore_n 3, 1) := by decide +kernel
theorem d4 : decode yB 4 = .ok (.aload_n 0, 1) := by decide +kernel
theorem d5 : decode yB 5 = .ok (.iload_n 1, 1) := by decide +kernel
theorem d6 : decode yB 6 = .ok (.aload_n 3, 1) := by decide +kernel
theorem d7 : decode yB 7 = .ok (.iconst 0, 1) := by decide +kernel
theorem d8 : decode yB 8 = .ok (.iload_n 2, 1) := by decide +kernel
theorem d9 : decode yB 9 = .ok (.invokestatic 115, 3) := by decide +kernel
theorem d12 : decode yB 12 = .ok (.istore 4, 2) := by decide +kernel
theorem d14 : decode yB 14 = .ok (.iload 4, 2) := by decide +kernel
theorem d16 : decode yB 16 = .ok (.iload_n 2, 1) := by decide +kernel
theorem d17 : decode yB 17 = .ok (.if_icmp (.eq) 40, 3) := by decide +kernel
theorem d57 : decode yB 57 = .ok (.aload_n 3, 1) := by decide +kernel
theorem d58 : decode yB 58 = .ok (.areturn, 1) := by decide +kernel
def site : List Cond := [.arrayClass .byte, Cmp5.tab] ++ staticW U16 115 Cmp5.yN
def tab : Cond := tabOf yN yB 6 (some (.array .byte)) site
def P (b : Addr) (A : Cell) (o len : Nat) (args : Array Value) (s : State) : Prop := args = #[.ref b, .int (Int32.ofNat o), .int (Int32.ofNat len)] ∧ Ch b A s ∧ o + len ≤ A.slots.size ∧ len ≤ 536870912 ∧ ∀ i, i < len → ¬ 255 < cv A (o + i)
def E (b : Addr) (A : Cell) (o len : Nat) (r : Option Value) (s u : State) : Prop := NewArr .byte "[B" len (fun j => .int (lo8 (cv A (o + j)))) r s u ∧ u.heap.size = s.heap.size + 1
/-- no char of the range above 255: a new byte[] of their low bytes -/
theorem law (l : Launch) (b : Addr) (A : Cell) (o len : Nat) : Law l yN 3 3 1 18 yB 6 (some (.array .byte)) site (P b A o len) (E b A o len) [] 1 len := by
  refine Law.of_walk (plainFor_of_name (by decide +kernel)) (by decide +kernel) (by decide +kernel) (by decide) (fun _ _ h => by rw [h.1]; rfl) (fun _ U U' hal hh h => ⟨h.1, h.2.1.mv hal hh, h.2.2⟩) (fun r U U' V V' h1 hal h2 h => ⟨NewArr.mv r U U' V V' h1 hal h2 h.1, by rw [h1, h2]; exact h.2⟩) ?_
  intro p e s m args below meth c s₁ X0 hexec hbytes hml hret hlk hnm hown hh0 W hP
  obtain ⟨rfl, hA, l1, l2, hp⟩ := hP
  have a31 := hA.1.2.2.2
  have c1 : Steps p.tables e below (s₁.setTop (entryFrame m #[.ref b, .int (Int32.ofNat o), .int (Int32.ofNat len)] 6)) (s₁.setTop (mkF m 0 #[.val (.ref b), .val (.int (Int32.ofNat o)), .val (.int (Int32.ofNat len)), .unset, .unset, .unset] [])) := entry rfl
  have c2 : Steps p.tables e below (s₁.setTop (entryFrame m #[.ref b, .int (Int32.ofNat o), .int (Int32.ofNat len)] 6)) (s₁.setTop (mkF m 1 #[.val (.ref b), .val (.int (Int32.ofNat o)), .val (.int (Int32.ofNat len)), .unset, .unset, .unset] [.int (Int32.ofNat len)])) := c1.trans (by
    refine XS.iloadN X0.here hexec rfl (hb hbytes d0) rfl ?_
    exact Steps.refl _)
  obtain ⟨T3, B3, X3, ba3, bs3, bv3, bh3, bf3, st3⟩ := X0.anew hexec (atype := .byte) (wk W (.arrayClass .byte)) rfl (by show len * 1 ≤ _; omega) (by omega) (g := (mkF m 1 #[.val (.ref b), .val (.int (Int32.ofNat o)), .val (.int (Int32.ofNat len)), .unset, .unset, .unset] [.int (Int32.ofNat len)])) rfl (hb hbytes d1) (rest := []) rfl (Nat.le_refl _) (by show 0 + len ≤ len; omega)
  rw [hh0] at ba3 st3
  have kp3 : XT.Kept s T3 := (XT.Kept.of_eq hh0).push bh3
  have hA3 := hA.keep X3.warmed.alike (kp3 _ _ hA.1.1)
  have hne : b ≠ s.heap.size := hA.1.ne
  have c4 : Steps p.tables e below (s₁.setTop (entryFrame m #[.ref b, .int (Int32.ofNat o), .int (Int32.ofNat len)] 6)) (T3.setTop (mkF m 3 #[.val (.ref b), .val (.int (Int32.ofNat o)), .val (.int (Int32.ofNat len)), .unset, .unset, .unset] [.ref s.heap.size])) := c2.trans (st3 _ (Steps.refl _))
  have c5 : Steps p.tables e below (s₁.setTop (entryFrame m #[.ref b, .int (Int32.ofNat o), .int (Int32.ofNat len)] 6)) (T3.setTop (mkF m 9 #[.val (.ref b), .val (.int (Int32.ofNat o)), .val (.int (Int32.ofNat len)), .val (.ref s.heap.size), .unset, .unset] [.int (Int32.ofNat len), .int 0, .ref s.heap.size, .int (Int32.ofNat o), .ref b])) := c4.trans (by
    refine XS.astoreN X3.here hexec rfl (hb hbytes d3) rfl rfl rfl ?_
    refine XS.aloadN X3.here hexec rfl (hb hbytes d4) rfl rfl ?_
    refine XS.iloadN X3.here hexec rfl (hb hbytes d5) rfl ?_
    refine XS.aloadN X3.here hexec rfl (hb hbytes d6) rfl rfl ?_
    refine iconstV X3.here hexec rfl 0 (hb hbytes d7) (by decide) ?_
    refine XS.iloadN X3.here hexec rfl (hb hbytes d8) rfl ?_
    exact Steps.refl _)
  obtain ⟨v6, T6, X6, E6, g6⟩ := X3.callS hexec (Cmp5.law l b A s.heap.size B3 o 0 len) hown (wks W (staticW U16 115 Cmp5.yN)) (wk W Cmp5.tab) (W := 0) (Nat.le_of_ble_eq_true rfl) (Nat.le_of_ble_eq_true rfl) (Nat.le_refl _) (by show 0 + len + 0 ≤ len; omega) (g := (mkF m 9 #[.val (.ref b), .val (.int (Int32.ofNat o)), .val (.int (Int32.ofNat len)), .val (.ref s.heap.size), .unset, .unset] [.int (Int32.ofNat len), .int (Int32.ofNat 0), .ref s.heap.size, .int (Int32.ofNat o), .ref b])) rfl (by rw [hml]; rfl) c5 (argsL := [.ref b, .int (Int32.ofNat o), .ref s.heap.size, .int (Int32.ofNat 0), .int (Int32.ofNat len)]) (rest := []) rfl rfl (by show 2 * 0 + 0 ≤ _; decide) (hb hbytes d9) (⟨rfl, hA3, ba3, hne, l1, by rw [bs3]; simp, hp⟩)
  obtain ⟨rfl, B6, p6, f6⟩ := E6
  have c7 : Steps p.tables e below (s₁.setTop (entryFrame m #[.ref b, .int (Int32.ofNat o), .int (Int32.ofNat len)] 6)) (T6.setTop (mkF m 12 #[.val (.ref b), .val (.int (Int32.ofNat o)), .val (.int (Int32.ofNat len)), .val (.ref s.heap.size), .unset, .unset] [.int (Int32.ofNat len)])) := g6
  have c8 : Steps p.tables e below (s₁.setTop (entryFrame m #[.ref b, .int (Int32.ofNat o), .int (Int32.ofNat len)] 6)) (T6.setTop (mkF m 58 #[.val (.ref b), .val (.int (Int32.ofNat o)), .val (.int (Int32.ofNat len)), .val (.ref s.heap.size), .val (.int (Int32.ofNat len)), .unset] [.ref s.heap.size])) := c7.trans (by
    refine XS.istore X6.here hexec rfl (hb hbytes d12) rfl rfl ?_
    refine XS.iload X6.here hexec rfl (hb hbytes d14) rfl ?_
    refine XS.iloadN X6.here hexec rfl (hb hbytes d16) rfl ?_
    refine XS.icmpYes X6.here hexec rfl (pc0 := 17) rfl (hb hbytes d17) rfl (ii_eq_t rfl) (by decide) rfl ?_
    refine XS.aloadN X6.here hexec rfl (hb hbytes d57) rfl rfl ?_
    exact Steps.refl _)
  have X8 := X6.wide (L' := []) (cells' := 1) (slots' := len) (fun x hx hlt => by
    simp only [List.nil_append, copyLocs, List.mem_map, List.mem_range] at hx
    obtain ⟨i, -, rfl⟩ := hx
    exact absurd hlt (Nat.lt_irrefl _)) (Nat.le_refl _) (by omega)
  exact ⟨T6, some (.ref s.heap.size), _, _, _, X8, rfl, rfl, rfl, (fun h => by cases h), ⟨⟨rfl, B6, ba3.like (X3.warmed.alike.symm.trans X6.warmed.alike) p6.1 f6.1 f6.2.1 f6.2.2.1, f6.2.1.trans bv3, by rw [X6.warmed.alike.findClass, f6.1]; exact bf3, by rw [f6.2.2.1, bs3]; simp, fun j hj => by rw [f6.2.2.2 j, if_pos (by omega)]; rfl, kp3.put p6 (Nat.le_refl _)⟩, by rw [p6.2.2, bh3, hh0]; simp⟩, fun fs hl => c8.trans (X8.areturnOut hexec rfl hret rfl (hb hbytes d58) hl)⟩
end Cmp3
namespace CodL
def yN : MethodName := ⟨"java/lang/StringUTF16", "coderFromArrayLen", "([BI)B"⟩
abbrev yB : ByteArray := jdk_52_method_15_code
theorem d0 : decode yB 0 = .ok (.iload_n 1, 1) := by decide +kernel
theorem d1 : decode yB 1 = .ok (.aload_n 0, 1) := by decide +kernel
theorem d2 : decode yB 2 = .ok (.arraylength, 1) := by decide +kernel
theorem d3 : decode yB 3 = .ok (.isub, 1) := by decide +kernel
theorem d4 : decode yB 4 = .ok (.bipush 31, 2) := by decide +kernel
theorem d6 : decode yB 6 = .ok (.iushr, 1) := by decide +kernel
theorem d7 : decode yB 7 = .ok (.i2b, 1) := by decide +kernel
theorem d8 : decode yB 8 = .ok (.ireturn, 1) := by decide +kernel
def site : List Cond := []
def tab : Cond := tabOf yN yB 2 (some .byte) site
def P (d : Addr) (B : Cell) (args : Array Value) (s : State) : Prop := args = #[.ref d, .int (Int32.ofNat B.slots.size)] ∧ Arr .byte d B s
def E (r : Option Value) (s u : State) : Prop := XT.PureE (some (.int 0)) r s u
/-- an array as long as the number of chars: LATIN1 -/
theorem law (l : Launch) (d : Addr) (B : Cell) : Law l yN 2 2 0 0 yB 2 (some .byte) site (P d B) E [] 0 0 := by
  refine Law.of_walk (plainFor_of_name (by decide +kernel)) (by decide +kernel) (by decide +kernel) (by decide) (fun _ _ h => by rw [h.1]; rfl) (fun _ U U' hal hh h => ⟨h.1, h.2.mv hal hh⟩) (fun r U U' V V' h1 hal h2 h => XT.PureE.mv r U U' V V' h1 hal h2 h) ?_
  intro p e s m args below meth c s₁ X0 hexec hbytes hml hret hlk hnm hown hh0 W hP
  obtain ⟨rfl, hB⟩ := hP
  have hB0 := hB.mv X0.warmed.alike hh0
  have c1 : Steps p.tables e below (s₁.setTop (entryFrame m #[.ref d, .int (Int32.ofNat B.slots.size)] 2)) (s₁.setTop (mkF m 0 #[.val (.ref d), .val (.int (Int32.ofNat B.slots.size))] [])) := entry rfl
  have c2 : Steps p.tables e below (s₁.setTop (entryFrame m #[.ref d, .int (Int32.ofNat B.slots.size)] 2)) (s₁.setTop (mkF m 2 #[.val (.ref d), .val (.int (Int32.ofNat B.slots.size))] [.ref d, .int (Int32.ofNat B.slots.size)])) := c1.trans (by
    refine XS.iloadN X0.here hexec rfl (hb hbytes d0) rfl ?_
    refine XS.aloadN X0.here hexec rfl (hb hbytes d1) rfl rfl ?_
    exact Steps.refl _)
  have c3 : Steps p.tables e below (s₁.setTop (entryFrame m #[.ref d, .int (Int32.ofNat B.slots.size)] 2)) (s₁.setTop (mkF m 8 #[.val (.ref d), .val (.int (Int32.ofNat B.slots.size))] [.int (lo8 (ushr (Int32.ofNat B.slots.size - Int32.ofNat B.slots.size) 31))])) := c2.trans (by
    refine X0.alen hexec hB0 rfl rfl (hb hbytes d2) ?_
    refine XS.isub X0.here hexec rfl (hb hbytes d3) rfl ?_
    refine bipushV X0.here hexec rfl 31 (hb hbytes d4) (by decide) ?_
    refine iushr X0.here hexec rfl (hb hbytes d6) rfl ?_
    refine i2b X0.here hexec rfl (hb hbytes d7) rfl ?_
    exact Steps.refl _)
  have e0 : lo8 (ushr (Int32.ofNat B.slots.size - Int32.ofNat B.slots.size) 31) = 0 := by rw [Int32.sub_self]; decide
  rw [e0] at c3
  exact ⟨s₁, some (.int 0), _, _, _, X0, rfl, rfl, rfl, (fun h => by cases h), ⟨rfl, hh0⟩, fun fs hl => c3.trans (X0.ireturnOut hexec hret rfl (Or.inr (Or.inr (Or.inl rfl))) (hb hbytes d8) hl)⟩
end CodL
/-- the String at a is Latin-1 over a new byte[] (the heap's one new cell): the low bytes of the len chars of A from o on; every cell but a is kept -/
def Got (a : Addr) (D : Cell) (fV fC : Field) (A : Cell) (o len : Nat) (r : Option Value) (s u : State) : Prop := r = none ∧ ∃ D' V : Cell, Blank "java/lang/String" a D' u ∧ Same D D' [fV.slot, fC.slot] ∧ D'.slots[fV.slot]? = some (.ref s.heap.size) ∧ D'.slots[fC.slot]? = some (.int 0) ∧ Arr .byte s.heap.size V u ∧ V.vm = .none ∧ u.vm.findClass "[B" = some V.cls ∧ V.slots.size = len ∧ (∀ j, j < len → V.slots[j]? = some (.int (lo8 (cv A (o + j))))) ∧ (∀ (y : Addr) (c : Cell), y ≠ a → s.heap[y]? = some c → u.heap[y]? = some c) ∧ u.heap.size = s.heap.size + 1
theorem Got.mv {a : Addr} {D A : Cell} {fV fC : Field} {o len : Nat} : ∀ r (U U' V V' : State), U'.heap = U.heap → V.vm.Alike V'.vm → V'.heap = V.heap → Got a D fV fC A o len r U V → Got a D fV fC A o len r U' V' :=
  fun r U U' V V' h1 hal h2 ⟨e0, D', X, a1, a2, a3, a4, a5, a6, a7, a8, a9, a10, a11⟩ => ⟨e0, D', X, a1.mv hal h2, a2, by rw [h1]; exact a3, a4, by rw [h1]; exact a5.mv hal h2, a6, by rw [hal.findClass]; exact a7, a8, a9, by rw [h1, h2]; exact a10, by rw [h1, h2]; exact a11⟩
namespace New4
def yN : MethodName := ⟨"java/lang/String", "<init>", "([CIILjava/lang/Void;)V"⟩
abbrev yB : ByteArray := jdk_42_method_149_code
theorem d0 : decode yB 0 = .ok (.aload_n 0, 1) := by decide +kernel
theorem d1 : decode yB 1 = .ok (.invokespecial 1, 3) := by decide +kernel
theorem d4 : decode yB 4 = .ok (.iload_n 3, 1) := by decide +kernel
theorem d5 : decode yB 5 = .ok (.ifCond (.ne) 22, 3) := by decide +kernel
theorem d27 : decode yB 27 = .ok (.getstatic 38, 3) := by decide +kernel
theorem d30 : decode yB 30 = .ok (.ifCond (.eq) 28, 3) := by decide +kernel
theorem d33 : decode yB 33 = .ok (.aload_n 1, 1) := by decide +kernel
theorem d34 : decode yB 34 = .ok (.iload_n 2, 1) := by decide +kernel
theorem d35 : decode yB 35 = .ok (.iload_n 3, 1) := by decide +kernel
theorem d36 : decode yB 36 = .ok (.invokestatic 177, 3) := by decide +kernel
theorem d39 : decode yB 39 = .ok (.astore 5, 2) := by decide +kernel
theorem d41 : decode yB 41 = .ok (.aload_n 0, 1) := by decide +kernel
theorem d42 : decode yB 42 = .ok (.aload 5, 2) := by decide +kernel
theorem d44 : decode yB 44 = .ok (.iload_n 3, 1) := by decide +kernel
theorem d45 : decode yB 45 = .ok (.invokestatic 47, 3) := by decide +kernel
theorem d48 : decode yB 48 = .ok (.putfield 15, 3) := by decide +kernel
theorem d51 : decode yB 51 = .ok (.aload_n 0, 1) := by decide +kernel
theorem d52 : decode yB 52 = .ok (.aload 5, 2) := by decide +kernel
theorem d54 : decode yB 54 = .ok (.putfield 9, 3) := by decide +kernel
theorem d57 : decode yB 57 = .ok (.return_, 1) := by decide +kernel
def site : List Cond := [.fieldLink "java/lang/String" 38 "java/lang/String" "COMPACT_STRINGS" "Z", Cmp3.tab, CodL.tab, .laysFinal "java/lang/String" "java/lang/String" "value" "[B", .fieldLink "java/lang/String" 9 "java/lang/String" "value" "[B", .laysFinal "java/lang/String" "java/lang/String" "coder" "B", .fieldLink "java/lang/String" 15 "java/lang/String" "coder" "B"] ++ objW "java/lang/String" 1 ++ staticW "java/lang/String" 177 Cmp3.yN ++ staticW "java/lang/String" 47 CodL.yN
def tab : Cond := tabOf yN yB 6 none site
def P (a : Addr) (D : Cell) (fV fC : Field) (b : Addr) (A : Cell) (z : Int32) (o len : Nat) (args : Array Value) (s : State) : Prop := args = #[.ref a, .ref b, .int (Int32.ofNat o), .int (Int32.ofNat len), .null] ∧ Blank "java/lang/String" a D s ∧ Found "java/lang/String" "value" "[B" fV s ∧ Found "java/lang/String" "coder" "B" fC s ∧ Ch b A s ∧ StaticIs s "java/lang/String" "COMPACT_STRINGS" "Z" (.int z) ∧ ¬ z = 0 ∧ 0 < len ∧ o + len ≤ A.slots.size ∧ len ≤ 536870912 ∧ ∀ i, i < len → ¬ 255 < cv A (o + i)
def E (a : Addr) (D : Cell) (fV fC : Field) (A : Cell) (o len : Nat) (r : Option Value) (s u : State) : Prop := Got a D fV fC A o len r s u
/-- len > 0, no char of the range above 255: a Latin-1 String of their low bytes -/
theorem law (l : Launch) (a : Addr) (D : Cell) (fV fC : Field) (b : Addr) (A : Cell) (z : Int32) (o len : Nat) : Law l yN 5 4 2 35 yB 6 none site (P a D fV fC b A z o len) (E a D fV fC A o len) [⟨a, fC.slot⟩, ⟨a, fV.slot⟩] 1 len := by
  refine Law.of_walk (plainFor_of_name (by decide +kernel)) (by decide +kernel) (by decide +kernel) (by decide) (fun _ _ h => by rw [h.1]; rfl) (fun _ U U' hal hh h => ⟨h.1, h.2.1.mv hal hh, h.2.2.1.al hal, h.2.2.2.1.al hal, h.2.2.2.2.1.mv hal hh, h.2.2.2.2.2.1.there hal hh, h.2.2.2.2.2.2⟩) (fun r U U' V V' h1 hal h2 h => Got.mv r U U' V V' h1 hal h2 h) ?_
  intro p e s m args below meth c s₁ X0 hexec hbytes hml hret hlk hnm hown hh0 W hP
  obtain ⟨rfl, hB, f1, f2, hA, s1, hz, l0, l1, l2, hp⟩ := hP
  have a31 := hA.1.2.2.2
  have c1 : Steps p.tables e below (s₁.setTop (entryFrame m #[.ref a, .ref b, .int (Int32.ofNat o), .int (Int32.ofNat len), .null] 6)) (s₁.setTop (mkF m 0 #[.val (.ref a), .val (.ref b), .val (.int (Int32.ofNat o)), .val (.int (Int32.ofNat len)), .val .null, .unset] [])) := entry rfl
  have c2 : Steps p.tables e below (s₁.setTop (entryFrame m #[.ref a, .ref b, .int (Int32.ofNat o), .int (Int32.ofNat len), .null] 6)) (s₁.setTop (mkF m 1 #[.val (.ref a), .val (.ref b), .val (.int (Int32.ofNat o)), .val (.int (Int32.ofNat len)), .val .null, .unset] [.ref a])) := c1.trans (by
    refine XS.aloadN X0.here hexec rfl (hb hbytes d0) rfl rfl ?_
    exact Steps.refl _)
  obtain ⟨T3, X3, q3, st3⟩ := X0.oinit hexec hown (wks W (objW "java/lang/String" 1)) (g := (mkF m 1 #[.val (.ref a), .val (.ref b), .val (.int (Int32.ofNat o)), .val (.int (Int32.ofNat len)), .val .null, .unset] [.ref a])) rfl (by rw [hml]; rfl) (rest := []) rfl (hb hbytes d1) (W := 0) (by show 2 * 0 + 0 ≤ _; decide) (Nat.le_of_ble_eq_true rfl) (Nat.le_of_ble_eq_true rfl)
  have hh3 := q3.trans hh0
  have c4 : Steps p.tables e below (s₁.setTop (entryFrame m #[.ref a, .ref b, .int (Int32.ofNat o), .int (Int32.ofNat len), .null] 6)) (T3.setTop (mkF m 27 #[.val (.ref a), .val (.ref b), .val (.int (Int32.ofNat o)), .val (.int (Int32.ofNat len)), .val .null, .unset] [])) := (c2.trans (st3 _ (Steps.refl _))).trans (by
    refine XS.iloadN X3.here hexec rfl (hb hbytes d4) rfl ?_
    refine XS.ifYes X3.here hexec rfl (pc0 := 5) rfl (hb hbytes d5) rfl (i0_ne_t (nz32 (by omega) l0)) (by decide) rfl ?_
    exact Steps.refl _)
  obtain ⟨T5, X5, q5, st5⟩ := X3.sget hexec hown (wk W (.fieldLink "java/lang/String" 38 "java/lang/String" "COMPACT_STRINGS" "Z")) s1 (fun _ _ h => by rw [hh3]; exact h) (g := (mkF m 27 #[.val (.ref a), .val (.ref b), .val (.int (Int32.ofNat o)), .val (.int (Int32.ofNat len)), .val .null, .unset] [])) rfl (hb hbytes d27)
  have hh5 := q5.trans hh3
  have c6 : Steps p.tables e below (s₁.setTop (entryFrame m #[.ref a, .ref b, .int (Int32.ofNat o), .int (Int32.ofNat len), .null] 6)) (T5.setTop (mkF m 30 #[.val (.ref a), .val (.ref b), .val (.int (Int32.ofNat o)), .val (.int (Int32.ofNat len)), .val .null, .unset] [.int z])) := c4.trans (st5 _ (Steps.refl _))
  have c7 : Steps p.tables e below (s₁.setTop (entryFrame m #[.ref a, .ref b, .int (Int32.ofNat o), .int (Int32.ofNat len), .null] 6)) (T5.setTop (mkF m 36 #[.val (.ref a), .val (.ref b), .val (.int (Int32.ofNat o)), .val (.int (Int32.ofNat len)), .val .null, .unset] [.int (Int32.ofNat len), .int (Int32.ofNat o), .ref b])) := c6.trans (by
    refine XS.ifNo X5.here hexec rfl (hb hbytes d30) rfl (i0_eq_f hz) ?_
    refine XS.aloadN X5.here hexec rfl (hb hbytes d33) rfl rfl ?_
    refine XS.iloadN X5.here hexec rfl (hb hbytes d34) rfl ?_
    refine XS.iloadN X5.here hexec rfl (hb hbytes d35) rfl ?_
    exact Steps.refl _)
  obtain ⟨v8, T8, X8, E8, g8⟩ := X5.callS hexec (Cmp3.law l b A o len) hown (wks W (staticW "java/lang/String" 177 Cmp3.yN)) (wk W Cmp3.tab) (W := 0) (Nat.le_of_ble_eq_true rfl) (Nat.le_of_ble_eq_true rfl) (Nat.le_refl _) (by show 0 + len ≤ len; omega) (g := (mkF m 36 #[.val (.ref a), .val (.ref b), .val (.int (Int32.ofNat o)), .val (.int (Int32.ofNat len)), .val .null, .unset] [.int (Int32.ofNat len), .int (Int32.ofNat o), .ref b])) rfl (by rw [hml]; rfl) c7 (argsL := [.ref b, .int (Int32.ofNat o), .int (Int32.ofNat len)]) (rest := []) rfl rfl (by show 2 * 0 + 0 ≤ _; decide) (hb hbytes d36) (⟨rfl, hA.mv X5.warmed.alike hh5, l1, l2, hp⟩)
  obtain ⟨e8, z8⟩ := E8
  obtain ⟨rfl, N, n1, n2, n3, n4, n5, n6⟩ := NewArr.mv _ T5 s _ _ hh5.symm (Vm.Alike.refl _) rfl e8
  rw [hh5] at z8
  have hB1 := hB.keep X8.warmed.alike (n6 _ _ hB.1)
  have hne : s.heap.size ≠ a := (Nat.ne_of_lt (Array.getElem?_eq_some_iff.mp hB.1).1).symm
  have c9 : Steps p.tables e below (s₁.setTop (entryFrame m #[.ref a, .ref b, .int (Int32.ofNat o), .int (Int32.ofNat len), .null] 6)) (T8.setTop (mkF m 39 #[.val (.ref a), .val (.ref b), .val (.int (Int32.ofNat o)), .val (.int (Int32.ofNat len)), .val .null, .unset] [.ref s.heap.size])) := g8
  have c10 : Steps p.tables e below (s₁.setTop (entryFrame m #[.ref a, .ref b, .int (Int32.ofNat o), .int (Int32.ofNat len), .null] 6)) (T8.setTop (mkF m 45 #[.val (.ref a), .val (.ref b), .val (.int (Int32.ofNat o)), .val (.int (Int32.ofNat len)), .val .null, .val (.ref s.heap.size)] [.int (Int32.ofNat N.slots.size), .ref s.heap.size, .ref a])) := by
    have hc : Steps p.tables e below (s₁.setTop (entryFrame m #[.ref a, .ref b, .int (Int32.ofNat o), .int (Int32.ofNat len), .null] 6)) (T8.setTop (mkF m 45 #[.val (.ref a), .val (.ref b), .val (.int (Int32.ofNat o)), .val (.int (Int32.ofNat len)), .val .null, .val (.ref s.heap.size)] [.int (Int32.ofNat len), .ref s.heap.size, .ref a])) := c9.trans (by
      refine XS.astore X8.here hexec rfl (hb hbytes d39) rfl rfl rfl ?_
      refine XS.aloadN X8.here hexec rfl (hb hbytes d41) rfl rfl ?_
      refine XS.aload X8.here hexec rfl (hb hbytes d42) rfl rfl ?_
      refine XS.iloadN X8.here hexec rfl (hb hbytes d44) rfl ?_
      exact Steps.refl _)
    rw [n4]; exact hc
  obtain ⟨v11, T11, X11, E11, g11⟩ := X8.callS hexec (CodL.law l s.heap.size N) hown (wks W (staticW "java/lang/String" 47 CodL.yN)) (wk W CodL.tab) (W := 1) (Nat.le_of_ble_eq_true rfl) (Nat.le_of_ble_eq_true rfl) (Nat.le_refl _) (by show 0 + len + 0 ≤ len; omega) (g := (mkF m 45 #[.val (.ref a), .val (.ref b), .val (.int (Int32.ofNat o)), .val (.int (Int32.ofNat len)), .val .null, .val (.ref s.heap.size)] [.int (Int32.ofNat N.slots.size), .ref s.heap.size, .ref a])) rfl (by rw [hml]; rfl) c10 (argsL := [.ref s.heap.size, .int (Int32.ofNat N.slots.size)]) (rest := [.ref a]) rfl rfl (by show 2 * 0 + (1 + 0) ≤ _; decide) (hb hbytes d45) (⟨rfl, n1⟩)
  obtain ⟨rfl, q11⟩ := E11
  have hB11 := hB1.mv (X8.warmed.alike.symm.trans X11.warmed.alike) q11
  have c12 : Steps p.tables e below (s₁.setTop (entryFrame m #[.ref a, .ref b, .int (Int32.ofNat o), .int (Int32.ofNat len), .null] 6)) (T11.setTop (mkF m 48 #[.val (.ref a), .val (.ref b), .val (.int (Int32.ofNat o)), .val (.int (Int32.ofNat len)), .val .null, .val (.ref s.heap.size)] [.int 0, .ref a])) := g11
  obtain ⟨T13, X13, p13, bl13, sl13, st13⟩ := X11.finit hexec hown (wk W (.fieldLink "java/lang/String" 15 "java/lang/String" "coder" "B")) (Or.inr ⟨_, (wk W (.laysFinal "java/lang/String" "java/lang/String" "coder" "B"))⟩) (Or.inl ⟨rfl, hnm⟩) f2 (Or.inl rfl) hB11 (t := .byte) (by decide +kernel) rfl (g := (mkF m 48 #[.val (.ref a), .val (.ref b), .val (.int (Int32.ofNat o)), .val (.int (Int32.ofNat len)), .val .null, .val (.ref s.heap.size)] [.int 0, .ref a])) rfl (rest := []) rfl (hb hbytes d48)
  have c14 : Steps p.tables e below (s₁.setTop (entryFrame m #[.ref a, .ref b, .int (Int32.ofNat o), .int (Int32.ofNat len), .null] 6)) (T13.setTop (mkF m 54 #[.val (.ref a), .val (.ref b), .val (.int (Int32.ofNat o)), .val (.int (Int32.ofNat len)), .val .null, .val (.ref s.heap.size)] [.ref s.heap.size, .ref a])) := (c12.trans (st13 _ (Steps.refl _))).trans (by
    refine XS.aloadN X13.here hexec rfl (hb hbytes d51) rfl rfl ?_
    refine XS.aload X13.here hexec rfl (hb hbytes d52) rfl rfl ?_
    exact Steps.refl _)
  obtain ⟨T15, X15, p15, bl15, sl15, st15⟩ := X13.finit hexec hown (wk W (.fieldLink "java/lang/String" 9 "java/lang/String" "value" "[B")) (Or.inr ⟨_, (wk W (.laysFinal "java/lang/String" "java/lang/String" "value" "[B"))⟩) (Or.inl ⟨rfl, hnm⟩) f1 (Or.inl rfl) bl13 (t := (.array .byte)) (by decide +kernel) rfl (g := (mkF m 54 #[.val (.ref a), .val (.ref b), .val (.int (Int32.ofNat o)), .val (.int (Int32.ofNat len)), .val .null, .val (.ref s.heap.size)] [.ref s.heap.size, .ref a])) rfl (rest := []) rfl (hb hbytes d54)
  have c16 : Steps p.tables e below (s₁.setTop (entryFrame m #[.ref a, .ref b, .int (Int32.ofNat o), .int (Int32.ofNat len), .null] 6)) (T15.setTop (mkF m 57 #[.val (.ref a), .val (.ref b), .val (.int (Int32.ofNat o)), .val (.int (Int32.ofNat len)), .val .null, .val (.ref s.heap.size)] [])) := c14.trans (st15 _ (Steps.refl _))
  have ap := apart (Or.inr ⟨_, (wk W (.laysFinal "java/lang/String" "java/lang/String" "value" "[B"))⟩) (Or.inr ⟨_, (wk W (.laysFinal "java/lang/String" "java/lang/String" "coder" "B"))⟩) f1 f2 (t₁ := .array .byte) (t₂ := .byte) (by decide +kernel) (by decide +kernel) (by decide)
  have al := X8.warmed.alike.symm.trans X15.warmed.alike
  have n7 : T11.heap[s.heap.size]? = some N := by rw [q11]; exact n1.1
  exact ⟨T15, none, _, _, _, X15, by simp, rfl, by omega, (fun _ => rfl), ⟨rfl, _, N, bl15, ((Same.refl D _).set _ (by simp)).set _ (by simp), sl15, (Cell.slots_setSlot_ne _ ap).trans sl13, n1.keep al (p15.other hne (p13.other hne n7)), n2, by rw [al.findClass]; exact n3, n4, n5, fun y c h1 h2 => p15.other h1 (p13.other h1 (by rw [q11]; exact n6 y c h2)), by rw [p15.2.2, p13.2.2, q11]; exact z8⟩, fun fs hl => c16.trans (X15.returnOut hexec hret (hb hbytes d57) hl)⟩
end New4
namespace New1
def yN : MethodName := ⟨"java/lang/String", "<init>", "([C)V"⟩
abbrev yB : ByteArray := jdk_42_method_3_code
theorem d0 : decode yB 0 = .ok (.aload_n 0, 1) := by decide +kernel
theorem d1 : decode yB 1 = .ok (.aload_n 1, 1) := by decide +kernel
theorem d2 : decode yB 2 = .ok (.iconst 0, 1) := by decide +kernel
theorem d3 : decode yB 3 = .ok (.aload_n 1, 1) := by decide +kernel
theorem d4 : decode yB 4 = .ok (.arraylength, 1) := by decide +kernel
theorem d5 : decode yB 5 = .ok (.aconst_null, 1) := by decide +kernel
theorem d6 : decode yB 6 = .ok (.invokespecial 27, 3) := by decide +kernel
theorem d9 : decode yB 9 = .ok (.return_, 1) := by decide +kernel
def site : List Cond := [New4.tab] ++ initW "java/lang/String" 27 New4.yN
def tab : Cond := tabOf yN yB 2 none site
def P (a : Addr) (D : Cell) (fV fC : Field) (b : Addr) (A : Cell) (z : Int32) (args : Array Value) (s : State) : Prop := args = #[.ref a, .ref b] ∧ Blank "java/lang/String" a D s ∧ Found "java/lang/String" "value" "[B" fV s ∧ Found "java/lang/String" "coder" "B" fC s ∧ Ch b A s ∧ StaticIs s "java/lang/String" "COMPACT_STRINGS" "Z" (.int z) ∧ ¬ z = 0 ∧ 0 < A.slots.size ∧ A.slots.size ≤ 536870912 ∧ ∀ i, i < A.slots.size → ¬ 255 < cv A i
def E (a : Addr) (D : Cell) (fV fC : Field) (A : Cell) (r : Option Value) (s u : State) : Prop := Got a D fV fC A 0 A.slots.size r s u
/-- new String(chars), not empty, no char above 255: a Latin-1 String of their low bytes -/
theorem law (l : Launch) (a : Addr) (D : Cell) (fV fC : Field) (b : Addr) (A : Cell) (z : Int32) : Law l yN 2 1 3 52 yB 2 none site (P a D fV fC b A z) (E a D fV fC A) [⟨a, fC.slot⟩, ⟨a, fV.slot⟩] 1 A.slots.size := by
  refine Law.of_walk (plainFor_of_name (by decide +kernel)) (by decide +kernel) (by decide +kernel) (by decide) (fun _ _ h => by rw [h.1]; rfl) (fun _ U U' hal hh h => ⟨h.1, h.2.1.mv hal hh, h.2.2.1.al hal, h.2.2.2.1.al hal, h.2.2.2.2.1.mv hal hh, h.2.2.2.2.2.1.there hal hh, h.2.2.2.2.2.2⟩) (fun r U U' V V' h1 hal h2 h => Got.mv r U U' V V' h1 hal h2 h) ?_
  intro p e s m args below meth c s₁ X0 hexec hbytes hml hret hlk hnm hown hh0 W hP
  obtain ⟨rfl, hB, f1, f2, hA, s1, hz, l0, l2, hp⟩ := hP
  have c1 : Steps p.tables e below (s₁.setTop (entryFrame m #[.ref a, .ref b] 2)) (s₁.setTop (mkF m 0 #[.val (.ref a), .val (.ref b)] [])) := entry rfl
  have c2 : Steps p.tables e below (s₁.setTop (entryFrame m #[.ref a, .ref b] 2)) (s₁.setTop (mkF m 6 #[.val (.ref a), .val (.ref b)] [.null, .int (Int32.ofNat A.slots.size), .int 0, .ref b, .ref a])) := c1.trans (by
    refine XS.aloadN X0.here hexec rfl (hb hbytes d0) rfl rfl ?_
    refine XS.aloadN X0.here hexec rfl (hb hbytes d1) rfl rfl ?_
    refine iconstV X0.here hexec rfl 0 (hb hbytes d2) (by decide) ?_
    refine XS.aloadN X0.here hexec rfl (hb hbytes d3) rfl rfl ?_
    refine X0.alen hexec (hA.1.mv X0.warmed.alike hh0) rfl rfl (hb hbytes d4) ?_
    refine XS.aconstNull X0.here hexec rfl (hb hbytes d5) ?_
    exact Steps.refl _)
  obtain ⟨v3, T3, X3, E3, g3⟩ := X0.callN hexec (New4.law l a D fV fC b A z 0 A.slots.size) rfl hown (wks W (initW "java/lang/String" 27 New4.yN)) (W New4.tab (by simp only [site, List.mem_cons, List.mem_append, true_or, or_true])) (W := 0) (Nat.le_of_ble_eq_true rfl) (Nat.le_of_ble_eq_true rfl) (Nat.le_refl _) (by show 0 + A.slots.size ≤ A.slots.size; omega) (g := (mkF m 6 #[.val (.ref a), .val (.ref b)] [.null, .int (Int32.ofNat A.slots.size), .int (Int32.ofNat 0), .ref b, .ref a])) rfl (by rw [hml]; rfl) c2 (argsL := [.ref b, .int (Int32.ofNat 0), .int (Int32.ofNat A.slots.size), .null]) (rest := []) rfl rfl (by show 2 * 0 + 0 ≤ _; decide) (hb hbytes d6) (⟨rfl, hB.mv X0.warmed.alike hh0, f1.al X0.warmed.alike, f2.al X0.warmed.alike, hA.mv X0.warmed.alike hh0, s1.there X0.warmed.alike hh0, hz, l0, by omega, l2, fun i hi => by rw [Nat.zero_add]; exact hp i hi⟩)
  have e0 := Got.mv _ s₁ s _ _ hh0.symm (Vm.Alike.refl _) rfl E3
  obtain rfl := e0.1
  have c4 : Steps p.tables e below (s₁.setTop (entryFrame m #[.ref a, .ref b] 2)) (T3.setTop (mkF m 9 #[.val (.ref a), .val (.ref b)] [])) := g3
  exact ⟨T3, none, _, _, _, X3, by simp, rfl, by omega, (fun _ => rfl), e0, fun fs hl => c4.trans (X3.returnOut hexec hret (hb hbytes d9) hl)⟩
theorem pays {l : Launch} {R : Room} {p : Program} {e : Env} {below : List Frame} {s : State} {sargs : Array Value} {len W : Nat} (a : Addr) (D : Cell) (fV fC : Field) (b : Addr) (A : Cell) (z : Int32) (htab : tab.before sargs s = true) (hfr : 4 ≤ R.frames) (hlo : W + 65 ≤ R.locals) :
    Back l R p e below s sargs yN len W (fun A₁ a₁ => A₁.cells + 1 ≤ R.cells ∧ A₁.slots + A.slots.size ≤ R.slots ∧ P a D fV fC b A z a₁ A₁.U) (fun A₁ _ v₁ B₁ => E a D fV fC A v₁ A₁.U B₁.U ∧ B₁.locs = A₁.locs ++ [⟨a, fC.slot⟩, ⟨a, fV.slot⟩] ∧ B₁.cells = A₁.cells + 1 ∧ B₁.slots = A₁.slots + A.slots.size) :=
  (law l a D fV fC b A z).pays htab hfr (by omega)
end New1
end StrChars
namespace StrChars.Road
open Jvm Sem ClassFile Op Lib Jvm.Stand Jvm.Free Jvm.Free.XT
open Jvm.Lib.Cold (StaticIs)
abbrev ST : String := "java/lang/String"
/-- every table word that New1's law asks, flat -/
abbrev words : List Jvm.Cond := [.code New1.yN New1.yB 2 none, .initialized ST, .methodLink ST 27 New4.yN, .instanceMethod New4.yN,
  .code New4.yN New4.yB 6 none, .fieldLink ST 38 ST "COMPACT_STRINGS" "Z", .laysFinal ST ST "value" "[B", .fieldLink ST 9 ST "value" "[B", .laysFinal ST ST "coder" "B", .fieldLink ST 15 ST "coder" "B",
  .methodLink ST 1 Lib.objectInit, .instanceMethod Lib.objectInit, .code Lib.objectInit ⟨#[0xb1]⟩ 1 none, .methodLink ST 177 Cmp3.yN, .static Cmp3.yN, .methodLink ST 47 CodL.yN, .static CodL.yN,
  .code Cmp3.yN Cmp3.yB 6 (some (.array .byte)), .initialized U16, .arrayClass .byte, .methodLink U16 115 Cmp5.yN, .static Cmp5.yN, .code Cmp5.yN Cmp5.yB 7 (some .int), .code CodL.yN CodL.yB 2 (some .byte)]
theorem tab_of {a : Array Value} {s : State} (h : ∀ w ∈ words, w.before a s = true) : New1.tab.before a s = true := by
  have h5 : Cmp5.tab.before a s = true := unparts (wk h (.code Cmp5.yN Cmp5.yB 7 (some .int))) (wks h (.initialized Cmp5.yN.cls :: Cmp5.site))
  have hc : CodL.tab.before a s = true := unparts (wk h (.code CodL.yN CodL.yB 2 (some .byte))) (wks h (.initialized CodL.yN.cls :: CodL.site))
  have q5 : ∀ w ∈ Cmp5.tab :: words, w.before a s = true := fun w hw => (List.mem_cons.mp hw).elim (fun e => e ▸ h5) (h w)
  have h3 : Cmp3.tab.before a s = true := unparts (wk q5 (.code Cmp3.yN Cmp3.yB 6 (some (.array .byte)))) (wks q5 (.initialized Cmp3.yN.cls :: Cmp3.site))
  have q3 : ∀ w ∈ Cmp3.tab :: CodL.tab :: words, w.before a s = true := fun w hw => (List.mem_cons.mp hw).elim (fun e => e ▸ h3) fun hw => (List.mem_cons.mp hw).elim (fun e => e ▸ hc) (h w)
  have h4 : New4.tab.before a s = true := unparts (wk q3 (.code New4.yN New4.yB 6 none)) (wks q3 (.initialized New4.yN.cls :: New4.site))
  have q4 : ∀ w ∈ New4.tab :: words, w.before a s = true := fun w hw => (List.mem_cons.mp hw).elim (fun e => e ▸ h4) (h w)
  exact unparts (wk q4 (.code New1.yN New1.yB 2 none)) (wks q4 (.initialized New1.yN.cls :: New1.site))
/-- the words ride from the start Z to the walk's own state -/
theorem moved {Z s : State} {a0 args : Array Value} (hZ : Z.Warmed39 s.vm) (hw : ∀ d ∈ words, d.before a0 Z = true) : ∀ d ∈ words, d.before args s = true := fun d hd => by
  have q := hw d hd
  have t : ∀ d ∈ words, d = .arrayClass .byte ∨ (d.onTables && d.keepsFace) = true := by decide +kernel
  rcases t d hd with rfl | t
  · exact RoadKit.mvA hZ q
  · exact RoadKit.mv hZ q t
/-- WHAT COMES BACK, over the tables of the start Z: h the heap at the call, h' behind it -/
def Q (Z : State) (x : Addr) (A : Cell) (h : Heap) (v : Option Value) (h' : Heap) (L : List Loc) : Prop := v = none ∧ (∀ y ∈ L, y.base = x) ∧ RoadKit.Keep h h' [x] ∧ h'.size = h.size + 1 ∧ RoadKit.Exa Z h' x ST ∧ RoadKit.Fld Z h' x ST "value" "[B" (.ref h.size) ∧ RoadKit.Fld Z h' x ST "coder" "B" (.int 0) ∧
  (∃ V : Cell, RoadKit.Arr Z h' h.size V .byte ∧ V.vm = .none ∧ Z.vm.findClass "[B" = some V.cls ∧ V.slots.size = A.slots.size ∧ ∀ j, j < A.slots.size → V.slots[j]? = some (.int (lo8 (cv A j)))) ∧
  ∀ (O n d : String) (w : Value), RoadKit.Fld Z h x O n d w → RoadKit.slotOf Z O n d ≠ RoadKit.slotOf Z ST "value" "[B" → RoadKit.slotOf Z O n d ≠ RoadKit.slotOf Z ST "coder" "B" → RoadKit.Fld Z h' x O n d w
/-- **new String(chars) AT A CALL, IN THE ROAD'S FORM**: for specialBack behind newO: x the fresh String, b the char[] with the cell A -/
theorem back {p : Program} {l : Launch} {e : Env} {R : Room} {s : State} {args : Array Value} {below : List Frame} {len W : Nat} {Z : State} {a0 : Array Value} {h : Heap} (hZ : Z.Warmed39 s.vm) (hw : ∀ d ∈ words, d.before a0 Z = true) {kI : Nat} (wi : (Jvm.Cond.instantiable ST kI).before a0 Z = true)
    {x b : Addr} {A : Cell} {z : Int32} {v0 c0 : Value} (E : RoadKit.Exa Z h x ST) (V : RoadKit.Fld Z h x ST "value" "[B" v0) (C : RoadKit.Fld Z h x ST "coder" "B" c0) (K : RoadKit.Arr Z h b A .char) (hty : Typed .char A) (S : RoadKit.Sta Z h ST "COMPACT_STRINGS" "Z" (.int z)) (hz : ¬ z = 0)
    (l0 : 0 < A.slots.size) (l2 : A.slots.size ≤ 536870912) (hp : ∀ i, i < A.slots.size → ¬ 255 < cv A i) (hfr : 4 ≤ R.frames) (hlo : W + 65 ≤ R.locals) :
    Back l R p e below s args New1.yN len W (fun P a => a = #[.ref x, .ref b] ∧ P.U.heap = h ∧ P.cells + 1 ≤ R.cells ∧ P.slots + A.slots.size ≤ R.slots)
      (fun P _ v B => ∃ L, Q Z x A h v B.U.heap L ∧ B.locs = P.locs ++ L ∧ B.cells = P.cells + 1 ∧ B.slots = P.slots + A.slots.size) := by
  intro m meth c P g ig mk a X hg hsize hdg hW hn hp'
  obtain ⟨rfl, rfl, r1, r2⟩ := hp'
  have al : Z.vm.Alike P.U.vm := hZ.alike.trans X.warmed.alike
  obtain ⟨D, cfV, kV, iV, fV, hD, gV, stV, knV, obV, asV, slV⟩ := id V
  obtain ⟨D', cfC, kC, iC, fC, hD', gC, stC, -, -, asC, slC⟩ := id C
  cases hD.symm.trans hD'
  obtain ⟨D2, kD, e1, e2, e3, e4, e5⟩ := id E
  cases hD.symm.trans e1
  obtain ⟨c2, k2, i1, i2, i3, -⟩ := Cond.instantiable_spec wi
  cases e2.symm.trans i1
  cases e3.symm.trans i2
  obtain ⟨kU, u1, u2⟩ := al.2.2 _ _ e3
  have hB : Blank ST x D P.U := ⟨hD, ⟨knV, fun q hq => by rw [hq] at obV; cases obV⟩, by rw [al.findClass]; exact e2, kU, u1, by rw [u2]; exact i3, by rw [u2]; exact e5 i3⟩
  have F1 : Found ST "value" "[B" fV P.U := ⟨SBG.found_only al ⟨cfV, kV, iV, gV⟩, stV⟩
  have F2 : Found ST "coder" "B" fC P.U := ⟨SBG.found_only al ⟨cfC, kC, iC, gC⟩, stC⟩
  have hA : Ch b A P.U := ⟨⟨K.1, State.isArrayOf_alike al K.2.1, K.2.2, by omega⟩, hty⟩
  have hS : StaticIs P.U ST "COMPACT_STRINGS" "Z" (.int z) := by
    obtain ⟨cfS, iS, kS, fS, st, cS, t1, t2, t3, t4, t5, t6, t7⟩ := S
    exact StaticIs.there (s := { Z with heap := P.U.heap }) ⟨cfS, iS, kS, fS, st, cS, t1, t2, t3, t4, t5, (fun q => by rw [q] at t6; cases t6), t7⟩ al rfl
  obtain ⟨v, B, X', ⟨⟨hv, E', V', q1, q2, q3, q4, q5, q6, q7, q8, q9, q10, q11⟩, hl, hc, hs⟩, st⟩ := New1.pays x D fV fC b A z (tab_of (moved hZ hw)) hfr hlo m meth c P g ig mk _ X hg hsize hdg hW hn ⟨r1, r2, rfl, hB, F1, F2, hA, hS, hz, l0, l2, hp⟩
  have al' : Z.vm.Alike B.U.vm := hZ.alike.trans X'.warmed.alike
  have hsz : E'.slots.size = D.slots.size := by
    obtain ⟨-, -, -, kB, w1, w2, w3⟩ := q1
    obtain ⟨kB', y1, y2⟩ := al'.2.2 _ _ e3
    rw [q2.2.1] at w1
    cases w1.symm.trans y1
    rw [w3, e5 i3, y2]
  refine ⟨v, B, X', ⟨_, ⟨hv, ?_, ⟨by omega, fun y cy hy hn' => q10 y cy (by simpa using hn') hy, fun y cy hy => ?_⟩, q11, ⟨E', _, q1.1, by rw [q2.2.1]; exact e2, by rw [q2.2.1]; exact e3, by rw [q2.1]; exact obV, fun _ => by rw [hsz]; exact e5 i3⟩,
    ⟨E', cfV, kV, iV, fV, q1.1, gV, stV, by rw [q2.1]; exact knV, by rw [q2.1]; exact obV, by rw [q2.2.1]; exact asV, q3⟩, ⟨E', cfC, kC, iC, fC, q1.1, gC, stC, by rw [q2.1]; exact knV, by rw [q2.1]; exact obV, by rw [q2.2.1]; exact asC, q4⟩,
    ⟨V', ⟨q5.1, State.isArrayOf_alike al'.symm q5.2.1, q5.2.2.1⟩, q6, by rw [← al'.findClass]; exact q7, q8, fun j hj => by have := q9 j hj; rwa [Nat.zero_add] at this⟩, fun O n d w F n1 n2 => ?_⟩, hl, hc, hs⟩, st⟩
  · intro y hy
    simp only [List.mem_cons, List.not_mem_nil, or_false] at hy
    rcases hy with rfl | rfl <;> rfl
  · by_cases q : y = x
    · subst q
      cases hD.symm.trans hy
      exact ⟨E', q1.1, q2.2.1, q2.1, hsz⟩
    · exact ⟨cy, q10 y cy q hy, rfl, rfl, rfl⟩
  · obtain ⟨D3, cf, k, i, f, g1, g2, g3, g4, g5, g6, g7⟩ := F
    cases hD.symm.trans g1
    simp only [RoadKit.slotOf, g2, gV, gC, Option.map_some, Option.getD_some] at n1 n2
    exact ⟨E', cf, k, i, f, q1.1, g2, g3, by rw [q2.1]; exact g4, by rw [q2.1]; exact g5, by rw [q2.2.1]; exact g6, by rw [q2.2.2 f.slot (by simp [n1, n2])]; exact g7⟩
end StrChars.Road
namespace StrChars.Road
open Jvm Sem ClassFile Op Lib Jvm.Stand Jvm.Free Jvm.Free.XT
/-- WHAT COMES BACK, the byte[] as a list of values -/
def QA (Z : State) (x : Addr) (zn : Int32) (cs : List Int32) (h : Heap) (v : Option Value) (h' : Heap) (L : List Loc) : Prop := v = none ∧ (∀ y ∈ L, y.base = x) ∧ RoadKit.Keep h h' [x] ∧ h'.size = h.size + 1 ∧ RoadKit.Exa Z h' x ST ∧ RoadKit.Fld Z h' x ST "value" "[B" (.ref h.size) ∧ RoadKit.Fld Z h' x ST "coder" "B" (.int 0) ∧
  (∃ kb, Z.vm.findClass "[B" = some kb ∧ RoadKit.Arv Z h' h.size kb .byte zn (cs.map fun c => .int (lo8 c)) (.int 0)) ∧
  ∀ (O n d : String) (w : Value), RoadKit.Fld Z h x O n d w → RoadKit.slotOf Z O n d ≠ RoadKit.slotOf Z ST "value" "[B" → RoadKit.slotOf Z O n d ≠ RoadKit.slotOf Z ST "coder" "B" → RoadKit.Fld Z h' x O n d w
/-- **new String(chars) AT A CALL, THE ARRAYS AS LISTS**: the char[] at b holds cs, not empty, no char above 255 -/
theorem backArv {p : Program} {l : Launch} {e : Env} {R : Room} {s : State} {args : Array Value} {below : List Frame} {len W : Nat} {Z : State} {a0 : Array Value} {h : Heap} (hZ : Z.Warmed39 s.vm) (hw : ∀ d ∈ words, d.before a0 Z = true) {kI : Nat} (wi : (Jvm.Cond.instantiable ST kI).before a0 Z = true)
    {x b : Addr} {k : ClassId} {zn z : Int32} {cs : List Int32} {dv v0 c0 : Value} (E : RoadKit.Exa Z h x ST) (V : RoadKit.Fld Z h x ST "value" "[B" v0) (C : RoadKit.Fld Z h x ST "coder" "B" c0) (K : RoadKit.Arv Z h b k .char zn (cs.map Value.int) dv) (S : RoadKit.Sta Z h ST "COMPACT_STRINGS" "Z" (.int z)) (hz : ¬ z = 0)
    (hlen : zn.toNatClampNeg = cs.length) (h0 : 0 < cs.length) (hbig : cs.length ≤ 536870912) (hall : ∀ c ∈ cs, ¬ 255 < c) (hfr : 4 ≤ R.frames) (hlo : W + 65 ≤ R.locals) :
    Back l R p e below s args New1.yN len W (fun P a => a = #[.ref x, .ref b] ∧ P.U.heap = h ∧ P.cells + 1 ≤ R.cells ∧ P.slots + cs.length ≤ R.slots)
      (fun P _ v B => ∃ L, QA Z x zn cs h v B.U.heap L ∧ B.locs = P.locs ++ L ∧ B.cells = P.cells + 1 ∧ B.slots = P.slots + cs.length) := by
  obtain ⟨A, K1, K2, K3, K4, K5, K6⟩ := K
  have e : A.slots.size = cs.length := K3.trans hlen
  have hat : ∀ (i : Nat) (hi : i < cs.length), A.slots[i]? = some (.int cs[i]) := fun i hi => by rw [K5 i (by omega)]; simp [List.getD_eq_getElem?_getD, hi]
  have hcv : ∀ (i : Nat) (hi : i < cs.length), cv A i = cs[i] := fun i hi => by unfold cv; rw [hat i hi]
  have hty : Typed .char A := fun i v hv => by
    have hi : i < A.slots.size := (Array.getElem?_eq_some_iff.mp hv).1
    have q := K5 i hi
    rw [hv] at q
    rw [Option.some.inj q]
    exact K6 i hi
  refine Back.mono (back hZ hw wi E V C K1 hty S hz (by omega) (by omega) (fun i hi => by rw [hcv i (by omega)]; exact hall _ (List.getElem_mem _)) hfr hlo) (fun P a hp => ⟨hp.1, hp.2.1, hp.2.2.1, by rw [e]; exact hp.2.2.2⟩) (fun P a v B hp hq => ?_)
  obtain ⟨L, ⟨q1, q2, q3, q4, q5, q6, q7, ⟨V', v1, v2, v3, v4, v5⟩, q9⟩, hl, hc, hs⟩ := hq
  refine ⟨L, ⟨q1, q2, q3, q4, q5, q6, q7, ⟨V'.cls, v3, V', v1, rfl, by rw [v4, e, hlen], K4, fun i hi => ?_, fun i hi => ?_⟩, q9⟩, hl, hc, by rw [hs, e]⟩
  · have hi' : i < cs.length := by omega
    rw [v5 i (by omega), hcv i hi']; simp [List.getD_eq_getElem?_getD, hi']
  · have hi' : i < cs.length := by omega
    simp only [List.getD_eq_getElem?_getD, List.getElem?_map, List.getElem?_eq_getElem hi', Option.map_some, Option.getD_some]
    exact fits_lo8 _
end StrChars.Road
namespace StrChars.Road
open Jvm Sem ClassFile Op Lib Jvm.Stand Jvm.Free Jvm.Free.XT
/-- WHAT COMES BACK, in the writer's own shape -/
def QV (Z : State) (x : Addr) (N : Int32) (bs : List Int32) (h : Heap) (n0 : Nat) (v : Option Value) (h' : Heap) (L : List Loc) : Prop := v = none ∧ RoadKit.Fr n0 L ∧ RoadKit.Keep h h' [x] ∧ RoadKit.Exa Z h' x ST ∧ RoadKit.Fld Z h' x ST "coder" "B" (.int 0) ∧
  ∃ (t : Addr) (kb : ClassId), n0 ≤ t ∧ h.size ≤ t ∧ ¬ t = x ∧ RoadKit.Fld Z h' x ST "value" "[B" (.ref t) ∧ RoadKit.Arv Z h' t kb .byte N (bs.map Value.int) (.int 0)
/-- **new String(chars) AT A CALL, FOR THE WRITER**: a char[] of n known ints, each 0 to 255 -/
theorem backV {p : Program} {l : Launch} {e : Env} {R : Room} {s : State} {args : Array Value} {below : List Frame} {len W : Nat} {Z : State} {a0 : Array Value} {h : Heap} (hZ : Z.Warmed39 s.vm) (hw : ∀ d ∈ words, d.before a0 Z = true) {kI : Nat} (wi : (Jvm.Cond.instantiable ST kI).before a0 Z = true)
    {x b : Addr} {kC : ClassId} {cs bs : List Int32} {d v0 c0 : Value} {z N : Int32} {n n0 : Nat} (hx0 : n0 ≤ x) (hh0 : n0 ≤ h.size) (E : RoadKit.Exa Z h x ST) (V : RoadKit.Fld Z h x ST "value" "[B" v0) (C : RoadKit.Fld Z h x ST "coder" "B" c0) (K : RoadKit.Arv Z h b kC .char N (cs.map Value.int) d) (S : RoadKit.Sta Z h ST "COMPACT_STRINGS" "Z" (.int z)) (hz : ¬ z = 0)
    (hn : cs.length = n) (hN : N = Int32.ofNat n) (l0 : 0 < n) (l2 : n ≤ 4000) (hp : ∀ c ∈ cs, ¬ c < 0 ∧ ¬ (255 : Int32) < c) (hb : bs = cs.map (fun c => c.toInt8.toInt32)) (hfr : 4 ≤ R.frames) (hlo : W + 65 ≤ R.locals) :
    Back l R p e below s args (⟨"java/lang/String", "<init>", "([C)V"⟩ : MethodName) len W (fun P a => a = #[.ref x, .ref b] ∧ P.U.heap = h ∧ P.cells + 1 ≤ R.cells ∧ P.slots + n ≤ R.slots)
      (fun P _ v B => ∃ L, QV Z x N bs h n0 v B.U.heap L ∧ B.locs = P.locs ++ L ∧ B.cells = P.cells + 1 ∧ B.slots = P.slots + n) := by
  subst hn hN hb
  refine Back.mono (backArv hZ hw wi E V C K S hz (n32 (by omega)) l0 (by omega) (fun c hc => (hp c hc).2) hfr hlo) (fun P a hp => hp) (fun P a v B hp hq => ?_)
  obtain ⟨L, ⟨q1, q2, q3, q4, q5, q6, q7, ⟨kb, v1, v2⟩, q9⟩, hl, hc, hs⟩ := hq
  exact ⟨L, ⟨q1, fun y hy => by rw [q2 y hy]; exact hx0, q3, q5, q7, h.size, kb, hh0, Nat.le_refl _, Nat.ne_of_gt E.lt, q6, by rw [List.map_map]; exact v2⟩, hl, hc, hs⟩
end StrChars.Road
end Jvm.Pilot.@@N@@
namespace Jvm.Pilot.@@N@@
open Jvm Jvm.ClassFile Sem Op Lib Jvm.Free Jvm.Stand Jvm.LawKit Jvm.RoadKit Bundle Jvm.Pilot.@@N@@.Jvm.D
section OwnRun
variable {p : Program} {l : Launch} {e : Env} {R : Room} {s : State} {m : MethodId} {args : Array Value} {below : List Frame} {meth : Method} {c : Code} {T T' : State} {locs : List Loc} {cells slots : Nat} {Q : Option Value → Heap → List Loc → Prop} {C S : Nat}
/-- from T with the frame g on top the body comes to its end, and what it leaves is as Q says -/
def ORun (p : Program) (e : Env) (below : List Frame) (s : State) (Q : Option Value → Heap → List Loc → Prop) (C S : Nat) (T : State) (g : JFrame) : Prop :=
  ∃ s₂ o, Steps p.tables e below (T.setTop g) s₂ ∧ s₂.status = .running ∧ Ended s₂ below o ∧ ∃ v L, o = .returned v ∧ Q v s₂.heap L ∧ FrameEnd s o s₂ L C S
theorem own_by {g g' : JFrame} (st : ∀ t, Steps p.tables e below (T'.setTop g') t → Steps p.tables e below (T.setTop g) t) (h : ORun p e below s Q C S T' g') : ORun p e below s Q C S T g := by
  obtain ⟨s₂, o, h1, h2⟩ := h
  exact ⟨s₂, o, st _ h1, h2⟩
theorem own_tr {g g' : JFrame} (st : Steps p.tables e below (T.setTop g) (T'.setTop g')) (h : ORun p e below s Q C S T' g') : ORun p e below s Q C S T g := own_by (fun _ k => st.trans k) h
theorem own_letI (x : Int32) {f : Int32 → JFrame} (h : ∀ v, v = x → ORun p e below s Q C S T (f v)) : ORun p e below s Q C S T (f x) := h x rfl
theorem own_letJ (x : Int64) {f : Int64 → JFrame} (h : ∀ v, v = x → ORun p e below s Q C S T (f v)) : ORun p e below s Q C S T (f x) := h x rfl
theorem own_retI (X : Stand p l e R s m args below meth c T locs cells slots) (hx : p.tables.exec = Jvm.exec) {pc : Nat} {Ls : Array Slot} {z : Int32} {rest : List Value} (hret : meth.sig.returnType = some .int) (hlk : meth.locks = false) (hd : decode c.code pc = .ok (.ireturn, 1)) (hc : cells ≤ C) (hs : slots ≤ S) (hQ : Q (some (.int z)) T.heap locs) :
    ORun p e below s Q C S T (mkF m pc Ls (.int z :: rest)) := by
  obtain ⟨fs, hr, hrun, hended, hW, hsame⟩ := X.leave (v := some (.int z)) (fun h => by rw [hret] at h; cases h) hlk
  exact ⟨_, _, retI X hx hret hd hr, hrun, hended, _, _, rfl, hQ, ⟨_, rfl⟩, hW, hsame.mono hc hs⟩
theorem own_retN (X : Stand p l e R s m args below meth c T locs cells slots) (hx : p.tables.exec = Jvm.exec) {pc : Nat} {Ls : Array Slot} {z : Int32} {t : FieldType} {rest : List Value} (hret : meth.sig.returnType = some t) (ht : t = .boolean ∨ t = .byte ∨ t = .char ∨ t = .short) (hlk : meth.locks = false) (hd : decode c.code pc = .ok (.ireturn, 1)) (hc : cells ≤ C) (hs : slots ≤ S) (hQ : Q (some (.int (nar t z))) T.heap locs) :
    ORun p e below s Q C S T (mkF m pc Ls (.int z :: rest)) := by
  obtain ⟨fs, hr, hrun, hended, hW, hsame⟩ := X.leave (v := some (.int (nar t z))) (fun h => by rw [hret] at h; cases h) hlk
  exact ⟨_, _, retN X hx hret ht hd hr, hrun, hended, _, _, rfl, hQ, ⟨_, rfl⟩, hW, hsame.mono hc hs⟩
theorem own_retJ (X : Stand p l e R s m args below meth c T locs cells slots) (hx : p.tables.exec = Jvm.exec) {pc : Nat} {Ls : Array Slot} {z : Int64} (hret : meth.sig.returnType = some .long) (hlk : meth.locks = false) (hd : decode c.code pc = .ok (.lreturn, 1)) (hc : cells ≤ C) (hs : slots ≤ S) (hQ : Q (some (.long z)) T.heap locs) :
    ORun p e below s Q C S T (mkF m pc Ls [.long z]) := by
  obtain ⟨fs, hr, hrun, hended, hW, hsame⟩ := X.leave (v := some (.long z)) (fun h => by rw [hret] at h; cases h) hlk
  exact ⟨_, _, X.lreturnOut hx hret hd hr, hrun, hended, _, _, rfl, hQ, ⟨_, rfl⟩, hW, hsame.mono hc hs⟩
theorem own_retA (X : Stand p l e R s m args below meth c T locs cells slots) (hx : p.tables.exec = Jvm.exec) {pc : Nat} {Ls : Array Slot} {z : Value} {t : FieldType} {rest : List Value} (hret : meth.sig.returnType = some t) (ht : t.isReference = true) (hz : z.isRef = true) (hn : narrow t z = z) (hlk : meth.locks = false) (hd : decode c.code pc = .ok (.areturn, 1)) (hc : cells ≤ C) (hs : slots ≤ S) (hQ : Q (some z) T.heap locs) :
    ORun p e below s Q C S T (mkF m pc Ls (z :: rest)) := by
  obtain ⟨fs, hr, hrun, hended, hW, hsame⟩ := X.leave (v := some z) (fun h => by rw [hret] at h; cases h) hlk
  exact ⟨_, _, retOut X hx hret hn (Or.inr (Or.inr (Or.inr (Or.inr ⟨rfl, ht, hz⟩)))) hd hr, hrun, hended, _, _, rfl, hQ, ⟨_, rfl⟩, hW, hsame.mono hc hs⟩
theorem own_retV (X : Stand p l e R s m args below meth c T locs cells slots) (hx : p.tables.exec = Jvm.exec) {pc : Nat} {Ls : Array Slot} (hret : meth.sig.returnType = none) (hlk : meth.locks = false) (hd : decode c.code pc = .ok (.return_, 1)) (hc : cells ≤ C) (hs : slots ≤ S) (hQ : Q none T.heap locs) :
    ORun p e below s Q C S T (mkF m pc Ls []) := by
  obtain ⟨fs, hr, hrun, hended, hW, hsame⟩ := X.leave (v := none) (fun _ => rfl) hlk
  exact ⟨_, _, X.returnOut hx hret hd hr, hrun, hended, _, _, rfl, hQ, ⟨_, rfl⟩, hW, hsame.mono hc hs⟩
/-- a body's contract: called with as at the heap h (tables as at Z) it returns, and what it leaves is as Q says -/
abbrev OMet (l : Launch) (y : MethodName) (bytes : ByteArray) (maxL : Nat) (ret : Option FieldType) (ws : List Jvm.Cond) (rm : Room) (as' : Array Value) (Z : State) (h : Heap) (Q : Option Value → Heap → List Loc → Prop) : Prop :=
  MetFree l y (head1 (Jvm.Cond.code y bytes maxL ret :: ws) rm) (fun a U => a = as' ∧ Z.Warmed39 U.vm ∧ U.heap = h) (fun _ _ _ _ _ => True) (fun _ U o U' => ∃ v L, o = .returned v ∧ Q v U'.heap L ∧ FrameEnd U o U' L rm.cells rm.slots)
theorem own_met {y : MethodName} {bytes : ByteArray} {maxL : Nat} {ret : Option FieldType} {ws : List Jvm.Cond} {rm : Room} {as' : Array Value} {Z : State} {h : Heap} {Q : Option Value → Heap → List Loc → Prop} (hpn : plainFor y = true)
    (body : ∀ p e s m below meth c s₁, Stand p l e rm s m as' below meth c s₁ [] 0 0 → p.tables.exec = Jvm.exec → c.code = bytes → c.maxLocals = maxL → s.vm.findClass y.cls = some m.cls → meth.name = y.name → meth.sig.returnType = ret → meth.locks = false → Z.Warmed39 s.vm → s₁.heap = h →
      ORun p e below s Q rm.cells rm.slots s₁ (entryFrame m as' maxL)) : OMet l y bytes maxL ret ws rm as' Z h Q := by
  refine MetFree.of_bodySF hpn hisR ?_
  intro p e s m args below meth c s₁ Bd hml0 hP hK
  obtain ⟨rfl, hZ, hh⟩ := hP
  exact body p e s m below meth c s₁ (Stand.of_body Bd) Bd.exec Bd.bytes hml0 (findClass_of_methodNamed Bd.named) (name_of_methodNamed Bd.named Bd.method).1 Bd.returns Bd.notSynchronized hZ (by rw [← hh, Bd.state]; rfl)
section Calls
variable {Z : State} {a0 : Array Value} {h : Heap} {own : String} {index : Nat} {y z : MethodName} {bytes : ByteArray} {maxL : Nat} {ret : Option FieldType} {rm : Room} {as' : Array Value} {Qc : Option Value → Heap → List Loc → Prop} {W pc : Nat} {Ls : Array Slot} {st argsL rest : List Value}
theorem own_callS (X : Stand p l e R s m args below meth c T locs cells slots) (hx : p.tables.exec = Jvm.exec) (hZ : Z.Warmed39 s.vm) (hown : s.vm.findClass own = some m.cls) (w1 : (Jvm.Cond.methodLink own index y).before a0 Z = true) (w2 : (Jvm.Cond.static y).before a0 Z = true) (w3 : (Jvm.Cond.initialized y.cls).before a0 Z = true) (w4 : (Jvm.Cond.code y bytes maxL ret).before a0 Z = true)
    (hy : y.cls ≠ "java/lang/invoke/MethodHandle" ∧ y.cls ≠ "java/lang/invoke/VarHandle") (M : OMet l y bytes maxL ret [] rm as' Z h Qc) (eT : T.heap = h) (hf : rm.frames + 1 ≤ R.frames) (hl : W + (maxL + 11) + rm.locals ≤ R.locals) (hc : cells + rm.cells ≤ R.cells) (hs : slots + rm.slots ≤ R.slots)
    (hsz : Ls.size = c.maxLocals) (hlen : ∀ sig, parseMethodDescriptor y.desc = some sig → argsL.length = sig.parameters.length) (hst : st = argsL.reverse ++ rest) (has : argsL.toArray = as') (hW : 2 * 0 + (rest.map fun v => v.category).sum ≤ W) (hd : decode c.code pc = .ok (.invokestatic index, 3))
    (K : ∀ T' L v, Stand p l e R s m args below meth c T' (locs ++ L) (cells + rm.cells) (slots + rm.slots) → Qc v T'.heap L → ORun p e below s Q C S T' (mkF m (pc + 3) Ls (v.toList ++ rest))) : ORun p e below s Q C S T (mkF m pc Ls st) := by
  obtain ⟨v, _, ⟨T', L', k', n'⟩, -, X', ⟨Lc, hQ, e1, e2, e3⟩, stp⟩ := Jvm.LawKit.callS X hx (y := y) hown (mvT hZ w1) (mvT hZ w2) (mvT hZ w3) (mvT hZ w4) hy (backOf (W := W) M hZ w4 w3 hf hl) (g := mkF m pc Ls st) rfl hsz (argsL := argsL) (rest := rest) hlen hst hW hd (fun _ _ => ⟨has, eT, hc, hs⟩)
  dsimp only [Pt.U, Pt.locs, Pt.cells, Pt.slots] at X' e1 e2 e3 stp hQ
  subst e1 e2 e3
  exact own_by stp (K T' Lc v X' hQ)
theorem own_callC (X : Stand p l e R s m args below meth c T locs cells slots) (hx : p.tables.exec = Jvm.exec) (hZ : Z.Warmed39 s.vm) (hown : s.vm.findClass own = some m.cls) (hn : y.name = "<init>") (w1 : (Jvm.Cond.methodLink own index y).before a0 Z = true) (w2 : (Jvm.Cond.instanceMethod y).before a0 Z = true) (w3 : (Jvm.Cond.initialized y.cls).before a0 Z = true) (w4 : (Jvm.Cond.code y bytes maxL none).before a0 Z = true)
    (hy : y.cls ≠ "java/lang/invoke/MethodHandle" ∧ y.cls ≠ "java/lang/invoke/VarHandle") (M : OMet l y bytes maxL none [] rm as' Z h Qc) (eT : T.heap = h) (hf : rm.frames + 1 ≤ R.frames) (hl : W + (maxL + 11) + rm.locals ≤ R.locals) (hc : cells + rm.cells ≤ R.cells) (hs : slots + rm.slots ≤ R.slots)
    {b : Addr} (hsz : Ls.size = c.maxLocals) (hlen : ∀ sig, parseMethodDescriptor y.desc = some sig → argsL.length = sig.parameters.length) (hst : st = argsL.reverse ++ .ref b :: rest) (has : (.ref b :: argsL).toArray = as') (hW : 2 * 0 + (rest.map fun v => v.category).sum ≤ W) (hd : decode c.code pc = .ok (.invokespecial index, 3))
    (K : ∀ T' L v, Stand p l e R s m args below meth c T' (locs ++ L) (cells + rm.cells) (slots + rm.slots) → Qc v T'.heap L → ORun p e below s Q C S T' (mkF m (pc + 3) Ls (v.toList ++ rest))) : ORun p e below s Q C S T (mkF m pc Ls st) := by
  obtain ⟨v, _, ⟨T', L', k', n'⟩, -, X', ⟨Lc, hQ, e1, e2, e3⟩, stp⟩ := X.specialBack hx (y := y) hn hown (mvT hZ w1) (mvT hZ w2) (mvT hZ w4) hy (backOf (W := W) M hZ w4 w3 hf hl) (g := mkF m pc Ls st) rfl hsz (Steps.refl _) (a := b) (argsL := argsL) (rest := rest) hlen hst hW hd (fun _ _ => ⟨has, eT, hc, hs⟩)
  dsimp only [Pt.U, Pt.locs, Pt.cells, Pt.slots] at X' e1 e2 e3 stp hQ
  subst e1 e2 e3
  exact own_tr stp (K T' Lc v X' hQ)
theorem own_callV (X : Stand p l e R s m args below meth c T locs cells slots) (hx : p.tables.exec = Jvm.exec) (hZ : Z.Warmed39 s.vm) (hown : s.vm.findClass own = some m.cls) {Cn : String} {b : Addr} (E : Exa Z h b Cn) (w1 : (Jvm.Cond.methodLink own index y).before a0 Z = true) (wd : (Jvm.Cond.declares y).before a0 Z = true) (nf : NotFace s y) (ws : (Jvm.Cond.selects Cn y z).before a0 Z = true) (w2 : (Jvm.Cond.instanceMethod z).before a0 Z = true) (w3 : (Jvm.Cond.initialized z.cls).before a0 Z = true) (w4 : (Jvm.Cond.code z bytes maxL ret).before a0 Z = true)
    (hy : y.cls ≠ "java/lang/invoke/MethodHandle" ∧ y.cls ≠ "java/lang/invoke/VarHandle") (M : OMet l z bytes maxL ret [] rm as' Z h Qc) (eT : T.heap = h) (hf : rm.frames + 1 ≤ R.frames) (hl : W + (maxL + 11) + rm.locals ≤ R.locals) (hc : cells + rm.cells ≤ R.cells) (hs : slots + rm.slots ≤ R.slots)
    (hsz : Ls.size = c.maxLocals) (hlen : ∀ sig, parseMethodDescriptor y.desc = some sig → argsL.length = sig.parameters.length) (hst : st = argsL.reverse ++ .ref b :: rest) (has : (.ref b :: argsL).toArray = as') (hW : 2 * 0 + (rest.map fun v => v.category).sum ≤ W) (hd : decode c.code pc = .ok (.invokevirtual index, 3))
    (K : ∀ T' L v, Stand p l e R s m args below meth c T' (locs ++ L) (cells + rm.cells) (slots + rm.slots) → Qc v T'.heap L → ORun p e below s Q C S T' (mkF m (pc + 3) Ls (v.toList ++ rest))) : ORun p e below s Q C S T (mkF m pc Ls st) := by
  obtain ⟨cq, kq, qa, qb, qc⟩ := isOf hZ eT E
  obtain ⟨v, _, ⟨T', L', k', n'⟩, -, X', ⟨Lc, hQ, e1, e2, e3⟩, stp⟩ := X.virtualBack hx (y := y) (z := z) hown (mvT hZ w1) (mvT hZ wd) nf (mvT hZ ws) (mvT hZ w2) hy (backOf (W := W) M hZ w4 w3 hf hl) qa qc (g := mkF m pc Ls st) rfl hsz (Steps.refl _) (argsL := argsL) (rest := rest) hlen hst hW hd (fun _ _ => ⟨has, eT, hc, hs⟩)
  dsimp only [Pt.U, Pt.locs, Pt.cells, Pt.slots] at X' e1 e2 e3 stp hQ
  subst e1 e2 e3
  exact own_tr stp (K T' Lc v X' hQ)
end Calls
end OwnRun
theorem own_lt {x y : Int32} {a b : Int} (h : x < y) (ha : x.toInt = a) (hb : y.toInt = b) : a < b := by subst ha hb; exact Int32.lt_iff_toInt_lt.mp h
theorem own_nlt {x y : Int32} {a b : Int} (h : ¬ x < y) (ha : x.toInt = a) (hb : y.toInt = b) : b ≤ a := by subst ha hb; exact Int.not_lt.mp fun q => h (Int32.lt_iff_toInt_lt.mpr q)
theorem own_eq {x y : Int32} {a b : Int} (h : x = y) (ha : x.toInt = a) (hb : y.toInt = b) : a = b := by subst ha hb h; rfl
theorem own_ne {x y : Int32} {a b : Int} (h : ¬ x = y) (ha : x.toInt = a) (hb : y.toInt = b) : a ≠ b := by subst ha hb; exact fun q => h (Int32.toInt_inj.mp q)
theorem own_ltL {x y : Int64} {a b : Int} (h : x < y) (ha : x.toInt = a) (hb : y.toInt = b) : a < b := by subst ha hb; exact Int64.lt_iff_toInt_lt.mp h
theorem own_nltL {x y : Int64} {a b : Int} (h : ¬ x < y) (ha : x.toInt = a) (hb : y.toInt = b) : b ≤ a := by subst ha hb; exact Int.not_lt.mp fun q => h (Int64.lt_iff_toInt_lt.mpr q)
theorem own_eqL {x y : Int64} {a b : Int} (h : x = y) (ha : x.toInt = a) (hb : y.toInt = b) : a = b := by subst ha hb h; rfl
theorem own_neL {x y : Int64} {a b : Int} (h : ¬ x = y) (ha : x.toInt = a) (hb : y.toInt = b) : a ≠ b := by subst ha hb; exact fun q => h (Int64.toInt_inj.mp q)
theorem own_lc {cd : ClassFile.Cond} {x y : Int64} {b : Bool} (h : if_icmp.holds cd (lcmpW x y) 0 = b) : ifCond.holds cd (lcmpW x y) = b := (if0 _ _).trans h
theorem own_lclt {x y : Int64} (h : x < y) : ifCond.holds .lt (lcmpW x y) = true ∧ ifCond.holds .ge (lcmpW x y) = false := ⟨own_lc (tlt ((lw_lt x y).mpr h)).1, own_lc (tlt ((lw_lt x y).mpr h)).2.1⟩
theorem own_lcnlt {x y : Int64} (h : ¬ x < y) : ifCond.holds .lt (lcmpW x y) = false ∧ ifCond.holds .ge (lcmpW x y) = true := have q : ¬ lcmpW x y < 0 := fun z => h ((lw_lt x y).mp z); ⟨own_lc (flt q).1, own_lc (flt q).2.1⟩
theorem own_lcgt {x y : Int64} (h : y < x) : ifCond.holds .gt (lcmpW x y) = true ∧ ifCond.holds .le (lcmpW x y) = false := ⟨own_lc (tlt ((lw_gt x y).mpr h)).2.2.1, own_lc (tlt ((lw_gt x y).mpr h)).2.2.2⟩
theorem own_lcngt {x y : Int64} (h : ¬ y < x) : ifCond.holds .gt (lcmpW x y) = false ∧ ifCond.holds .le (lcmpW x y) = true := have q : ¬ 0 < lcmpW x y := fun z => h ((lw_gt x y).mp z); ⟨own_lc (flt q).2.2.1, own_lc (flt q).2.2.2⟩
theorem own_lceq {x y : Int64} (h : x = y) : ifCond.holds .eq (lcmpW x y) = true ∧ ifCond.holds .ne (lcmpW x y) = false := ⟨own_lc (teq ((lw_eq x y).mpr h)).1, own_lc (teq ((lw_eq x y).mpr h)).2⟩
theorem own_lcne {x y : Int64} (h : ¬ x = y) : ifCond.holds .eq (lcmpW x y) = false ∧ ifCond.holds .ne (lcmpW x y) = true := have q : ¬ lcmpW x y = 0 := fun z => h ((lw_eq x y).mp z); ⟨own_lc (feq q).1, own_lc (feq q).2⟩
theorem own_kext {h0 h : Heap} (K : Keep h0 h []) : Ext h0 h := ⟨K.1, fun a c q => K.2.1 a c q nin0⟩
section OwnVec
variable {p : Program} {l : Launch} {e : Env} {R : Room} {s : State} {m : MethodId} {args : Array Value} {below : List Frame} {meth : Method} {c : Code} {T T' : State} {locs : List Loc} {cells slots : Nat} {Q : Option Value → Heap → List Loc → Prop} {C S : Nat} {Z : State} {a0 : Array Value} {h h' : Heap} {a b : Addr} {ty : FieldType} {L : List Int32} {pc : Nat} {Ls : Array Slot} {rest : List Value}
/-- the array at a holds the ints of L, and no more -/
def OVec (Z : State) (h : Heap) (a : Addr) (ty : FieldType) (L : List Int32) : Prop := ∃ c : Cell, Arr Z h a c ty ∧ c.slots = (L.map Value.int).toArray
theorem OVec.lt (V : OVec Z h a ty L) : a < h.size := by obtain ⟨c, A, -⟩ := V; exact A.lt
theorem OVec.ext (V : OVec Z h a ty L) (E : Ext h h') : OVec Z h' a ty L := by obtain ⟨c, A, r⟩ := V; exact ⟨c, A.ext E, r⟩
theorem OVec.other {sl : Nat} {v : Value} (V : OVec Z h b ty L) (W : Wr h h' a sl v) (q : b ≠ a) : OVec Z h' b ty L := by obtain ⟨c, A, r⟩ := V; exact ⟨c, A.other W q, r⟩
theorem OVec.keep {ws : List Addr} (V : OVec Z h a ty L) (K : Keep h h' ws) (q : a ∉ ws) : OVec Z h' a ty L := by obtain ⟨c, A, r⟩ := V; exact ⟨c, ⟨K.2.1 a c A.1 q, A.2⟩, r⟩
theorem OVec.set {j : Nat} {x : Int32} (V : OVec Z h a ty L) (W : Wr h h' a j (.int x)) : OVec Z h' a ty (L.set j x) := by
  obtain ⟨c, A, r⟩ := V
  refine ⟨c.setSlot j (.int x), A.same W, ?_⟩
  show c.slots.setIfInBounds j (.int x) = _
  rw [r, List.setIfInBounds_toArray, List.map_set]
theorem OVec.new {k : ClassId} {n : Int32} (A : Arr Z h a (newA k ty n) ty) (hd : defaultValue ty = .int 0) {N : Nat} (hn : n.toInt = N) : OVec Z h a ty (List.replicate N 0) := by
  refine ⟨_, A, ?_⟩
  have e : n.toNatClampNeg = N := by simp only [Int32.toNatClampNeg]; omega
  simp [newA, hd, e]
theorem own_ix {j : Int32} {i : Nat} (hj : j.toInt = i) : ¬ j < 0 ∧ j.toNatClampNeg = i := by
  refine ⟨fun q => ?_, ?_⟩
  · have := Int32.lt_iff_toInt_lt.mp q; have z : (0 : Int32).toInt = 0 := rfl; omega
  · simp only [Int32.toNatClampNeg]; omega
theorem own_in {c : Cell} {j : Int32} {i : Nat} (hj : j.toInt = i) (r : c.slots = (L.map Value.int).toArray) (hi : i < L.length) : ¬ (j < 0 ∨ c.slots.size ≤ j.toNatClampNeg) := by
  obtain ⟨q1, q2⟩ := own_ix hj
  rintro (q | q)
  · exact q1 q
  · rw [r, q2] at q; simp at q; omega
theorem own_iaload (X : Stand p l e R s m args below meth c T locs cells slots) (hx : p.tables.exec = Jvm.exec) (hZ : Z.Warmed39 s.vm) (eT : T.heap = h) (V : OVec Z h a .int L) {j : Int32} {i : Nat} (hj : j.toInt = i) (hi : i < L.length) (hd : decode c.code pc = .ok (.iaload, 1))
    (K : ∀ v, v = L.getD i 0 → ORun p e below s Q C S T (mkF m (pc + 1) Ls (.int v :: rest))) : ORun p e below s Q C S T (mkF m pc Ls (.int j :: .ref a :: rest)) := by
  obtain ⟨cl, A, r⟩ := V
  refine own_by (fun t k => X.iaload hx (j := j) (v := .int (L.getD i 0)) (by rw [eT]; exact A.1) (State.isArrayOf_alike hZ.alike A.2.1) A.2.2 (own_in hj r hi) ?_ (g := mkF m pc Ls (.int j :: .ref a :: rest)) rfl rfl hd _ k) (K _ rfl)
  rw [(own_ix hj).2, r]; simp [List.getD_eq_getElem?_getD, List.getElem?_eq_getElem hi]
theorem own_baload (X : Stand p l e R s m args below meth c T locs cells slots) (hx : p.tables.exec = Jvm.exec) (hZ : Z.Warmed39 s.vm) (eT : T.heap = h) (V : OVec Z h a .byte L) {j : Int32} {i : Nat} (hj : j.toInt = i) (hi : i < L.length) (hd : decode c.code pc = .ok (.baload, 1))
    (K : ∀ v, v = L.getD i 0 → ORun p e below s Q C S T (mkF m (pc + 1) Ls (.int v :: rest))) : ORun p e below s Q C S T (mkF m pc Ls (.int j :: .ref a :: rest)) := by
  obtain ⟨cl, A, r⟩ := V
  refine own_by (fun t k => X.baloadBytes hx (j := j) (v := .int (L.getD i 0)) (by rw [eT]; exact A.1) (State.isArrayOf_alike hZ.alike A.2.1) A.2.2 (own_in hj r hi) ?_ (g := mkF m pc Ls (.int j :: .ref a :: rest)) rfl rfl hd _ k) (K _ rfl)
  rw [(own_ix hj).2, r]; simp [List.getD_eq_getElem?_getD, List.getElem?_eq_getElem hi]
theorem own_len (X : Stand p l e R s m args below meth c T locs cells slots) (hx : p.tables.exec = Jvm.exec) (hZ : Z.Warmed39 s.vm) (eT : T.heap = h) (V : OVec Z h a ty L) {n : Nat} (hl : L.length = n) (hd : decode c.code pc = .ok (.arraylength, 1))
    (K : ORun p e below s Q C S T (mkF m (pc + 1) Ls (.int n.toInt32 :: rest))) : ORun p e below s Q C S T (mkF m pc Ls (.ref a :: rest)) := by
  obtain ⟨cl, A, r⟩ := V
  have hs : cl.slots.size = n := by rw [r]; simp [hl]
  refine own_by (fun t k => X.arraylength hx (by rw [eT]; exact A.1) (State.isArrayOf_alike hZ.alike A.2.1) (g := mkF m pc Ls (.ref a :: rest)) rfl rfl hd _ k) ?_
  rw [hs]; exact K
theorem own_iastore (X : Stand p l e R s m args below meth c T locs cells slots) (hx : p.tables.exec = Jvm.exec) (hZ : Z.Warmed39 s.vm) (eT : T.heap = h) (V : OVec Z h a .int L) {j x : Int32} {i : Nat} (hj : j.toInt = i) (hi : i < L.length) (hd : decode c.code pc = .ok (.iastore, 1))
    (K : ∀ T' h' L', Stand p l e R s m args below meth c T' (locs ++ [⟨a, i⟩]) cells slots → T'.heap = h' → Wr h h' a i (.int x) → L' = L.set i x → OVec Z h' a .int L' → ORun p e below s Q C S T' (mkF m (pc + 1) Ls rest)) : ORun p e below s Q C S T (mkF m pc Ls (.int x :: .int j :: .ref a :: rest)) := by
  obtain ⟨cl, A, r⟩ := id V
  obtain ⟨T', h', X', e', W, st⟩ := stI X hx hZ eT A (own_in hj r hi) (g := mkF m pc Ls (.int x :: .int j :: .ref a :: rest)) rfl rfl hd
  rw [(own_ix hj).2] at X' W
  exact own_by st (K T' h' _ X' e' W rfl (V.set W))
theorem own_bastore (X : Stand p l e R s m args below meth c T locs cells slots) (hx : p.tables.exec = Jvm.exec) (hZ : Z.Warmed39 s.vm) (eT : T.heap = h) (V : OVec Z h a .byte L) {j x : Int32} {i : Nat} (hj : j.toInt = i) (hi : i < L.length) (hd : decode c.code pc = .ok (.bastore, 1))
    (K : ∀ T' h' L', Stand p l e R s m args below meth c T' (locs ++ [⟨a, i⟩]) cells slots → T'.heap = h' → Wr h h' a i (.int (nar .byte x)) → L' = L.set i (nar .byte x) → OVec Z h' a .byte L' → ORun p e below s Q C S T' (mkF m (pc + 1) Ls rest)) : ORun p e below s Q C S T (mkF m pc Ls (.int x :: .int j :: .ref a :: rest)) := by
  obtain ⟨cl, A, r⟩ := id V
  obtain ⟨T', h', X', e', W, st⟩ := stB X hx hZ eT A (own_in hj r hi) (g := mkF m pc Ls (.int x :: .int j :: .ref a :: rest)) rfl rfl hd
  rw [(own_ix hj).2] at X' W
  exact own_by st (K T' h' _ X' e' W rfl (V.set W))
theorem own_newarray (X : Stand p l e R s m args below meth c T locs cells slots) (hx : p.tables.exec = Jvm.exec) (hZ : Z.Warmed39 s.vm) {aty : ArrayType} (w : (Jvm.Cond.arrayClass (newarray.typeOf aty)).before a0 Z = true) (eT : T.heap = h) (hdv : defaultValue (newarray.typeOf aty) = .int 0) {n : Int32} {N cap : Nat} (hn : n.toInt = N) (hcap : N ≤ cap) (hb : cap * 8 ≤ 536870912) (hc : cells + 1 ≤ R.cells) (hl : slots + cap ≤ R.slots) {ad : String} (had : "[" ++ (newarray.typeOf aty).toString = ad) (hd : decode c.code pc = .ok (.newarray aty, 2))
    (K : ∀ T' h' b L', b = h.size → Stand p l e R s m args below meth c T' locs (cells + 1) (slots + cap) → T'.heap = h' → Ext h h' → L' = List.replicate N (0 : Int32) → OVec Z h' b (newarray.typeOf aty) L' → Exa Z h' b ad → ORun p e below s Q C S T' (mkF m (pc + 2) Ls (.ref b :: rest))) : ORun p e below s Q C S T (mkF m pc Ls (.int n :: rest)) := by
  have q := own_ix hn
  obtain ⟨T', h', cA, X', e', E, A, Ex, st⟩ := newPE X hx hZ w eT (g := mkF m pc Ls (.int n :: rest)) rfl hd rfl q.1 (cap := cap) (by rw [q.2]; exact hcap) hb hc hl had
  exact own_by st (K T' h' _ _ rfl X' e' E rfl (OVec.new A hdv hn) Ex)
end OwnVec
section OwnVecJ
variable {p : Program} {l : Launch} {e : Env} {R : Room} {s : State} {m : MethodId} {args : Array Value} {below : List Frame} {meth : Method} {c : Code} {T T' : State} {locs : List Loc} {cells slots : Nat} {Q : Option Value → Heap → List Loc → Prop} {C S : Nat} {Z : State} {a0 : Array Value} {h h' : Heap} {a b : Addr} {L : List Int64} {pc : Nat} {Ls : Array Slot} {rest : List Value}
def OVecJ (Z : State) (h : Heap) (a : Addr) (L : List Int64) : Prop := ∃ c : Cell, Arr Z h a c .long ∧ c.slots = (L.map Value.long).toArray
theorem OVecJ.lt (V : OVecJ Z h a L) : a < h.size := by obtain ⟨c, A, -⟩ := V; exact A.lt
theorem OVecJ.ext (V : OVecJ Z h a L) (E : Ext h h') : OVecJ Z h' a L := by obtain ⟨c, A, r⟩ := V; exact ⟨c, A.ext E, r⟩
theorem OVecJ.other {sl : Nat} {v : Value} (V : OVecJ Z h b L) (W : Wr h h' a sl v) (q : b ≠ a) : OVecJ Z h' b L := by obtain ⟨c, A, r⟩ := V; exact ⟨c, A.other W q, r⟩
theorem OVecJ.keep {ws : List Addr} (V : OVecJ Z h a L) (K : Keep h h' ws) (q : a ∉ ws) : OVecJ Z h' a L := by obtain ⟨c, A, r⟩ := V; exact ⟨c, ⟨K.2.1 a c A.1 q, A.2⟩, r⟩
theorem OVecJ.set {j : Nat} {x : Int64} (V : OVecJ Z h a L) (W : Wr h h' a j (.long x)) : OVecJ Z h' a (L.set j x) := by
  obtain ⟨c, A, r⟩ := V
  refine ⟨c.setSlot j (.long x), A.same W, ?_⟩
  show c.slots.setIfInBounds j (.long x) = _
  rw [r, List.setIfInBounds_toArray, List.map_set]
theorem OVecJ.new {k : ClassId} {n : Int32} (A : Arr Z h a (newA k .long n) .long) {N : Nat} (hn : n.toInt = N) : OVecJ Z h a (List.replicate N 0) := by
  refine ⟨_, A, ?_⟩
  have e : n.toNatClampNeg = N := by simp only [Int32.toNatClampNeg]; omega
  have d : defaultValue .long = .long 0 := rfl
  simp [newA, e, d]
theorem own_inJ {c : Cell} {j : Int32} {i : Nat} (hj : j.toInt = i) (r : c.slots = (L.map Value.long).toArray) (hi : i < L.length) : ¬ (j < 0 ∨ c.slots.size ≤ j.toNatClampNeg) := by
  obtain ⟨q1, q2⟩ := own_ix hj
  rintro (q | q)
  · exact q1 q
  · rw [r, q2] at q; simp at q; omega
theorem own_laload (X : Stand p l e R s m args below meth c T locs cells slots) (hx : p.tables.exec = Jvm.exec) (hZ : Z.Warmed39 s.vm) (eT : T.heap = h) (V : OVecJ Z h a L) {j : Int32} {i : Nat} (hj : j.toInt = i) (hi : i < L.length) (hd : decode c.code pc = .ok (.laload, 1))
    (K : ∀ v, v = L.getD i 0 → ORun p e below s Q C S T (mkF m (pc + 1) Ls (.long v :: rest))) : ORun p e below s Q C S T (mkF m pc Ls (.int j :: .ref a :: rest)) := by
  obtain ⟨cl, A, r⟩ := V
  refine own_by (fun t k => X.laload hx (j := j) (v := .long (L.getD i 0)) (by rw [eT]; exact A.1) (State.isArrayOf_alike hZ.alike A.2.1) A.2.2 (own_inJ hj r hi) ?_ (g := mkF m pc Ls (.int j :: .ref a :: rest)) rfl rfl hd _ k) (K _ rfl)
  rw [(own_ix hj).2, r]; simp [List.getD_eq_getElem?_getD, List.getElem?_eq_getElem hi]
theorem own_lastore (X : Stand p l e R s m args below meth c T locs cells slots) (hx : p.tables.exec = Jvm.exec) (hZ : Z.Warmed39 s.vm) (eT : T.heap = h) (V : OVecJ Z h a L) {j : Int32} {x : Int64} {i : Nat} (hj : j.toInt = i) (hi : i < L.length) (hd : decode c.code pc = .ok (.lastore, 1))
    (K : ∀ T' h' L', Stand p l e R s m args below meth c T' (locs ++ [⟨a, i⟩]) cells slots → T'.heap = h' → Wr h h' a i (.long x) → L' = L.set i x → OVecJ Z h' a L' → ORun p e below s Q C S T' (mkF m (pc + 1) Ls rest)) : ORun p e below s Q C S T (mkF m pc Ls (.long x :: .int j :: .ref a :: rest)) := by
  obtain ⟨cl, A, r⟩ := id V
  obtain ⟨T', h', X', e', W, st⟩ := stJ X hx hZ eT A (own_inJ hj r hi) (g := mkF m pc Ls (.long x :: .int j :: .ref a :: rest)) rfl rfl hd
  rw [(own_ix hj).2] at X' W
  exact own_by st (K T' h' _ X' e' W rfl (V.set W))
theorem own_newJ (X : Stand p l e R s m args below meth c T locs cells slots) (hx : p.tables.exec = Jvm.exec) (hZ : Z.Warmed39 s.vm) (w : (Jvm.Cond.arrayClass .long).before a0 Z = true) (eT : T.heap = h) {n : Int32} {N cap : Nat} (hn : n.toInt = N) (hcap : N ≤ cap) (hb : cap * 8 ≤ 536870912) (hc : cells + 1 ≤ R.cells) (hl : slots + cap ≤ R.slots) (hd : decode c.code pc = .ok (.newarray .long, 2))
    (K : ∀ T' h' b L', b = h.size → Stand p l e R s m args below meth c T' locs (cells + 1) (slots + cap) → T'.heap = h' → Ext h h' → L' = List.replicate N (0 : Int64) → OVecJ Z h' b L' → ORun p e below s Q C S T' (mkF m (pc + 2) Ls (.ref b :: rest))) : ORun p e below s Q C S T (mkF m pc Ls (.int n :: rest)) := by
  have q := own_ix hn
  obtain ⟨T', h', cA, X', e', E, A, st⟩ := newP X hx hZ (aty := .long) w eT (g := mkF m pc Ls (.int n :: rest)) rfl hd rfl q.1 (cap := cap) (by rw [q.2]; exact hcap) hb hc hl
  exact own_by st (K T' h' _ _ rfl X' e' E rfl (OVecJ.new A hn))
end OwnVecJ
section OwnStr
variable {p : Program} {l : Launch} {e : Env} {R : Room} {s : State} {m : MethodId} {args : Array Value} {below : List Frame} {meth : Method} {c : Code} {T T' : State} {locs : List Loc} {cells slots : Nat} {Q : Option Value → Heap → List Loc → Prop} {C S : Nat} {Z : State} {a0 : Array Value} {h h' : Heap} {a b : Addr} {ty : FieldType} {L : List Int32} {pc : Nat} {Ls : Array Slot} {rest : List Value}
theorem own_castore (X : Stand p l e R s m args below meth c T locs cells slots) (hx : p.tables.exec = Jvm.exec) (hZ : Z.Warmed39 s.vm) (eT : T.heap = h) (V : OVec Z h a .char L) {j x : Int32} {i : Nat} (hj : j.toInt = i) (hi : i < L.length) (hd : decode c.code pc = .ok (.castore, 1))
    (K : ∀ T' h' L', Stand p l e R s m args below meth c T' (locs ++ [⟨a, i⟩]) cells slots → T'.heap = h' → Wr h h' a i (.int (nar .char x)) → L' = L.set i (nar .char x) → OVec Z h' a .char L' → ORun p e below s Q C S T' (mkF m (pc + 1) Ls rest)) : ORun p e below s Q C S T (mkF m pc Ls (.int x :: .int j :: .ref a :: rest)) := by
  obtain ⟨cl, A, r⟩ := id V
  obtain ⟨T', h', X', e', W, st⟩ := stC X hx hZ eT A (own_in hj r hi) (g := mkF m pc Ls (.int x :: .int j :: .ref a :: rest)) rfl rfl hd
  rw [(own_ix hj).2] at X' W
  exact own_by st (K T' h' _ X' e' W rfl (V.set W))
theorem own_getD' (L : List Int32) (i : Nat) : (L.map Value.int).getD i (.int 0) = .int (L.getD i 0) := by
  simp only [List.getD_eq_getElem?_getD, List.getElem?_map]
  cases L[i]? <;> rfl
theorem OVec.arvC (V : OVec Z h a ty L) (hf : ∀ x ∈ L, fits ty (.int x) = true) (hn : L.length < 2 ^ 31) : ∃ k, Arv Z h a k ty (Int32.ofNat L.length) (L.map Value.int) (.int 0) := by
  obtain ⟨cl, A, r⟩ := V
  have e0 : (Int32.ofNat L.length).toInt = L.length := Int32.toInt_ofNat_of_lt hn
  obtain ⟨q1, q2⟩ := own_ix e0
  refine ⟨cl.cls, cl, A, rfl, by rw [q2, r]; simp, q1, fun i hi => ?_, fun i hi => ?_⟩
  · rw [own_getD', r]
    rw [r] at hi
    have hi' : i < L.length := by simpa using hi
    simp [List.getD_eq_getElem?_getD, hi']
  · rw [own_getD']
    rw [r] at hi
    have hi' : i < L.length := by simpa using hi
    apply hf
    simp [List.getD_eq_getElem?_getD, hi']
theorem own_callCB {own : String} {index : Nat} {y : MethodName} {bytes : ByteArray} {maxL kc ks W : Nat} {as' : Array Value} {Qc : Option Value → Heap → List Loc → Prop} {st argsL : List Value} (X : Stand p l e R s m args below meth c T locs cells slots) (hx : p.tables.exec = Jvm.exec) (hZ : Z.Warmed39 s.vm) (hown : s.vm.findClass own = some m.cls) (hn : y.name = "<init>") (w1 : (Jvm.Cond.methodLink own index y).before a0 Z = true) (w2 : (Jvm.Cond.instanceMethod y).before a0 Z = true) (w4 : (Jvm.Cond.code y bytes maxL none).before a0 Z = true)
    (hy : y.cls ≠ "java/lang/invoke/MethodHandle" ∧ y.cls ≠ "java/lang/invoke/VarHandle") (hK : Back l R p e below s args y 3 W (fun P a => a = as' ∧ P.U.heap = h ∧ P.cells + kc ≤ R.cells ∧ P.slots + ks ≤ R.slots) (fun P _ v B => ∃ L, Qc v B.U.heap L ∧ B.locs = P.locs ++ L ∧ B.cells = P.cells + kc ∧ B.slots = P.slots + ks)) (eT : T.heap = h) (hc : cells + kc ≤ R.cells) (hs : slots + ks ≤ R.slots)
    {b : Addr} (hsz : Ls.size = c.maxLocals) (hlen : ∀ sig, parseMethodDescriptor y.desc = some sig → argsL.length = sig.parameters.length) (hst : st = argsL.reverse ++ .ref b :: rest) (has : (.ref b :: argsL).toArray = as') (hW : 2 * 0 + (rest.map fun v => v.category).sum ≤ W) (hd : decode c.code pc = .ok (.invokespecial index, 3))
    (K : ∀ T' L v, Stand p l e R s m args below meth c T' (locs ++ L) (cells + kc) (slots + ks) → Qc v T'.heap L → ORun p e below s Q C S T' (mkF m (pc + 3) Ls (v.toList ++ rest))) : ORun p e below s Q C S T (mkF m pc Ls st) := by
  obtain ⟨v, _, ⟨T', L', k', n'⟩, -, X', ⟨Lc, hQ, e1, e2, e3⟩, stp⟩ := X.specialBack hx (y := y) hn hown (mvT hZ w1) (mvT hZ w2) (mvT hZ w4) hy hK (g := mkF m pc Ls st) rfl hsz (Steps.refl _) (a := b) (argsL := argsL) (rest := rest) hlen hst hW hd (fun _ _ => ⟨has, eT, hc, hs⟩)
  dsimp only [Pt.U, Pt.locs, Pt.cells, Pt.slots] at X' e1 e2 e3 stp hQ
  subst e1 e2 e3
  exact own_tr stp (K T' Lc v X' hQ)
/-- an array of references to objects of class K -/
def OVecR (Z : State) (h : Heap) (a : Addr) (K : String) (L : List Value) : Prop := ∃ c : Cell, Arr Z h a c (.object K) ∧ Ovr Z c.cls K ∧ c.slots = L.toArray
variable {Kn : String} {Lr : List Value}
theorem OVecR.lt (V : OVecR Z h a Kn Lr) : a < h.size := by obtain ⟨c, A, -⟩ := V; exact A.lt
theorem OVecR.ext (V : OVecR Z h a Kn Lr) (E : Ext h h') : OVecR Z h' a Kn Lr := by obtain ⟨c, A, r⟩ := V; exact ⟨c, A.ext E, r⟩
theorem OVecR.other {sl : Nat} {v : Value} (V : OVecR Z h b Kn Lr) (W : Wr h h' a sl v) (q : b ≠ a) : OVecR Z h' b Kn Lr := by obtain ⟨c, A, r⟩ := V; exact ⟨c, A.other W q, r⟩
theorem OVecR.keep {ws : List Addr} (V : OVecR Z h a Kn Lr) (K : Keep h h' ws) (q : a ∉ ws) : OVecR Z h' a Kn Lr := by obtain ⟨c, A, r⟩ := V; exact ⟨c, ⟨K.2.1 a c A.1 q, A.2⟩, r⟩
theorem own_aastore (X : Stand p l e R s m args below meth c T locs cells slots) (hx : p.tables.exec = Jvm.exec) (hZ : Z.Warmed39 s.vm) (eT : T.heap = h) (V : OVecR Z h a Kn Lr) {x : Addr} (I : Ins Z h x Kn true) {j : Int32} {i : Nat} (hj : j.toInt = i) (hi : i < Lr.length) (hd : decode c.code pc = .ok (.aastore, 1))
    (K : ∀ T' h', Stand p l e R s m args below meth c T' (locs ++ [⟨a, i⟩]) cells slots → T'.heap = h' → Wr h h' a i (.ref x) → OVecR Z h' a Kn (Lr.set i (.ref x)) → ORun p e below s Q C S T' (mkF m (pc + 1) Ls rest)) : ORun p e below s Q C S T (mkF m pc Ls (.ref x :: .int j :: .ref a :: rest)) := by
  obtain ⟨cl, A, O, r⟩ := id V
  have hin : ¬ (j < 0 ∨ cl.slots.size ≤ j.toNatClampNeg) := by
    rintro (q | q)
    · exact (own_ix hj).1 q
    · rw [r, (own_ix hj).2] at q; simp at q; omega
  obtain ⟨T', h', X', e', W, st⟩ := stR X hx hZ eT A hin rfl (Sto.of A O I) (g := mkF m pc Ls (.ref x :: .int j :: .ref a :: rest)) rfl rfl hd
  rw [(own_ix hj).2] at X' W
  refine own_by st (K T' h' X' e' W ⟨cl.setSlot i (.ref x), A.same W, O, ?_⟩)
  show cl.slots.setIfInBounds i (.ref x) = _
  rw [r, List.setIfInBounds_toArray]
theorem own_aaload (X : Stand p l e R s m args below meth c T locs cells slots) (hx : p.tables.exec = Jvm.exec) (hZ : Z.Warmed39 s.vm) (eT : T.heap = h) (V : OVecR Z h a Kn Lr) {j : Int32} {i : Nat} (hj : j.toInt = i) {v : Value} (hi : Lr[i]? = some v) (hd : decode c.code pc = .ok (.aaload, 1))
    (K : ORun p e below s Q C S T (mkF m (pc + 1) Ls (v :: rest))) : ORun p e below s Q C S T (mkF m pc Ls (.int j :: .ref a :: rest)) := by
  obtain ⟨cl, A, O, r⟩ := V
  have hil : i < Lr.length := (List.getElem?_eq_some_iff.mp hi).1
  have hin : ¬ (j < 0 ∨ cl.slots.size ≤ j.toNatClampNeg) := by
    rintro (q | q)
    · exact (own_ix hj).1 q
    · rw [r, (own_ix hj).2] at q; simp at q; omega
  refine own_by (fun t k => X.aaload hx (j := j) (v := v) (by rw [eT]; exact A.1) (State.isArrayOf_alike hZ.alike A.2.1) rfl A.2.2 hin ?_ (g := mkF m pc Ls (.int j :: .ref a :: rest)) rfl rfl hd _ k) K
  rw [(own_ix hj).2, r]; simpa using hi
theorem own_alen (X : Stand p l e R s m args below meth c T locs cells slots) (hx : p.tables.exec = Jvm.exec) (hZ : Z.Warmed39 s.vm) (eT : T.heap = h) (V : OVecR Z h a Kn Lr) {n : Nat} (hl : Lr.length = n) (hd : decode c.code pc = .ok (.arraylength, 1))
    (K : ORun p e below s Q C S T (mkF m (pc + 1) Ls (.int n.toInt32 :: rest))) : ORun p e below s Q C S T (mkF m pc Ls (.ref a :: rest)) := by
  obtain ⟨cl, A, O, r⟩ := V
  have hs : cl.slots.size = n := by rw [r]; simp [hl]
  refine own_by (fun t k => X.arraylength hx (by rw [eT]; exact A.1) (State.isArrayOf_alike hZ.alike A.2.1) (g := mkF m pc Ls (.ref a :: rest)) rfl rfl hd _ k) ?_
  rw [hs]; exact K
theorem own_newR (X : Stand p l e R s m args below meth c T locs cells slots) (hx : p.tables.exec = Jvm.exec) (hZ : Z.Warmed39 s.vm) {own : String} {index : Nat} (hown : s.vm.findClass own = some m.cls) (w1 : (Jvm.Cond.classLink own index Kn).before a0 Z = true) (w2 : (Jvm.Cond.arrayOver (.object Kn)).before a0 Z = true) (eT : T.heap = h) {n : Int32} {N cap : Nat} (hn : n.toInt = N) (hcap : N ≤ cap) (hb : cap * 8 ≤ 536870912) (hc : cells + 1 ≤ R.cells) (hl : slots + cap ≤ R.slots) (hd : decode c.code pc = .ok (.anewarray index, 3))
    (K : ∀ T' h' b, b = h.size → Stand p l e R s m args below meth c T' locs (cells + 1) (slots + cap) → T'.heap = h' → Ext h h' → OVecR Z h' b Kn (List.replicate N .null) → ORun p e below s Q C S T' (mkF m (pc + 3) Ls (.ref b :: rest))) : ORun p e below s Q C S T (mkF m pc Ls (.int n :: rest)) := by
  have q := own_ix hn
  obtain ⟨T', h', cA, X', e', E, A, O, st⟩ := newR X hx hZ hown w1 w2 eT (g := mkF m pc Ls (.int n :: rest)) rfl hd rfl q.1 (cap := cap) (by rw [q.2]; exact hcap) hb hc hl
  refine own_by st (K T' h' _ rfl X' e' E ⟨_, A, O, ?_⟩)
  have d : defaultValue (.object Kn) = .null := rfl
  simp [newA, q.2, d]
end OwnStr
theorem own_lat {x : Int32} (h0 : 0 ≤ x.toInt) (h1 : x.toInt < 256) : ¬ nar .char x < 0 ∧ ¬ (255 : Int32) < nar .char x := by
  have q := c_i2c x
  have e : (nar .char x).toInt = x.toInt := by show x.toUInt32.toUInt16.toUInt32.toInt32.toInt = _; omega
  have z0 : (0 : Int32).toInt = 0 := rfl
  have z1 : (255 : Int32).toInt = 255 := rfl
  exact ⟨fun q => by rw [Int32.lt_iff_toInt_lt] at q; omega, fun q => by rw [Int32.lt_iff_toInt_lt] at q; omega⟩
theorem pd_0 : parseMethodDescriptor "([C)V" = some ⟨[(.array .char)], none⟩ := by decide +kernel
theorem pd_1 : parseMethodDescriptor "(Ljava/lang/String;Ljava/lang/String;)[Ljava/lang/String;" = some ⟨[(.object "java/lang/String"), (.object "java/lang/String")], some (.array (.object "java/lang/String"))⟩ := by decide +kernel
theorem pd_2 : parseMethodDescriptor "(Ljava/lang/Object;)Z" = some ⟨[(.object "java/lang/Object")], some .boolean⟩ := by decide +kernel
theorem d8_0 : decode jdk_42_method_66_code 0 = .ok (.aload_n 0, 1) := by decide +kernel
theorem d8_1 : decode jdk_42_method_66_code 1 = .ok (.aload_n 1, 1) := by decide +kernel
theorem d8_2 : decode jdk_42_method_66_code 2 = .ok (.if_acmp .ne 5, 3) := by decide +kernel
theorem d8_5 : decode jdk_42_method_66_code 5 = .ok (.iconst 1, 1) := by decide +kernel
theorem d8_6 : decode jdk_42_method_66_code 6 = .ok (.ireturn, 1) := by decide +kernel
theorem pn_rm8 : plainName "java/lang/String" = true := by first | (simp [plainName, overriddenIn]; done) | decide +kernel
theorem ef_rm8 (m : MethodId) (x0 : Addr) (x1 : Addr) : entryFrame m #[(.ref x0), (.ref x1)] 3 = mkF m 0 #[.val (.ref x0), .val (.ref x1), .unset] [] := by first | (simp [entryFrame, mkF, argsToLocals, Value.category]; done) | rfl
set_option maxRecDepth 65536 in
set_option maxHeartbeats 40000000 in
theorem rm8 (l : Launch) (Z : State) (a0 : Array Value) (hw : ∀ d ∈ tables_1, d.before a0 Z = true) (ws : List Jvm.Cond) (h0 : Heap) (n0 : Nat) (Z0 : n0 ≤ h0.size) (a1 : Addr) :
    OMet l (⟨"java/lang/String", "equals", "(Ljava/lang/Object;)Z"⟩ : MethodName) jdk_42_method_66_code 3 (some .boolean) ws ({ frames := 0, cells := 0, slots := 0, locals := 0 } : Room) #[(.ref a1), (.ref a1)] Z h0 (fun v h L => v = some (.int 1) ∧ Fr n0 L ∧ h = h0) := by
  refine own_met (plainFor_of_name pn_rm8) ?_
  intro p e s m below meth c s₁ X0 hx hby hml hown hnm hret hlk hZ e0
  rw [ef_rm8]
  have N0 := Fr.nil n0
  show ORun p e below s _ _ _ s₁ (mkF m 0 #[.val (.ref a1), .val (.ref a1), .unset] [])
  refine own_by (fun t k => XS.aloadN X0.here hx rfl (hb hby d8_0) rfl rfl k) ?_
  show ORun p e below s _ _ _ s₁ (mkF m 1 #[.val (.ref a1), .val (.ref a1), .unset] [(.ref a1)])
  refine own_by (fun t k => XS.aloadN X0.here hx rfl (hb hby d8_1) rfl rfl k) ?_
  show ORun p e below s _ _ _ s₁ (mkF m 2 #[.val (.ref a1), .val (.ref a1), .unset] [(.ref a1), (.ref a1)])
  refine own_by (fun t k => Jvm.RoadKit.acmp (g := (mkF m 2 #[.val (.ref a1), .val (.ref a1), .unset] [(.ref a1), (.ref a1)])) X0 hx rfl rfl rfl (pc0 := 2) (pc' := 5) (same := true) rfl (hb hby d8_2) rfl (decide_eq_true rfl) (by decide) (by decide) k) ?_
  show ORun p e below s _ _ _ s₁ (mkF m 5 #[.val (.ref a1), .val (.ref a1), .unset] [])
  refine own_by (fun t k => XS.iconst X0.here hx rfl (hb hby d8_5) k) ?_
  show ORun p e below s _ _ _ s₁ (mkF m 6 #[.val (.ref a1), .val (.ref a1), .unset] [(.int (1 : Int32))])
  refine own_retN X0 hx (t := .boolean) hret (by simp) hlk (hb hby d8_6) (by decide) (by decide) ?_
  exact ⟨rfl, N0, e0⟩
theorem d7_0 : decode prog_31_method_8_code 0 = .ok (.aload_n 0, 1) := by decide +kernel
theorem d7_1 : decode prog_31_method_8_code 1 = .ok (.getfield 39, 3) := by decide +kernel
theorem d7_4 : decode prog_31_method_8_code 4 = .ok (.ifCond .eq 18, 3) := by decide +kernel
theorem d7_7 : decode prog_31_method_8_code 7 = .ok (.iconst 2, 1) := by decide +kernel
theorem d7_8 : decode prog_31_method_8_code 8 = .ok (.anewarray 47, 3) := by decide +kernel
theorem d7_11 : decode prog_31_method_8_code 11 = .ok (.dup, 1) := by decide +kernel
theorem d7_12 : decode prog_31_method_8_code 12 = .ok (.iconst 0, 1) := by decide +kernel
theorem d7_13 : decode prog_31_method_8_code 13 = .ok (.aload_n 2, 1) := by decide +kernel
theorem d7_14 : decode prog_31_method_8_code 14 = .ok (.aastore, 1) := by decide +kernel
theorem d7_15 : decode prog_31_method_8_code 15 = .ok (.dup, 1) := by decide +kernel
theorem d7_16 : decode prog_31_method_8_code 16 = .ok (.iconst 1, 1) := by decide +kernel
theorem d7_17 : decode prog_31_method_8_code 17 = .ok (.aload_n 1, 1) := by decide +kernel
theorem d7_18 : decode prog_31_method_8_code 18 = .ok (.aastore, 1) := by decide +kernel
theorem d7_19 : decode prog_31_method_8_code 19 = .ok (.goto 15, 3) := by decide +kernel
theorem d7_22 : decode prog_31_method_8_code 22 = .ok (.iconst 2, 1) := by decide +kernel
theorem d7_23 : decode prog_31_method_8_code 23 = .ok (.anewarray 47, 3) := by decide +kernel
theorem d7_26 : decode prog_31_method_8_code 26 = .ok (.dup, 1) := by decide +kernel
theorem d7_27 : decode prog_31_method_8_code 27 = .ok (.iconst 0, 1) := by decide +kernel
theorem d7_28 : decode prog_31_method_8_code 28 = .ok (.aload_n 1, 1) := by decide +kernel
theorem d7_29 : decode prog_31_method_8_code 29 = .ok (.aastore, 1) := by decide +kernel
theorem d7_30 : decode prog_31_method_8_code 30 = .ok (.dup, 1) := by decide +kernel
theorem d7_31 : decode prog_31_method_8_code 31 = .ok (.iconst 1, 1) := by decide +kernel
theorem d7_32 : decode prog_31_method_8_code 32 = .ok (.aload_n 2, 1) := by decide +kernel
theorem d7_33 : decode prog_31_method_8_code 33 = .ok (.aastore, 1) := by decide +kernel
theorem d7_34 : decode prog_31_method_8_code 34 = .ok (.areturn, 1) := by decide +kernel
theorem pn_rm7 : plainName "com/example/callweave/callweave/junit/Framework" = true := by first | (simp [plainName, overriddenIn]; done) | decide +kernel
theorem ef_rm7 (m : MethodId) (x0 : Addr) (x1 : Addr) (x2 : Addr) : entryFrame m #[(.ref x0), (.ref x1), (.ref x2)] 3 = mkF m 0 #[.val (.ref x0), .val (.ref x1), .val (.ref x2)] [] := by first | (simp [entryFrame, mkF, argsToLocals, Value.category]; done) | rfl
set_option maxRecDepth 65536 in
set_option maxHeartbeats 40000000 in
theorem rm7 (l : Launch) (Z : State) (a0 : Array Value) (hw : ∀ d ∈ tables_1, d.before a0 Z = true) (ws : List Jvm.Cond) (h0 : Heap) (n0 : Nat) (Z0 : n0 ≤ h0.size) (a1 a2 a3 : Addr) (M : Int32) (Fm : Fld Z h0 a1 "com/example/callweave/callweave/junit/Framework" "messageFirst" "Z" (.int M)) (EA2 : Exa Z h0 a2 "java/lang/String") (EA3 : Exa Z h0 a3 "java/lang/String") :
    OMet l (⟨"com/example/callweave/callweave/junit/Framework", "conditionWithMessage", "(Ljava/lang/String;Ljava/lang/String;)[Ljava/lang/String;"⟩ : MethodName) prog_31_method_8_code 3 (some (.array (.object "java/lang/String"))) ws ({ frames := 0, cells := 1, slots := 2, locals := 0 } : Room) #[(.ref a1), (.ref a2), (.ref a3)] Z h0 (fun v h L => ∃ b : Addr, v = some (.ref b) ∧ Fr n0 L ∧ Keep h0 h [] ∧ h0.size ≤ b ∧ OVecR Z h b "java/lang/String" (if M = 0 then [.ref a2, .ref a3] else [.ref a3, .ref a2])) := by
  refine own_met (plainFor_of_name pn_rm7) ?_
  intro p e s m below meth c s₁ X0 hx hby hml hown hnm hret hlk hZ e0
  rw [ef_rm7]
  have N0 := Fr.nil n0
  show ORun p e below s _ _ _ s₁ (mkF m 0 #[.val (.ref a1), .val (.ref a2), .val (.ref a3)] [])
  refine own_by (fun t k => XS.aloadN X0.here hx rfl (hb hby d7_0) rfl rfl k) ?_
  show ORun p e below s _ _ _ s₁ (mkF m 1 #[.val (.ref a1), .val (.ref a2), .val (.ref a3)] [(.ref a1)])
  obtain ⟨T1, X1, e1, st1⟩ := getF X0 hx hZ hown (host := "") (Or.inl (hw _ (List.mem_of_getElem? (i := 38) rfl))) Via.refl e0 Fm (g := (mkF m 1 #[.val (.ref a1), .val (.ref a2), .val (.ref a3)] [(.ref a1)])) rfl rfl (hb hby d7_1)
  refine own_by st1 ?_
  show ORun p e below s _ _ _ T1 (mkF m 4 #[.val (.ref a1), .val (.ref a2), .val (.ref a3)] [(.int M)])
  by_cases hc2 : M = (0 : Int32)
  · have t2 := own_eq hc2 (a := M.toInt) (b := 0) rfl (by decide)
    refine own_by (fun t k => XS.ifYes X1.here hx rfl (pc0 := 4) (pc' := 22) rfl (hb hby d7_4) rfl ((if0 _ _).trans (teq hc2).1) (by decide) (by decide) k) ?_
    show ORun p e below s _ _ _ T1 (mkF m 22 #[.val (.ref a1), .val (.ref a2), .val (.ref a3)] [])
    refine own_by (fun t k => XS.iconst X1.here hx rfl (hb hby d7_22) k) ?_
    show ORun p e below s _ _ _ T1 (mkF m 23 #[.val (.ref a1), .val (.ref a2), .val (.ref a3)] [(.int (2 : Int32))])
    refine own_newR X1 hx hZ hown (hw _ (List.mem_of_getElem? (i := 40) rfl)) (hw _ (List.mem_of_getElem? (i := 41) rfl)) e1 (N := 2) (cap := 2) (by decide) (Nat.le_refl _) (by decide) (by decide) (by decide) (hb hby d7_23) ?_
    intro T3 h3 b3 g3 X3 e3 E3 V3
    have old_b3 : n0 ≤ b3 := Nat.le_trans Z0 (Nat.le_of_eq g3.symm)
    have sz_b3 : h0.size ≤ b3 := Nat.le_trans (Nat.le_refl h0.size) (Nat.le_of_eq g3.symm)
    have ne_a1_b3 : a1 ≠ b3 := Nat.ne_of_lt (Nat.lt_of_lt_of_le Fm.lt (Nat.le_of_eq g3.symm))
    have ne_a2_b3 : a2 ≠ b3 := Nat.ne_of_lt (Nat.lt_of_lt_of_le EA2.lt (Nat.le_of_eq g3.symm))
    have ne_a3_b3 : a3 ≠ b3 := Nat.ne_of_lt (Nat.lt_of_lt_of_le EA3.lt (Nat.le_of_eq g3.symm))
    show ORun p e below s _ _ _ T3 (mkF m 26 #[.val (.ref a1), .val (.ref a2), .val (.ref a3)] [(.ref b3)])
    refine own_by (fun t k => XS.dup X3.here hx rfl (hb hby d7_26) rfl rfl k) ?_
    show ORun p e below s _ _ _ T3 (mkF m 27 #[.val (.ref a1), .val (.ref a2), .val (.ref a3)] [(.ref b3), (.ref b3)])
    refine own_by (fun t k => XS.iconst X3.here hx rfl (hb hby d7_27) k) ?_
    show ORun p e below s _ _ _ T3 (mkF m 28 #[.val (.ref a1), .val (.ref a2), .val (.ref a3)] [(.int (0 : Int32)), (.ref b3), (.ref b3)])
    refine own_by (fun t k => XS.aloadN X3.here hx rfl (hb hby d7_28) rfl rfl k) ?_
    show ORun p e below s _ _ _ T3 (mkF m 29 #[.val (.ref a1), .val (.ref a2), .val (.ref a3)] [(.ref a2), (.int (0 : Int32)), (.ref b3), (.ref b3)])
    refine own_aastore X3 hx hZ e3 V3 (Ins.self (EA2.ext E3)) (i := 0) (by decide) (by simp) (hb hby d7_29) ?_
    intro T4 h4 X4 e4 W4 V4
    have N4 := Fr.snoc X4 N0 old_b3
    show ORun p e below s _ _ _ T4 (mkF m 30 #[.val (.ref a1), .val (.ref a2), .val (.ref a3)] [(.ref b3)])
    refine own_by (fun t k => XS.dup X4.here hx rfl (hb hby d7_30) rfl rfl k) ?_
    show ORun p e below s _ _ _ T4 (mkF m 31 #[.val (.ref a1), .val (.ref a2), .val (.ref a3)] [(.ref b3), (.ref b3)])
    refine own_by (fun t k => XS.iconst X4.here hx rfl (hb hby d7_31) k) ?_
    show ORun p e below s _ _ _ T4 (mkF m 32 #[.val (.ref a1), .val (.ref a2), .val (.ref a3)] [(.int (1 : Int32)), (.ref b3), (.ref b3)])
    refine own_by (fun t k => XS.aloadN X4.here hx rfl (hb hby d7_32) rfl rfl k) ?_
    show ORun p e below s _ _ _ T4 (mkF m 33 #[.val (.ref a1), .val (.ref a2), .val (.ref a3)] [(.ref a3), (.int (1 : Int32)), (.ref b3), (.ref b3)])
    refine own_aastore X4 hx hZ e4 V4 (Ins.self ((EA3.ext E3).wr W4)) (i := 1) (by decide) (by simp) (hb hby d7_33) ?_
    intro T5 h5 X5 e5 W5 V5
    have N5 := Fr.snoc X5 N4 old_b3
    show ORun p e below s _ _ _ T5 (mkF m 34 #[.val (.ref a1), .val (.ref a2), .val (.ref a3)] [(.ref b3)])
    refine own_retA X5 hx hret rfl rfl rfl hlk (hb hby d7_34) (by decide) (by decide) ?_
    rw [e5]
    refine ⟨b3, rfl, N5, ((((Keep.refl h0 []).ext E3).wr W4 (Or.inr sz_b3)).wr W5 (Or.inr sz_b3)), sz_b3, ?_⟩
    rw [if_pos hc2]
    exact V5
  · have t2 := own_ne hc2 (a := M.toInt) (b := 0) rfl (by decide)
    refine own_by (fun t k => XS.ifNo X1.here hx rfl (hb hby d7_4) rfl ((if0 _ _).trans (feq hc2).1) k) ?_
    show ORun p e below s _ _ _ T1 (mkF m 7 #[.val (.ref a1), .val (.ref a2), .val (.ref a3)] [])
    refine own_by (fun t k => XS.iconst X1.here hx rfl (hb hby d7_7) k) ?_
    show ORun p e below s _ _ _ T1 (mkF m 8 #[.val (.ref a1), .val (.ref a2), .val (.ref a3)] [(.int (2 : Int32))])
    refine own_newR X1 hx hZ hown (hw _ (List.mem_of_getElem? (i := 40) rfl)) (hw _ (List.mem_of_getElem? (i := 41) rfl)) e1 (N := 2) (cap := 2) (by decide) (Nat.le_refl _) (by decide) (by decide) (by decide) (hb hby d7_8) ?_
    intro T6 h6 b6 g6 X6 e6 E6 V6
    have old_b6 : n0 ≤ b6 := Nat.le_trans Z0 (Nat.le_of_eq g6.symm)
    have sz_b6 : h0.size ≤ b6 := Nat.le_trans (Nat.le_refl h0.size) (Nat.le_of_eq g6.symm)
    have ne_a1_b6 : a1 ≠ b6 := Nat.ne_of_lt (Nat.lt_of_lt_of_le Fm.lt (Nat.le_of_eq g6.symm))
    have ne_a2_b6 : a2 ≠ b6 := Nat.ne_of_lt (Nat.lt_of_lt_of_le EA2.lt (Nat.le_of_eq g6.symm))
    have ne_a3_b6 : a3 ≠ b6 := Nat.ne_of_lt (Nat.lt_of_lt_of_le EA3.lt (Nat.le_of_eq g6.symm))
    show ORun p e below s _ _ _ T6 (mkF m 11 #[.val (.ref a1), .val (.ref a2), .val (.ref a3)] [(.ref b6)])
    refine own_by (fun t k => XS.dup X6.here hx rfl (hb hby d7_11) rfl rfl k) ?_
    show ORun p e below s _ _ _ T6 (mkF m 12 #[.val (.ref a1), .val (.ref a2), .val (.ref a3)] [(.ref b6), (.ref b6)])
    refine own_by (fun t k => XS.iconst X6.here hx rfl (hb hby d7_12) k) ?_
    show ORun p e below s _ _ _ T6 (mkF m 13 #[.val (.ref a1), .val (.ref a2), .val (.ref a3)] [(.int (0 : Int32)), (.ref b6), (.ref b6)])
    refine own_by (fun t k => XS.aloadN X6.here hx rfl (hb hby d7_13) rfl rfl k) ?_
    show ORun p e below s _ _ _ T6 (mkF m 14 #[.val (.ref a1), .val (.ref a2), .val (.ref a3)] [(.ref a3), (.int (0 : Int32)), (.ref b6), (.ref b6)])
    refine own_aastore X6 hx hZ e6 V6 (Ins.self (EA3.ext E6)) (i := 0) (by decide) (by simp) (hb hby d7_14) ?_
    intro T7 h7 X7 e7 W7 V7
    have N7 := Fr.snoc X7 N0 old_b6
    show ORun p e below s _ _ _ T7 (mkF m 15 #[.val (.ref a1), .val (.ref a2), .val (.ref a3)] [(.ref b6)])
    refine own_by (fun t k => XS.dup X7.here hx rfl (hb hby d7_15) rfl rfl k) ?_
    show ORun p e below s _ _ _ T7 (mkF m 16 #[.val (.ref a1), .val (.ref a2), .val (.ref a3)] [(.ref b6), (.ref b6)])
    refine own_by (fun t k => XS.iconst X7.here hx rfl (hb hby d7_16) k) ?_
    show ORun p e below s _ _ _ T7 (mkF m 17 #[.val (.ref a1), .val (.ref a2), .val (.ref a3)] [(.int (1 : Int32)), (.ref b6), (.ref b6)])
    refine own_by (fun t k => XS.aloadN X7.here hx rfl (hb hby d7_17) rfl rfl k) ?_
    show ORun p e below s _ _ _ T7 (mkF m 18 #[.val (.ref a1), .val (.ref a2), .val (.ref a3)] [(.ref a2), (.int (1 : Int32)), (.ref b6), (.ref b6)])
    refine own_aastore X7 hx hZ e7 V7 (Ins.self ((EA2.ext E6).wr W7)) (i := 1) (by decide) (by simp) (hb hby d7_18) ?_
    intro T8 h8 X8 e8 W8 V8
    have N8 := Fr.snoc X8 N7 old_b6
    show ORun p e below s _ _ _ T8 (mkF m 19 #[.val (.ref a1), .val (.ref a2), .val (.ref a3)] [(.ref b6)])
    refine own_by (fun t k => XS.goto X8.here hx rfl (pc0 := 19) (pc' := 34) rfl (hb hby d7_19) (by decide) (by decide) k) ?_
    show ORun p e below s _ _ _ T8 (mkF m 34 #[.val (.ref a1), .val (.ref a2), .val (.ref a3)] [(.ref b6)])
    refine own_retA X8 hx hret rfl rfl rfl hlk (hb hby d7_34) (by decide) (by decide) ?_
    rw [e8]
    refine ⟨b6, rfl, N8, ((((Keep.refl h0 []).ext E6).wr W7 (Or.inr sz_b6)).wr W8 (Or.inr sz_b6)), sz_b6, ?_⟩
    rw [if_neg hc2]
    exact V8
theorem pn_rm0 : plainName "com/example/callweave/callweave/junit/FrameworkConditionWithMessagePinLaw" = true := by first | (simp [plainName, overriddenIn]; done) | decide +kernel
theorem ef_rm0 (m : MethodId) (x0 : Int32) (x1 : Int32) (x2 : Int32) : entryFrame m #[(.int x0), (.int x1), (.int x2)] maxLocals = mkF m 0 #[.val (.int x0), .val (.int x1), .val (.int x2), .unset, .unset, .unset, .unset, .unset, .unset, .unset, .unset, .unset] [] := by first | (simp [entryFrame, mkF, argsToLocals, Value.category, maxLocals]; done) | rfl
set_option maxRecDepth 65536 in
set_option maxHeartbeats 40000000 in
theorem rm0 (l : Launch) (Z : State) (a0 : Array Value) (hw : ∀ d ∈ tables_1, d.before a0 Z = true) (ws : List Jvm.Cond) (h0 : Heap) (n0 : Nat) (Z0 : n0 ≤ h0.size) (p1 p2 p3 : Int32) (j4 j5 : Addr) (z : Int32) (hz : ¬ z = 0) (Sc : Sta Z h0 "java/lang/String" "COMPACT_STRINGS" "Z" (.int z)) (Sj4 : Sta Z h0 "com/example/callweave/callweave/junit/Framework" "JUNIT_4" "Lcom/example/callweave/callweave/junit/Framework;" (.ref j4)) (Ej4 : Exa Z h0 j4 "com/example/callweave/callweave/junit/Framework") (Fj4 : Fld Z h0 j4 "com/example/callweave/callweave/junit/Framework" "messageFirst" "Z" (.int (1 : Int32))) (Sj5 : Sta Z h0 "com/example/callweave/callweave/junit/Framework" "JUNIT_5" "Lcom/example/callweave/callweave/junit/Framework;" (.ref j5)) (Ej5 : Exa Z h0 j5 "com/example/callweave/callweave/junit/Framework") (Fj5 : Fld Z h0 j5 "com/example/callweave/callweave/junit/Framework" "messageFirst" "Z" (.int (0 : Int32))) :
    OMet l x code maxLocals ret ws room_1 #[(.int p1), (.int p2), (.int p3)] Z h0 (fun v h L => v = some (.int 1) ∧ Fr n0 L) := by
  refine own_met (plainFor_of_name pn_rm0) ?_
  intro p e s m below meth c s₁ X0 hx hby hml hown hnm hret hlk hZ e0
  rw [ef_rm0]
  have N0 := Fr.nil n0
  have rg_p1 := rng32 p1
  have rg_p2 := rng32 p2
  have rg_p3 := rng32 p3
  have hws : ∀ d ∈ StrChars.Road.words, d.before a0 Z = true := fun d hd => hw d ((by decide +kernel : ∀ d ∈ StrChars.Road.words, d ∈ tables_1) d hd)
  show ORun p e below s _ _ _ s₁ (mkF m 0 #[.val (.int p1), .val (.int p2), .val (.int p3), .unset, .unset, .unset, .unset, .unset, .unset, .unset, .unset, .unset] [])
  refine own_by (fun t k => XS.iloadN X0.here hx rfl (hb hby at_0) rfl k) ?_
  show ORun p e below s _ _ _ s₁ (mkF m 1 #[.val (.int p1), .val (.int p2), .val (.int p3), .unset, .unset, .unset, .unset, .unset, .unset, .unset, .unset, .unset] [(.int p1)])
  refine own_by (fun t k => XS.iconst X0.here hx rfl (hb hby at_1) k) ?_
  show ORun p e below s _ _ _ s₁ (mkF m 2 #[.val (.int p1), .val (.int p2), .val (.int p3), .unset, .unset, .unset, .unset, .unset, .unset, .unset, .unset, .unset] [(.int (1 : Int32)), (.int p1)])
  refine own_by (fun t k => XS.iand X0.here hx rfl (hb hby at_2) rfl k) (own_letI (f := (fun z => (mkF m 3 #[.val (.int p1), .val (.int p2), .val (.int p3), .unset, .unset, .unset, .unset, .unset, .unset, .unset, .unset, .unset] [(.int z)]))) (p1 &&& (1 : Int32)) fun v1 hv1 => ?_)
  show ORun p e below s _ _ _ s₁ (mkF m 3 #[.val (.int p1), .val (.int p2), .val (.int p3), .unset, .unset, .unset, .unset, .unset, .unset, .unset, .unset, .unset] [(.int v1)])
  have a1a : v1.toInt = p1.toInt % 2 := by rw [hv1]; exact c_mask p1 (1 : Int32) 1 (by decide) (by decide)
  have r1 := rng32 v1
  by_cases hc2 : v1 = (0 : Int32)
  · have t2 := own_eq hc2 (a := v1.toInt) (b := 0) rfl (by decide)
    refine own_by (fun t k => XS.ifYes X0.here hx rfl (pc0 := 3) (pc' := 10) rfl (hb hby at_3) rfl ((if0 _ _).trans (teq hc2).1) (by decide) (by decide) k) ?_
    show ORun p e below s _ _ _ s₁ (mkF m 10 #[.val (.int p1), .val (.int p2), .val (.int p3), .unset, .unset, .unset, .unset, .unset, .unset, .unset, .unset, .unset] [])
    refine own_by (fun t k => XS.iconst X0.here hx rfl (hb hby at_10) k) ?_
    show ORun p e below s _ _ _ s₁ (mkF m 11 #[.val (.int p1), .val (.int p2), .val (.int p3), .unset, .unset, .unset, .unset, .unset, .unset, .unset, .unset, .unset] [(.int (0 : Int32))])
    refine own_by (fun t k => XS.istoreN X0.here hx rfl (hb hby at_11) rfl (l' := #[.val (.int p1), .val (.int p2), .val (.int p3), .val (.int (0 : Int32)), .unset, .unset, .unset, .unset, .unset, .unset, .unset, .unset]) rfl k) ?_
    show ORun p e below s _ _ _ s₁ (mkF m 12 #[.val (.int p1), .val (.int p2), .val (.int p3), .val (.int (0 : Int32)), .unset, .unset, .unset, .unset, .unset, .unset, .unset, .unset] [])
    refine own_by (fun t k => XS.iloadN X0.here hx rfl (hb hby at_12) rfl k) ?_
    show ORun p e below s _ _ _ s₁ (mkF m 13 #[.val (.int p1), .val (.int p2), .val (.int p3), .val (.int (0 : Int32)), .unset, .unset, .unset, .unset, .unset, .unset, .unset, .unset] [(.int (0 : Int32))])
    refine own_by (fun t k => XS.ifYes X0.here hx rfl (pc0 := 13) (pc' := 22) rfl (hb hby at_13) rfl ((if0 _ _).trans (teq (by decide)).1) (by decide) (by decide) k) ?_
    show ORun p e below s _ _ _ s₁ (mkF m 22 #[.val (.int p1), .val (.int p2), .val (.int p3), .val (.int (0 : Int32)), .unset, .unset, .unset, .unset, .unset, .unset, .unset, .unset] [])
    obtain ⟨T3, X3, e3, st3⟩ := getS2 X0 hx hZ hown (host := "") (Or.inl (hw _ (List.mem_of_getElem? (i := 0) rfl))) Via.refl e0 Sj5 (g := (mkF m 22 #[.val (.int p1), .val (.int p2), .val (.int p3), .val (.int (0 : Int32)), .unset, .unset, .unset, .unset, .unset, .unset, .unset, .unset] [])) rfl (hb hby at_22)
    refine own_by st3 ?_
    show ORun p e below s _ _ _ T3 (mkF m 25 #[.val (.int p1), .val (.int p2), .val (.int p3), .val (.int (0 : Int32)), .unset, .unset, .unset, .unset, .unset, .unset, .unset, .unset] [(.ref j5)])
    refine own_by (fun t k => XS.astore X3.here hx rfl (hb hby at_25) rfl rfl (l' := #[.val (.int p1), .val (.int p2), .val (.int p3), .val (.int (0 : Int32)), .val (.ref j5), .unset, .unset, .unset, .unset, .unset, .unset, .unset]) rfl k) ?_
    show ORun p e below s _ _ _ T3 (mkF m 27 #[.val (.int p1), .val (.int p2), .val (.int p3), .val (.int (0 : Int32)), .val (.ref j5), .unset, .unset, .unset, .unset, .unset, .unset, .unset] [])
    refine own_by (fun t k => XS.iconst X3.here hx rfl (hb hby at_27) k) ?_
    show ORun p e below s _ _ _ T3 (mkF m 28 #[.val (.int p1), .val (.int p2), .val (.int p3), .val (.int (0 : Int32)), .val (.ref j5), .unset, .unset, .unset, .unset, .unset, .unset, .unset] [(.int (2 : Int32))])
    refine own_newarray X3 hx hZ (aty := .char) (hw _ (List.mem_of_getElem? (i := 3) rfl)) e3 rfl (N := 2) (cap := 2) (by decide) (Nat.le_refl _) (by decide) (by decide) (by decide) (ad := "[C") (by decide) (hb hby at_28) ?_
    intro T4 h4 b4 L4 g4 X4 e4 E4 hL4 V4 Ex4
    have len4 : L4.length = 2 := by rw [hL4]; exact List.length_replicate
    have old_b4 : n0 ≤ b4 := Nat.le_trans Z0 (Nat.le_of_eq g4.symm)
    have sz_b4 : h0.size ≤ b4 := Nat.le_trans (Nat.le_refl h0.size) (Nat.le_of_eq g4.symm)
    have ne_j4_b4 : j4 ≠ b4 := Nat.ne_of_lt (Nat.lt_of_lt_of_le Ej4.lt (Nat.le_of_eq g4.symm))
    have ne_j5_b4 : j5 ≠ b4 := Nat.ne_of_lt (Nat.lt_of_lt_of_le Ej5.lt (Nat.le_of_eq g4.symm))
    obtain rfl : [(0 : Int32), (0 : Int32)] = L4 := hL4.symm
    show ORun p e below s _ _ _ T4 (mkF m 30 #[.val (.int p1), .val (.int p2), .val (.int p3), .val (.int (0 : Int32)), .val (.ref j5), .unset, .unset, .unset, .unset, .unset, .unset, .unset] [(.ref b4)])
    refine own_by (fun t k => XS.dup X4.here hx rfl (hb hby at_30) rfl rfl k) ?_
    show ORun p e below s _ _ _ T4 (mkF m 31 #[.val (.int p1), .val (.int p2), .val (.int p3), .val (.int (0 : Int32)), .val (.ref j5), .unset, .unset, .unset, .unset, .unset, .unset, .unset] [(.ref b4), (.ref b4)])
    refine own_by (fun t k => XS.iconst X4.here hx rfl (hb hby at_31) k) ?_
    show ORun p e below s _ _ _ T4 (mkF m 32 #[.val (.int p1), .val (.int p2), .val (.int p3), .val (.int (0 : Int32)), .val (.ref j5), .unset, .unset, .unset, .unset, .unset, .unset, .unset] [(.int (0 : Int32)), (.ref b4), (.ref b4)])
    refine own_by (fun t k => XS.iloadN X4.here hx rfl (hb hby at_32) rfl k) ?_
    show ORun p e below s _ _ _ T4 (mkF m 33 #[.val (.int p1), .val (.int p2), .val (.int p3), .val (.int (0 : Int32)), .val (.ref j5), .unset, .unset, .unset, .unset, .unset, .unset, .unset] [(.int p2), (.int (0 : Int32)), (.ref b4), (.ref b4)])
    refine own_by (fun t k => XS.sipush X4.here hx rfl (hb hby at_33) k) ?_
    show ORun p e below s _ _ _ T4 (mkF m 36 #[.val (.int p1), .val (.int p2), .val (.int p3), .val (.int (0 : Int32)), .val (.ref j5), .unset, .unset, .unset, .unset, .unset, .unset, .unset] [(.int (255 : Int32)), (.int p2), (.int (0 : Int32)), (.ref b4), (.ref b4)])
    refine own_by (fun t k => XS.iand X4.here hx rfl (hb hby at_36) rfl k) (own_letI (f := (fun z => (mkF m 37 #[.val (.int p1), .val (.int p2), .val (.int p3), .val (.int (0 : Int32)), .val (.ref j5), .unset, .unset, .unset, .unset, .unset, .unset, .unset] [(.int z), (.int (0 : Int32)), (.ref b4), (.ref b4)]))) (p2 &&& (255 : Int32)) fun v5 hv5 => ?_)
    show ORun p e below s _ _ _ T4 (mkF m 37 #[.val (.int p1), .val (.int p2), .val (.int p3), .val (.int (0 : Int32)), .val (.ref j5), .unset, .unset, .unset, .unset, .unset, .unset, .unset] [(.int v5), (.int (0 : Int32)), (.ref b4), (.ref b4)])
    have a5a : v5.toInt = p2.toInt % 256 := by rw [hv5]; exact c_mask p2 (255 : Int32) 8 (by decide) (by decide)
    have r5 := rng32 v5
    refine own_by (fun t k => XS.i2c X4.here hx rfl (hb hby at_37) rfl k) (own_letI (f := (fun z => (mkF m 38 #[.val (.int p1), .val (.int p2), .val (.int p3), .val (.int (0 : Int32)), .val (.ref j5), .unset, .unset, .unset, .unset, .unset, .unset, .unset] [(.int z), (.int (0 : Int32)), (.ref b4), (.ref b4)]))) (v5.toUInt32.toUInt16.toUInt32.toInt32) fun v6 hv6 => ?_)
    show ORun p e below s _ _ _ T4 (mkF m 38 #[.val (.int p1), .val (.int p2), .val (.int p3), .val (.int (0 : Int32)), .val (.ref j5), .unset, .unset, .unset, .unset, .unset, .unset, .unset] [(.int v6), (.int (0 : Int32)), (.ref b4), (.ref b4)])
    have a6a : (v6.toInt - v5.toInt) % 65536 = 0 ∧ 0 ≤ v6.toInt ∧ v6.toInt < 65536 := by rw [hv6]; exact c_i2c v5
    have r6 := rng32 v6
    refine own_castore X4 hx hZ e4 V4 (i := 0) (by decide) (by omega) (hb hby at_38) ?_
    intro T7 h7 L7 X7 e7 W7 hL7 V7
    have len7 : L7.length = 2 := by rw [hL7, List.length_set]; exact len4
    have N7 := Fr.snoc X7 N0 old_b4
    obtain rfl : [(nar .char v6), (0 : Int32)] = L7 := hL7.symm
    show ORun p e below s _ _ _ T7 (mkF m 39 #[.val (.int p1), .val (.int p2), .val (.int p3), .val (.int (0 : Int32)), .val (.ref j5), .unset, .unset, .unset, .unset, .unset, .unset, .unset] [(.ref b4)])
    refine own_by (fun t k => XS.dup X7.here hx rfl (hb hby at_39) rfl rfl k) ?_
    show ORun p e below s _ _ _ T7 (mkF m 40 #[.val (.int p1), .val (.int p2), .val (.int p3), .val (.int (0 : Int32)), .val (.ref j5), .unset, .unset, .unset, .unset, .unset, .unset, .unset] [(.ref b4), (.ref b4)])
    refine own_by (fun t k => XS.iconst X7.here hx rfl (hb hby at_40) k) ?_
    show ORun p e below s _ _ _ T7 (mkF m 41 #[.val (.int p1), .val (.int p2), .val (.int p3), .val (.int (0 : Int32)), .val (.ref j5), .unset, .unset, .unset, .unset, .unset, .unset, .unset] [(.int (1 : Int32)), (.ref b4), (.ref b4)])
    refine own_by (fun t k => XS.iloadN X7.here hx rfl (hb hby at_41) rfl k) ?_
    show ORun p e below s _ _ _ T7 (mkF m 42 #[.val (.int p1), .val (.int p2), .val (.int p3), .val (.int (0 : Int32)), .val (.ref j5), .unset, .unset, .unset, .unset, .unset, .unset, .unset] [(.int p2), (.int (1 : Int32)), (.ref b4), (.ref b4)])
    refine own_by (fun t k => XS.bipush X7.here hx rfl (hb hby at_42) k) ?_
    show ORun p e below s _ _ _ T7 (mkF m 44 #[.val (.int p1), .val (.int p2), .val (.int p3), .val (.int (0 : Int32)), .val (.ref j5), .unset, .unset, .unset, .unset, .unset, .unset, .unset] [(.int (8 : Int32)), (.int p2), (.int (1 : Int32)), (.ref b4), (.ref b4)])
    refine own_by (fun t k => XS.iushr X7.here hx rfl (hb hby at_44) rfl k) (own_letI (f := (fun z => (mkF m 45 #[.val (.int p1), .val (.int p2), .val (.int p3), .val (.int (0 : Int32)), .val (.ref j5), .unset, .unset, .unset, .unset, .unset, .unset, .unset] [(.int z), (.int (1 : Int32)), (.ref b4), (.ref b4)]))) ((p2.toUInt32 >>> ((8 : Int32) &&& 31).toUInt32).toInt32) fun v8 hv8 => ?_)
    show ORun p e below s _ _ _ T7 (mkF m 45 #[.val (.int p1), .val (.int p2), .val (.int p3), .val (.int (0 : Int32)), .val (.ref j5), .unset, .unset, .unset, .unset, .unset, .unset, .unset] [(.int v8), (.int (1 : Int32)), (.ref b4), (.ref b4)])
    have a8a : v8.toInt = (p2.toInt % 4294967296) / 256 := by rw [hv8]; exact c_iushr p2 (8 : Int32) 8 (by decide) (by decide)
    have r8 := rng32 v8
    refine own_by (fun t k => XS.sipush X7.here hx rfl (hb hby at_45) k) ?_
    show ORun p e below s _ _ _ T7 (mkF m 48 #[.val (.int p1), .val (.int p2), .val (.int p3), .val (.int (0 : Int32)), .val (.ref j5), .unset, .unset, .unset, .unset, .unset, .unset, .unset] [(.int (255 : Int32)), (.int v8), (.int (1 : Int32)), (.ref b4), (.ref b4)])
    refine own_by (fun t k => XS.iand X7.here hx rfl (hb hby at_48) rfl k) (own_letI (f := (fun z => (mkF m 49 #[.val (.int p1), .val (.int p2), .val (.int p3), .val (.int (0 : Int32)), .val (.ref j5), .unset, .unset, .unset, .unset, .unset, .unset, .unset] [(.int z), (.int (1 : Int32)), (.ref b4), (.ref b4)]))) (v8 &&& (255 : Int32)) fun v9 hv9 => ?_)
    show ORun p e below s _ _ _ T7 (mkF m 49 #[.val (.int p1), .val (.int p2), .val (.int p3), .val (.int (0 : Int32)), .val (.ref j5), .unset, .unset, .unset, .unset, .unset, .unset, .unset] [(.int v9), (.int (1 : Int32)), (.ref b4), (.ref b4)])
    have a9a : v9.toInt = v8.toInt % 256 := by rw [hv9]; exact c_mask v8 (255 : Int32) 8 (by decide) (by decide)
    have r9 := rng32 v9
    refine own_by (fun t k => XS.i2c X7.here hx rfl (hb hby at_49) rfl k) (own_letI (f := (fun z => (mkF m 50 #[.val (.int p1), .val (.int p2), .val (.int p3), .val (.int (0 : Int32)), .val (.ref j5), .unset, .unset, .unset, .unset, .unset, .unset, .unset] [(.int z), (.int (1 : Int32)), (.ref b4), (.ref b4)]))) (v9.toUInt32.toUInt16.toUInt32.toInt32) fun v10 hv10 => ?_)
    show ORun p e below s _ _ _ T7 (mkF m 50 #[.val (.int p1), .val (.int p2), .val (.int p3), .val (.int (0 : Int32)), .val (.ref j5), .unset, .unset, .unset, .unset, .unset, .unset, .unset] [(.int v10), (.int (1 : Int32)), (.ref b4), (.ref b4)])
    have a10a : (v10.toInt - v9.toInt) % 65536 = 0 ∧ 0 ≤ v10.toInt ∧ v10.toInt < 65536 := by rw [hv10]; exact c_i2c v9
    have r10 := rng32 v10
    refine own_castore X7 hx hZ e7 V7 (i := 1) (by decide) (by omega) (hb hby at_50) ?_
    intro T11 h11 L11 X11 e11 W11 hL11 V11
    have len11 : L11.length = 2 := by rw [hL11, List.length_set]; exact len7
    have N11 := Fr.snoc X11 N7 old_b4
    obtain rfl : [(nar .char v6), (nar .char v10)] = L11 := hL11.symm
    show ORun p e below s _ _ _ T11 (mkF m 51 #[.val (.int p1), .val (.int p2), .val (.int p3), .val (.int (0 : Int32)), .val (.ref j5), .unset, .unset, .unset, .unset, .unset, .unset, .unset] [(.ref b4)])
    refine own_by (fun t k => XS.astore X11.here hx rfl (hb hby at_51) rfl rfl (l' := #[.val (.int p1), .val (.int p2), .val (.int p3), .val (.int (0 : Int32)), .val (.ref j5), .val (.ref b4), .unset, .unset, .unset, .unset, .unset, .unset]) rfl k) ?_
    show ORun p e below s _ _ _ T11 (mkF m 53 #[.val (.int p1), .val (.int p2), .val (.int p3), .val (.int (0 : Int32)), .val (.ref j5), .val (.ref b4), .unset, .unset, .unset, .unset, .unset, .unset] [])
    refine own_by (fun t k => XS.iconst X11.here hx rfl (hb hby at_53) k) ?_
    show ORun p e below s _ _ _ T11 (mkF m 54 #[.val (.int p1), .val (.int p2), .val (.int p3), .val (.int (0 : Int32)), .val (.ref j5), .val (.ref b4), .unset, .unset, .unset, .unset, .unset, .unset] [(.int (2 : Int32))])
    refine own_newarray X11 hx hZ (aty := .char) (hw _ (List.mem_of_getElem? (i := 3) rfl)) e11 rfl (N := 2) (cap := 2) (by decide) (Nat.le_refl _) (by decide) (by decide) (by decide) (ad := "[C") (by decide) (hb hby at_54) ?_
    intro T12 h12 b12 L12 g12 X12 e12 E12 hL12 V12 Ex12
    have len12 : L12.length = 2 := by rw [hL12]; exact List.length_replicate
    have old_b12 : n0 ≤ b12 := Nat.le_trans (Nat.le_trans (Nat.le_trans (Nat.le_trans Z0 E4.1) (Keep.of_wr W7).1) (Keep.of_wr W11).1) (Nat.le_of_eq g12.symm)
    have sz_b12 : h0.size ≤ b12 := Nat.le_trans (Nat.le_trans (Nat.le_trans (Nat.le_trans (Nat.le_refl h0.size) E4.1) (Keep.of_wr W7).1) (Keep.of_wr W11).1) (Nat.le_of_eq g12.symm)
    have ne_j4_b12 : j4 ≠ b12 := Nat.ne_of_lt (Nat.lt_of_lt_of_le (((Ej4.ext E4).wr W7).wr W11).lt (Nat.le_of_eq g12.symm))
    have ne_j5_b12 : j5 ≠ b12 := Nat.ne_of_lt (Nat.lt_of_lt_of_le (((Ej5.ext E4).wr W7).wr W11).lt (Nat.le_of_eq g12.symm))
    have ne_b4_b12 : b4 ≠ b12 := Nat.ne_of_lt (Nat.lt_of_lt_of_le V11.lt (Nat.le_of_eq g12.symm))
    obtain rfl : [(0 : Int32), (0 : Int32)] = L12 := hL12.symm
    show ORun p e below s _ _ _ T12 (mkF m 56 #[.val (.int p1), .val (.int p2), .val (.int p3), .val (.int (0 : Int32)), .val (.ref j5), .val (.ref b4), .unset, .unset, .unset, .unset, .unset, .unset] [(.ref b12)])
    refine own_by (fun t k => XS.dup X12.here hx rfl (hb hby at_56) rfl rfl k) ?_
    show ORun p e below s _ _ _ T12 (mkF m 57 #[.val (.int p1), .val (.int p2), .val (.int p3), .val (.int (0 : Int32)), .val (.ref j5), .val (.ref b4), .unset, .unset, .unset, .unset, .unset, .unset] [(.ref b12), (.ref b12)])
    refine own_by (fun t k => XS.iconst X12.here hx rfl (hb hby at_57) k) ?_
    show ORun p e below s _ _ _ T12 (mkF m 58 #[.val (.int p1), .val (.int p2), .val (.int p3), .val (.int (0 : Int32)), .val (.ref j5), .val (.ref b4), .unset, .unset, .unset, .unset, .unset, .unset] [(.int (0 : Int32)), (.ref b12), (.ref b12)])
    refine own_by (fun t k => XS.iloadN X12.here hx rfl (hb hby at_58) rfl k) ?_
    show ORun p e below s _ _ _ T12 (mkF m 59 #[.val (.int p1), .val (.int p2), .val (.int p3), .val (.int (0 : Int32)), .val (.ref j5), .val (.ref b4), .unset, .unset, .unset, .unset, .unset, .unset] [(.int p3), (.int (0 : Int32)), (.ref b12), (.ref b12)])
    refine own_by (fun t k => XS.sipush X12.here hx rfl (hb hby at_59) k) ?_
    show ORun p e below s _ _ _ T12 (mkF m 62 #[.val (.int p1), .val (.int p2), .val (.int p3), .val (.int (0 : Int32)), .val (.ref j5), .val (.ref b4), .unset, .unset, .unset, .unset, .unset, .unset] [(.int (255 : Int32)), (.int p3), (.int (0 : Int32)), (.ref b12), (.ref b12)])
    refine own_by (fun t k => XS.iand X12.here hx rfl (hb hby at_62) rfl k) (own_letI (f := (fun z => (mkF m 63 #[.val (.int p1), .val (.int p2), .val (.int p3), .val (.int (0 : Int32)), .val (.ref j5), .val (.ref b4), .unset, .unset, .unset, .unset, .unset, .unset] [(.int z), (.int (0 : Int32)), (.ref b12), (.ref b12)]))) (p3 &&& (255 : Int32)) fun v13 hv13 => ?_)
    show ORun p e below s _ _ _ T12 (mkF m 63 #[.val (.int p1), .val (.int p2), .val (.int p3), .val (.int (0 : Int32)), .val (.ref j5), .val (.ref b4), .unset, .unset, .unset, .unset, .unset, .unset] [(.int v13), (.int (0 : Int32)), (.ref b12), (.ref b12)])
    have a13a : v13.toInt = p3.toInt % 256 := by rw [hv13]; exact c_mask p3 (255 : Int32) 8 (by decide) (by decide)
    have r13 := rng32 v13
    refine own_by (fun t k => XS.i2c X12.here hx rfl (hb hby at_63) rfl k) (own_letI (f := (fun z => (mkF m 64 #[.val (.int p1), .val (.int p2), .val (.int p3), .val (.int (0 : Int32)), .val (.ref j5), .val (.ref b4), .unset, .unset, .unset, .unset, .unset, .unset] [(.int z), (.int (0 : Int32)), (.ref b12), (.ref b12)]))) (v13.toUInt32.toUInt16.toUInt32.toInt32) fun v14 hv14 => ?_)
    show ORun p e below s _ _ _ T12 (mkF m 64 #[.val (.int p1), .val (.int p2), .val (.int p3), .val (.int (0 : Int32)), .val (.ref j5), .val (.ref b4), .unset, .unset, .unset, .unset, .unset, .unset] [(.int v14), (.int (0 : Int32)), (.ref b12), (.ref b12)])
    have a14a : (v14.toInt - v13.toInt) % 65536 = 0 ∧ 0 ≤ v14.toInt ∧ v14.toInt < 65536 := by rw [hv14]; exact c_i2c v13
    have r14 := rng32 v14
    refine own_castore X12 hx hZ e12 V12 (i := 0) (by decide) (by omega) (hb hby at_64) ?_
    intro T15 h15 L15 X15 e15 W15 hL15 V15
    have len15 : L15.length = 2 := by rw [hL15, List.length_set]; exact len12
    have N15 := Fr.snoc X15 N11 old_b12
    obtain rfl : [(nar .char v14), (0 : Int32)] = L15 := hL15.symm
    show ORun p e below s _ _ _ T15 (mkF m 65 #[.val (.int p1), .val (.int p2), .val (.int p3), .val (.int (0 : Int32)), .val (.ref j5), .val (.ref b4), .unset, .unset, .unset, .unset, .unset, .unset] [(.ref b12)])
    refine own_by (fun t k => XS.dup X15.here hx rfl (hb hby at_65) rfl rfl k) ?_
    show ORun p e below s _ _ _ T15 (mkF m 66 #[.val (.int p1), .val (.int p2), .val (.int p3), .val (.int (0 : Int32)), .val (.ref j5), .val (.ref b4), .unset, .unset, .unset, .unset, .unset, .unset] [(.ref b12), (.ref b12)])
    refine own_by (fun t k => XS.iconst X15.here hx rfl (hb hby at_66) k) ?_
    show ORun p e below s _ _ _ T15 (mkF m 67 #[.val (.int p1), .val (.int p2), .val (.int p3), .val (.int (0 : Int32)), .val (.ref j5), .val (.ref b4), .unset, .unset, .unset, .unset, .unset, .unset] [(.int (1 : Int32)), (.ref b12), (.ref b12)])
    refine own_by (fun t k => XS.iloadN X15.here hx rfl (hb hby at_67) rfl k) ?_
    show ORun p e below s _ _ _ T15 (mkF m 68 #[.val (.int p1), .val (.int p2), .val (.int p3), .val (.int (0 : Int32)), .val (.ref j5), .val (.ref b4), .unset, .unset, .unset, .unset, .unset, .unset] [(.int p3), (.int (1 : Int32)), (.ref b12), (.ref b12)])
    refine own_by (fun t k => XS.bipush X15.here hx rfl (hb hby at_68) k) ?_
    show ORun p e below s _ _ _ T15 (mkF m 70 #[.val (.int p1), .val (.int p2), .val (.int p3), .val (.int (0 : Int32)), .val (.ref j5), .val (.ref b4), .unset, .unset, .unset, .unset, .unset, .unset] [(.int (8 : Int32)), (.int p3), (.int (1 : Int32)), (.ref b12), (.ref b12)])
    refine own_by (fun t k => XS.iushr X15.here hx rfl (hb hby at_70) rfl k) (own_letI (f := (fun z => (mkF m 71 #[.val (.int p1), .val (.int p2), .val (.int p3), .val (.int (0 : Int32)), .val (.ref j5), .val (.ref b4), .unset, .unset, .unset, .unset, .unset, .unset] [(.int z), (.int (1 : Int32)), (.ref b12), (.ref b12)]))) ((p3.toUInt32 >>> ((8 : Int32) &&& 31).toUInt32).toInt32) fun v16 hv16 => ?_)
    show ORun p e below s _ _ _ T15 (mkF m 71 #[.val (.int p1), .val (.int p2), .val (.int p3), .val (.int (0 : Int32)), .val (.ref j5), .val (.ref b4), .unset, .unset, .unset, .unset, .unset, .unset] [(.int v16), (.int (1 : Int32)), (.ref b12), (.ref b12)])
    have a16a : v16.toInt = (p3.toInt % 4294967296) / 256 := by rw [hv16]; exact c_iushr p3 (8 : Int32) 8 (by decide) (by decide)
    have r16 := rng32 v16
    refine own_by (fun t k => XS.sipush X15.here hx rfl (hb hby at_71) k) ?_
    show ORun p e below s _ _ _ T15 (mkF m 74 #[.val (.int p1), .val (.int p2), .val (.int p3), .val (.int (0 : Int32)), .val (.ref j5), .val (.ref b4), .unset, .unset, .unset, .unset, .unset, .unset] [(.int (255 : Int32)), (.int v16), (.int (1 : Int32)), (.ref b12), (.ref b12)])
    refine own_by (fun t k => XS.iand X15.here hx rfl (hb hby at_74) rfl k) (own_letI (f := (fun z => (mkF m 75 #[.val (.int p1), .val (.int p2), .val (.int p3), .val (.int (0 : Int32)), .val (.ref j5), .val (.ref b4), .unset, .unset, .unset, .unset, .unset, .unset] [(.int z), (.int (1 : Int32)), (.ref b12), (.ref b12)]))) (v16 &&& (255 : Int32)) fun v17 hv17 => ?_)
    show ORun p e below s _ _ _ T15 (mkF m 75 #[.val (.int p1), .val (.int p2), .val (.int p3), .val (.int (0 : Int32)), .val (.ref j5), .val (.ref b4), .unset, .unset, .unset, .unset, .unset, .unset] [(.int v17), (.int (1 : Int32)), (.ref b12), (.ref b12)])
    have a17a : v17.toInt = v16.toInt % 256 := by rw [hv17]; exact c_mask v16 (255 : Int32) 8 (by decide) (by decide)
    have r17 := rng32 v17
    refine own_by (fun t k => XS.i2c X15.here hx rfl (hb hby at_75) rfl k) (own_letI (f := (fun z => (mkF m 76 #[.val (.int p1), .val (.int p2), .val (.int p3), .val (.int (0 : Int32)), .val (.ref j5), .val (.ref b4), .unset, .unset, .unset, .unset, .unset, .unset] [(.int z), (.int (1 : Int32)), (.ref b12), (.ref b12)]))) (v17.toUInt32.toUInt16.toUInt32.toInt32) fun v18 hv18 => ?_)
    show ORun p e below s _ _ _ T15 (mkF m 76 #[.val (.int p1), .val (.int p2), .val (.int p3), .val (.int (0 : Int32)), .val (.ref j5), .val (.ref b4), .unset, .unset, .unset, .unset, .unset, .unset] [(.int v18), (.int (1 : Int32)), (.ref b12), (.ref b12)])
    have a18a : (v18.toInt - v17.toInt) % 65536 = 0 ∧ 0 ≤ v18.toInt ∧ v18.toInt < 65536 := by rw [hv18]; exact c_i2c v17
    have r18 := rng32 v18
    refine own_castore X15 hx hZ e15 V15 (i := 1) (by decide) (by omega) (hb hby at_76) ?_
    intro T19 h19 L19 X19 e19 W19 hL19 V19
    have len19 : L19.length = 2 := by rw [hL19, List.length_set]; exact len15
    have N19 := Fr.snoc X19 N15 old_b12
    obtain rfl : [(nar .char v14), (nar .char v18)] = L19 := hL19.symm
    show ORun p e below s _ _ _ T19 (mkF m 77 #[.val (.int p1), .val (.int p2), .val (.int p3), .val (.int (0 : Int32)), .val (.ref j5), .val (.ref b4), .unset, .unset, .unset, .unset, .unset, .unset] [(.ref b12)])
    refine own_by (fun t k => XS.astore X19.here hx rfl (hb hby at_77) rfl rfl (l' := #[.val (.int p1), .val (.int p2), .val (.int p3), .val (.int (0 : Int32)), .val (.ref j5), .val (.ref b4), .val (.ref b12), .unset, .unset, .unset, .unset, .unset]) rfl k) ?_
    show ORun p e below s _ _ _ T19 (mkF m 79 #[.val (.int p1), .val (.int p2), .val (.int p3), .val (.int (0 : Int32)), .val (.ref j5), .val (.ref b4), .val (.ref b12), .unset, .unset, .unset, .unset, .unset] [])
    obtain ⟨T20, h20, X20, e20, E20, A20, D20, -, st20⟩ := newO X19 hx hZ hown (hw _ (List.mem_of_getElem? (i := 4) rfl)) (hw _ (List.mem_of_getElem? (i := 5) rfl)) (hw _ (List.mem_of_getElem? (i := 6) rfl)) e19 (g := (mkF m 79 #[.val (.int p1), .val (.int p2), .val (.int p3), .val (.int (0 : Int32)), .val (.ref j5), .val (.ref b4), .val (.ref b12), .unset, .unset, .unset, .unset, .unset] [])) rfl (hb hby at_79) (by decide) (by decide)
    obtain ⟨b20, g20⟩ : ∃ z, z = h19.size := ⟨_, rfl⟩
    rw [← g20] at A20 D20 st20
    have old_b20 : n0 ≤ b20 := Nat.le_trans (Nat.le_trans (Nat.le_trans (Nat.le_trans (Nat.le_trans (Nat.le_trans (Nat.le_trans Z0 E4.1) (Keep.of_wr W7).1) (Keep.of_wr W11).1) E12.1) (Keep.of_wr W15).1) (Keep.of_wr W19).1) (Nat.le_of_eq g20.symm)
    have sz_b20 : h0.size ≤ b20 := Nat.le_trans (Nat.le_trans (Nat.le_trans (Nat.le_trans (Nat.le_trans (Nat.le_trans (Nat.le_trans (Nat.le_refl h0.size) E4.1) (Keep.of_wr W7).1) (Keep.of_wr W11).1) E12.1) (Keep.of_wr W15).1) (Keep.of_wr W19).1) (Nat.le_of_eq g20.symm)
    have ne_j4_b20 : j4 ≠ b20 := Nat.ne_of_lt (Nat.lt_of_lt_of_le ((((((Ej4.ext E4).wr W7).wr W11).ext E12).wr W15).wr W19).lt (Nat.le_of_eq g20.symm))
    have ne_j5_b20 : j5 ≠ b20 := Nat.ne_of_lt (Nat.lt_of_lt_of_le ((((((Ej5.ext E4).wr W7).wr W11).ext E12).wr W15).wr W19).lt (Nat.le_of_eq g20.symm))
    have ne_b4_b20 : b4 ≠ b20 := Nat.ne_of_lt (Nat.lt_of_lt_of_le (((V11.ext E12).other W15 ne_b4_b12).other W19 ne_b4_b12).lt (Nat.le_of_eq g20.symm))
    have ne_b12_b20 : b12 ≠ b20 := Nat.ne_of_lt (Nat.lt_of_lt_of_le V19.lt (Nat.le_of_eq g20.symm))
    have F20_30 : Fld Z h20 b20 "java/lang/String" "coder" "B" (.int (0 : Int32)) := D20 (Or.inr (hw _ (List.mem_of_getElem? (i := 30) rfl))) (ty := .byte) (by decide)
    have F20_32 : Fld Z h20 b20 "java/lang/String" "value" "[B" .null := D20 (Or.inr (hw _ (List.mem_of_getElem? (i := 32) rfl))) (ty := (.array .byte)) (by decide)
    refine own_by st20 ?_
    show ORun p e below s _ _ _ T20 (mkF m 82 #[.val (.int p1), .val (.int p2), .val (.int p3), .val (.int (0 : Int32)), .val (.ref j5), .val (.ref b4), .val (.ref b12), .unset, .unset, .unset, .unset, .unset] [(.ref b20)])
    refine own_by (fun t k => XS.dup X20.here hx rfl (hb hby at_82) rfl rfl k) ?_
    show ORun p e below s _ _ _ T20 (mkF m 83 #[.val (.int p1), .val (.int p2), .val (.int p3), .val (.int (0 : Int32)), .val (.ref j5), .val (.ref b4), .val (.ref b12), .unset, .unset, .unset, .unset, .unset] [(.ref b20), (.ref b20)])
    refine own_by (fun t k => XS.aload X20.here hx rfl (hb hby at_83) rfl rfl k) ?_
    show ORun p e below s _ _ _ T20 (mkF m 85 #[.val (.int p1), .val (.int p2), .val (.int p3), .val (.int (0 : Int32)), .val (.ref j5), .val (.ref b4), .val (.ref b12), .unset, .unset, .unset, .unset, .unset] [(.ref b4), (.ref b20), (.ref b20)])
    obtain ⟨kc21, Ar21⟩ := OVec.arvC ((((V11.ext E12).other W15 ne_b4_b12).other W19 ne_b4_b12).ext E20) (fun x hx => by simp only [List.mem_cons, List.not_mem_nil, or_false] at hx; rcases hx with rfl | rfl <;> exact fits_nar_char _) (by show 2 < 2 ^ 31; decide)
    have lat21 : ∀ c ∈ ([(nar .char v6), (nar .char v10)] : List Int32), ¬ c < 0 ∧ ¬ (255 : Int32) < c := fun c hc => by
      simp only [List.mem_cons, List.not_mem_nil, or_false] at hc
      rcases hc with rfl | rfl <;> exact own_lat (by omega) (by omega)
    refine own_callCB X20 hx hZ hown rfl (hw _ (List.mem_of_getElem? (i := 7) rfl)) (hw _ (List.mem_of_getElem? (i := 8) rfl)) (hw _ (List.mem_of_getElem? (i := 9) rfl)) (by decide) (W := 1) (kc := 1) (ks := 2) (StrChars.Road.backV (W := 1) hZ hws (kI := 4) (hw _ (List.mem_of_getElem? (i := 5) rfl)) (cs := [(nar .char v6), (nar .char v10)]) (bs := _) (n := 2) old_b20 (Nat.le_trans (Nat.le_trans (Nat.le_trans (Nat.le_trans (Nat.le_trans (Nat.le_trans (Nat.le_trans Z0 E4.1) (Keep.of_wr W7).1) (Keep.of_wr W11).1) E12.1) (Keep.of_wr W15).1) (Keep.of_wr W19).1) E20.1) A20 F20_32 F20_30 Ar21 (((((((Sc.ext E4).wr W7).wr W11).ext E12).wr W15).wr W19).ext E20) hz rfl rfl (by decide) (by decide) lat21 rfl (by decide) (by decide)) e20 (by decide) (by decide) (b := b20) (argsL := [(.ref b4)]) (rest := [(.ref b20)]) (by rw [hml]; rfl) (lenOf pd_0 rfl) rfl rfl (Nat.le_of_eq rfl) (hb hby at_85) ?_
    intro T21 L21 u21 X21 hQ21
    obtain ⟨rfl, Nq21, K21, En21, Fc21, t21, kb21, gt21, sz21, nt21, Fv21, Ab21⟩ := hQ21
    have N21 := Fr.app N19 Nq21
    show ORun p e below s _ _ _ T21 (mkF m 88 #[.val (.int p1), .val (.int p2), .val (.int p3), .val (.int (0 : Int32)), .val (.ref j5), .val (.ref b4), .val (.ref b12), .unset, .unset, .unset, .unset, .unset] [(.ref b20)])
    refine own_by (fun t k => XS.astore X21.here hx rfl (hb hby at_88) rfl rfl (l' := #[.val (.int p1), .val (.int p2), .val (.int p3), .val (.int (0 : Int32)), .val (.ref j5), .val (.ref b4), .val (.ref b12), .val (.ref b20), .unset, .unset, .unset, .unset]) rfl k) ?_
    show ORun p e below s _ _ _ T21 (mkF m 90 #[.val (.int p1), .val (.int p2), .val (.int p3), .val (.int (0 : Int32)), .val (.ref j5), .val (.ref b4), .val (.ref b12), .val (.ref b20), .unset, .unset, .unset, .unset] [])
    obtain ⟨T22, h22, X22, e22, E22, A22, D22, -, st22⟩ := newO X21 hx hZ hown (hw _ (List.mem_of_getElem? (i := 4) rfl)) (hw _ (List.mem_of_getElem? (i := 5) rfl)) (hw _ (List.mem_of_getElem? (i := 6) rfl)) rfl (g := (mkF m 90 #[.val (.int p1), .val (.int p2), .val (.int p3), .val (.int (0 : Int32)), .val (.ref j5), .val (.ref b4), .val (.ref b12), .val (.ref b20), .unset, .unset, .unset, .unset] [])) rfl (hb hby at_90) (by decide) (by decide)
    obtain ⟨b22, g22⟩ : ∃ z, z = T21.heap.size := ⟨_, rfl⟩
    rw [← g22] at A22 D22 st22
    have old_b22 : n0 ≤ b22 := Nat.le_trans (Nat.le_trans (Nat.le_trans (Nat.le_trans (Nat.le_trans (Nat.le_trans (Nat.le_trans (Nat.le_trans (Nat.le_trans Z0 E4.1) (Keep.of_wr W7).1) (Keep.of_wr W11).1) E12.1) (Keep.of_wr W15).1) (Keep.of_wr W19).1) E20.1) K21.1) (Nat.le_of_eq g22.symm)
    have sz_b22 : h0.size ≤ b22 := Nat.le_trans (Nat.le_trans (Nat.le_trans (Nat.le_trans (Nat.le_trans (Nat.le_trans (Nat.le_trans (Nat.le_trans (Nat.le_trans (Nat.le_refl h0.size) E4.1) (Keep.of_wr W7).1) (Keep.of_wr W11).1) E12.1) (Keep.of_wr W15).1) (Keep.of_wr W19).1) E20.1) K21.1) (Nat.le_of_eq g22.symm)
    have ne_j4_b22 : j4 ≠ b22 := Nat.ne_of_lt (Nat.lt_of_lt_of_le ((((((((Ej4.ext E4).wr W7).wr W11).ext E12).wr W15).wr W19).ext E20).keep K21).lt (Nat.le_of_eq g22.symm))
    have ne_j5_b22 : j5 ≠ b22 := Nat.ne_of_lt (Nat.lt_of_lt_of_le ((((((((Ej5.ext E4).wr W7).wr W11).ext E12).wr W15).wr W19).ext E20).keep K21).lt (Nat.le_of_eq g22.symm))
    have ne_b4_b22 : b4 ≠ b22 := Nat.ne_of_lt (Nat.lt_of_lt_of_le (((((V11.ext E12).other W15 ne_b4_b12).other W19 ne_b4_b12).ext E20).keep K21 (ninS ne_b4_b20 nin0)).lt (Nat.le_of_eq g22.symm))
    have ne_b12_b22 : b12 ≠ b22 := Nat.ne_of_lt (Nat.lt_of_lt_of_le ((V19.ext E20).keep K21 (ninS ne_b12_b20 nin0)).lt (Nat.le_of_eq g22.symm))
    have ne_b20_b22 : b20 ≠ b22 := Nat.ne_of_lt (Nat.lt_of_lt_of_le En21.lt (Nat.le_of_eq g22.symm))
    have F22_30 : Fld Z h22 b22 "java/lang/String" "coder" "B" (.int (0 : Int32)) := D22 (Or.inr (hw _ (List.mem_of_getElem? (i := 30) rfl))) (ty := .byte) (by decide)
    have F22_32 : Fld Z h22 b22 "java/lang/String" "value" "[B" .null := D22 (Or.inr (hw _ (List.mem_of_getElem? (i := 32) rfl))) (ty := (.array .byte)) (by decide)
    refine own_by st22 ?_
    show ORun p e below s _ _ _ T22 (mkF m 93 #[.val (.int p1), .val (.int p2), .val (.int p3), .val (.int (0 : Int32)), .val (.ref j5), .val (.ref b4), .val (.ref b12), .val (.ref b20), .unset, .unset, .unset, .unset] [(.ref b22)])
    refine own_by (fun t k => XS.dup X22.here hx rfl (hb hby at_93) rfl rfl k) ?_
    show ORun p e below s _ _ _ T22 (mkF m 94 #[.val (.int p1), .val (.int p2), .val (.int p3), .val (.int (0 : Int32)), .val (.ref j5), .val (.ref b4), .val (.ref b12), .val (.ref b20), .unset, .unset, .unset, .unset] [(.ref b22), (.ref b22)])
    refine own_by (fun t k => XS.aload X22.here hx rfl (hb hby at_94) rfl rfl k) ?_
    show ORun p e below s _ _ _ T22 (mkF m 96 #[.val (.int p1), .val (.int p2), .val (.int p3), .val (.int (0 : Int32)), .val (.ref j5), .val (.ref b4), .val (.ref b12), .val (.ref b20), .unset, .unset, .unset, .unset] [(.ref b12), (.ref b22), (.ref b22)])
    obtain ⟨kc23, Ar23⟩ := OVec.arvC (((V19.ext E20).keep K21 (ninS ne_b12_b20 nin0)).ext E22) (fun x hx => by simp only [List.mem_cons, List.not_mem_nil, or_false] at hx; rcases hx with rfl | rfl <;> exact fits_nar_char _) (by show 2 < 2 ^ 31; decide)
    have lat23 : ∀ c ∈ ([(nar .char v14), (nar .char v18)] : List Int32), ¬ c < 0 ∧ ¬ (255 : Int32) < c := fun c hc => by
      simp only [List.mem_cons, List.not_mem_nil, or_false] at hc
      rcases hc with rfl | rfl <;> exact own_lat (by omega) (by omega)
    refine own_callCB X22 hx hZ hown rfl (hw _ (List.mem_of_getElem? (i := 7) rfl)) (hw _ (List.mem_of_getElem? (i := 8) rfl)) (hw _ (List.mem_of_getElem? (i := 9) rfl)) (by decide) (W := 1) (kc := 1) (ks := 2) (StrChars.Road.backV (W := 1) hZ hws (kI := 4) (hw _ (List.mem_of_getElem? (i := 5) rfl)) (cs := [(nar .char v14), (nar .char v18)]) (bs := _) (n := 2) old_b22 (Nat.le_trans (Nat.le_trans (Nat.le_trans (Nat.le_trans (Nat.le_trans (Nat.le_trans (Nat.le_trans (Nat.le_trans (Nat.le_trans Z0 E4.1) (Keep.of_wr W7).1) (Keep.of_wr W11).1) E12.1) (Keep.of_wr W15).1) (Keep.of_wr W19).1) E20.1) K21.1) E22.1) A22 F22_32 F22_30 Ar23 (Sc.ext (own_kext ((((((((((Keep.refl h0 []).ext E4).wr W7 (Or.inr sz_b4)).wr W11 (Or.inr sz_b4)).ext E12).wr W15 (Or.inr sz_b12)).wr W19 (Or.inr sz_b12)).ext E20).trans K21 (allS (Or.inr sz_b20) all0)).ext E22))) hz rfl rfl (by decide) (by decide) lat23 rfl (by decide) (by decide)) e22 (by decide) (by decide) (b := b22) (argsL := [(.ref b12)]) (rest := [(.ref b22)]) (by rw [hml]; rfl) (lenOf pd_0 rfl) rfl rfl (Nat.le_of_eq rfl) (hb hby at_96) ?_
    intro T23 L23 u23 X23 hQ23
    obtain ⟨rfl, Nq23, K23, En23, Fc23, t23, kb23, gt23, sz23, nt23, Fv23, Ab23⟩ := hQ23
    have N23 := Fr.app N21 Nq23
    show ORun p e below s _ _ _ T23 (mkF m 99 #[.val (.int p1), .val (.int p2), .val (.int p3), .val (.int (0 : Int32)), .val (.ref j5), .val (.ref b4), .val (.ref b12), .val (.ref b20), .unset, .unset, .unset, .unset] [(.ref b22)])
    refine own_by (fun t k => XS.astore X23.here hx rfl (hb hby at_99) rfl rfl (l' := #[.val (.int p1), .val (.int p2), .val (.int p3), .val (.int (0 : Int32)), .val (.ref j5), .val (.ref b4), .val (.ref b12), .val (.ref b20), .val (.ref b22), .unset, .unset, .unset]) rfl k) ?_
    show ORun p e below s _ _ _ T23 (mkF m 101 #[.val (.int p1), .val (.int p2), .val (.int p3), .val (.int (0 : Int32)), .val (.ref j5), .val (.ref b4), .val (.ref b12), .val (.ref b20), .val (.ref b22), .unset, .unset, .unset] [])
    refine own_by (fun t k => XS.aload X23.here hx rfl (hb hby at_101) rfl rfl k) ?_
    show ORun p e below s _ _ _ T23 (mkF m 103 #[.val (.int p1), .val (.int p2), .val (.int p3), .val (.int (0 : Int32)), .val (.ref j5), .val (.ref b4), .val (.ref b12), .val (.ref b20), .val (.ref b22), .unset, .unset, .unset] [(.ref j5)])
    refine own_by (fun t k => XS.aload X23.here hx rfl (hb hby at_103) rfl rfl k) ?_
    show ORun p e below s _ _ _ T23 (mkF m 105 #[.val (.int p1), .val (.int p2), .val (.int p3), .val (.int (0 : Int32)), .val (.ref j5), .val (.ref b4), .val (.ref b12), .val (.ref b20), .val (.ref b22), .unset, .unset, .unset] [(.ref b20), (.ref j5)])
    refine own_by (fun t k => XS.aload X23.here hx rfl (hb hby at_105) rfl rfl k) ?_
    show ORun p e below s _ _ _ T23 (mkF m 107 #[.val (.int p1), .val (.int p2), .val (.int p3), .val (.int (0 : Int32)), .val (.ref j5), .val (.ref b4), .val (.ref b12), .val (.ref b20), .val (.ref b22), .unset, .unset, .unset] [(.ref b22), (.ref b20), (.ref j5)])
    refine own_callV X23 hx hZ hown ((((((((((Ej5.ext E4).wr W7).wr W11).ext E12).wr W15).wr W19).ext E20).keep K21).ext E22).keep K23) (hw _ (List.mem_of_getElem? (i := 33) rfl)) (hw _ (List.mem_of_getElem? (i := 34) rfl)) (notFace_of_selects (args := #[]) (mvT hZ (hw _ (List.mem_of_getElem? (i := 36) rfl)))) (hw _ (List.mem_of_getElem? (i := 36) rfl)) (hw _ (List.mem_of_getElem? (i := 35) rfl)) (hw _ (List.mem_of_getElem? (i := 1) rfl)) (hw _ (List.mem_of_getElem? (i := 37) rfl)) (by decide) (rm7 l Z a0 hw [] T23.heap n0 (Nat.le_trans (Nat.le_trans (Nat.le_trans (Nat.le_trans (Nat.le_trans (Nat.le_trans (Nat.le_trans (Nat.le_trans (Nat.le_trans (Nat.le_trans Z0 E4.1) (Keep.of_wr W7).1) (Keep.of_wr W11).1) E12.1) (Keep.of_wr W15).1) (Keep.of_wr W19).1) E20.1) K21.1) E22.1) K23.1) j5 b20 b22 (0 : Int32) ((((((((((Fj5.ext E4).other W7 (Or.inl ne_j5_b4)).other W11 (Or.inl ne_j5_b4)).ext E12).other W15 (Or.inl ne_j5_b12)).other W19 (Or.inl ne_j5_b12)).ext E20).keep K21 (ninS ne_j5_b20 nin0)).ext E22).keep K23 (ninS ne_j5_b22 nin0)) ((En21.ext E22).keep K23) En23) rfl (by decide) (W := 0) (by decide) (by decide) (by decide) (argsL := [(.ref b20), (.ref b22)]) (rest := []) (by rw [hml]; rfl) (lenOf pd_1 rfl) rfl rfl (Nat.le_of_eq rfl) (hb hby at_107) ?_
    intro T24 L24 u24 X24 hQ24
    obtain ⟨o24, rfl, Nq24, K24, sz_o24, Vq24⟩ := hQ24
    have N24 := Fr.app N23 Nq24
    rw [if_pos (by decide)] at Vq24
    show ORun p e below s _ _ _ T24 (mkF m 110 #[.val (.int p1), .val (.int p2), .val (.int p3), .val (.int (0 : Int32)), .val (.ref j5), .val (.ref b4), .val (.ref b12), .val (.ref b20), .val (.ref b22), .unset, .unset, .unset] [(.ref o24)])
    refine own_by (fun t k => XS.astore X24.here hx rfl (hb hby at_110) rfl rfl (l' := #[.val (.int p1), .val (.int p2), .val (.int p3), .val (.int (0 : Int32)), .val (.ref j5), .val (.ref b4), .val (.ref b12), .val (.ref b20), .val (.ref b22), .val (.ref o24), .unset, .unset]) rfl k) ?_
    show ORun p e below s _ _ _ T24 (mkF m 112 #[.val (.int p1), .val (.int p2), .val (.int p3), .val (.int (0 : Int32)), .val (.ref j5), .val (.ref b4), .val (.ref b12), .val (.ref b20), .val (.ref b22), .val (.ref o24), .unset, .unset] [])
    refine own_by (fun t k => XS.aload X24.here hx rfl (hb hby at_112) rfl rfl k) ?_
    show ORun p e below s _ _ _ T24 (mkF m 114 #[.val (.int p1), .val (.int p2), .val (.int p3), .val (.int (0 : Int32)), .val (.ref j5), .val (.ref b4), .val (.ref b12), .val (.ref b20), .val (.ref b22), .val (.ref o24), .unset, .unset] [(.ref o24)])
    refine own_by (fun t k => XS.ifnullNo X24.here hx rfl (hb hby at_114) rfl k) ?_
    show ORun p e below s _ _ _ T24 (mkF m 117 #[.val (.int p1), .val (.int p2), .val (.int p3), .val (.int (0 : Int32)), .val (.ref j5), .val (.ref b4), .val (.ref b12), .val (.ref b20), .val (.ref b22), .val (.ref o24), .unset, .unset] [])
    refine own_by (fun t k => XS.aload X24.here hx rfl (hb hby at_117) rfl rfl k) ?_
    show ORun p e below s _ _ _ T24 (mkF m 119 #[.val (.int p1), .val (.int p2), .val (.int p3), .val (.int (0 : Int32)), .val (.ref j5), .val (.ref b4), .val (.ref b12), .val (.ref b20), .val (.ref b22), .val (.ref o24), .unset, .unset] [(.ref o24)])
    refine own_alen X24 hx hZ rfl Vq24 (n := 2) rfl (hb hby at_119) ?_
    show ORun p e below s _ _ _ T24 (mkF m 120 #[.val (.int p1), .val (.int p2), .val (.int p3), .val (.int (0 : Int32)), .val (.ref j5), .val (.ref b4), .val (.ref b12), .val (.ref b20), .val (.ref b22), .val (.ref o24), .unset, .unset] [(.int (2 : Int32))])
    refine own_by (fun t k => XS.iconst X24.here hx rfl (hb hby at_120) k) ?_
    show ORun p e below s _ _ _ T24 (mkF m 121 #[.val (.int p1), .val (.int p2), .val (.int p3), .val (.int (0 : Int32)), .val (.ref j5), .val (.ref b4), .val (.ref b12), .val (.ref b20), .val (.ref b22), .val (.ref o24), .unset, .unset] [(.int (2 : Int32)), (.int (2 : Int32))])
    refine own_by (fun t k => XS.icmpYes X24.here hx rfl (pc0 := 121) (pc' := 126) rfl (hb hby at_121) rfl (teq (by decide)).1 (by decide) (by decide) k) ?_
    show ORun p e below s _ _ _ T24 (mkF m 126 #[.val (.int p1), .val (.int p2), .val (.int p3), .val (.int (0 : Int32)), .val (.ref j5), .val (.ref b4), .val (.ref b12), .val (.ref b20), .val (.ref b22), .val (.ref o24), .unset, .unset] [])
    refine own_by (fun t k => XS.iloadN X24.here hx rfl (hb hby at_126) rfl k) ?_
    show ORun p e below s _ _ _ T24 (mkF m 127 #[.val (.int p1), .val (.int p2), .val (.int p3), .val (.int (0 : Int32)), .val (.ref j5), .val (.ref b4), .val (.ref b12), .val (.ref b20), .val (.ref b22), .val (.ref o24), .unset, .unset] [(.int (0 : Int32))])
    refine own_by (fun t k => XS.ifYes X24.here hx rfl (pc0 := 127) (pc' := 135) rfl (hb hby at_127) rfl ((if0 _ _).trans (teq (by decide)).1) (by decide) (by decide) k) ?_
    show ORun p e below s _ _ _ T24 (mkF m 135 #[.val (.int p1), .val (.int p2), .val (.int p3), .val (.int (0 : Int32)), .val (.ref j5), .val (.ref b4), .val (.ref b12), .val (.ref b20), .val (.ref b22), .val (.ref o24), .unset, .unset] [])
    refine own_by (fun t k => XS.aload X24.here hx rfl (hb hby at_135) rfl rfl k) ?_
    show ORun p e below s _ _ _ T24 (mkF m 137 #[.val (.int p1), .val (.int p2), .val (.int p3), .val (.int (0 : Int32)), .val (.ref j5), .val (.ref b4), .val (.ref b12), .val (.ref b20), .val (.ref b22), .val (.ref o24), .unset, .unset] [(.ref b20)])
    refine own_by (fun t k => XS.astore X24.here hx rfl (hb hby at_137) rfl rfl (l' := #[.val (.int p1), .val (.int p2), .val (.int p3), .val (.int (0 : Int32)), .val (.ref j5), .val (.ref b4), .val (.ref b12), .val (.ref b20), .val (.ref b22), .val (.ref o24), .val (.ref b20), .unset]) rfl k) ?_
    show ORun p e below s _ _ _ T24 (mkF m 139 #[.val (.int p1), .val (.int p2), .val (.int p3), .val (.int (0 : Int32)), .val (.ref j5), .val (.ref b4), .val (.ref b12), .val (.ref b20), .val (.ref b22), .val (.ref o24), .val (.ref b20), .unset] [])
    refine own_by (fun t k => XS.iloadN X24.here hx rfl (hb hby at_139) rfl k) ?_
    show ORun p e below s _ _ _ T24 (mkF m 140 #[.val (.int p1), .val (.int p2), .val (.int p3), .val (.int (0 : Int32)), .val (.ref j5), .val (.ref b4), .val (.ref b12), .val (.ref b20), .val (.ref b22), .val (.ref o24), .val (.ref b20), .unset] [(.int (0 : Int32))])
    refine own_by (fun t k => XS.ifYes X24.here hx rfl (pc0 := 140) (pc' := 148) rfl (hb hby at_140) rfl ((if0 _ _).trans (teq (by decide)).1) (by decide) (by decide) k) ?_
    show ORun p e below s _ _ _ T24 (mkF m 148 #[.val (.int p1), .val (.int p2), .val (.int p3), .val (.int (0 : Int32)), .val (.ref j5), .val (.ref b4), .val (.ref b12), .val (.ref b20), .val (.ref b22), .val (.ref o24), .val (.ref b20), .unset] [])
    refine own_by (fun t k => XS.aload X24.here hx rfl (hb hby at_148) rfl rfl k) ?_
    show ORun p e below s _ _ _ T24 (mkF m 150 #[.val (.int p1), .val (.int p2), .val (.int p3), .val (.int (0 : Int32)), .val (.ref j5), .val (.ref b4), .val (.ref b12), .val (.ref b20), .val (.ref b22), .val (.ref o24), .val (.ref b20), .unset] [(.ref b22)])
    refine own_by (fun t k => XS.astore X24.here hx rfl (hb hby at_150) rfl rfl (l' := #[.val (.int p1), .val (.int p2), .val (.int p3), .val (.int (0 : Int32)), .val (.ref j5), .val (.ref b4), .val (.ref b12), .val (.ref b20), .val (.ref b22), .val (.ref o24), .val (.ref b20), .val (.ref b22)]) rfl k) ?_
    show ORun p e below s _ _ _ T24 (mkF m 152 #[.val (.int p1), .val (.int p2), .val (.int p3), .val (.int (0 : Int32)), .val (.ref j5), .val (.ref b4), .val (.ref b12), .val (.ref b20), .val (.ref b22), .val (.ref o24), .val (.ref b20), .val (.ref b22)] [])
    refine own_by (fun t k => XS.aload X24.here hx rfl (hb hby at_152) rfl rfl k) ?_
    show ORun p e below s _ _ _ T24 (mkF m 154 #[.val (.int p1), .val (.int p2), .val (.int p3), .val (.int (0 : Int32)), .val (.ref j5), .val (.ref b4), .val (.ref b12), .val (.ref b20), .val (.ref b22), .val (.ref o24), .val (.ref b20), .val (.ref b22)] [(.ref b20)])
    refine own_by (fun t k => XS.aload X24.here hx rfl (hb hby at_154) rfl rfl k) ?_
    show ORun p e below s _ _ _ T24 (mkF m 156 #[.val (.int p1), .val (.int p2), .val (.int p3), .val (.int (0 : Int32)), .val (.ref j5), .val (.ref b4), .val (.ref b12), .val (.ref b20), .val (.ref b22), .val (.ref o24), .val (.ref b20), .val (.ref b22)] [(.ref o24), (.ref b20)])
    refine own_by (fun t k => XS.iconst X24.here hx rfl (hb hby at_156) k) ?_
    show ORun p e below s _ _ _ T24 (mkF m 157 #[.val (.int p1), .val (.int p2), .val (.int p3), .val (.int (0 : Int32)), .val (.ref j5), .val (.ref b4), .val (.ref b12), .val (.ref b20), .val (.ref b22), .val (.ref o24), .val (.ref b20), .val (.ref b22)] [(.int (0 : Int32)), (.ref o24), (.ref b20)])
    refine own_aaload X24 hx hZ rfl Vq24 (i := 0) (by decide) (v := .ref b20) rfl (hb hby at_157) ?_
    show ORun p e below s _ _ _ T24 (mkF m 158 #[.val (.int p1), .val (.int p2), .val (.int p3), .val (.int (0 : Int32)), .val (.ref j5), .val (.ref b4), .val (.ref b12), .val (.ref b20), .val (.ref b22), .val (.ref o24), .val (.ref b20), .val (.ref b22)] [(.ref b20), (.ref b20)])
    refine own_callV X24 hx hZ hown (((En21.ext E22).keep K23).keep K24) (hw _ (List.mem_of_getElem? (i := 42) rfl)) (hw _ (List.mem_of_getElem? (i := 43) rfl)) (notFace_of_selects (args := #[]) (mvT hZ (hw _ (List.mem_of_getElem? (i := 45) rfl)))) (hw _ (List.mem_of_getElem? (i := 45) rfl)) (hw _ (List.mem_of_getElem? (i := 44) rfl)) (hw _ (List.mem_of_getElem? (i := 6) rfl)) (hw _ (List.mem_of_getElem? (i := 46) rfl)) (by decide) (rm8 l Z a0 hw [] T24.heap n0 (Nat.le_trans (Nat.le_trans (Nat.le_trans (Nat.le_trans (Nat.le_trans (Nat.le_trans (Nat.le_trans (Nat.le_trans (Nat.le_trans (Nat.le_trans (Nat.le_trans Z0 E4.1) (Keep.of_wr W7).1) (Keep.of_wr W11).1) E12.1) (Keep.of_wr W15).1) (Keep.of_wr W19).1) E20.1) K21.1) E22.1) K23.1) K24.1) b20) rfl (by decide) (W := 0) (by decide) (by decide) (by decide) (argsL := [(.ref b20)]) (rest := []) (by rw [hml]; rfl) (lenOf pd_2 rfl) rfl rfl (Nat.le_of_eq rfl) (hb hby at_158) ?_
    intro T25 L25 u25 X25 hQ25
    obtain ⟨rfl, Nq25, e25⟩ := hQ25
    have N25 := Fr.app N24 Nq25
    show ORun p e below s _ _ _ T25 (mkF m 161 #[.val (.int p1), .val (.int p2), .val (.int p3), .val (.int (0 : Int32)), .val (.ref j5), .val (.ref b4), .val (.ref b12), .val (.ref b20), .val (.ref b22), .val (.ref o24), .val (.ref b20), .val (.ref b22)] [(.int (1 : Int32))])
    refine own_by (fun t k => XS.ifNo X25.here hx rfl (hb hby at_161) rfl ((if0 _ _).trans (feq (by decide)).1) k) ?_
    show ORun p e below s _ _ _ T25 (mkF m 164 #[.val (.int p1), .val (.int p2), .val (.int p3), .val (.int (0 : Int32)), .val (.ref j5), .val (.ref b4), .val (.ref b12), .val (.ref b20), .val (.ref b22), .val (.ref o24), .val (.ref b20), .val (.ref b22)] [])
    refine own_by (fun t k => XS.aload X25.here hx rfl (hb hby at_164) rfl rfl k) ?_
    show ORun p e below s _ _ _ T25 (mkF m 166 #[.val (.int p1), .val (.int p2), .val (.int p3), .val (.int (0 : Int32)), .val (.ref j5), .val (.ref b4), .val (.ref b12), .val (.ref b20), .val (.ref b22), .val (.ref o24), .val (.ref b20), .val (.ref b22)] [(.ref b22)])
    refine own_by (fun t k => XS.aload X25.here hx rfl (hb hby at_166) rfl rfl k) ?_
    show ORun p e below s _ _ _ T25 (mkF m 168 #[.val (.int p1), .val (.int p2), .val (.int p3), .val (.int (0 : Int32)), .val (.ref j5), .val (.ref b4), .val (.ref b12), .val (.ref b20), .val (.ref b22), .val (.ref o24), .val (.ref b20), .val (.ref b22)] [(.ref o24), (.ref b22)])
    refine own_by (fun t k => XS.iconst X25.here hx rfl (hb hby at_168) k) ?_
    show ORun p e below s _ _ _ T25 (mkF m 169 #[.val (.int p1), .val (.int p2), .val (.int p3), .val (.int (0 : Int32)), .val (.ref j5), .val (.ref b4), .val (.ref b12), .val (.ref b20), .val (.ref b22), .val (.ref o24), .val (.ref b20), .val (.ref b22)] [(.int (1 : Int32)), (.ref o24), (.ref b22)])
    refine own_aaload X25 hx hZ e25 Vq24 (i := 1) (by decide) (v := .ref b22) rfl (hb hby at_169) ?_
    show ORun p e below s _ _ _ T25 (mkF m 170 #[.val (.int p1), .val (.int p2), .val (.int p3), .val (.int (0 : Int32)), .val (.ref j5), .val (.ref b4), .val (.ref b12), .val (.ref b20), .val (.ref b22), .val (.ref o24), .val (.ref b20), .val (.ref b22)] [(.ref b22), (.ref b22)])
    refine own_callV X25 hx hZ hown (En23.keep K24) (hw _ (List.mem_of_getElem? (i := 42) rfl)) (hw _ (List.mem_of_getElem? (i := 43) rfl)) (notFace_of_selects (args := #[]) (mvT hZ (hw _ (List.mem_of_getElem? (i := 45) rfl)))) (hw _ (List.mem_of_getElem? (i := 45) rfl)) (hw _ (List.mem_of_getElem? (i := 44) rfl)) (hw _ (List.mem_of_getElem? (i := 6) rfl)) (hw _ (List.mem_of_getElem? (i := 46) rfl)) (by decide) (rm8 l Z a0 hw [] T24.heap n0 (Nat.le_trans (Nat.le_trans (Nat.le_trans (Nat.le_trans (Nat.le_trans (Nat.le_trans (Nat.le_trans (Nat.le_trans (Nat.le_trans (Nat.le_trans (Nat.le_trans Z0 E4.1) (Keep.of_wr W7).1) (Keep.of_wr W11).1) E12.1) (Keep.of_wr W15).1) (Keep.of_wr W19).1) E20.1) K21.1) E22.1) K23.1) K24.1) b22) e25 (by decide) (W := 0) (by decide) (by decide) (by decide) (argsL := [(.ref b22)]) (rest := []) (by rw [hml]; rfl) (lenOf pd_2 rfl) rfl rfl (Nat.le_of_eq rfl) (hb hby at_170) ?_
    intro T26 L26 u26 X26 hQ26
    obtain ⟨rfl, Nq26, e26⟩ := hQ26
    have N26 := Fr.app N25 Nq26
    show ORun p e below s _ _ _ T26 (mkF m 173 #[.val (.int p1), .val (.int p2), .val (.int p3), .val (.int (0 : Int32)), .val (.ref j5), .val (.ref b4), .val (.ref b12), .val (.ref b20), .val (.ref b22), .val (.ref o24), .val (.ref b20), .val (.ref b22)] [(.int (1 : Int32))])
    refine own_by (fun t k => XS.ifNo X26.here hx rfl (hb hby at_173) rfl ((if0 _ _).trans (feq (by decide)).1) k) ?_
    show ORun p e below s _ _ _ T26 (mkF m 176 #[.val (.int p1), .val (.int p2), .val (.int p3), .val (.int (0 : Int32)), .val (.ref j5), .val (.ref b4), .val (.ref b12), .val (.ref b20), .val (.ref b22), .val (.ref o24), .val (.ref b20), .val (.ref b22)] [])
    refine own_by (fun t k => XS.iconst X26.here hx rfl (hb hby at_176) k) ?_
    show ORun p e below s _ _ _ T26 (mkF m 177 #[.val (.int p1), .val (.int p2), .val (.int p3), .val (.int (0 : Int32)), .val (.ref j5), .val (.ref b4), .val (.ref b12), .val (.ref b20), .val (.ref b22), .val (.ref o24), .val (.ref b20), .val (.ref b22)] [(.int (1 : Int32))])
    refine own_by (fun t k => XS.goto X26.here hx rfl (pc0 := 177) (pc' := 181) rfl (hb hby at_177) (by decide) (by decide) k) ?_
    show ORun p e below s _ _ _ T26 (mkF m 181 #[.val (.int p1), .val (.int p2), .val (.int p3), .val (.int (0 : Int32)), .val (.ref j5), .val (.ref b4), .val (.ref b12), .val (.ref b20), .val (.ref b22), .val (.ref o24), .val (.ref b20), .val (.ref b22)] [(.int (1 : Int32))])
    refine own_retN X26 hx (t := .boolean) hret (by simp) hlk (hb hby at_181) (by decide) (by decide) ?_
    exact ⟨rfl, N26⟩
  · have t2 := own_ne hc2 (a := v1.toInt) (b := 0) rfl (by decide)
    refine own_by (fun t k => XS.ifNo X0.here hx rfl (hb hby at_3) rfl ((if0 _ _).trans (feq hc2).1) k) ?_
    show ORun p e below s _ _ _ s₁ (mkF m 6 #[.val (.int p1), .val (.int p2), .val (.int p3), .unset, .unset, .unset, .unset, .unset, .unset, .unset, .unset, .unset] [])
    refine own_by (fun t k => XS.iconst X0.here hx rfl (hb hby at_6) k) ?_
    show ORun p e below s _ _ _ s₁ (mkF m 7 #[.val (.int p1), .val (.int p2), .val (.int p3), .unset, .unset, .unset, .unset, .unset, .unset, .unset, .unset, .unset] [(.int (1 : Int32))])
    refine own_by (fun t k => XS.goto X0.here hx rfl (pc0 := 7) (pc' := 11) rfl (hb hby at_7) (by decide) (by decide) k) ?_
    show ORun p e below s _ _ _ s₁ (mkF m 11 #[.val (.int p1), .val (.int p2), .val (.int p3), .unset, .unset, .unset, .unset, .unset, .unset, .unset, .unset, .unset] [(.int (1 : Int32))])
    refine own_by (fun t k => XS.istoreN X0.here hx rfl (hb hby at_11) rfl (l' := #[.val (.int p1), .val (.int p2), .val (.int p3), .val (.int (1 : Int32)), .unset, .unset, .unset, .unset, .unset, .unset, .unset, .unset]) rfl k) ?_
    show ORun p e below s _ _ _ s₁ (mkF m 12 #[.val (.int p1), .val (.int p2), .val (.int p3), .val (.int (1 : Int32)), .unset, .unset, .unset, .unset, .unset, .unset, .unset, .unset] [])
    refine own_by (fun t k => XS.iloadN X0.here hx rfl (hb hby at_12) rfl k) ?_
    show ORun p e below s _ _ _ s₁ (mkF m 13 #[.val (.int p1), .val (.int p2), .val (.int p3), .val (.int (1 : Int32)), .unset, .unset, .unset, .unset, .unset, .unset, .unset, .unset] [(.int (1 : Int32))])
    refine own_by (fun t k => XS.ifNo X0.here hx rfl (hb hby at_13) rfl ((if0 _ _).trans (feq (by decide)).1) k) ?_
    show ORun p e below s _ _ _ s₁ (mkF m 16 #[.val (.int p1), .val (.int p2), .val (.int p3), .val (.int (1 : Int32)), .unset, .unset, .unset, .unset, .unset, .unset, .unset, .unset] [])
    obtain ⟨T27, X27, e27, st27⟩ := getS2 X0 hx hZ hown (host := "") (Or.inl (hw _ (List.mem_of_getElem? (i := 47) rfl))) Via.refl e0 Sj4 (g := (mkF m 16 #[.val (.int p1), .val (.int p2), .val (.int p3), .val (.int (1 : Int32)), .unset, .unset, .unset, .unset, .unset, .unset, .unset, .unset] [])) rfl (hb hby at_16)
    refine own_by st27 ?_
    show ORun p e below s _ _ _ T27 (mkF m 19 #[.val (.int p1), .val (.int p2), .val (.int p3), .val (.int (1 : Int32)), .unset, .unset, .unset, .unset, .unset, .unset, .unset, .unset] [(.ref j4)])
    refine own_by (fun t k => XS.goto X27.here hx rfl (pc0 := 19) (pc' := 25) rfl (hb hby at_19) (by decide) (by decide) k) ?_
    show ORun p e below s _ _ _ T27 (mkF m 25 #[.val (.int p1), .val (.int p2), .val (.int p3), .val (.int (1 : Int32)), .unset, .unset, .unset, .unset, .unset, .unset, .unset, .unset] [(.ref j4)])
    refine own_by (fun t k => XS.astore X27.here hx rfl (hb hby at_25) rfl rfl (l' := #[.val (.int p1), .val (.int p2), .val (.int p3), .val (.int (1 : Int32)), .val (.ref j4), .unset, .unset, .unset, .unset, .unset, .unset, .unset]) rfl k) ?_
    show ORun p e below s _ _ _ T27 (mkF m 27 #[.val (.int p1), .val (.int p2), .val (.int p3), .val (.int (1 : Int32)), .val (.ref j4), .unset, .unset, .unset, .unset, .unset, .unset, .unset] [])
    refine own_by (fun t k => XS.iconst X27.here hx rfl (hb hby at_27) k) ?_
    show ORun p e below s _ _ _ T27 (mkF m 28 #[.val (.int p1), .val (.int p2), .val (.int p3), .val (.int (1 : Int32)), .val (.ref j4), .unset, .unset, .unset, .unset, .unset, .unset, .unset] [(.int (2 : Int32))])
    refine own_newarray X27 hx hZ (aty := .char) (hw _ (List.mem_of_getElem? (i := 3) rfl)) e27 rfl (N := 2) (cap := 2) (by decide) (Nat.le_refl _) (by decide) (by decide) (by decide) (ad := "[C") (by decide) (hb hby at_28) ?_
    intro T28 h28 b28 L28 g28 X28 e28 E28 hL28 V28 Ex28
    have len28 : L28.length = 2 := by rw [hL28]; exact List.length_replicate
    have old_b28 : n0 ≤ b28 := Nat.le_trans Z0 (Nat.le_of_eq g28.symm)
    have sz_b28 : h0.size ≤ b28 := Nat.le_trans (Nat.le_refl h0.size) (Nat.le_of_eq g28.symm)
    have ne_j4_b28 : j4 ≠ b28 := Nat.ne_of_lt (Nat.lt_of_lt_of_le Ej4.lt (Nat.le_of_eq g28.symm))
    have ne_j5_b28 : j5 ≠ b28 := Nat.ne_of_lt (Nat.lt_of_lt_of_le Ej5.lt (Nat.le_of_eq g28.symm))
    obtain rfl : [(0 : Int32), (0 : Int32)] = L28 := hL28.symm
    show ORun p e below s _ _ _ T28 (mkF m 30 #[.val (.int p1), .val (.int p2), .val (.int p3), .val (.int (1 : Int32)), .val (.ref j4), .unset, .unset, .unset, .unset, .unset, .unset, .unset] [(.ref b28)])
    refine own_by (fun t k => XS.dup X28.here hx rfl (hb hby at_30) rfl rfl k) ?_
    show ORun p e below s _ _ _ T28 (mkF m 31 #[.val (.int p1), .val (.int p2), .val (.int p3), .val (.int (1 : Int32)), .val (.ref j4), .unset, .unset, .unset, .unset, .unset, .unset, .unset] [(.ref b28), (.ref b28)])
    refine own_by (fun t k => XS.iconst X28.here hx rfl (hb hby at_31) k) ?_
    show ORun p e below s _ _ _ T28 (mkF m 32 #[.val (.int p1), .val (.int p2), .val (.int p3), .val (.int (1 : Int32)), .val (.ref j4), .unset, .unset, .unset, .unset, .unset, .unset, .unset] [(.int (0 : Int32)), (.ref b28), (.ref b28)])
    refine own_by (fun t k => XS.iloadN X28.here hx rfl (hb hby at_32) rfl k) ?_
    show ORun p e below s _ _ _ T28 (mkF m 33 #[.val (.int p1), .val (.int p2), .val (.int p3), .val (.int (1 : Int32)), .val (.ref j4), .unset, .unset, .unset, .unset, .unset, .unset, .unset] [(.int p2), (.int (0 : Int32)), (.ref b28), (.ref b28)])
    refine own_by (fun t k => XS.sipush X28.here hx rfl (hb hby at_33) k) ?_
    show ORun p e below s _ _ _ T28 (mkF m 36 #[.val (.int p1), .val (.int p2), .val (.int p3), .val (.int (1 : Int32)), .val (.ref j4), .unset, .unset, .unset, .unset, .unset, .unset, .unset] [(.int (255 : Int32)), (.int p2), (.int (0 : Int32)), (.ref b28), (.ref b28)])
    refine own_by (fun t k => XS.iand X28.here hx rfl (hb hby at_36) rfl k) (own_letI (f := (fun z => (mkF m 37 #[.val (.int p1), .val (.int p2), .val (.int p3), .val (.int (1 : Int32)), .val (.ref j4), .unset, .unset, .unset, .unset, .unset, .unset, .unset] [(.int z), (.int (0 : Int32)), (.ref b28), (.ref b28)]))) (p2 &&& (255 : Int32)) fun v29 hv29 => ?_)
    show ORun p e below s _ _ _ T28 (mkF m 37 #[.val (.int p1), .val (.int p2), .val (.int p3), .val (.int (1 : Int32)), .val (.ref j4), .unset, .unset, .unset, .unset, .unset, .unset, .unset] [(.int v29), (.int (0 : Int32)), (.ref b28), (.ref b28)])
    have a29a : v29.toInt = p2.toInt % 256 := by rw [hv29]; exact c_mask p2 (255 : Int32) 8 (by decide) (by decide)
    have r29 := rng32 v29
    refine own_by (fun t k => XS.i2c X28.here hx rfl (hb hby at_37) rfl k) (own_letI (f := (fun z => (mkF m 38 #[.val (.int p1), .val (.int p2), .val (.int p3), .val (.int (1 : Int32)), .val (.ref j4), .unset, .unset, .unset, .unset, .unset, .unset, .unset] [(.int z), (.int (0 : Int32)), (.ref b28), (.ref b28)]))) (v29.toUInt32.toUInt16.toUInt32.toInt32) fun v30 hv30 => ?_)
    show ORun p e below s _ _ _ T28 (mkF m 38 #[.val (.int p1), .val (.int p2), .val (.int p3), .val (.int (1 : Int32)), .val (.ref j4), .unset, .unset, .unset, .unset, .unset, .unset, .unset] [(.int v30), (.int (0 : Int32)), (.ref b28), (.ref b28)])
    have a30a : (v30.toInt - v29.toInt) % 65536 = 0 ∧ 0 ≤ v30.toInt ∧ v30.toInt < 65536 := by rw [hv30]; exact c_i2c v29
    have r30 := rng32 v30
    refine own_castore X28 hx hZ e28 V28 (i := 0) (by decide) (by omega) (hb hby at_38) ?_
    intro T31 h31 L31 X31 e31 W31 hL31 V31
    have len31 : L31.length = 2 := by rw [hL31, List.length_set]; exact len28
    have N31 := Fr.snoc X31 N0 old_b28
    obtain rfl : [(nar .char v30), (0 : Int32)] = L31 := hL31.symm
    show ORun p e below s _ _ _ T31 (mkF m 39 #[.val (.int p1), .val (.int p2), .val (.int p3), .val (.int (1 : Int32)), .val (.ref j4), .unset, .unset, .unset, .unset, .unset, .unset, .unset] [(.ref b28)])
    refine own_by (fun t k => XS.dup X31.here hx rfl (hb hby at_39) rfl rfl k) ?_
    show ORun p e below s _ _ _ T31 (mkF m 40 #[.val (.int p1), .val (.int p2), .val (.int p3), .val (.int (1 : Int32)), .val (.ref j4), .unset, .unset, .unset, .unset, .unset, .unset, .unset] [(.ref b28), (.ref b28)])
    refine own_by (fun t k => XS.iconst X31.here hx rfl (hb hby at_40) k) ?_
    show ORun p e below s _ _ _ T31 (mkF m 41 #[.val (.int p1), .val (.int p2), .val (.int p3), .val (.int (1 : Int32)), .val (.ref j4), .unset, .unset, .unset, .unset, .unset, .unset, .unset] [(.int (1 : Int32)), (.ref b28), (.ref b28)])
    refine own_by (fun t k => XS.iloadN X31.here hx rfl (hb hby at_41) rfl k) ?_
    show ORun p e below s _ _ _ T31 (mkF m 42 #[.val (.int p1), .val (.int p2), .val (.int p3), .val (.int (1 : Int32)), .val (.ref j4), .unset, .unset, .unset, .unset, .unset, .unset, .unset] [(.int p2), (.int (1 : Int32)), (.ref b28), (.ref b28)])
    refine own_by (fun t k => XS.bipush X31.here hx rfl (hb hby at_42) k) ?_
    show ORun p e below s _ _ _ T31 (mkF m 44 #[.val (.int p1), .val (.int p2), .val (.int p3), .val (.int (1 : Int32)), .val (.ref j4), .unset, .unset, .unset, .unset, .unset, .unset, .unset] [(.int (8 : Int32)), (.int p2), (.int (1 : Int32)), (.ref b28), (.ref b28)])
    refine own_by (fun t k => XS.iushr X31.here hx rfl (hb hby at_44) rfl k) (own_letI (f := (fun z => (mkF m 45 #[.val (.int p1), .val (.int p2), .val (.int p3), .val (.int (1 : Int32)), .val (.ref j4), .unset, .unset, .unset, .unset, .unset, .unset, .unset] [(.int z), (.int (1 : Int32)), (.ref b28), (.ref b28)]))) ((p2.toUInt32 >>> ((8 : Int32) &&& 31).toUInt32).toInt32) fun v32 hv32 => ?_)
    show ORun p e below s _ _ _ T31 (mkF m 45 #[.val (.int p1), .val (.int p2), .val (.int p3), .val (.int (1 : Int32)), .val (.ref j4), .unset, .unset, .unset, .unset, .unset, .unset, .unset] [(.int v32), (.int (1 : Int32)), (.ref b28), (.ref b28)])
    have a32a : v32.toInt = (p2.toInt % 4294967296) / 256 := by rw [hv32]; exact c_iushr p2 (8 : Int32) 8 (by decide) (by decide)
    have r32 := rng32 v32
    refine own_by (fun t k => XS.sipush X31.here hx rfl (hb hby at_45) k) ?_
    show ORun p e below s _ _ _ T31 (mkF m 48 #[.val (.int p1), .val (.int p2), .val (.int p3), .val (.int (1 : Int32)), .val (.ref j4), .unset, .unset, .unset, .unset, .unset, .unset, .unset] [(.int (255 : Int32)), (.int v32), (.int (1 : Int32)), (.ref b28), (.ref b28)])
    refine own_by (fun t k => XS.iand X31.here hx rfl (hb hby at_48) rfl k) (own_letI (f := (fun z => (mkF m 49 #[.val (.int p1), .val (.int p2), .val (.int p3), .val (.int (1 : Int32)), .val (.ref j4), .unset, .unset, .unset, .unset, .unset, .unset, .unset] [(.int z), (.int (1 : Int32)), (.ref b28), (.ref b28)]))) (v32 &&& (255 : Int32)) fun v33 hv33 => ?_)
    show ORun p e below s _ _ _ T31 (mkF m 49 #[.val (.int p1), .val (.int p2), .val (.int p3), .val (.int (1 : Int32)), .val (.ref j4), .unset, .unset, .unset, .unset, .unset, .unset, .unset] [(.int v33), (.int (1 : Int32)), (.ref b28), (.ref b28)])
    have a33a : v33.toInt = v32.toInt % 256 := by rw [hv33]; exact c_mask v32 (255 : Int32) 8 (by decide) (by decide)
    have r33 := rng32 v33
    refine own_by (fun t k => XS.i2c X31.here hx rfl (hb hby at_49) rfl k) (own_letI (f := (fun z => (mkF m 50 #[.val (.int p1), .val (.int p2), .val (.int p3), .val (.int (1 : Int32)), .val (.ref j4), .unset, .unset, .unset, .unset, .unset, .unset, .unset] [(.int z), (.int (1 : Int32)), (.ref b28), (.ref b28)]))) (v33.toUInt32.toUInt16.toUInt32.toInt32) fun v34 hv34 => ?_)
    show ORun p e below s _ _ _ T31 (mkF m 50 #[.val (.int p1), .val (.int p2), .val (.int p3), .val (.int (1 : Int32)), .val (.ref j4), .unset, .unset, .unset, .unset, .unset, .unset, .unset] [(.int v34), (.int (1 : Int32)), (.ref b28), (.ref b28)])
    have a34a : (v34.toInt - v33.toInt) % 65536 = 0 ∧ 0 ≤ v34.toInt ∧ v34.toInt < 65536 := by rw [hv34]; exact c_i2c v33
    have r34 := rng32 v34
    refine own_castore X31 hx hZ e31 V31 (i := 1) (by decide) (by omega) (hb hby at_50) ?_
    intro T35 h35 L35 X35 e35 W35 hL35 V35
    have len35 : L35.length = 2 := by rw [hL35, List.length_set]; exact len31
    have N35 := Fr.snoc X35 N31 old_b28
    obtain rfl : [(nar .char v30), (nar .char v34)] = L35 := hL35.symm
    show ORun p e below s _ _ _ T35 (mkF m 51 #[.val (.int p1), .val (.int p2), .val (.int p3), .val (.int (1 : Int32)), .val (.ref j4), .unset, .unset, .unset, .unset, .unset, .unset, .unset] [(.ref b28)])
    refine own_by (fun t k => XS.astore X35.here hx rfl (hb hby at_51) rfl rfl (l' := #[.val (.int p1), .val (.int p2), .val (.int p3), .val (.int (1 : Int32)), .val (.ref j4), .val (.ref b28), .unset, .unset, .unset, .unset, .unset, .unset]) rfl k) ?_
    show ORun p e below s _ _ _ T35 (mkF m 53 #[.val (.int p1), .val (.int p2), .val (.int p3), .val (.int (1 : Int32)), .val (.ref j4), .val (.ref b28), .unset, .unset, .unset, .unset, .unset, .unset] [])
    refine own_by (fun t k => XS.iconst X35.here hx rfl (hb hby at_53) k) ?_
    show ORun p e below s _ _ _ T35 (mkF m 54 #[.val (.int p1), .val (.int p2), .val (.int p3), .val (.int (1 : Int32)), .val (.ref j4), .val (.ref b28), .unset, .unset, .unset, .unset, .unset, .unset] [(.int (2 : Int32))])
    refine own_newarray X35 hx hZ (aty := .char) (hw _ (List.mem_of_getElem? (i := 3) rfl)) e35 rfl (N := 2) (cap := 2) (by decide) (Nat.le_refl _) (by decide) (by decide) (by decide) (ad := "[C") (by decide) (hb hby at_54) ?_
    intro T36 h36 b36 L36 g36 X36 e36 E36 hL36 V36 Ex36
    have len36 : L36.length = 2 := by rw [hL36]; exact List.length_replicate
    have old_b36 : n0 ≤ b36 := Nat.le_trans (Nat.le_trans (Nat.le_trans (Nat.le_trans Z0 E28.1) (Keep.of_wr W31).1) (Keep.of_wr W35).1) (Nat.le_of_eq g36.symm)
    have sz_b36 : h0.size ≤ b36 := Nat.le_trans (Nat.le_trans (Nat.le_trans (Nat.le_trans (Nat.le_refl h0.size) E28.1) (Keep.of_wr W31).1) (Keep.of_wr W35).1) (Nat.le_of_eq g36.symm)
    have ne_j4_b36 : j4 ≠ b36 := Nat.ne_of_lt (Nat.lt_of_lt_of_le (((Ej4.ext E28).wr W31).wr W35).lt (Nat.le_of_eq g36.symm))
    have ne_j5_b36 : j5 ≠ b36 := Nat.ne_of_lt (Nat.lt_of_lt_of_le (((Ej5.ext E28).wr W31).wr W35).lt (Nat.le_of_eq g36.symm))
    have ne_b28_b36 : b28 ≠ b36 := Nat.ne_of_lt (Nat.lt_of_lt_of_le V35.lt (Nat.le_of_eq g36.symm))
    obtain rfl : [(0 : Int32), (0 : Int32)] = L36 := hL36.symm
    show ORun p e below s _ _ _ T36 (mkF m 56 #[.val (.int p1), .val (.int p2), .val (.int p3), .val (.int (1 : Int32)), .val (.ref j4), .val (.ref b28), .unset, .unset, .unset, .unset, .unset, .unset] [(.ref b36)])
    refine own_by (fun t k => XS.dup X36.here hx rfl (hb hby at_56) rfl rfl k) ?_
    show ORun p e below s _ _ _ T36 (mkF m 57 #[.val (.int p1), .val (.int p2), .val (.int p3), .val (.int (1 : Int32)), .val (.ref j4), .val (.ref b28), .unset, .unset, .unset, .unset, .unset, .unset] [(.ref b36), (.ref b36)])
    refine own_by (fun t k => XS.iconst X36.here hx rfl (hb hby at_57) k) ?_
    show ORun p e below s _ _ _ T36 (mkF m 58 #[.val (.int p1), .val (.int p2), .val (.int p3), .val (.int (1 : Int32)), .val (.ref j4), .val (.ref b28), .unset, .unset, .unset, .unset, .unset, .unset] [(.int (0 : Int32)), (.ref b36), (.ref b36)])
    refine own_by (fun t k => XS.iloadN X36.here hx rfl (hb hby at_58) rfl k) ?_
    show ORun p e below s _ _ _ T36 (mkF m 59 #[.val (.int p1), .val (.int p2), .val (.int p3), .val (.int (1 : Int32)), .val (.ref j4), .val (.ref b28), .unset, .unset, .unset, .unset, .unset, .unset] [(.int p3), (.int (0 : Int32)), (.ref b36), (.ref b36)])
    refine own_by (fun t k => XS.sipush X36.here hx rfl (hb hby at_59) k) ?_
    show ORun p e below s _ _ _ T36 (mkF m 62 #[.val (.int p1), .val (.int p2), .val (.int p3), .val (.int (1 : Int32)), .val (.ref j4), .val (.ref b28), .unset, .unset, .unset, .unset, .unset, .unset] [(.int (255 : Int32)), (.int p3), (.int (0 : Int32)), (.ref b36), (.ref b36)])
    refine own_by (fun t k => XS.iand X36.here hx rfl (hb hby at_62) rfl k) (own_letI (f := (fun z => (mkF m 63 #[.val (.int p1), .val (.int p2), .val (.int p3), .val (.int (1 : Int32)), .val (.ref j4), .val (.ref b28), .unset, .unset, .unset, .unset, .unset, .unset] [(.int z), (.int (0 : Int32)), (.ref b36), (.ref b36)]))) (p3 &&& (255 : Int32)) fun v37 hv37 => ?_)
    show ORun p e below s _ _ _ T36 (mkF m 63 #[.val (.int p1), .val (.int p2), .val (.int p3), .val (.int (1 : Int32)), .val (.ref j4), .val (.ref b28), .unset, .unset, .unset, .unset, .unset, .unset] [(.int v37), (.int (0 : Int32)), (.ref b36), (.ref b36)])
    have a37a : v37.toInt = p3.toInt % 256 := by rw [hv37]; exact c_mask p3 (255 : Int32) 8 (by decide) (by decide)
    have r37 := rng32 v37
    refine own_by (fun t k => XS.i2c X36.here hx rfl (hb hby at_63) rfl k) (own_letI (f := (fun z => (mkF m 64 #[.val (.int p1), .val (.int p2), .val (.int p3), .val (.int (1 : Int32)), .val (.ref j4), .val (.ref b28), .unset, .unset, .unset, .unset, .unset, .unset] [(.int z), (.int (0 : Int32)), (.ref b36), (.ref b36)]))) (v37.toUInt32.toUInt16.toUInt32.toInt32) fun v38 hv38 => ?_)
    show ORun p e below s _ _ _ T36 (mkF m 64 #[.val (.int p1), .val (.int p2), .val (.int p3), .val (.int (1 : Int32)), .val (.ref j4), .val (.ref b28), .unset, .unset, .unset, .unset, .unset, .unset] [(.int v38), (.int (0 : Int32)), (.ref b36), (.ref b36)])
    have a38a : (v38.toInt - v37.toInt) % 65536 = 0 ∧ 0 ≤ v38.toInt ∧ v38.toInt < 65536 := by rw [hv38]; exact c_i2c v37
    have r38 := rng32 v38
    refine own_castore X36 hx hZ e36 V36 (i := 0) (by decide) (by omega) (hb hby at_64) ?_
    intro T39 h39 L39 X39 e39 W39 hL39 V39
    have len39 : L39.length = 2 := by rw [hL39, List.length_set]; exact len36
    have N39 := Fr.snoc X39 N35 old_b36
    obtain rfl : [(nar .char v38), (0 : Int32)] = L39 := hL39.symm
    show ORun p e below s _ _ _ T39 (mkF m 65 #[.val (.int p1), .val (.int p2), .val (.int p3), .val (.int (1 : Int32)), .val (.ref j4), .val (.ref b28), .unset, .unset, .unset, .unset, .unset, .unset] [(.ref b36)])
    refine own_by (fun t k => XS.dup X39.here hx rfl (hb hby at_65) rfl rfl k) ?_
    show ORun p e below s _ _ _ T39 (mkF m 66 #[.val (.int p1), .val (.int p2), .val (.int p3), .val (.int (1 : Int32)), .val (.ref j4), .val (.ref b28), .unset, .unset, .unset, .unset, .unset, .unset] [(.ref b36), (.ref b36)])
    refine own_by (fun t k => XS.iconst X39.here hx rfl (hb hby at_66) k) ?_
    show ORun p e below s _ _ _ T39 (mkF m 67 #[.val (.int p1), .val (.int p2), .val (.int p3), .val (.int (1 : Int32)), .val (.ref j4), .val (.ref b28), .unset, .unset, .unset, .unset, .unset, .unset] [(.int (1 : Int32)), (.ref b36), (.ref b36)])
    refine own_by (fun t k => XS.iloadN X39.here hx rfl (hb hby at_67) rfl k) ?_
    show ORun p e below s _ _ _ T39 (mkF m 68 #[.val (.int p1), .val (.int p2), .val (.int p3), .val (.int (1 : Int32)), .val (.ref j4), .val (.ref b28), .unset, .unset, .unset, .unset, .unset, .unset] [(.int p3), (.int (1 : Int32)), (.ref b36), (.ref b36)])
    refine own_by (fun t k => XS.bipush X39.here hx rfl (hb hby at_68) k) ?_
    show ORun p e below s _ _ _ T39 (mkF m 70 #[.val (.int p1), .val (.int p2), .val (.int p3), .val (.int (1 : Int32)), .val (.ref j4), .val (.ref b28), .unset, .unset, .unset, .unset, .unset, .unset] [(.int (8 : Int32)), (.int p3), (.int (1 : Int32)), (.ref b36), (.ref b36)])
    refine own_by (fun t k => XS.iushr X39.here hx rfl (hb hby at_70) rfl k) (own_letI (f := (fun z => (mkF m 71 #[.val (.int p1), .val (.int p2), .val (.int p3), .val (.int (1 : Int32)), .val (.ref j4), .val (.ref b28), .unset, .unset, .unset, .unset, .unset, .unset] [(.int z), (.int (1 : Int32)), (.ref b36), (.ref b36)]))) ((p3.toUInt32 >>> ((8 : Int32) &&& 31).toUInt32).toInt32) fun v40 hv40 => ?_)
    show ORun p e below s _ _ _ T39 (mkF m 71 #[.val (.int p1), .val (.int p2), .val (.int p3), .val (.int (1 : Int32)), .val (.ref j4), .val (.ref b28), .unset, .unset, .unset, .unset, .unset, .unset] [(.int v40), (.int (1 : Int32)), (.ref b36), (.ref b36)])
    have a40a : v40.toInt = (p3.toInt % 4294967296) / 256 := by rw [hv40]; exact c_iushr p3 (8 : Int32) 8 (by decide) (by decide)
    have r40 := rng32 v40
    refine own_by (fun t k => XS.sipush X39.here hx rfl (hb hby at_71) k) ?_
    show ORun p e below s _ _ _ T39 (mkF m 74 #[.val (.int p1), .val (.int p2), .val (.int p3), .val (.int (1 : Int32)), .val (.ref j4), .val (.ref b28), .unset, .unset, .unset, .unset, .unset, .unset] [(.int (255 : Int32)), (.int v40), (.int (1 : Int32)), (.ref b36), (.ref b36)])
    refine own_by (fun t k => XS.iand X39.here hx rfl (hb hby at_74) rfl k) (own_letI (f := (fun z => (mkF m 75 #[.val (.int p1), .val (.int p2), .val (.int p3), .val (.int (1 : Int32)), .val (.ref j4), .val (.ref b28), .unset, .unset, .unset, .unset, .unset, .unset] [(.int z), (.int (1 : Int32)), (.ref b36), (.ref b36)]))) (v40 &&& (255 : Int32)) fun v41 hv41 => ?_)
    show ORun p e below s _ _ _ T39 (mkF m 75 #[.val (.int p1), .val (.int p2), .val (.int p3), .val (.int (1 : Int32)), .val (.ref j4), .val (.ref b28), .unset, .unset, .unset, .unset, .unset, .unset] [(.int v41), (.int (1 : Int32)), (.ref b36), (.ref b36)])
    have a41a : v41.toInt = v40.toInt % 256 := by rw [hv41]; exact c_mask v40 (255 : Int32) 8 (by decide) (by decide)
    have r41 := rng32 v41
    refine own_by (fun t k => XS.i2c X39.here hx rfl (hb hby at_75) rfl k) (own_letI (f := (fun z => (mkF m 76 #[.val (.int p1), .val (.int p2), .val (.int p3), .val (.int (1 : Int32)), .val (.ref j4), .val (.ref b28), .unset, .unset, .unset, .unset, .unset, .unset] [(.int z), (.int (1 : Int32)), (.ref b36), (.ref b36)]))) (v41.toUInt32.toUInt16.toUInt32.toInt32) fun v42 hv42 => ?_)
    show ORun p e below s _ _ _ T39 (mkF m 76 #[.val (.int p1), .val (.int p2), .val (.int p3), .val (.int (1 : Int32)), .val (.ref j4), .val (.ref b28), .unset, .unset, .unset, .unset, .unset, .unset] [(.int v42), (.int (1 : Int32)), (.ref b36), (.ref b36)])
    have a42a : (v42.toInt - v41.toInt) % 65536 = 0 ∧ 0 ≤ v42.toInt ∧ v42.toInt < 65536 := by rw [hv42]; exact c_i2c v41
    have r42 := rng32 v42
    refine own_castore X39 hx hZ e39 V39 (i := 1) (by decide) (by omega) (hb hby at_76) ?_
    intro T43 h43 L43 X43 e43 W43 hL43 V43
    have len43 : L43.length = 2 := by rw [hL43, List.length_set]; exact len39
    have N43 := Fr.snoc X43 N39 old_b36
    obtain rfl : [(nar .char v38), (nar .char v42)] = L43 := hL43.symm
    show ORun p e below s _ _ _ T43 (mkF m 77 #[.val (.int p1), .val (.int p2), .val (.int p3), .val (.int (1 : Int32)), .val (.ref j4), .val (.ref b28), .unset, .unset, .unset, .unset, .unset, .unset] [(.ref b36)])
    refine own_by (fun t k => XS.astore X43.here hx rfl (hb hby at_77) rfl rfl (l' := #[.val (.int p1), .val (.int p2), .val (.int p3), .val (.int (1 : Int32)), .val (.ref j4), .val (.ref b28), .val (.ref b36), .unset, .unset, .unset, .unset, .unset]) rfl k) ?_
    show ORun p e below s _ _ _ T43 (mkF m 79 #[.val (.int p1), .val (.int p2), .val (.int p3), .val (.int (1 : Int32)), .val (.ref j4), .val (.ref b28), .val (.ref b36), .unset, .unset, .unset, .unset, .unset] [])
    obtain ⟨T44, h44, X44, e44, E44, A44, D44, -, st44⟩ := newO X43 hx hZ hown (hw _ (List.mem_of_getElem? (i := 4) rfl)) (hw _ (List.mem_of_getElem? (i := 5) rfl)) (hw _ (List.mem_of_getElem? (i := 6) rfl)) e43 (g := (mkF m 79 #[.val (.int p1), .val (.int p2), .val (.int p3), .val (.int (1 : Int32)), .val (.ref j4), .val (.ref b28), .val (.ref b36), .unset, .unset, .unset, .unset, .unset] [])) rfl (hb hby at_79) (by decide) (by decide)
    obtain ⟨b44, g44⟩ : ∃ z, z = h43.size := ⟨_, rfl⟩
    rw [← g44] at A44 D44 st44
    have old_b44 : n0 ≤ b44 := Nat.le_trans (Nat.le_trans (Nat.le_trans (Nat.le_trans (Nat.le_trans (Nat.le_trans (Nat.le_trans Z0 E28.1) (Keep.of_wr W31).1) (Keep.of_wr W35).1) E36.1) (Keep.of_wr W39).1) (Keep.of_wr W43).1) (Nat.le_of_eq g44.symm)
    have sz_b44 : h0.size ≤ b44 := Nat.le_trans (Nat.le_trans (Nat.le_trans (Nat.le_trans (Nat.le_trans (Nat.le_trans (Nat.le_trans (Nat.le_refl h0.size) E28.1) (Keep.of_wr W31).1) (Keep.of_wr W35).1) E36.1) (Keep.of_wr W39).1) (Keep.of_wr W43).1) (Nat.le_of_eq g44.symm)
    have ne_j4_b44 : j4 ≠ b44 := Nat.ne_of_lt (Nat.lt_of_lt_of_le ((((((Ej4.ext E28).wr W31).wr W35).ext E36).wr W39).wr W43).lt (Nat.le_of_eq g44.symm))
    have ne_j5_b44 : j5 ≠ b44 := Nat.ne_of_lt (Nat.lt_of_lt_of_le ((((((Ej5.ext E28).wr W31).wr W35).ext E36).wr W39).wr W43).lt (Nat.le_of_eq g44.symm))
    have ne_b28_b44 : b28 ≠ b44 := Nat.ne_of_lt (Nat.lt_of_lt_of_le (((V35.ext E36).other W39 ne_b28_b36).other W43 ne_b28_b36).lt (Nat.le_of_eq g44.symm))
    have ne_b36_b44 : b36 ≠ b44 := Nat.ne_of_lt (Nat.lt_of_lt_of_le V43.lt (Nat.le_of_eq g44.symm))
    have F44_30 : Fld Z h44 b44 "java/lang/String" "coder" "B" (.int (0 : Int32)) := D44 (Or.inr (hw _ (List.mem_of_getElem? (i := 30) rfl))) (ty := .byte) (by decide)
    have F44_32 : Fld Z h44 b44 "java/lang/String" "value" "[B" .null := D44 (Or.inr (hw _ (List.mem_of_getElem? (i := 32) rfl))) (ty := (.array .byte)) (by decide)
    refine own_by st44 ?_
    show ORun p e below s _ _ _ T44 (mkF m 82 #[.val (.int p1), .val (.int p2), .val (.int p3), .val (.int (1 : Int32)), .val (.ref j4), .val (.ref b28), .val (.ref b36), .unset, .unset, .unset, .unset, .unset] [(.ref b44)])
    refine own_by (fun t k => XS.dup X44.here hx rfl (hb hby at_82) rfl rfl k) ?_
    show ORun p e below s _ _ _ T44 (mkF m 83 #[.val (.int p1), .val (.int p2), .val (.int p3), .val (.int (1 : Int32)), .val (.ref j4), .val (.ref b28), .val (.ref b36), .unset, .unset, .unset, .unset, .unset] [(.ref b44), (.ref b44)])
    refine own_by (fun t k => XS.aload X44.here hx rfl (hb hby at_83) rfl rfl k) ?_
    show ORun p e below s _ _ _ T44 (mkF m 85 #[.val (.int p1), .val (.int p2), .val (.int p3), .val (.int (1 : Int32)), .val (.ref j4), .val (.ref b28), .val (.ref b36), .unset, .unset, .unset, .unset, .unset] [(.ref b28), (.ref b44), (.ref b44)])
    obtain ⟨kc45, Ar45⟩ := OVec.arvC ((((V35.ext E36).other W39 ne_b28_b36).other W43 ne_b28_b36).ext E44) (fun x hx => by simp only [List.mem_cons, List.not_mem_nil, or_false] at hx; rcases hx with rfl | rfl <;> exact fits_nar_char _) (by show 2 < 2 ^ 31; decide)
    have lat45 : ∀ c ∈ ([(nar .char v30), (nar .char v34)] : List Int32), ¬ c < 0 ∧ ¬ (255 : Int32) < c := fun c hc => by
      simp only [List.mem_cons, List.not_mem_nil, or_false] at hc
      rcases hc with rfl | rfl <;> exact own_lat (by omega) (by omega)
    refine own_callCB X44 hx hZ hown rfl (hw _ (List.mem_of_getElem? (i := 7) rfl)) (hw _ (List.mem_of_getElem? (i := 8) rfl)) (hw _ (List.mem_of_getElem? (i := 9) rfl)) (by decide) (W := 1) (kc := 1) (ks := 2) (StrChars.Road.backV (W := 1) hZ hws (kI := 4) (hw _ (List.mem_of_getElem? (i := 5) rfl)) (cs := [(nar .char v30), (nar .char v34)]) (bs := _) (n := 2) old_b44 (Nat.le_trans (Nat.le_trans (Nat.le_trans (Nat.le_trans (Nat.le_trans (Nat.le_trans (Nat.le_trans Z0 E28.1) (Keep.of_wr W31).1) (Keep.of_wr W35).1) E36.1) (Keep.of_wr W39).1) (Keep.of_wr W43).1) E44.1) A44 F44_32 F44_30 Ar45 (((((((Sc.ext E28).wr W31).wr W35).ext E36).wr W39).wr W43).ext E44) hz rfl rfl (by decide) (by decide) lat45 rfl (by decide) (by decide)) e44 (by decide) (by decide) (b := b44) (argsL := [(.ref b28)]) (rest := [(.ref b44)]) (by rw [hml]; rfl) (lenOf pd_0 rfl) rfl rfl (Nat.le_of_eq rfl) (hb hby at_85) ?_
    intro T45 L45 u45 X45 hQ45
    obtain ⟨rfl, Nq45, K45, En45, Fc45, t45, kb45, gt45, sz45, nt45, Fv45, Ab45⟩ := hQ45
    have N45 := Fr.app N43 Nq45
    show ORun p e below s _ _ _ T45 (mkF m 88 #[.val (.int p1), .val (.int p2), .val (.int p3), .val (.int (1 : Int32)), .val (.ref j4), .val (.ref b28), .val (.ref b36), .unset, .unset, .unset, .unset, .unset] [(.ref b44)])
    refine own_by (fun t k => XS.astore X45.here hx rfl (hb hby at_88) rfl rfl (l' := #[.val (.int p1), .val (.int p2), .val (.int p3), .val (.int (1 : Int32)), .val (.ref j4), .val (.ref b28), .val (.ref b36), .val (.ref b44), .unset, .unset, .unset, .unset]) rfl k) ?_
    show ORun p e below s _ _ _ T45 (mkF m 90 #[.val (.int p1), .val (.int p2), .val (.int p3), .val (.int (1 : Int32)), .val (.ref j4), .val (.ref b28), .val (.ref b36), .val (.ref b44), .unset, .unset, .unset, .unset] [])
    obtain ⟨T46, h46, X46, e46, E46, A46, D46, -, st46⟩ := newO X45 hx hZ hown (hw _ (List.mem_of_getElem? (i := 4) rfl)) (hw _ (List.mem_of_getElem? (i := 5) rfl)) (hw _ (List.mem_of_getElem? (i := 6) rfl)) rfl (g := (mkF m 90 #[.val (.int p1), .val (.int p2), .val (.int p3), .val (.int (1 : Int32)), .val (.ref j4), .val (.ref b28), .val (.ref b36), .val (.ref b44), .unset, .unset, .unset, .unset] [])) rfl (hb hby at_90) (by decide) (by decide)
    obtain ⟨b46, g46⟩ : ∃ z, z = T45.heap.size := ⟨_, rfl⟩
    rw [← g46] at A46 D46 st46
    have old_b46 : n0 ≤ b46 := Nat.le_trans (Nat.le_trans (Nat.le_trans (Nat.le_trans (Nat.le_trans (Nat.le_trans (Nat.le_trans (Nat.le_trans (Nat.le_trans Z0 E28.1) (Keep.of_wr W31).1) (Keep.of_wr W35).1) E36.1) (Keep.of_wr W39).1) (Keep.of_wr W43).1) E44.1) K45.1) (Nat.le_of_eq g46.symm)
    have sz_b46 : h0.size ≤ b46 := Nat.le_trans (Nat.le_trans (Nat.le_trans (Nat.le_trans (Nat.le_trans (Nat.le_trans (Nat.le_trans (Nat.le_trans (Nat.le_trans (Nat.le_refl h0.size) E28.1) (Keep.of_wr W31).1) (Keep.of_wr W35).1) E36.1) (Keep.of_wr W39).1) (Keep.of_wr W43).1) E44.1) K45.1) (Nat.le_of_eq g46.symm)
    have ne_j4_b46 : j4 ≠ b46 := Nat.ne_of_lt (Nat.lt_of_lt_of_le ((((((((Ej4.ext E28).wr W31).wr W35).ext E36).wr W39).wr W43).ext E44).keep K45).lt (Nat.le_of_eq g46.symm))
    have ne_j5_b46 : j5 ≠ b46 := Nat.ne_of_lt (Nat.lt_of_lt_of_le ((((((((Ej5.ext E28).wr W31).wr W35).ext E36).wr W39).wr W43).ext E44).keep K45).lt (Nat.le_of_eq g46.symm))
    have ne_b28_b46 : b28 ≠ b46 := Nat.ne_of_lt (Nat.lt_of_lt_of_le (((((V35.ext E36).other W39 ne_b28_b36).other W43 ne_b28_b36).ext E44).keep K45 (ninS ne_b28_b44 nin0)).lt (Nat.le_of_eq g46.symm))
    have ne_b36_b46 : b36 ≠ b46 := Nat.ne_of_lt (Nat.lt_of_lt_of_le ((V43.ext E44).keep K45 (ninS ne_b36_b44 nin0)).lt (Nat.le_of_eq g46.symm))
    have ne_b44_b46 : b44 ≠ b46 := Nat.ne_of_lt (Nat.lt_of_lt_of_le En45.lt (Nat.le_of_eq g46.symm))
    have F46_30 : Fld Z h46 b46 "java/lang/String" "coder" "B" (.int (0 : Int32)) := D46 (Or.inr (hw _ (List.mem_of_getElem? (i := 30) rfl))) (ty := .byte) (by decide)
    have F46_32 : Fld Z h46 b46 "java/lang/String" "value" "[B" .null := D46 (Or.inr (hw _ (List.mem_of_getElem? (i := 32) rfl))) (ty := (.array .byte)) (by decide)
    refine own_by st46 ?_
    show ORun p e below s _ _ _ T46 (mkF m 93 #[.val (.int p1), .val (.int p2), .val (.int p3), .val (.int (1 : Int32)), .val (.ref j4), .val (.ref b28), .val (.ref b36), .val (.ref b44), .unset, .unset, .unset, .unset] [(.ref b46)])
    refine own_by (fun t k => XS.dup X46.here hx rfl (hb hby at_93) rfl rfl k) ?_
    show ORun p e below s _ _ _ T46 (mkF m 94 #[.val (.int p1), .val (.int p2), .val (.int p3), .val (.int (1 : Int32)), .val (.ref j4), .val (.ref b28), .val (.ref b36), .val (.ref b44), .unset, .unset, .unset, .unset] [(.ref b46), (.ref b46)])
    refine own_by (fun t k => XS.aload X46.here hx rfl (hb hby at_94) rfl rfl k) ?_
    show ORun p e below s _ _ _ T46 (mkF m 96 #[.val (.int p1), .val (.int p2), .val (.int p3), .val (.int (1 : Int32)), .val (.ref j4), .val (.ref b28), .val (.ref b36), .val (.ref b44), .unset, .unset, .unset, .unset] [(.ref b36), (.ref b46), (.ref b46)])
    obtain ⟨kc47, Ar47⟩ := OVec.arvC (((V43.ext E44).keep K45 (ninS ne_b36_b44 nin0)).ext E46) (fun x hx => by simp only [List.mem_cons, List.not_mem_nil, or_false] at hx; rcases hx with rfl | rfl <;> exact fits_nar_char _) (by show 2 < 2 ^ 31; decide)
    have lat47 : ∀ c ∈ ([(nar .char v38), (nar .char v42)] : List Int32), ¬ c < 0 ∧ ¬ (255 : Int32) < c := fun c hc => by
      simp only [List.mem_cons, List.not_mem_nil, or_false] at hc
      rcases hc with rfl | rfl <;> exact own_lat (by omega) (by omega)
    refine own_callCB X46 hx hZ hown rfl (hw _ (List.mem_of_getElem? (i := 7) rfl)) (hw _ (List.mem_of_getElem? (i := 8) rfl)) (hw _ (List.mem_of_getElem? (i := 9) rfl)) (by decide) (W := 1) (kc := 1) (ks := 2) (StrChars.Road.backV (W := 1) hZ hws (kI := 4) (hw _ (List.mem_of_getElem? (i := 5) rfl)) (cs := [(nar .char v38), (nar .char v42)]) (bs := _) (n := 2) old_b46 (Nat.le_trans (Nat.le_trans (Nat.le_trans (Nat.le_trans (Nat.le_trans (Nat.le_trans (Nat.le_trans (Nat.le_trans (Nat.le_trans Z0 E28.1) (Keep.of_wr W31).1) (Keep.of_wr W35).1) E36.1) (Keep.of_wr W39).1) (Keep.of_wr W43).1) E44.1) K45.1) E46.1) A46 F46_32 F46_30 Ar47 (Sc.ext (own_kext ((((((((((Keep.refl h0 []).ext E28).wr W31 (Or.inr sz_b28)).wr W35 (Or.inr sz_b28)).ext E36).wr W39 (Or.inr sz_b36)).wr W43 (Or.inr sz_b36)).ext E44).trans K45 (allS (Or.inr sz_b44) all0)).ext E46))) hz rfl rfl (by decide) (by decide) lat47 rfl (by decide) (by decide)) e46 (by decide) (by decide) (b := b46) (argsL := [(.ref b36)]) (rest := [(.ref b46)]) (by rw [hml]; rfl) (lenOf pd_0 rfl) rfl rfl (Nat.le_of_eq rfl) (hb hby at_96) ?_
    intro T47 L47 u47 X47 hQ47
    obtain ⟨rfl, Nq47, K47, En47, Fc47, t47, kb47, gt47, sz47, nt47, Fv47, Ab47⟩ := hQ47
    have N47 := Fr.app N45 Nq47
    show ORun p e below s _ _ _ T47 (mkF m 99 #[.val (.int p1), .val (.int p2), .val (.int p3), .val (.int (1 : Int32)), .val (.ref j4), .val (.ref b28), .val (.ref b36), .val (.ref b44), .unset, .unset, .unset, .unset] [(.ref b46)])
    refine own_by (fun t k => XS.astore X47.here hx rfl (hb hby at_99) rfl rfl (l' := #[.val (.int p1), .val (.int p2), .val (.int p3), .val (.int (1 : Int32)), .val (.ref j4), .val (.ref b28), .val (.ref b36), .val (.ref b44), .val (.ref b46), .unset, .unset, .unset]) rfl k) ?_
    show ORun p e below s _ _ _ T47 (mkF m 101 #[.val (.int p1), .val (.int p2), .val (.int p3), .val (.int (1 : Int32)), .val (.ref j4), .val (.ref b28), .val (.ref b36), .val (.ref b44), .val (.ref b46), .unset, .unset, .unset] [])
    refine own_by (fun t k => XS.aload X47.here hx rfl (hb hby at_101) rfl rfl k) ?_
    show ORun p e below s _ _ _ T47 (mkF m 103 #[.val (.int p1), .val (.int p2), .val (.int p3), .val (.int (1 : Int32)), .val (.ref j4), .val (.ref b28), .val (.ref b36), .val (.ref b44), .val (.ref b46), .unset, .unset, .unset] [(.ref j4)])
    refine own_by (fun t k => XS.aload X47.here hx rfl (hb hby at_103) rfl rfl k) ?_
    show ORun p e below s _ _ _ T47 (mkF m 105 #[.val (.int p1), .val (.int p2), .val (.int p3), .val (.int (1 : Int32)), .val (.ref j4), .val (.ref b28), .val (.ref b36), .val (.ref b44), .val (.ref b46), .unset, .unset, .unset] [(.ref b44), (.ref j4)])
    refine own_by (fun t k => XS.aload X47.here hx rfl (hb hby at_105) rfl rfl k) ?_
    show ORun p e below s _ _ _ T47 (mkF m 107 #[.val (.int p1), .val (.int p2), .val (.int p3), .val (.int (1 : Int32)), .val (.ref j4), .val (.ref b28), .val (.ref b36), .val (.ref b44), .val (.ref b46), .unset, .unset, .unset] [(.ref b46), (.ref b44), (.ref j4)])
    refine own_callV X47 hx hZ hown ((((((((((Ej4.ext E28).wr W31).wr W35).ext E36).wr W39).wr W43).ext E44).keep K45).ext E46).keep K47) (hw _ (List.mem_of_getElem? (i := 33) rfl)) (hw _ (List.mem_of_getElem? (i := 34) rfl)) (notFace_of_selects (args := #[]) (mvT hZ (hw _ (List.mem_of_getElem? (i := 36) rfl)))) (hw _ (List.mem_of_getElem? (i := 36) rfl)) (hw _ (List.mem_of_getElem? (i := 35) rfl)) (hw _ (List.mem_of_getElem? (i := 1) rfl)) (hw _ (List.mem_of_getElem? (i := 37) rfl)) (by decide) (rm7 l Z a0 hw [] T47.heap n0 (Nat.le_trans (Nat.le_trans (Nat.le_trans (Nat.le_trans (Nat.le_trans (Nat.le_trans (Nat.le_trans (Nat.le_trans (Nat.le_trans (Nat.le_trans Z0 E28.1) (Keep.of_wr W31).1) (Keep.of_wr W35).1) E36.1) (Keep.of_wr W39).1) (Keep.of_wr W43).1) E44.1) K45.1) E46.1) K47.1) j4 b44 b46 (1 : Int32) ((((((((((Fj4.ext E28).other W31 (Or.inl ne_j4_b28)).other W35 (Or.inl ne_j4_b28)).ext E36).other W39 (Or.inl ne_j4_b36)).other W43 (Or.inl ne_j4_b36)).ext E44).keep K45 (ninS ne_j4_b44 nin0)).ext E46).keep K47 (ninS ne_j4_b46 nin0)) ((En45.ext E46).keep K47) En47) rfl (by decide) (W := 0) (by decide) (by decide) (by decide) (argsL := [(.ref b44), (.ref b46)]) (rest := []) (by rw [hml]; rfl) (lenOf pd_1 rfl) rfl rfl (Nat.le_of_eq rfl) (hb hby at_107) ?_
    intro T48 L48 u48 X48 hQ48
    obtain ⟨o48, rfl, Nq48, K48, sz_o48, Vq48⟩ := hQ48
    have N48 := Fr.app N47 Nq48
    rw [if_neg (by decide)] at Vq48
    show ORun p e below s _ _ _ T48 (mkF m 110 #[.val (.int p1), .val (.int p2), .val (.int p3), .val (.int (1 : Int32)), .val (.ref j4), .val (.ref b28), .val (.ref b36), .val (.ref b44), .val (.ref b46), .unset, .unset, .unset] [(.ref o48)])
    refine own_by (fun t k => XS.astore X48.here hx rfl (hb hby at_110) rfl rfl (l' := #[.val (.int p1), .val (.int p2), .val (.int p3), .val (.int (1 : Int32)), .val (.ref j4), .val (.ref b28), .val (.ref b36), .val (.ref b44), .val (.ref b46), .val (.ref o48), .unset, .unset]) rfl k) ?_
    show ORun p e below s _ _ _ T48 (mkF m 112 #[.val (.int p1), .val (.int p2), .val (.int p3), .val (.int (1 : Int32)), .val (.ref j4), .val (.ref b28), .val (.ref b36), .val (.ref b44), .val (.ref b46), .val (.ref o48), .unset, .unset] [])
    refine own_by (fun t k => XS.aload X48.here hx rfl (hb hby at_112) rfl rfl k) ?_
    show ORun p e below s _ _ _ T48 (mkF m 114 #[.val (.int p1), .val (.int p2), .val (.int p3), .val (.int (1 : Int32)), .val (.ref j4), .val (.ref b28), .val (.ref b36), .val (.ref b44), .val (.ref b46), .val (.ref o48), .unset, .unset] [(.ref o48)])
    refine own_by (fun t k => XS.ifnullNo X48.here hx rfl (hb hby at_114) rfl k) ?_
    show ORun p e below s _ _ _ T48 (mkF m 117 #[.val (.int p1), .val (.int p2), .val (.int p3), .val (.int (1 : Int32)), .val (.ref j4), .val (.ref b28), .val (.ref b36), .val (.ref b44), .val (.ref b46), .val (.ref o48), .unset, .unset] [])
    refine own_by (fun t k => XS.aload X48.here hx rfl (hb hby at_117) rfl rfl k) ?_
    show ORun p e below s _ _ _ T48 (mkF m 119 #[.val (.int p1), .val (.int p2), .val (.int p3), .val (.int (1 : Int32)), .val (.ref j4), .val (.ref b28), .val (.ref b36), .val (.ref b44), .val (.ref b46), .val (.ref o48), .unset, .unset] [(.ref o48)])
    refine own_alen X48 hx hZ rfl Vq48 (n := 2) rfl (hb hby at_119) ?_
    show ORun p e below s _ _ _ T48 (mkF m 120 #[.val (.int p1), .val (.int p2), .val (.int p3), .val (.int (1 : Int32)), .val (.ref j4), .val (.ref b28), .val (.ref b36), .val (.ref b44), .val (.ref b46), .val (.ref o48), .unset, .unset] [(.int (2 : Int32))])
    refine own_by (fun t k => XS.iconst X48.here hx rfl (hb hby at_120) k) ?_
    show ORun p e below s _ _ _ T48 (mkF m 121 #[.val (.int p1), .val (.int p2), .val (.int p3), .val (.int (1 : Int32)), .val (.ref j4), .val (.ref b28), .val (.ref b36), .val (.ref b44), .val (.ref b46), .val (.ref o48), .unset, .unset] [(.int (2 : Int32)), (.int (2 : Int32))])
    refine own_by (fun t k => XS.icmpYes X48.here hx rfl (pc0 := 121) (pc' := 126) rfl (hb hby at_121) rfl (teq (by decide)).1 (by decide) (by decide) k) ?_
    show ORun p e below s _ _ _ T48 (mkF m 126 #[.val (.int p1), .val (.int p2), .val (.int p3), .val (.int (1 : Int32)), .val (.ref j4), .val (.ref b28), .val (.ref b36), .val (.ref b44), .val (.ref b46), .val (.ref o48), .unset, .unset] [])
    refine own_by (fun t k => XS.iloadN X48.here hx rfl (hb hby at_126) rfl k) ?_
    show ORun p e below s _ _ _ T48 (mkF m 127 #[.val (.int p1), .val (.int p2), .val (.int p3), .val (.int (1 : Int32)), .val (.ref j4), .val (.ref b28), .val (.ref b36), .val (.ref b44), .val (.ref b46), .val (.ref o48), .unset, .unset] [(.int (1 : Int32))])
    refine own_by (fun t k => XS.ifNo X48.here hx rfl (hb hby at_127) rfl ((if0 _ _).trans (feq (by decide)).1) k) ?_
    show ORun p e below s _ _ _ T48 (mkF m 130 #[.val (.int p1), .val (.int p2), .val (.int p3), .val (.int (1 : Int32)), .val (.ref j4), .val (.ref b28), .val (.ref b36), .val (.ref b44), .val (.ref b46), .val (.ref o48), .unset, .unset] [])
    refine own_by (fun t k => XS.aload X48.here hx rfl (hb hby at_130) rfl rfl k) ?_
    show ORun p e below s _ _ _ T48 (mkF m 132 #[.val (.int p1), .val (.int p2), .val (.int p3), .val (.int (1 : Int32)), .val (.ref j4), .val (.ref b28), .val (.ref b36), .val (.ref b44), .val (.ref b46), .val (.ref o48), .unset, .unset] [(.ref b46)])
    refine own_by (fun t k => XS.goto X48.here hx rfl (pc0 := 132) (pc' := 137) rfl (hb hby at_132) (by decide) (by decide) k) ?_
    show ORun p e below s _ _ _ T48 (mkF m 137 #[.val (.int p1), .val (.int p2), .val (.int p3), .val (.int (1 : Int32)), .val (.ref j4), .val (.ref b28), .val (.ref b36), .val (.ref b44), .val (.ref b46), .val (.ref o48), .unset, .unset] [(.ref b46)])
    refine own_by (fun t k => XS.astore X48.here hx rfl (hb hby at_137) rfl rfl (l' := #[.val (.int p1), .val (.int p2), .val (.int p3), .val (.int (1 : Int32)), .val (.ref j4), .val (.ref b28), .val (.ref b36), .val (.ref b44), .val (.ref b46), .val (.ref o48), .val (.ref b46), .unset]) rfl k) ?_
    show ORun p e below s _ _ _ T48 (mkF m 139 #[.val (.int p1), .val (.int p2), .val (.int p3), .val (.int (1 : Int32)), .val (.ref j4), .val (.ref b28), .val (.ref b36), .val (.ref b44), .val (.ref b46), .val (.ref o48), .val (.ref b46), .unset] [])
    refine own_by (fun t k => XS.iloadN X48.here hx rfl (hb hby at_139) rfl k) ?_
    show ORun p e below s _ _ _ T48 (mkF m 140 #[.val (.int p1), .val (.int p2), .val (.int p3), .val (.int (1 : Int32)), .val (.ref j4), .val (.ref b28), .val (.ref b36), .val (.ref b44), .val (.ref b46), .val (.ref o48), .val (.ref b46), .unset] [(.int (1 : Int32))])
    refine own_by (fun t k => XS.ifNo X48.here hx rfl (hb hby at_140) rfl ((if0 _ _).trans (feq (by decide)).1) k) ?_
    show ORun p e below s _ _ _ T48 (mkF m 143 #[.val (.int p1), .val (.int p2), .val (.int p3), .val (.int (1 : Int32)), .val (.ref j4), .val (.ref b28), .val (.ref b36), .val (.ref b44), .val (.ref b46), .val (.ref o48), .val (.ref b46), .unset] [])
    refine own_by (fun t k => XS.aload X48.here hx rfl (hb hby at_143) rfl rfl k) ?_
    show ORun p e below s _ _ _ T48 (mkF m 145 #[.val (.int p1), .val (.int p2), .val (.int p3), .val (.int (1 : Int32)), .val (.ref j4), .val (.ref b28), .val (.ref b36), .val (.ref b44), .val (.ref b46), .val (.ref o48), .val (.ref b46), .unset] [(.ref b44)])
    refine own_by (fun t k => XS.goto X48.here hx rfl (pc0 := 145) (pc' := 150) rfl (hb hby at_145) (by decide) (by decide) k) ?_
    show ORun p e below s _ _ _ T48 (mkF m 150 #[.val (.int p1), .val (.int p2), .val (.int p3), .val (.int (1 : Int32)), .val (.ref j4), .val (.ref b28), .val (.ref b36), .val (.ref b44), .val (.ref b46), .val (.ref o48), .val (.ref b46), .unset] [(.ref b44)])
    refine own_by (fun t k => XS.astore X48.here hx rfl (hb hby at_150) rfl rfl (l' := #[.val (.int p1), .val (.int p2), .val (.int p3), .val (.int (1 : Int32)), .val (.ref j4), .val (.ref b28), .val (.ref b36), .val (.ref b44), .val (.ref b46), .val (.ref o48), .val (.ref b46), .val (.ref b44)]) rfl k) ?_
    show ORun p e below s _ _ _ T48 (mkF m 152 #[.val (.int p1), .val (.int p2), .val (.int p3), .val (.int (1 : Int32)), .val (.ref j4), .val (.ref b28), .val (.ref b36), .val (.ref b44), .val (.ref b46), .val (.ref o48), .val (.ref b46), .val (.ref b44)] [])
    refine own_by (fun t k => XS.aload X48.here hx rfl (hb hby at_152) rfl rfl k) ?_
    show ORun p e below s _ _ _ T48 (mkF m 154 #[.val (.int p1), .val (.int p2), .val (.int p3), .val (.int (1 : Int32)), .val (.ref j4), .val (.ref b28), .val (.ref b36), .val (.ref b44), .val (.ref b46), .val (.ref o48), .val (.ref b46), .val (.ref b44)] [(.ref b46)])
    refine own_by (fun t k => XS.aload X48.here hx rfl (hb hby at_154) rfl rfl k) ?_
    show ORun p e below s _ _ _ T48 (mkF m 156 #[.val (.int p1), .val (.int p2), .val (.int p3), .val (.int (1 : Int32)), .val (.ref j4), .val (.ref b28), .val (.ref b36), .val (.ref b44), .val (.ref b46), .val (.ref o48), .val (.ref b46), .val (.ref b44)] [(.ref o48), (.ref b46)])
    refine own_by (fun t k => XS.iconst X48.here hx rfl (hb hby at_156) k) ?_
    show ORun p e below s _ _ _ T48 (mkF m 157 #[.val (.int p1), .val (.int p2), .val (.int p3), .val (.int (1 : Int32)), .val (.ref j4), .val (.ref b28), .val (.ref b36), .val (.ref b44), .val (.ref b46), .val (.ref o48), .val (.ref b46), .val (.ref b44)] [(.int (0 : Int32)), (.ref o48), (.ref b46)])
    refine own_aaload X48 hx hZ rfl Vq48 (i := 0) (by decide) (v := .ref b46) rfl (hb hby at_157) ?_
    show ORun p e below s _ _ _ T48 (mkF m 158 #[.val (.int p1), .val (.int p2), .val (.int p3), .val (.int (1 : Int32)), .val (.ref j4), .val (.ref b28), .val (.ref b36), .val (.ref b44), .val (.ref b46), .val (.ref o48), .val (.ref b46), .val (.ref b44)] [(.ref b46), (.ref b46)])
    refine own_callV X48 hx hZ hown (En47.keep K48) (hw _ (List.mem_of_getElem? (i := 42) rfl)) (hw _ (List.mem_of_getElem? (i := 43) rfl)) (notFace_of_selects (args := #[]) (mvT hZ (hw _ (List.mem_of_getElem? (i := 45) rfl)))) (hw _ (List.mem_of_getElem? (i := 45) rfl)) (hw _ (List.mem_of_getElem? (i := 44) rfl)) (hw _ (List.mem_of_getElem? (i := 6) rfl)) (hw _ (List.mem_of_getElem? (i := 46) rfl)) (by decide) (rm8 l Z a0 hw [] T48.heap n0 (Nat.le_trans (Nat.le_trans (Nat.le_trans (Nat.le_trans (Nat.le_trans (Nat.le_trans (Nat.le_trans (Nat.le_trans (Nat.le_trans (Nat.le_trans (Nat.le_trans Z0 E28.1) (Keep.of_wr W31).1) (Keep.of_wr W35).1) E36.1) (Keep.of_wr W39).1) (Keep.of_wr W43).1) E44.1) K45.1) E46.1) K47.1) K48.1) b46) rfl (by decide) (W := 0) (by decide) (by decide) (by decide) (argsL := [(.ref b46)]) (rest := []) (by rw [hml]; rfl) (lenOf pd_2 rfl) rfl rfl (Nat.le_of_eq rfl) (hb hby at_158) ?_
    intro T49 L49 u49 X49 hQ49
    obtain ⟨rfl, Nq49, e49⟩ := hQ49
    have N49 := Fr.app N48 Nq49
    show ORun p e below s _ _ _ T49 (mkF m 161 #[.val (.int p1), .val (.int p2), .val (.int p3), .val (.int (1 : Int32)), .val (.ref j4), .val (.ref b28), .val (.ref b36), .val (.ref b44), .val (.ref b46), .val (.ref o48), .val (.ref b46), .val (.ref b44)] [(.int (1 : Int32))])
    refine own_by (fun t k => XS.ifNo X49.here hx rfl (hb hby at_161) rfl ((if0 _ _).trans (feq (by decide)).1) k) ?_
    show ORun p e below s _ _ _ T49 (mkF m 164 #[.val (.int p1), .val (.int p2), .val (.int p3), .val (.int (1 : Int32)), .val (.ref j4), .val (.ref b28), .val (.ref b36), .val (.ref b44), .val (.ref b46), .val (.ref o48), .val (.ref b46), .val (.ref b44)] [])
    refine own_by (fun t k => XS.aload X49.here hx rfl (hb hby at_164) rfl rfl k) ?_
    show ORun p e below s _ _ _ T49 (mkF m 166 #[.val (.int p1), .val (.int p2), .val (.int p3), .val (.int (1 : Int32)), .val (.ref j4), .val (.ref b28), .val (.ref b36), .val (.ref b44), .val (.ref b46), .val (.ref o48), .val (.ref b46), .val (.ref b44)] [(.ref b44)])
    refine own_by (fun t k => XS.aload X49.here hx rfl (hb hby at_166) rfl rfl k) ?_
    show ORun p e below s _ _ _ T49 (mkF m 168 #[.val (.int p1), .val (.int p2), .val (.int p3), .val (.int (1 : Int32)), .val (.ref j4), .val (.ref b28), .val (.ref b36), .val (.ref b44), .val (.ref b46), .val (.ref o48), .val (.ref b46), .val (.ref b44)] [(.ref o48), (.ref b44)])
    refine own_by (fun t k => XS.iconst X49.here hx rfl (hb hby at_168) k) ?_
    show ORun p e below s _ _ _ T49 (mkF m 169 #[.val (.int p1), .val (.int p2), .val (.int p3), .val (.int (1 : Int32)), .val (.ref j4), .val (.ref b28), .val (.ref b36), .val (.ref b44), .val (.ref b46), .val (.ref o48), .val (.ref b46), .val (.ref b44)] [(.int (1 : Int32)), (.ref o48), (.ref b44)])
    refine own_aaload X49 hx hZ e49 Vq48 (i := 1) (by decide) (v := .ref b44) rfl (hb hby at_169) ?_
    show ORun p e below s _ _ _ T49 (mkF m 170 #[.val (.int p1), .val (.int p2), .val (.int p3), .val (.int (1 : Int32)), .val (.ref j4), .val (.ref b28), .val (.ref b36), .val (.ref b44), .val (.ref b46), .val (.ref o48), .val (.ref b46), .val (.ref b44)] [(.ref b44), (.ref b44)])
    refine own_callV X49 hx hZ hown (((En45.ext E46).keep K47).keep K48) (hw _ (List.mem_of_getElem? (i := 42) rfl)) (hw _ (List.mem_of_getElem? (i := 43) rfl)) (notFace_of_selects (args := #[]) (mvT hZ (hw _ (List.mem_of_getElem? (i := 45) rfl)))) (hw _ (List.mem_of_getElem? (i := 45) rfl)) (hw _ (List.mem_of_getElem? (i := 44) rfl)) (hw _ (List.mem_of_getElem? (i := 6) rfl)) (hw _ (List.mem_of_getElem? (i := 46) rfl)) (by decide) (rm8 l Z a0 hw [] T48.heap n0 (Nat.le_trans (Nat.le_trans (Nat.le_trans (Nat.le_trans (Nat.le_trans (Nat.le_trans (Nat.le_trans (Nat.le_trans (Nat.le_trans (Nat.le_trans (Nat.le_trans Z0 E28.1) (Keep.of_wr W31).1) (Keep.of_wr W35).1) E36.1) (Keep.of_wr W39).1) (Keep.of_wr W43).1) E44.1) K45.1) E46.1) K47.1) K48.1) b44) e49 (by decide) (W := 0) (by decide) (by decide) (by decide) (argsL := [(.ref b44)]) (rest := []) (by rw [hml]; rfl) (lenOf pd_2 rfl) rfl rfl (Nat.le_of_eq rfl) (hb hby at_170) ?_
    intro T50 L50 u50 X50 hQ50
    obtain ⟨rfl, Nq50, e50⟩ := hQ50
    have N50 := Fr.app N49 Nq50
    show ORun p e below s _ _ _ T50 (mkF m 173 #[.val (.int p1), .val (.int p2), .val (.int p3), .val (.int (1 : Int32)), .val (.ref j4), .val (.ref b28), .val (.ref b36), .val (.ref b44), .val (.ref b46), .val (.ref o48), .val (.ref b46), .val (.ref b44)] [(.int (1 : Int32))])
    refine own_by (fun t k => XS.ifNo X50.here hx rfl (hb hby at_173) rfl ((if0 _ _).trans (feq (by decide)).1) k) ?_
    show ORun p e below s _ _ _ T50 (mkF m 176 #[.val (.int p1), .val (.int p2), .val (.int p3), .val (.int (1 : Int32)), .val (.ref j4), .val (.ref b28), .val (.ref b36), .val (.ref b44), .val (.ref b46), .val (.ref o48), .val (.ref b46), .val (.ref b44)] [])
    refine own_by (fun t k => XS.iconst X50.here hx rfl (hb hby at_176) k) ?_
    show ORun p e below s _ _ _ T50 (mkF m 177 #[.val (.int p1), .val (.int p2), .val (.int p3), .val (.int (1 : Int32)), .val (.ref j4), .val (.ref b28), .val (.ref b36), .val (.ref b44), .val (.ref b46), .val (.ref o48), .val (.ref b46), .val (.ref b44)] [(.int (1 : Int32))])
    refine own_by (fun t k => XS.goto X50.here hx rfl (pc0 := 177) (pc' := 181) rfl (hb hby at_177) (by decide) (by decide) k) ?_
    show ORun p e below s _ _ _ T50 (mkF m 181 #[.val (.int p1), .val (.int p2), .val (.int p3), .val (.int (1 : Int32)), .val (.ref j4), .val (.ref b28), .val (.ref b36), .val (.ref b44), .val (.ref b46), .val (.ref o48), .val (.ref b46), .val (.ref b44)] [(.int (1 : Int32))])
    refine own_retN X50 hx (t := .boolean) hret (by simp) hlk (hb hby at_181) (by decide) (by decide) ?_
    exact ⟨rfl, N50⟩
set_option maxRecDepth 65536 in
set_option maxHeartbeats 40000000 in
theorem comes_1 {Post : Tables → Env → Array Value → State → Outcome → State → Prop} (hpost : ∀ tb e args s v u, (limb_1_1.after args s (.returned v) u = true ∧ limb_1_2.after args s (.returned v) u = true ∧ True) → FrameEnd s (.returned v) u (Jvm.fieldLocs frame_1_writes args s ++ Jvm.arrayLocs frame_1_arrays args s ++ Jvm.staticLocs frame_1_statics s) 24 128 → Post tb e args s (.returned v) u) :
    ArmFor flags0 classFile x code maxLocals ret World_1 tables_1 room_1 Calls_1 rest_1 Pre_1 Post := by
  intro l hfl _ _ p e ha hc hk s m args below hf hA hF happ hP
  obtain ⟨hcalls, hrest, hpre⟩ := hP
  obtain ⟨-, -, -, hnamed, -, -, -, hat⟩ := (Spec.applies_iff hf).mp happ
  obtain ⟨hg, hn⟩ := and_e (Cond.before_iff.mp (show (Jvm.Cond.and given_1 narrow_1).before args s = true from hpre))
  obtain ⟨hcnt, g0⟩ := and_e hg
  obtain ⟨k0, g1⟩ := and_e g0
  obtain ⟨k1, g2⟩ := and_e g1
  have k2 := g2
  obtain ⟨w0, w1, w2, rfl⟩ : ∃ w0 w1 w2 : Value, args = #[w0, w1, w2] := by
    have hs : args.size = 3 := by simpa [Cond.value, given_1] using hcnt
    obtain ⟨L⟩ := args
    match L, hs with
    | [w0, w1, w2], _ => exact ⟨w0, w1, w2, rfl⟩
  have hw := fun d (hd : d ∈ tables_1) => atoms_spec (ws := Jvm.Cond.code x code maxLocals ret :: tables_1) hat d (List.mem_cons_of_mem _ hd)
  have hfit : Fit s := fun {y c} hc i hi => by
    obtain ⟨ha, rfl⟩ := Array.getElem?_eq_some_iff.mp hc
    have q := List.all_eq_true.mp ((Array.all_eq_true_iff_forall_mem.mp hF) _ (Array.getElem_mem ha)) i (List.mem_range.mpr hi)
    simpa [Array.getElem?_eq_getElem hi] using q
  obtain ⟨i0, e0⟩ := is_v k0
  obtain rfl : w0 = (.int i0) := Option.some.inj e0
  obtain ⟨i1, e1⟩ := is_v k1
  obtain rfl : w1 = (.int i1) := Option.some.inj e1
  obtain ⟨i2, e2⟩ := is_v k2
  obtain rfl : w2 = (.int i2) := Option.some.inj e2
  obtain ⟨n1, r1⟩ := and_e hn
  obtain ⟨n2, r2⟩ := and_e r1
  obtain ⟨n3, n4⟩ := and_e r2
  obtain ⟨hsets, hown0⟩ := atoms_of _ (rest_1_c_eq ▸ (show rest_1_c.before _ s = true from hrest))
  have nz := not_v (Cond.before_iff.mp (hsets _ (List.mem_of_getElem? (i := 2) rfl)))
  obtain ⟨z, ez⟩ := is_v (Cond.before_iff.mp (hsets _ (List.mem_of_getElem? (i := 1) rfl)))
  have Sc := Sta.start ez (Or.inl (hsets _ (List.mem_of_getElem? (i := 0) rfl)))
  have hz : ¬ (z = (0 : Int32)) := gotF (Cond.eq_ints ez (Term.int_eval (0))) nz
  obtain ⟨j5, ej5⟩ := exa_v n1
  have Sj5 := Sta.start ej5 (Or.inr ⟨(hw _ (List.mem_of_getElem? (i := 1) rfl)), (hw _ (List.mem_of_getElem? (i := 2) rfl))⟩)
  have Ej5 := Exa.start ej5 n1
  obtain ⟨xj5, yj5, exj5, eyj5, kxj5, kyj5⟩ := cmp_v (Or.inl n2)
  obtain rfl : yj5 = .int 0 := (Option.some.inj eyj5).symm
  obtain ⟨mj5, rfl⟩ : ∃ q, xj5 = .int q := kyj5
  have qj5 : mj5 = 0 := gotT (Cond.eq_ints exj5 eyj5) n2
  subst qj5
  have Fj5 := Fld.start ((fld_at ej5).symm.trans exj5)
  obtain ⟨j4, ej4⟩ := exa_v n3
  have Sj4 := Sta.start ej4 (Or.inr ⟨(hw _ (List.mem_of_getElem? (i := 1) rfl)), (hw _ (List.mem_of_getElem? (i := 48) rfl))⟩)
  have Ej4 := Exa.start ej4 n3
  obtain ⟨xj4, yj4, exj4, eyj4, kxj4, kyj4⟩ := cmp_v (Or.inl n4)
  obtain rfl : yj4 = .int 1 := (Option.some.inj eyj4).symm
  obtain ⟨mj4, rfl⟩ : ∃ q, xj4 = .int q := kyj4
  have qj4 : mj4 = 1 := gotT (Cond.eq_ints exj4 eyj4) n4
  subst qj4
  have Fj4 := Fld.start ((fld_at ej4).symm.trans exj4)
  obtain ⟨n, o, h1, h2, h3, _, L, rfl, ⟨rfl, N⟩, hq⟩ := rm0 l s _ hw tables_1 s.heap s.heap.size (Nat.le_refl _) i0 i1 i2 j4 j5 z hz Sc Sj4 Ej4 Fj4 Sj5 Ej5 Fj5 p e ha hc hk s m _ below hf ((Spec.applies_iff_loose hf).mp happ).1 ⟨rfl, State.Warmed39.refl s, rfl⟩ trivial
  refine ⟨n, _, h1, h2, h3, hpost _ _ _ _ _ _ ⟨Cond.after_iff.mpr rfl, Cond.after_iff.mpr (eq_i res_at (Term.int_eval (1)) rfl), trivial⟩ ⟨hq.1, hq.2.1, (hq.2.2.sift fun y hy => Or.inr (N y hy)).mono (by decide) (by decide)⟩⟩
theorem main_1_1 : Claimed_1_1 := comes_1 fun _ _ _ _ _ _ h hF => ⟨h.1, hF⟩
theorem main_1_2 : Claimed_1_2 := comes_1 fun _ _ _ _ _ _ h hF => ⟨h.2.1, hF⟩
end Jvm.Pilot.@@N@@
namespace Jvm.Pilot.@@N@@
open Jvm Jvm.ClassFile Sem Op Lib Jvm.Free Jvm.Stand Jvm.Pilot.@@N@@.Jvm.D
/-! MADE BY PROGRAM (witnessworld.py) out of the Statement's table words and the real class files: 22 classes; the members and pool entries that the words name. The judged class is class 1, her method 1. -/
namespace start1
open Jvm.ClassFile
def u (s : String) : CpInfo := .utf8 (stringToUtf16 s)
/-- a pool by its gaps: so many unusable entries, then the entry; so many at the end -/
def gap : Nat → List CpInfo → List CpInfo
  | 0, r => r
  | n + 1, r => .unusable :: gap n r
def poolList (es : List (Nat × CpInfo)) (last : Nat) : List CpInfo := es.foldr (fun e r => gap e.1 (e.2 :: r)) (gap last [])
def pool (es : List (Nat × CpInfo)) (last : Nat) : Array CpInfo := ⟨poolList es last⟩
def fileOf (pool : Array CpInfo) (this : Nat) (attrs : Array Attribute := #[]) (ms : Array MethodInfo := #[]) (fl : Nat := 33) (sup : Nat := 0) (ifs : Array Nat := #[]) (fds : Array FieldInfo := #[]) : ClassFile where
  minorVersion := 0
  majorVersion := 65
  constantPool := pool
  accessFlags := fl
  thisClass := this
  superClass := sup
  interfaces := ifs
  fields := fds
  methods := ms
  attributes := attrs
def plain (name : String) (sup : Option ClassId) : Class where
  name := name
  kind := .ordinary
  loader := none
  accessFlags := 33
  super := sup
  interfaces := #[]
  cf := none
  fields := #[]
  methods := #[]
  instanceTypes := #[]
  staticTypes := #[]
  resolved := #[]
  callSites := []
  init := .initialized
  statics := none
  mirror := none

def pool0 : Array CpInfo := pool [(5, u "<init>"), (0, u "()V"), (1, .class_ 10), (1, u "java/lang/Object")] 113

def k0c0 : Code := { maxStack := 0, maxLocals := 1, code := object_method_1_code, exceptionTable := #[], attributes := #[] }
def k0m0 : Method := { name := "<init>", desc := "()V", sig := { parameters := [], returnType := none }, accessFlags := 1, code := some k0c0 }
/-- java/lang/Object -/
def k0 : Class := { plain "java/lang/Object" none with
  accessFlags := 33
  interfaces := #[]
  cf := some (fileOf pool0 8 #[] #[{ accessFlags := 1, nameIndex := 5, descriptorIndex := 6, attributes := #[] }] 33 0 #[] #[])
  fields := #[]
  methods := #[k0m0]
  instanceTypes := #[]
  staticTypes := #[]
  resolved := Array.replicate 124 none
  statics := none }

def pool1 : Array CpInfo := pool [(2, .class_ 4), (1, u "java/lang/Object"), (0, u "<init>"), (0, u "()V"), (0, .fieldref 8 9), (0, .class_ 10), (0, .nameAndType 11 12), (0, u "com/example/callweave/callweave/junit/Framework"), (0, u "JUNIT_4"), (0, u "Lcom/example/callweave/callweave/junit/Framework;"), (0, .fieldref 8 14), (0, .nameAndType 15 12), (0, u "JUNIT_5"), (0, .class_ 17), (0, u "java/lang/String"), (0, .methodref 16 19), (0, .nameAndType 5 20), (0, u "([C)V"), (0, .methodref 8 22), (0, .nameAndType 23 24), (0, u "conditionWithMessage"), (0, u "(Ljava/lang/String;Ljava/lang/String;)[Ljava/lang/String;"), (0, .methodref 16 26), (0, .nameAndType 27 28), (0, u "equals"), (0, u "(Ljava/lang/Object;)Z"), (0, .class_ 30), (0, u "com/example/callweave/callweave/junit/FrameworkConditionWithMessagePinLaw"), (2, u "law"), (0, u "(III)Z")] 7

def k1m0 : Method := { name := "<init>", desc := "()V", sig := { parameters := [], returnType := none }, accessFlags := 1, code := none }
def k1c1 : Code := { maxStack := 5, maxLocals := 12, code := code, exceptionTable := #[], attributes := #[] }
def k1m1 : Method := { name := "law", desc := "(III)Z", sig := { parameters := [.int, .int, .int], returnType := some .boolean }, accessFlags := 9, code := some k1c1 }
/-- com/example/callweave/callweave/junit/FrameworkConditionWithMessagePinLaw -/
def k1 : Class := { plain "com/example/callweave/callweave/junit/FrameworkConditionWithMessagePinLaw" (some 0) with
  accessFlags := 49
  interfaces := #[]
  cf := some (fileOf pool1 29 #[] #[{ accessFlags := 1, nameIndex := 5, descriptorIndex := 6, attributes := #[] }, { accessFlags := 9, nameIndex := 33, descriptorIndex := 34, attributes := #[] }] 49 2 #[] #[])
  fields := #[]
  methods := #[k1m0, k1m1]
  instanceTypes := #[]
  staticTypes := #[]
  resolved := Array.replicate 42 none
  statics := none }

def pool2 : Array CpInfo := pool [(1, .class_ 2), (0, u "java/lang/constant/Constable"), (0, .class_ 4), (0, u "java/lang/Object")] 6

/-- java/lang/constant/Constable -/
def k2 : Class := { plain "java/lang/constant/Constable" (some 0) with
  accessFlags := 1537
  interfaces := #[]
  cf := some (fileOf pool2 1 #[] #[] 1537 3 #[] #[])
  fields := #[]
  methods := #[]
  instanceTypes := #[]
  staticTypes := #[]
  resolved := Array.replicate 11 none
  statics := none }

def pool3 : Array CpInfo := pool [(1, .class_ 2), (0, u "java/lang/Comparable"), (0, .class_ 4), (0, u "java/lang/Object")] 7

/-- java/lang/Comparable -/
def k3 : Class := { plain "java/lang/Comparable" (some 0) with
  accessFlags := 1537
  interfaces := #[]
  cf := some (fileOf pool3 1 #[] #[] 1537 3 #[] #[])
  fields := #[]
  methods := #[]
  instanceTypes := #[]
  staticTypes := #[]
  resolved := Array.replicate 12 none
  statics := none }

def pool4 : Array CpInfo := pool [(1, .class_ 2), (0, u "java/io/Serializable"), (0, .class_ 4), (0, u "java/lang/Object")] 2

/-- java/io/Serializable -/
def k4 : Class := { plain "java/io/Serializable" (some 0) with
  accessFlags := 1537
  interfaces := #[]
  cf := some (fileOf pool4 1 #[] #[] 1537 3 #[] #[])
  fields := #[]
  methods := #[]
  instanceTypes := #[]
  staticTypes := #[]
  resolved := Array.replicate 7 none
  statics := none }

def pool5 : Array CpInfo := pool [(2, .class_ 4), (1, u "java/lang/Enum"), (0, u "name"), (0, u "Ljava/lang/String;"), (2, u "ordinal"), (0, u "I"), (1, .class_ 14), (1, u "java/lang/Object"), (4, u "hash"), (86, .class_ 108), (1, u "java/lang/Enum$EnumDesc"), (2, .class_ 112), (0, u "java/lang/constant/Constable"), (0, .class_ 114), (0, u "java/lang/Comparable"), (0, .class_ 116), (0, u "java/io/Serializable")] 87

/-- java/lang/Enum -/
def k5 : Class := { plain "java/lang/Enum" (some 0) with
  accessFlags := 1057
  interfaces := #[2, 3, 4]
  cf := some (fileOf pool5 2 #[.nestMembers #[106]] #[] 1057 12 #[111, 113, 115] #[{ accessFlags := 18, nameIndex := 5, descriptorIndex := 6, attributes := #[] }, { accessFlags := 18, nameIndex := 9, descriptorIndex := 10, attributes := #[] }, { accessFlags := 2, nameIndex := 19, descriptorIndex := 10, attributes := #[] }])
  fields := #[{ name := "name", type := (.object "java/lang/String"), accessFlags := 18, slot := 0, constantValue := 0 }, { name := "ordinal", type := .int, accessFlags := 18, slot := 1, constantValue := 0 }, { name := "hash", type := .int, accessFlags := 2, slot := 2, constantValue := 0 }]
  methods := #[]
  instanceTypes := #[(.object "java/lang/String"), .int, .int]
  staticTypes := #[]
  resolved := Array.replicate 204 none
  statics := none }

def pool6 : Array CpInfo := pool [(1, .class_ 2), (0, u "com/example/callweave/callweave/junit/Framework"), (2, u "JUNIT_4"), (0, u "Lcom/example/callweave/callweave/junit/Framework;"), (2, u "JUNIT_5"), (2, u "$VALUES"), (0, u "[Lcom/example/callweave/callweave/junit/Framework;"), (6, .class_ 22), (1, u "java/lang/Enum"), (8, u "version"), (0, u "Ljava/lang/String;"), (2, u "assertions"), (2, u "methodOrder"), (0, .fieldref 1 40), (0, .nameAndType 41 42), (0, u "messageFirst"), (0, u "Z"), (2, u "types"), (0, u "Ljava/util/List;"), (0, .class_ 48), (0, u "java/lang/String"), (50, u "conditionWithMessage"), (0, u "(Ljava/lang/String;Ljava/lang/String;)[Ljava/lang/String;")] 8

def k6c0 : Code := { maxStack := 4, maxLocals := 3, code := prog_31_method_8_code, exceptionTable := #[], attributes := #[] }
def k6m0 : Method := { name := "conditionWithMessage", desc := "(Ljava/lang/String;Ljava/lang/String;)[Ljava/lang/String;", sig := { parameters := [(.object "java/lang/String"), (.object "java/lang/String")], returnType := some (.array (.object "java/lang/String")) }, accessFlags := 0, code := some k6c0 }
/-- com/example/callweave/callweave/junit/Framework -/
def k6 : Class := { plain "com/example/callweave/callweave/junit/Framework" (some 5) with
  accessFlags := 16433
  interfaces := #[]
  cf := some (fileOf pool6 1 #[] #[{ accessFlags := 0, nameIndex := 99, descriptorIndex := 100, attributes := #[] }] 16433 20 #[] #[{ accessFlags := 16409, nameIndex := 5, descriptorIndex := 6, attributes := #[] }, { accessFlags := 16409, nameIndex := 9, descriptorIndex := 6, attributes := #[] }, { accessFlags := 18, nameIndex := 31, descriptorIndex := 32, attributes := #[] }, { accessFlags := 18, nameIndex := 35, descriptorIndex := 32, attributes := #[] }, { accessFlags := 18, nameIndex := 38, descriptorIndex := 32, attributes := #[] }, { accessFlags := 18, nameIndex := 41, descriptorIndex := 42, attributes := #[] }, { accessFlags := 18, nameIndex := 45, descriptorIndex := 46, attributes := #[] }, { accessFlags := 4122, nameIndex := 12, descriptorIndex := 13, attributes := #[] }])
  fields := #[{ name := "JUNIT_4", type := (.object "com/example/callweave/callweave/junit/Framework"), accessFlags := 16409, slot := 0, constantValue := 0 }, { name := "JUNIT_5", type := (.object "com/example/callweave/callweave/junit/Framework"), accessFlags := 16409, slot := 1, constantValue := 0 }, { name := "version", type := (.object "java/lang/String"), accessFlags := 18, slot := 3, constantValue := 0 }, { name := "assertions", type := (.object "java/lang/String"), accessFlags := 18, slot := 4, constantValue := 0 }, { name := "methodOrder", type := (.object "java/lang/String"), accessFlags := 18, slot := 5, constantValue := 0 }, { name := "messageFirst", type := .boolean, accessFlags := 18, slot := 6, constantValue := 0 }, { name := "types", type := (.object "java/util/List"), accessFlags := 18, slot := 7, constantValue := 0 }, { name := "$VALUES", type := (.array (.object "com/example/callweave/callweave/junit/Framework")), accessFlags := 4122, slot := 2, constantValue := 0 }]
  methods := #[k6m0]
  instanceTypes := #[(.object "java/lang/String"), .int, .int, (.object "java/lang/String"), (.object "java/lang/String"), (.object "java/lang/String"), .boolean, (.object "java/util/List")]
  staticTypes := #[(.object "com/example/callweave/callweave/junit/Framework"), (.object "com/example/callweave/callweave/junit/Framework"), (.array (.object "com/example/callweave/callweave/junit/Framework"))]
  resolved := Array.replicate 109 none
  statics := some 0 }

def pool7 : Array CpInfo := pool [(2, .class_ 4), (1, u "java/lang/CharSequence"), (42, .class_ 48), (0, u "java/lang/CharSequence$1CodePointIterator"), (10, .class_ 60), (0, u "java/lang/CharSequence$1CharIterator"), (5, .class_ 67), (0, u "java/lang/Object")] 63

/-- java/lang/CharSequence -/
def k7 : Class := { plain "java/lang/CharSequence" (some 0) with
  accessFlags := 1537
  interfaces := #[]
  cf := some (fileOf pool7 2 #[.nestMembers #[47, 59]] #[] 1537 66 #[] #[])
  fields := #[]
  methods := #[]
  instanceTypes := #[]
  staticTypes := #[]
  resolved := Array.replicate 131 none
  statics := none }

def pool8 : Array CpInfo := pool [(1, .class_ 2), (0, u "java/lang/constant/ConstantDesc"), (0, .class_ 4), (0, u "java/lang/Object")] 32

/-- java/lang/constant/ConstantDesc -/
def k8 : Class := { plain "java/lang/constant/ConstantDesc" (some 0) with
  accessFlags := 1537
  interfaces := #[]
  cf := some (fileOf pool8 1 #[] #[] 1537 3 #[] #[])
  fields := #[]
  methods := #[]
  instanceTypes := #[]
  staticTypes := #[]
  resolved := Array.replicate 37 none
  statics := none }

def pool9 : Array CpInfo := pool [(1, .methodref 2 3), (0, .class_ 4), (0, .nameAndType 5 6), (0, u "java/lang/Object"), (0, u "<init>"), (0, u "()V"), (2, .fieldref 10 11), (0, .class_ 12), (0, .nameAndType 13 14), (0, u "java/lang/String"), (0, u "value"), (0, u "[B"), (0, .fieldref 10 16), (0, .nameAndType 17 18), (0, u "coder"), (0, u "B"), (2, u "hash"), (0, u "I"), (2, u "hashIsZero"), (0, u "Z"), (0, .methodref 10 28), (0, .nameAndType 5 29), (0, u "([CIILjava/lang/Void;)V"), (8, .fieldref 10 39), (0, .nameAndType 40 26), (0, u "COMPACT_STRINGS"), (1, .class_ 44), (1, u "java/lang/StringUTF16"), (0, u "compress"), (1, .methodref 42 48), (0, .nameAndType 49 50), (0, u "coderFromArrayLen"), (0, u "([BI)B"), (126, .methodref 42 178), (0, .nameAndType 45 179), (0, u "([CII)[B"), (363, u "equals"), (29, u "(Ljava/lang/Object;)Z"), (1, .class_ 576), (0, u "java/lang/CharSequence"), (22, u "CASE_INSENSITIVE_ORDER"), (0, u "Ljava/util/Comparator;"), (409, u "([C)V"), (90, u "serialPersistentFields"), (0, u "[Ljava/io/ObjectStreamField;"), (0, .class_ 1104), (0, u "java/lang/String$CaseInsensitiveComparator"), (1, .class_ 1107), (0, u "java/io/Serializable"), (0, .class_ 1109), (0, u "java/lang/Comparable"), (0, .class_ 1111), (0, u "java/lang/constant/Constable"), (0, .class_ 1113), (0, u "java/lang/constant/ConstantDesc"), (2, u "serialVersionUID"), (0, u "J"), (3, u "REPL"), (0, u "C"), (2, u "LATIN1"), (1, u "UTF16")] 323

def k9m0 : Method := { name := "<init>", desc := "()V", sig := { parameters := [], returnType := none }, accessFlags := 1, code := none }
def k9c1 : Code := { maxStack := 5, maxLocals := 2, code := jdk_42_method_3_code, exceptionTable := #[], attributes := #[] }
def k9m1 : Method := { name := "<init>", desc := "([C)V", sig := { parameters := [(.array .char)], returnType := none }, accessFlags := 1, code := some k9c1 }
def k9c2 : Code := { maxStack := 2, maxLocals := 3, code := jdk_42_method_66_code, exceptionTable := #[], attributes := #[] }
def k9m2 : Method := { name := "equals", desc := "(Ljava/lang/Object;)Z", sig := { parameters := [(.object "java/lang/Object")], returnType := some .boolean }, accessFlags := 1, code := some k9c2 }
def k9c3 : Code := { maxStack := 4, maxLocals := 6, code := jdk_42_method_149_code, exceptionTable := #[], attributes := #[] }
def k9m3 : Method := { name := "<init>", desc := "([CIILjava/lang/Void;)V", sig := { parameters := [(.array .char), .int, .int, (.object "java/lang/Void")], returnType := none }, accessFlags := 2, code := some k9c3 }
/-- java/lang/String -/
def k9 : Class := { plain "java/lang/String" (some 0) with
  accessFlags := 49
  interfaces := #[4, 3, 7, 2, 8]
  cf := some (fileOf pool9 10 #[.nestMembers #[1103]] #[{ accessFlags := 1, nameIndex := 5, descriptorIndex := 6, attributes := #[] }, { accessFlags := 1, nameIndex := 5, descriptorIndex := 1010, attributes := #[] }, { accessFlags := 1, nameIndex := 543, descriptorIndex := 573, attributes := #[] }, { accessFlags := 2, nameIndex := 5, descriptorIndex := 29, attributes := #[] }] 49 2 #[1106, 1108, 575, 1110, 1112] #[{ accessFlags := 18, nameIndex := 13, descriptorIndex := 14, attributes := #[] }, { accessFlags := 18, nameIndex := 17, descriptorIndex := 18, attributes := #[] }, { accessFlags := 2, nameIndex := 21, descriptorIndex := 22, attributes := #[] }, { accessFlags := 2, nameIndex := 25, descriptorIndex := 26, attributes := #[] }, { accessFlags := 26, nameIndex := 1116, descriptorIndex := 1117, attributes := #[] }, { accessFlags := 24, nameIndex := 40, descriptorIndex := 26, attributes := #[] }, { accessFlags := 26, nameIndex := 1101, descriptorIndex := 1102, attributes := #[] }, { accessFlags := 26, nameIndex := 1121, descriptorIndex := 1122, attributes := #[] }, { accessFlags := 25, nameIndex := 599, descriptorIndex := 600, attributes := #[] }, { accessFlags := 24, nameIndex := 1125, descriptorIndex := 18, attributes := #[] }, { accessFlags := 24, nameIndex := 1127, descriptorIndex := 18, attributes := #[] }])
  fields := #[{ name := "value", type := (.array .byte), accessFlags := 18, slot := 0, constantValue := 0 }, { name := "coder", type := .byte, accessFlags := 18, slot := 1, constantValue := 0 }, { name := "hash", type := .int, accessFlags := 2, slot := 2, constantValue := 0 }, { name := "hashIsZero", type := .boolean, accessFlags := 2, slot := 3, constantValue := 0 }, { name := "serialVersionUID", type := .long, accessFlags := 26, slot := 0, constantValue := 0 }, { name := "COMPACT_STRINGS", type := .boolean, accessFlags := 24, slot := 1, constantValue := 0 }, { name := "serialPersistentFields", type := (.array (.object "java/io/ObjectStreamField")), accessFlags := 26, slot := 2, constantValue := 0 }, { name := "REPL", type := .char, accessFlags := 26, slot := 3, constantValue := 0 }, { name := "CASE_INSENSITIVE_ORDER", type := (.object "java/util/Comparator"), accessFlags := 25, slot := 4, constantValue := 0 }, { name := "LATIN1", type := .byte, accessFlags := 24, slot := 5, constantValue := 0 }, { name := "UTF16", type := .byte, accessFlags := 24, slot := 6, constantValue := 0 }]
  methods := #[k9m0, k9m1, k9m2, k9m3]
  instanceTypes := #[(.array .byte), .byte, .int, .boolean]
  staticTypes := #[.long, .boolean, (.array (.object "java/io/ObjectStreamField")), .char, (.object "java/util/Comparator"), .byte, .byte]
  resolved := Array.replicate 1451 none
  statics := some 1 }

def pool10 : Array CpInfo := pool [(6, .class_ 8), (1, u "java/lang/Object"), (0, u "<init>"), (0, u "()V"), (1, .class_ 14), (1, u "java/lang/StringUTF16"), (31, u "$assertionsDisabled"), (0, u "Z"), (13, u "HI_BYTE_SHIFT"), (0, u "I"), (2, u "LO_BYTE_SHIFT"), (49, .methodref 12 116), (0, .nameAndType 117 118), (0, u "compress"), (0, u "([CI[BII)I"), (3, u "([CII)[B"), (138, u "coderFromArrayLen"), (0, u "([BI)B"), (106, .class_ 371), (1, u "java/lang/StringUTF16$LinesSpliterator"), (58, u "MAX_LENGTH"), (196, .class_ 628), (0, u "java/lang/StringUTF16$CodePointsSpliterator"), (0, .class_ 630), (0, u "java/lang/StringUTF16$CharsSpliterator")] 4

def k10m0 : Method := { name := "<init>", desc := "()V", sig := { parameters := [], returnType := none }, accessFlags := 0, code := none }
def k10c1 : Code := { maxStack := 2, maxLocals := 2, code := jdk_52_method_15_code, exceptionTable := #[], attributes := #[] }
def k10m1 : Method := { name := "coderFromArrayLen", desc := "([BI)B", sig := { parameters := [(.array .byte), .int], returnType := some .byte }, accessFlags := 8, code := some k10c1 }
def k10c2 : Code := { maxStack := 5, maxLocals := 6, code := jdk_52_method_16_code, exceptionTable := #[], attributes := #[] }
def k10m2 : Method := { name := "compress", desc := "([CII)[B", sig := { parameters := [(.array .char), .int, .int], returnType := some (.array .byte) }, accessFlags := 9, code := some k10c2 }
def k10c3 : Code := { maxStack := 3, maxLocals := 7, code := jdk_52_method_21_code, exceptionTable := #[], attributes := #[] }
def k10m3 : Method := { name := "compress", desc := "([CI[BII)I", sig := { parameters := [(.array .char), .int, (.array .byte), .int, .int], returnType := some .int }, accessFlags := 9, code := some k10c3 }
/-- java/lang/StringUTF16 -/
def k10 : Class := { plain "java/lang/StringUTF16" (some 0) with
  accessFlags := 48
  interfaces := #[]
  cf := some (fileOf pool10 12 #[.nestMembers #[627, 629, 369]] #[{ accessFlags := 0, nameIndex := 9, descriptorIndex := 10, attributes := #[] }, { accessFlags := 8, nameIndex := 261, descriptorIndex := 262, attributes := #[] }, { accessFlags := 9, nameIndex := 117, descriptorIndex := 122, attributes := #[] }, { accessFlags := 9, nameIndex := 117, descriptorIndex := 118, attributes := #[] }] 48 6 #[] #[{ accessFlags := 26, nameIndex := 61, descriptorIndex := 62, attributes := #[] }, { accessFlags := 26, nameIndex := 65, descriptorIndex := 62, attributes := #[] }, { accessFlags := 24, nameIndex := 430, descriptorIndex := 62, attributes := #[] }, { accessFlags := 4120, nameIndex := 46, descriptorIndex := 47, attributes := #[] }])
  fields := #[{ name := "HI_BYTE_SHIFT", type := .int, accessFlags := 26, slot := 0, constantValue := 0 }, { name := "LO_BYTE_SHIFT", type := .int, accessFlags := 26, slot := 1, constantValue := 0 }, { name := "MAX_LENGTH", type := .int, accessFlags := 24, slot := 2, constantValue := 0 }, { name := "$assertionsDisabled", type := .boolean, accessFlags := 4120, slot := 3, constantValue := 0 }]
  methods := #[k10m0, k10m1, k10m2, k10m3]
  instanceTypes := #[]
  staticTypes := #[.int, .int, .int, .boolean]
  resolved := Array.replicate 635 none
  statics := none }

def pool11 : Array CpInfo := pool [(4, .class_ 6), (1, u "java/lang/Object"), (0, u "<init>"), (0, u "()V"), (5, .class_ 16), (1, u "java/lang/StringLatin1"), (104, u "$assertionsDisabled"), (0, u "Z"), (98, .class_ 223), (1, u "java/lang/StringLatin1$LinesSpliterator"), (166, .class_ 391), (0, u "java/lang/StringLatin1$CharsSpliterator")] 3

def k11m0 : Method := { name := "<init>", desc := "()V", sig := { parameters := [], returnType := none }, accessFlags := 0, code := none }
/-- java/lang/StringLatin1 -/
def k11 : Class := { plain "java/lang/StringLatin1" (some 0) with
  accessFlags := 48
  interfaces := #[]
  cf := some (fileOf pool11 14 #[.nestMembers #[390, 221]] #[{ accessFlags := 0, nameIndex := 7, descriptorIndex := 8, attributes := #[] }] 48 4 #[] #[{ accessFlags := 4120, nameIndex := 121, descriptorIndex := 122, attributes := #[] }])
  fields := #[{ name := "$assertionsDisabled", type := .boolean, accessFlags := 4120, slot := 0, constantValue := 0 }]
  methods := #[k11m0]
  instanceTypes := #[]
  staticTypes := #[.boolean]
  resolved := Array.replicate 395 none
  statics := none }

def pool12 : Array CpInfo := pool [(2, .class_ 4), (1, u "java/lang/Object"), (0, u "<init>"), (0, u "()V"), (17, .class_ 26), (1, u "jdk/internal/util/Preconditions"), (28, .class_ 56), (0, u "jdk/internal/util/Preconditions$4"), (57, .class_ 115), (0, u "jdk/internal/util/Preconditions$1"), (7, u "SIOOBE_FORMATTER"), (0, u "Ljava/util/function/BiFunction;"), (0, .class_ 126), (0, u "jdk/internal/util/Preconditions$2"), (3, u "AIOOBE_FORMATTER"), (0, .class_ 132), (0, u "jdk/internal/util/Preconditions$3"), (3, u "IOOBE_FORMATTER")] 57

def k12m0 : Method := { name := "<init>", desc := "()V", sig := { parameters := [], returnType := none }, accessFlags := 1, code := none }
/-- jdk/internal/util/Preconditions -/
def k12 : Class := { plain "jdk/internal/util/Preconditions" (some 0) with
  accessFlags := 33
  interfaces := #[]
  cf := some (fileOf pool12 24 #[.nestMembers #[55, 131, 125, 114]] #[{ accessFlags := 1, nameIndex := 5, descriptorIndex := 6, attributes := #[] }] 33 2 #[] #[{ accessFlags := 25, nameIndex := 123, descriptorIndex := 124, attributes := #[] }, { accessFlags := 25, nameIndex := 130, descriptorIndex := 124, attributes := #[] }, { accessFlags := 25, nameIndex := 136, descriptorIndex := 124, attributes := #[] }])
  fields := #[{ name := "SIOOBE_FORMATTER", type := (.object "java/util/function/BiFunction"), accessFlags := 25, slot := 0, constantValue := 0 }, { name := "AIOOBE_FORMATTER", type := (.object "java/util/function/BiFunction"), accessFlags := 25, slot := 1, constantValue := 0 }, { name := "IOOBE_FORMATTER", type := (.object "java/util/function/BiFunction"), accessFlags := 25, slot := 2, constantValue := 0 }]
  methods := #[k12m0]
  instanceTypes := #[]
  staticTypes := #[(.object "java/util/function/BiFunction"), (.object "java/util/function/BiFunction"), (.object "java/util/function/BiFunction")]
  resolved := Array.replicate 194 none
  statics := some 2 }

def pool13 : Array CpInfo := pool [(9, u "<init>"), (6, .class_ 18), (1, u "java/lang/Object"), (0, u "()V"), (1, .class_ 23), (1, u "jdk/internal/util/ArraysSupport"), (0, u "LOG2_ARRAY_LONG_INDEX_SCALE"), (0, u "I"), (2, u "U"), (0, u "Ljdk/internal/misc/Unsafe;"), (8, u "BIG_ENDIAN"), (0, u "Z"), (8, u "LOG2_BYTE_BIT_SIZE"), (4, u "LOG2_ARRAY_INT_INDEX_SCALE"), (54, u "JLA"), (0, u "Ljdk/internal/access/JavaLangAccess;"), (11, u "LOG2_ARRAY_BOOLEAN_INDEX_SCALE"), (9, u "LOG2_ARRAY_BYTE_INDEX_SCALE"), (5, u "LOG2_ARRAY_CHAR_INDEX_SCALE"), (5, u "LOG2_ARRAY_SHORT_INDEX_SCALE"), (18, u "LOG2_ARRAY_FLOAT_INDEX_SCALE"), (24, u "LOG2_ARRAY_DOUBLE_INDEX_SCALE"), (89, u "T_BOOLEAN"), (2, u "T_CHAR"), (1, u "T_FLOAT"), (1, u "T_DOUBLE"), (1, u "T_BYTE"), (1, u "T_SHORT"), (1, u "T_INT"), (1, u "T_LONG"), (1, u "SOFT_MAX_ARRAY_LENGTH")] 83

def k13m0 : Method := { name := "<init>", desc := "()V", sig := { parameters := [], returnType := none }, accessFlags := 2, code := none }
/-- jdk/internal/util/ArraysSupport -/
def k13 : Class := { plain "jdk/internal/util/ArraysSupport" (some 0) with
  accessFlags := 33
  interfaces := #[]
  cf := some (fileOf pool13 21 #[] #[{ accessFlags := 2, nameIndex := 9, descriptorIndex := 19, attributes := #[] }] 33 16 #[] #[{ accessFlags := 24, nameIndex := 28, descriptorIndex := 29, attributes := #[] }, { accessFlags := 26, nameIndex := 38, descriptorIndex := 39, attributes := #[] }, { accessFlags := 25, nameIndex := 121, descriptorIndex := 25, attributes := #[] }, { accessFlags := 25, nameIndex := 131, descriptorIndex := 25, attributes := #[] }, { accessFlags := 25, nameIndex := 137, descriptorIndex := 25, attributes := #[] }, { accessFlags := 25, nameIndex := 143, descriptorIndex := 25, attributes := #[] }, { accessFlags := 25, nameIndex := 53, descriptorIndex := 25, attributes := #[] }, { accessFlags := 25, nameIndex := 24, descriptorIndex := 25, attributes := #[] }, { accessFlags := 25, nameIndex := 162, descriptorIndex := 25, attributes := #[] }, { accessFlags := 25, nameIndex := 187, descriptorIndex := 25, attributes := #[] }, { accessFlags := 26, nameIndex := 48, descriptorIndex := 25, attributes := #[] }, { accessFlags := 25, nameIndex := 277, descriptorIndex := 25, attributes := #[] }, { accessFlags := 25, nameIndex := 280, descriptorIndex := 25, attributes := #[] }, { accessFlags := 25, nameIndex := 282, descriptorIndex := 25, attributes := #[] }, { accessFlags := 25, nameIndex := 284, descriptorIndex := 25, attributes := #[] }, { accessFlags := 25, nameIndex := 286, descriptorIndex := 25, attributes := #[] }, { accessFlags := 25, nameIndex := 288, descriptorIndex := 25, attributes := #[] }, { accessFlags := 25, nameIndex := 290, descriptorIndex := 25, attributes := #[] }, { accessFlags := 25, nameIndex := 292, descriptorIndex := 25, attributes := #[] }, { accessFlags := 26, nameIndex := 108, descriptorIndex := 109, attributes := #[] }, { accessFlags := 25, nameIndex := 294, descriptorIndex := 25, attributes := #[] }])
  fields := #[{ name := "U", type := (.object "jdk/internal/misc/Unsafe"), accessFlags := 24, slot := 0, constantValue := 0 }, { name := "BIG_ENDIAN", type := .boolean, accessFlags := 26, slot := 1, constantValue := 0 }, { name := "LOG2_ARRAY_BOOLEAN_INDEX_SCALE", type := .int, accessFlags := 25, slot := 2, constantValue := 0 }, { name := "LOG2_ARRAY_BYTE_INDEX_SCALE", type := .int, accessFlags := 25, slot := 3, constantValue := 0 }, { name := "LOG2_ARRAY_CHAR_INDEX_SCALE", type := .int, accessFlags := 25, slot := 4, constantValue := 0 }, { name := "LOG2_ARRAY_SHORT_INDEX_SCALE", type := .int, accessFlags := 25, slot := 5, constantValue := 0 }, { name := "LOG2_ARRAY_INT_INDEX_SCALE", type := .int, accessFlags := 25, slot := 6, constantValue := 0 }, { name := "LOG2_ARRAY_LONG_INDEX_SCALE", type := .int, accessFlags := 25, slot := 7, constantValue := 0 }, { name := "LOG2_ARRAY_FLOAT_INDEX_SCALE", type := .int, accessFlags := 25, slot := 8, constantValue := 0 }, { name := "LOG2_ARRAY_DOUBLE_INDEX_SCALE", type := .int, accessFlags := 25, slot := 9, constantValue := 0 }, { name := "LOG2_BYTE_BIT_SIZE", type := .int, accessFlags := 26, slot := 10, constantValue := 0 }, { name := "T_BOOLEAN", type := .int, accessFlags := 25, slot := 11, constantValue := 0 }, { name := "T_CHAR", type := .int, accessFlags := 25, slot := 12, constantValue := 0 }, { name := "T_FLOAT", type := .int, accessFlags := 25, slot := 13, constantValue := 0 }, { name := "T_DOUBLE", type := .int, accessFlags := 25, slot := 14, constantValue := 0 }, { name := "T_BYTE", type := .int, accessFlags := 25, slot := 15, constantValue := 0 }, { name := "T_SHORT", type := .int, accessFlags := 25, slot := 16, constantValue := 0 }, { name := "T_INT", type := .int, accessFlags := 25, slot := 17, constantValue := 0 }, { name := "T_LONG", type := .int, accessFlags := 25, slot := 18, constantValue := 0 }, { name := "JLA", type := (.object "jdk/internal/access/JavaLangAccess"), accessFlags := 26, slot := 19, constantValue := 0 }, { name := "SOFT_MAX_ARRAY_LENGTH", type := .int, accessFlags := 25, slot := 20, constantValue := 0 }]
  methods := #[k13m0]
  instanceTypes := #[]
  staticTypes := #[(.object "jdk/internal/misc/Unsafe"), .boolean, .int, .int, .int, .int, .int, .int, .int, .int, .int, .int, .int, .int, .int, .int, .int, .int, .int, (.object "jdk/internal/access/JavaLangAccess"), .int]
  resolved := Array.replicate 378 none
  statics := none }

def pool14 : Array CpInfo := pool [(1, u "java/lang/Cloneable"), (0, .class_ 1), (0, u "java/lang/Object"), (0, .class_ 3)] 3

/-- java/lang/Cloneable -/
def k14 : Class := { plain "java/lang/Cloneable" (some 0) with
  accessFlags := 1537
  interfaces := #[]
  cf := some (fileOf pool14 2 #[] #[] 1537 4 #[] #[])
  fields := #[]
  methods := #[]
  instanceTypes := #[]
  staticTypes := #[]
  resolved := Array.replicate 8 none
  statics := none }

/-- the primitive byte -/
def k15 : Class := { plain "byte" none with kind := .primitive 'B', accessFlags := 0x411 }
/-- [B -/
def k16 : Class := { plain "[B" (some 0) with kind := .array 15 .byte, interfaces := #[14, 4], accessFlags := 1041 }

/-- the primitive char -/
def k17 : Class := { plain "char" none with kind := .primitive 'C', accessFlags := 0x411 }
/-- [C -/
def k18 : Class := { plain "[C" (some 0) with kind := .array 17 .char, interfaces := #[14, 4], accessFlags := 1041 }

/-- the primitive int -/
def k19 : Class := { plain "int" none with kind := .primitive 'I', accessFlags := 0x411 }
/-- [I -/
def k20 : Class := { plain "[I" (some 0) with kind := .array 19 .int, interfaces := #[14, 4], accessFlags := 1041 }

/-- [Ljava/lang/String; -/
def k21 : Class := { plain "[Ljava/lang/String;" (some 0) with kind := .array 9 (.object "java/lang/String"), interfaces := #[14, 4], accessFlags := 1041 }

def heap : Heap := #[{ cls := 6, slots := #[.ref 4, .ref 3, .null], vm := .statics 6 },
  { cls := 9, slots := #[.long 0, .int 1, .null, .int 0, .null, .int 0, .int 0], vm := .statics 9 },
  { cls := 12, slots := #[.null, .null, .null], vm := .statics 12 },
  { cls := 6, slots := #[.null, .int 0, .int 0, .null, .null, .null, .int 0, .null], vm := .none },
  { cls := 6, slots := #[.null, .int 1, .int 0, .null, .null, .null, .int 1, .null], vm := .none }]
def classes : Array Class := #[k0, k1, k2, k3, k4, k5, k6, k7, k8, k9, k10, k11, k12, k13, k14, k15, k16, k17, k18, k19, k20, k21]
def interned : List (Array UInt16 × Addr) := []
def slotsUsed : Nat := 29
def theMethod : MethodId := ⟨1, 1⟩
def args0 : Array Value := #[.int 1, .int 25185, .int 24930]
def aboutOver (below : List Frame) : State where
  vm := { classes := classes, interned := interned.toArray }
  heap := heap
  slotsUsed := slotsUsed
  threads := #[{ frames := .invoking theMethod args0 :: below }]
def below0 : List Frame := [.native { method := ⟨0, 0⟩, args := #[] }]
def about1 : State := aboutOver below0
def p0 : Program := .bare "" "" ""
def e0 : Env := launch0.env 0 0 0
theorem w_frames : about1.frames = Frame.invoking theMethod args0 :: below0 := rfl
set_option maxRecDepth 65536 in
theorem w_args : argsFit about1.vm theMethod args0 = true := by decide +kernel
set_option maxRecDepth 65536 in
theorem w_heap : heapFits about1 = true := by decide +kernel
set_option maxRecDepth 65536 in
theorem w_runnable : about1.curStatus? = some .runnable := by decide +kernel
set_option maxRecDepth 65536 in
theorem w_alone : about1.alone = true := by decide +kernel
set_option maxRecDepth 65536 in
theorem w_named : about1.methodNamed? x = some theMethod := by decide +kernel
set_option maxRecDepth 65536 in
theorem w_hears : about1.hears theMethod below0 = true := by decide +kernel
set_option maxRecDepth 65536 in
theorem w_ripe : about1.ripe theMethod args0 below0 = true := by decide +kernel
theorem w_running : about1.status = .running := rfl
set_option maxRecDepth 65536 in
theorem w_room : about1.hasRoom e0.platform room_1 = true :=
  launch0.hasRoom_least _ room_1 (by decide +kernel) (by decide +kernel) (by decide +kernel) (by decide +kernel) (by decide +kernel) (by decide +kernel)
theorem allAtoms_all (ts : List Jvm.Cond) (a : Array Jvm.Value) (st : Jvm.State) : (allAtoms ts).before a st = ts.all (fun c => c.before a st) := by
  induction ts with
  | nil => rfl
  | cons c t ih =>
    show (Jvm.Cond.and c (allAtoms t)).before a st = _
    rw [Jvm.Cond.before_and, ih, List.all_cons]
def words1 : List Jvm.Cond := Jvm.Cond.code x code maxLocals ret :: tables_1
/-- a 'code' word, met by the world's own term for the bytes: nothing is compared byte by byte -/
theorem code_word {y : MethodName} {bytes : ByteArray} {mx : Nat} {rt : Option FieldType} {a : Array Value} {s : State} {m : MethodId} {meth : Method} {c : Code} (h1 : s.methodNamed? y = some m) (h2 : s.vm.method? m = some meth) (h3 : meth.code = some c) (h4 : c.code = bytes)
    (h5 : (c.maxLocals == mx && c.exceptionTable.isEmpty && decide (c.maxStack ≤ mostOperands) && decide (meth.sig.returnType = rt) && !meth.locks && decide (parseMethodDescriptor y.desc = some meth.sig)) = true) : (Jvm.Cond.code y bytes mx rt).before a s = true := by
  simp only [Bool.and_eq_true, beq_iff_eq, Bool.not_eq_true', decide_eq_true_eq] at h5
  obtain ⟨⟨⟨⟨⟨g1, g2⟩, g3⟩, g4⟩, g5⟩, g6⟩ := h5
  simp [Cond.before, Cond.holds, Cond.value, h1, h2, h3, h4, g1, g2, g3, g4, g5, g6]
def isCode : Jvm.Cond → Bool
  | .code _ _ _ _ => true
  | _ => false
theorem all_split {L : List Jvm.Cond} {P : Jvm.Cond → Bool} (h1 : L.all (fun c => isCode c || P c) = true) (h2 : ∀ c ∈ L.filter isCode, P c = true) : L.all P = true := by
  refine List.all_eq_true.mpr fun c hc => ?_
  have h := List.all_eq_true.mp h1 c hc
  rcases Bool.eq_false_or_eq_true (isCode c) with hi | hi
  · exact h2 c (List.mem_filter.mpr ⟨hc, hi⟩)
  · simpa [hi] using h
set_option maxRecDepth 65536 in
theorem w_c0 : (Jvm.Cond.code x code maxLocals ret).before args0 about1 = true := code_word (m := ⟨1, 1⟩) (meth := k1m1) (c := k1c1) (by decide +kernel) rfl rfl rfl (by decide +kernel)
set_option maxRecDepth 65536 in
theorem w_c1 : (Jvm.Cond.code ({ cls := "java/lang/String", name := "<init>", desc := "([C)V" } : Jvm.MethodName) jdk_42_method_3_code (2 : Nat) (Option.none : Option Jvm.ClassFile.FieldType)).before args0 about1 = true := code_word (m := ⟨9, 1⟩) (meth := k9m1) (c := k9c1) (by decide +kernel) rfl rfl rfl (by decide +kernel)
set_option maxRecDepth 65536 in
theorem w_c2 : (Jvm.Cond.code ({ cls := "java/lang/String", name := "<init>", desc := "([CIILjava/lang/Void;)V" } : Jvm.MethodName) jdk_42_method_149_code (6 : Nat) (Option.none : Option Jvm.ClassFile.FieldType)).before args0 about1 = true := code_word (m := ⟨9, 3⟩) (meth := k9m3) (c := k9c3) (by decide +kernel) rfl rfl rfl (by decide +kernel)
set_option maxRecDepth 65536 in
theorem w_c3 : (Jvm.Cond.code ({ cls := "java/lang/Object", name := "<init>", desc := "()V" } : Jvm.MethodName) object_method_1_code (1 : Nat) (Option.none : Option Jvm.ClassFile.FieldType)).before args0 about1 = true := code_word (m := ⟨0, 0⟩) (meth := k0m0) (c := k0c0) (by decide +kernel) rfl rfl rfl (by decide +kernel)
set_option maxRecDepth 65536 in
theorem w_c4 : (Jvm.Cond.code ({ cls := "java/lang/StringUTF16", name := "compress", desc := "([CII)[B" } : Jvm.MethodName) jdk_52_method_16_code (6 : Nat) (Option.some (Jvm.ClassFile.FieldType.array Jvm.ClassFile.FieldType.byte))).before args0 about1 = true := code_word (m := ⟨10, 2⟩) (meth := k10m2) (c := k10c2) (by decide +kernel) rfl rfl rfl (by decide +kernel)
set_option maxRecDepth 65536 in
theorem w_c5 : (Jvm.Cond.code ({ cls := "java/lang/StringUTF16", name := "compress", desc := "([CI[BII)I" } : Jvm.MethodName) jdk_52_method_21_code (7 : Nat) (Option.some Jvm.ClassFile.FieldType.int)).before args0 about1 = true := code_word (m := ⟨10, 3⟩) (meth := k10m3) (c := k10c3) (by decide +kernel) rfl rfl rfl (by decide +kernel)
set_option maxRecDepth 65536 in
theorem w_c6 : (Jvm.Cond.code ({ cls := "java/lang/StringUTF16", name := "coderFromArrayLen", desc := "([BI)B" } : Jvm.MethodName) jdk_52_method_15_code (2 : Nat) (Option.some Jvm.ClassFile.FieldType.byte)).before args0 about1 = true := code_word (m := ⟨10, 1⟩) (meth := k10m1) (c := k10c1) (by decide +kernel) rfl rfl rfl (by decide +kernel)
set_option maxRecDepth 65536 in
theorem w_c7 : (Jvm.Cond.code ({ cls := "com/example/callweave/callweave/junit/Framework", name := "conditionWithMessage", desc := "(Ljava/lang/String;Ljava/lang/String;)[Ljava/lang/String;" } : Jvm.MethodName) prog_31_method_8_code (3 : Nat) (Option.some (Jvm.ClassFile.FieldType.array (Jvm.ClassFile.FieldType.object "java/lang/String")))).before args0 about1 = true := code_word (m := ⟨6, 0⟩) (meth := k6m0) (c := k6c0) (by decide +kernel) rfl rfl rfl (by decide +kernel)
set_option maxRecDepth 65536 in
theorem w_c8 : (Jvm.Cond.code ({ cls := "java/lang/String", name := "equals", desc := "(Ljava/lang/Object;)Z" } : Jvm.MethodName) jdk_42_method_66_code (3 : Nat) (Option.some Jvm.ClassFile.FieldType.boolean)).before args0 about1 = true := code_word (m := ⟨9, 2⟩) (meth := k9m2) (c := k9c2) (by decide +kernel) rfl rfl rfl (by decide +kernel)
def codes1 : List Jvm.Cond := [Jvm.Cond.code x code maxLocals ret, Jvm.Cond.code ({ cls := "java/lang/String", name := "<init>", desc := "([C)V" } : Jvm.MethodName) jdk_42_method_3_code (2 : Nat) (Option.none : Option Jvm.ClassFile.FieldType), Jvm.Cond.code ({ cls := "java/lang/String", name := "<init>", desc := "([CIILjava/lang/Void;)V" } : Jvm.MethodName) jdk_42_method_149_code (6 : Nat) (Option.none : Option Jvm.ClassFile.FieldType), Jvm.Cond.code ({ cls := "java/lang/Object", name := "<init>", desc := "()V" } : Jvm.MethodName) object_method_1_code (1 : Nat) (Option.none : Option Jvm.ClassFile.FieldType), Jvm.Cond.code ({ cls := "java/lang/StringUTF16", name := "compress", desc := "([CII)[B" } : Jvm.MethodName) jdk_52_method_16_code (6 : Nat) (Option.some (Jvm.ClassFile.FieldType.array Jvm.ClassFile.FieldType.byte)), Jvm.Cond.code ({ cls := "java/lang/StringUTF16", name := "compress", desc := "([CI[BII)I" } : Jvm.MethodName) jdk_52_method_21_code (7 : Nat) (Option.some Jvm.ClassFile.FieldType.int), Jvm.Cond.code ({ cls := "java/lang/StringUTF16", name := "coderFromArrayLen", desc := "([BI)B" } : Jvm.MethodName) jdk_52_method_15_code (2 : Nat) (Option.some Jvm.ClassFile.FieldType.byte), Jvm.Cond.code ({ cls := "com/example/callweave/callweave/junit/Framework", name := "conditionWithMessage", desc := "(Ljava/lang/String;Ljava/lang/String;)[Ljava/lang/String;" } : Jvm.MethodName) prog_31_method_8_code (3 : Nat) (Option.some (Jvm.ClassFile.FieldType.array (Jvm.ClassFile.FieldType.object "java/lang/String"))), Jvm.Cond.code ({ cls := "java/lang/String", name := "equals", desc := "(Ljava/lang/Object;)Z" } : Jvm.MethodName) jdk_42_method_66_code (3 : Nat) (Option.some Jvm.ClassFile.FieldType.boolean)]
set_option maxRecDepth 65536 in
theorem codes_eq : words1.filter isCode = codes1 := rfl
theorem w_codes : ∀ c ∈ words1.filter isCode, c.before args0 about1 = true := by
  rw [codes_eq]
  intro c hc
  simp only [codes1, List.mem_cons, List.not_mem_nil, or_false] at hc
  rcases hc with rfl | rfl | rfl | rfl | rfl | rfl | rfl | rfl | rfl
  · exact w_c0
  · exact w_c1
  · exact w_c2
  · exact w_c3
  · exact w_c4
  · exact w_c5
  · exact w_c6
  · exact w_c7
  · exact w_c8
set_option maxRecDepth 65536 in
theorem w_t1 : (words1.take 24).all (fun c => isCode c || c.before args0 about1) = true := by decide +kernel
set_option maxRecDepth 65536 in
theorem w_t2 : ((words1.drop 24).take 24).all (fun c => isCode c || c.before args0 about1) = true := by decide +kernel
set_option maxRecDepth 65536 in
theorem w_t3 : ((words1.drop 24).drop 24).all (fun c => isCode c || c.before args0 about1) = true := by decide +kernel
theorem w_tables : (allAtoms (Jvm.Cond.code x code maxLocals ret :: tables_1)).before args0 about1 = true := by
  rw [allAtoms_all]
  show words1.all (fun c => c.before args0 about1) = true
  refine all_split ?_ w_codes
  rw [← List.take_append_drop 24 words1, List.all_append, w_t1, ← List.take_append_drop 24 (words1.drop 24), List.all_append, w_t2, w_t3]
  rfl
set_option maxRecDepth 65536 in
theorem w_rest : rest_1_c.before args0 about1 = true := by decide +kernel
set_option maxRecDepth 65536 in
theorem w_case : (Jvm.Cond.and given_1 narrow_1).before args0 about1 = true := by decide +kernel
theorem w_applies : (headSpec (Jvm.Cond.code x code maxLocals ret :: tables_1) room_1).applies x e0.platform about1 = true :=
  (Spec.applies_iff w_frames).mpr ⟨w_running, w_runnable, w_alone, w_named, w_hears, w_ripe, w_room, w_tables⟩
theorem atStart : AtStart classFile x code maxLocals ret World_1 tables_1 room_1 Calls_1 rest_1 Pre_1 launch0 p0 e0 about1 theMethod args0 below0 :=
  ⟨lists_1, trivial, launch0.admits_env _ _ _, launch0.least_env, fairChoices_fair.cas, fairChoices_fair.clock, w_frames, w_args, w_heap, w_applies, trivial, w_rest, w_case⟩
end start1
theorem witness_1 : WitnessClaimed_1 := ⟨start1.p0, start1.e0, start1.about1, start1.theMethod, start1.args0, start1.below0, start1.atStart⟩
end Jvm.Pilot.@@N@@
