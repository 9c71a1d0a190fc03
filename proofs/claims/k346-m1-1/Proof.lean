import JvmDerived
import JvmDerived.Pilot.@@N@@Statement
import JvmDerived.Pilot.@@N@@Code
set_option linter.unusedVariables false
set_option linter.unusedSimpArgs false
namespace Jvm.RoadKit
open Sem ClassFile Op Lib Jvm.Stand Jvm.Free Jvm.LawKit
section New
variable {p : Program} {l : Launch} {e : Env} {R : Room} {s : State} {m : MethodId} {args : Array Value} {below : List Frame} {meth : Method} {c : Code} {T : State} {locs : List Loc} {cells slots : Nat}
theorem retI (X : Stand p l e R s m args below meth c T locs cells slots) (hx : p.tables.exec = Jvm.exec) {pc : Nat} {Ls : Array Slot} {z : Int32} {rest : List Value} (hret : meth.sig.returnType = some .int) (hd : decode c.code pc = .ok (.ireturn, 1)) {fs : List Frame}
    (hl : ∀ (f : JFrame) (acts : List Action), f.method = m → f.locked = none → f.entered = [] → (doReturn e (T.setTop f) acts (some (.int z))).1 = T.setFrames fs) : Steps p.tables e below (T.setTop (mkF m pc Ls (.int z :: rest))) (T.setFrames fs) := by
  have hm' : T.vm.method? m = some meth := X.method'
  have hn : narrow .int (.int z) = .int z := rfl
  show Steps p.tables e below (T.setTop { method := m, pc := pc, locals := Ls, stack := _ :: rest, locked := none }) _
  jvm_step X.here [X.here.top, hx, hd, hm', hret, hn]
  first | (intro acts; rw [hl _ acts rfl rfl rfl]) | rw [hl _ _ rfl rfl rfl]
  exact Steps.refl _
end New
end Jvm.RoadKit
namespace Jvm.Pilot.@@N@@
open Jvm Jvm.ClassFile Sem Op Lib Jvm.Free Jvm.Stand Jvm.LawKit Jvm.RoadKit Bundle Jvm.Pilot.@@N@@.Jvm.D
section OwnRun
variable {p : Program} {l : Launch} {e : Env} {R : Room} {s : State} {m : MethodId} {args : Array Value} {below : List Frame} {meth : Method} {c : Code} {T T' : State} {locs : List Loc} {cells slots : Nat} {Q : Option Value → Heap → List Loc → Prop} {C S : Nat}
/-- from T with the frame g on top the body comes to its end, and what it leaves is as Q says -/
def ORun (p : Program) (e : Env) (below : List Frame) (s : State) (Q : Option Value → Heap → List Loc → Prop) (C S : Nat) (T : State) (g : JFrame) : Prop :=
  ∃ s₂ o, Steps p.tables e below (T.setTop g) s₂ ∧ s₂.status = .running ∧ Ended s₂ below o ∧ ∃ v L, o = .returned v ∧ Q v s₂.heap L ∧ FrameEnd s o s₂ L C S
theorem own_by {g g' : JFrame} (st : ∀ t, Steps p.tables e below (T'.setTop g') t → Steps p.tables e below (T.setTop g) t) (h : ORun p e below s Q C S T' g') : ORun p e below s Q C S T g := by
  obtain ⟨s₂, o, h1, h2⟩ := h
  exact ⟨s₂, o, st _ h1, h2⟩
theorem own_tr {g g' : JFrame} (st : Steps p.tables e below (T.setTop g) (T'.setTop g')) (h : ORun p e below s Q C S T' g') : ORun p e below s Q C S T g := own_by (fun _ k => st.trans k) h
theorem own_letI (x : Int32) {f : Int32 → JFrame} (h : ∀ v, v = x → ORun p e below s Q C S T (f v)) : ORun p e below s Q C S T (f x) := h x rfl
theorem own_letJ (x : Int64) {f : Int64 → JFrame} (h : ∀ v, v = x → ORun p e below s Q C S T (f v)) : ORun p e below s Q C S T (f x) := h x rfl
theorem own_retI (X : Stand p l e R s m args below meth c T locs cells slots) (hx : p.tables.exec = Jvm.exec) {pc : Nat} {Ls : Array Slot} {z : Int32} {rest : List Value} (hret : meth.sig.returnType = some .int) (hlk : meth.locks = false) (hd : decode c.code pc = .ok (.ireturn, 1)) (hc : cells ≤ C) (hs : slots ≤ S) (hQ : Q (some (.int z)) T.heap locs) :
    ORun p e below s Q C S T (mkF m pc Ls (.int z :: rest)) := by
  obtain ⟨fs, hr, hrun, hended, hW, hsame⟩ := X.leave (v := some (.int z)) (fun h => by rw [hret] at h; cases h) hlk
  exact ⟨_, _, retI X hx hret hd hr, hrun, hended, _, _, rfl, hQ, ⟨_, rfl⟩, hW, hsame.mono hc hs⟩
theorem own_retN (X : Stand p l e R s m args below meth c T locs cells slots) (hx : p.tables.exec = Jvm.exec) {pc : Nat} {Ls : Array Slot} {z : Int32} {t : FieldType} {rest : List Value} (hret : meth.sig.returnType = some t) (ht : t = .boolean ∨ t = .byte ∨ t = .char ∨ t = .short) (hlk : meth.locks = false) (hd : decode c.code pc = .ok (.ireturn, 1)) (hc : cells ≤ C) (hs : slots ≤ S) (hQ : Q (some (.int (nar t z))) T.heap locs) :
    ORun p e below s Q C S T (mkF m pc Ls (.int z :: rest)) := by
  obtain ⟨fs, hr, hrun, hended, hW, hsame⟩ := X.leave (v := some (.int (nar t z))) (fun h => by rw [hret] at h; cases h) hlk
  exact ⟨_, _, retN X hx hret ht hd hr, hrun, hended, _, _, rfl, hQ, ⟨_, rfl⟩, hW, hsame.mono hc hs⟩
theorem own_retJ (X : Stand p l e R s m args below meth c T locs cells slots) (hx : p.tables.exec = Jvm.exec) {pc : Nat} {Ls : Array Slot} {z : Int64} (hret : meth.sig.returnType = some .long) (hlk : meth.locks = false) (hd : decode c.code pc = .ok (.lreturn, 1)) (hc : cells ≤ C) (hs : slots ≤ S) (hQ : Q (some (.long z)) T.heap locs) :
    ORun p e below s Q C S T (mkF m pc Ls [.long z]) := by
  obtain ⟨fs, hr, hrun, hended, hW, hsame⟩ := X.leave (v := some (.long z)) (fun h => by rw [hret] at h; cases h) hlk
  exact ⟨_, _, X.lreturnOut hx hret hd hr, hrun, hended, _, _, rfl, hQ, ⟨_, rfl⟩, hW, hsame.mono hc hs⟩
theorem own_retA (X : Stand p l e R s m args below meth c T locs cells slots) (hx : p.tables.exec = Jvm.exec) {pc : Nat} {Ls : Array Slot} {z : Value} {t : FieldType} {rest : List Value} (hret : meth.sig.returnType = some t) (ht : t.isReference = true) (hz : z.isRef = true) (hn : narrow t z = z) (hlk : meth.locks = false) (hd : decode c.code pc = .ok (.areturn, 1)) (hc : cells ≤ C) (hs : slots ≤ S) (hQ : Q (some z) T.heap locs) :
    ORun p e below s Q C S T (mkF m pc Ls (z :: rest)) := by
  obtain ⟨fs, hr, hrun, hended, hW, hsame⟩ := X.leave (v := some z) (fun h => by rw [hret] at h; cases h) hlk
  exact ⟨_, _, retOut X hx hret hn (Or.inr (Or.inr (Or.inr (Or.inr ⟨rfl, ht, hz⟩)))) hd hr, hrun, hended, _, _, rfl, hQ, ⟨_, rfl⟩, hW, hsame.mono hc hs⟩
theorem own_retV (X : Stand p l e R s m args below meth c T locs cells slots) (hx : p.tables.exec = Jvm.exec) {pc : Nat} {Ls : Array Slot} (hret : meth.sig.returnType = none) (hlk : meth.locks = false) (hd : decode c.code pc = .ok (.return_, 1)) (hc : cells ≤ C) (hs : slots ≤ S) (hQ : Q none T.heap locs) :
    ORun p e below s Q C S T (mkF m pc Ls []) := by
  obtain ⟨fs, hr, hrun, hended, hW, hsame⟩ := X.leave (v := none) (fun _ => rfl) hlk
  exact ⟨_, _, X.returnOut hx hret hd hr, hrun, hended, _, _, rfl, hQ, ⟨_, rfl⟩, hW, hsame.mono hc hs⟩
/-- a body's contract: called with as at the heap h (tables as at Z) it returns, and what it leaves is as Q says -/
abbrev OMet (l : Launch) (y : MethodName) (bytes : ByteArray) (maxL : Nat) (ret : Option FieldType) (ws : List Jvm.Cond) (rm : Room) (as' : Array Value) (Z : State) (h : Heap) (Q : Option Value → Heap → List Loc → Prop) : Prop :=
  MetFree l y (head1 (Jvm.Cond.code y bytes maxL ret :: ws) rm) (fun a U => a = as' ∧ Z.Warmed39 U.vm ∧ U.heap = h) (fun _ _ _ _ _ => True) (fun _ U o U' => ∃ v L, o = .returned v ∧ Q v U'.heap L ∧ FrameEnd U o U' L rm.cells rm.slots)
theorem own_met {y : MethodName} {bytes : ByteArray} {maxL : Nat} {ret : Option FieldType} {ws : List Jvm.Cond} {rm : Room} {as' : Array Value} {Z : State} {h : Heap} {Q : Option Value → Heap → List Loc → Prop} (hpn : plainFor y = true)
    (body : ∀ p e s m below meth c s₁, Stand p l e rm s m as' below meth c s₁ [] 0 0 → p.tables.exec = Jvm.exec → c.code = bytes → c.maxLocals = maxL → s.vm.findClass y.cls = some m.cls → meth.name = y.name → meth.sig.returnType = ret → meth.locks = false → Z.Warmed39 s.vm → s₁.heap = h →
      ORun p e below s Q rm.cells rm.slots s₁ (entryFrame m as' maxL)) : OMet l y bytes maxL ret ws rm as' Z h Q := by
  refine MetFree.of_bodySF hpn hisR ?_
  intro p e s m args below meth c s₁ Bd hml0 hP hK
  obtain ⟨rfl, hZ, hh⟩ := hP
  exact body p e s m below meth c s₁ (Stand.of_body Bd) Bd.exec Bd.bytes hml0 (findClass_of_methodNamed Bd.named) (name_of_methodNamed Bd.named Bd.method).1 Bd.returns Bd.notSynchronized hZ (by rw [← hh, Bd.state]; rfl)
section Calls
variable {Z : State} {a0 : Array Value} {h : Heap} {own : String} {index : Nat} {y z : MethodName} {bytes : ByteArray} {maxL : Nat} {ret : Option FieldType} {rm : Room} {as' : Array Value} {Qc : Option Value → Heap → List Loc → Prop} {W pc : Nat} {Ls : Array Slot} {st argsL rest : List Value}
theorem own_callS (X : Stand p l e R s m args below meth c T locs cells slots) (hx : p.tables.exec = Jvm.exec) (hZ : Z.Warmed39 s.vm) (hown : s.vm.findClass own = some m.cls) (w1 : (Jvm.Cond.methodLink own index y).before a0 Z = true) (w2 : (Jvm.Cond.static y).before a0 Z = true) (w3 : (Jvm.Cond.initialized y.cls).before a0 Z = true) (w4 : (Jvm.Cond.code y bytes maxL ret).before a0 Z = true)
    (hy : y.cls ≠ "java/lang/invoke/MethodHandle" ∧ y.cls ≠ "java/lang/invoke/VarHandle") (M : OMet l y bytes maxL ret [] rm as' Z h Qc) (eT : T.heap = h) (hf : rm.frames + 1 ≤ R.frames) (hl : W + (maxL + 11) + rm.locals ≤ R.locals) (hc : cells + rm.cells ≤ R.cells) (hs : slots + rm.slots ≤ R.slots)
    (hsz : Ls.size = c.maxLocals) (hlen : ∀ sig, parseMethodDescriptor y.desc = some sig → argsL.length = sig.parameters.length) (hst : st = argsL.reverse ++ rest) (has : argsL.toArray = as') (hW : 2 * 0 + (rest.map fun v => v.category).sum ≤ W) (hd : decode c.code pc = .ok (.invokestatic index, 3))
    (K : ∀ T' L v, Stand p l e R s m args below meth c T' (locs ++ L) (cells + rm.cells) (slots + rm.slots) → Qc v T'.heap L → ORun p e below s Q C S T' (mkF m (pc + 3) Ls (v.toList ++ rest))) : ORun p e below s Q C S T (mkF m pc Ls st) := by
  obtain ⟨v, _, ⟨T', L', k', n'⟩, -, X', ⟨Lc, hQ, e1, e2, e3⟩, stp⟩ := Jvm.LawKit.callS X hx (y := y) hown (mvT hZ w1) (mvT hZ w2) (mvT hZ w3) (mvT hZ w4) hy (backOf (W := W) M hZ w4 w3 hf hl) (g := mkF m pc Ls st) rfl hsz (argsL := argsL) (rest := rest) hlen hst hW hd (fun _ _ => ⟨has, eT, hc, hs⟩)
  dsimp only [Pt.U, Pt.locs, Pt.cells, Pt.slots] at X' e1 e2 e3 stp hQ
  subst e1 e2 e3
  exact own_by stp (K T' Lc v X' hQ)
theorem own_callC (X : Stand p l e R s m args below meth c T locs cells slots) (hx : p.tables.exec = Jvm.exec) (hZ : Z.Warmed39 s.vm) (hown : s.vm.findClass own = some m.cls) (hn : y.name = "<init>") (w1 : (Jvm.Cond.methodLink own index y).before a0 Z = true) (w2 : (Jvm.Cond.instanceMethod y).before a0 Z = true) (w3 : (Jvm.Cond.initialized y.cls).before a0 Z = true) (w4 : (Jvm.Cond.code y bytes maxL none).before a0 Z = true)
    (hy : y.cls ≠ "java/lang/invoke/MethodHandle" ∧ y.cls ≠ "java/lang/invoke/VarHandle") (M : OMet l y bytes maxL none [] rm as' Z h Qc) (eT : T.heap = h) (hf : rm.frames + 1 ≤ R.frames) (hl : W + (maxL + 11) + rm.locals ≤ R.locals) (hc : cells + rm.cells ≤ R.cells) (hs : slots + rm.slots ≤ R.slots)
    {b : Addr} (hsz : Ls.size = c.maxLocals) (hlen : ∀ sig, parseMethodDescriptor y.desc = some sig → argsL.length = sig.parameters.length) (hst : st = argsL.reverse ++ .ref b :: rest) (has : (.ref b :: argsL).toArray = as') (hW : 2 * 0 + (rest.map fun v => v.category).sum ≤ W) (hd : decode c.code pc = .ok (.invokespecial index, 3))
    (K : ∀ T' L v, Stand p l e R s m args below meth c T' (locs ++ L) (cells + rm.cells) (slots + rm.slots) → Qc v T'.heap L → ORun p e below s Q C S T' (mkF m (pc + 3) Ls (v.toList ++ rest))) : ORun p e below s Q C S T (mkF m pc Ls st) := by
  obtain ⟨v, _, ⟨T', L', k', n'⟩, -, X', ⟨Lc, hQ, e1, e2, e3⟩, stp⟩ := X.specialBack hx (y := y) hn hown (mvT hZ w1) (mvT hZ w2) (mvT hZ w4) hy (backOf (W := W) M hZ w4 w3 hf hl) (g := mkF m pc Ls st) rfl hsz (Steps.refl _) (a := b) (argsL := argsL) (rest := rest) hlen hst hW hd (fun _ _ => ⟨has, eT, hc, hs⟩)
  dsimp only [Pt.U, Pt.locs, Pt.cells, Pt.slots] at X' e1 e2 e3 stp hQ
  subst e1 e2 e3
  exact own_tr stp (K T' Lc v X' hQ)
theorem own_callV (X : Stand p l e R s m args below meth c T locs cells slots) (hx : p.tables.exec = Jvm.exec) (hZ : Z.Warmed39 s.vm) (hown : s.vm.findClass own = some m.cls) {Cn : String} {b : Addr} (E : Exa Z h b Cn) (w1 : (Jvm.Cond.methodLink own index y).before a0 Z = true) (wd : (Jvm.Cond.declares y).before a0 Z = true) (nf : NotFace s y) (ws : (Jvm.Cond.selects Cn y z).before a0 Z = true) (w2 : (Jvm.Cond.instanceMethod z).before a0 Z = true) (w3 : (Jvm.Cond.initialized z.cls).before a0 Z = true) (w4 : (Jvm.Cond.code z bytes maxL ret).before a0 Z = true)
    (hy : y.cls ≠ "java/lang/invoke/MethodHandle" ∧ y.cls ≠ "java/lang/invoke/VarHandle") (M : OMet l z bytes maxL ret [] rm as' Z h Qc) (eT : T.heap = h) (hf : rm.frames + 1 ≤ R.frames) (hl : W + (maxL + 11) + rm.locals ≤ R.locals) (hc : cells + rm.cells ≤ R.cells) (hs : slots + rm.slots ≤ R.slots)
    (hsz : Ls.size = c.maxLocals) (hlen : ∀ sig, parseMethodDescriptor y.desc = some sig → argsL.length = sig.parameters.length) (hst : st = argsL.reverse ++ .ref b :: rest) (has : (.ref b :: argsL).toArray = as') (hW : 2 * 0 + (rest.map fun v => v.category).sum ≤ W) (hd : decode c.code pc = .ok (.invokevirtual index, 3))
    (K : ∀ T' L v, Stand p l e R s m args below meth c T' (locs ++ L) (cells + rm.cells) (slots + rm.slots) → Qc v T'.heap L → ORun p e below s Q C S T' (mkF m (pc + 3) Ls (v.toList ++ rest))) : ORun p e below s Q C S T (mkF m pc Ls st) := by
  obtain ⟨cq, kq, qa, qb, qc⟩ := isOf hZ eT E
  obtain ⟨v, _, ⟨T', L', k', n'⟩, -, X', ⟨Lc, hQ, e1, e2, e3⟩, stp⟩ := X.virtualBack hx (y := y) (z := z) hown (mvT hZ w1) (mvT hZ wd) nf (mvT hZ ws) (mvT hZ w2) hy (backOf (W := W) M hZ w4 w3 hf hl) qa qc (g := mkF m pc Ls st) rfl hsz (Steps.refl _) (argsL := argsL) (rest := rest) hlen hst hW hd (fun _ _ => ⟨has, eT, hc, hs⟩)
  dsimp only [Pt.U, Pt.locs, Pt.cells, Pt.slots] at X' e1 e2 e3 stp hQ
  subst e1 e2 e3
  exact own_tr stp (K T' Lc v X' hQ)
end Calls
end OwnRun
theorem own_lt {x y : Int32} {a b : Int} (h : x < y) (ha : x.toInt = a) (hb : y.toInt = b) : a < b := by subst ha hb; exact Int32.lt_iff_toInt_lt.mp h
theorem own_nlt {x y : Int32} {a b : Int} (h : ¬ x < y) (ha : x.toInt = a) (hb : y.toInt = b) : b ≤ a := by subst ha hb; exact Int.not_lt.mp fun q => h (Int32.lt_iff_toInt_lt.mpr q)
theorem own_eq {x y : Int32} {a b : Int} (h : x = y) (ha : x.toInt = a) (hb : y.toInt = b) : a = b := by subst ha hb h; rfl
theorem own_ne {x y : Int32} {a b : Int} (h : ¬ x = y) (ha : x.toInt = a) (hb : y.toInt = b) : a ≠ b := by subst ha hb; exact fun q => h (Int32.toInt_inj.mp q)
theorem own_ltL {x y : Int64} {a b : Int} (h : x < y) (ha : x.toInt = a) (hb : y.toInt = b) : a < b := by subst ha hb; exact Int64.lt_iff_toInt_lt.mp h
theorem own_nltL {x y : Int64} {a b : Int} (h : ¬ x < y) (ha : x.toInt = a) (hb : y.toInt = b) : b ≤ a := by subst ha hb; exact Int.not_lt.mp fun q => h (Int64.lt_iff_toInt_lt.mpr q)
theorem own_eqL {x y : Int64} {a b : Int} (h : x = y) (ha : x.toInt = a) (hb : y.toInt = b) : a = b := by subst ha hb h; rfl
theorem own_neL {x y : Int64} {a b : Int} (h : ¬ x = y) (ha : x.toInt = a) (hb : y.toInt = b) : a ≠ b := by subst ha hb; exact fun q => h (Int64.toInt_inj.mp q)
theorem own_lc {cd : ClassFile.Cond} {x y : Int64} {b : Bool} (h : if_icmp.holds cd (lcmpW x y) 0 = b) : ifCond.holds cd (lcmpW x y) = b := (if0 _ _).trans h
theorem own_lclt {x y : Int64} (h : x < y) : ifCond.holds .lt (lcmpW x y) = true ∧ ifCond.holds .ge (lcmpW x y) = false := ⟨own_lc (tlt ((lw_lt x y).mpr h)).1, own_lc (tlt ((lw_lt x y).mpr h)).2.1⟩
theorem own_lcnlt {x y : Int64} (h : ¬ x < y) : ifCond.holds .lt (lcmpW x y) = false ∧ ifCond.holds .ge (lcmpW x y) = true := have q : ¬ lcmpW x y < 0 := fun z => h ((lw_lt x y).mp z); ⟨own_lc (flt q).1, own_lc (flt q).2.1⟩
theorem own_lcgt {x y : Int64} (h : y < x) : ifCond.holds .gt (lcmpW x y) = true ∧ ifCond.holds .le (lcmpW x y) = false := ⟨own_lc (tlt ((lw_gt x y).mpr h)).2.2.1, own_lc (tlt ((lw_gt x y).mpr h)).2.2.2⟩
theorem own_lcngt {x y : Int64} (h : ¬ y < x) : ifCond.holds .gt (lcmpW x y) = false ∧ ifCond.holds .le (lcmpW x y) = true := have q : ¬ 0 < lcmpW x y := fun z => h ((lw_gt x y).mp z); ⟨own_lc (flt q).2.2.1, own_lc (flt q).2.2.2⟩
theorem own_lceq {x y : Int64} (h : x = y) : ifCond.holds .eq (lcmpW x y) = true ∧ ifCond.holds .ne (lcmpW x y) = false := ⟨own_lc (teq ((lw_eq x y).mpr h)).1, own_lc (teq ((lw_eq x y).mpr h)).2⟩
theorem own_lcne {x y : Int64} (h : ¬ x = y) : ifCond.holds .eq (lcmpW x y) = false ∧ ifCond.holds .ne (lcmpW x y) = true := have q : ¬ lcmpW x y = 0 := fun z => h ((lw_eq x y).mp z); ⟨own_lc (feq q).1, own_lc (feq q).2⟩
theorem own_kext {h0 h : Heap} (K : Keep h0 h []) : Ext h0 h := ⟨K.1, fun a c q => K.2.1 a c q nin0⟩
theorem own_bits (K : Int64) (P : Nat → Prop) (hP : ∀ n : Fin 64, (((K.toUInt64 >>> ((Int32.ofInt (n.1 : Int)) &&& 0x3f).toInt64.toUInt64).toInt64 &&& (1 : Int64)) = 0 ↔ ¬ P n.1)) (c : Int32) (h1 : 0 ≤ c.toInt) (h2 : c.toInt < 64) :
    (((K.toUInt64 >>> (c &&& 0x3f).toInt64.toUInt64).toInt64 &&& (1 : Int64)) = 0 ↔ ¬ P c.toInt.toNat) := by
  have h := hP ⟨c.toInt.toNat, by omega⟩
  have e : Int32.ofInt ((c.toInt.toNat : Nat) : Int) = c := by rw [Int.toNat_of_nonneg h1]; exact Int32.ofInt_toInt c
  simp only [e] at h
  exact h
theorem own_lo (c : Int32) (h1 : 0 ≤ c.toInt) (h2 : c.toInt < 64) : ((((287948901175001088 : Int64).toUInt64 >>> (c &&& 0x3f).toInt64.toUInt64).toInt64 &&& (1 : Int64)) = 0 ↔ ¬ (48 ≤ c.toInt.toNat ∧ c.toInt.toNat ≤ 57)) :=
  own_bits (287948901175001088 : Int64) (fun n => 48 ≤ n ∧ n ≤ 57) (by decide +kernel) c h1 h2
theorem own_hi (c : Int32) (h1 : 0 ≤ c.toInt) (h2 : c.toInt < 64) : ((((576460745995190270 : Int64).toUInt64 >>> (c &&& 0x3f).toInt64.toUInt64).toInt64 &&& (1 : Int64)) = 0 ↔ ¬ ((1 ≤ c.toInt.toNat ∧ c.toInt.toNat ≤ 26) ∨ c.toInt.toNat = 31 ∨ (33 ≤ c.toInt.toNat ∧ c.toInt.toNat ≤ 58))) :=
  own_bits (576460745995190270 : Int64) (fun n => (1 ≤ n ∧ n ≤ 26) ∨ n = 31 ∨ (33 ≤ n ∧ n ≤ 58)) (by decide +kernel) c h1 h2
theorem pd_0 : parseMethodDescriptor "(I)Z" = some ⟨[.int], some .boolean⟩ := by decide +kernel
theorem d1_0 : decode prog_2_method_2_code 0 = .ok (.iload_n 0, 1) := by decide +kernel
theorem d1_1 : decode prog_2_method_2_code 1 = .ok (.bipush 65, 2) := by decide +kernel
theorem d1_3 : decode prog_2_method_2_code 3 = .ok (.if_icmp .lt 9, 3) := by decide +kernel
theorem d1_6 : decode prog_2_method_2_code 6 = .ok (.iload_n 0, 1) := by decide +kernel
theorem d1_7 : decode prog_2_method_2_code 7 = .ok (.bipush 90, 2) := by decide +kernel
theorem d1_9 : decode prog_2_method_2_code 9 = .ok (.if_icmp .le 33, 3) := by decide +kernel
theorem d1_12 : decode prog_2_method_2_code 12 = .ok (.iload_n 0, 1) := by decide +kernel
theorem d1_13 : decode prog_2_method_2_code 13 = .ok (.bipush 97, 2) := by decide +kernel
theorem d1_15 : decode prog_2_method_2_code 15 = .ok (.if_icmp .lt 9, 3) := by decide +kernel
theorem d1_18 : decode prog_2_method_2_code 18 = .ok (.iload_n 0, 1) := by decide +kernel
theorem d1_19 : decode prog_2_method_2_code 19 = .ok (.bipush 122, 2) := by decide +kernel
theorem d1_21 : decode prog_2_method_2_code 21 = .ok (.if_icmp .le 21, 3) := by decide +kernel
theorem d1_24 : decode prog_2_method_2_code 24 = .ok (.iload_n 0, 1) := by decide +kernel
theorem d1_25 : decode prog_2_method_2_code 25 = .ok (.bipush 48, 2) := by decide +kernel
theorem d1_27 : decode prog_2_method_2_code 27 = .ok (.if_icmp .lt 9, 3) := by decide +kernel
theorem d1_30 : decode prog_2_method_2_code 30 = .ok (.iload_n 0, 1) := by decide +kernel
theorem d1_31 : decode prog_2_method_2_code 31 = .ok (.bipush 57, 2) := by decide +kernel
theorem d1_33 : decode prog_2_method_2_code 33 = .ok (.if_icmp .le 9, 3) := by decide +kernel
theorem d1_36 : decode prog_2_method_2_code 36 = .ok (.iload_n 0, 1) := by decide +kernel
theorem d1_37 : decode prog_2_method_2_code 37 = .ok (.bipush 95, 2) := by decide +kernel
theorem d1_39 : decode prog_2_method_2_code 39 = .ok (.if_icmp .ne 7, 3) := by decide +kernel
theorem d1_42 : decode prog_2_method_2_code 42 = .ok (.iconst 1, 1) := by decide +kernel
theorem d1_43 : decode prog_2_method_2_code 43 = .ok (.goto 4, 3) := by decide +kernel
theorem d1_46 : decode prog_2_method_2_code 46 = .ok (.iconst 0, 1) := by decide +kernel
theorem d1_47 : decode prog_2_method_2_code 47 = .ok (.ireturn, 1) := by decide +kernel
theorem pn_rm1 : plainName "com/example/oskolok/oskolok/Characters" = true := by first | (simp [plainName, overriddenIn]; done) | decide +kernel
theorem ef_rm1 (m : MethodId) (x0 : Int32) : entryFrame m #[(.int x0)] 1 = mkF m 0 #[.val (.int x0)] [] := by first | (simp [entryFrame, mkF, argsToLocals, Value.category]; done) | rfl
set_option maxRecDepth 65536 in
set_option maxHeartbeats 40000000 in
theorem rm1 (l : Launch) (Z : State) (a0 : Array Value) (hw : ∀ d ∈ tables_1, d.before a0 Z = true) (ws : List Jvm.Cond) (h0 : Heap) (n0 : Nat) (Z0 : n0 ≤ h0.size) (p1 : Int32) :
    OMet l (⟨"com/example/oskolok/oskolok/Characters", "isNamePart", "(I)Z"⟩ : MethodName) prog_2_method_2_code 1 (some .boolean) ws ({ frames := 0, cells := 0, slots := 0, locals := 0 } : Room) #[(.int p1)] Z h0 (fun v h L => ∃ r : Int32, v = some (.int r) ∧ ((r.toInt = 1 ∧ ((48 ≤ p1.toInt ∧ p1.toInt ≤ 57) ∨ (65 ≤ p1.toInt ∧ p1.toInt ≤ 90) ∨ p1.toInt = 95 ∨ (97 ≤ p1.toInt ∧ p1.toInt ≤ 122))) ∨ (r.toInt = 0 ∧ ¬ ((48 ≤ p1.toInt ∧ p1.toInt ≤ 57) ∨ (65 ≤ p1.toInt ∧ p1.toInt ≤ 90) ∨ p1.toInt = 95 ∨ (97 ≤ p1.toInt ∧ p1.toInt ≤ 122)))) ∧ Fr n0 L ∧ h = h0) := by
  refine own_met (plainFor_of_name pn_rm1) ?_
  intro p e s m below meth c s₁ X0 hx hby hml hown hnm hret hlk hZ e0
  rw [ef_rm1]
  have N0 := Fr.nil n0
  have rg_p1 := rng32 p1
  show ORun p e below s _ _ _ s₁ (mkF m 0 #[.val (.int p1)] [])
  refine own_by (fun t k => XS.iloadN X0.here hx rfl (hb hby d1_0) rfl k) ?_
  show ORun p e below s _ _ _ s₁ (mkF m 1 #[.val (.int p1)] [(.int p1)])
  refine own_by (fun t k => XS.bipush X0.here hx rfl (hb hby d1_1) k) ?_
  show ORun p e below s _ _ _ s₁ (mkF m 3 #[.val (.int p1)] [(.int (65 : Int32)), (.int p1)])
  by_cases hc1 : p1 < (65 : Int32)
  · have t1 := own_lt hc1 (a := p1.toInt) (b := 65) rfl (by decide)
    refine own_by (fun t k => XS.icmpYes X0.here hx rfl (pc0 := 3) (pc' := 12) rfl (hb hby d1_3) rfl (tlt hc1).1 (by decide) (by decide) k) ?_
    show ORun p e below s _ _ _ s₁ (mkF m 12 #[.val (.int p1)] [])
    refine own_by (fun t k => XS.iloadN X0.here hx rfl (hb hby d1_12) rfl k) ?_
    show ORun p e below s _ _ _ s₁ (mkF m 13 #[.val (.int p1)] [(.int p1)])
    refine own_by (fun t k => XS.bipush X0.here hx rfl (hb hby d1_13) k) ?_
    show ORun p e below s _ _ _ s₁ (mkF m 15 #[.val (.int p1)] [(.int (97 : Int32)), (.int p1)])
    by_cases hc2 : p1 < (97 : Int32)
    · have t2 := own_lt hc2 (a := p1.toInt) (b := 97) rfl (by decide)
      refine own_by (fun t k => XS.icmpYes X0.here hx rfl (pc0 := 15) (pc' := 24) rfl (hb hby d1_15) rfl (tlt hc2).1 (by decide) (by decide) k) ?_
      show ORun p e below s _ _ _ s₁ (mkF m 24 #[.val (.int p1)] [])
      refine own_by (fun t k => XS.iloadN X0.here hx rfl (hb hby d1_24) rfl k) ?_
      show ORun p e below s _ _ _ s₁ (mkF m 25 #[.val (.int p1)] [(.int p1)])
      refine own_by (fun t k => XS.bipush X0.here hx rfl (hb hby d1_25) k) ?_
      show ORun p e below s _ _ _ s₁ (mkF m 27 #[.val (.int p1)] [(.int (48 : Int32)), (.int p1)])
      by_cases hc3 : p1 < (48 : Int32)
      · have t3 := own_lt hc3 (a := p1.toInt) (b := 48) rfl (by decide)
        refine own_by (fun t k => XS.icmpYes X0.here hx rfl (pc0 := 27) (pc' := 36) rfl (hb hby d1_27) rfl (tlt hc3).1 (by decide) (by decide) k) ?_
        show ORun p e below s _ _ _ s₁ (mkF m 36 #[.val (.int p1)] [])
        refine own_by (fun t k => XS.iloadN X0.here hx rfl (hb hby d1_36) rfl k) ?_
        show ORun p e below s _ _ _ s₁ (mkF m 37 #[.val (.int p1)] [(.int p1)])
        refine own_by (fun t k => XS.bipush X0.here hx rfl (hb hby d1_37) k) ?_
        show ORun p e below s _ _ _ s₁ (mkF m 39 #[.val (.int p1)] [(.int (95 : Int32)), (.int p1)])
        by_cases hc4 : p1 = (95 : Int32)
        · have t4 := own_eq hc4 (a := p1.toInt) (b := 95) rfl (by decide)
          refine own_by (fun t k => XS.icmpNo X0.here hx rfl (hb hby d1_39) rfl (teq hc4).2 k) ?_
          show ORun p e below s _ _ _ s₁ (mkF m 42 #[.val (.int p1)] [])
          refine own_by (fun t k => XS.iconst X0.here hx rfl (hb hby d1_42) k) ?_
          show ORun p e below s _ _ _ s₁ (mkF m 43 #[.val (.int p1)] [(.int (1 : Int32))])
          refine own_by (fun t k => XS.goto X0.here hx rfl (pc0 := 43) (pc' := 47) rfl (hb hby d1_43) (by decide) (by decide) k) ?_
          show ORun p e below s _ _ _ s₁ (mkF m 47 #[.val (.int p1)] [(.int (1 : Int32))])
          refine own_retN X0 hx (t := .boolean) hret (by simp) hlk (hb hby d1_47) (by decide) (by decide) ?_
          exact ⟨1, rfl, Or.inl ⟨by decide, by omega⟩, N0, e0⟩
        · have t4 := own_ne hc4 (a := p1.toInt) (b := 95) rfl (by decide)
          refine own_by (fun t k => XS.icmpYes X0.here hx rfl (pc0 := 39) (pc' := 46) rfl (hb hby d1_39) rfl (feq hc4).2 (by decide) (by decide) k) ?_
          show ORun p e below s _ _ _ s₁ (mkF m 46 #[.val (.int p1)] [])
          refine own_by (fun t k => XS.iconst X0.here hx rfl (hb hby d1_46) k) ?_
          show ORun p e below s _ _ _ s₁ (mkF m 47 #[.val (.int p1)] [(.int (0 : Int32))])
          refine own_retN X0 hx (t := .boolean) hret (by simp) hlk (hb hby d1_47) (by decide) (by decide) ?_
          exact ⟨0, rfl, Or.inr ⟨by decide, by omega⟩, N0, e0⟩
      · have t3 := own_nlt hc3 (a := p1.toInt) (b := 48) rfl (by decide)
        refine own_by (fun t k => XS.icmpNo X0.here hx rfl (hb hby d1_27) rfl (flt hc3).1 k) ?_
        show ORun p e below s _ _ _ s₁ (mkF m 30 #[.val (.int p1)] [])
        refine own_by (fun t k => XS.iloadN X0.here hx rfl (hb hby d1_30) rfl k) ?_
        show ORun p e below s _ _ _ s₁ (mkF m 31 #[.val (.int p1)] [(.int p1)])
        refine own_by (fun t k => XS.bipush X0.here hx rfl (hb hby d1_31) k) ?_
        show ORun p e below s _ _ _ s₁ (mkF m 33 #[.val (.int p1)] [(.int (57 : Int32)), (.int p1)])
        by_cases hc5 : (57 : Int32) < p1
        · have t5 := own_lt hc5 (a := 57) (b := p1.toInt) (by decide) rfl
          refine own_by (fun t k => XS.icmpNo X0.here hx rfl (hb hby d1_33) rfl (tlt hc5).2.2.2 k) ?_
          show ORun p e below s _ _ _ s₁ (mkF m 36 #[.val (.int p1)] [])
          refine own_by (fun t k => XS.iloadN X0.here hx rfl (hb hby d1_36) rfl k) ?_
          show ORun p e below s _ _ _ s₁ (mkF m 37 #[.val (.int p1)] [(.int p1)])
          refine own_by (fun t k => XS.bipush X0.here hx rfl (hb hby d1_37) k) ?_
          show ORun p e below s _ _ _ s₁ (mkF m 39 #[.val (.int p1)] [(.int (95 : Int32)), (.int p1)])
          by_cases hc6 : p1 = (95 : Int32)
          · have t6 := own_eq hc6 (a := p1.toInt) (b := 95) rfl (by decide)
            refine own_by (fun t k => XS.icmpNo X0.here hx rfl (hb hby d1_39) rfl (teq hc6).2 k) ?_
            show ORun p e below s _ _ _ s₁ (mkF m 42 #[.val (.int p1)] [])
            refine own_by (fun t k => XS.iconst X0.here hx rfl (hb hby d1_42) k) ?_
            show ORun p e below s _ _ _ s₁ (mkF m 43 #[.val (.int p1)] [(.int (1 : Int32))])
            refine own_by (fun t k => XS.goto X0.here hx rfl (pc0 := 43) (pc' := 47) rfl (hb hby d1_43) (by decide) (by decide) k) ?_
            show ORun p e below s _ _ _ s₁ (mkF m 47 #[.val (.int p1)] [(.int (1 : Int32))])
            refine own_retN X0 hx (t := .boolean) hret (by simp) hlk (hb hby d1_47) (by decide) (by decide) ?_
            exact ⟨1, rfl, Or.inl ⟨by decide, by omega⟩, N0, e0⟩
          · have t6 := own_ne hc6 (a := p1.toInt) (b := 95) rfl (by decide)
            refine own_by (fun t k => XS.icmpYes X0.here hx rfl (pc0 := 39) (pc' := 46) rfl (hb hby d1_39) rfl (feq hc6).2 (by decide) (by decide) k) ?_
            show ORun p e below s _ _ _ s₁ (mkF m 46 #[.val (.int p1)] [])
            refine own_by (fun t k => XS.iconst X0.here hx rfl (hb hby d1_46) k) ?_
            show ORun p e below s _ _ _ s₁ (mkF m 47 #[.val (.int p1)] [(.int (0 : Int32))])
            refine own_retN X0 hx (t := .boolean) hret (by simp) hlk (hb hby d1_47) (by decide) (by decide) ?_
            exact ⟨0, rfl, Or.inr ⟨by decide, by omega⟩, N0, e0⟩
        · have t5 := own_nlt hc5 (a := 57) (b := p1.toInt) (by decide) rfl
          refine own_by (fun t k => XS.icmpYes X0.here hx rfl (pc0 := 33) (pc' := 42) rfl (hb hby d1_33) rfl (flt hc5).2.2.2 (by decide) (by decide) k) ?_
          show ORun p e below s _ _ _ s₁ (mkF m 42 #[.val (.int p1)] [])
          refine own_by (fun t k => XS.iconst X0.here hx rfl (hb hby d1_42) k) ?_
          show ORun p e below s _ _ _ s₁ (mkF m 43 #[.val (.int p1)] [(.int (1 : Int32))])
          refine own_by (fun t k => XS.goto X0.here hx rfl (pc0 := 43) (pc' := 47) rfl (hb hby d1_43) (by decide) (by decide) k) ?_
          show ORun p e below s _ _ _ s₁ (mkF m 47 #[.val (.int p1)] [(.int (1 : Int32))])
          refine own_retN X0 hx (t := .boolean) hret (by simp) hlk (hb hby d1_47) (by decide) (by decide) ?_
          exact ⟨1, rfl, Or.inl ⟨by decide, by omega⟩, N0, e0⟩
    · have t2 := own_nlt hc2 (a := p1.toInt) (b := 97) rfl (by decide)
      refine own_by (fun t k => XS.icmpNo X0.here hx rfl (hb hby d1_15) rfl (flt hc2).1 k) ?_
      show ORun p e below s _ _ _ s₁ (mkF m 18 #[.val (.int p1)] [])
      refine own_by (fun t k => XS.iloadN X0.here hx rfl (hb hby d1_18) rfl k) ?_
      show ORun p e below s _ _ _ s₁ (mkF m 19 #[.val (.int p1)] [(.int p1)])
      refine own_by (fun t k => XS.bipush X0.here hx rfl (hb hby d1_19) k) ?_
      show ORun p e below s _ _ _ s₁ (mkF m 21 #[.val (.int p1)] [(.int (122 : Int32)), (.int p1)])
      by_cases hc7 : (122 : Int32) < p1
      · have t7 := own_lt hc7 (a := 122) (b := p1.toInt) (by decide) rfl
        refine own_by (fun t k => XS.icmpNo X0.here hx rfl (hb hby d1_21) rfl (tlt hc7).2.2.2 k) ?_
        show ORun p e below s _ _ _ s₁ (mkF m 24 #[.val (.int p1)] [])
        refine own_by (fun t k => XS.iloadN X0.here hx rfl (hb hby d1_24) rfl k) ?_
        show ORun p e below s _ _ _ s₁ (mkF m 25 #[.val (.int p1)] [(.int p1)])
        refine own_by (fun t k => XS.bipush X0.here hx rfl (hb hby d1_25) k) ?_
        show ORun p e below s _ _ _ s₁ (mkF m 27 #[.val (.int p1)] [(.int (48 : Int32)), (.int p1)])
        by_cases hc8 : p1 < (48 : Int32)
        · have t8 := own_lt hc8 (a := p1.toInt) (b := 48) rfl (by decide)
          refine own_by (fun t k => XS.icmpYes X0.here hx rfl (pc0 := 27) (pc' := 36) rfl (hb hby d1_27) rfl (tlt hc8).1 (by decide) (by decide) k) ?_
          show ORun p e below s _ _ _ s₁ (mkF m 36 #[.val (.int p1)] [])
          refine own_by (fun t k => XS.iloadN X0.here hx rfl (hb hby d1_36) rfl k) ?_
          show ORun p e below s _ _ _ s₁ (mkF m 37 #[.val (.int p1)] [(.int p1)])
          refine own_by (fun t k => XS.bipush X0.here hx rfl (hb hby d1_37) k) ?_
          show ORun p e below s _ _ _ s₁ (mkF m 39 #[.val (.int p1)] [(.int (95 : Int32)), (.int p1)])
          by_cases hc9 : p1 = (95 : Int32)
          · have t9 := own_eq hc9 (a := p1.toInt) (b := 95) rfl (by decide)
            refine own_by (fun t k => XS.icmpNo X0.here hx rfl (hb hby d1_39) rfl (teq hc9).2 k) ?_
            show ORun p e below s _ _ _ s₁ (mkF m 42 #[.val (.int p1)] [])
            refine own_by (fun t k => XS.iconst X0.here hx rfl (hb hby d1_42) k) ?_
            show ORun p e below s _ _ _ s₁ (mkF m 43 #[.val (.int p1)] [(.int (1 : Int32))])
            refine own_by (fun t k => XS.goto X0.here hx rfl (pc0 := 43) (pc' := 47) rfl (hb hby d1_43) (by decide) (by decide) k) ?_
            show ORun p e below s _ _ _ s₁ (mkF m 47 #[.val (.int p1)] [(.int (1 : Int32))])
            refine own_retN X0 hx (t := .boolean) hret (by simp) hlk (hb hby d1_47) (by decide) (by decide) ?_
            exact ⟨1, rfl, Or.inl ⟨by decide, by omega⟩, N0, e0⟩
          · have t9 := own_ne hc9 (a := p1.toInt) (b := 95) rfl (by decide)
            refine own_by (fun t k => XS.icmpYes X0.here hx rfl (pc0 := 39) (pc' := 46) rfl (hb hby d1_39) rfl (feq hc9).2 (by decide) (by decide) k) ?_
            show ORun p e below s _ _ _ s₁ (mkF m 46 #[.val (.int p1)] [])
            refine own_by (fun t k => XS.iconst X0.here hx rfl (hb hby d1_46) k) ?_
            show ORun p e below s _ _ _ s₁ (mkF m 47 #[.val (.int p1)] [(.int (0 : Int32))])
            refine own_retN X0 hx (t := .boolean) hret (by simp) hlk (hb hby d1_47) (by decide) (by decide) ?_
            exact ⟨0, rfl, Or.inr ⟨by decide, by omega⟩, N0, e0⟩
        · have t8 := own_nlt hc8 (a := p1.toInt) (b := 48) rfl (by decide)
          refine own_by (fun t k => XS.icmpNo X0.here hx rfl (hb hby d1_27) rfl (flt hc8).1 k) ?_
          show ORun p e below s _ _ _ s₁ (mkF m 30 #[.val (.int p1)] [])
          refine own_by (fun t k => XS.iloadN X0.here hx rfl (hb hby d1_30) rfl k) ?_
          show ORun p e below s _ _ _ s₁ (mkF m 31 #[.val (.int p1)] [(.int p1)])
          refine own_by (fun t k => XS.bipush X0.here hx rfl (hb hby d1_31) k) ?_
          show ORun p e below s _ _ _ s₁ (mkF m 33 #[.val (.int p1)] [(.int (57 : Int32)), (.int p1)])
          by_cases hc10 : (57 : Int32) < p1
          · have t10 := own_lt hc10 (a := 57) (b := p1.toInt) (by decide) rfl
            refine own_by (fun t k => XS.icmpNo X0.here hx rfl (hb hby d1_33) rfl (tlt hc10).2.2.2 k) ?_
            show ORun p e below s _ _ _ s₁ (mkF m 36 #[.val (.int p1)] [])
            refine own_by (fun t k => XS.iloadN X0.here hx rfl (hb hby d1_36) rfl k) ?_
            show ORun p e below s _ _ _ s₁ (mkF m 37 #[.val (.int p1)] [(.int p1)])
            refine own_by (fun t k => XS.bipush X0.here hx rfl (hb hby d1_37) k) ?_
            show ORun p e below s _ _ _ s₁ (mkF m 39 #[.val (.int p1)] [(.int (95 : Int32)), (.int p1)])
            by_cases hc11 : p1 = (95 : Int32)
            · have t11 := own_eq hc11 (a := p1.toInt) (b := 95) rfl (by decide)
              refine own_by (fun t k => XS.icmpNo X0.here hx rfl (hb hby d1_39) rfl (teq hc11).2 k) ?_
              show ORun p e below s _ _ _ s₁ (mkF m 42 #[.val (.int p1)] [])
              refine own_by (fun t k => XS.iconst X0.here hx rfl (hb hby d1_42) k) ?_
              show ORun p e below s _ _ _ s₁ (mkF m 43 #[.val (.int p1)] [(.int (1 : Int32))])
              refine own_by (fun t k => XS.goto X0.here hx rfl (pc0 := 43) (pc' := 47) rfl (hb hby d1_43) (by decide) (by decide) k) ?_
              show ORun p e below s _ _ _ s₁ (mkF m 47 #[.val (.int p1)] [(.int (1 : Int32))])
              refine own_retN X0 hx (t := .boolean) hret (by simp) hlk (hb hby d1_47) (by decide) (by decide) ?_
              exact ⟨1, rfl, Or.inl ⟨by decide, by omega⟩, N0, e0⟩
            · have t11 := own_ne hc11 (a := p1.toInt) (b := 95) rfl (by decide)
              refine own_by (fun t k => XS.icmpYes X0.here hx rfl (pc0 := 39) (pc' := 46) rfl (hb hby d1_39) rfl (feq hc11).2 (by decide) (by decide) k) ?_
              show ORun p e below s _ _ _ s₁ (mkF m 46 #[.val (.int p1)] [])
              refine own_by (fun t k => XS.iconst X0.here hx rfl (hb hby d1_46) k) ?_
              show ORun p e below s _ _ _ s₁ (mkF m 47 #[.val (.int p1)] [(.int (0 : Int32))])
              refine own_retN X0 hx (t := .boolean) hret (by simp) hlk (hb hby d1_47) (by decide) (by decide) ?_
              exact ⟨0, rfl, Or.inr ⟨by decide, by omega⟩, N0, e0⟩
          · have t10 := own_nlt hc10 (a := 57) (b := p1.toInt) (by decide) rfl
            refine own_by (fun t k => XS.icmpYes X0.here hx rfl (pc0 := 33) (pc' := 42) rfl (hb hby d1_33) rfl (flt hc10).2.2.2 (by decide) (by decide) k) ?_
            show ORun p e below s _ _ _ s₁ (mkF m 42 #[.val (.int p1)] [])
            refine own_by (fun t k => XS.iconst X0.here hx rfl (hb hby d1_42) k) ?_
            show ORun p e below s _ _ _ s₁ (mkF m 43 #[.val (.int p1)] [(.int (1 : Int32))])
            refine own_by (fun t k => XS.goto X0.here hx rfl (pc0 := 43) (pc' := 47) rfl (hb hby d1_43) (by decide) (by decide) k) ?_
            show ORun p e below s _ _ _ s₁ (mkF m 47 #[.val (.int p1)] [(.int (1 : Int32))])
            refine own_retN X0 hx (t := .boolean) hret (by simp) hlk (hb hby d1_47) (by decide) (by decide) ?_
            exact ⟨1, rfl, Or.inl ⟨by decide, by omega⟩, N0, e0⟩
      · have t7 := own_nlt hc7 (a := 122) (b := p1.toInt) (by decide) rfl
        refine own_by (fun t k => XS.icmpYes X0.here hx rfl (pc0 := 21) (pc' := 42) rfl (hb hby d1_21) rfl (flt hc7).2.2.2 (by decide) (by decide) k) ?_
        show ORun p e below s _ _ _ s₁ (mkF m 42 #[.val (.int p1)] [])
        refine own_by (fun t k => XS.iconst X0.here hx rfl (hb hby d1_42) k) ?_
        show ORun p e below s _ _ _ s₁ (mkF m 43 #[.val (.int p1)] [(.int (1 : Int32))])
        refine own_by (fun t k => XS.goto X0.here hx rfl (pc0 := 43) (pc' := 47) rfl (hb hby d1_43) (by decide) (by decide) k) ?_
        show ORun p e below s _ _ _ s₁ (mkF m 47 #[.val (.int p1)] [(.int (1 : Int32))])
        refine own_retN X0 hx (t := .boolean) hret (by simp) hlk (hb hby d1_47) (by decide) (by decide) ?_
        exact ⟨1, rfl, Or.inl ⟨by decide, by omega⟩, N0, e0⟩
  · have t1 := own_nlt hc1 (a := p1.toInt) (b := 65) rfl (by decide)
    refine own_by (fun t k => XS.icmpNo X0.here hx rfl (hb hby d1_3) rfl (flt hc1).1 k) ?_
    show ORun p e below s _ _ _ s₁ (mkF m 6 #[.val (.int p1)] [])
    refine own_by (fun t k => XS.iloadN X0.here hx rfl (hb hby d1_6) rfl k) ?_
    show ORun p e below s _ _ _ s₁ (mkF m 7 #[.val (.int p1)] [(.int p1)])
    refine own_by (fun t k => XS.bipush X0.here hx rfl (hb hby d1_7) k) ?_
    show ORun p e below s _ _ _ s₁ (mkF m 9 #[.val (.int p1)] [(.int (90 : Int32)), (.int p1)])
    by_cases hc12 : (90 : Int32) < p1
    · have t12 := own_lt hc12 (a := 90) (b := p1.toInt) (by decide) rfl
      refine own_by (fun t k => XS.icmpNo X0.here hx rfl (hb hby d1_9) rfl (tlt hc12).2.2.2 k) ?_
      show ORun p e below s _ _ _ s₁ (mkF m 12 #[.val (.int p1)] [])
      refine own_by (fun t k => XS.iloadN X0.here hx rfl (hb hby d1_12) rfl k) ?_
      show ORun p e below s _ _ _ s₁ (mkF m 13 #[.val (.int p1)] [(.int p1)])
      refine own_by (fun t k => XS.bipush X0.here hx rfl (hb hby d1_13) k) ?_
      show ORun p e below s _ _ _ s₁ (mkF m 15 #[.val (.int p1)] [(.int (97 : Int32)), (.int p1)])
      by_cases hc13 : p1 < (97 : Int32)
      · have t13 := own_lt hc13 (a := p1.toInt) (b := 97) rfl (by decide)
        refine own_by (fun t k => XS.icmpYes X0.here hx rfl (pc0 := 15) (pc' := 24) rfl (hb hby d1_15) rfl (tlt hc13).1 (by decide) (by decide) k) ?_
        show ORun p e below s _ _ _ s₁ (mkF m 24 #[.val (.int p1)] [])
        refine own_by (fun t k => XS.iloadN X0.here hx rfl (hb hby d1_24) rfl k) ?_
        show ORun p e below s _ _ _ s₁ (mkF m 25 #[.val (.int p1)] [(.int p1)])
        refine own_by (fun t k => XS.bipush X0.here hx rfl (hb hby d1_25) k) ?_
        show ORun p e below s _ _ _ s₁ (mkF m 27 #[.val (.int p1)] [(.int (48 : Int32)), (.int p1)])
        by_cases hc14 : p1 < (48 : Int32)
        · have t14 := own_lt hc14 (a := p1.toInt) (b := 48) rfl (by decide)
          refine own_by (fun t k => XS.icmpYes X0.here hx rfl (pc0 := 27) (pc' := 36) rfl (hb hby d1_27) rfl (tlt hc14).1 (by decide) (by decide) k) ?_
          show ORun p e below s _ _ _ s₁ (mkF m 36 #[.val (.int p1)] [])
          refine own_by (fun t k => XS.iloadN X0.here hx rfl (hb hby d1_36) rfl k) ?_
          show ORun p e below s _ _ _ s₁ (mkF m 37 #[.val (.int p1)] [(.int p1)])
          refine own_by (fun t k => XS.bipush X0.here hx rfl (hb hby d1_37) k) ?_
          show ORun p e below s _ _ _ s₁ (mkF m 39 #[.val (.int p1)] [(.int (95 : Int32)), (.int p1)])
          by_cases hc15 : p1 = (95 : Int32)
          · have t15 := own_eq hc15 (a := p1.toInt) (b := 95) rfl (by decide)
            refine own_by (fun t k => XS.icmpNo X0.here hx rfl (hb hby d1_39) rfl (teq hc15).2 k) ?_
            show ORun p e below s _ _ _ s₁ (mkF m 42 #[.val (.int p1)] [])
            refine own_by (fun t k => XS.iconst X0.here hx rfl (hb hby d1_42) k) ?_
            show ORun p e below s _ _ _ s₁ (mkF m 43 #[.val (.int p1)] [(.int (1 : Int32))])
            refine own_by (fun t k => XS.goto X0.here hx rfl (pc0 := 43) (pc' := 47) rfl (hb hby d1_43) (by decide) (by decide) k) ?_
            show ORun p e below s _ _ _ s₁ (mkF m 47 #[.val (.int p1)] [(.int (1 : Int32))])
            refine own_retN X0 hx (t := .boolean) hret (by simp) hlk (hb hby d1_47) (by decide) (by decide) ?_
            exact ⟨1, rfl, Or.inl ⟨by decide, by omega⟩, N0, e0⟩
          · have t15 := own_ne hc15 (a := p1.toInt) (b := 95) rfl (by decide)
            refine own_by (fun t k => XS.icmpYes X0.here hx rfl (pc0 := 39) (pc' := 46) rfl (hb hby d1_39) rfl (feq hc15).2 (by decide) (by decide) k) ?_
            show ORun p e below s _ _ _ s₁ (mkF m 46 #[.val (.int p1)] [])
            refine own_by (fun t k => XS.iconst X0.here hx rfl (hb hby d1_46) k) ?_
            show ORun p e below s _ _ _ s₁ (mkF m 47 #[.val (.int p1)] [(.int (0 : Int32))])
            refine own_retN X0 hx (t := .boolean) hret (by simp) hlk (hb hby d1_47) (by decide) (by decide) ?_
            exact ⟨0, rfl, Or.inr ⟨by decide, by omega⟩, N0, e0⟩
        · have t14 := own_nlt hc14 (a := p1.toInt) (b := 48) rfl (by decide)
          refine own_by (fun t k => XS.icmpNo X0.here hx rfl (hb hby d1_27) rfl (flt hc14).1 k) ?_
          show ORun p e below s _ _ _ s₁ (mkF m 30 #[.val (.int p1)] [])
          refine own_by (fun t k => XS.iloadN X0.here hx rfl (hb hby d1_30) rfl k) ?_
          show ORun p e below s _ _ _ s₁ (mkF m 31 #[.val (.int p1)] [(.int p1)])
          refine own_by (fun t k => XS.bipush X0.here hx rfl (hb hby d1_31) k) ?_
          show ORun p e below s _ _ _ s₁ (mkF m 33 #[.val (.int p1)] [(.int (57 : Int32)), (.int p1)])
          by_cases hc16 : (57 : Int32) < p1
          · have t16 := own_lt hc16 (a := 57) (b := p1.toInt) (by decide) rfl
            refine own_by (fun t k => XS.icmpNo X0.here hx rfl (hb hby d1_33) rfl (tlt hc16).2.2.2 k) ?_
            show ORun p e below s _ _ _ s₁ (mkF m 36 #[.val (.int p1)] [])
            refine own_by (fun t k => XS.iloadN X0.here hx rfl (hb hby d1_36) rfl k) ?_
            show ORun p e below s _ _ _ s₁ (mkF m 37 #[.val (.int p1)] [(.int p1)])
            refine own_by (fun t k => XS.bipush X0.here hx rfl (hb hby d1_37) k) ?_
            show ORun p e below s _ _ _ s₁ (mkF m 39 #[.val (.int p1)] [(.int (95 : Int32)), (.int p1)])
            by_cases hc17 : p1 = (95 : Int32)
            · have t17 := own_eq hc17 (a := p1.toInt) (b := 95) rfl (by decide)
              refine own_by (fun t k => XS.icmpNo X0.here hx rfl (hb hby d1_39) rfl (teq hc17).2 k) ?_
              show ORun p e below s _ _ _ s₁ (mkF m 42 #[.val (.int p1)] [])
              refine own_by (fun t k => XS.iconst X0.here hx rfl (hb hby d1_42) k) ?_
              show ORun p e below s _ _ _ s₁ (mkF m 43 #[.val (.int p1)] [(.int (1 : Int32))])
              refine own_by (fun t k => XS.goto X0.here hx rfl (pc0 := 43) (pc' := 47) rfl (hb hby d1_43) (by decide) (by decide) k) ?_
              show ORun p e below s _ _ _ s₁ (mkF m 47 #[.val (.int p1)] [(.int (1 : Int32))])
              refine own_retN X0 hx (t := .boolean) hret (by simp) hlk (hb hby d1_47) (by decide) (by decide) ?_
              exact ⟨1, rfl, Or.inl ⟨by decide, by omega⟩, N0, e0⟩
            · have t17 := own_ne hc17 (a := p1.toInt) (b := 95) rfl (by decide)
              refine own_by (fun t k => XS.icmpYes X0.here hx rfl (pc0 := 39) (pc' := 46) rfl (hb hby d1_39) rfl (feq hc17).2 (by decide) (by decide) k) ?_
              show ORun p e below s _ _ _ s₁ (mkF m 46 #[.val (.int p1)] [])
              refine own_by (fun t k => XS.iconst X0.here hx rfl (hb hby d1_46) k) ?_
              show ORun p e below s _ _ _ s₁ (mkF m 47 #[.val (.int p1)] [(.int (0 : Int32))])
              refine own_retN X0 hx (t := .boolean) hret (by simp) hlk (hb hby d1_47) (by decide) (by decide) ?_
              exact ⟨0, rfl, Or.inr ⟨by decide, by omega⟩, N0, e0⟩
          · have t16 := own_nlt hc16 (a := 57) (b := p1.toInt) (by decide) rfl
            refine own_by (fun t k => XS.icmpYes X0.here hx rfl (pc0 := 33) (pc' := 42) rfl (hb hby d1_33) rfl (flt hc16).2.2.2 (by decide) (by decide) k) ?_
            show ORun p e below s _ _ _ s₁ (mkF m 42 #[.val (.int p1)] [])
            refine own_by (fun t k => XS.iconst X0.here hx rfl (hb hby d1_42) k) ?_
            show ORun p e below s _ _ _ s₁ (mkF m 43 #[.val (.int p1)] [(.int (1 : Int32))])
            refine own_by (fun t k => XS.goto X0.here hx rfl (pc0 := 43) (pc' := 47) rfl (hb hby d1_43) (by decide) (by decide) k) ?_
            show ORun p e below s _ _ _ s₁ (mkF m 47 #[.val (.int p1)] [(.int (1 : Int32))])
            refine own_retN X0 hx (t := .boolean) hret (by simp) hlk (hb hby d1_47) (by decide) (by decide) ?_
            exact ⟨1, rfl, Or.inl ⟨by decide, by omega⟩, N0, e0⟩
      · have t13 := own_nlt hc13 (a := p1.toInt) (b := 97) rfl (by decide)
        refine own_by (fun t k => XS.icmpNo X0.here hx rfl (hb hby d1_15) rfl (flt hc13).1 k) ?_
        show ORun p e below s _ _ _ s₁ (mkF m 18 #[.val (.int p1)] [])
        refine own_by (fun t k => XS.iloadN X0.here hx rfl (hb hby d1_18) rfl k) ?_
        show ORun p e below s _ _ _ s₁ (mkF m 19 #[.val (.int p1)] [(.int p1)])
        refine own_by (fun t k => XS.bipush X0.here hx rfl (hb hby d1_19) k) ?_
        show ORun p e below s _ _ _ s₁ (mkF m 21 #[.val (.int p1)] [(.int (122 : Int32)), (.int p1)])
        by_cases hc18 : (122 : Int32) < p1
        · have t18 := own_lt hc18 (a := 122) (b := p1.toInt) (by decide) rfl
          refine own_by (fun t k => XS.icmpNo X0.here hx rfl (hb hby d1_21) rfl (tlt hc18).2.2.2 k) ?_
          show ORun p e below s _ _ _ s₁ (mkF m 24 #[.val (.int p1)] [])
          refine own_by (fun t k => XS.iloadN X0.here hx rfl (hb hby d1_24) rfl k) ?_
          show ORun p e below s _ _ _ s₁ (mkF m 25 #[.val (.int p1)] [(.int p1)])
          refine own_by (fun t k => XS.bipush X0.here hx rfl (hb hby d1_25) k) ?_
          show ORun p e below s _ _ _ s₁ (mkF m 27 #[.val (.int p1)] [(.int (48 : Int32)), (.int p1)])
          by_cases hc19 : p1 < (48 : Int32)
          · have t19 := own_lt hc19 (a := p1.toInt) (b := 48) rfl (by decide)
            refine own_by (fun t k => XS.icmpYes X0.here hx rfl (pc0 := 27) (pc' := 36) rfl (hb hby d1_27) rfl (tlt hc19).1 (by decide) (by decide) k) ?_
            show ORun p e below s _ _ _ s₁ (mkF m 36 #[.val (.int p1)] [])
            refine own_by (fun t k => XS.iloadN X0.here hx rfl (hb hby d1_36) rfl k) ?_
            show ORun p e below s _ _ _ s₁ (mkF m 37 #[.val (.int p1)] [(.int p1)])
            refine own_by (fun t k => XS.bipush X0.here hx rfl (hb hby d1_37) k) ?_
            show ORun p e below s _ _ _ s₁ (mkF m 39 #[.val (.int p1)] [(.int (95 : Int32)), (.int p1)])
            by_cases hc20 : p1 = (95 : Int32)
            · have t20 := own_eq hc20 (a := p1.toInt) (b := 95) rfl (by decide)
              refine own_by (fun t k => XS.icmpNo X0.here hx rfl (hb hby d1_39) rfl (teq hc20).2 k) ?_
              show ORun p e below s _ _ _ s₁ (mkF m 42 #[.val (.int p1)] [])
              refine own_by (fun t k => XS.iconst X0.here hx rfl (hb hby d1_42) k) ?_
              show ORun p e below s _ _ _ s₁ (mkF m 43 #[.val (.int p1)] [(.int (1 : Int32))])
              refine own_by (fun t k => XS.goto X0.here hx rfl (pc0 := 43) (pc' := 47) rfl (hb hby d1_43) (by decide) (by decide) k) ?_
              show ORun p e below s _ _ _ s₁ (mkF m 47 #[.val (.int p1)] [(.int (1 : Int32))])
              refine own_retN X0 hx (t := .boolean) hret (by simp) hlk (hb hby d1_47) (by decide) (by decide) ?_
              exact ⟨1, rfl, Or.inl ⟨by decide, by omega⟩, N0, e0⟩
            · have t20 := own_ne hc20 (a := p1.toInt) (b := 95) rfl (by decide)
              refine own_by (fun t k => XS.icmpYes X0.here hx rfl (pc0 := 39) (pc' := 46) rfl (hb hby d1_39) rfl (feq hc20).2 (by decide) (by decide) k) ?_
              show ORun p e below s _ _ _ s₁ (mkF m 46 #[.val (.int p1)] [])
              refine own_by (fun t k => XS.iconst X0.here hx rfl (hb hby d1_46) k) ?_
              show ORun p e below s _ _ _ s₁ (mkF m 47 #[.val (.int p1)] [(.int (0 : Int32))])
              refine own_retN X0 hx (t := .boolean) hret (by simp) hlk (hb hby d1_47) (by decide) (by decide) ?_
              exact ⟨0, rfl, Or.inr ⟨by decide, by omega⟩, N0, e0⟩
          · have t19 := own_nlt hc19 (a := p1.toInt) (b := 48) rfl (by decide)
            refine own_by (fun t k => XS.icmpNo X0.here hx rfl (hb hby d1_27) rfl (flt hc19).1 k) ?_
            show ORun p e below s _ _ _ s₁ (mkF m 30 #[.val (.int p1)] [])
            refine own_by (fun t k => XS.iloadN X0.here hx rfl (hb hby d1_30) rfl k) ?_
            show ORun p e below s _ _ _ s₁ (mkF m 31 #[.val (.int p1)] [(.int p1)])
            refine own_by (fun t k => XS.bipush X0.here hx rfl (hb hby d1_31) k) ?_
            show ORun p e below s _ _ _ s₁ (mkF m 33 #[.val (.int p1)] [(.int (57 : Int32)), (.int p1)])
            by_cases hc21 : (57 : Int32) < p1
            · have t21 := own_lt hc21 (a := 57) (b := p1.toInt) (by decide) rfl
              refine own_by (fun t k => XS.icmpNo X0.here hx rfl (hb hby d1_33) rfl (tlt hc21).2.2.2 k) ?_
              show ORun p e below s _ _ _ s₁ (mkF m 36 #[.val (.int p1)] [])
              refine own_by (fun t k => XS.iloadN X0.here hx rfl (hb hby d1_36) rfl k) ?_
              show ORun p e below s _ _ _ s₁ (mkF m 37 #[.val (.int p1)] [(.int p1)])
              refine own_by (fun t k => XS.bipush X0.here hx rfl (hb hby d1_37) k) ?_
              show ORun p e below s _ _ _ s₁ (mkF m 39 #[.val (.int p1)] [(.int (95 : Int32)), (.int p1)])
              by_cases hc22 : p1 = (95 : Int32)
              · have t22 := own_eq hc22 (a := p1.toInt) (b := 95) rfl (by decide)
                refine own_by (fun t k => XS.icmpNo X0.here hx rfl (hb hby d1_39) rfl (teq hc22).2 k) ?_
                show ORun p e below s _ _ _ s₁ (mkF m 42 #[.val (.int p1)] [])
                refine own_by (fun t k => XS.iconst X0.here hx rfl (hb hby d1_42) k) ?_
                show ORun p e below s _ _ _ s₁ (mkF m 43 #[.val (.int p1)] [(.int (1 : Int32))])
                refine own_by (fun t k => XS.goto X0.here hx rfl (pc0 := 43) (pc' := 47) rfl (hb hby d1_43) (by decide) (by decide) k) ?_
                show ORun p e below s _ _ _ s₁ (mkF m 47 #[.val (.int p1)] [(.int (1 : Int32))])
                refine own_retN X0 hx (t := .boolean) hret (by simp) hlk (hb hby d1_47) (by decide) (by decide) ?_
                exact ⟨1, rfl, Or.inl ⟨by decide, by omega⟩, N0, e0⟩
              · have t22 := own_ne hc22 (a := p1.toInt) (b := 95) rfl (by decide)
                refine own_by (fun t k => XS.icmpYes X0.here hx rfl (pc0 := 39) (pc' := 46) rfl (hb hby d1_39) rfl (feq hc22).2 (by decide) (by decide) k) ?_
                show ORun p e below s _ _ _ s₁ (mkF m 46 #[.val (.int p1)] [])
                refine own_by (fun t k => XS.iconst X0.here hx rfl (hb hby d1_46) k) ?_
                show ORun p e below s _ _ _ s₁ (mkF m 47 #[.val (.int p1)] [(.int (0 : Int32))])
                refine own_retN X0 hx (t := .boolean) hret (by simp) hlk (hb hby d1_47) (by decide) (by decide) ?_
                exact ⟨0, rfl, Or.inr ⟨by decide, by omega⟩, N0, e0⟩
            · have t21 := own_nlt hc21 (a := 57) (b := p1.toInt) (by decide) rfl
              refine own_by (fun t k => XS.icmpYes X0.here hx rfl (pc0 := 33) (pc' := 42) rfl (hb hby d1_33) rfl (flt hc21).2.2.2 (by decide) (by decide) k) ?_
              show ORun p e below s _ _ _ s₁ (mkF m 42 #[.val (.int p1)] [])
              refine own_by (fun t k => XS.iconst X0.here hx rfl (hb hby d1_42) k) ?_
              show ORun p e below s _ _ _ s₁ (mkF m 43 #[.val (.int p1)] [(.int (1 : Int32))])
              refine own_by (fun t k => XS.goto X0.here hx rfl (pc0 := 43) (pc' := 47) rfl (hb hby d1_43) (by decide) (by decide) k) ?_
              show ORun p e below s _ _ _ s₁ (mkF m 47 #[.val (.int p1)] [(.int (1 : Int32))])
              refine own_retN X0 hx (t := .boolean) hret (by simp) hlk (hb hby d1_47) (by decide) (by decide) ?_
              exact ⟨1, rfl, Or.inl ⟨by decide, by omega⟩, N0, e0⟩
        · have t18 := own_nlt hc18 (a := 122) (b := p1.toInt) (by decide) rfl
          refine own_by (fun t k => XS.icmpYes X0.here hx rfl (pc0 := 21) (pc' := 42) rfl (hb hby d1_21) rfl (flt hc18).2.2.2 (by decide) (by decide) k) ?_
          show ORun p e below s _ _ _ s₁ (mkF m 42 #[.val (.int p1)] [])
          refine own_by (fun t k => XS.iconst X0.here hx rfl (hb hby d1_42) k) ?_
          show ORun p e below s _ _ _ s₁ (mkF m 43 #[.val (.int p1)] [(.int (1 : Int32))])
          refine own_by (fun t k => XS.goto X0.here hx rfl (pc0 := 43) (pc' := 47) rfl (hb hby d1_43) (by decide) (by decide) k) ?_
          show ORun p e below s _ _ _ s₁ (mkF m 47 #[.val (.int p1)] [(.int (1 : Int32))])
          refine own_retN X0 hx (t := .boolean) hret (by simp) hlk (hb hby d1_47) (by decide) (by decide) ?_
          exact ⟨1, rfl, Or.inl ⟨by decide, by omega⟩, N0, e0⟩
    · have t12 := own_nlt hc12 (a := 90) (b := p1.toInt) (by decide) rfl
      refine own_by (fun t k => XS.icmpYes X0.here hx rfl (pc0 := 9) (pc' := 42) rfl (hb hby d1_9) rfl (flt hc12).2.2.2 (by decide) (by decide) k) ?_
      show ORun p e below s _ _ _ s₁ (mkF m 42 #[.val (.int p1)] [])
      refine own_by (fun t k => XS.iconst X0.here hx rfl (hb hby d1_42) k) ?_
      show ORun p e below s _ _ _ s₁ (mkF m 43 #[.val (.int p1)] [(.int (1 : Int32))])
      refine own_by (fun t k => XS.goto X0.here hx rfl (pc0 := 43) (pc' := 47) rfl (hb hby d1_43) (by decide) (by decide) k) ?_
      show ORun p e below s _ _ _ s₁ (mkF m 47 #[.val (.int p1)] [(.int (1 : Int32))])
      refine own_retN X0 hx (t := .boolean) hret (by simp) hlk (hb hby d1_47) (by decide) (by decide) ?_
      exact ⟨1, rfl, Or.inl ⟨by decide, by omega⟩, N0, e0⟩
theorem d2_0 : decode method_2_code 0 = .ok (.iload_n 0, 1) := by decide +kernel
theorem d2_1 : decode method_2_code 1 = .ok (.ifCond .lt 10, 3) := by decide +kernel
theorem d2_4 : decode method_2_code 4 = .ok (.iload_n 0, 1) := by decide +kernel
theorem d2_5 : decode method_2_code 5 = .ok (.sipush 128, 3) := by decide +kernel
theorem d2_8 : decode method_2_code 8 = .ok (.if_icmp .lt 5, 3) := by decide +kernel
theorem d2_11 : decode method_2_code 11 = .ok (.iconst 0, 1) := by decide +kernel
theorem d2_12 : decode method_2_code 12 = .ok (.ireturn, 1) := by decide +kernel
theorem d2_13 : decode method_2_code 13 = .ok (.iload_n 0, 1) := by decide +kernel
theorem d2_14 : decode method_2_code 14 = .ok (.bipush 64, 2) := by decide +kernel
theorem d2_16 : decode method_2_code 16 = .ok (.if_icmp .ge 21, 3) := by decide +kernel
theorem d2_19 : decode method_2_code 19 = .ok (.ldc2_w 9, 3) := by decide +kernel
theorem d2_22 : decode method_2_code 22 = .ok (.iload_n 0, 1) := by decide +kernel
theorem d2_23 : decode method_2_code 23 = .ok (.lushr, 1) := by decide +kernel
theorem d2_24 : decode method_2_code 24 = .ok (.lconst 1, 1) := by decide +kernel
theorem d2_25 : decode method_2_code 25 = .ok (.land, 1) := by decide +kernel
theorem d2_26 : decode method_2_code 26 = .ok (.lconst 0, 1) := by decide +kernel
theorem d2_27 : decode method_2_code 27 = .ok (.lcmp, 1) := by decide +kernel
theorem d2_28 : decode method_2_code 28 = .ok (.ifCond .eq 7, 3) := by decide +kernel
theorem d2_31 : decode method_2_code 31 = .ok (.iconst 1, 1) := by decide +kernel
theorem d2_32 : decode method_2_code 32 = .ok (.goto 4, 3) := by decide +kernel
theorem d2_35 : decode method_2_code 35 = .ok (.iconst 0, 1) := by decide +kernel
theorem d2_36 : decode method_2_code 36 = .ok (.ireturn, 1) := by decide +kernel
theorem d2_37 : decode method_2_code 37 = .ok (.ldc2_w 11, 3) := by decide +kernel
theorem d2_40 : decode method_2_code 40 = .ok (.iload_n 0, 1) := by decide +kernel
theorem d2_41 : decode method_2_code 41 = .ok (.bipush 64, 2) := by decide +kernel
theorem d2_43 : decode method_2_code 43 = .ok (.isub, 1) := by decide +kernel
theorem d2_44 : decode method_2_code 44 = .ok (.lushr, 1) := by decide +kernel
theorem d2_45 : decode method_2_code 45 = .ok (.lconst 1, 1) := by decide +kernel
theorem d2_46 : decode method_2_code 46 = .ok (.land, 1) := by decide +kernel
theorem d2_47 : decode method_2_code 47 = .ok (.lconst 0, 1) := by decide +kernel
theorem d2_48 : decode method_2_code 48 = .ok (.lcmp, 1) := by decide +kernel
theorem d2_49 : decode method_2_code 49 = .ok (.ifCond .eq 7, 3) := by decide +kernel
theorem d2_52 : decode method_2_code 52 = .ok (.iconst 1, 1) := by decide +kernel
theorem d2_53 : decode method_2_code 53 = .ok (.goto 4, 3) := by decide +kernel
theorem d2_56 : decode method_2_code 56 = .ok (.iconst 0, 1) := by decide +kernel
theorem d2_57 : decode method_2_code 57 = .ok (.ireturn, 1) := by decide +kernel
theorem pn_rm2 : plainName "com/example/oskolok/oskolok/CharactersIsNamePartPinLaw" = true := by first | (simp [plainName, overriddenIn]; done) | decide +kernel
theorem ef_rm2 (m : MethodId) (x0 : Int32) : entryFrame m #[(.int x0)] 1 = mkF m 0 #[.val (.int x0)] [] := by first | (simp [entryFrame, mkF, argsToLocals, Value.category]; done) | rfl
set_option maxRecDepth 65536 in
set_option maxHeartbeats 40000000 in
theorem rm2 (l : Launch) (Z : State) (a0 : Array Value) (hw : ∀ d ∈ tables_1, d.before a0 Z = true) (ws : List Jvm.Cond) (h0 : Heap) (n0 : Nat) (Z0 : n0 ≤ h0.size) (p1 : Int32) :
    OMet l (⟨"com/example/oskolok/oskolok/CharactersIsNamePartPinLaw", "reference", "(I)Z"⟩ : MethodName) method_2_code 1 (some .boolean) ws ({ frames := 0, cells := 0, slots := 0, locals := 0 } : Room) #[(.int p1)] Z h0 (fun v h L => ∃ r : Int32, v = some (.int r) ∧ ((r.toInt = 1 ∧ ((48 ≤ p1.toInt ∧ p1.toInt ≤ 57) ∨ (65 ≤ p1.toInt ∧ p1.toInt ≤ 90) ∨ p1.toInt = 95 ∨ (97 ≤ p1.toInt ∧ p1.toInt ≤ 122))) ∨ (r.toInt = 0 ∧ ¬ ((48 ≤ p1.toInt ∧ p1.toInt ≤ 57) ∨ (65 ≤ p1.toInt ∧ p1.toInt ≤ 90) ∨ p1.toInt = 95 ∨ (97 ≤ p1.toInt ∧ p1.toInt ≤ 122)))) ∧ Fr n0 L ∧ h = h0) := by
  refine own_met (plainFor_of_name pn_rm2) ?_
  intro p e s m below meth c s₁ X0 hx hby hml hown hnm hret hlk hZ e0
  rw [ef_rm2]
  have N0 := Fr.nil n0
  have rg_p1 := rng32 p1
  show ORun p e below s _ _ _ s₁ (mkF m 0 #[.val (.int p1)] [])
  refine own_by (fun t k => XS.iloadN X0.here hx rfl (hb hby d2_0) rfl k) ?_
  show ORun p e below s _ _ _ s₁ (mkF m 1 #[.val (.int p1)] [(.int p1)])
  by_cases hc1 : p1 < (0 : Int32)
  · have t1 := own_lt hc1 (a := p1.toInt) (b := 0) rfl (by decide)
    refine own_by (fun t k => XS.ifYes X0.here hx rfl (pc0 := 1) (pc' := 11) rfl (hb hby d2_1) rfl ((if0 _ _).trans (tlt hc1).1) (by decide) (by decide) k) ?_
    show ORun p e below s _ _ _ s₁ (mkF m 11 #[.val (.int p1)] [])
    refine own_by (fun t k => XS.iconst X0.here hx rfl (hb hby d2_11) k) ?_
    show ORun p e below s _ _ _ s₁ (mkF m 12 #[.val (.int p1)] [(.int (0 : Int32))])
    refine own_retN X0 hx (t := .boolean) hret (by simp) hlk (hb hby d2_12) (by decide) (by decide) ?_
    exact ⟨0, rfl, Or.inr ⟨by decide, by omega⟩, N0, e0⟩
  · have t1 := own_nlt hc1 (a := p1.toInt) (b := 0) rfl (by decide)
    refine own_by (fun t k => XS.ifNo X0.here hx rfl (hb hby d2_1) rfl ((if0 _ _).trans (flt hc1).1) k) ?_
    show ORun p e below s _ _ _ s₁ (mkF m 4 #[.val (.int p1)] [])
    refine own_by (fun t k => XS.iloadN X0.here hx rfl (hb hby d2_4) rfl k) ?_
    show ORun p e below s _ _ _ s₁ (mkF m 5 #[.val (.int p1)] [(.int p1)])
    refine own_by (fun t k => XS.sipush X0.here hx rfl (hb hby d2_5) k) ?_
    show ORun p e below s _ _ _ s₁ (mkF m 8 #[.val (.int p1)] [(.int (128 : Int32)), (.int p1)])
    by_cases hc2 : p1 < (128 : Int32)
    · have t2 := own_lt hc2 (a := p1.toInt) (b := 128) rfl (by decide)
      refine own_by (fun t k => XS.icmpYes X0.here hx rfl (pc0 := 8) (pc' := 13) rfl (hb hby d2_8) rfl (tlt hc2).1 (by decide) (by decide) k) ?_
      show ORun p e below s _ _ _ s₁ (mkF m 13 #[.val (.int p1)] [])
      refine own_by (fun t k => XS.iloadN X0.here hx rfl (hb hby d2_13) rfl k) ?_
      show ORun p e below s _ _ _ s₁ (mkF m 14 #[.val (.int p1)] [(.int p1)])
      refine own_by (fun t k => XS.bipush X0.here hx rfl (hb hby d2_14) k) ?_
      show ORun p e below s _ _ _ s₁ (mkF m 16 #[.val (.int p1)] [(.int (64 : Int32)), (.int p1)])
      by_cases hc3 : p1 < (64 : Int32)
      · have t3 := own_lt hc3 (a := p1.toInt) (b := 64) rfl (by decide)
        refine own_by (fun t k => XS.icmpNo X0.here hx rfl (hb hby d2_16) rfl (tlt hc3).2.1 k) ?_
        show ORun p e below s _ _ _ s₁ (mkF m 19 #[.val (.int p1)] [])
        refine own_by (fun t k => X0.ldc2Long hx hown (mvT hZ (hw _ (List.mem_of_getElem? (i := 9) rfl))) (g := (mkF m 19 #[.val (.int p1)] [])) rfl (hb hby d2_19) _ k) ?_
        show ORun p e below s _ _ _ s₁ (mkF m 22 #[.val (.int p1)] [(.long (287948901175001088 : Int64))])
        refine own_by (fun t k => XS.iloadN X0.here hx rfl (hb hby d2_22) rfl k) ?_
        show ORun p e below s _ _ _ s₁ (mkF m 23 #[.val (.int p1)] [(.int p1), (.long (287948901175001088 : Int64))])
        refine own_by (fun t k => XS.lushr X0.here hx rfl (hb hby d2_23) rfl k) (own_letJ (f := (fun z => (mkF m 24 #[.val (.int p1)] [(.long z)]))) (((287948901175001088 : Int64).toUInt64 >>> (p1 &&& 0x3f).toInt64.toUInt64).toInt64) fun v4 hv4 => ?_)
        show ORun p e below s _ _ _ s₁ (mkF m 24 #[.val (.int p1)] [(.long v4)])
        refine own_by (fun t k => XS.lconst X0.here hx rfl (hb hby d2_24) k) ?_
        show ORun p e below s _ _ _ s₁ (mkF m 25 #[.val (.int p1)] [(.long (1 : Int64)), (.long v4)])
        refine own_by (fun t k => XS.land X0.here hx rfl (hb hby d2_25) rfl k) (own_letJ (f := (fun z => (mkF m 26 #[.val (.int p1)] [(.long z)]))) (v4 &&& (1 : Int64)) fun v5 hv5 => ?_)
        show ORun p e below s _ _ _ s₁ (mkF m 26 #[.val (.int p1)] [(.long v5)])
        have a5a : v5.toInt = v4.toInt % 2 := by rw [hv5]; exact c_maskL v4 (1 : Int64) 1 (by decide) (by decide)
        have r5 := rng64 v5
        refine own_by (fun t k => XS.lconst X0.here hx rfl (hb hby d2_26) k) ?_
        show ORun p e below s _ _ _ s₁ (mkF m 27 #[.val (.int p1)] [(.long (0 : Int64)), (.long v5)])
        refine own_by (fun t k => XS.lcmp X0.here hx rfl (hb hby d2_27) rfl k) ?_
        show ORun p e below s _ _ _ s₁ (mkF m 28 #[.val (.int p1)] [(.int (lcmpW v5 (0 : Int64)))])
        have q6 := own_lo p1 (by omega) (by omega)
        rw [← hv4, ← hv5] at q6
        by_cases hc7 : v5 = (0 : Int64)
        · have t7 := own_eqL hc7 (a := v5.toInt) (b := 0) rfl (by decide)
          have z7 := q6.mp hc7
          refine own_by (fun t k => XS.ifYes X0.here hx rfl (pc0 := 28) (pc' := 35) rfl (hb hby d2_28) rfl (own_lceq hc7).1 (by decide) (by decide) k) ?_
          show ORun p e below s _ _ _ s₁ (mkF m 35 #[.val (.int p1)] [])
          refine own_by (fun t k => XS.iconst X0.here hx rfl (hb hby d2_35) k) ?_
          show ORun p e below s _ _ _ s₁ (mkF m 36 #[.val (.int p1)] [(.int (0 : Int32))])
          refine own_retN X0 hx (t := .boolean) hret (by simp) hlk (hb hby d2_36) (by decide) (by decide) ?_
          exact ⟨0, rfl, Or.inr ⟨by decide, by omega⟩, N0, e0⟩
        · have t7 := own_neL hc7 (a := v5.toInt) (b := 0) rfl (by decide)
          have z7 := Classical.not_not.mp (fun y => hc7 (q6.mpr y))
          refine own_by (fun t k => XS.ifNo X0.here hx rfl (hb hby d2_28) rfl (own_lcne hc7).1 k) ?_
          show ORun p e below s _ _ _ s₁ (mkF m 31 #[.val (.int p1)] [])
          refine own_by (fun t k => XS.iconst X0.here hx rfl (hb hby d2_31) k) ?_
          show ORun p e below s _ _ _ s₁ (mkF m 32 #[.val (.int p1)] [(.int (1 : Int32))])
          refine own_by (fun t k => XS.goto X0.here hx rfl (pc0 := 32) (pc' := 36) rfl (hb hby d2_32) (by decide) (by decide) k) ?_
          show ORun p e below s _ _ _ s₁ (mkF m 36 #[.val (.int p1)] [(.int (1 : Int32))])
          refine own_retN X0 hx (t := .boolean) hret (by simp) hlk (hb hby d2_36) (by decide) (by decide) ?_
          exact ⟨1, rfl, Or.inl ⟨by decide, by omega⟩, N0, e0⟩
      · have t3 := own_nlt hc3 (a := p1.toInt) (b := 64) rfl (by decide)
        refine own_by (fun t k => XS.icmpYes X0.here hx rfl (pc0 := 16) (pc' := 37) rfl (hb hby d2_16) rfl (flt hc3).2.1 (by decide) (by decide) k) ?_
        show ORun p e below s _ _ _ s₁ (mkF m 37 #[.val (.int p1)] [])
        refine own_by (fun t k => X0.ldc2Long hx hown (mvT hZ (hw _ (List.mem_of_getElem? (i := 10) rfl))) (g := (mkF m 37 #[.val (.int p1)] [])) rfl (hb hby d2_37) _ k) ?_
        show ORun p e below s _ _ _ s₁ (mkF m 40 #[.val (.int p1)] [(.long (576460745995190270 : Int64))])
        refine own_by (fun t k => XS.iloadN X0.here hx rfl (hb hby d2_40) rfl k) ?_
        show ORun p e below s _ _ _ s₁ (mkF m 41 #[.val (.int p1)] [(.int p1), (.long (576460745995190270 : Int64))])
        refine own_by (fun t k => XS.bipush X0.here hx rfl (hb hby d2_41) k) ?_
        show ORun p e below s _ _ _ s₁ (mkF m 43 #[.val (.int p1)] [(.int (64 : Int32)), (.int p1), (.long (576460745995190270 : Int64))])
        refine own_by (fun t k => XS.isub X0.here hx rfl (hb hby d2_43) rfl k) (own_letI (f := (fun z => (mkF m 44 #[.val (.int p1)] [(.int z), (.long (576460745995190270 : Int64))]))) (p1 - (64 : Int32)) fun v8 hv8 => ?_)
        show ORun p e below s _ _ _ s₁ (mkF m 44 #[.val (.int p1)] [(.int v8), (.long (576460745995190270 : Int64))])
        have a8a : (v8.toInt - (p1.toInt - 64)) % 4294967296 = 0 := by rw [hv8]; exact c_isub p1 (64 : Int32)
        have r8 := rng32 v8
        refine own_by (fun t k => XS.lushr X0.here hx rfl (hb hby d2_44) rfl k) (own_letJ (f := (fun z => (mkF m 45 #[.val (.int p1)] [(.long z)]))) (((576460745995190270 : Int64).toUInt64 >>> (v8 &&& 0x3f).toInt64.toUInt64).toInt64) fun v9 hv9 => ?_)
        show ORun p e below s _ _ _ s₁ (mkF m 45 #[.val (.int p1)] [(.long v9)])
        refine own_by (fun t k => XS.lconst X0.here hx rfl (hb hby d2_45) k) ?_
        show ORun p e below s _ _ _ s₁ (mkF m 46 #[.val (.int p1)] [(.long (1 : Int64)), (.long v9)])
        refine own_by (fun t k => XS.land X0.here hx rfl (hb hby d2_46) rfl k) (own_letJ (f := (fun z => (mkF m 47 #[.val (.int p1)] [(.long z)]))) (v9 &&& (1 : Int64)) fun v10 hv10 => ?_)
        show ORun p e below s _ _ _ s₁ (mkF m 47 #[.val (.int p1)] [(.long v10)])
        have a10a : v10.toInt = v9.toInt % 2 := by rw [hv10]; exact c_maskL v9 (1 : Int64) 1 (by decide) (by decide)
        have r10 := rng64 v10
        refine own_by (fun t k => XS.lconst X0.here hx rfl (hb hby d2_47) k) ?_
        show ORun p e below s _ _ _ s₁ (mkF m 48 #[.val (.int p1)] [(.long (0 : Int64)), (.long v10)])
        refine own_by (fun t k => XS.lcmp X0.here hx rfl (hb hby d2_48) rfl k) ?_
        show ORun p e below s _ _ _ s₁ (mkF m 49 #[.val (.int p1)] [(.int (lcmpW v10 (0 : Int64)))])
        have q11 := own_hi v8 (by omega) (by omega)
        rw [← hv9, ← hv10] at q11
        by_cases hc12 : v10 = (0 : Int64)
        · have t12 := own_eqL hc12 (a := v10.toInt) (b := 0) rfl (by decide)
          have z12 := q11.mp hc12
          refine own_by (fun t k => XS.ifYes X0.here hx rfl (pc0 := 49) (pc' := 56) rfl (hb hby d2_49) rfl (own_lceq hc12).1 (by decide) (by decide) k) ?_
          show ORun p e below s _ _ _ s₁ (mkF m 56 #[.val (.int p1)] [])
          refine own_by (fun t k => XS.iconst X0.here hx rfl (hb hby d2_56) k) ?_
          show ORun p e below s _ _ _ s₁ (mkF m 57 #[.val (.int p1)] [(.int (0 : Int32))])
          refine own_retN X0 hx (t := .boolean) hret (by simp) hlk (hb hby d2_57) (by decide) (by decide) ?_
          exact ⟨0, rfl, Or.inr ⟨by decide, by omega⟩, N0, e0⟩
        · have t12 := own_neL hc12 (a := v10.toInt) (b := 0) rfl (by decide)
          have z12 := Classical.not_not.mp (fun y => hc12 (q11.mpr y))
          refine own_by (fun t k => XS.ifNo X0.here hx rfl (hb hby d2_49) rfl (own_lcne hc12).1 k) ?_
          show ORun p e below s _ _ _ s₁ (mkF m 52 #[.val (.int p1)] [])
          refine own_by (fun t k => XS.iconst X0.here hx rfl (hb hby d2_52) k) ?_
          show ORun p e below s _ _ _ s₁ (mkF m 53 #[.val (.int p1)] [(.int (1 : Int32))])
          refine own_by (fun t k => XS.goto X0.here hx rfl (pc0 := 53) (pc' := 57) rfl (hb hby d2_53) (by decide) (by decide) k) ?_
          show ORun p e below s _ _ _ s₁ (mkF m 57 #[.val (.int p1)] [(.int (1 : Int32))])
          refine own_retN X0 hx (t := .boolean) hret (by simp) hlk (hb hby d2_57) (by decide) (by decide) ?_
          exact ⟨1, rfl, Or.inl ⟨by decide, by omega⟩, N0, e0⟩
    · have t2 := own_nlt hc2 (a := p1.toInt) (b := 128) rfl (by decide)
      refine own_by (fun t k => XS.icmpNo X0.here hx rfl (hb hby d2_8) rfl (flt hc2).1 k) ?_
      show ORun p e below s _ _ _ s₁ (mkF m 11 #[.val (.int p1)] [])
      refine own_by (fun t k => XS.iconst X0.here hx rfl (hb hby d2_11) k) ?_
      show ORun p e below s _ _ _ s₁ (mkF m 12 #[.val (.int p1)] [(.int (0 : Int32))])
      refine own_retN X0 hx (t := .boolean) hret (by simp) hlk (hb hby d2_12) (by decide) (by decide) ?_
      exact ⟨0, rfl, Or.inr ⟨by decide, by omega⟩, N0, e0⟩
theorem pn_rm0 : plainName "com/example/oskolok/oskolok/CharactersIsNamePartPinLaw" = true := by first | (simp [plainName, overriddenIn]; done) | decide +kernel
theorem ef_rm0 (m : MethodId) (x0 : Int32) (x1 : Int32) : entryFrame m #[(.int x0), (.int x1)] maxLocals = mkF m 0 #[.val (.int x0), .val (.int x1), .unset, .unset] [] := by first | (simp [entryFrame, mkF, argsToLocals, Value.category, maxLocals]; done) | rfl
set_option maxRecDepth 65536 in
set_option maxHeartbeats 40000000 in
theorem rm0 (l : Launch) (Z : State) (a0 : Array Value) (hw : ∀ d ∈ tables_1, d.before a0 Z = true) (ws : List Jvm.Cond) (h0 : Heap) (n0 : Nat) (Z0 : n0 ≤ h0.size) (p1 p2 : Int32) :
    OMet l x code maxLocals ret ws room_1 #[(.int p1), (.int p2)] Z h0 (fun v h L => v = some (.int 1) ∧ Fr n0 L) := by
  refine own_met (plainFor_of_name pn_rm0) ?_
  intro p e s m below meth c s₁ X0 hx hby hml hown hnm hret hlk hZ e0
  rw [ef_rm0]
  have N0 := Fr.nil n0
  have rg_p1 := rng32 p1
  have rg_p2 := rng32 p2
  show ORun p e below s _ _ _ s₁ (mkF m 0 #[.val (.int p1), .val (.int p2), .unset, .unset] [])
  refine own_by (fun t k => XS.iloadN X0.here hx rfl (hb hby at_0) rfl k) ?_
  show ORun p e below s _ _ _ s₁ (mkF m 1 #[.val (.int p1), .val (.int p2), .unset, .unset] [(.int p2)])
  refine own_by (fun t k => XS.iconst X0.here hx rfl (hb hby at_1) k) ?_
  show ORun p e below s _ _ _ s₁ (mkF m 2 #[.val (.int p1), .val (.int p2), .unset, .unset] [(.int (3 : Int32)), (.int p2)])
  refine own_by (fun t k => XS.iand X0.here hx rfl (hb hby at_2) rfl k) (own_letI (f := (fun z => (mkF m 3 #[.val (.int p1), .val (.int p2), .unset, .unset] [(.int z)]))) (p2 &&& (3 : Int32)) fun v1 hv1 => ?_)
  show ORun p e below s _ _ _ s₁ (mkF m 3 #[.val (.int p1), .val (.int p2), .unset, .unset] [(.int v1)])
  have a1a : v1.toInt = p2.toInt % 4 := by rw [hv1]; exact c_mask p2 (3 : Int32) 2 (by decide) (by decide)
  have r1 := rng32 v1
  refine own_by (fun t k => XS.istoreN X0.here hx rfl (hb hby at_3) rfl (l' := #[.val (.int p1), .val (.int p2), .val (.int v1), .unset]) rfl k) ?_
  show ORun p e below s _ _ _ s₁ (mkF m 4 #[.val (.int p1), .val (.int p2), .val (.int v1), .unset] [])
  refine own_by (fun t k => XS.iloadN X0.here hx rfl (hb hby at_4) rfl k) ?_
  show ORun p e below s _ _ _ s₁ (mkF m 5 #[.val (.int p1), .val (.int p2), .val (.int v1), .unset] [(.int v1)])
  by_cases hc2 : v1 = (0 : Int32)
  · have t2 := own_eq hc2 (a := v1.toInt) (b := 0) rfl (by decide)
    refine own_by (fun t k => XS.ifNo X0.here hx rfl (hb hby at_5) rfl ((if0 _ _).trans (teq hc2).2) k) ?_
    show ORun p e below s _ _ _ s₁ (mkF m 8 #[.val (.int p1), .val (.int p2), .val (.int v1), .unset] [])
    refine own_by (fun t k => XS.iloadN X0.here hx rfl (hb hby at_8) rfl k) ?_
    show ORun p e below s _ _ _ s₁ (mkF m 9 #[.val (.int p1), .val (.int p2), .val (.int v1), .unset] [(.int p1)])
    refine own_by (fun t k => XS.istoreN X0.here hx rfl (hb hby at_9) rfl (l' := #[.val (.int p1), .val (.int p2), .val (.int v1), .val (.int p1)]) rfl k) ?_
    show ORun p e below s _ _ _ s₁ (mkF m 10 #[.val (.int p1), .val (.int p2), .val (.int v1), .val (.int p1)] [])
    refine own_by (fun t k => XS.goto X0.here hx rfl (pc0 := 10) (pc' := 48) rfl (hb hby at_10) (by decide) (by decide) k) ?_
    show ORun p e below s _ _ _ s₁ (mkF m 48 #[.val (.int p1), .val (.int p2), .val (.int v1), .val (.int p1)] [])
    refine own_by (fun t k => XS.iloadN X0.here hx rfl (hb hby at_48) rfl k) ?_
    show ORun p e below s _ _ _ s₁ (mkF m 49 #[.val (.int p1), .val (.int p2), .val (.int v1), .val (.int p1)] [(.int p1)])
    refine own_callS X0 hx hZ hown (hw _ (List.mem_of_getElem? (i := 1) rfl)) (hw _ (List.mem_of_getElem? (i := 2) rfl)) (hw _ (List.mem_of_getElem? (i := 3) rfl)) (hw _ (List.mem_of_getElem? (i := 4) rfl)) (by decide) (rm1 l Z a0 hw [] h0 n0 Z0 p1) e0 (by decide) (W := 0) (by decide) (by decide) (by decide) (argsL := [(.int p1)]) (rest := []) (by rw [hml]; rfl) (lenOf pd_0 rfl) rfl rfl (Nat.le_of_eq rfl) (hb hby at_49) ?_
    intro T3 L3 u3 X3 hQ3
    obtain ⟨y3, rfl, hy3, Nq3, e3⟩ := hQ3
    have N3 := Fr.app N0 Nq3
    show ORun p e below s _ _ _ T3 (mkF m 52 #[.val (.int p1), .val (.int p2), .val (.int v1), .val (.int p1)] [(.int y3)])
    refine own_by (fun t k => XS.iloadN X3.here hx rfl (hb hby at_52) rfl k) ?_
    show ORun p e below s _ _ _ T3 (mkF m 53 #[.val (.int p1), .val (.int p2), .val (.int v1), .val (.int p1)] [(.int p1), (.int y3)])
    refine own_callS X3 hx hZ hown (hw _ (List.mem_of_getElem? (i := 5) rfl)) (hw _ (List.mem_of_getElem? (i := 6) rfl)) (hw _ (List.mem_of_getElem? (i := 7) rfl)) (hw _ (List.mem_of_getElem? (i := 8) rfl)) (by decide) (rm2 l Z a0 hw [] h0 n0 Z0 p1) e3 (by decide) (W := 1) (by decide) (by decide) (by decide) (argsL := [(.int p1)]) (rest := [(.int y3)]) (by rw [hml]; rfl) (lenOf pd_0 rfl) rfl rfl (Nat.le_of_eq rfl) (hb hby at_53) ?_
    intro T4 L4 u4 X4 hQ4
    obtain ⟨y4, rfl, hy4, Nq4, e4⟩ := hQ4
    have N4 := Fr.app N3 Nq4
    show ORun p e below s _ _ _ T4 (mkF m 56 #[.val (.int p1), .val (.int p2), .val (.int v1), .val (.int p1)] [(.int y4), (.int y3)])
    by_cases hc5 : y3 = y4
    · have t5 := own_eq hc5 (a := y3.toInt) (b := y4.toInt) rfl rfl
      refine own_by (fun t k => XS.icmpNo X4.here hx rfl (hb hby at_56) rfl (teq hc5).2 k) ?_
      show ORun p e below s _ _ _ T4 (mkF m 59 #[.val (.int p1), .val (.int p2), .val (.int v1), .val (.int p1)] [])
      refine own_by (fun t k => XS.iconst X4.here hx rfl (hb hby at_59) k) ?_
      show ORun p e below s _ _ _ T4 (mkF m 60 #[.val (.int p1), .val (.int p2), .val (.int v1), .val (.int p1)] [(.int (1 : Int32))])
      refine own_by (fun t k => XS.goto X4.here hx rfl (pc0 := 60) (pc' := 64) rfl (hb hby at_60) (by decide) (by decide) k) ?_
      show ORun p e below s _ _ _ T4 (mkF m 64 #[.val (.int p1), .val (.int p2), .val (.int v1), .val (.int p1)] [(.int (1 : Int32))])
      refine own_retN X4 hx (t := .boolean) hret (by simp) hlk (hb hby at_64) (by decide) (by decide) ?_
      exact ⟨rfl, N4⟩
    · have t5 := own_ne hc5 (a := y3.toInt) (b := y4.toInt) rfl rfl
      refine own_by (fun t k => XS.icmpYes X4.here hx rfl (pc0 := 56) (pc' := 63) rfl (hb hby at_56) rfl (feq hc5).2 (by decide) (by decide) k) ?_
      show ORun p e below s _ _ _ T4 (mkF m 63 #[.val (.int p1), .val (.int p2), .val (.int v1), .val (.int p1)] [])
      refine own_by (fun t k => XS.iconst X4.here hx rfl (hb hby at_63) k) ?_
      show ORun p e below s _ _ _ T4 (mkF m 64 #[.val (.int p1), .val (.int p2), .val (.int v1), .val (.int p1)] [(.int (0 : Int32))])
      refine own_retN X4 hx (t := .boolean) hret (by simp) hlk (hb hby at_64) (by decide) (by decide) ?_
      exfalso
      omega
  · have t2 := own_ne hc2 (a := v1.toInt) (b := 0) rfl (by decide)
    refine own_by (fun t k => XS.ifYes X0.here hx rfl (pc0 := 5) (pc' := 13) rfl (hb hby at_5) rfl ((if0 _ _).trans (feq hc2).2) (by decide) (by decide) k) ?_
    show ORun p e below s _ _ _ s₁ (mkF m 13 #[.val (.int p1), .val (.int p2), .val (.int v1), .unset] [])
    refine own_by (fun t k => XS.iloadN X0.here hx rfl (hb hby at_13) rfl k) ?_
    show ORun p e below s _ _ _ s₁ (mkF m 14 #[.val (.int p1), .val (.int p2), .val (.int v1), .unset] [(.int v1)])
    refine own_by (fun t k => XS.iconst X0.here hx rfl (hb hby at_14) k) ?_
    show ORun p e below s _ _ _ s₁ (mkF m 15 #[.val (.int p1), .val (.int p2), .val (.int v1), .unset] [(.int (1 : Int32)), (.int v1)])
    by_cases hc6 : v1 = (1 : Int32)
    · have t6 := own_eq hc6 (a := v1.toInt) (b := 1) rfl (by decide)
      refine own_by (fun t k => XS.icmpNo X0.here hx rfl (hb hby at_15) rfl (teq hc6).2 k) ?_
      show ORun p e below s _ _ _ s₁ (mkF m 18 #[.val (.int p1), .val (.int p2), .val (.int v1), .unset] [])
      refine own_by (fun t k => XS.iloadN X0.here hx rfl (hb hby at_18) rfl k) ?_
      show ORun p e below s _ _ _ s₁ (mkF m 19 #[.val (.int p1), .val (.int p2), .val (.int v1), .unset] [(.int p1)])
      refine own_by (fun t k => XS.bipush X0.here hx rfl (hb hby at_19) k) ?_
      show ORun p e below s _ _ _ s₁ (mkF m 21 #[.val (.int p1), .val (.int p2), .val (.int v1), .unset] [(.int (127 : Int32)), (.int p1)])
      refine own_by (fun t k => XS.iand X0.here hx rfl (hb hby at_21) rfl k) (own_letI (f := (fun z => (mkF m 22 #[.val (.int p1), .val (.int p2), .val (.int v1), .unset] [(.int z)]))) (p1 &&& (127 : Int32)) fun v7 hv7 => ?_)
      show ORun p e below s _ _ _ s₁ (mkF m 22 #[.val (.int p1), .val (.int p2), .val (.int v1), .unset] [(.int v7)])
      have a7a : v7.toInt = p1.toInt % 128 := by rw [hv7]; exact c_mask p1 (127 : Int32) 7 (by decide) (by decide)
      have r7 := rng32 v7
      refine own_by (fun t k => XS.istoreN X0.here hx rfl (hb hby at_22) rfl (l' := #[.val (.int p1), .val (.int p2), .val (.int v1), .val (.int v7)]) rfl k) ?_
      show ORun p e below s _ _ _ s₁ (mkF m 23 #[.val (.int p1), .val (.int p2), .val (.int v1), .val (.int v7)] [])
      refine own_by (fun t k => XS.goto X0.here hx rfl (pc0 := 23) (pc' := 48) rfl (hb hby at_23) (by decide) (by decide) k) ?_
      show ORun p e below s _ _ _ s₁ (mkF m 48 #[.val (.int p1), .val (.int p2), .val (.int v1), .val (.int v7)] [])
      refine own_by (fun t k => XS.iloadN X0.here hx rfl (hb hby at_48) rfl k) ?_
      show ORun p e below s _ _ _ s₁ (mkF m 49 #[.val (.int p1), .val (.int p2), .val (.int v1), .val (.int v7)] [(.int v7)])
      refine own_callS X0 hx hZ hown (hw _ (List.mem_of_getElem? (i := 1) rfl)) (hw _ (List.mem_of_getElem? (i := 2) rfl)) (hw _ (List.mem_of_getElem? (i := 3) rfl)) (hw _ (List.mem_of_getElem? (i := 4) rfl)) (by decide) (rm1 l Z a0 hw [] h0 n0 Z0 v7) e0 (by decide) (W := 0) (by decide) (by decide) (by decide) (argsL := [(.int v7)]) (rest := []) (by rw [hml]; rfl) (lenOf pd_0 rfl) rfl rfl (Nat.le_of_eq rfl) (hb hby at_49) ?_
      intro T8 L8 u8 X8 hQ8
      obtain ⟨y8, rfl, hy8, Nq8, e8⟩ := hQ8
      have N8 := Fr.app N0 Nq8
      show ORun p e below s _ _ _ T8 (mkF m 52 #[.val (.int p1), .val (.int p2), .val (.int v1), .val (.int v7)] [(.int y8)])
      refine own_by (fun t k => XS.iloadN X8.here hx rfl (hb hby at_52) rfl k) ?_
      show ORun p e below s _ _ _ T8 (mkF m 53 #[.val (.int p1), .val (.int p2), .val (.int v1), .val (.int v7)] [(.int v7), (.int y8)])
      refine own_callS X8 hx hZ hown (hw _ (List.mem_of_getElem? (i := 5) rfl)) (hw _ (List.mem_of_getElem? (i := 6) rfl)) (hw _ (List.mem_of_getElem? (i := 7) rfl)) (hw _ (List.mem_of_getElem? (i := 8) rfl)) (by decide) (rm2 l Z a0 hw [] h0 n0 Z0 v7) e8 (by decide) (W := 1) (by decide) (by decide) (by decide) (argsL := [(.int v7)]) (rest := [(.int y8)]) (by rw [hml]; rfl) (lenOf pd_0 rfl) rfl rfl (Nat.le_of_eq rfl) (hb hby at_53) ?_
      intro T9 L9 u9 X9 hQ9
      obtain ⟨y9, rfl, hy9, Nq9, e9⟩ := hQ9
      have N9 := Fr.app N8 Nq9
      show ORun p e below s _ _ _ T9 (mkF m 56 #[.val (.int p1), .val (.int p2), .val (.int v1), .val (.int v7)] [(.int y9), (.int y8)])
      by_cases hc10 : y8 = y9
      · have t10 := own_eq hc10 (a := y8.toInt) (b := y9.toInt) rfl rfl
        refine own_by (fun t k => XS.icmpNo X9.here hx rfl (hb hby at_56) rfl (teq hc10).2 k) ?_
        show ORun p e below s _ _ _ T9 (mkF m 59 #[.val (.int p1), .val (.int p2), .val (.int v1), .val (.int v7)] [])
        refine own_by (fun t k => XS.iconst X9.here hx rfl (hb hby at_59) k) ?_
        show ORun p e below s _ _ _ T9 (mkF m 60 #[.val (.int p1), .val (.int p2), .val (.int v1), .val (.int v7)] [(.int (1 : Int32))])
        refine own_by (fun t k => XS.goto X9.here hx rfl (pc0 := 60) (pc' := 64) rfl (hb hby at_60) (by decide) (by decide) k) ?_
        show ORun p e below s _ _ _ T9 (mkF m 64 #[.val (.int p1), .val (.int p2), .val (.int v1), .val (.int v7)] [(.int (1 : Int32))])
        refine own_retN X9 hx (t := .boolean) hret (by simp) hlk (hb hby at_64) (by decide) (by decide) ?_
        exact ⟨rfl, N9⟩
      · have t10 := own_ne hc10 (a := y8.toInt) (b := y9.toInt) rfl rfl
        refine own_by (fun t k => XS.icmpYes X9.here hx rfl (pc0 := 56) (pc' := 63) rfl (hb hby at_56) rfl (feq hc10).2 (by decide) (by decide) k) ?_
        show ORun p e below s _ _ _ T9 (mkF m 63 #[.val (.int p1), .val (.int p2), .val (.int v1), .val (.int v7)] [])
        refine own_by (fun t k => XS.iconst X9.here hx rfl (hb hby at_63) k) ?_
        show ORun p e below s _ _ _ T9 (mkF m 64 #[.val (.int p1), .val (.int p2), .val (.int v1), .val (.int v7)] [(.int (0 : Int32))])
        refine own_retN X9 hx (t := .boolean) hret (by simp) hlk (hb hby at_64) (by decide) (by decide) ?_
        exfalso
        omega
    · have t6 := own_ne hc6 (a := v1.toInt) (b := 1) rfl (by decide)
      refine own_by (fun t k => XS.icmpYes X0.here hx rfl (pc0 := 15) (pc' := 26) rfl (hb hby at_15) rfl (feq hc6).2 (by decide) (by decide) k) ?_
      show ORun p e below s _ _ _ s₁ (mkF m 26 #[.val (.int p1), .val (.int p2), .val (.int v1), .unset] [])
      refine own_by (fun t k => XS.iloadN X0.here hx rfl (hb hby at_26) rfl k) ?_
      show ORun p e below s _ _ _ s₁ (mkF m 27 #[.val (.int p1), .val (.int p2), .val (.int v1), .unset] [(.int v1)])
      refine own_by (fun t k => XS.iconst X0.here hx rfl (hb hby at_27) k) ?_
      show ORun p e below s _ _ _ s₁ (mkF m 28 #[.val (.int p1), .val (.int p2), .val (.int v1), .unset] [(.int (2 : Int32)), (.int v1)])
      by_cases hc11 : v1 = (2 : Int32)
      · have t11 := own_eq hc11 (a := v1.toInt) (b := 2) rfl (by decide)
        refine own_by (fun t k => XS.icmpNo X0.here hx rfl (hb hby at_28) rfl (teq hc11).2 k) ?_
        show ORun p e below s _ _ _ s₁ (mkF m 31 #[.val (.int p1), .val (.int p2), .val (.int v1), .unset] [])
        refine own_by (fun t k => XS.iloadN X0.here hx rfl (hb hby at_31) rfl k) ?_
        show ORun p e below s _ _ _ s₁ (mkF m 32 #[.val (.int p1), .val (.int p2), .val (.int v1), .unset] [(.int p1)])
        refine own_by (fun t k => XS.sipush X0.here hx rfl (hb hby at_32) k) ?_
        show ORun p e below s _ _ _ s₁ (mkF m 35 #[.val (.int p1), .val (.int p2), .val (.int v1), .unset] [(.int (255 : Int32)), (.int p1)])
        refine own_by (fun t k => XS.iand X0.here hx rfl (hb hby at_35) rfl k) (own_letI (f := (fun z => (mkF m 36 #[.val (.int p1), .val (.int p2), .val (.int v1), .unset] [(.int z)]))) (p1 &&& (255 : Int32)) fun v12 hv12 => ?_)
        show ORun p e below s _ _ _ s₁ (mkF m 36 #[.val (.int p1), .val (.int p2), .val (.int v1), .unset] [(.int v12)])
        have a12a : v12.toInt = p1.toInt % 256 := by rw [hv12]; exact c_mask p1 (255 : Int32) 8 (by decide) (by decide)
        have r12 := rng32 v12
        refine own_by (fun t k => XS.bipush X0.here hx rfl (hb hby at_36) k) ?_
        show ORun p e below s _ _ _ s₁ (mkF m 38 #[.val (.int p1), .val (.int p2), .val (.int v1), .unset] [(.int (64 : Int32)), (.int v12)])
        refine own_by (fun t k => XS.isub X0.here hx rfl (hb hby at_38) rfl k) (own_letI (f := (fun z => (mkF m 39 #[.val (.int p1), .val (.int p2), .val (.int v1), .unset] [(.int z)]))) (v12 - (64 : Int32)) fun v13 hv13 => ?_)
        show ORun p e below s _ _ _ s₁ (mkF m 39 #[.val (.int p1), .val (.int p2), .val (.int v1), .unset] [(.int v13)])
        have a13a : (v13.toInt - (v12.toInt - 64)) % 4294967296 = 0 := by rw [hv13]; exact c_isub v12 (64 : Int32)
        have r13 := rng32 v13
        refine own_by (fun t k => XS.istoreN X0.here hx rfl (hb hby at_39) rfl (l' := #[.val (.int p1), .val (.int p2), .val (.int v1), .val (.int v13)]) rfl k) ?_
        show ORun p e below s _ _ _ s₁ (mkF m 40 #[.val (.int p1), .val (.int p2), .val (.int v1), .val (.int v13)] [])
        refine own_by (fun t k => XS.goto X0.here hx rfl (pc0 := 40) (pc' := 48) rfl (hb hby at_40) (by decide) (by decide) k) ?_
        show ORun p e below s _ _ _ s₁ (mkF m 48 #[.val (.int p1), .val (.int p2), .val (.int v1), .val (.int v13)] [])
        refine own_by (fun t k => XS.iloadN X0.here hx rfl (hb hby at_48) rfl k) ?_
        show ORun p e below s _ _ _ s₁ (mkF m 49 #[.val (.int p1), .val (.int p2), .val (.int v1), .val (.int v13)] [(.int v13)])
        refine own_callS X0 hx hZ hown (hw _ (List.mem_of_getElem? (i := 1) rfl)) (hw _ (List.mem_of_getElem? (i := 2) rfl)) (hw _ (List.mem_of_getElem? (i := 3) rfl)) (hw _ (List.mem_of_getElem? (i := 4) rfl)) (by decide) (rm1 l Z a0 hw [] h0 n0 Z0 v13) e0 (by decide) (W := 0) (by decide) (by decide) (by decide) (argsL := [(.int v13)]) (rest := []) (by rw [hml]; rfl) (lenOf pd_0 rfl) rfl rfl (Nat.le_of_eq rfl) (hb hby at_49) ?_
        intro T14 L14 u14 X14 hQ14
        obtain ⟨y14, rfl, hy14, Nq14, e14⟩ := hQ14
        have N14 := Fr.app N0 Nq14
        show ORun p e below s _ _ _ T14 (mkF m 52 #[.val (.int p1), .val (.int p2), .val (.int v1), .val (.int v13)] [(.int y14)])
        refine own_by (fun t k => XS.iloadN X14.here hx rfl (hb hby at_52) rfl k) ?_
        show ORun p e below s _ _ _ T14 (mkF m 53 #[.val (.int p1), .val (.int p2), .val (.int v1), .val (.int v13)] [(.int v13), (.int y14)])
        refine own_callS X14 hx hZ hown (hw _ (List.mem_of_getElem? (i := 5) rfl)) (hw _ (List.mem_of_getElem? (i := 6) rfl)) (hw _ (List.mem_of_getElem? (i := 7) rfl)) (hw _ (List.mem_of_getElem? (i := 8) rfl)) (by decide) (rm2 l Z a0 hw [] h0 n0 Z0 v13) e14 (by decide) (W := 1) (by decide) (by decide) (by decide) (argsL := [(.int v13)]) (rest := [(.int y14)]) (by rw [hml]; rfl) (lenOf pd_0 rfl) rfl rfl (Nat.le_of_eq rfl) (hb hby at_53) ?_
        intro T15 L15 u15 X15 hQ15
        obtain ⟨y15, rfl, hy15, Nq15, e15⟩ := hQ15
        have N15 := Fr.app N14 Nq15
        show ORun p e below s _ _ _ T15 (mkF m 56 #[.val (.int p1), .val (.int p2), .val (.int v1), .val (.int v13)] [(.int y15), (.int y14)])
        by_cases hc16 : y14 = y15
        · have t16 := own_eq hc16 (a := y14.toInt) (b := y15.toInt) rfl rfl
          refine own_by (fun t k => XS.icmpNo X15.here hx rfl (hb hby at_56) rfl (teq hc16).2 k) ?_
          show ORun p e below s _ _ _ T15 (mkF m 59 #[.val (.int p1), .val (.int p2), .val (.int v1), .val (.int v13)] [])
          refine own_by (fun t k => XS.iconst X15.here hx rfl (hb hby at_59) k) ?_
          show ORun p e below s _ _ _ T15 (mkF m 60 #[.val (.int p1), .val (.int p2), .val (.int v1), .val (.int v13)] [(.int (1 : Int32))])
          refine own_by (fun t k => XS.goto X15.here hx rfl (pc0 := 60) (pc' := 64) rfl (hb hby at_60) (by decide) (by decide) k) ?_
          show ORun p e below s _ _ _ T15 (mkF m 64 #[.val (.int p1), .val (.int p2), .val (.int v1), .val (.int v13)] [(.int (1 : Int32))])
          refine own_retN X15 hx (t := .boolean) hret (by simp) hlk (hb hby at_64) (by decide) (by decide) ?_
          exact ⟨rfl, N15⟩
        · have t16 := own_ne hc16 (a := y14.toInt) (b := y15.toInt) rfl rfl
          refine own_by (fun t k => XS.icmpYes X15.here hx rfl (pc0 := 56) (pc' := 63) rfl (hb hby at_56) rfl (feq hc16).2 (by decide) (by decide) k) ?_
          show ORun p e below s _ _ _ T15 (mkF m 63 #[.val (.int p1), .val (.int p2), .val (.int v1), .val (.int v13)] [])
          refine own_by (fun t k => XS.iconst X15.here hx rfl (hb hby at_63) k) ?_
          show ORun p e below s _ _ _ T15 (mkF m 64 #[.val (.int p1), .val (.int p2), .val (.int v1), .val (.int v13)] [(.int (0 : Int32))])
          refine own_retN X15 hx (t := .boolean) hret (by simp) hlk (hb hby at_64) (by decide) (by decide) ?_
          exfalso
          omega
      · have t11 := own_ne hc11 (a := v1.toInt) (b := 2) rfl (by decide)
        refine own_by (fun t k => XS.icmpYes X0.here hx rfl (pc0 := 28) (pc' := 43) rfl (hb hby at_28) rfl (feq hc11).2 (by decide) (by decide) k) ?_
        show ORun p e below s _ _ _ s₁ (mkF m 43 #[.val (.int p1), .val (.int p2), .val (.int v1), .unset] [])
        refine own_by (fun t k => XS.iloadN X0.here hx rfl (hb hby at_43) rfl k) ?_
        show ORun p e below s _ _ _ s₁ (mkF m 44 #[.val (.int p1), .val (.int p2), .val (.int v1), .unset] [(.int p1)])
        refine own_by (fun t k => X0.ldcInt hx hown (mvT hZ (hw _ (List.mem_of_getElem? (i := 0) rfl))) (g := (mkF m 44 #[.val (.int p1), .val (.int p2), .val (.int v1), .unset] [(.int p1)])) rfl (hb hby at_44) _ k) ?_
        show ORun p e below s _ _ _ s₁ (mkF m 46 #[.val (.int p1), .val (.int p2), .val (.int v1), .unset] [(.int (65535 : Int32)), (.int p1)])
        refine own_by (fun t k => XS.iand X0.here hx rfl (hb hby at_46) rfl k) (own_letI (f := (fun z => (mkF m 47 #[.val (.int p1), .val (.int p2), .val (.int v1), .unset] [(.int z)]))) (p1 &&& (65535 : Int32)) fun v17 hv17 => ?_)
        show ORun p e below s _ _ _ s₁ (mkF m 47 #[.val (.int p1), .val (.int p2), .val (.int v1), .unset] [(.int v17)])
        have a17a : v17.toInt = p1.toInt % 65536 := by rw [hv17]; exact c_mask p1 (65535 : Int32) 16 (by decide) (by decide)
        have r17 := rng32 v17
        refine own_by (fun t k => XS.istoreN X0.here hx rfl (hb hby at_47) rfl (l' := #[.val (.int p1), .val (.int p2), .val (.int v1), .val (.int v17)]) rfl k) ?_
        show ORun p e below s _ _ _ s₁ (mkF m 48 #[.val (.int p1), .val (.int p2), .val (.int v1), .val (.int v17)] [])
        refine own_by (fun t k => XS.iloadN X0.here hx rfl (hb hby at_48) rfl k) ?_
        show ORun p e below s _ _ _ s₁ (mkF m 49 #[.val (.int p1), .val (.int p2), .val (.int v1), .val (.int v17)] [(.int v17)])
        refine own_callS X0 hx hZ hown (hw _ (List.mem_of_getElem? (i := 1) rfl)) (hw _ (List.mem_of_getElem? (i := 2) rfl)) (hw _ (List.mem_of_getElem? (i := 3) rfl)) (hw _ (List.mem_of_getElem? (i := 4) rfl)) (by decide) (rm1 l Z a0 hw [] h0 n0 Z0 v17) e0 (by decide) (W := 0) (by decide) (by decide) (by decide) (argsL := [(.int v17)]) (rest := []) (by rw [hml]; rfl) (lenOf pd_0 rfl) rfl rfl (Nat.le_of_eq rfl) (hb hby at_49) ?_
        intro T18 L18 u18 X18 hQ18
        obtain ⟨y18, rfl, hy18, Nq18, e18⟩ := hQ18
        have N18 := Fr.app N0 Nq18
        show ORun p e below s _ _ _ T18 (mkF m 52 #[.val (.int p1), .val (.int p2), .val (.int v1), .val (.int v17)] [(.int y18)])
        refine own_by (fun t k => XS.iloadN X18.here hx rfl (hb hby at_52) rfl k) ?_
        show ORun p e below s _ _ _ T18 (mkF m 53 #[.val (.int p1), .val (.int p2), .val (.int v1), .val (.int v17)] [(.int v17), (.int y18)])
        refine own_callS X18 hx hZ hown (hw _ (List.mem_of_getElem? (i := 5) rfl)) (hw _ (List.mem_of_getElem? (i := 6) rfl)) (hw _ (List.mem_of_getElem? (i := 7) rfl)) (hw _ (List.mem_of_getElem? (i := 8) rfl)) (by decide) (rm2 l Z a0 hw [] h0 n0 Z0 v17) e18 (by decide) (W := 1) (by decide) (by decide) (by decide) (argsL := [(.int v17)]) (rest := [(.int y18)]) (by rw [hml]; rfl) (lenOf pd_0 rfl) rfl rfl (Nat.le_of_eq rfl) (hb hby at_53) ?_
        intro T19 L19 u19 X19 hQ19
        obtain ⟨y19, rfl, hy19, Nq19, e19⟩ := hQ19
        have N19 := Fr.app N18 Nq19
        show ORun p e below s _ _ _ T19 (mkF m 56 #[.val (.int p1), .val (.int p2), .val (.int v1), .val (.int v17)] [(.int y19), (.int y18)])
        by_cases hc20 : y18 = y19
        · have t20 := own_eq hc20 (a := y18.toInt) (b := y19.toInt) rfl rfl
          refine own_by (fun t k => XS.icmpNo X19.here hx rfl (hb hby at_56) rfl (teq hc20).2 k) ?_
          show ORun p e below s _ _ _ T19 (mkF m 59 #[.val (.int p1), .val (.int p2), .val (.int v1), .val (.int v17)] [])
          refine own_by (fun t k => XS.iconst X19.here hx rfl (hb hby at_59) k) ?_
          show ORun p e below s _ _ _ T19 (mkF m 60 #[.val (.int p1), .val (.int p2), .val (.int v1), .val (.int v17)] [(.int (1 : Int32))])
          refine own_by (fun t k => XS.goto X19.here hx rfl (pc0 := 60) (pc' := 64) rfl (hb hby at_60) (by decide) (by decide) k) ?_
          show ORun p e below s _ _ _ T19 (mkF m 64 #[.val (.int p1), .val (.int p2), .val (.int v1), .val (.int v17)] [(.int (1 : Int32))])
          refine own_retN X19 hx (t := .boolean) hret (by simp) hlk (hb hby at_64) (by decide) (by decide) ?_
          exact ⟨rfl, N19⟩
        · have t20 := own_ne hc20 (a := y18.toInt) (b := y19.toInt) rfl rfl
          refine own_by (fun t k => XS.icmpYes X19.here hx rfl (pc0 := 56) (pc' := 63) rfl (hb hby at_56) rfl (feq hc20).2 (by decide) (by decide) k) ?_
          show ORun p e below s _ _ _ T19 (mkF m 63 #[.val (.int p1), .val (.int p2), .val (.int v1), .val (.int v17)] [])
          refine own_by (fun t k => XS.iconst X19.here hx rfl (hb hby at_63) k) ?_
          show ORun p e below s _ _ _ T19 (mkF m 64 #[.val (.int p1), .val (.int p2), .val (.int v1), .val (.int v17)] [(.int (0 : Int32))])
          refine own_retN X19 hx (t := .boolean) hret (by simp) hlk (hb hby at_64) (by decide) (by decide) ?_
          exfalso
          omega
set_option maxRecDepth 65536 in
set_option maxHeartbeats 40000000 in
theorem comes_1 {Post : Tables → Env → Array Value → State → Outcome → State → Prop} (hpost : ∀ tb e args s v u, (limb_1_1.after args s (.returned v) u = true ∧ limb_1_2.after args s (.returned v) u = true ∧ True) → FrameEnd s (.returned v) u (Jvm.fieldLocs frame_1_writes args s ++ Jvm.arrayLocs frame_1_arrays args s ++ Jvm.staticLocs frame_1_statics s) 0 0 → Post tb e args s (.returned v) u) :
    ArmFor flags0 classFile x code maxLocals ret World_1 tables_1 room_1 Calls_1 rest_1 Pre_1 Post := by
  intro l hfl _ _ p e ha hc hk s m args below hf hA hF happ hP
  obtain ⟨hcalls, hrest, hpre⟩ := hP
  obtain ⟨-, -, -, hnamed, -, -, -, hat⟩ := (Spec.applies_iff hf).mp happ
  obtain ⟨hg, hn⟩ := and_e (Cond.before_iff.mp (show (Jvm.Cond.and given_1 narrow_1).before args s = true from hpre))
  obtain ⟨hcnt, g0⟩ := and_e hg
  obtain ⟨k0, g1⟩ := and_e g0
  have k1 := g1
  obtain ⟨w0, w1, rfl⟩ : ∃ w0 w1 : Value, args = #[w0, w1] := by
    have hs : args.size = 2 := by simpa [Cond.value, given_1] using hcnt
    obtain ⟨L⟩ := args
    match L, hs with
    | [w0, w1], _ => exact ⟨w0, w1, rfl⟩
  have hw := fun d (hd : d ∈ tables_1) => atoms_spec (ws := Jvm.Cond.code x code maxLocals ret :: tables_1) hat d (List.mem_cons_of_mem _ hd)
  have hfit : Fit s := fun {y c} hc i hi => by
    obtain ⟨ha, rfl⟩ := Array.getElem?_eq_some_iff.mp hc
    have q := List.all_eq_true.mp ((Array.all_eq_true_iff_forall_mem.mp hF) _ (Array.getElem_mem ha)) i (List.mem_range.mpr hi)
    simpa [Array.getElem?_eq_getElem hi] using q
  obtain ⟨i0, e0⟩ := is_v k0
  obtain rfl : w0 = (.int i0) := Option.some.inj e0
  obtain ⟨i1, e1⟩ := is_v k1
  obtain rfl : w1 = (.int i1) := Option.some.inj e1
  obtain ⟨n, o, h1, h2, h3, _, L, rfl, ⟨rfl, N⟩, hq⟩ := rm0 l s _ hw tables_1 s.heap s.heap.size (Nat.le_refl _) i0 i1  p e ha hc hk s m _ below hf ((Spec.applies_iff_loose hf).mp happ).1 ⟨rfl, State.Warmed39.refl s, rfl⟩ trivial
  refine ⟨n, _, h1, h2, h3, hpost _ _ _ _ _ _ ⟨Cond.after_iff.mpr rfl, Cond.after_iff.mpr (eq_i res_at (Term.int_eval (1)) rfl), trivial⟩ ⟨hq.1, hq.2.1, (hq.2.2.sift fun y hy => Or.inr (N y hy)).mono (by decide) (by decide)⟩⟩
theorem main_1_1 : Claimed_1_1 := comes_1 fun _ _ _ _ _ _ h hF => ⟨h.1, hF⟩
theorem main_1_2 : Claimed_1_2 := comes_1 fun _ _ _ _ _ _ h hF => ⟨h.2.1, hF⟩
end Jvm.Pilot.@@N@@
namespace Jvm.Pilot.@@N@@
open Jvm Jvm.ClassFile Sem Op Lib Jvm.Free Jvm.Stand Jvm.Pilot.@@N@@.Jvm.D
/-! MADE BY PROGRAM (witnessworld.py) out of the Statement's table words and the real class files: 9 classes; the members and pool entries that the words name. The judged class is class 1, her method 2. -/
namespace start1
open Jvm.ClassFile
def u (s : String) : CpInfo := .utf8 (stringToUtf16 s)
/-- a pool by its gaps: so many unusable entries, then the entry; so many at the end -/
def gap : Nat → List CpInfo → List CpInfo
  | 0, r => r
  | n + 1, r => .unusable :: gap n r
def poolList (es : List (Nat × CpInfo)) (last : Nat) : List CpInfo := es.foldr (fun e r => gap e.1 (e.2 :: r)) (gap last [])
def pool (es : List (Nat × CpInfo)) (last : Nat) : Array CpInfo := ⟨poolList es last⟩
def fileOf (pool : Array CpInfo) (this : Nat) (attrs : Array Attribute := #[]) (ms : Array MethodInfo := #[]) (fl : Nat := 33) (sup : Nat := 0) (ifs : Array Nat := #[]) (fds : Array FieldInfo := #[]) : ClassFile where
  minorVersion := 0
  majorVersion := 65
  constantPool := pool
  accessFlags := fl
  thisClass := this
  superClass := sup
  interfaces := ifs
  fields := fds
  methods := ms
  attributes := attrs
def plain (name : String) (sup : Option ClassId) : Class where
  name := name
  kind := .ordinary
  loader := none
  accessFlags := 33
  super := sup
  interfaces := #[]
  cf := none
  fields := #[]
  methods := #[]
  instanceTypes := #[]
  staticTypes := #[]
  resolved := #[]
  callSites := []
  init := .initialized
  statics := none
  mirror := none

def pool0 : Array CpInfo := pool [(5, u "<init>"), (0, u "()V"), (1, .class_ 10), (1, u "java/lang/Object")] 113

def k0m0 : Method := { name := "<init>", desc := "()V", sig := { parameters := [], returnType := none }, accessFlags := 1, code := none }
/-- java/lang/Object -/
def k0 : Class := { plain "java/lang/Object" none with
  accessFlags := 33
  interfaces := #[]
  cf := some (fileOf pool0 8 #[] #[{ accessFlags := 1, nameIndex := 5, descriptorIndex := 6, attributes := #[] }] 33 0 #[] #[])
  fields := #[]
  methods := #[k0m0]
  instanceTypes := #[]
  staticTypes := #[]
  resolved := Array.replicate 124 none
  statics := none }

def pool1 : Array CpInfo := pool [(2, .class_ 4), (1, u "java/lang/Object"), (0, u "<init>"), (0, u "()V"), (0, .class_ 8), (0, u "com/example/oskolok/oskolok/CharactersIsNamePartPinLaw"), (0, .long 287948901175001088), (1, .long 576460745995190270), (1, .integer 65535), (0, .methodref 15 16), (0, .class_ 17), (0, .nameAndType 18 19), (0, u "com/example/oskolok/oskolok/Characters"), (0, u "isNamePart"), (0, u "(I)Z"), (0, .methodref 7 21), (0, .nameAndType 22 19), (0, u "reference"), (0, u "LO"), (0, u "J"), (1, u "HI"), (3, u "law"), (0, u "(II)Z")] 2

def k1m0 : Method := { name := "<init>", desc := "()V", sig := { parameters := [], returnType := none }, accessFlags := 2, code := none }
def k1c1 : Code := { maxStack := 4, maxLocals := 1, code := method_2_code, exceptionTable := #[], attributes := #[] }
def k1m1 : Method := { name := "reference", desc := "(I)Z", sig := { parameters := [.int], returnType := some .boolean }, accessFlags := 10, code := some k1c1 }
def k1c2 : Code := { maxStack := 2, maxLocals := 4, code := code, exceptionTable := #[], attributes := #[] }
def k1m2 : Method := { name := "law", desc := "(II)Z", sig := { parameters := [.int, .int], returnType := some .boolean }, accessFlags := 9, code := some k1c2 }
/-- com/example/oskolok/oskolok/CharactersIsNamePartPinLaw -/
def k1 : Class := { plain "com/example/oskolok/oskolok/CharactersIsNamePartPinLaw" (some 0) with
  accessFlags := 49
  interfaces := #[]
  cf := some (fileOf pool1 7 #[] #[{ accessFlags := 2, nameIndex := 5, descriptorIndex := 6, attributes := #[] }, { accessFlags := 10, nameIndex := 22, descriptorIndex := 19, attributes := #[] }, { accessFlags := 9, nameIndex := 30, descriptorIndex := 31, attributes := #[] }] 49 2 #[] #[{ accessFlags := 26, nameIndex := 23, descriptorIndex := 24, attributes := #[] }, { accessFlags := 26, nameIndex := 26, descriptorIndex := 24, attributes := #[] }])
  fields := #[{ name := "LO", type := .long, accessFlags := 26, slot := 0, constantValue := 0 }, { name := "HI", type := .long, accessFlags := 26, slot := 1, constantValue := 0 }]
  methods := #[k1m0, k1m1, k1m2]
  instanceTypes := #[]
  staticTypes := #[.long, .long]
  resolved := Array.replicate 34 none
  statics := none }

def pool2 : Array CpInfo := pool [(2, .class_ 4), (1, u "java/lang/Object"), (0, u "<init>"), (0, u "()V"), (18, .class_ 26), (0, u "com/example/oskolok/oskolok/Characters"), (2, u "isNamePart"), (0, u "(I)Z")] 20

def k2m0 : Method := { name := "<init>", desc := "()V", sig := { parameters := [], returnType := none }, accessFlags := 2, code := none }
def k2c1 : Code := { maxStack := 2, maxLocals := 1, code := prog_2_method_2_code, exceptionTable := #[], attributes := #[] }
def k2m1 : Method := { name := "isNamePart", desc := "(I)Z", sig := { parameters := [.int], returnType := some .boolean }, accessFlags := 8, code := some k2c1 }
/-- com/example/oskolok/oskolok/Characters -/
def k2 : Class := { plain "com/example/oskolok/oskolok/Characters" (some 0) with
  accessFlags := 48
  interfaces := #[]
  cf := some (fileOf pool2 25 #[] #[{ accessFlags := 2, nameIndex := 5, descriptorIndex := 6, attributes := #[] }, { accessFlags := 8, nameIndex := 29, descriptorIndex := 30, attributes := #[] }] 48 2 #[] #[])
  fields := #[]
  methods := #[k2m0, k2m1]
  instanceTypes := #[]
  staticTypes := #[]
  resolved := Array.replicate 51 none
  statics := none }

def pool3 : Array CpInfo := pool [(1, u "java/lang/Cloneable"), (0, .class_ 1), (0, u "java/lang/Object"), (0, .class_ 3)] 3

/-- java/lang/Cloneable -/
def k3 : Class := { plain "java/lang/Cloneable" (some 0) with
  accessFlags := 1537
  interfaces := #[]
  cf := some (fileOf pool3 2 #[] #[] 1537 4 #[] #[])
  fields := #[]
  methods := #[]
  instanceTypes := #[]
  staticTypes := #[]
  resolved := Array.replicate 8 none
  statics := none }

def pool4 : Array CpInfo := pool [(1, u "java/io/Serializable"), (0, .class_ 1), (0, u "java/lang/Object"), (0, .class_ 3)] 3

/-- java/io/Serializable -/
def k4 : Class := { plain "java/io/Serializable" (some 0) with
  accessFlags := 1537
  interfaces := #[]
  cf := some (fileOf pool4 2 #[] #[] 1537 4 #[] #[])
  fields := #[]
  methods := #[]
  instanceTypes := #[]
  staticTypes := #[]
  resolved := Array.replicate 8 none
  statics := none }

/-- the primitive byte -/
def k5 : Class := { plain "byte" none with kind := .primitive 'B', accessFlags := 0x411 }
/-- [B -/
def k6 : Class := { plain "[B" (some 0) with kind := .array 5 .byte, interfaces := #[3, 4], accessFlags := 1041 }

/-- the primitive int -/
def k7 : Class := { plain "int" none with kind := .primitive 'I', accessFlags := 0x411 }
/-- [I -/
def k8 : Class := { plain "[I" (some 0) with kind := .array 7 .int, interfaces := #[3, 4], accessFlags := 1041 }

def heap : Heap := #[]
def classes : Array Class := #[k0, k1, k2, k3, k4, k5, k6, k7, k8]
def interned : List (Array UInt16 × Addr) := []
def slotsUsed : Nat := 0
def theMethod : MethodId := ⟨1, 2⟩
def args0 : Array Value := #[.int 65, .int 1]
def aboutOver (below : List Frame) : State where
  vm := { classes := classes, interned := interned.toArray }
  heap := heap
  slotsUsed := slotsUsed
  threads := #[{ frames := .invoking theMethod args0 :: below }]
def below0 : List Frame := [.native { method := ⟨0, 0⟩, args := #[] }]
def about1 : State := aboutOver below0
def p0 : Program := .bare "" "" ""
def e0 : Env := launch0.env 0 0 0
theorem w_frames : about1.frames = Frame.invoking theMethod args0 :: below0 := rfl
set_option maxRecDepth 65536 in
theorem w_args : argsFit about1.vm theMethod args0 = true := by decide +kernel
set_option maxRecDepth 65536 in
theorem w_heap : heapFits about1 = true := by decide +kernel
set_option maxRecDepth 65536 in
theorem w_runnable : about1.curStatus? = some .runnable := by decide +kernel
set_option maxRecDepth 65536 in
theorem w_alone : about1.alone = true := by decide +kernel
set_option maxRecDepth 65536 in
theorem w_named : about1.methodNamed? x = some theMethod := by decide +kernel
set_option maxRecDepth 65536 in
theorem w_hears : about1.hears theMethod below0 = true := by decide +kernel
set_option maxRecDepth 65536 in
theorem w_ripe : about1.ripe theMethod args0 below0 = true := by decide +kernel
theorem w_running : about1.status = .running := rfl
set_option maxRecDepth 65536 in
theorem w_room : about1.hasRoom e0.platform room_1 = true :=
  launch0.hasRoom_least _ room_1 (by decide +kernel) (by decide +kernel) (by decide +kernel) (by decide +kernel) (by decide +kernel) (by decide +kernel)
theorem allAtoms_all (ts : List Jvm.Cond) (a : Array Jvm.Value) (st : Jvm.State) : (allAtoms ts).before a st = ts.all (fun c => c.before a st) := by
  induction ts with
  | nil => rfl
  | cons c t ih =>
    show (Jvm.Cond.and c (allAtoms t)).before a st = _
    rw [Jvm.Cond.before_and, ih, List.all_cons]
def words1 : List Jvm.Cond := Jvm.Cond.code x code maxLocals ret :: tables_1
/-- a 'code' word, met by the world's own term for the bytes: nothing is compared byte by byte -/
theorem code_word {y : MethodName} {bytes : ByteArray} {mx : Nat} {rt : Option FieldType} {a : Array Value} {s : State} {m : MethodId} {meth : Method} {c : Code} (h1 : s.methodNamed? y = some m) (h2 : s.vm.method? m = some meth) (h3 : meth.code = some c) (h4 : c.code = bytes)
    (h5 : (c.maxLocals == mx && c.exceptionTable.isEmpty && decide (c.maxStack ≤ mostOperands) && decide (meth.sig.returnType = rt) && !meth.locks && decide (parseMethodDescriptor y.desc = some meth.sig)) = true) : (Jvm.Cond.code y bytes mx rt).before a s = true := by
  simp only [Bool.and_eq_true, beq_iff_eq, Bool.not_eq_true', decide_eq_true_eq] at h5
  obtain ⟨⟨⟨⟨⟨g1, g2⟩, g3⟩, g4⟩, g5⟩, g6⟩ := h5
  simp [Cond.before, Cond.holds, Cond.value, h1, h2, h3, h4, g1, g2, g3, g4, g5, g6]
def isCode : Jvm.Cond → Bool
  | .code _ _ _ _ => true
  | _ => false
theorem all_split {L : List Jvm.Cond} {P : Jvm.Cond → Bool} (h1 : L.all (fun c => isCode c || P c) = true) (h2 : ∀ c ∈ L.filter isCode, P c = true) : L.all P = true := by
  refine List.all_eq_true.mpr fun c hc => ?_
  have h := List.all_eq_true.mp h1 c hc
  rcases Bool.eq_false_or_eq_true (isCode c) with hi | hi
  · exact h2 c (List.mem_filter.mpr ⟨hc, hi⟩)
  · simpa [hi] using h
set_option maxRecDepth 65536 in
theorem w_c0 : (Jvm.Cond.code x code maxLocals ret).before args0 about1 = true := code_word (m := ⟨1, 2⟩) (meth := k1m2) (c := k1c2) (by decide +kernel) rfl rfl rfl (by decide +kernel)
set_option maxRecDepth 65536 in
theorem w_c1 : (Jvm.Cond.code ({ cls := "com/example/oskolok/oskolok/Characters", name := "isNamePart", desc := "(I)Z" } : Jvm.MethodName) prog_2_method_2_code (1 : Nat) (Option.some Jvm.ClassFile.FieldType.boolean)).before args0 about1 = true := code_word (m := ⟨2, 1⟩) (meth := k2m1) (c := k2c1) (by decide +kernel) rfl rfl rfl (by decide +kernel)
set_option maxRecDepth 65536 in
theorem w_c2 : (Jvm.Cond.code ({ cls := "com/example/oskolok/oskolok/CharactersIsNamePartPinLaw", name := "reference", desc := "(I)Z" } : Jvm.MethodName) method_2_code (1 : Nat) (Option.some Jvm.ClassFile.FieldType.boolean)).before args0 about1 = true := code_word (m := ⟨1, 1⟩) (meth := k1m1) (c := k1c1) (by decide +kernel) rfl rfl rfl (by decide +kernel)
def codes1 : List Jvm.Cond := [Jvm.Cond.code x code maxLocals ret, Jvm.Cond.code ({ cls := "com/example/oskolok/oskolok/Characters", name := "isNamePart", desc := "(I)Z" } : Jvm.MethodName) prog_2_method_2_code (1 : Nat) (Option.some Jvm.ClassFile.FieldType.boolean), Jvm.Cond.code ({ cls := "com/example/oskolok/oskolok/CharactersIsNamePartPinLaw", name := "reference", desc := "(I)Z" } : Jvm.MethodName) method_2_code (1 : Nat) (Option.some Jvm.ClassFile.FieldType.boolean)]
set_option maxRecDepth 65536 in
theorem codes_eq : words1.filter isCode = codes1 := rfl
theorem w_codes : ∀ c ∈ words1.filter isCode, c.before args0 about1 = true := by
  rw [codes_eq]
  intro c hc
  simp only [codes1, List.mem_cons, List.not_mem_nil, or_false] at hc
  rcases hc with rfl | rfl | rfl
  · exact w_c0
  · exact w_c1
  · exact w_c2
set_option maxRecDepth 65536 in
theorem w_t1 : words1.all (fun c => isCode c || c.before args0 about1) = true := by decide +kernel
theorem w_tables : (allAtoms (Jvm.Cond.code x code maxLocals ret :: tables_1)).before args0 about1 = true := by
  rw [allAtoms_all]
  show words1.all (fun c => c.before args0 about1) = true
  refine all_split ?_ w_codes
  rw [w_t1]
set_option maxRecDepth 65536 in
theorem w_case : (Jvm.Cond.and given_1 narrow_1).before args0 about1 = true := by decide +kernel
theorem w_applies : (headSpec (Jvm.Cond.code x code maxLocals ret :: tables_1) room_1).applies x e0.platform about1 = true :=
  (Spec.applies_iff w_frames).mpr ⟨w_running, w_runnable, w_alone, w_named, w_hears, w_ripe, w_room, w_tables⟩
theorem atStart : AtStart classFile x code maxLocals ret World_1 tables_1 room_1 Calls_1 rest_1 Pre_1 launch0 p0 e0 about1 theMethod args0 below0 :=
  ⟨lists_1, trivial, launch0.admits_env _ _ _, launch0.least_env, fairChoices_fair.cas, fairChoices_fair.clock, w_frames, w_args, w_heap, w_applies, trivial, trivial, w_case⟩
end start1
theorem witness_1 : WitnessClaimed_1 := ⟨start1.p0, start1.e0, start1.about1, start1.theMethod, start1.args0, start1.below0, start1.atStart⟩
end Jvm.Pilot.@@N@@
