import JvmDerived
import JvmDerived.Pilot.@@N@@Statement
import JvmDerived.Pilot.@@N@@Code
set_option linter.unusedVariables false
set_option linter.unusedSimpArgs false
namespace Jvm.RoadKit
open Sem ClassFile Op Lib Jvm.Stand Jvm.Free Jvm.LawKit
section New
variable {p : Program} {l : Launch} {e : Env} {R : Room} {s : State} {m : MethodId} {args : Array Value} {below : List Frame} {meth : Method} {c : Code} {T : State} {locs : List Loc} {cells slots : Nat}
theorem retI (X : Stand p l e R s m args below meth c T locs cells slots) (hx : p.tables.exec = Jvm.exec) {pc : Nat} {Ls : Array Slot} {z : Int32} {rest : List Value} (hret : meth.sig.returnType = some .int) (hd : decode c.code pc = .ok (.ireturn, 1)) {fs : List Frame}
    (hl : ∀ (f : JFrame) (acts : List Action), f.method = m → f.locked = none → f.entered = [] → (doReturn e (T.setTop f) acts (some (.int z))).1 = T.setFrames fs) : Steps p.tables e below (T.setTop (mkF m pc Ls (.int z :: rest))) (T.setFrames fs) := by
  have hm' : T.vm.method? m = some meth := X.method'
  have hn : narrow .int (.int z) = .int z := rfl
  show Steps p.tables e below (T.setTop { method := m, pc := pc, locals := Ls, stack := _ :: rest, locked := none }) _
  jvm_step X.here [X.here.top, hx, hd, hm', hret, hn]
  first | (intro acts; rw [hl _ acts rfl rfl rfl]) | rw [hl _ _ rfl rfl rfl]
  exact Steps.refl _
end New
end Jvm.RoadKit
namespace Jvm.Pilot.@@N@@
open Jvm Jvm.ClassFile Sem Op Lib Jvm.Free Jvm.Stand Jvm.LawKit Jvm.RoadKit Bundle Jvm.Pilot.@@N@@.Jvm.D
section OwnRun
variable {p : Program} {l : Launch} {e : Env} {R : Room} {s : State} {m : MethodId} {args : Array Value} {below : List Frame} {meth : Method} {c : Code} {T T' : State} {locs : List Loc} {cells slots : Nat} {Q : Option Value → Heap → List Loc → Prop} {C S : Nat}
/-- from T with the frame g on top the body comes to its end, and what it leaves is as Q says -/
def ORun (p : Program) (e : Env) (below : List Frame) (s : State) (Q : Option Value → Heap → List Loc → Prop) (C S : Nat) (T : State) (g : JFrame) : Prop :=
  ∃ s₂ o, Steps p.tables e below (T.setTop g) s₂ ∧ s₂.status = .running ∧ Ended s₂ below o ∧ ∃ v L, o = .returned v ∧ Q v s₂.heap L ∧ FrameEnd s o s₂ L C S
theorem own_by {g g' : JFrame} (st : ∀ t, Steps p.tables e below (T'.setTop g') t → Steps p.tables e below (T.setTop g) t) (h : ORun p e below s Q C S T' g') : ORun p e below s Q C S T g := by
  obtain ⟨s₂, o, h1, h2⟩ := h
  exact ⟨s₂, o, st _ h1, h2⟩
theorem own_tr {g g' : JFrame} (st : Steps p.tables e below (T.setTop g) (T'.setTop g')) (h : ORun p e below s Q C S T' g') : ORun p e below s Q C S T g := own_by (fun _ k => st.trans k) h
theorem own_letI (x : Int32) {f : Int32 → JFrame} (h : ∀ v, v = x → ORun p e below s Q C S T (f v)) : ORun p e below s Q C S T (f x) := h x rfl
theorem own_letJ (x : Int64) {f : Int64 → JFrame} (h : ∀ v, v = x → ORun p e below s Q C S T (f v)) : ORun p e below s Q C S T (f x) := h x rfl
theorem own_retI (X : Stand p l e R s m args below meth c T locs cells slots) (hx : p.tables.exec = Jvm.exec) {pc : Nat} {Ls : Array Slot} {z : Int32} {rest : List Value} (hret : meth.sig.returnType = some .int) (hlk : meth.locks = false) (hd : decode c.code pc = .ok (.ireturn, 1)) (hc : cells ≤ C) (hs : slots ≤ S) (hQ : Q (some (.int z)) T.heap locs) :
    ORun p e below s Q C S T (mkF m pc Ls (.int z :: rest)) := by
  obtain ⟨fs, hr, hrun, hended, hW, hsame⟩ := X.leave (v := some (.int z)) (fun h => by rw [hret] at h; cases h) hlk
  exact ⟨_, _, retI X hx hret hd hr, hrun, hended, _, _, rfl, hQ, ⟨_, rfl⟩, hW, hsame.mono hc hs⟩
theorem own_retN (X : Stand p l e R s m args below meth c T locs cells slots) (hx : p.tables.exec = Jvm.exec) {pc : Nat} {Ls : Array Slot} {z : Int32} {t : FieldType} {rest : List Value} (hret : meth.sig.returnType = some t) (ht : t = .boolean ∨ t = .byte ∨ t = .char ∨ t = .short) (hlk : meth.locks = false) (hd : decode c.code pc = .ok (.ireturn, 1)) (hc : cells ≤ C) (hs : slots ≤ S) (hQ : Q (some (.int (nar t z))) T.heap locs) :
    ORun p e below s Q C S T (mkF m pc Ls (.int z :: rest)) := by
  obtain ⟨fs, hr, hrun, hended, hW, hsame⟩ := X.leave (v := some (.int (nar t z))) (fun h => by rw [hret] at h; cases h) hlk
  exact ⟨_, _, retN X hx hret ht hd hr, hrun, hended, _, _, rfl, hQ, ⟨_, rfl⟩, hW, hsame.mono hc hs⟩
theorem own_retJ (X : Stand p l e R s m args below meth c T locs cells slots) (hx : p.tables.exec = Jvm.exec) {pc : Nat} {Ls : Array Slot} {z : Int64} (hret : meth.sig.returnType = some .long) (hlk : meth.locks = false) (hd : decode c.code pc = .ok (.lreturn, 1)) (hc : cells ≤ C) (hs : slots ≤ S) (hQ : Q (some (.long z)) T.heap locs) :
    ORun p e below s Q C S T (mkF m pc Ls [.long z]) := by
  obtain ⟨fs, hr, hrun, hended, hW, hsame⟩ := X.leave (v := some (.long z)) (fun h => by rw [hret] at h; cases h) hlk
  exact ⟨_, _, X.lreturnOut hx hret hd hr, hrun, hended, _, _, rfl, hQ, ⟨_, rfl⟩, hW, hsame.mono hc hs⟩
theorem own_retA (X : Stand p l e R s m args below meth c T locs cells slots) (hx : p.tables.exec = Jvm.exec) {pc : Nat} {Ls : Array Slot} {z : Value} {t : FieldType} {rest : List Value} (hret : meth.sig.returnType = some t) (ht : t.isReference = true) (hz : z.isRef = true) (hn : narrow t z = z) (hlk : meth.locks = false) (hd : decode c.code pc = .ok (.areturn, 1)) (hc : cells ≤ C) (hs : slots ≤ S) (hQ : Q (some z) T.heap locs) :
    ORun p e below s Q C S T (mkF m pc Ls (z :: rest)) := by
  obtain ⟨fs, hr, hrun, hended, hW, hsame⟩ := X.leave (v := some z) (fun h => by rw [hret] at h; cases h) hlk
  exact ⟨_, _, retOut X hx hret hn (Or.inr (Or.inr (Or.inr (Or.inr ⟨rfl, ht, hz⟩)))) hd hr, hrun, hended, _, _, rfl, hQ, ⟨_, rfl⟩, hW, hsame.mono hc hs⟩
theorem own_retV (X : Stand p l e R s m args below meth c T locs cells slots) (hx : p.tables.exec = Jvm.exec) {pc : Nat} {Ls : Array Slot} (hret : meth.sig.returnType = none) (hlk : meth.locks = false) (hd : decode c.code pc = .ok (.return_, 1)) (hc : cells ≤ C) (hs : slots ≤ S) (hQ : Q none T.heap locs) :
    ORun p e below s Q C S T (mkF m pc Ls []) := by
  obtain ⟨fs, hr, hrun, hended, hW, hsame⟩ := X.leave (v := none) (fun _ => rfl) hlk
  exact ⟨_, _, X.returnOut hx hret hd hr, hrun, hended, _, _, rfl, hQ, ⟨_, rfl⟩, hW, hsame.mono hc hs⟩
/-- a body's contract: called with as at the heap h (tables as at Z) it returns, and what it leaves is as Q says -/
abbrev OMet (l : Launch) (y : MethodName) (bytes : ByteArray) (maxL : Nat) (ret : Option FieldType) (ws : List Jvm.Cond) (rm : Room) (as' : Array Value) (Z : State) (h : Heap) (Q : Option Value → Heap → List Loc → Prop) : Prop :=
  MetFree l y (head1 (Jvm.Cond.code y bytes maxL ret :: ws) rm) (fun a U => a = as' ∧ Z.Warmed39 U.vm ∧ U.heap = h) (fun _ _ _ _ _ => True) (fun _ U o U' => ∃ v L, o = .returned v ∧ Q v U'.heap L ∧ FrameEnd U o U' L rm.cells rm.slots)
theorem own_met {y : MethodName} {bytes : ByteArray} {maxL : Nat} {ret : Option FieldType} {ws : List Jvm.Cond} {rm : Room} {as' : Array Value} {Z : State} {h : Heap} {Q : Option Value → Heap → List Loc → Prop} (hpn : plainFor y = true)
    (body : ∀ p e s m below meth c s₁, Stand p l e rm s m as' below meth c s₁ [] 0 0 → p.tables.exec = Jvm.exec → c.code = bytes → c.maxLocals = maxL → s.vm.findClass y.cls = some m.cls → meth.name = y.name → meth.sig.returnType = ret → meth.locks = false → Z.Warmed39 s.vm → s₁.heap = h →
      ORun p e below s Q rm.cells rm.slots s₁ (entryFrame m as' maxL)) : OMet l y bytes maxL ret ws rm as' Z h Q := by
  refine MetFree.of_bodySF hpn hisR ?_
  intro p e s m args below meth c s₁ Bd hml0 hP hK
  obtain ⟨rfl, hZ, hh⟩ := hP
  exact body p e s m below meth c s₁ (Stand.of_body Bd) Bd.exec Bd.bytes hml0 (findClass_of_methodNamed Bd.named) (name_of_methodNamed Bd.named Bd.method).1 Bd.returns Bd.notSynchronized hZ (by rw [← hh, Bd.state]; rfl)
section Calls
variable {Z : State} {a0 : Array Value} {h : Heap} {own : String} {index : Nat} {y z : MethodName} {bytes : ByteArray} {maxL : Nat} {ret : Option FieldType} {rm : Room} {as' : Array Value} {Qc : Option Value → Heap → List Loc → Prop} {W pc : Nat} {Ls : Array Slot} {st argsL rest : List Value}
theorem own_callS (X : Stand p l e R s m args below meth c T locs cells slots) (hx : p.tables.exec = Jvm.exec) (hZ : Z.Warmed39 s.vm) (hown : s.vm.findClass own = some m.cls) (w1 : (Jvm.Cond.methodLink own index y).before a0 Z = true) (w2 : (Jvm.Cond.static y).before a0 Z = true) (w3 : (Jvm.Cond.initialized y.cls).before a0 Z = true) (w4 : (Jvm.Cond.code y bytes maxL ret).before a0 Z = true)
    (hy : y.cls ≠ "java/lang/invoke/MethodHandle" ∧ y.cls ≠ "java/lang/invoke/VarHandle") (M : OMet l y bytes maxL ret [] rm as' Z h Qc) (eT : T.heap = h) (hf : rm.frames + 1 ≤ R.frames) (hl : W + (maxL + 11) + rm.locals ≤ R.locals) (hc : cells + rm.cells ≤ R.cells) (hs : slots + rm.slots ≤ R.slots)
    (hsz : Ls.size = c.maxLocals) (hlen : ∀ sig, parseMethodDescriptor y.desc = some sig → argsL.length = sig.parameters.length) (hst : st = argsL.reverse ++ rest) (has : argsL.toArray = as') (hW : 2 * 0 + (rest.map fun v => v.category).sum ≤ W) (hd : decode c.code pc = .ok (.invokestatic index, 3))
    (K : ∀ T' L v, Stand p l e R s m args below meth c T' (locs ++ L) (cells + rm.cells) (slots + rm.slots) → Qc v T'.heap L → ORun p e below s Q C S T' (mkF m (pc + 3) Ls (v.toList ++ rest))) : ORun p e below s Q C S T (mkF m pc Ls st) := by
  obtain ⟨v, _, ⟨T', L', k', n'⟩, -, X', ⟨Lc, hQ, e1, e2, e3⟩, stp⟩ := Jvm.LawKit.callS X hx (y := y) hown (mvT hZ w1) (mvT hZ w2) (mvT hZ w3) (mvT hZ w4) hy (backOf (W := W) M hZ w4 w3 hf hl) (g := mkF m pc Ls st) rfl hsz (argsL := argsL) (rest := rest) hlen hst hW hd (fun _ _ => ⟨has, eT, hc, hs⟩)
  dsimp only [Pt.U, Pt.locs, Pt.cells, Pt.slots] at X' e1 e2 e3 stp hQ
  subst e1 e2 e3
  exact own_by stp (K T' Lc v X' hQ)
theorem own_callC (X : Stand p l e R s m args below meth c T locs cells slots) (hx : p.tables.exec = Jvm.exec) (hZ : Z.Warmed39 s.vm) (hown : s.vm.findClass own = some m.cls) (hn : y.name = "<init>") (w1 : (Jvm.Cond.methodLink own index y).before a0 Z = true) (w2 : (Jvm.Cond.instanceMethod y).before a0 Z = true) (w3 : (Jvm.Cond.initialized y.cls).before a0 Z = true) (w4 : (Jvm.Cond.code y bytes maxL none).before a0 Z = true)
    (hy : y.cls ≠ "java/lang/invoke/MethodHandle" ∧ y.cls ≠ "java/lang/invoke/VarHandle") (M : OMet l y bytes maxL none [] rm as' Z h Qc) (eT : T.heap = h) (hf : rm.frames + 1 ≤ R.frames) (hl : W + (maxL + 11) + rm.locals ≤ R.locals) (hc : cells + rm.cells ≤ R.cells) (hs : slots + rm.slots ≤ R.slots)
    {b : Addr} (hsz : Ls.size = c.maxLocals) (hlen : ∀ sig, parseMethodDescriptor y.desc = some sig → argsL.length = sig.parameters.length) (hst : st = argsL.reverse ++ .ref b :: rest) (has : (.ref b :: argsL).toArray = as') (hW : 2 * 0 + (rest.map fun v => v.category).sum ≤ W) (hd : decode c.code pc = .ok (.invokespecial index, 3))
    (K : ∀ T' L v, Stand p l e R s m args below meth c T' (locs ++ L) (cells + rm.cells) (slots + rm.slots) → Qc v T'.heap L → ORun p e below s Q C S T' (mkF m (pc + 3) Ls (v.toList ++ rest))) : ORun p e below s Q C S T (mkF m pc Ls st) := by
  obtain ⟨v, _, ⟨T', L', k', n'⟩, -, X', ⟨Lc, hQ, e1, e2, e3⟩, stp⟩ := X.specialBack hx (y := y) hn hown (mvT hZ w1) (mvT hZ w2) (mvT hZ w4) hy (backOf (W := W) M hZ w4 w3 hf hl) (g := mkF m pc Ls st) rfl hsz (Steps.refl _) (a := b) (argsL := argsL) (rest := rest) hlen hst hW hd (fun _ _ => ⟨has, eT, hc, hs⟩)
  dsimp only [Pt.U, Pt.locs, Pt.cells, Pt.slots] at X' e1 e2 e3 stp hQ
  subst e1 e2 e3
  exact own_tr stp (K T' Lc v X' hQ)
theorem own_callV (X : Stand p l e R s m args below meth c T locs cells slots) (hx : p.tables.exec = Jvm.exec) (hZ : Z.Warmed39 s.vm) (hown : s.vm.findClass own = some m.cls) {Cn : String} {b : Addr} (E : Exa Z h b Cn) (w1 : (Jvm.Cond.methodLink own index y).before a0 Z = true) (wd : (Jvm.Cond.declares y).before a0 Z = true) (nf : NotFace s y) (ws : (Jvm.Cond.selects Cn y z).before a0 Z = true) (w2 : (Jvm.Cond.instanceMethod z).before a0 Z = true) (w3 : (Jvm.Cond.initialized z.cls).before a0 Z = true) (w4 : (Jvm.Cond.code z bytes maxL ret).before a0 Z = true)
    (hy : y.cls ≠ "java/lang/invoke/MethodHandle" ∧ y.cls ≠ "java/lang/invoke/VarHandle") (M : OMet l z bytes maxL ret [] rm as' Z h Qc) (eT : T.heap = h) (hf : rm.frames + 1 ≤ R.frames) (hl : W + (maxL + 11) + rm.locals ≤ R.locals) (hc : cells + rm.cells ≤ R.cells) (hs : slots + rm.slots ≤ R.slots)
    (hsz : Ls.size = c.maxLocals) (hlen : ∀ sig, parseMethodDescriptor y.desc = some sig → argsL.length = sig.parameters.length) (hst : st = argsL.reverse ++ .ref b :: rest) (has : (.ref b :: argsL).toArray = as') (hW : 2 * 0 + (rest.map fun v => v.category).sum ≤ W) (hd : decode c.code pc = .ok (.invokevirtual index, 3))
    (K : ∀ T' L v, Stand p l e R s m args below meth c T' (locs ++ L) (cells + rm.cells) (slots + rm.slots) → Qc v T'.heap L → ORun p e below s Q C S T' (mkF m (pc + 3) Ls (v.toList ++ rest))) : ORun p e below s Q C S T (mkF m pc Ls st) := by
  obtain ⟨cq, kq, qa, qb, qc⟩ := isOf hZ eT E
  obtain ⟨v, _, ⟨T', L', k', n'⟩, -, X', ⟨Lc, hQ, e1, e2, e3⟩, stp⟩ := X.virtualBack hx (y := y) (z := z) hown (mvT hZ w1) (mvT hZ wd) nf (mvT hZ ws) (mvT hZ w2) hy (backOf (W := W) M hZ w4 w3 hf hl) qa qc (g := mkF m pc Ls st) rfl hsz (Steps.refl _) (argsL := argsL) (rest := rest) hlen hst hW hd (fun _ _ => ⟨has, eT, hc, hs⟩)
  dsimp only [Pt.U, Pt.locs, Pt.cells, Pt.slots] at X' e1 e2 e3 stp hQ
  subst e1 e2 e3
  exact own_tr stp (K T' Lc v X' hQ)
end Calls
end OwnRun
theorem own_lt {x y : Int32} {a b : Int} (h : x < y) (ha : x.toInt = a) (hb : y.toInt = b) : a < b := by subst ha hb; exact Int32.lt_iff_toInt_lt.mp h
theorem own_nlt {x y : Int32} {a b : Int} (h : ¬ x < y) (ha : x.toInt = a) (hb : y.toInt = b) : b ≤ a := by subst ha hb; exact Int.not_lt.mp fun q => h (Int32.lt_iff_toInt_lt.mpr q)
theorem own_eq {x y : Int32} {a b : Int} (h : x = y) (ha : x.toInt = a) (hb : y.toInt = b) : a = b := by subst ha hb h; rfl
theorem own_ne {x y : Int32} {a b : Int} (h : ¬ x = y) (ha : x.toInt = a) (hb : y.toInt = b) : a ≠ b := by subst ha hb; exact fun q => h (Int32.toInt_inj.mp q)
theorem own_ltL {x y : Int64} {a b : Int} (h : x < y) (ha : x.toInt = a) (hb : y.toInt = b) : a < b := by subst ha hb; exact Int64.lt_iff_toInt_lt.mp h
theorem own_nltL {x y : Int64} {a b : Int} (h : ¬ x < y) (ha : x.toInt = a) (hb : y.toInt = b) : b ≤ a := by subst ha hb; exact Int.not_lt.mp fun q => h (Int64.lt_iff_toInt_lt.mpr q)
theorem own_eqL {x y : Int64} {a b : Int} (h : x = y) (ha : x.toInt = a) (hb : y.toInt = b) : a = b := by subst ha hb h; rfl
theorem own_neL {x y : Int64} {a b : Int} (h : ¬ x = y) (ha : x.toInt = a) (hb : y.toInt = b) : a ≠ b := by subst ha hb; exact fun q => h (Int64.toInt_inj.mp q)
theorem own_lc {cd : ClassFile.Cond} {x y : Int64} {b : Bool} (h : if_icmp.holds cd (lcmpW x y) 0 = b) : ifCond.holds cd (lcmpW x y) = b := (if0 _ _).trans h
theorem own_lclt {x y : Int64} (h : x < y) : ifCond.holds .lt (lcmpW x y) = true ∧ ifCond.holds .ge (lcmpW x y) = false := ⟨own_lc (tlt ((lw_lt x y).mpr h)).1, own_lc (tlt ((lw_lt x y).mpr h)).2.1⟩
theorem own_lcnlt {x y : Int64} (h : ¬ x < y) : ifCond.holds .lt (lcmpW x y) = false ∧ ifCond.holds .ge (lcmpW x y) = true := have q : ¬ lcmpW x y < 0 := fun z => h ((lw_lt x y).mp z); ⟨own_lc (flt q).1, own_lc (flt q).2.1⟩
theorem own_lcgt {x y : Int64} (h : y < x) : ifCond.holds .gt (lcmpW x y) = true ∧ ifCond.holds .le (lcmpW x y) = false := ⟨own_lc (tlt ((lw_gt x y).mpr h)).2.2.1, own_lc (tlt ((lw_gt x y).mpr h)).2.2.2⟩
theorem own_lcngt {x y : Int64} (h : ¬ y < x) : ifCond.holds .gt (lcmpW x y) = false ∧ ifCond.holds .le (lcmpW x y) = true := have q : ¬ 0 < lcmpW x y := fun z => h ((lw_gt x y).mp z); ⟨own_lc (flt q).2.2.1, own_lc (flt q).2.2.2⟩
theorem own_lceq {x y : Int64} (h : x = y) : ifCond.holds .eq (lcmpW x y) = true ∧ ifCond.holds .ne (lcmpW x y) = false := ⟨own_lc (teq ((lw_eq x y).mpr h)).1, own_lc (teq ((lw_eq x y).mpr h)).2⟩
theorem own_lcne {x y : Int64} (h : ¬ x = y) : ifCond.holds .eq (lcmpW x y) = false ∧ ifCond.holds .ne (lcmpW x y) = true := have q : ¬ lcmpW x y = 0 := fun z => h ((lw_eq x y).mp z); ⟨own_lc (feq q).1, own_lc (feq q).2⟩
theorem own_kext {h0 h : Heap} (K : Keep h0 h []) : Ext h0 h := ⟨K.1, fun a c q => K.2.1 a c q nin0⟩
theorem pd_0 : parseMethodDescriptor "()V" = some ⟨[], none⟩ := by decide +kernel
theorem pd_1 : parseMethodDescriptor "(II)I" = some ⟨[.int, .int], some .int⟩ := by decide +kernel
theorem pd_2 : parseMethodDescriptor "(IZI)V" = some ⟨[.int, .boolean, .int], none⟩ := by decide +kernel
theorem pd_3 : parseMethodDescriptor "(I)I" = some ⟨[.int], some .int⟩ := by decide +kernel
theorem d1_0 : decode jdk_29_method_65_code 0 = .ok (.iload_n 0, 1) := by decide +kernel
theorem d1_1 : decode jdk_29_method_65_code 1 = .ok (.iload_n 1, 1) := by decide +kernel
theorem d1_2 : decode jdk_29_method_65_code 2 = .ok (.if_icmp .lt 7, 3) := by decide +kernel
theorem d1_5 : decode jdk_29_method_65_code 5 = .ok (.iload_n 0, 1) := by decide +kernel
theorem d1_6 : decode jdk_29_method_65_code 6 = .ok (.goto 4, 3) := by decide +kernel
theorem d1_9 : decode jdk_29_method_65_code 9 = .ok (.iload_n 1, 1) := by decide +kernel
theorem d1_10 : decode jdk_29_method_65_code 10 = .ok (.ireturn, 1) := by decide +kernel
theorem pn_rm1 : plainFor (⟨"java/lang/Math", "max", "(II)I"⟩ : MethodName) = true := Jvm.Free.JP.mathPlain rfl (by decide +kernel)
theorem ef_rm1 (m : MethodId) (x0 : Int32) (x1 : Int32) : entryFrame m #[(.int x0), (.int x1)] 2 = mkF m 0 #[.val (.int x0), .val (.int x1)] [] := by first | (simp [entryFrame, mkF, argsToLocals, Value.category]; done) | rfl
set_option maxRecDepth 65536 in
set_option maxHeartbeats 40000000 in
theorem rm1 (l : Launch) (Z : State) (a0 : Array Value) (hw : ∀ d ∈ tables_1, d.before a0 Z = true) (ws : List Jvm.Cond) (h0 : Heap) (n0 : Nat) (Z0 : n0 ≤ h0.size) (p1 p2 : Int32) :
    OMet l (⟨"java/lang/Math", "max", "(II)I"⟩ : MethodName) jdk_29_method_65_code 2 (some .int) ws ({ frames := 0, cells := 0, slots := 0, locals := 0 } : Room) #[(.int p1), (.int p2)] Z h0 (fun v h L => ∃ r : Int32, v = some (.int r) ∧ p1.toInt ≤ r.toInt ∧ Fr n0 L ∧ h = h0) := by
  refine own_met pn_rm1 ?_
  intro p e s m below meth c s₁ X0 hx hby hml hown hnm hret hlk hZ e0
  rw [ef_rm1]
  have N0 := Fr.nil n0
  show ORun p e below s _ _ _ s₁ (mkF m 0 #[.val (.int p1), .val (.int p2)] [])
  refine own_by (fun t k => XS.iloadN X0.here hx rfl (hb hby d1_0) rfl k) ?_
  show ORun p e below s _ _ _ s₁ (mkF m 1 #[.val (.int p1), .val (.int p2)] [(.int p1)])
  refine own_by (fun t k => XS.iloadN X0.here hx rfl (hb hby d1_1) rfl k) ?_
  show ORun p e below s _ _ _ s₁ (mkF m 2 #[.val (.int p1), .val (.int p2)] [(.int p2), (.int p1)])
  by_cases hc1 : p1 < p2
  · have t1 := own_lt hc1 (a := p1.toInt) (b := p2.toInt) rfl rfl
    refine own_by (fun t k => XS.icmpYes X0.here hx rfl (pc0 := 2) (pc' := 9) rfl (hb hby d1_2) rfl (tlt hc1).1 (by decide) (by decide) k) ?_
    show ORun p e below s _ _ _ s₁ (mkF m 9 #[.val (.int p1), .val (.int p2)] [])
    refine own_by (fun t k => XS.iloadN X0.here hx rfl (hb hby d1_9) rfl k) ?_
    show ORun p e below s _ _ _ s₁ (mkF m 10 #[.val (.int p1), .val (.int p2)] [(.int p2)])
    refine own_retI X0 hx hret hlk (hb hby d1_10) (by decide) (by decide) ?_
    exact ⟨p2, rfl, by omega, N0, e0⟩
  · have t1 := own_nlt hc1 (a := p1.toInt) (b := p2.toInt) rfl rfl
    refine own_by (fun t k => XS.icmpNo X0.here hx rfl (hb hby d1_2) rfl (flt hc1).1 k) ?_
    show ORun p e below s _ _ _ s₁ (mkF m 5 #[.val (.int p1), .val (.int p2)] [])
    refine own_by (fun t k => XS.iloadN X0.here hx rfl (hb hby d1_5) rfl k) ?_
    show ORun p e below s _ _ _ s₁ (mkF m 6 #[.val (.int p1), .val (.int p2)] [(.int p1)])
    refine own_by (fun t k => XS.goto X0.here hx rfl (pc0 := 6) (pc' := 10) rfl (hb hby d1_6) (by decide) (by decide) k) ?_
    show ORun p e below s _ _ _ s₁ (mkF m 10 #[.val (.int p1), .val (.int p2)] [(.int p1)])
    refine own_retI X0 hx hret hlk (hb hby d1_10) (by decide) (by decide) ?_
    exact ⟨p1, rfl, by omega, N0, e0⟩
theorem d3_0 : decode jdk_30_method_1_code 0 = .ok (.aload_n 0, 1) := by decide +kernel
theorem d3_1 : decode jdk_30_method_1_code 1 = .ok (.invokespecial 1, 3) := by decide +kernel
theorem d3_4 : decode jdk_30_method_1_code 4 = .ok (.return_, 1) := by decide +kernel
theorem pn_rm3 : plainName "java/lang/Record" = true := by first | (simp [plainName, overriddenIn]; done) | decide +kernel
theorem ef_rm3 (m : MethodId) (x0 : Addr) : entryFrame m #[(.ref x0)] 1 = mkF m 0 #[.val (.ref x0)] [] := by first | (simp [entryFrame, mkF, argsToLocals, Value.category]; done) | rfl
set_option maxRecDepth 65536 in
set_option maxHeartbeats 40000000 in
theorem rm3 (l : Launch) (Z : State) (a0 : Array Value) (hw : ∀ d ∈ tables_1, d.before a0 Z = true) (ws : List Jvm.Cond) (h0 : Heap) (n0 : Nat) (Z0 : n0 ≤ h0.size) (a1 : Addr) :
    OMet l (⟨"java/lang/Record", "<init>", "()V"⟩ : MethodName) jdk_30_method_1_code 1 none ws ({ frames := 1, cells := 0, slots := 0, locals := 12 } : Room) #[(.ref a1)] Z h0 (fun v h L => v = none ∧ Fr n0 L ∧ h = h0) := by
  refine own_met (plainFor_of_name pn_rm3) ?_
  intro p e s m below meth c s₁ X0 hx hby hml hown hnm hret hlk hZ e0
  rw [ef_rm3]
  have N0 := Fr.nil n0
  show ORun p e below s _ _ _ s₁ (mkF m 0 #[.val (.ref a1)] [])
  refine own_by (fun t k => XS.aloadN X0.here hx rfl (hb hby d3_0) rfl rfl k) ?_
  show ORun p e below s _ _ _ s₁ (mkF m 1 #[.val (.ref a1)] [(.ref a1)])
  obtain ⟨T1, X1, e1, st1⟩ := initO X0 hx hZ hown (hw _ (List.mem_of_getElem? (i := 16) rfl)) (hw _ (List.mem_of_getElem? (i := 17) rfl)) (hw _ (List.mem_of_getElem? (i := 18) rfl)) e0 (g := (mkF m 1 #[.val (.ref a1)] [(.ref a1)])) rfl (by rw [hml]; rfl) rfl (hb hby d3_1) (by decide) (W := 0) (by show 2 * 0 + _ ≤ _; exact Nat.le_of_eq rfl) (by decide)
  refine own_by st1 ?_
  show ORun p e below s _ _ _ T1 (mkF m 4 #[.val (.ref a1)] [])
  refine own_retV X1 hx hret hlk (hb hby d3_4) (by decide) (by decide) ?_
  exact ⟨rfl, N0, e1⟩
theorem d2_0 : decode prog_48_method_1_code 0 = .ok (.aload_n 0, 1) := by decide +kernel
theorem d2_1 : decode prog_48_method_1_code 1 = .ok (.invokespecial 1, 3) := by decide +kernel
theorem d2_4 : decode prog_48_method_1_code 4 = .ok (.iload_n 1, 1) := by decide +kernel
theorem d2_5 : decode prog_48_method_1_code 5 = .ok (.iconst (-1), 1) := by decide +kernel
theorem d2_6 : decode prog_48_method_1_code 6 = .ok (.if_icmp .eq 26, 3) := by decide +kernel
theorem d2_9 : decode prog_48_method_1_code 9 = .ok (.iload_n 1, 1) := by decide +kernel
theorem d2_10 : decode prog_48_method_1_code 10 = .ok (.ifCond .lt 8, 3) := by decide +kernel
theorem d2_13 : decode prog_48_method_1_code 13 = .ok (.iload_n 1, 1) := by decide +kernel
theorem d2_14 : decode prog_48_method_1_code 14 = .ok (.iconst 2, 1) := by decide +kernel
theorem d2_15 : decode prog_48_method_1_code 15 = .ok (.if_icmp .le 17, 3) := by decide +kernel
theorem d2_32 : decode prog_48_method_1_code 32 = .ok (.iload_n 3, 1) := by decide +kernel
theorem d2_33 : decode prog_48_method_1_code 33 = .ok (.iconst 1, 1) := by decide +kernel
theorem d2_34 : decode prog_48_method_1_code 34 = .ok (.if_icmp .ge 17, 3) := by decide +kernel
theorem d2_51 : decode prog_48_method_1_code 51 = .ok (.aload_n 0, 1) := by decide +kernel
theorem d2_52 : decode prog_48_method_1_code 52 = .ok (.iload_n 1, 1) := by decide +kernel
theorem d2_53 : decode prog_48_method_1_code 53 = .ok (.putfield 19, 3) := by decide +kernel
theorem d2_56 : decode prog_48_method_1_code 56 = .ok (.aload_n 0, 1) := by decide +kernel
theorem d2_57 : decode prog_48_method_1_code 57 = .ok (.iload_n 2, 1) := by decide +kernel
theorem d2_58 : decode prog_48_method_1_code 58 = .ok (.putfield 23, 3) := by decide +kernel
theorem d2_61 : decode prog_48_method_1_code 61 = .ok (.aload_n 0, 1) := by decide +kernel
theorem d2_62 : decode prog_48_method_1_code 62 = .ok (.iload_n 3, 1) := by decide +kernel
theorem d2_63 : decode prog_48_method_1_code 63 = .ok (.putfield 27, 3) := by decide +kernel
theorem d2_66 : decode prog_48_method_1_code 66 = .ok (.return_, 1) := by decide +kernel
theorem pn_rm2 : plainName "com/example/baris/baris/engine/query/Fuzziness" = true := by first | (simp [plainName, overriddenIn]; done) | decide +kernel
theorem ef_rm2 (m : MethodId) (x0 : Addr) (x1 : Int32) (x2 : Int32) (x3 : Int32) : entryFrame m #[(.ref x0), (.int x1), (.int x2), (.int x3)] 4 = mkF m 0 #[.val (.ref x0), .val (.int x1), .val (.int x2), .val (.int x3)] [] := by first | (simp [entryFrame, mkF, argsToLocals, Value.category]; done) | rfl
set_option maxRecDepth 65536 in
set_option maxHeartbeats 40000000 in
theorem rm2 (l : Launch) (Z : State) (a0 : Array Value) (hw : ∀ d ∈ tables_1, d.before a0 Z = true) (ws : List Jvm.Cond) (h0 : Heap) (n0 : Nat) (Z0 : n0 ≤ h0.size) (a1 : Addr) (p2 p3 p4 : Int32) (E_a1 : Exa Z h0 a1 "com/example/baris/baris/engine/query/Fuzziness") (g_a1 : n0 ≤ a1) (F_edits_a1 : Fld Z h0 a1 "com/example/baris/baris/engine/query/Fuzziness" "edits" "I" (.int (0 : Int32))) (F_transpositions_a1 : Fld Z h0 a1 "com/example/baris/baris/engine/query/Fuzziness" "transpositions" "Z" (.int (0 : Int32))) (F_maxExpansions_a1 : Fld Z h0 a1 "com/example/baris/baris/engine/query/Fuzziness" "maxExpansions" "I" (.int (0 : Int32))) (b1 : -1 ≤ p2.toInt ∧ p2.toInt ≤ 2 ∧ 1 ≤ p4.toInt) :
    OMet l (⟨"com/example/baris/baris/engine/query/Fuzziness", "<init>", "(IZI)V"⟩ : MethodName) prog_48_method_1_code 4 none ws ({ frames := 2, cells := 0, slots := 0, locals := 24 } : Room) #[(.ref a1), (.int p2), (.int p3), (.int p4)] Z h0 (fun v h L => v = none ∧ Fr n0 L ∧ Keep h0 h [a1] ∧ Exa Z h a1 "com/example/baris/baris/engine/query/Fuzziness" ∧ Fld Z h a1 "com/example/baris/baris/engine/query/Fuzziness" "edits" "I" (.int p2) ∧ Fld Z h a1 "com/example/baris/baris/engine/query/Fuzziness" "transpositions" "Z" (.int (nar .boolean p3)) ∧ Fld Z h a1 "com/example/baris/baris/engine/query/Fuzziness" "maxExpansions" "I" (.int p4)) := by
  refine own_met (plainFor_of_name pn_rm2) ?_
  intro p e s m below meth c s₁ X0 hx hby hml hown hnm hret hlk hZ e0
  rw [ef_rm2]
  have N0 := Fr.nil n0
  show ORun p e below s _ _ _ s₁ (mkF m 0 #[.val (.ref a1), .val (.int p2), .val (.int p3), .val (.int p4)] [])
  refine own_by (fun t k => XS.aloadN X0.here hx rfl (hb hby d2_0) rfl rfl k) ?_
  show ORun p e below s _ _ _ s₁ (mkF m 1 #[.val (.ref a1), .val (.int p2), .val (.int p3), .val (.int p4)] [(.ref a1)])
  refine own_callC X0 hx hZ hown rfl (hw _ (List.mem_of_getElem? (i := 11) rfl)) (hw _ (List.mem_of_getElem? (i := 12) rfl)) (hw _ (List.mem_of_getElem? (i := 14) rfl)) (hw _ (List.mem_of_getElem? (i := 15) rfl)) (by decide) (rm3 l Z a0 hw [] h0 n0 Z0 a1) e0 (by decide) (W := 0) (by decide) (by decide) (by decide) (b := a1) (argsL := []) (rest := []) (by rw [hml]; rfl) (lenOf pd_0 rfl) rfl rfl (Nat.le_of_eq rfl) (hb hby d2_1) ?_
  intro T1 L1 u1 X1 hQ1
  obtain ⟨rfl, Nq1, e1⟩ := hQ1
  have N1 := Fr.app N0 Nq1
  show ORun p e below s _ _ _ T1 (mkF m 4 #[.val (.ref a1), .val (.int p2), .val (.int p3), .val (.int p4)] [])
  refine own_by (fun t k => XS.iloadN X1.here hx rfl (hb hby d2_4) rfl k) ?_
  show ORun p e below s _ _ _ T1 (mkF m 5 #[.val (.ref a1), .val (.int p2), .val (.int p3), .val (.int p4)] [(.int p2)])
  refine own_by (fun t k => XS.iconst X1.here hx rfl (hb hby d2_5) k) ?_
  show ORun p e below s _ _ _ T1 (mkF m 6 #[.val (.ref a1), .val (.int p2), .val (.int p3), .val (.int p4)] [(.int (-1 : Int32)), (.int p2)])
  by_cases hc2 : p2 = (-1 : Int32)
  · have t2 := own_eq hc2 (a := p2.toInt) (b := (-1)) rfl (by decide)
    refine own_by (fun t k => XS.icmpYes X1.here hx rfl (pc0 := 6) (pc' := 32) rfl (hb hby d2_6) rfl (teq hc2).1 (by decide) (by decide) k) ?_
    show ORun p e below s _ _ _ T1 (mkF m 32 #[.val (.ref a1), .val (.int p2), .val (.int p3), .val (.int p4)] [])
    refine own_by (fun t k => XS.iloadN X1.here hx rfl (hb hby d2_32) rfl k) ?_
    show ORun p e below s _ _ _ T1 (mkF m 33 #[.val (.ref a1), .val (.int p2), .val (.int p3), .val (.int p4)] [(.int p4)])
    refine own_by (fun t k => XS.iconst X1.here hx rfl (hb hby d2_33) k) ?_
    show ORun p e below s _ _ _ T1 (mkF m 34 #[.val (.ref a1), .val (.int p2), .val (.int p3), .val (.int p4)] [(.int (1 : Int32)), (.int p4)])
    by_cases hc3 : p4 < (1 : Int32)
    · have t3 := own_lt hc3 (a := p4.toInt) (b := 1) rfl (by decide)
      exfalso
      omega
    · have t3 := own_nlt hc3 (a := p4.toInt) (b := 1) rfl (by decide)
      refine own_by (fun t k => XS.icmpYes X1.here hx rfl (pc0 := 34) (pc' := 51) rfl (hb hby d2_34) rfl (flt hc3).2.1 (by decide) (by decide) k) ?_
      show ORun p e below s _ _ _ T1 (mkF m 51 #[.val (.ref a1), .val (.int p2), .val (.int p3), .val (.int p4)] [])
      refine own_by (fun t k => XS.aloadN X1.here hx rfl (hb hby d2_51) rfl rfl k) ?_
      show ORun p e below s _ _ _ T1 (mkF m 52 #[.val (.ref a1), .val (.int p2), .val (.int p3), .val (.int p4)] [(.ref a1)])
      refine own_by (fun t k => XS.iloadN X1.here hx rfl (hb hby d2_52) rfl k) ?_
      show ORun p e below s _ _ _ T1 (mkF m 53 #[.val (.ref a1), .val (.int p2), .val (.int p3), .val (.int p4)] [(.int p2), (.ref a1)])
      obtain ⟨T4, h4, X4, e4, W4, st4⟩ := putF X1 hx hZ hown (host := "") (Or.inl (hw _ (List.mem_of_getElem? (i := 19) rfl))) Via.refl e1 F_edits_a1 E_a1 (Or.inr ⟨(hw _ (List.mem_of_getElem? (i := 20) rfl)), rfl, hnm⟩) (hw _ (List.mem_of_getElem? (i := 6) rfl)) (ty := .int) (by decide) rfl rfl (g := (mkF m 53 #[.val (.ref a1), .val (.int p2), .val (.int p3), .val (.int p4)] [(.int p2), (.ref a1)])) rfl rfl (hb hby d2_53)
      have Fw4 := Fld.same W4 F_edits_a1
      have N4 := Fr.snoc X4 N1 g_a1
      refine own_by st4 ?_
      show ORun p e below s _ _ _ T4 (mkF m 56 #[.val (.ref a1), .val (.int p2), .val (.int p3), .val (.int p4)] [])
      refine own_by (fun t k => XS.aloadN X4.here hx rfl (hb hby d2_56) rfl rfl k) ?_
      show ORun p e below s _ _ _ T4 (mkF m 57 #[.val (.ref a1), .val (.int p2), .val (.int p3), .val (.int p4)] [(.ref a1)])
      refine own_by (fun t k => XS.iloadN X4.here hx rfl (hb hby d2_57) rfl k) ?_
      show ORun p e below s _ _ _ T4 (mkF m 58 #[.val (.ref a1), .val (.int p2), .val (.int p3), .val (.int p4)] [(.int p3), (.ref a1)])
      obtain ⟨T5, h5, X5, e5, W5, st5⟩ := putFN X4 hx hZ hown (hw _ (List.mem_of_getElem? (i := 21) rfl)) Via.refl e4 (F_transpositions_a1.other W4 (Or.inr (slot_ne (Or.inr (hw _ (List.mem_of_getElem? (i := 22) rfl))) (Or.inr (hw _ (List.mem_of_getElem? (i := 20) rfl))) (by decide) (t := .boolean) (t' := .int) (by decide) (by decide)))) (E_a1.wr W4) (Or.inr ⟨(hw _ (List.mem_of_getElem? (i := 22) rfl)), rfl, hnm⟩) (hw _ (List.mem_of_getElem? (i := 6) rfl)) (ty := .boolean) (v' := (.int (nar .boolean p3))) (by decide) rfl (fits_nar_bool _) (g := (mkF m 58 #[.val (.ref a1), .val (.int p2), .val (.int p3), .val (.int p4)] [(.int p3), (.ref a1)])) rfl rfl (hb hby d2_58)
      have Fw5 := Fld.same W5 (F_transpositions_a1.other W4 (Or.inr (slot_ne (Or.inr (hw _ (List.mem_of_getElem? (i := 22) rfl))) (Or.inr (hw _ (List.mem_of_getElem? (i := 20) rfl))) (by decide) (t := .boolean) (t' := .int) (by decide) (by decide))))
      have N5 := Fr.snoc X5 N4 g_a1
      refine own_by st5 ?_
      show ORun p e below s _ _ _ T5 (mkF m 61 #[.val (.ref a1), .val (.int p2), .val (.int p3), .val (.int p4)] [])
      refine own_by (fun t k => XS.aloadN X5.here hx rfl (hb hby d2_61) rfl rfl k) ?_
      show ORun p e below s _ _ _ T5 (mkF m 62 #[.val (.ref a1), .val (.int p2), .val (.int p3), .val (.int p4)] [(.ref a1)])
      refine own_by (fun t k => XS.iloadN X5.here hx rfl (hb hby d2_62) rfl k) ?_
      show ORun p e below s _ _ _ T5 (mkF m 63 #[.val (.ref a1), .val (.int p2), .val (.int p3), .val (.int p4)] [(.int p4), (.ref a1)])
      obtain ⟨T6, h6, X6, e6, W6, st6⟩ := putF X5 hx hZ hown (host := "") (Or.inl (hw _ (List.mem_of_getElem? (i := 23) rfl))) Via.refl e5 ((F_maxExpansions_a1.other W4 (Or.inr (slot_ne (Or.inr (hw _ (List.mem_of_getElem? (i := 24) rfl))) (Or.inr (hw _ (List.mem_of_getElem? (i := 20) rfl))) (by decide) (t := .int) (t' := .int) (by decide) (by decide)))).other W5 (Or.inr (slot_ne (Or.inr (hw _ (List.mem_of_getElem? (i := 24) rfl))) (Or.inr (hw _ (List.mem_of_getElem? (i := 22) rfl))) (by decide) (t := .int) (t' := .boolean) (by decide) (by decide)))) ((E_a1.wr W4).wr W5) (Or.inr ⟨(hw _ (List.mem_of_getElem? (i := 24) rfl)), rfl, hnm⟩) (hw _ (List.mem_of_getElem? (i := 6) rfl)) (ty := .int) (by decide) rfl rfl (g := (mkF m 63 #[.val (.ref a1), .val (.int p2), .val (.int p3), .val (.int p4)] [(.int p4), (.ref a1)])) rfl rfl (hb hby d2_63)
      have Fw6 := Fld.same W6 ((F_maxExpansions_a1.other W4 (Or.inr (slot_ne (Or.inr (hw _ (List.mem_of_getElem? (i := 24) rfl))) (Or.inr (hw _ (List.mem_of_getElem? (i := 20) rfl))) (by decide) (t := .int) (t' := .int) (by decide) (by decide)))).other W5 (Or.inr (slot_ne (Or.inr (hw _ (List.mem_of_getElem? (i := 24) rfl))) (Or.inr (hw _ (List.mem_of_getElem? (i := 22) rfl))) (by decide) (t := .int) (t' := .boolean) (by decide) (by decide))))
      have N6 := Fr.snoc X6 N5 g_a1
      refine own_by st6 ?_
      show ORun p e below s _ _ _ T6 (mkF m 66 #[.val (.ref a1), .val (.int p2), .val (.int p3), .val (.int p4)] [])
      refine own_retV X6 hx hret hlk (hb hby d2_66) (by decide) (by decide) ?_
      rw [e6]
      exact ⟨rfl, N6, ((((Keep.refl h0 [a1]).wr W4 (Or.inl (List.mem_of_getElem? (i := 0) rfl))).wr W5 (Or.inl (List.mem_of_getElem? (i := 0) rfl))).wr W6 (Or.inl (List.mem_of_getElem? (i := 0) rfl))), (((E_a1.wr W4).wr W5).wr W6), ((Fw4.other W5 (Or.inr (slot_ne (Or.inr (hw _ (List.mem_of_getElem? (i := 20) rfl))) (Or.inr (hw _ (List.mem_of_getElem? (i := 22) rfl))) (by decide) (t := .int) (t' := .boolean) (by decide) (by decide)))).other W6 (Or.inr (slot_ne (Or.inr (hw _ (List.mem_of_getElem? (i := 20) rfl))) (Or.inr (hw _ (List.mem_of_getElem? (i := 24) rfl))) (by decide) (t := .int) (t' := .int) (by decide) (by decide)))), (Fw5.other W6 (Or.inr (slot_ne (Or.inr (hw _ (List.mem_of_getElem? (i := 22) rfl))) (Or.inr (hw _ (List.mem_of_getElem? (i := 24) rfl))) (by decide) (t := .boolean) (t' := .int) (by decide) (by decide)))), Fw6⟩
  · have t2 := own_ne hc2 (a := p2.toInt) (b := (-1)) rfl (by decide)
    refine own_by (fun t k => XS.icmpNo X1.here hx rfl (hb hby d2_6) rfl (feq hc2).1 k) ?_
    show ORun p e below s _ _ _ T1 (mkF m 9 #[.val (.ref a1), .val (.int p2), .val (.int p3), .val (.int p4)] [])
    refine own_by (fun t k => XS.iloadN X1.here hx rfl (hb hby d2_9) rfl k) ?_
    show ORun p e below s _ _ _ T1 (mkF m 10 #[.val (.ref a1), .val (.int p2), .val (.int p3), .val (.int p4)] [(.int p2)])
    by_cases hc7 : p2 < (0 : Int32)
    · have t7 := own_lt hc7 (a := p2.toInt) (b := 0) rfl (by decide)
      exfalso
      omega
    · have t7 := own_nlt hc7 (a := p2.toInt) (b := 0) rfl (by decide)
      refine own_by (fun t k => XS.ifNo X1.here hx rfl (hb hby d2_10) rfl ((if0 _ _).trans (flt hc7).1) k) ?_
      show ORun p e below s _ _ _ T1 (mkF m 13 #[.val (.ref a1), .val (.int p2), .val (.int p3), .val (.int p4)] [])
      refine own_by (fun t k => XS.iloadN X1.here hx rfl (hb hby d2_13) rfl k) ?_
      show ORun p e below s _ _ _ T1 (mkF m 14 #[.val (.ref a1), .val (.int p2), .val (.int p3), .val (.int p4)] [(.int p2)])
      refine own_by (fun t k => XS.iconst X1.here hx rfl (hb hby d2_14) k) ?_
      show ORun p e below s _ _ _ T1 (mkF m 15 #[.val (.ref a1), .val (.int p2), .val (.int p3), .val (.int p4)] [(.int (2 : Int32)), (.int p2)])
      by_cases hc8 : (2 : Int32) < p2
      · have t8 := own_lt hc8 (a := 2) (b := p2.toInt) (by decide) rfl
        exfalso
        omega
      · have t8 := own_nlt hc8 (a := 2) (b := p2.toInt) (by decide) rfl
        refine own_by (fun t k => XS.icmpYes X1.here hx rfl (pc0 := 15) (pc' := 32) rfl (hb hby d2_15) rfl (flt hc8).2.2.2 (by decide) (by decide) k) ?_
        show ORun p e below s _ _ _ T1 (mkF m 32 #[.val (.ref a1), .val (.int p2), .val (.int p3), .val (.int p4)] [])
        refine own_by (fun t k => XS.iloadN X1.here hx rfl (hb hby d2_32) rfl k) ?_
        show ORun p e below s _ _ _ T1 (mkF m 33 #[.val (.ref a1), .val (.int p2), .val (.int p3), .val (.int p4)] [(.int p4)])
        refine own_by (fun t k => XS.iconst X1.here hx rfl (hb hby d2_33) k) ?_
        show ORun p e below s _ _ _ T1 (mkF m 34 #[.val (.ref a1), .val (.int p2), .val (.int p3), .val (.int p4)] [(.int (1 : Int32)), (.int p4)])
        by_cases hc9 : p4 < (1 : Int32)
        · have t9 := own_lt hc9 (a := p4.toInt) (b := 1) rfl (by decide)
          exfalso
          omega
        · have t9 := own_nlt hc9 (a := p4.toInt) (b := 1) rfl (by decide)
          refine own_by (fun t k => XS.icmpYes X1.here hx rfl (pc0 := 34) (pc' := 51) rfl (hb hby d2_34) rfl (flt hc9).2.1 (by decide) (by decide) k) ?_
          show ORun p e below s _ _ _ T1 (mkF m 51 #[.val (.ref a1), .val (.int p2), .val (.int p3), .val (.int p4)] [])
          refine own_by (fun t k => XS.aloadN X1.here hx rfl (hb hby d2_51) rfl rfl k) ?_
          show ORun p e below s _ _ _ T1 (mkF m 52 #[.val (.ref a1), .val (.int p2), .val (.int p3), .val (.int p4)] [(.ref a1)])
          refine own_by (fun t k => XS.iloadN X1.here hx rfl (hb hby d2_52) rfl k) ?_
          show ORun p e below s _ _ _ T1 (mkF m 53 #[.val (.ref a1), .val (.int p2), .val (.int p3), .val (.int p4)] [(.int p2), (.ref a1)])
          obtain ⟨T10, h10, X10, e10, W10, st10⟩ := putF X1 hx hZ hown (host := "") (Or.inl (hw _ (List.mem_of_getElem? (i := 19) rfl))) Via.refl e1 F_edits_a1 E_a1 (Or.inr ⟨(hw _ (List.mem_of_getElem? (i := 20) rfl)), rfl, hnm⟩) (hw _ (List.mem_of_getElem? (i := 6) rfl)) (ty := .int) (by decide) rfl rfl (g := (mkF m 53 #[.val (.ref a1), .val (.int p2), .val (.int p3), .val (.int p4)] [(.int p2), (.ref a1)])) rfl rfl (hb hby d2_53)
          have Fw10 := Fld.same W10 F_edits_a1
          have N10 := Fr.snoc X10 N1 g_a1
          refine own_by st10 ?_
          show ORun p e below s _ _ _ T10 (mkF m 56 #[.val (.ref a1), .val (.int p2), .val (.int p3), .val (.int p4)] [])
          refine own_by (fun t k => XS.aloadN X10.here hx rfl (hb hby d2_56) rfl rfl k) ?_
          show ORun p e below s _ _ _ T10 (mkF m 57 #[.val (.ref a1), .val (.int p2), .val (.int p3), .val (.int p4)] [(.ref a1)])
          refine own_by (fun t k => XS.iloadN X10.here hx rfl (hb hby d2_57) rfl k) ?_
          show ORun p e below s _ _ _ T10 (mkF m 58 #[.val (.ref a1), .val (.int p2), .val (.int p3), .val (.int p4)] [(.int p3), (.ref a1)])
          obtain ⟨T11, h11, X11, e11, W11, st11⟩ := putFN X10 hx hZ hown (hw _ (List.mem_of_getElem? (i := 21) rfl)) Via.refl e10 (F_transpositions_a1.other W10 (Or.inr (slot_ne (Or.inr (hw _ (List.mem_of_getElem? (i := 22) rfl))) (Or.inr (hw _ (List.mem_of_getElem? (i := 20) rfl))) (by decide) (t := .boolean) (t' := .int) (by decide) (by decide)))) (E_a1.wr W10) (Or.inr ⟨(hw _ (List.mem_of_getElem? (i := 22) rfl)), rfl, hnm⟩) (hw _ (List.mem_of_getElem? (i := 6) rfl)) (ty := .boolean) (v' := (.int (nar .boolean p3))) (by decide) rfl (fits_nar_bool _) (g := (mkF m 58 #[.val (.ref a1), .val (.int p2), .val (.int p3), .val (.int p4)] [(.int p3), (.ref a1)])) rfl rfl (hb hby d2_58)
          have Fw11 := Fld.same W11 (F_transpositions_a1.other W10 (Or.inr (slot_ne (Or.inr (hw _ (List.mem_of_getElem? (i := 22) rfl))) (Or.inr (hw _ (List.mem_of_getElem? (i := 20) rfl))) (by decide) (t := .boolean) (t' := .int) (by decide) (by decide))))
          have N11 := Fr.snoc X11 N10 g_a1
          refine own_by st11 ?_
          show ORun p e below s _ _ _ T11 (mkF m 61 #[.val (.ref a1), .val (.int p2), .val (.int p3), .val (.int p4)] [])
          refine own_by (fun t k => XS.aloadN X11.here hx rfl (hb hby d2_61) rfl rfl k) ?_
          show ORun p e below s _ _ _ T11 (mkF m 62 #[.val (.ref a1), .val (.int p2), .val (.int p3), .val (.int p4)] [(.ref a1)])
          refine own_by (fun t k => XS.iloadN X11.here hx rfl (hb hby d2_62) rfl k) ?_
          show ORun p e below s _ _ _ T11 (mkF m 63 #[.val (.ref a1), .val (.int p2), .val (.int p3), .val (.int p4)] [(.int p4), (.ref a1)])
          obtain ⟨T12, h12, X12, e12, W12, st12⟩ := putF X11 hx hZ hown (host := "") (Or.inl (hw _ (List.mem_of_getElem? (i := 23) rfl))) Via.refl e11 ((F_maxExpansions_a1.other W10 (Or.inr (slot_ne (Or.inr (hw _ (List.mem_of_getElem? (i := 24) rfl))) (Or.inr (hw _ (List.mem_of_getElem? (i := 20) rfl))) (by decide) (t := .int) (t' := .int) (by decide) (by decide)))).other W11 (Or.inr (slot_ne (Or.inr (hw _ (List.mem_of_getElem? (i := 24) rfl))) (Or.inr (hw _ (List.mem_of_getElem? (i := 22) rfl))) (by decide) (t := .int) (t' := .boolean) (by decide) (by decide)))) ((E_a1.wr W10).wr W11) (Or.inr ⟨(hw _ (List.mem_of_getElem? (i := 24) rfl)), rfl, hnm⟩) (hw _ (List.mem_of_getElem? (i := 6) rfl)) (ty := .int) (by decide) rfl rfl (g := (mkF m 63 #[.val (.ref a1), .val (.int p2), .val (.int p3), .val (.int p4)] [(.int p4), (.ref a1)])) rfl rfl (hb hby d2_63)
          have Fw12 := Fld.same W12 ((F_maxExpansions_a1.other W10 (Or.inr (slot_ne (Or.inr (hw _ (List.mem_of_getElem? (i := 24) rfl))) (Or.inr (hw _ (List.mem_of_getElem? (i := 20) rfl))) (by decide) (t := .int) (t' := .int) (by decide) (by decide)))).other W11 (Or.inr (slot_ne (Or.inr (hw _ (List.mem_of_getElem? (i := 24) rfl))) (Or.inr (hw _ (List.mem_of_getElem? (i := 22) rfl))) (by decide) (t := .int) (t' := .boolean) (by decide) (by decide))))
          have N12 := Fr.snoc X12 N11 g_a1
          refine own_by st12 ?_
          show ORun p e below s _ _ _ T12 (mkF m 66 #[.val (.ref a1), .val (.int p2), .val (.int p3), .val (.int p4)] [])
          refine own_retV X12 hx hret hlk (hb hby d2_66) (by decide) (by decide) ?_
          rw [e12]
          exact ⟨rfl, N12, ((((Keep.refl h0 [a1]).wr W10 (Or.inl (List.mem_of_getElem? (i := 0) rfl))).wr W11 (Or.inl (List.mem_of_getElem? (i := 0) rfl))).wr W12 (Or.inl (List.mem_of_getElem? (i := 0) rfl))), (((E_a1.wr W10).wr W11).wr W12), ((Fw10.other W11 (Or.inr (slot_ne (Or.inr (hw _ (List.mem_of_getElem? (i := 20) rfl))) (Or.inr (hw _ (List.mem_of_getElem? (i := 22) rfl))) (by decide) (t := .int) (t' := .boolean) (by decide) (by decide)))).other W12 (Or.inr (slot_ne (Or.inr (hw _ (List.mem_of_getElem? (i := 20) rfl))) (Or.inr (hw _ (List.mem_of_getElem? (i := 24) rfl))) (by decide) (t := .int) (t' := .int) (by decide) (by decide)))), (Fw11.other W12 (Or.inr (slot_ne (Or.inr (hw _ (List.mem_of_getElem? (i := 22) rfl))) (Or.inr (hw _ (List.mem_of_getElem? (i := 24) rfl))) (by decide) (t := .boolean) (t' := .int) (by decide) (by decide)))), Fw12⟩
theorem d5_0 : decode prog_48_method_3_code 0 = .ok (.aload_n 0, 1) := by decide +kernel
theorem d5_1 : decode prog_48_method_3_code 1 = .ok (.getfield 19, 3) := by decide +kernel
theorem d5_4 : decode prog_48_method_3_code 4 = .ok (.istore_n 2, 1) := by decide +kernel
theorem d5_5 : decode prog_48_method_3_code 5 = .ok (.aload_n 0, 1) := by decide +kernel
theorem d5_6 : decode prog_48_method_3_code 6 = .ok (.getfield 19, 3) := by decide +kernel
theorem d5_9 : decode prog_48_method_3_code 9 = .ok (.iconst (-1), 1) := by decide +kernel
theorem d5_10 : decode prog_48_method_3_code 10 = .ok (.if_icmp .ne 23, 3) := by decide +kernel
theorem d5_13 : decode prog_48_method_3_code 13 = .ok (.iload_n 1, 1) := by decide +kernel
theorem d5_14 : decode prog_48_method_3_code 14 = .ok (.iconst 2, 1) := by decide +kernel
theorem d5_15 : decode prog_48_method_3_code 15 = .ok (.if_icmp .gt 7, 3) := by decide +kernel
theorem d5_18 : decode prog_48_method_3_code 18 = .ok (.iconst 0, 1) := by decide +kernel
theorem d5_19 : decode prog_48_method_3_code 19 = .ok (.goto 13, 3) := by decide +kernel
theorem d5_22 : decode prog_48_method_3_code 22 = .ok (.iload_n 1, 1) := by decide +kernel
theorem d5_23 : decode prog_48_method_3_code 23 = .ok (.iconst 5, 1) := by decide +kernel
theorem d5_24 : decode prog_48_method_3_code 24 = .ok (.if_icmp .gt 7, 3) := by decide +kernel
theorem d5_27 : decode prog_48_method_3_code 27 = .ok (.iconst 1, 1) := by decide +kernel
theorem d5_28 : decode prog_48_method_3_code 28 = .ok (.goto 4, 3) := by decide +kernel
theorem d5_31 : decode prog_48_method_3_code 31 = .ok (.iconst 2, 1) := by decide +kernel
theorem d5_32 : decode prog_48_method_3_code 32 = .ok (.istore_n 2, 1) := by decide +kernel
theorem d5_33 : decode prog_48_method_3_code 33 = .ok (.iload_n 2, 1) := by decide +kernel
theorem d5_34 : decode prog_48_method_3_code 34 = .ok (.ireturn, 1) := by decide +kernel
theorem pn_rm5 : plainName "com/example/baris/baris/engine/query/Fuzziness" = true := by first | (simp [plainName, overriddenIn]; done) | decide +kernel
theorem ef_rm5 (m : MethodId) (x0 : Addr) (x1 : Int32) : entryFrame m #[(.ref x0), (.int x1)] 3 = mkF m 0 #[.val (.ref x0), .val (.int x1), .unset] [] := by first | (simp [entryFrame, mkF, argsToLocals, Value.category]; done) | rfl
set_option maxRecDepth 65536 in
set_option maxHeartbeats 40000000 in
theorem rm5 (l : Launch) (Z : State) (a0 : Array Value) (hw : ∀ d ∈ tables_1, d.before a0 Z = true) (ws : List Jvm.Cond) (h0 : Heap) (n0 : Nat) (Z0 : n0 ≤ h0.size) (a1 : Addr) (p2 A B M : Int32) (E_a1 : Exa Z h0 a1 "com/example/baris/baris/engine/query/Fuzziness") (g_a1 : n0 ≤ a1) (F_edits_a1 : Fld Z h0 a1 "com/example/baris/baris/engine/query/Fuzziness" "edits" "I" (.int A)) (F_transpositions_a1 : Fld Z h0 a1 "com/example/baris/baris/engine/query/Fuzziness" "transpositions" "Z" (.int B)) (F_maxExpansions_a1 : Fld Z h0 a1 "com/example/baris/baris/engine/query/Fuzziness" "maxExpansions" "I" (.int M)) :
    OMet l (⟨"com/example/baris/baris/engine/query/Fuzziness", "editsFor", "(I)I"⟩ : MethodName) prog_48_method_3_code 3 (some .int) ws ({ frames := 0, cells := 0, slots := 0, locals := 0 } : Room) #[(.ref a1), (.int p2)] Z h0 (fun v h L => ∃ r : Int32, v = some (.int r) ∧ ((A.toInt ≠ -1 ∧ r.toInt = A.toInt) ∨ (A.toInt = -1 ∧ p2.toInt ≤ 2 ∧ r.toInt = 0) ∨ (A.toInt = -1 ∧ 2 < p2.toInt ∧ p2.toInt ≤ 5 ∧ r.toInt = 1) ∨ (A.toInt = -1 ∧ 5 < p2.toInt ∧ r.toInt = 2)) ∧ Fr n0 L ∧ h = h0) := by
  refine own_met (plainFor_of_name pn_rm5) ?_
  intro p e s m below meth c s₁ X0 hx hby hml hown hnm hret hlk hZ e0
  rw [ef_rm5]
  have N0 := Fr.nil n0
  show ORun p e below s _ _ _ s₁ (mkF m 0 #[.val (.ref a1), .val (.int p2), .unset] [])
  refine own_by (fun t k => XS.aloadN X0.here hx rfl (hb hby d5_0) rfl rfl k) ?_
  show ORun p e below s _ _ _ s₁ (mkF m 1 #[.val (.ref a1), .val (.int p2), .unset] [(.ref a1)])
  obtain ⟨T1, X1, e1, st1⟩ := getF X0 hx hZ hown (host := "") (Or.inl (hw _ (List.mem_of_getElem? (i := 19) rfl))) Via.refl e0 F_edits_a1 (g := (mkF m 1 #[.val (.ref a1), .val (.int p2), .unset] [(.ref a1)])) rfl rfl (hb hby d5_1)
  refine own_by st1 ?_
  show ORun p e below s _ _ _ T1 (mkF m 4 #[.val (.ref a1), .val (.int p2), .unset] [(.int A)])
  refine own_by (fun t k => XS.istoreN X1.here hx rfl (hb hby d5_4) rfl (l' := #[.val (.ref a1), .val (.int p2), .val (.int A)]) rfl k) ?_
  show ORun p e below s _ _ _ T1 (mkF m 5 #[.val (.ref a1), .val (.int p2), .val (.int A)] [])
  refine own_by (fun t k => XS.aloadN X1.here hx rfl (hb hby d5_5) rfl rfl k) ?_
  show ORun p e below s _ _ _ T1 (mkF m 6 #[.val (.ref a1), .val (.int p2), .val (.int A)] [(.ref a1)])
  obtain ⟨T2, X2, e2, st2⟩ := getF X1 hx hZ hown (host := "") (Or.inl (hw _ (List.mem_of_getElem? (i := 19) rfl))) Via.refl e1 F_edits_a1 (g := (mkF m 6 #[.val (.ref a1), .val (.int p2), .val (.int A)] [(.ref a1)])) rfl rfl (hb hby d5_6)
  refine own_by st2 ?_
  show ORun p e below s _ _ _ T2 (mkF m 9 #[.val (.ref a1), .val (.int p2), .val (.int A)] [(.int A)])
  refine own_by (fun t k => XS.iconst X2.here hx rfl (hb hby d5_9) k) ?_
  show ORun p e below s _ _ _ T2 (mkF m 10 #[.val (.ref a1), .val (.int p2), .val (.int A)] [(.int (-1 : Int32)), (.int A)])
  by_cases hc3 : A = (-1 : Int32)
  · have t3 := own_eq hc3 (a := A.toInt) (b := (-1)) rfl (by decide)
    refine own_by (fun t k => XS.icmpNo X2.here hx rfl (hb hby d5_10) rfl (teq hc3).2 k) ?_
    show ORun p e below s _ _ _ T2 (mkF m 13 #[.val (.ref a1), .val (.int p2), .val (.int A)] [])
    refine own_by (fun t k => XS.iloadN X2.here hx rfl (hb hby d5_13) rfl k) ?_
    show ORun p e below s _ _ _ T2 (mkF m 14 #[.val (.ref a1), .val (.int p2), .val (.int A)] [(.int p2)])
    refine own_by (fun t k => XS.iconst X2.here hx rfl (hb hby d5_14) k) ?_
    show ORun p e below s _ _ _ T2 (mkF m 15 #[.val (.ref a1), .val (.int p2), .val (.int A)] [(.int (2 : Int32)), (.int p2)])
    by_cases hc4 : (2 : Int32) < p2
    · have t4 := own_lt hc4 (a := 2) (b := p2.toInt) (by decide) rfl
      refine own_by (fun t k => XS.icmpYes X2.here hx rfl (pc0 := 15) (pc' := 22) rfl (hb hby d5_15) rfl (tlt hc4).2.2.1 (by decide) (by decide) k) ?_
      show ORun p e below s _ _ _ T2 (mkF m 22 #[.val (.ref a1), .val (.int p2), .val (.int A)] [])
      refine own_by (fun t k => XS.iloadN X2.here hx rfl (hb hby d5_22) rfl k) ?_
      show ORun p e below s _ _ _ T2 (mkF m 23 #[.val (.ref a1), .val (.int p2), .val (.int A)] [(.int p2)])
      refine own_by (fun t k => XS.iconst X2.here hx rfl (hb hby d5_23) k) ?_
      show ORun p e below s _ _ _ T2 (mkF m 24 #[.val (.ref a1), .val (.int p2), .val (.int A)] [(.int (5 : Int32)), (.int p2)])
      by_cases hc5 : (5 : Int32) < p2
      · have t5 := own_lt hc5 (a := 5) (b := p2.toInt) (by decide) rfl
        refine own_by (fun t k => XS.icmpYes X2.here hx rfl (pc0 := 24) (pc' := 31) rfl (hb hby d5_24) rfl (tlt hc5).2.2.1 (by decide) (by decide) k) ?_
        show ORun p e below s _ _ _ T2 (mkF m 31 #[.val (.ref a1), .val (.int p2), .val (.int A)] [])
        refine own_by (fun t k => XS.iconst X2.here hx rfl (hb hby d5_31) k) ?_
        show ORun p e below s _ _ _ T2 (mkF m 32 #[.val (.ref a1), .val (.int p2), .val (.int A)] [(.int (2 : Int32))])
        refine own_by (fun t k => XS.istoreN X2.here hx rfl (hb hby d5_32) rfl (l' := #[.val (.ref a1), .val (.int p2), .val (.int (2 : Int32))]) rfl k) ?_
        show ORun p e below s _ _ _ T2 (mkF m 33 #[.val (.ref a1), .val (.int p2), .val (.int (2 : Int32))] [])
        refine own_by (fun t k => XS.iloadN X2.here hx rfl (hb hby d5_33) rfl k) ?_
        show ORun p e below s _ _ _ T2 (mkF m 34 #[.val (.ref a1), .val (.int p2), .val (.int (2 : Int32))] [(.int (2 : Int32))])
        refine own_retI X2 hx hret hlk (hb hby d5_34) (by decide) (by decide) ?_
        exact ⟨(2 : Int32), rfl, by show ((A.toInt ≠ -1 ∧ 2 = A.toInt) ∨ (A.toInt = -1 ∧ p2.toInt ≤ 2 ∧ 2 = 0) ∨ (A.toInt = -1 ∧ 2 < p2.toInt ∧ p2.toInt ≤ 5 ∧ 2 = 1) ∨ (A.toInt = -1 ∧ 5 < p2.toInt ∧ 2 = 2)); omega, N0, e2⟩
      · have t5 := own_nlt hc5 (a := 5) (b := p2.toInt) (by decide) rfl
        refine own_by (fun t k => XS.icmpNo X2.here hx rfl (hb hby d5_24) rfl (flt hc5).2.2.1 k) ?_
        show ORun p e below s _ _ _ T2 (mkF m 27 #[.val (.ref a1), .val (.int p2), .val (.int A)] [])
        refine own_by (fun t k => XS.iconst X2.here hx rfl (hb hby d5_27) k) ?_
        show ORun p e below s _ _ _ T2 (mkF m 28 #[.val (.ref a1), .val (.int p2), .val (.int A)] [(.int (1 : Int32))])
        refine own_by (fun t k => XS.goto X2.here hx rfl (pc0 := 28) (pc' := 32) rfl (hb hby d5_28) (by decide) (by decide) k) ?_
        show ORun p e below s _ _ _ T2 (mkF m 32 #[.val (.ref a1), .val (.int p2), .val (.int A)] [(.int (1 : Int32))])
        refine own_by (fun t k => XS.istoreN X2.here hx rfl (hb hby d5_32) rfl (l' := #[.val (.ref a1), .val (.int p2), .val (.int (1 : Int32))]) rfl k) ?_
        show ORun p e below s _ _ _ T2 (mkF m 33 #[.val (.ref a1), .val (.int p2), .val (.int (1 : Int32))] [])
        refine own_by (fun t k => XS.iloadN X2.here hx rfl (hb hby d5_33) rfl k) ?_
        show ORun p e below s _ _ _ T2 (mkF m 34 #[.val (.ref a1), .val (.int p2), .val (.int (1 : Int32))] [(.int (1 : Int32))])
        refine own_retI X2 hx hret hlk (hb hby d5_34) (by decide) (by decide) ?_
        exact ⟨(1 : Int32), rfl, by show ((A.toInt ≠ -1 ∧ 1 = A.toInt) ∨ (A.toInt = -1 ∧ p2.toInt ≤ 2 ∧ 1 = 0) ∨ (A.toInt = -1 ∧ 2 < p2.toInt ∧ p2.toInt ≤ 5 ∧ 1 = 1) ∨ (A.toInt = -1 ∧ 5 < p2.toInt ∧ 1 = 2)); omega, N0, e2⟩
    · have t4 := own_nlt hc4 (a := 2) (b := p2.toInt) (by decide) rfl
      refine own_by (fun t k => XS.icmpNo X2.here hx rfl (hb hby d5_15) rfl (flt hc4).2.2.1 k) ?_
      show ORun p e below s _ _ _ T2 (mkF m 18 #[.val (.ref a1), .val (.int p2), .val (.int A)] [])
      refine own_by (fun t k => XS.iconst X2.here hx rfl (hb hby d5_18) k) ?_
      show ORun p e below s _ _ _ T2 (mkF m 19 #[.val (.ref a1), .val (.int p2), .val (.int A)] [(.int (0 : Int32))])
      refine own_by (fun t k => XS.goto X2.here hx rfl (pc0 := 19) (pc' := 32) rfl (hb hby d5_19) (by decide) (by decide) k) ?_
      show ORun p e below s _ _ _ T2 (mkF m 32 #[.val (.ref a1), .val (.int p2), .val (.int A)] [(.int (0 : Int32))])
      refine own_by (fun t k => XS.istoreN X2.here hx rfl (hb hby d5_32) rfl (l' := #[.val (.ref a1), .val (.int p2), .val (.int (0 : Int32))]) rfl k) ?_
      show ORun p e below s _ _ _ T2 (mkF m 33 #[.val (.ref a1), .val (.int p2), .val (.int (0 : Int32))] [])
      refine own_by (fun t k => XS.iloadN X2.here hx rfl (hb hby d5_33) rfl k) ?_
      show ORun p e below s _ _ _ T2 (mkF m 34 #[.val (.ref a1), .val (.int p2), .val (.int (0 : Int32))] [(.int (0 : Int32))])
      refine own_retI X2 hx hret hlk (hb hby d5_34) (by decide) (by decide) ?_
      exact ⟨(0 : Int32), rfl, by show ((A.toInt ≠ -1 ∧ 0 = A.toInt) ∨ (A.toInt = -1 ∧ p2.toInt ≤ 2 ∧ 0 = 0) ∨ (A.toInt = -1 ∧ 2 < p2.toInt ∧ p2.toInt ≤ 5 ∧ 0 = 1) ∨ (A.toInt = -1 ∧ 5 < p2.toInt ∧ 0 = 2)); omega, N0, e2⟩
  · have t3 := own_ne hc3 (a := A.toInt) (b := (-1)) rfl (by decide)
    refine own_by (fun t k => XS.icmpYes X2.here hx rfl (pc0 := 10) (pc' := 33) rfl (hb hby d5_10) rfl (feq hc3).2 (by decide) (by decide) k) ?_
    show ORun p e below s _ _ _ T2 (mkF m 33 #[.val (.ref a1), .val (.int p2), .val (.int A)] [])
    refine own_by (fun t k => XS.iloadN X2.here hx rfl (hb hby d5_33) rfl k) ?_
    show ORun p e below s _ _ _ T2 (mkF m 34 #[.val (.ref a1), .val (.int p2), .val (.int A)] [(.int A)])
    refine own_retI X2 hx hret hlk (hb hby d5_34) (by decide) (by decide) ?_
    exact ⟨A, rfl, by show ((A.toInt ≠ -1 ∧ A.toInt = A.toInt) ∨ (A.toInt = -1 ∧ p2.toInt ≤ 2 ∧ A.toInt = 0) ∨ (A.toInt = -1 ∧ 2 < p2.toInt ∧ p2.toInt ≤ 5 ∧ A.toInt = 1) ∨ (A.toInt = -1 ∧ 5 < p2.toInt ∧ A.toInt = 2)); omega, N0, e2⟩
theorem pn_rm0 : plainName "com/example/baris/baris/engine/query/FuzzinessEditsForPinLaw" = true := by first | (simp [plainName, overriddenIn]; done) | decide +kernel
theorem ef_rm0 (m : MethodId) (x0 : Int32) (x1 : Int32) (x2 : Int32) (x3 : Int32) : entryFrame m #[(.int x0), (.int x1), (.int x2), (.int x3)] maxLocals = mkF m 0 #[.val (.int x0), .val (.int x1), .val (.int x2), .val (.int x3), .unset, .unset, .unset, .unset, .unset, .unset, .unset] [] := by first | (simp [entryFrame, mkF, argsToLocals, Value.category, maxLocals]; done) | rfl
set_option maxRecDepth 65536 in
set_option maxHeartbeats 40000000 in
theorem rm0 (l : Launch) (Z : State) (a0 : Array Value) (hw : ∀ d ∈ tables_1, d.before a0 Z = true) (ws : List Jvm.Cond) (h0 : Heap) (n0 : Nat) (Z0 : n0 ≤ h0.size) (p1 p2 p3 p4 : Int32) :
    OMet l x code maxLocals ret ws room_1 #[(.int p1), (.int p2), (.int p3), (.int p4)] Z h0 (fun v h L => v = some (.int 1) ∧ Fr n0 L) := by
  refine own_met (plainFor_of_name pn_rm0) ?_
  intro p e s m below meth c s₁ X0 hx hby hml hown hnm hret hlk hZ e0
  rw [ef_rm0]
  have N0 := Fr.nil n0
  show ORun p e below s _ _ _ s₁ (mkF m 0 #[.val (.int p1), .val (.int p2), .val (.int p3), .val (.int p4), .unset, .unset, .unset, .unset, .unset, .unset, .unset] [])
  refine own_by (fun t k => XS.iloadN X0.here hx rfl (hb hby at_0) rfl k) ?_
  show ORun p e below s _ _ _ s₁ (mkF m 1 #[.val (.int p1), .val (.int p2), .val (.int p3), .val (.int p4), .unset, .unset, .unset, .unset, .unset, .unset, .unset] [(.int p1)])
  refine own_by (fun t k => X0.ldcInt hx hown (mvT hZ (hw _ (List.mem_of_getElem? (i := 0) rfl))) (g := (mkF m 1 #[.val (.int p1), .val (.int p2), .val (.int p3), .val (.int p4), .unset, .unset, .unset, .unset, .unset, .unset, .unset] [(.int p1)])) rfl (hb hby at_1) _ k) ?_
  show ORun p e below s _ _ _ s₁ (mkF m 3 #[.val (.int p1), .val (.int p2), .val (.int p3), .val (.int p4), .unset, .unset, .unset, .unset, .unset, .unset, .unset] [(.int (2147483647 : Int32)), (.int p1)])
  refine own_by (fun t k => XS.iand X0.here hx rfl (hb hby at_3) rfl k) (own_letI (f := (fun z => (mkF m 4 #[.val (.int p1), .val (.int p2), .val (.int p3), .val (.int p4), .unset, .unset, .unset, .unset, .unset, .unset, .unset] [(.int z)]))) (p1 &&& (2147483647 : Int32)) fun v1 hv1 => ?_)
  show ORun p e below s _ _ _ s₁ (mkF m 4 #[.val (.int p1), .val (.int p2), .val (.int p3), .val (.int p4), .unset, .unset, .unset, .unset, .unset, .unset, .unset] [(.int v1)])
  have a1a : v1.toInt = p1.toInt % 2147483648 := by rw [hv1]; exact c_mask p1 (2147483647 : Int32) 31 (by decide) (by decide)
  have r1 := rng32 v1
  refine own_by (fun t k => XS.iconst X0.here hx rfl (hb hby at_4) k) ?_
  show ORun p e below s _ _ _ s₁ (mkF m 5 #[.val (.int p1), .val (.int p2), .val (.int p3), .val (.int p4), .unset, .unset, .unset, .unset, .unset, .unset, .unset] [(.int (4 : Int32)), (.int v1)])
  refine own_by (fun t k => iremM X0 hx rfl (hb hby at_5) rfl (by decide) k) (own_letI (f := (fun z => (mkF m 6 #[.val (.int p1), .val (.int p2), .val (.int p3), .val (.int p4), .unset, .unset, .unset, .unset, .unset, .unset, .unset] [(.int z)]))) (v1 % (4 : Int32)) fun v2 hv2 => ?_)
  show ORun p e below s _ _ _ s₁ (mkF m 6 #[.val (.int p1), .val (.int p2), .val (.int p3), .val (.int p4), .unset, .unset, .unset, .unset, .unset, .unset, .unset] [(.int v2)])
  have r2 := rng32 v2
  have a2 : v2.toInt = v1.toInt % 4 := by
    have q : (0 ≤ v1.toInt → v2.toInt = v1.toInt % 4) ∧ (v1.toInt < 0 → v2.toInt = -((-v1.toInt) % 4)) := by rw [hv2]; exact c_irem v1 (4 : Int32) 4 (by decide)
    omega
  refine own_by (fun t k => XS.iconst X0.here hx rfl (hb hby at_6) k) ?_
  show ORun p e below s _ _ _ s₁ (mkF m 7 #[.val (.int p1), .val (.int p2), .val (.int p3), .val (.int p4), .unset, .unset, .unset, .unset, .unset, .unset, .unset] [(.int (1 : Int32)), (.int v2)])
  refine own_by (fun t k => XS.isub X0.here hx rfl (hb hby at_7) rfl k) (own_letI (f := (fun z => (mkF m 8 #[.val (.int p1), .val (.int p2), .val (.int p3), .val (.int p4), .unset, .unset, .unset, .unset, .unset, .unset, .unset] [(.int z)]))) (v2 - (1 : Int32)) fun v3 hv3 => ?_)
  show ORun p e below s _ _ _ s₁ (mkF m 8 #[.val (.int p1), .val (.int p2), .val (.int p3), .val (.int p4), .unset, .unset, .unset, .unset, .unset, .unset, .unset] [(.int v3)])
  have r3 := rng32 v3
  have a3 : v3.toInt = v2.toInt - 1 := by
    have q : (v3.toInt - (v2.toInt - 1)) % 4294967296 = 0 := by rw [hv3]; exact c_isub v2 (1 : Int32)
    omega
  refine own_by (fun t k => XS.istore X0.here hx rfl (hb hby at_8) rfl (l' := #[.val (.int p1), .val (.int p2), .val (.int p3), .val (.int p4), .val (.int v3), .unset, .unset, .unset, .unset, .unset, .unset]) rfl k) ?_
  show ORun p e below s _ _ _ s₁ (mkF m 10 #[.val (.int p1), .val (.int p2), .val (.int p3), .val (.int p4), .val (.int v3), .unset, .unset, .unset, .unset, .unset, .unset] [])
  have J4 : ∀ w4 : Int32, (w4 = w4) → ORun p e below s (fun v h L => v = some (.int 1) ∧ Fr n0 L) room_1.cells room_1.slots s₁ (mkF m 21 #[.val (.int p1), .val (.int p2), .val (.int p3), .val (.int p4), .val (.int v3), .unset, .unset, .unset, .unset, .unset, .unset] [(.int w4)]) := by
    intro w4 hJ4
    refine own_by (fun t k => XS.istore X0.here hx rfl (hb hby at_21) rfl (l' := #[.val (.int p1), .val (.int p2), .val (.int p3), .val (.int p4), .val (.int v3), .val (.int w4), .unset, .unset, .unset, .unset, .unset]) rfl k) ?_
    show ORun p e below s _ _ _ s₁ (mkF m 23 #[.val (.int p1), .val (.int p2), .val (.int p3), .val (.int p4), .val (.int v3), .val (.int w4), .unset, .unset, .unset, .unset, .unset] [])
    refine own_by (fun t k => XS.iconst X0.here hx rfl (hb hby at_23) k) ?_
    show ORun p e below s _ _ _ s₁ (mkF m 24 #[.val (.int p1), .val (.int p2), .val (.int p3), .val (.int p4), .val (.int v3), .val (.int w4), .unset, .unset, .unset, .unset, .unset] [(.int (1 : Int32))])
    refine own_by (fun t k => XS.iloadN X0.here hx rfl (hb hby at_24) rfl k) ?_
    show ORun p e below s _ _ _ s₁ (mkF m 25 #[.val (.int p1), .val (.int p2), .val (.int p3), .val (.int p4), .val (.int v3), .val (.int w4), .unset, .unset, .unset, .unset, .unset] [(.int p3), (.int (1 : Int32))])
    refine own_callS X0 hx hZ hown (hw _ (List.mem_of_getElem? (i := 1) rfl)) (hw _ (List.mem_of_getElem? (i := 2) rfl)) (hw _ (List.mem_of_getElem? (i := 3) rfl)) (hw _ (List.mem_of_getElem? (i := 4) rfl)) (by decide) (rm1 l Z a0 hw [] h0 n0 Z0 (1 : Int32) p3) e0 (by decide) (W := 0) (by decide) (by decide) (by decide) (argsL := [(.int (1 : Int32)), (.int p3)]) (rest := []) (by rw [hml]; rfl) (lenOf pd_1 rfl) rfl rfl (Nat.le_of_eq rfl) (hb hby at_25) ?_
    intro T5 L5 u5 X5 hQ5
    obtain ⟨y5, rfl, hy5, Nq5, e5⟩ := hQ5
    have N5 := Fr.app N0 Nq5
    have tz5_0 : ((1 : Int32)).toInt = 1 := by decide
    show ORun p e below s _ _ _ T5 (mkF m 28 #[.val (.int p1), .val (.int p2), .val (.int p3), .val (.int p4), .val (.int v3), .val (.int w4), .unset, .unset, .unset, .unset, .unset] [(.int y5)])
    refine own_by (fun t k => XS.istore X5.here hx rfl (hb hby at_28) rfl (l' := #[.val (.int p1), .val (.int p2), .val (.int p3), .val (.int p4), .val (.int v3), .val (.int w4), .val (.int y5), .unset, .unset, .unset, .unset]) rfl k) ?_
    show ORun p e below s _ _ _ T5 (mkF m 30 #[.val (.int p1), .val (.int p2), .val (.int p3), .val (.int p4), .val (.int v3), .val (.int w4), .val (.int y5), .unset, .unset, .unset, .unset] [])
    have J6 : ∀ w6 : Int32, (0 ≤ w6.toInt) → ORun p e below s (fun v h L => v = some (.int 1) ∧ Fr n0 L) room_1.cells room_1.slots T5 (mkF m 47 #[.val (.int p1), .val (.int p2), .val (.int p3), .val (.int p4), .val (.int v3), .val (.int w4), .val (.int y5), .unset, .unset, .unset, .unset] [(.int w6)]) := by
      intro w6 hJ6
      refine own_by (fun t k => XS.istore X5.here hx rfl (hb hby at_47) rfl (l' := #[.val (.int p1), .val (.int p2), .val (.int p3), .val (.int p4), .val (.int v3), .val (.int w4), .val (.int y5), .val (.int w6), .unset, .unset, .unset]) rfl k) ?_
      show ORun p e below s _ _ _ T5 (mkF m 49 #[.val (.int p1), .val (.int p2), .val (.int p3), .val (.int p4), .val (.int v3), .val (.int w4), .val (.int y5), .val (.int w6), .unset, .unset, .unset] [])
      obtain ⟨T7, h7, X7, e7, E7, A7, D7, -, st7⟩ := newO X5 hx hZ hown (hw _ (List.mem_of_getElem? (i := 5) rfl)) (hw _ (List.mem_of_getElem? (i := 6) rfl)) (hw _ (List.mem_of_getElem? (i := 7) rfl)) e5 (g := (mkF m 49 #[.val (.int p1), .val (.int p2), .val (.int p3), .val (.int p4), .val (.int v3), .val (.int w4), .val (.int y5), .val (.int w6), .unset, .unset, .unset] [])) rfl (hb hby at_49) (by decide) (by decide)
      obtain ⟨b7, g7⟩ : ∃ z, z = h0.size := ⟨_, rfl⟩
      rw [← g7] at A7 D7 st7
      have old_b7 : n0 ≤ b7 := Nat.le_trans Z0 (Nat.le_of_eq g7.symm)
      have sz_b7 : h0.size ≤ b7 := Nat.le_trans (Nat.le_refl h0.size) (Nat.le_of_eq g7.symm)
      have F7_20 : Fld Z h7 b7 "com/example/baris/baris/engine/query/Fuzziness" "edits" "I" (.int (0 : Int32)) := D7 (Or.inr (hw _ (List.mem_of_getElem? (i := 20) rfl))) (ty := .int) (by decide)
      have F7_22 : Fld Z h7 b7 "com/example/baris/baris/engine/query/Fuzziness" "transpositions" "Z" (.int (0 : Int32)) := D7 (Or.inr (hw _ (List.mem_of_getElem? (i := 22) rfl))) (ty := .boolean) (by decide)
      have F7_24 : Fld Z h7 b7 "com/example/baris/baris/engine/query/Fuzziness" "maxExpansions" "I" (.int (0 : Int32)) := D7 (Or.inr (hw _ (List.mem_of_getElem? (i := 24) rfl))) (ty := .int) (by decide)
      refine own_by st7 ?_
      show ORun p e below s _ _ _ T7 (mkF m 52 #[.val (.int p1), .val (.int p2), .val (.int p3), .val (.int p4), .val (.int v3), .val (.int w4), .val (.int y5), .val (.int w6), .unset, .unset, .unset] [(.ref b7)])
      refine own_by (fun t k => XS.dup X7.here hx rfl (hb hby at_52) rfl rfl k) ?_
      show ORun p e below s _ _ _ T7 (mkF m 53 #[.val (.int p1), .val (.int p2), .val (.int p3), .val (.int p4), .val (.int v3), .val (.int w4), .val (.int y5), .val (.int w6), .unset, .unset, .unset] [(.ref b7), (.ref b7)])
      refine own_by (fun t k => XS.iload X7.here hx rfl (hb hby at_53) rfl k) ?_
      show ORun p e below s _ _ _ T7 (mkF m 55 #[.val (.int p1), .val (.int p2), .val (.int p3), .val (.int p4), .val (.int v3), .val (.int w4), .val (.int y5), .val (.int w6), .unset, .unset, .unset] [(.int v3), (.ref b7), (.ref b7)])
      refine own_by (fun t k => XS.iload X7.here hx rfl (hb hby at_55) rfl k) ?_
      show ORun p e below s _ _ _ T7 (mkF m 57 #[.val (.int p1), .val (.int p2), .val (.int p3), .val (.int p4), .val (.int v3), .val (.int w4), .val (.int y5), .val (.int w6), .unset, .unset, .unset] [(.int w4), (.int v3), (.ref b7), (.ref b7)])
      refine own_by (fun t k => XS.iload X7.here hx rfl (hb hby at_57) rfl k) ?_
      show ORun p e below s _ _ _ T7 (mkF m 59 #[.val (.int p1), .val (.int p2), .val (.int p3), .val (.int p4), .val (.int v3), .val (.int w4), .val (.int y5), .val (.int w6), .unset, .unset, .unset] [(.int y5), (.int w4), (.int v3), (.ref b7), (.ref b7)])
      refine own_callC X7 hx hZ hown rfl (hw _ (List.mem_of_getElem? (i := 8) rfl)) (hw _ (List.mem_of_getElem? (i := 9) rfl)) (hw _ (List.mem_of_getElem? (i := 7) rfl)) (hw _ (List.mem_of_getElem? (i := 10) rfl)) (by decide) (rm2 l Z a0 hw [] h7 n0 (Nat.le_trans Z0 E7.1) b7 v3 w4 y5 A7 old_b7 F7_20 F7_22 F7_24 (by omega)) e7 (by decide) (W := 1) (by decide) (by decide) (by decide) (b := b7) (argsL := [(.int v3), (.int w4), (.int y5)]) (rest := [(.ref b7)]) (by rw [hml]; rfl) (lenOf pd_2 rfl) rfl rfl (Nat.le_of_eq rfl) (hb hby at_59) ?_
      intro T8 L8 u8 X8 hQ8
      obtain ⟨rfl, Nq8, K8, En8_b7, Fn8_edits_b7, Fn8_transpositions_b7, Fn8_maxExpansions_b7⟩ := hQ8
      have N8 := Fr.app N5 Nq8
      show ORun p e below s _ _ _ T8 (mkF m 62 #[.val (.int p1), .val (.int p2), .val (.int p3), .val (.int p4), .val (.int v3), .val (.int w4), .val (.int y5), .val (.int w6), .unset, .unset, .unset] [(.ref b7)])
      refine own_by (fun t k => XS.astore X8.here hx rfl (hb hby at_62) rfl rfl (l' := #[.val (.int p1), .val (.int p2), .val (.int p3), .val (.int p4), .val (.int v3), .val (.int w4), .val (.int y5), .val (.int w6), .val (.ref b7), .unset, .unset]) rfl k) ?_
      show ORun p e below s _ _ _ T8 (mkF m 64 #[.val (.int p1), .val (.int p2), .val (.int p3), .val (.int p4), .val (.int v3), .val (.int w4), .val (.int y5), .val (.int w6), .val (.ref b7), .unset, .unset] [])
      refine own_by (fun t k => XS.aload X8.here hx rfl (hb hby at_64) rfl rfl k) ?_
      show ORun p e below s _ _ _ T8 (mkF m 66 #[.val (.int p1), .val (.int p2), .val (.int p3), .val (.int p4), .val (.int v3), .val (.int w4), .val (.int y5), .val (.int w6), .val (.ref b7), .unset, .unset] [(.ref b7)])
      refine own_by (fun t k => XS.iload X8.here hx rfl (hb hby at_66) rfl k) ?_
      show ORun p e below s _ _ _ T8 (mkF m 68 #[.val (.int p1), .val (.int p2), .val (.int p3), .val (.int p4), .val (.int v3), .val (.int w4), .val (.int y5), .val (.int w6), .val (.ref b7), .unset, .unset] [(.int w6), (.ref b7)])
      refine own_callV X8 hx hZ hown En8_b7 (hw _ (List.mem_of_getElem? (i := 25) rfl)) (hw _ (List.mem_of_getElem? (i := 26) rfl)) (notFace_of_selects (args := #[]) (mvT hZ (hw _ (List.mem_of_getElem? (i := 28) rfl)))) (hw _ (List.mem_of_getElem? (i := 28) rfl)) (hw _ (List.mem_of_getElem? (i := 27) rfl)) (hw _ (List.mem_of_getElem? (i := 7) rfl)) (hw _ (List.mem_of_getElem? (i := 29) rfl)) (by decide) (rm5 l Z a0 hw [] T8.heap n0 (Nat.le_trans (Nat.le_trans Z0 E7.1) K8.1) b7 w6 v3 (nar .boolean w4) y5 En8_b7 old_b7 Fn8_edits_b7 Fn8_transpositions_b7 Fn8_maxExpansions_b7) rfl (by decide) (W := 0) (by decide) (by decide) (by decide) (argsL := [(.int w6)]) (rest := []) (by rw [hml]; rfl) (lenOf pd_3 rfl) rfl rfl (Nat.le_of_eq rfl) (hb hby at_68) ?_
      intro T9 L9 u9 X9 hQ9
      obtain ⟨y9, rfl, hy9, Nq9, e9⟩ := hQ9
      have N9 := Fr.app N8 Nq9
      show ORun p e below s _ _ _ T9 (mkF m 71 #[.val (.int p1), .val (.int p2), .val (.int p3), .val (.int p4), .val (.int v3), .val (.int w4), .val (.int y5), .val (.int w6), .val (.ref b7), .unset, .unset] [(.int y9)])
      refine own_by (fun t k => XS.istore X9.here hx rfl (hb hby at_71) rfl (l' := #[.val (.int p1), .val (.int p2), .val (.int p3), .val (.int p4), .val (.int v3), .val (.int w4), .val (.int y5), .val (.int w6), .val (.ref b7), .val (.int y9), .unset]) rfl k) ?_
      show ORun p e below s _ _ _ T9 (mkF m 73 #[.val (.int p1), .val (.int p2), .val (.int p3), .val (.int p4), .val (.int v3), .val (.int w4), .val (.int y5), .val (.int w6), .val (.ref b7), .val (.int y9), .unset] [])
      refine own_by (fun t k => XS.iload X9.here hx rfl (hb hby at_73) rfl k) ?_
      show ORun p e below s _ _ _ T9 (mkF m 75 #[.val (.int p1), .val (.int p2), .val (.int p3), .val (.int p4), .val (.int v3), .val (.int w4), .val (.int y5), .val (.int w6), .val (.ref b7), .val (.int y9), .unset] [(.int v3)])
      refine own_by (fun t k => XS.iconst X9.here hx rfl (hb hby at_75) k) ?_
      show ORun p e below s _ _ _ T9 (mkF m 76 #[.val (.int p1), .val (.int p2), .val (.int p3), .val (.int p4), .val (.int v3), .val (.int w4), .val (.int y5), .val (.int w6), .val (.ref b7), .val (.int y9), .unset] [(.int (-1 : Int32)), (.int v3)])
      by_cases hc10 : v3 = (-1 : Int32)
      · have t10 := own_eq hc10 (a := v3.toInt) (b := (-1)) rfl (by decide)
        refine own_by (fun t k => XS.icmpNo X9.here hx rfl (hb hby at_76) rfl (teq hc10).2 k) ?_
        show ORun p e below s _ _ _ T9 (mkF m 79 #[.val (.int p1), .val (.int p2), .val (.int p3), .val (.int p4), .val (.int v3), .val (.int w4), .val (.int y5), .val (.int w6), .val (.ref b7), .val (.int y9), .unset] [])
        refine own_by (fun t k => XS.iload X9.here hx rfl (hb hby at_79) rfl k) ?_
        show ORun p e below s _ _ _ T9 (mkF m 81 #[.val (.int p1), .val (.int p2), .val (.int p3), .val (.int p4), .val (.int v3), .val (.int w4), .val (.int y5), .val (.int w6), .val (.ref b7), .val (.int y9), .unset] [(.int w6)])
        refine own_by (fun t k => XS.iconst X9.here hx rfl (hb hby at_81) k) ?_
        show ORun p e below s _ _ _ T9 (mkF m 82 #[.val (.int p1), .val (.int p2), .val (.int p3), .val (.int p4), .val (.int v3), .val (.int w4), .val (.int y5), .val (.int w6), .val (.ref b7), .val (.int y9), .unset] [(.int (3 : Int32)), (.int w6)])
        by_cases hc11 : w6 < (3 : Int32)
        · have t11 := own_lt hc11 (a := w6.toInt) (b := 3) rfl (by decide)
          refine own_by (fun t k => XS.icmpYes X9.here hx rfl (pc0 := 82) (pc' := 89) rfl (hb hby at_82) rfl (tlt hc11).1 (by decide) (by decide) k) ?_
          show ORun p e below s _ _ _ T9 (mkF m 89 #[.val (.int p1), .val (.int p2), .val (.int p3), .val (.int p4), .val (.int v3), .val (.int w4), .val (.int y5), .val (.int w6), .val (.ref b7), .val (.int y9), .unset] [])
          refine own_by (fun t k => XS.iconst X9.here hx rfl (hb hby at_89) k) ?_
          show ORun p e below s _ _ _ T9 (mkF m 90 #[.val (.int p1), .val (.int p2), .val (.int p3), .val (.int p4), .val (.int v3), .val (.int w4), .val (.int y5), .val (.int w6), .val (.ref b7), .val (.int y9), .unset] [(.int (0 : Int32))])
          refine own_by (fun t k => XS.iload X9.here hx rfl (hb hby at_90) rfl k) ?_
          show ORun p e below s _ _ _ T9 (mkF m 92 #[.val (.int p1), .val (.int p2), .val (.int p3), .val (.int p4), .val (.int v3), .val (.int w4), .val (.int y5), .val (.int w6), .val (.ref b7), .val (.int y9), .unset] [(.int w6), (.int (0 : Int32))])
          refine own_by (fun t k => XS.bipush X9.here hx rfl (hb hby at_92) k) ?_
          show ORun p e below s _ _ _ T9 (mkF m 94 #[.val (.int p1), .val (.int p2), .val (.int p3), .val (.int p4), .val (.int v3), .val (.int w4), .val (.int y5), .val (.int w6), .val (.ref b7), .val (.int y9), .unset] [(.int (6 : Int32)), (.int w6), (.int (0 : Int32))])
          by_cases hc12 : w6 < (6 : Int32)
          · have t12 := own_lt hc12 (a := w6.toInt) (b := 6) rfl (by decide)
            refine own_by (fun t k => XS.icmpYes X9.here hx rfl (pc0 := 94) (pc' := 101) rfl (hb hby at_94) rfl (tlt hc12).1 (by decide) (by decide) k) ?_
            show ORun p e below s _ _ _ T9 (mkF m 101 #[.val (.int p1), .val (.int p2), .val (.int p3), .val (.int p4), .val (.int v3), .val (.int w4), .val (.int y5), .val (.int w6), .val (.ref b7), .val (.int y9), .unset] [(.int (0 : Int32))])
            refine own_by (fun t k => XS.iconst X9.here hx rfl (hb hby at_101) k) ?_
            show ORun p e below s _ _ _ T9 (mkF m 102 #[.val (.int p1), .val (.int p2), .val (.int p3), .val (.int p4), .val (.int v3), .val (.int w4), .val (.int y5), .val (.int w6), .val (.ref b7), .val (.int y9), .unset] [(.int (0 : Int32)), (.int (0 : Int32))])
            refine own_by (fun t k => XS.iadd X9.here hx rfl (hb hby at_102) rfl k) ?_
            show ORun p e below s _ _ _ T9 (mkF m 103 #[.val (.int p1), .val (.int p2), .val (.int p3), .val (.int p4), .val (.int v3), .val (.int w4), .val (.int y5), .val (.int w6), .val (.ref b7), .val (.int y9), .unset] [(.int (0 : Int32))])
            refine own_by (fun t k => XS.istore X9.here hx rfl (hb hby at_103) rfl (l' := #[.val (.int p1), .val (.int p2), .val (.int p3), .val (.int p4), .val (.int v3), .val (.int w4), .val (.int y5), .val (.int w6), .val (.ref b7), .val (.int y9), .val (.int (0 : Int32))]) rfl k) ?_
            show ORun p e below s _ _ _ T9 (mkF m 105 #[.val (.int p1), .val (.int p2), .val (.int p3), .val (.int p4), .val (.int v3), .val (.int w4), .val (.int y5), .val (.int w6), .val (.ref b7), .val (.int y9), .val (.int (0 : Int32))] [])
            refine own_by (fun t k => XS.goto X9.here hx rfl (pc0 := 105) (pc' := 112) rfl (hb hby at_105) (by decide) (by decide) k) ?_
            show ORun p e below s _ _ _ T9 (mkF m 112 #[.val (.int p1), .val (.int p2), .val (.int p3), .val (.int p4), .val (.int v3), .val (.int w4), .val (.int y5), .val (.int w6), .val (.ref b7), .val (.int y9), .val (.int (0 : Int32))] [])
            refine own_by (fun t k => XS.iload X9.here hx rfl (hb hby at_112) rfl k) ?_
            show ORun p e below s _ _ _ T9 (mkF m 114 #[.val (.int p1), .val (.int p2), .val (.int p3), .val (.int p4), .val (.int v3), .val (.int w4), .val (.int y5), .val (.int w6), .val (.ref b7), .val (.int y9), .val (.int (0 : Int32))] [(.int y9)])
            refine own_by (fun t k => XS.iload X9.here hx rfl (hb hby at_114) rfl k) ?_
            show ORun p e below s _ _ _ T9 (mkF m 116 #[.val (.int p1), .val (.int p2), .val (.int p3), .val (.int p4), .val (.int v3), .val (.int w4), .val (.int y5), .val (.int w6), .val (.ref b7), .val (.int y9), .val (.int (0 : Int32))] [(.int (0 : Int32)), (.int y9)])
            by_cases hc13 : y9 = (0 : Int32)
            · have t13 := own_eq hc13 (a := y9.toInt) (b := 0) rfl (by decide)
              refine own_by (fun t k => XS.icmpNo X9.here hx rfl (hb hby at_116) rfl (teq hc13).2 k) ?_
              show ORun p e below s _ _ _ T9 (mkF m 119 #[.val (.int p1), .val (.int p2), .val (.int p3), .val (.int p4), .val (.int v3), .val (.int w4), .val (.int y5), .val (.int w6), .val (.ref b7), .val (.int y9), .val (.int (0 : Int32))] [])
              refine own_by (fun t k => XS.iconst X9.here hx rfl (hb hby at_119) k) ?_
              show ORun p e below s _ _ _ T9 (mkF m 120 #[.val (.int p1), .val (.int p2), .val (.int p3), .val (.int p4), .val (.int v3), .val (.int w4), .val (.int y5), .val (.int w6), .val (.ref b7), .val (.int y9), .val (.int (0 : Int32))] [(.int (1 : Int32))])
              refine own_by (fun t k => XS.goto X9.here hx rfl (pc0 := 120) (pc' := 124) rfl (hb hby at_120) (by decide) (by decide) k) ?_
              show ORun p e below s _ _ _ T9 (mkF m 124 #[.val (.int p1), .val (.int p2), .val (.int p3), .val (.int p4), .val (.int v3), .val (.int w4), .val (.int y5), .val (.int w6), .val (.ref b7), .val (.int y9), .val (.int (0 : Int32))] [(.int (1 : Int32))])
              refine own_retN X9 hx (t := .boolean) hret (by simp) hlk (hb hby at_124) (by decide) (by decide) ?_
              exact ⟨rfl, N9⟩
            · have t13 := own_ne hc13 (a := y9.toInt) (b := 0) rfl (by decide)
              refine own_by (fun t k => XS.icmpYes X9.here hx rfl (pc0 := 116) (pc' := 123) rfl (hb hby at_116) rfl (feq hc13).2 (by decide) (by decide) k) ?_
              show ORun p e below s _ _ _ T9 (mkF m 123 #[.val (.int p1), .val (.int p2), .val (.int p3), .val (.int p4), .val (.int v3), .val (.int w4), .val (.int y5), .val (.int w6), .val (.ref b7), .val (.int y9), .val (.int (0 : Int32))] [])
              refine own_by (fun t k => XS.iconst X9.here hx rfl (hb hby at_123) k) ?_
              show ORun p e below s _ _ _ T9 (mkF m 124 #[.val (.int p1), .val (.int p2), .val (.int p3), .val (.int p4), .val (.int v3), .val (.int w4), .val (.int y5), .val (.int w6), .val (.ref b7), .val (.int y9), .val (.int (0 : Int32))] [(.int (0 : Int32))])
              refine own_retN X9 hx (t := .boolean) hret (by simp) hlk (hb hby at_124) (by decide) (by decide) ?_
              exfalso
              omega
          · have t12 := own_nlt hc12 (a := w6.toInt) (b := 6) rfl (by decide)
            refine own_by (fun t k => XS.icmpNo X9.here hx rfl (hb hby at_94) rfl (flt hc12).1 k) ?_
            show ORun p e below s _ _ _ T9 (mkF m 97 #[.val (.int p1), .val (.int p2), .val (.int p3), .val (.int p4), .val (.int v3), .val (.int w4), .val (.int y5), .val (.int w6), .val (.ref b7), .val (.int y9), .unset] [(.int (0 : Int32))])
            refine own_by (fun t k => XS.iconst X9.here hx rfl (hb hby at_97) k) ?_
            show ORun p e below s _ _ _ T9 (mkF m 98 #[.val (.int p1), .val (.int p2), .val (.int p3), .val (.int p4), .val (.int v3), .val (.int w4), .val (.int y5), .val (.int w6), .val (.ref b7), .val (.int y9), .unset] [(.int (1 : Int32)), (.int (0 : Int32))])
            refine own_by (fun t k => XS.goto X9.here hx rfl (pc0 := 98) (pc' := 102) rfl (hb hby at_98) (by decide) (by decide) k) ?_
            show ORun p e below s _ _ _ T9 (mkF m 102 #[.val (.int p1), .val (.int p2), .val (.int p3), .val (.int p4), .val (.int v3), .val (.int w4), .val (.int y5), .val (.int w6), .val (.ref b7), .val (.int y9), .unset] [(.int (1 : Int32)), (.int (0 : Int32))])
            refine own_by (fun t k => XS.iadd X9.here hx rfl (hb hby at_102) rfl k) ?_
            show ORun p e below s _ _ _ T9 (mkF m 103 #[.val (.int p1), .val (.int p2), .val (.int p3), .val (.int p4), .val (.int v3), .val (.int w4), .val (.int y5), .val (.int w6), .val (.ref b7), .val (.int y9), .unset] [(.int (1 : Int32))])
            refine own_by (fun t k => XS.istore X9.here hx rfl (hb hby at_103) rfl (l' := #[.val (.int p1), .val (.int p2), .val (.int p3), .val (.int p4), .val (.int v3), .val (.int w4), .val (.int y5), .val (.int w6), .val (.ref b7), .val (.int y9), .val (.int (1 : Int32))]) rfl k) ?_
            show ORun p e below s _ _ _ T9 (mkF m 105 #[.val (.int p1), .val (.int p2), .val (.int p3), .val (.int p4), .val (.int v3), .val (.int w4), .val (.int y5), .val (.int w6), .val (.ref b7), .val (.int y9), .val (.int (1 : Int32))] [])
            refine own_by (fun t k => XS.goto X9.here hx rfl (pc0 := 105) (pc' := 112) rfl (hb hby at_105) (by decide) (by decide) k) ?_
            show ORun p e below s _ _ _ T9 (mkF m 112 #[.val (.int p1), .val (.int p2), .val (.int p3), .val (.int p4), .val (.int v3), .val (.int w4), .val (.int y5), .val (.int w6), .val (.ref b7), .val (.int y9), .val (.int (1 : Int32))] [])
            refine own_by (fun t k => XS.iload X9.here hx rfl (hb hby at_112) rfl k) ?_
            show ORun p e below s _ _ _ T9 (mkF m 114 #[.val (.int p1), .val (.int p2), .val (.int p3), .val (.int p4), .val (.int v3), .val (.int w4), .val (.int y5), .val (.int w6), .val (.ref b7), .val (.int y9), .val (.int (1 : Int32))] [(.int y9)])
            refine own_by (fun t k => XS.iload X9.here hx rfl (hb hby at_114) rfl k) ?_
            show ORun p e below s _ _ _ T9 (mkF m 116 #[.val (.int p1), .val (.int p2), .val (.int p3), .val (.int p4), .val (.int v3), .val (.int w4), .val (.int y5), .val (.int w6), .val (.ref b7), .val (.int y9), .val (.int (1 : Int32))] [(.int (1 : Int32)), (.int y9)])
            by_cases hc14 : y9 = (1 : Int32)
            · have t14 := own_eq hc14 (a := y9.toInt) (b := 1) rfl (by decide)
              refine own_by (fun t k => XS.icmpNo X9.here hx rfl (hb hby at_116) rfl (teq hc14).2 k) ?_
              show ORun p e below s _ _ _ T9 (mkF m 119 #[.val (.int p1), .val (.int p2), .val (.int p3), .val (.int p4), .val (.int v3), .val (.int w4), .val (.int y5), .val (.int w6), .val (.ref b7), .val (.int y9), .val (.int (1 : Int32))] [])
              refine own_by (fun t k => XS.iconst X9.here hx rfl (hb hby at_119) k) ?_
              show ORun p e below s _ _ _ T9 (mkF m 120 #[.val (.int p1), .val (.int p2), .val (.int p3), .val (.int p4), .val (.int v3), .val (.int w4), .val (.int y5), .val (.int w6), .val (.ref b7), .val (.int y9), .val (.int (1 : Int32))] [(.int (1 : Int32))])
              refine own_by (fun t k => XS.goto X9.here hx rfl (pc0 := 120) (pc' := 124) rfl (hb hby at_120) (by decide) (by decide) k) ?_
              show ORun p e below s _ _ _ T9 (mkF m 124 #[.val (.int p1), .val (.int p2), .val (.int p3), .val (.int p4), .val (.int v3), .val (.int w4), .val (.int y5), .val (.int w6), .val (.ref b7), .val (.int y9), .val (.int (1 : Int32))] [(.int (1 : Int32))])
              refine own_retN X9 hx (t := .boolean) hret (by simp) hlk (hb hby at_124) (by decide) (by decide) ?_
              exact ⟨rfl, N9⟩
            · have t14 := own_ne hc14 (a := y9.toInt) (b := 1) rfl (by decide)
              refine own_by (fun t k => XS.icmpYes X9.here hx rfl (pc0 := 116) (pc' := 123) rfl (hb hby at_116) rfl (feq hc14).2 (by decide) (by decide) k) ?_
              show ORun p e below s _ _ _ T9 (mkF m 123 #[.val (.int p1), .val (.int p2), .val (.int p3), .val (.int p4), .val (.int v3), .val (.int w4), .val (.int y5), .val (.int w6), .val (.ref b7), .val (.int y9), .val (.int (1 : Int32))] [])
              refine own_by (fun t k => XS.iconst X9.here hx rfl (hb hby at_123) k) ?_
              show ORun p e below s _ _ _ T9 (mkF m 124 #[.val (.int p1), .val (.int p2), .val (.int p3), .val (.int p4), .val (.int v3), .val (.int w4), .val (.int y5), .val (.int w6), .val (.ref b7), .val (.int y9), .val (.int (1 : Int32))] [(.int (0 : Int32))])
              refine own_retN X9 hx (t := .boolean) hret (by simp) hlk (hb hby at_124) (by decide) (by decide) ?_
              exfalso
              omega
        · have t11 := own_nlt hc11 (a := w6.toInt) (b := 3) rfl (by decide)
          refine own_by (fun t k => XS.icmpNo X9.here hx rfl (hb hby at_82) rfl (flt hc11).1 k) ?_
          show ORun p e below s _ _ _ T9 (mkF m 85 #[.val (.int p1), .val (.int p2), .val (.int p3), .val (.int p4), .val (.int v3), .val (.int w4), .val (.int y5), .val (.int w6), .val (.ref b7), .val (.int y9), .unset] [])
          refine own_by (fun t k => XS.iconst X9.here hx rfl (hb hby at_85) k) ?_
          show ORun p e below s _ _ _ T9 (mkF m 86 #[.val (.int p1), .val (.int p2), .val (.int p3), .val (.int p4), .val (.int v3), .val (.int w4), .val (.int y5), .val (.int w6), .val (.ref b7), .val (.int y9), .unset] [(.int (1 : Int32))])
          refine own_by (fun t k => XS.goto X9.here hx rfl (pc0 := 86) (pc' := 90) rfl (hb hby at_86) (by decide) (by decide) k) ?_
          show ORun p e below s _ _ _ T9 (mkF m 90 #[.val (.int p1), .val (.int p2), .val (.int p3), .val (.int p4), .val (.int v3), .val (.int w4), .val (.int y5), .val (.int w6), .val (.ref b7), .val (.int y9), .unset] [(.int (1 : Int32))])
          refine own_by (fun t k => XS.iload X9.here hx rfl (hb hby at_90) rfl k) ?_
          show ORun p e below s _ _ _ T9 (mkF m 92 #[.val (.int p1), .val (.int p2), .val (.int p3), .val (.int p4), .val (.int v3), .val (.int w4), .val (.int y5), .val (.int w6), .val (.ref b7), .val (.int y9), .unset] [(.int w6), (.int (1 : Int32))])
          refine own_by (fun t k => XS.bipush X9.here hx rfl (hb hby at_92) k) ?_
          show ORun p e below s _ _ _ T9 (mkF m 94 #[.val (.int p1), .val (.int p2), .val (.int p3), .val (.int p4), .val (.int v3), .val (.int w4), .val (.int y5), .val (.int w6), .val (.ref b7), .val (.int y9), .unset] [(.int (6 : Int32)), (.int w6), (.int (1 : Int32))])
          by_cases hc15 : w6 < (6 : Int32)
          · have t15 := own_lt hc15 (a := w6.toInt) (b := 6) rfl (by decide)
            refine own_by (fun t k => XS.icmpYes X9.here hx rfl (pc0 := 94) (pc' := 101) rfl (hb hby at_94) rfl (tlt hc15).1 (by decide) (by decide) k) ?_
            show ORun p e below s _ _ _ T9 (mkF m 101 #[.val (.int p1), .val (.int p2), .val (.int p3), .val (.int p4), .val (.int v3), .val (.int w4), .val (.int y5), .val (.int w6), .val (.ref b7), .val (.int y9), .unset] [(.int (1 : Int32))])
            refine own_by (fun t k => XS.iconst X9.here hx rfl (hb hby at_101) k) ?_
            show ORun p e below s _ _ _ T9 (mkF m 102 #[.val (.int p1), .val (.int p2), .val (.int p3), .val (.int p4), .val (.int v3), .val (.int w4), .val (.int y5), .val (.int w6), .val (.ref b7), .val (.int y9), .unset] [(.int (0 : Int32)), (.int (1 : Int32))])
            refine own_by (fun t k => XS.iadd X9.here hx rfl (hb hby at_102) rfl k) ?_
            show ORun p e below s _ _ _ T9 (mkF m 103 #[.val (.int p1), .val (.int p2), .val (.int p3), .val (.int p4), .val (.int v3), .val (.int w4), .val (.int y5), .val (.int w6), .val (.ref b7), .val (.int y9), .unset] [(.int (1 : Int32))])
            refine own_by (fun t k => XS.istore X9.here hx rfl (hb hby at_103) rfl (l' := #[.val (.int p1), .val (.int p2), .val (.int p3), .val (.int p4), .val (.int v3), .val (.int w4), .val (.int y5), .val (.int w6), .val (.ref b7), .val (.int y9), .val (.int (1 : Int32))]) rfl k) ?_
            show ORun p e below s _ _ _ T9 (mkF m 105 #[.val (.int p1), .val (.int p2), .val (.int p3), .val (.int p4), .val (.int v3), .val (.int w4), .val (.int y5), .val (.int w6), .val (.ref b7), .val (.int y9), .val (.int (1 : Int32))] [])
            refine own_by (fun t k => XS.goto X9.here hx rfl (pc0 := 105) (pc' := 112) rfl (hb hby at_105) (by decide) (by decide) k) ?_
            show ORun p e below s _ _ _ T9 (mkF m 112 #[.val (.int p1), .val (.int p2), .val (.int p3), .val (.int p4), .val (.int v3), .val (.int w4), .val (.int y5), .val (.int w6), .val (.ref b7), .val (.int y9), .val (.int (1 : Int32))] [])
            refine own_by (fun t k => XS.iload X9.here hx rfl (hb hby at_112) rfl k) ?_
            show ORun p e below s _ _ _ T9 (mkF m 114 #[.val (.int p1), .val (.int p2), .val (.int p3), .val (.int p4), .val (.int v3), .val (.int w4), .val (.int y5), .val (.int w6), .val (.ref b7), .val (.int y9), .val (.int (1 : Int32))] [(.int y9)])
            refine own_by (fun t k => XS.iload X9.here hx rfl (hb hby at_114) rfl k) ?_
            show ORun p e below s _ _ _ T9 (mkF m 116 #[.val (.int p1), .val (.int p2), .val (.int p3), .val (.int p4), .val (.int v3), .val (.int w4), .val (.int y5), .val (.int w6), .val (.ref b7), .val (.int y9), .val (.int (1 : Int32))] [(.int (1 : Int32)), (.int y9)])
            by_cases hc16 : y9 = (1 : Int32)
            · have t16 := own_eq hc16 (a := y9.toInt) (b := 1) rfl (by decide)
              refine own_by (fun t k => XS.icmpNo X9.here hx rfl (hb hby at_116) rfl (teq hc16).2 k) ?_
              show ORun p e below s _ _ _ T9 (mkF m 119 #[.val (.int p1), .val (.int p2), .val (.int p3), .val (.int p4), .val (.int v3), .val (.int w4), .val (.int y5), .val (.int w6), .val (.ref b7), .val (.int y9), .val (.int (1 : Int32))] [])
              refine own_by (fun t k => XS.iconst X9.here hx rfl (hb hby at_119) k) ?_
              show ORun p e below s _ _ _ T9 (mkF m 120 #[.val (.int p1), .val (.int p2), .val (.int p3), .val (.int p4), .val (.int v3), .val (.int w4), .val (.int y5), .val (.int w6), .val (.ref b7), .val (.int y9), .val (.int (1 : Int32))] [(.int (1 : Int32))])
              refine own_by (fun t k => XS.goto X9.here hx rfl (pc0 := 120) (pc' := 124) rfl (hb hby at_120) (by decide) (by decide) k) ?_
              show ORun p e below s _ _ _ T9 (mkF m 124 #[.val (.int p1), .val (.int p2), .val (.int p3), .val (.int p4), .val (.int v3), .val (.int w4), .val (.int y5), .val (.int w6), .val (.ref b7), .val (.int y9), .val (.int (1 : Int32))] [(.int (1 : Int32))])
              refine own_retN X9 hx (t := .boolean) hret (by simp) hlk (hb hby at_124) (by decide) (by decide) ?_
              exact ⟨rfl, N9⟩
            · have t16 := own_ne hc16 (a := y9.toInt) (b := 1) rfl (by decide)
              refine own_by (fun t k => XS.icmpYes X9.here hx rfl (pc0 := 116) (pc' := 123) rfl (hb hby at_116) rfl (feq hc16).2 (by decide) (by decide) k) ?_
              show ORun p e below s _ _ _ T9 (mkF m 123 #[.val (.int p1), .val (.int p2), .val (.int p3), .val (.int p4), .val (.int v3), .val (.int w4), .val (.int y5), .val (.int w6), .val (.ref b7), .val (.int y9), .val (.int (1 : Int32))] [])
              refine own_by (fun t k => XS.iconst X9.here hx rfl (hb hby at_123) k) ?_
              show ORun p e below s _ _ _ T9 (mkF m 124 #[.val (.int p1), .val (.int p2), .val (.int p3), .val (.int p4), .val (.int v3), .val (.int w4), .val (.int y5), .val (.int w6), .val (.ref b7), .val (.int y9), .val (.int (1 : Int32))] [(.int (0 : Int32))])
              refine own_retN X9 hx (t := .boolean) hret (by simp) hlk (hb hby at_124) (by decide) (by decide) ?_
              exfalso
              omega
          · have t15 := own_nlt hc15 (a := w6.toInt) (b := 6) rfl (by decide)
            refine own_by (fun t k => XS.icmpNo X9.here hx rfl (hb hby at_94) rfl (flt hc15).1 k) ?_
            show ORun p e below s _ _ _ T9 (mkF m 97 #[.val (.int p1), .val (.int p2), .val (.int p3), .val (.int p4), .val (.int v3), .val (.int w4), .val (.int y5), .val (.int w6), .val (.ref b7), .val (.int y9), .unset] [(.int (1 : Int32))])
            refine own_by (fun t k => XS.iconst X9.here hx rfl (hb hby at_97) k) ?_
            show ORun p e below s _ _ _ T9 (mkF m 98 #[.val (.int p1), .val (.int p2), .val (.int p3), .val (.int p4), .val (.int v3), .val (.int w4), .val (.int y5), .val (.int w6), .val (.ref b7), .val (.int y9), .unset] [(.int (1 : Int32)), (.int (1 : Int32))])
            refine own_by (fun t k => XS.goto X9.here hx rfl (pc0 := 98) (pc' := 102) rfl (hb hby at_98) (by decide) (by decide) k) ?_
            show ORun p e below s _ _ _ T9 (mkF m 102 #[.val (.int p1), .val (.int p2), .val (.int p3), .val (.int p4), .val (.int v3), .val (.int w4), .val (.int y5), .val (.int w6), .val (.ref b7), .val (.int y9), .unset] [(.int (1 : Int32)), (.int (1 : Int32))])
            refine own_by (fun t k => XS.iadd X9.here hx rfl (hb hby at_102) rfl k) ?_
            show ORun p e below s _ _ _ T9 (mkF m 103 #[.val (.int p1), .val (.int p2), .val (.int p3), .val (.int p4), .val (.int v3), .val (.int w4), .val (.int y5), .val (.int w6), .val (.ref b7), .val (.int y9), .unset] [(.int (2 : Int32))])
            refine own_by (fun t k => XS.istore X9.here hx rfl (hb hby at_103) rfl (l' := #[.val (.int p1), .val (.int p2), .val (.int p3), .val (.int p4), .val (.int v3), .val (.int w4), .val (.int y5), .val (.int w6), .val (.ref b7), .val (.int y9), .val (.int (2 : Int32))]) rfl k) ?_
            show ORun p e below s _ _ _ T9 (mkF m 105 #[.val (.int p1), .val (.int p2), .val (.int p3), .val (.int p4), .val (.int v3), .val (.int w4), .val (.int y5), .val (.int w6), .val (.ref b7), .val (.int y9), .val (.int (2 : Int32))] [])
            refine own_by (fun t k => XS.goto X9.here hx rfl (pc0 := 105) (pc' := 112) rfl (hb hby at_105) (by decide) (by decide) k) ?_
            show ORun p e below s _ _ _ T9 (mkF m 112 #[.val (.int p1), .val (.int p2), .val (.int p3), .val (.int p4), .val (.int v3), .val (.int w4), .val (.int y5), .val (.int w6), .val (.ref b7), .val (.int y9), .val (.int (2 : Int32))] [])
            refine own_by (fun t k => XS.iload X9.here hx rfl (hb hby at_112) rfl k) ?_
            show ORun p e below s _ _ _ T9 (mkF m 114 #[.val (.int p1), .val (.int p2), .val (.int p3), .val (.int p4), .val (.int v3), .val (.int w4), .val (.int y5), .val (.int w6), .val (.ref b7), .val (.int y9), .val (.int (2 : Int32))] [(.int y9)])
            refine own_by (fun t k => XS.iload X9.here hx rfl (hb hby at_114) rfl k) ?_
            show ORun p e below s _ _ _ T9 (mkF m 116 #[.val (.int p1), .val (.int p2), .val (.int p3), .val (.int p4), .val (.int v3), .val (.int w4), .val (.int y5), .val (.int w6), .val (.ref b7), .val (.int y9), .val (.int (2 : Int32))] [(.int (2 : Int32)), (.int y9)])
            by_cases hc17 : y9 = (2 : Int32)
            · have t17 := own_eq hc17 (a := y9.toInt) (b := 2) rfl (by decide)
              refine own_by (fun t k => XS.icmpNo X9.here hx rfl (hb hby at_116) rfl (teq hc17).2 k) ?_
              show ORun p e below s _ _ _ T9 (mkF m 119 #[.val (.int p1), .val (.int p2), .val (.int p3), .val (.int p4), .val (.int v3), .val (.int w4), .val (.int y5), .val (.int w6), .val (.ref b7), .val (.int y9), .val (.int (2 : Int32))] [])
              refine own_by (fun t k => XS.iconst X9.here hx rfl (hb hby at_119) k) ?_
              show ORun p e below s _ _ _ T9 (mkF m 120 #[.val (.int p1), .val (.int p2), .val (.int p3), .val (.int p4), .val (.int v3), .val (.int w4), .val (.int y5), .val (.int w6), .val (.ref b7), .val (.int y9), .val (.int (2 : Int32))] [(.int (1 : Int32))])
              refine own_by (fun t k => XS.goto X9.here hx rfl (pc0 := 120) (pc' := 124) rfl (hb hby at_120) (by decide) (by decide) k) ?_
              show ORun p e below s _ _ _ T9 (mkF m 124 #[.val (.int p1), .val (.int p2), .val (.int p3), .val (.int p4), .val (.int v3), .val (.int w4), .val (.int y5), .val (.int w6), .val (.ref b7), .val (.int y9), .val (.int (2 : Int32))] [(.int (1 : Int32))])
              refine own_retN X9 hx (t := .boolean) hret (by simp) hlk (hb hby at_124) (by decide) (by decide) ?_
              exact ⟨rfl, N9⟩
            · have t17 := own_ne hc17 (a := y9.toInt) (b := 2) rfl (by decide)
              refine own_by (fun t k => XS.icmpYes X9.here hx rfl (pc0 := 116) (pc' := 123) rfl (hb hby at_116) rfl (feq hc17).2 (by decide) (by decide) k) ?_
              show ORun p e below s _ _ _ T9 (mkF m 123 #[.val (.int p1), .val (.int p2), .val (.int p3), .val (.int p4), .val (.int v3), .val (.int w4), .val (.int y5), .val (.int w6), .val (.ref b7), .val (.int y9), .val (.int (2 : Int32))] [])
              refine own_by (fun t k => XS.iconst X9.here hx rfl (hb hby at_123) k) ?_
              show ORun p e below s _ _ _ T9 (mkF m 124 #[.val (.int p1), .val (.int p2), .val (.int p3), .val (.int p4), .val (.int v3), .val (.int w4), .val (.int y5), .val (.int w6), .val (.ref b7), .val (.int y9), .val (.int (2 : Int32))] [(.int (0 : Int32))])
              refine own_retN X9 hx (t := .boolean) hret (by simp) hlk (hb hby at_124) (by decide) (by decide) ?_
              exfalso
              omega
      · have t10 := own_ne hc10 (a := v3.toInt) (b := (-1)) rfl (by decide)
        refine own_by (fun t k => XS.icmpYes X9.here hx rfl (pc0 := 76) (pc' := 108) rfl (hb hby at_76) rfl (feq hc10).2 (by decide) (by decide) k) ?_
        show ORun p e below s _ _ _ T9 (mkF m 108 #[.val (.int p1), .val (.int p2), .val (.int p3), .val (.int p4), .val (.int v3), .val (.int w4), .val (.int y5), .val (.int w6), .val (.ref b7), .val (.int y9), .unset] [])
        refine own_by (fun t k => XS.iload X9.here hx rfl (hb hby at_108) rfl k) ?_
        show ORun p e below s _ _ _ T9 (mkF m 110 #[.val (.int p1), .val (.int p2), .val (.int p3), .val (.int p4), .val (.int v3), .val (.int w4), .val (.int y5), .val (.int w6), .val (.ref b7), .val (.int y9), .unset] [(.int v3)])
        refine own_by (fun t k => XS.istore X9.here hx rfl (hb hby at_110) rfl (l' := #[.val (.int p1), .val (.int p2), .val (.int p3), .val (.int p4), .val (.int v3), .val (.int w4), .val (.int y5), .val (.int w6), .val (.ref b7), .val (.int y9), .val (.int v3)]) rfl k) ?_
        show ORun p e below s _ _ _ T9 (mkF m 112 #[.val (.int p1), .val (.int p2), .val (.int p3), .val (.int p4), .val (.int v3), .val (.int w4), .val (.int y5), .val (.int w6), .val (.ref b7), .val (.int y9), .val (.int v3)] [])
        refine own_by (fun t k => XS.iload X9.here hx rfl (hb hby at_112) rfl k) ?_
        show ORun p e below s _ _ _ T9 (mkF m 114 #[.val (.int p1), .val (.int p2), .val (.int p3), .val (.int p4), .val (.int v3), .val (.int w4), .val (.int y5), .val (.int w6), .val (.ref b7), .val (.int y9), .val (.int v3)] [(.int y9)])
        refine own_by (fun t k => XS.iload X9.here hx rfl (hb hby at_114) rfl k) ?_
        show ORun p e below s _ _ _ T9 (mkF m 116 #[.val (.int p1), .val (.int p2), .val (.int p3), .val (.int p4), .val (.int v3), .val (.int w4), .val (.int y5), .val (.int w6), .val (.ref b7), .val (.int y9), .val (.int v3)] [(.int v3), (.int y9)])
        by_cases hc18 : y9 = v3
        · have t18 := own_eq hc18 (a := y9.toInt) (b := v3.toInt) rfl rfl
          refine own_by (fun t k => XS.icmpNo X9.here hx rfl (hb hby at_116) rfl (teq hc18).2 k) ?_
          show ORun p e below s _ _ _ T9 (mkF m 119 #[.val (.int p1), .val (.int p2), .val (.int p3), .val (.int p4), .val (.int v3), .val (.int w4), .val (.int y5), .val (.int w6), .val (.ref b7), .val (.int y9), .val (.int v3)] [])
          refine own_by (fun t k => XS.iconst X9.here hx rfl (hb hby at_119) k) ?_
          show ORun p e below s _ _ _ T9 (mkF m 120 #[.val (.int p1), .val (.int p2), .val (.int p3), .val (.int p4), .val (.int v3), .val (.int w4), .val (.int y5), .val (.int w6), .val (.ref b7), .val (.int y9), .val (.int v3)] [(.int (1 : Int32))])
          refine own_by (fun t k => XS.goto X9.here hx rfl (pc0 := 120) (pc' := 124) rfl (hb hby at_120) (by decide) (by decide) k) ?_
          show ORun p e below s _ _ _ T9 (mkF m 124 #[.val (.int p1), .val (.int p2), .val (.int p3), .val (.int p4), .val (.int v3), .val (.int w4), .val (.int y5), .val (.int w6), .val (.ref b7), .val (.int y9), .val (.int v3)] [(.int (1 : Int32))])
          refine own_retN X9 hx (t := .boolean) hret (by simp) hlk (hb hby at_124) (by decide) (by decide) ?_
          exact ⟨rfl, N9⟩
        · have t18 := own_ne hc18 (a := y9.toInt) (b := v3.toInt) rfl rfl
          refine own_by (fun t k => XS.icmpYes X9.here hx rfl (pc0 := 116) (pc' := 123) rfl (hb hby at_116) rfl (feq hc18).2 (by decide) (by decide) k) ?_
          show ORun p e below s _ _ _ T9 (mkF m 123 #[.val (.int p1), .val (.int p2), .val (.int p3), .val (.int p4), .val (.int v3), .val (.int w4), .val (.int y5), .val (.int w6), .val (.ref b7), .val (.int y9), .val (.int v3)] [])
          refine own_by (fun t k => XS.iconst X9.here hx rfl (hb hby at_123) k) ?_
          show ORun p e below s _ _ _ T9 (mkF m 124 #[.val (.int p1), .val (.int p2), .val (.int p3), .val (.int p4), .val (.int v3), .val (.int w4), .val (.int y5), .val (.int w6), .val (.ref b7), .val (.int y9), .val (.int v3)] [(.int (0 : Int32))])
          refine own_retN X9 hx (t := .boolean) hret (by simp) hlk (hb hby at_124) (by decide) (by decide) ?_
          exfalso
          omega
    refine own_by (fun t k => XS.iloadN X5.here hx rfl (hb hby at_30) rfl k) ?_
    show ORun p e below s _ _ _ T5 (mkF m 31 #[.val (.int p1), .val (.int p2), .val (.int p3), .val (.int p4), .val (.int v3), .val (.int w4), .val (.int y5), .unset, .unset, .unset, .unset] [(.int p2)])
    refine own_by (fun t k => XS.iconst X5.here hx rfl (hb hby at_31) k) ?_
    show ORun p e below s _ _ _ T5 (mkF m 32 #[.val (.int p1), .val (.int p2), .val (.int p3), .val (.int p4), .val (.int v3), .val (.int w4), .val (.int y5), .unset, .unset, .unset, .unset] [(.int (2 : Int32)), (.int p2)])
    refine own_by (fun t k => XS.iand X5.here hx rfl (hb hby at_32) rfl k) (own_letI (f := (fun z => (mkF m 33 #[.val (.int p1), .val (.int p2), .val (.int p3), .val (.int p4), .val (.int v3), .val (.int w4), .val (.int y5), .unset, .unset, .unset, .unset] [(.int z)]))) (p2 &&& (2 : Int32)) fun v19 hv19 => ?_)
    show ORun p e below s _ _ _ T5 (mkF m 33 #[.val (.int p1), .val (.int p2), .val (.int p3), .val (.int p4), .val (.int v3), .val (.int w4), .val (.int y5), .unset, .unset, .unset, .unset] [(.int v19)])
    by_cases hc20 : v19 = (0 : Int32)
    · have t20 := own_eq hc20 (a := v19.toInt) (b := 0) rfl (by decide)
      refine own_by (fun t k => XS.ifYes X5.here hx rfl (pc0 := 33) (pc' := 43) rfl (hb hby at_33) rfl ((if0 _ _).trans (teq hc20).1) (by decide) (by decide) k) ?_
      show ORun p e below s _ _ _ T5 (mkF m 43 #[.val (.int p1), .val (.int p2), .val (.int p3), .val (.int p4), .val (.int v3), .val (.int w4), .val (.int y5), .unset, .unset, .unset, .unset] [])
      refine own_by (fun t k => XS.iloadN X5.here hx rfl (hb hby at_43) rfl k) ?_
      show ORun p e below s _ _ _ T5 (mkF m 44 #[.val (.int p1), .val (.int p2), .val (.int p3), .val (.int p4), .val (.int v3), .val (.int w4), .val (.int y5), .unset, .unset, .unset, .unset] [(.int p4)])
      refine own_by (fun t k => X5.ldcInt hx hown (mvT hZ (hw _ (List.mem_of_getElem? (i := 0) rfl))) (g := (mkF m 44 #[.val (.int p1), .val (.int p2), .val (.int p3), .val (.int p4), .val (.int v3), .val (.int w4), .val (.int y5), .unset, .unset, .unset, .unset] [(.int p4)])) rfl (hb hby at_44) _ k) ?_
      show ORun p e below s _ _ _ T5 (mkF m 46 #[.val (.int p1), .val (.int p2), .val (.int p3), .val (.int p4), .val (.int v3), .val (.int w4), .val (.int y5), .unset, .unset, .unset, .unset] [(.int (2147483647 : Int32)), (.int p4)])
      refine own_by (fun t k => XS.iand X5.here hx rfl (hb hby at_46) rfl k) (own_letI (f := (fun z => (mkF m 47 #[.val (.int p1), .val (.int p2), .val (.int p3), .val (.int p4), .val (.int v3), .val (.int w4), .val (.int y5), .unset, .unset, .unset, .unset] [(.int z)]))) (p4 &&& (2147483647 : Int32)) fun v21 hv21 => ?_)
      show ORun p e below s _ _ _ T5 (mkF m 47 #[.val (.int p1), .val (.int p2), .val (.int p3), .val (.int p4), .val (.int v3), .val (.int w4), .val (.int y5), .unset, .unset, .unset, .unset] [(.int v21)])
      have a21a : v21.toInt = p4.toInt % 2147483648 := by rw [hv21]; exact c_mask p4 (2147483647 : Int32) 31 (by decide) (by decide)
      have r21 := rng32 v21
      exact J6 v21 (by omega)
    · have t20 := own_ne hc20 (a := v19.toInt) (b := 0) rfl (by decide)
      refine own_by (fun t k => XS.ifNo X5.here hx rfl (hb hby at_33) rfl ((if0 _ _).trans (feq hc20).1) k) ?_
      show ORun p e below s _ _ _ T5 (mkF m 36 #[.val (.int p1), .val (.int p2), .val (.int p3), .val (.int p4), .val (.int v3), .val (.int w4), .val (.int y5), .unset, .unset, .unset, .unset] [])
      refine own_by (fun t k => XS.iloadN X5.here hx rfl (hb hby at_36) rfl k) ?_
      show ORun p e below s _ _ _ T5 (mkF m 37 #[.val (.int p1), .val (.int p2), .val (.int p3), .val (.int p4), .val (.int v3), .val (.int w4), .val (.int y5), .unset, .unset, .unset, .unset] [(.int p4)])
      refine own_by (fun t k => XS.bipush X5.here hx rfl (hb hby at_37) k) ?_
      show ORun p e below s _ _ _ T5 (mkF m 39 #[.val (.int p1), .val (.int p2), .val (.int p3), .val (.int p4), .val (.int v3), .val (.int w4), .val (.int y5), .unset, .unset, .unset, .unset] [(.int (7 : Int32)), (.int p4)])
      refine own_by (fun t k => XS.iand X5.here hx rfl (hb hby at_39) rfl k) (own_letI (f := (fun z => (mkF m 40 #[.val (.int p1), .val (.int p2), .val (.int p3), .val (.int p4), .val (.int v3), .val (.int w4), .val (.int y5), .unset, .unset, .unset, .unset] [(.int z)]))) (p4 &&& (7 : Int32)) fun v22 hv22 => ?_)
      show ORun p e below s _ _ _ T5 (mkF m 40 #[.val (.int p1), .val (.int p2), .val (.int p3), .val (.int p4), .val (.int v3), .val (.int w4), .val (.int y5), .unset, .unset, .unset, .unset] [(.int v22)])
      have a22a : v22.toInt = p4.toInt % 8 := by rw [hv22]; exact c_mask p4 (7 : Int32) 3 (by decide) (by decide)
      have r22 := rng32 v22
      refine own_by (fun t k => XS.goto X5.here hx rfl (pc0 := 40) (pc' := 47) rfl (hb hby at_40) (by decide) (by decide) k) ?_
      show ORun p e below s _ _ _ T5 (mkF m 47 #[.val (.int p1), .val (.int p2), .val (.int p3), .val (.int p4), .val (.int v3), .val (.int w4), .val (.int y5), .unset, .unset, .unset, .unset] [(.int v22)])
      exact J6 v22 (by omega)
  refine own_by (fun t k => XS.iloadN X0.here hx rfl (hb hby at_10) rfl k) ?_
  show ORun p e below s _ _ _ s₁ (mkF m 11 #[.val (.int p1), .val (.int p2), .val (.int p3), .val (.int p4), .val (.int v3), .unset, .unset, .unset, .unset, .unset, .unset] [(.int p2)])
  refine own_by (fun t k => XS.iconst X0.here hx rfl (hb hby at_11) k) ?_
  show ORun p e below s _ _ _ s₁ (mkF m 12 #[.val (.int p1), .val (.int p2), .val (.int p3), .val (.int p4), .val (.int v3), .unset, .unset, .unset, .unset, .unset, .unset] [(.int (1 : Int32)), (.int p2)])
  refine own_by (fun t k => XS.iand X0.here hx rfl (hb hby at_12) rfl k) (own_letI (f := (fun z => (mkF m 13 #[.val (.int p1), .val (.int p2), .val (.int p3), .val (.int p4), .val (.int v3), .unset, .unset, .unset, .unset, .unset, .unset] [(.int z)]))) (p2 &&& (1 : Int32)) fun v23 hv23 => ?_)
  show ORun p e below s _ _ _ s₁ (mkF m 13 #[.val (.int p1), .val (.int p2), .val (.int p3), .val (.int p4), .val (.int v3), .unset, .unset, .unset, .unset, .unset, .unset] [(.int v23)])
  have a23a : v23.toInt = p2.toInt % 2 := by rw [hv23]; exact c_mask p2 (1 : Int32) 1 (by decide) (by decide)
  have r23 := rng32 v23
  by_cases hc24 : v23 = (0 : Int32)
  · have t24 := own_eq hc24 (a := v23.toInt) (b := 0) rfl (by decide)
    refine own_by (fun t k => XS.ifYes X0.here hx rfl (pc0 := 13) (pc' := 20) rfl (hb hby at_13) rfl ((if0 _ _).trans (teq hc24).1) (by decide) (by decide) k) ?_
    show ORun p e below s _ _ _ s₁ (mkF m 20 #[.val (.int p1), .val (.int p2), .val (.int p3), .val (.int p4), .val (.int v3), .unset, .unset, .unset, .unset, .unset, .unset] [])
    refine own_by (fun t k => XS.iconst X0.here hx rfl (hb hby at_20) k) ?_
    show ORun p e below s _ _ _ s₁ (mkF m 21 #[.val (.int p1), .val (.int p2), .val (.int p3), .val (.int p4), .val (.int v3), .unset, .unset, .unset, .unset, .unset, .unset] [(.int (0 : Int32))])
    exact J4 (0 : Int32) (rfl)
  · have t24 := own_ne hc24 (a := v23.toInt) (b := 0) rfl (by decide)
    refine own_by (fun t k => XS.ifNo X0.here hx rfl (hb hby at_13) rfl ((if0 _ _).trans (feq hc24).1) k) ?_
    show ORun p e below s _ _ _ s₁ (mkF m 16 #[.val (.int p1), .val (.int p2), .val (.int p3), .val (.int p4), .val (.int v3), .unset, .unset, .unset, .unset, .unset, .unset] [])
    refine own_by (fun t k => XS.iconst X0.here hx rfl (hb hby at_16) k) ?_
    show ORun p e below s _ _ _ s₁ (mkF m 17 #[.val (.int p1), .val (.int p2), .val (.int p3), .val (.int p4), .val (.int v3), .unset, .unset, .unset, .unset, .unset, .unset] [(.int (1 : Int32))])
    refine own_by (fun t k => XS.goto X0.here hx rfl (pc0 := 17) (pc' := 21) rfl (hb hby at_17) (by decide) (by decide) k) ?_
    show ORun p e below s _ _ _ s₁ (mkF m 21 #[.val (.int p1), .val (.int p2), .val (.int p3), .val (.int p4), .val (.int v3), .unset, .unset, .unset, .unset, .unset, .unset] [(.int (1 : Int32))])
    exact J4 (1 : Int32) (rfl)
set_option maxRecDepth 65536 in
set_option maxHeartbeats 40000000 in
theorem comes_1 {Post : Tables → Env → Array Value → State → Outcome → State → Prop} (hpost : ∀ tb e args s v u, (limb_1_1.after args s (.returned v) u = true ∧ limb_1_2.after args s (.returned v) u = true ∧ True) → FrameEnd s (.returned v) u (Jvm.fieldLocs frame_1_writes args s ++ Jvm.arrayLocs frame_1_arrays args s ++ Jvm.staticLocs frame_1_statics s) 16 128 → Post tb e args s (.returned v) u) :
    ArmFor flags0 classFile x code maxLocals ret World_1 tables_1 room_1 Calls_1 rest_1 Pre_1 Post := by
  intro l hfl _ _ p e ha hc hk s m args below hf hA hF happ hP
  obtain ⟨hcalls, hrest, hpre⟩ := hP
  obtain ⟨-, -, -, hnamed, -, -, -, hat⟩ := (Spec.applies_iff hf).mp happ
  obtain ⟨hg, hn⟩ := and_e (Cond.before_iff.mp (show (Jvm.Cond.and given_1 narrow_1).before args s = true from hpre))
  obtain ⟨hcnt, g0⟩ := and_e hg
  obtain ⟨k0, g1⟩ := and_e g0
  obtain ⟨k1, g2⟩ := and_e g1
  obtain ⟨k2, g3⟩ := and_e g2
  have k3 := g3
  obtain ⟨w0, w1, w2, w3, rfl⟩ : ∃ w0 w1 w2 w3 : Value, args = #[w0, w1, w2, w3] := by
    have hs : args.size = 4 := by simpa [Cond.value, given_1] using hcnt
    obtain ⟨L⟩ := args
    match L, hs with
    | [w0, w1, w2, w3], _ => exact ⟨w0, w1, w2, w3, rfl⟩
  have hw := fun d (hd : d ∈ tables_1) => atoms_spec (ws := Jvm.Cond.code x code maxLocals ret :: tables_1) hat d (List.mem_cons_of_mem _ hd)
  have hfit : Fit s := fun {y c} hc i hi => by
    obtain ⟨ha, rfl⟩ := Array.getElem?_eq_some_iff.mp hc
    have q := List.all_eq_true.mp ((Array.all_eq_true_iff_forall_mem.mp hF) _ (Array.getElem_mem ha)) i (List.mem_range.mpr hi)
    simpa [Array.getElem?_eq_getElem hi] using q
  obtain ⟨i0, e0⟩ := is_v k0
  obtain rfl : w0 = (.int i0) := Option.some.inj e0
  obtain ⟨i1, e1⟩ := is_v k1
  obtain rfl : w1 = (.int i1) := Option.some.inj e1
  obtain ⟨i2, e2⟩ := is_v k2
  obtain rfl : w2 = (.int i2) := Option.some.inj e2
  obtain ⟨i3, e3⟩ := is_v k3
  obtain rfl : w3 = (.int i3) := Option.some.inj e3
  obtain ⟨n, o, h1, h2, h3, _, L, rfl, ⟨rfl, N⟩, hq⟩ := rm0 l s _ hw tables_1 s.heap s.heap.size (Nat.le_refl _) i0 i1 i2 i3  p e ha hc hk s m _ below hf ((Spec.applies_iff_loose hf).mp happ).1 ⟨rfl, State.Warmed39.refl s, rfl⟩ trivial
  refine ⟨n, _, h1, h2, h3, hpost _ _ _ _ _ _ ⟨Cond.after_iff.mpr rfl, Cond.after_iff.mpr (eq_i res_at (Term.int_eval (1)) rfl), trivial⟩ ⟨hq.1, hq.2.1, (hq.2.2.sift fun y hy => Or.inr (N y hy)).mono (by decide) (by decide)⟩⟩
theorem main_1_1 : Claimed_1_1 := comes_1 fun _ _ _ _ _ _ h hF => ⟨h.1, hF⟩
theorem main_1_2 : Claimed_1_2 := comes_1 fun _ _ _ _ _ _ h hF => ⟨h.2.1, hF⟩
end Jvm.Pilot.@@N@@
namespace Jvm.Pilot.@@N@@
open Jvm Jvm.ClassFile Sem Op Lib Jvm.Free Jvm.Stand Jvm.Pilot.@@N@@.Jvm.D
/-! MADE BY PROGRAM (witnessworld.py) out of the Statement's table words and the real class files: 11 classes; the members and pool entries that the words name. The judged class is class 1, her method 1. -/
namespace start1
open Jvm.ClassFile
def u (s : String) : CpInfo := .utf8 (stringToUtf16 s)
/-- a pool by its gaps: so many unusable entries, then the entry; so many at the end -/
def gap : Nat → List CpInfo → List CpInfo
  | 0, r => r
  | n + 1, r => .unusable :: gap n r
def poolList (es : List (Nat × CpInfo)) (last : Nat) : List CpInfo := es.foldr (fun e r => gap e.1 (e.2 :: r)) (gap last [])
def pool (es : List (Nat × CpInfo)) (last : Nat) : Array CpInfo := ⟨poolList es last⟩
def fileOf (pool : Array CpInfo) (this : Nat) (attrs : Array Attribute := #[]) (ms : Array MethodInfo := #[]) (fl : Nat := 33) (sup : Nat := 0) (ifs : Array Nat := #[]) (fds : Array FieldInfo := #[]) : ClassFile where
  minorVersion := 0
  majorVersion := 65
  constantPool := pool
  accessFlags := fl
  thisClass := this
  superClass := sup
  interfaces := ifs
  fields := fds
  methods := ms
  attributes := attrs
def plain (name : String) (sup : Option ClassId) : Class where
  name := name
  kind := .ordinary
  loader := none
  accessFlags := 33
  super := sup
  interfaces := #[]
  cf := none
  fields := #[]
  methods := #[]
  instanceTypes := #[]
  staticTypes := #[]
  resolved := #[]
  callSites := []
  init := .initialized
  statics := none
  mirror := none

def pool0 : Array CpInfo := pool [(5, u "<init>"), (0, u "()V"), (1, .class_ 10), (1, u "java/lang/Object")] 113

def k0c0 : Code := { maxStack := 0, maxLocals := 1, code := object_method_1_code, exceptionTable := #[], attributes := #[] }
def k0m0 : Method := { name := "<init>", desc := "()V", sig := { parameters := [], returnType := none }, accessFlags := 1, code := some k0c0 }
/-- java/lang/Object -/
def k0 : Class := { plain "java/lang/Object" none with
  accessFlags := 33
  interfaces := #[]
  cf := some (fileOf pool0 8 #[] #[{ accessFlags := 1, nameIndex := 5, descriptorIndex := 6, attributes := #[] }] 33 0 #[] #[])
  fields := #[]
  methods := #[k0m0]
  instanceTypes := #[]
  staticTypes := #[]
  resolved := Array.replicate 124 none
  statics := none }

def pool1 : Array CpInfo := pool [(2, .class_ 4), (1, u "java/lang/Object"), (0, u "<init>"), (0, u "()V"), (0, .integer 2147483647), (0, .methodref 9 10), (0, .class_ 11), (0, .nameAndType 12 13), (0, u "java/lang/Math"), (0, u "max"), (0, u "(II)I"), (0, .class_ 15), (0, u "com/example/baris/baris/engine/query/Fuzziness"), (0, .methodref 14 17), (0, .nameAndType 5 18), (0, u "(IZI)V"), (0, .methodref 14 20), (0, .nameAndType 21 22), (0, u "editsFor"), (0, u "(I)I"), (0, .class_ 24), (0, u "com/example/baris/baris/engine/query/FuzzinessEditsForPinLaw"), (2, u "law"), (0, u "(IIII)Z")] 3

def k1m0 : Method := { name := "<init>", desc := "()V", sig := { parameters := [], returnType := none }, accessFlags := 1, code := none }
def k1c1 : Code := { maxStack := 5, maxLocals := 11, code := code, exceptionTable := #[], attributes := #[] }
def k1m1 : Method := { name := "law", desc := "(IIII)Z", sig := { parameters := [.int, .int, .int, .int], returnType := some .boolean }, accessFlags := 9, code := some k1c1 }
/-- com/example/baris/baris/engine/query/FuzzinessEditsForPinLaw -/
def k1 : Class := { plain "com/example/baris/baris/engine/query/FuzzinessEditsForPinLaw" (some 0) with
  accessFlags := 49
  interfaces := #[]
  cf := some (fileOf pool1 23 #[] #[{ accessFlags := 1, nameIndex := 5, descriptorIndex := 6, attributes := #[] }, { accessFlags := 9, nameIndex := 27, descriptorIndex := 28, attributes := #[] }] 49 2 #[] #[])
  fields := #[]
  methods := #[k1m0, k1m1]
  instanceTypes := #[]
  staticTypes := #[]
  resolved := Array.replicate 32 none
  statics := none }

def pool2 : Array CpInfo := pool [(1, .class_ 2), (0, u "java/lang/Math"), (1, .class_ 6), (1, u "java/lang/Object"), (0, u "<init>"), (0, u "()V"), (89, .class_ 100), (1, u "java/lang/Math$RandomNumberGeneratorHolder"), (71, u "negativeZeroFloatBits"), (0, u "J"), (2, u "negativeZeroDoubleBits"), (21, u "max"), (46, u "$assertionsDisabled"), (0, u "Z"), (88, u "(II)I"), (2, u "twoToTheDoubleScaleDown"), (0, u "D"), (4, u "twoToTheDoubleScaleUp"), (9, u "E"), (3, u "PI"), (2, u "TAU"), (2, u "DEGREES_TO_RADIANS"), (0, u "RADIANS_TO_DEGREES")] 94

def k2m0 : Method := { name := "<init>", desc := "()V", sig := { parameters := [], returnType := none }, accessFlags := 2, code := none }
def k2c1 : Code := { maxStack := 2, maxLocals := 2, code := jdk_29_method_65_code, exceptionTable := #[], attributes := #[] }
def k2m1 : Method := { name := "max", desc := "(II)I", sig := { parameters := [.int, .int], returnType := some .int }, accessFlags := 9, code := some k2c1 }
/-- java/lang/Math -/
def k2 : Class := { plain "java/lang/Math" (some 0) with
  accessFlags := 49
  interfaces := #[]
  cf := some (fileOf pool2 1 #[.nestMembers #[98]] #[{ accessFlags := 2, nameIndex := 7, descriptorIndex := 8, attributes := #[] }, { accessFlags := 9, nameIndex := 198, descriptorIndex := 335, attributes := #[] }] 49 4 #[] #[{ accessFlags := 25, nameIndex := 354, descriptorIndex := 339, attributes := #[] }, { accessFlags := 25, nameIndex := 358, descriptorIndex := 339, attributes := #[] }, { accessFlags := 25, nameIndex := 361, descriptorIndex := 339, attributes := #[] }, { accessFlags := 26, nameIndex := 364, descriptorIndex := 339, attributes := #[] }, { accessFlags := 26, nameIndex := 365, descriptorIndex := 339, attributes := #[] }, { accessFlags := 26, nameIndex := 172, descriptorIndex := 173, attributes := #[] }, { accessFlags := 26, nameIndex := 176, descriptorIndex := 173, attributes := #[] }, { accessFlags := 8, nameIndex := 344, descriptorIndex := 339, attributes := #[] }, { accessFlags := 8, nameIndex := 338, descriptorIndex := 339, attributes := #[] }, { accessFlags := 4120, nameIndex := 245, descriptorIndex := 246, attributes := #[] }])
  fields := #[{ name := "E", type := .double, accessFlags := 25, slot := 0, constantValue := 0 }, { name := "PI", type := .double, accessFlags := 25, slot := 1, constantValue := 0 }, { name := "TAU", type := .double, accessFlags := 25, slot := 2, constantValue := 0 }, { name := "DEGREES_TO_RADIANS", type := .double, accessFlags := 26, slot := 3, constantValue := 0 }, { name := "RADIANS_TO_DEGREES", type := .double, accessFlags := 26, slot := 4, constantValue := 0 }, { name := "negativeZeroFloatBits", type := .long, accessFlags := 26, slot := 5, constantValue := 0 }, { name := "negativeZeroDoubleBits", type := .long, accessFlags := 26, slot := 6, constantValue := 0 }, { name := "twoToTheDoubleScaleUp", type := .double, accessFlags := 8, slot := 7, constantValue := 0 }, { name := "twoToTheDoubleScaleDown", type := .double, accessFlags := 8, slot := 8, constantValue := 0 }, { name := "$assertionsDisabled", type := .boolean, accessFlags := 4120, slot := 9, constantValue := 0 }]
  methods := #[k2m0, k2m1]
  instanceTypes := #[]
  staticTypes := #[.double, .double, .double, .double, .double, .long, .long, .double, .double, .boolean]
  resolved := Array.replicate 460 none
  statics := none }

def pool3 : Array CpInfo := pool [(1, .methodref 2 3), (0, .class_ 4), (0, .nameAndType 5 6), (0, u "java/lang/Object"), (0, u "<init>"), (0, u "()V"), (0, .class_ 8), (0, u "java/lang/Record")] 13

def k3c0 : Code := { maxStack := 1, maxLocals := 1, code := jdk_30_method_1_code, exceptionTable := #[], attributes := #[] }
def k3m0 : Method := { name := "<init>", desc := "()V", sig := { parameters := [], returnType := none }, accessFlags := 4, code := some k3c0 }
/-- java/lang/Record -/
def k3 : Class := { plain "java/lang/Record" (some 0) with
  accessFlags := 1057
  interfaces := #[]
  cf := some (fileOf pool3 7 #[] #[{ accessFlags := 4, nameIndex := 5, descriptorIndex := 6, attributes := #[] }] 1057 2 #[] #[])
  fields := #[]
  methods := #[k3m0]
  instanceTypes := #[]
  staticTypes := #[]
  resolved := Array.replicate 22 none
  statics := none }

def pool4 : Array CpInfo := pool [(1, .methodref 2 3), (0, .class_ 4), (0, .nameAndType 5 6), (0, u "java/lang/Record"), (0, u "<init>"), (0, u "()V"), (0, .class_ 8), (0, u "com/example/baris/baris/engine/query/Fuzziness"), (10, .fieldref 7 20), (0, .nameAndType 21 22), (0, u "edits"), (0, u "I"), (0, .fieldref 7 24), (0, .nameAndType 25 26), (0, u "transpositions"), (0, u "Z"), (0, .fieldref 7 28), (0, .nameAndType 29 22), (0, u "maxExpansions"), (2, u "(IZI)V"), (17, u "NONE"), (0, u "Lcom/example/baris/baris/engine/query/Fuzziness;"), (0, u "AUTO"), (2, u "MAX_EDITS"), (1, u "DEFAULT_MAX_EXPANSIONS"), (5, u "editsFor"), (0, u "(I)I")] 37

def k4c0 : Code := { maxStack := 3, maxLocals := 4, code := prog_48_method_1_code, exceptionTable := #[], attributes := #[] }
def k4m0 : Method := { name := "<init>", desc := "(IZI)V", sig := { parameters := [.int, .boolean, .int], returnType := none }, accessFlags := 1, code := some k4c0 }
def k4c1 : Code := { maxStack := 2, maxLocals := 3, code := prog_48_method_3_code, exceptionTable := #[], attributes := #[] }
def k4m1 : Method := { name := "editsFor", desc := "(I)I", sig := { parameters := [.int], returnType := some .int }, accessFlags := 1, code := some k4c1 }
/-- com/example/baris/baris/engine/query/Fuzziness -/
def k4 : Class := { plain "com/example/baris/baris/engine/query/Fuzziness" (some 3) with
  accessFlags := 49
  interfaces := #[]
  cf := some (fileOf pool4 7 #[] #[{ accessFlags := 1, nameIndex := 5, descriptorIndex := 32, attributes := #[] }, { accessFlags := 1, nameIndex := 63, descriptorIndex := 64, attributes := #[] }] 49 2 #[] #[{ accessFlags := 18, nameIndex := 21, descriptorIndex := 22, attributes := #[] }, { accessFlags := 18, nameIndex := 25, descriptorIndex := 26, attributes := #[] }, { accessFlags := 18, nameIndex := 29, descriptorIndex := 22, attributes := #[] }, { accessFlags := 25, nameIndex := 52, descriptorIndex := 22, attributes := #[] }, { accessFlags := 25, nameIndex := 55, descriptorIndex := 22, attributes := #[] }, { accessFlags := 25, nameIndex := 57, descriptorIndex := 22, attributes := #[] }, { accessFlags := 25, nameIndex := 50, descriptorIndex := 51, attributes := #[] }])
  fields := #[{ name := "edits", type := .int, accessFlags := 18, slot := 0, constantValue := 0 }, { name := "transpositions", type := .boolean, accessFlags := 18, slot := 1, constantValue := 0 }, { name := "maxExpansions", type := .int, accessFlags := 18, slot := 2, constantValue := 0 }, { name := "AUTO", type := .int, accessFlags := 25, slot := 0, constantValue := 0 }, { name := "MAX_EDITS", type := .int, accessFlags := 25, slot := 1, constantValue := 0 }, { name := "DEFAULT_MAX_EXPANSIONS", type := .int, accessFlags := 25, slot := 2, constantValue := 0 }, { name := "NONE", type := (.object "com/example/baris/baris/engine/query/Fuzziness"), accessFlags := 25, slot := 3, constantValue := 0 }]
  methods := #[k4m0, k4m1]
  instanceTypes := #[.int, .boolean, .int]
  staticTypes := #[.int, .int, .int, (.object "com/example/baris/baris/engine/query/Fuzziness")]
  resolved := Array.replicate 102 none
  statics := none }

def pool5 : Array CpInfo := pool [(1, u "java/lang/Cloneable"), (0, .class_ 1), (0, u "java/lang/Object"), (0, .class_ 3)] 3

/-- java/lang/Cloneable -/
def k5 : Class := { plain "java/lang/Cloneable" (some 0) with
  accessFlags := 1537
  interfaces := #[]
  cf := some (fileOf pool5 2 #[] #[] 1537 4 #[] #[])
  fields := #[]
  methods := #[]
  instanceTypes := #[]
  staticTypes := #[]
  resolved := Array.replicate 8 none
  statics := none }

def pool6 : Array CpInfo := pool [(1, u "java/io/Serializable"), (0, .class_ 1), (0, u "java/lang/Object"), (0, .class_ 3)] 3

/-- java/io/Serializable -/
def k6 : Class := { plain "java/io/Serializable" (some 0) with
  accessFlags := 1537
  interfaces := #[]
  cf := some (fileOf pool6 2 #[] #[] 1537 4 #[] #[])
  fields := #[]
  methods := #[]
  instanceTypes := #[]
  staticTypes := #[]
  resolved := Array.replicate 8 none
  statics := none }

/-- the primitive byte -/
def k7 : Class := { plain "byte" none with kind := .primitive 'B', accessFlags := 0x411 }
/-- [B -/
def k8 : Class := { plain "[B" (some 0) with kind := .array 7 .byte, interfaces := #[5, 6], accessFlags := 1041 }

/-- the primitive int -/
def k9 : Class := { plain "int" none with kind := .primitive 'I', accessFlags := 0x411 }
/-- [I -/
def k10 : Class := { plain "[I" (some 0) with kind := .array 9 .int, interfaces := #[5, 6], accessFlags := 1041 }

def heap : Heap := #[]
def classes : Array Class := #[k0, k1, k2, k3, k4, k5, k6, k7, k8, k9, k10]
def interned : List (Array UInt16 × Addr) := []
def slotsUsed : Nat := 0
def theMethod : MethodId := ⟨1, 1⟩
def args0 : Array Value := #[.int 1, .int 1, .int 5, .int 4]
def aboutOver (below : List Frame) : State where
  vm := { classes := classes, interned := interned.toArray }
  heap := heap
  slotsUsed := slotsUsed
  threads := #[{ frames := .invoking theMethod args0 :: below }]
def below0 : List Frame := [.native { method := ⟨0, 0⟩, args := #[] }]
def about1 : State := aboutOver below0
def p0 : Program := .bare "" "" ""
def e0 : Env := launch0.env 0 0 0
theorem w_frames : about1.frames = Frame.invoking theMethod args0 :: below0 := rfl
set_option maxRecDepth 65536 in
theorem w_args : argsFit about1.vm theMethod args0 = true := by decide +kernel
set_option maxRecDepth 65536 in
theorem w_heap : heapFits about1 = true := by decide +kernel
set_option maxRecDepth 65536 in
theorem w_runnable : about1.curStatus? = some .runnable := by decide +kernel
set_option maxRecDepth 65536 in
theorem w_alone : about1.alone = true := by decide +kernel
set_option maxRecDepth 65536 in
theorem w_named : about1.methodNamed? x = some theMethod := by decide +kernel
set_option maxRecDepth 65536 in
theorem w_hears : about1.hears theMethod below0 = true := by decide +kernel
set_option maxRecDepth 65536 in
theorem w_ripe : about1.ripe theMethod args0 below0 = true := by decide +kernel
theorem w_running : about1.status = .running := rfl
set_option maxRecDepth 65536 in
theorem w_room : about1.hasRoom e0.platform room_1 = true :=
  launch0.hasRoom_least _ room_1 (by decide +kernel) (by decide +kernel) (by decide +kernel) (by decide +kernel) (by decide +kernel) (by decide +kernel)
theorem allAtoms_all (ts : List Jvm.Cond) (a : Array Jvm.Value) (st : Jvm.State) : (allAtoms ts).before a st = ts.all (fun c => c.before a st) := by
  induction ts with
  | nil => rfl
  | cons c t ih =>
    show (Jvm.Cond.and c (allAtoms t)).before a st = _
    rw [Jvm.Cond.before_and, ih, List.all_cons]
def words1 : List Jvm.Cond := Jvm.Cond.code x code maxLocals ret :: tables_1
/-- a 'code' word, met by the world's own term for the bytes: nothing is compared byte by byte -/
theorem code_word {y : MethodName} {bytes : ByteArray} {mx : Nat} {rt : Option FieldType} {a : Array Value} {s : State} {m : MethodId} {meth : Method} {c : Code} (h1 : s.methodNamed? y = some m) (h2 : s.vm.method? m = some meth) (h3 : meth.code = some c) (h4 : c.code = bytes)
    (h5 : (c.maxLocals == mx && c.exceptionTable.isEmpty && decide (c.maxStack ≤ mostOperands) && decide (meth.sig.returnType = rt) && !meth.locks && decide (parseMethodDescriptor y.desc = some meth.sig)) = true) : (Jvm.Cond.code y bytes mx rt).before a s = true := by
  simp only [Bool.and_eq_true, beq_iff_eq, Bool.not_eq_true', decide_eq_true_eq] at h5
  obtain ⟨⟨⟨⟨⟨g1, g2⟩, g3⟩, g4⟩, g5⟩, g6⟩ := h5
  simp [Cond.before, Cond.holds, Cond.value, h1, h2, h3, h4, g1, g2, g3, g4, g5, g6]
def isCode : Jvm.Cond → Bool
  | .code _ _ _ _ => true
  | _ => false
theorem all_split {L : List Jvm.Cond} {P : Jvm.Cond → Bool} (h1 : L.all (fun c => isCode c || P c) = true) (h2 : ∀ c ∈ L.filter isCode, P c = true) : L.all P = true := by
  refine List.all_eq_true.mpr fun c hc => ?_
  have h := List.all_eq_true.mp h1 c hc
  rcases Bool.eq_false_or_eq_true (isCode c) with hi | hi
  · exact h2 c (List.mem_filter.mpr ⟨hc, hi⟩)
  · simpa [hi] using h
set_option maxRecDepth 65536 in
theorem w_c0 : (Jvm.Cond.code x code maxLocals ret).before args0 about1 = true := code_word (m := ⟨1, 1⟩) (meth := k1m1) (c := k1c1) (by decide +kernel) rfl rfl rfl (by decide +kernel)
set_option maxRecDepth 65536 in
theorem w_c1 : (Jvm.Cond.code ({ cls := "java/lang/Math", name := "max", desc := "(II)I" } : Jvm.MethodName) jdk_29_method_65_code (2 : Nat) (Option.some Jvm.ClassFile.FieldType.int)).before args0 about1 = true := code_word (m := ⟨2, 1⟩) (meth := k2m1) (c := k2c1) (by decide +kernel) rfl rfl rfl (by decide +kernel)
set_option maxRecDepth 65536 in
theorem w_c2 : (Jvm.Cond.code ({ cls := "com/example/baris/baris/engine/query/Fuzziness", name := "<init>", desc := "(IZI)V" } : Jvm.MethodName) prog_48_method_1_code (4 : Nat) (Option.none : Option Jvm.ClassFile.FieldType)).before args0 about1 = true := code_word (m := ⟨4, 0⟩) (meth := k4m0) (c := k4c0) (by decide +kernel) rfl rfl rfl (by decide +kernel)
set_option maxRecDepth 65536 in
theorem w_c3 : (Jvm.Cond.code ({ cls := "java/lang/Record", name := "<init>", desc := "()V" } : Jvm.MethodName) jdk_30_method_1_code (1 : Nat) (Option.none : Option Jvm.ClassFile.FieldType)).before args0 about1 = true := code_word (m := ⟨3, 0⟩) (meth := k3m0) (c := k3c0) (by decide +kernel) rfl rfl rfl (by decide +kernel)
set_option maxRecDepth 65536 in
theorem w_c4 : (Jvm.Cond.code ({ cls := "java/lang/Object", name := "<init>", desc := "()V" } : Jvm.MethodName) object_method_1_code (1 : Nat) (Option.none : Option Jvm.ClassFile.FieldType)).before args0 about1 = true := code_word (m := ⟨0, 0⟩) (meth := k0m0) (c := k0c0) (by decide +kernel) rfl rfl rfl (by decide +kernel)
set_option maxRecDepth 65536 in
theorem w_c5 : (Jvm.Cond.code ({ cls := "com/example/baris/baris/engine/query/Fuzziness", name := "editsFor", desc := "(I)I" } : Jvm.MethodName) prog_48_method_3_code (3 : Nat) (Option.some Jvm.ClassFile.FieldType.int)).before args0 about1 = true := code_word (m := ⟨4, 1⟩) (meth := k4m1) (c := k4c1) (by decide +kernel) rfl rfl rfl (by decide +kernel)
def codes1 : List Jvm.Cond := [Jvm.Cond.code x code maxLocals ret, Jvm.Cond.code ({ cls := "java/lang/Math", name := "max", desc := "(II)I" } : Jvm.MethodName) jdk_29_method_65_code (2 : Nat) (Option.some Jvm.ClassFile.FieldType.int), Jvm.Cond.code ({ cls := "com/example/baris/baris/engine/query/Fuzziness", name := "<init>", desc := "(IZI)V" } : Jvm.MethodName) prog_48_method_1_code (4 : Nat) (Option.none : Option Jvm.ClassFile.FieldType), Jvm.Cond.code ({ cls := "java/lang/Record", name := "<init>", desc := "()V" } : Jvm.MethodName) jdk_30_method_1_code (1 : Nat) (Option.none : Option Jvm.ClassFile.FieldType), Jvm.Cond.code ({ cls := "java/lang/Object", name := "<init>", desc := "()V" } : Jvm.MethodName) object_method_1_code (1 : Nat) (Option.none : Option Jvm.ClassFile.FieldType), Jvm.Cond.code ({ cls := "com/example/baris/baris/engine/query/Fuzziness", name := "editsFor", desc := "(I)I" } : Jvm.MethodName) prog_48_method_3_code (3 : Nat) (Option.some Jvm.ClassFile.FieldType.int)]
set_option maxRecDepth 65536 in
theorem codes_eq : words1.filter isCode = codes1 := rfl
theorem w_codes : ∀ c ∈ words1.filter isCode, c.before args0 about1 = true := by
  rw [codes_eq]
  intro c hc
  simp only [codes1, List.mem_cons, List.not_mem_nil, or_false] at hc
  rcases hc with rfl | rfl | rfl | rfl | rfl | rfl
  · exact w_c0
  · exact w_c1
  · exact w_c2
  · exact w_c3
  · exact w_c4
  · exact w_c5
set_option maxRecDepth 65536 in
theorem w_t1 : (words1.take 24).all (fun c => isCode c || c.before args0 about1) = true := by decide +kernel
set_option maxRecDepth 65536 in
theorem w_t2 : (words1.drop 24).all (fun c => isCode c || c.before args0 about1) = true := by decide +kernel
theorem w_tables : (allAtoms (Jvm.Cond.code x code maxLocals ret :: tables_1)).before args0 about1 = true := by
  rw [allAtoms_all]
  show words1.all (fun c => c.before args0 about1) = true
  refine all_split ?_ w_codes
  rw [← List.take_append_drop 24 words1, List.all_append, w_t1, w_t2]
  rfl
set_option maxRecDepth 65536 in
theorem w_case : (Jvm.Cond.and given_1 narrow_1).before args0 about1 = true := by decide +kernel
theorem w_applies : (headSpec (Jvm.Cond.code x code maxLocals ret :: tables_1) room_1).applies x e0.platform about1 = true :=
  (Spec.applies_iff w_frames).mpr ⟨w_running, w_runnable, w_alone, w_named, w_hears, w_ripe, w_room, w_tables⟩
theorem atStart : AtStart classFile x code maxLocals ret World_1 tables_1 room_1 Calls_1 rest_1 Pre_1 launch0 p0 e0 about1 theMethod args0 below0 :=
  ⟨lists_1, trivial, launch0.admits_env _ _ _, launch0.least_env, fairChoices_fair.cas, fairChoices_fair.clock, w_frames, w_args, w_heap, w_applies, trivial, trivial, w_case⟩
end start1
theorem witness_1 : WitnessClaimed_1 := ⟨start1.p0, start1.e0, start1.about1, start1.theMethod, start1.args0, start1.below0, start1.atStart⟩
end Jvm.Pilot.@@N@@
