import JvmDerived
import JvmDerived.Pilot.@@N@@Statement
import JvmDerived.Pilot.@@N@@Code
set_option linter.unusedVariables false
set_option linter.unusedSimpArgs false
namespace Jvm.RoadKit
open Sem ClassFile Op Lib Jvm.Stand Jvm.Free Jvm.LawKit
section New
variable {p : Program} {l : Launch} {e : Env} {R : Room} {s : State} {m : MethodId} {args : Array Value} {below : List Frame} {meth : Method} {c : Code} {T : State} {locs : List Loc} {cells slots : Nat}
theorem retI (X : Stand p l e R s m args below meth c T locs cells slots) (hx : p.tables.exec = Jvm.exec) {pc : Nat} {Ls : Array Slot} {z : Int32} {rest : List Value} (hret : meth.sig.returnType = some .int) (hd : decode c.code pc = .ok (.ireturn, 1)) {fs : List Frame}
    (hl : ∀ (f : JFrame) (acts : List Action), f.method = m → f.locked = none → f.entered = [] → (doReturn e (T.setTop f) acts (some (.int z))).1 = T.setFrames fs) : Steps p.tables e below (T.setTop (mkF m pc Ls (.int z :: rest))) (T.setFrames fs) := by
  have hm' : T.vm.method? m = some meth := X.method'
  have hn : narrow .int (.int z) = .int z := rfl
  show Steps p.tables e below (T.setTop { method := m, pc := pc, locals := Ls, stack := _ :: rest, locked := none }) _
  jvm_step X.here [X.here.top, hx, hd, hm', hret, hn]
  first | (intro acts; rw [hl _ acts rfl rfl rfl]) | rw [hl _ _ rfl rfl rfl]
  exact Steps.refl _
end New
end Jvm.RoadKit
namespace Jvm.Pilot.@@N@@
open Jvm Jvm.ClassFile Sem Op Lib Jvm.Free Jvm.Stand Jvm.LawKit Jvm.RoadKit Bundle Jvm.Pilot.@@N@@.Jvm.D
section OwnRun
variable {p : Program} {l : Launch} {e : Env} {R : Room} {s : State} {m : MethodId} {args : Array Value} {below : List Frame} {meth : Method} {c : Code} {T T' : State} {locs : List Loc} {cells slots : Nat} {Q : Option Value → Heap → List Loc → Prop} {C S : Nat}
/-- from T with the frame g on top the body comes to its end, and what it leaves is as Q says -/
def ORun (p : Program) (e : Env) (below : List Frame) (s : State) (Q : Option Value → Heap → List Loc → Prop) (C S : Nat) (T : State) (g : JFrame) : Prop :=
  ∃ s₂ o, Steps p.tables e below (T.setTop g) s₂ ∧ s₂.status = .running ∧ Ended s₂ below o ∧ ∃ v L, o = .returned v ∧ Q v s₂.heap L ∧ FrameEnd s o s₂ L C S
theorem own_by {g g' : JFrame} (st : ∀ t, Steps p.tables e below (T'.setTop g') t → Steps p.tables e below (T.setTop g) t) (h : ORun p e below s Q C S T' g') : ORun p e below s Q C S T g := by
  obtain ⟨s₂, o, h1, h2⟩ := h
  exact ⟨s₂, o, st _ h1, h2⟩
theorem own_tr {g g' : JFrame} (st : Steps p.tables e below (T.setTop g) (T'.setTop g')) (h : ORun p e below s Q C S T' g') : ORun p e below s Q C S T g := own_by (fun _ k => st.trans k) h
theorem own_letI (x : Int32) {f : Int32 → JFrame} (h : ∀ v, v = x → ORun p e below s Q C S T (f v)) : ORun p e below s Q C S T (f x) := h x rfl
theorem own_letJ (x : Int64) {f : Int64 → JFrame} (h : ∀ v, v = x → ORun p e below s Q C S T (f v)) : ORun p e below s Q C S T (f x) := h x rfl
theorem own_retI (X : Stand p l e R s m args below meth c T locs cells slots) (hx : p.tables.exec = Jvm.exec) {pc : Nat} {Ls : Array Slot} {z : Int32} {rest : List Value} (hret : meth.sig.returnType = some .int) (hlk : meth.locks = false) (hd : decode c.code pc = .ok (.ireturn, 1)) (hc : cells ≤ C) (hs : slots ≤ S) (hQ : Q (some (.int z)) T.heap locs) :
    ORun p e below s Q C S T (mkF m pc Ls (.int z :: rest)) := by
  obtain ⟨fs, hr, hrun, hended, hW, hsame⟩ := X.leave (v := some (.int z)) (fun h => by rw [hret] at h; cases h) hlk
  exact ⟨_, _, retI X hx hret hd hr, hrun, hended, _, _, rfl, hQ, ⟨_, rfl⟩, hW, hsame.mono hc hs⟩
theorem own_retN (X : Stand p l e R s m args below meth c T locs cells slots) (hx : p.tables.exec = Jvm.exec) {pc : Nat} {Ls : Array Slot} {z : Int32} {t : FieldType} {rest : List Value} (hret : meth.sig.returnType = some t) (ht : t = .boolean ∨ t = .byte ∨ t = .char ∨ t = .short) (hlk : meth.locks = false) (hd : decode c.code pc = .ok (.ireturn, 1)) (hc : cells ≤ C) (hs : slots ≤ S) (hQ : Q (some (.int (nar t z))) T.heap locs) :
    ORun p e below s Q C S T (mkF m pc Ls (.int z :: rest)) := by
  obtain ⟨fs, hr, hrun, hended, hW, hsame⟩ := X.leave (v := some (.int (nar t z))) (fun h => by rw [hret] at h; cases h) hlk
  exact ⟨_, _, retN X hx hret ht hd hr, hrun, hended, _, _, rfl, hQ, ⟨_, rfl⟩, hW, hsame.mono hc hs⟩
theorem own_retJ (X : Stand p l e R s m args below meth c T locs cells slots) (hx : p.tables.exec = Jvm.exec) {pc : Nat} {Ls : Array Slot} {z : Int64} (hret : meth.sig.returnType = some .long) (hlk : meth.locks = false) (hd : decode c.code pc = .ok (.lreturn, 1)) (hc : cells ≤ C) (hs : slots ≤ S) (hQ : Q (some (.long z)) T.heap locs) :
    ORun p e below s Q C S T (mkF m pc Ls [.long z]) := by
  obtain ⟨fs, hr, hrun, hended, hW, hsame⟩ := X.leave (v := some (.long z)) (fun h => by rw [hret] at h; cases h) hlk
  exact ⟨_, _, X.lreturnOut hx hret hd hr, hrun, hended, _, _, rfl, hQ, ⟨_, rfl⟩, hW, hsame.mono hc hs⟩
theorem own_retA (X : Stand p l e R s m args below meth c T locs cells slots) (hx : p.tables.exec = Jvm.exec) {pc : Nat} {Ls : Array Slot} {z : Value} {t : FieldType} {rest : List Value} (hret : meth.sig.returnType = some t) (ht : t.isReference = true) (hz : z.isRef = true) (hn : narrow t z = z) (hlk : meth.locks = false) (hd : decode c.code pc = .ok (.areturn, 1)) (hc : cells ≤ C) (hs : slots ≤ S) (hQ : Q (some z) T.heap locs) :
    ORun p e below s Q C S T (mkF m pc Ls (z :: rest)) := by
  obtain ⟨fs, hr, hrun, hended, hW, hsame⟩ := X.leave (v := some z) (fun h => by rw [hret] at h; cases h) hlk
  exact ⟨_, _, retOut X hx hret hn (Or.inr (Or.inr (Or.inr (Or.inr ⟨rfl, ht, hz⟩)))) hd hr, hrun, hended, _, _, rfl, hQ, ⟨_, rfl⟩, hW, hsame.mono hc hs⟩
theorem own_retV (X : Stand p l e R s m args below meth c T locs cells slots) (hx : p.tables.exec = Jvm.exec) {pc : Nat} {Ls : Array Slot} (hret : meth.sig.returnType = none) (hlk : meth.locks = false) (hd : decode c.code pc = .ok (.return_, 1)) (hc : cells ≤ C) (hs : slots ≤ S) (hQ : Q none T.heap locs) :
    ORun p e below s Q C S T (mkF m pc Ls []) := by
  obtain ⟨fs, hr, hrun, hended, hW, hsame⟩ := X.leave (v := none) (fun _ => rfl) hlk
  exact ⟨_, _, X.returnOut hx hret hd hr, hrun, hended, _, _, rfl, hQ, ⟨_, rfl⟩, hW, hsame.mono hc hs⟩
/-- a body's contract: called with as at the heap h (tables as at Z) it returns, and what it leaves is as Q says -/
abbrev OMet (l : Launch) (y : MethodName) (bytes : ByteArray) (maxL : Nat) (ret : Option FieldType) (ws : List Jvm.Cond) (rm : Room) (as' : Array Value) (Z : State) (h : Heap) (Q : Option Value → Heap → List Loc → Prop) : Prop :=
  MetFree l y (head1 (Jvm.Cond.code y bytes maxL ret :: ws) rm) (fun a U => a = as' ∧ Z.Warmed39 U.vm ∧ U.heap = h) (fun _ _ _ _ _ => True) (fun _ U o U' => ∃ v L, o = .returned v ∧ Q v U'.heap L ∧ FrameEnd U o U' L rm.cells rm.slots)
theorem own_met {y : MethodName} {bytes : ByteArray} {maxL : Nat} {ret : Option FieldType} {ws : List Jvm.Cond} {rm : Room} {as' : Array Value} {Z : State} {h : Heap} {Q : Option Value → Heap → List Loc → Prop} (hpn : plainFor y = true)
    (body : ∀ p e s m below meth c s₁, Stand p l e rm s m as' below meth c s₁ [] 0 0 → p.tables.exec = Jvm.exec → c.code = bytes → c.maxLocals = maxL → s.vm.findClass y.cls = some m.cls → meth.name = y.name → meth.sig.returnType = ret → meth.locks = false → Z.Warmed39 s.vm → s₁.heap = h →
      ORun p e below s Q rm.cells rm.slots s₁ (entryFrame m as' maxL)) : OMet l y bytes maxL ret ws rm as' Z h Q := by
  refine MetFree.of_bodySF hpn hisR ?_
  intro p e s m args below meth c s₁ Bd hml0 hP hK
  obtain ⟨rfl, hZ, hh⟩ := hP
  exact body p e s m below meth c s₁ (Stand.of_body Bd) Bd.exec Bd.bytes hml0 (findClass_of_methodNamed Bd.named) (name_of_methodNamed Bd.named Bd.method).1 Bd.returns Bd.notSynchronized hZ (by rw [← hh, Bd.state]; rfl)
section Calls
variable {Z : State} {a0 : Array Value} {h : Heap} {own : String} {index : Nat} {y z : MethodName} {bytes : ByteArray} {maxL : Nat} {ret : Option FieldType} {rm : Room} {as' : Array Value} {Qc : Option Value → Heap → List Loc → Prop} {W pc : Nat} {Ls : Array Slot} {st argsL rest : List Value}
theorem own_callS (X : Stand p l e R s m args below meth c T locs cells slots) (hx : p.tables.exec = Jvm.exec) (hZ : Z.Warmed39 s.vm) (hown : s.vm.findClass own = some m.cls) (w1 : (Jvm.Cond.methodLink own index y).before a0 Z = true) (w2 : (Jvm.Cond.static y).before a0 Z = true) (w3 : (Jvm.Cond.initialized y.cls).before a0 Z = true) (w4 : (Jvm.Cond.code y bytes maxL ret).before a0 Z = true)
    (hy : y.cls ≠ "java/lang/invoke/MethodHandle" ∧ y.cls ≠ "java/lang/invoke/VarHandle") (M : OMet l y bytes maxL ret [] rm as' Z h Qc) (eT : T.heap = h) (hf : rm.frames + 1 ≤ R.frames) (hl : W + (maxL + 11) + rm.locals ≤ R.locals) (hc : cells + rm.cells ≤ R.cells) (hs : slots + rm.slots ≤ R.slots)
    (hsz : Ls.size = c.maxLocals) (hlen : ∀ sig, parseMethodDescriptor y.desc = some sig → argsL.length = sig.parameters.length) (hst : st = argsL.reverse ++ rest) (has : argsL.toArray = as') (hW : 2 * 0 + (rest.map fun v => v.category).sum ≤ W) (hd : decode c.code pc = .ok (.invokestatic index, 3))
    (K : ∀ T' L v, Stand p l e R s m args below meth c T' (locs ++ L) (cells + rm.cells) (slots + rm.slots) → Qc v T'.heap L → ORun p e below s Q C S T' (mkF m (pc + 3) Ls (v.toList ++ rest))) : ORun p e below s Q C S T (mkF m pc Ls st) := by
  obtain ⟨v, _, ⟨T', L', k', n'⟩, -, X', ⟨Lc, hQ, e1, e2, e3⟩, stp⟩ := Jvm.LawKit.callS X hx (y := y) hown (mvT hZ w1) (mvT hZ w2) (mvT hZ w3) (mvT hZ w4) hy (backOf (W := W) M hZ w4 w3 hf hl) (g := mkF m pc Ls st) rfl hsz (argsL := argsL) (rest := rest) hlen hst hW hd (fun _ _ => ⟨has, eT, hc, hs⟩)
  dsimp only [Pt.U, Pt.locs, Pt.cells, Pt.slots] at X' e1 e2 e3 stp hQ
  subst e1 e2 e3
  exact own_by stp (K T' Lc v X' hQ)
theorem own_callC (X : Stand p l e R s m args below meth c T locs cells slots) (hx : p.tables.exec = Jvm.exec) (hZ : Z.Warmed39 s.vm) (hown : s.vm.findClass own = some m.cls) (hn : y.name = "<init>") (w1 : (Jvm.Cond.methodLink own index y).before a0 Z = true) (w2 : (Jvm.Cond.instanceMethod y).before a0 Z = true) (w3 : (Jvm.Cond.initialized y.cls).before a0 Z = true) (w4 : (Jvm.Cond.code y bytes maxL none).before a0 Z = true)
    (hy : y.cls ≠ "java/lang/invoke/MethodHandle" ∧ y.cls ≠ "java/lang/invoke/VarHandle") (M : OMet l y bytes maxL none [] rm as' Z h Qc) (eT : T.heap = h) (hf : rm.frames + 1 ≤ R.frames) (hl : W + (maxL + 11) + rm.locals ≤ R.locals) (hc : cells + rm.cells ≤ R.cells) (hs : slots + rm.slots ≤ R.slots)
    {b : Addr} (hsz : Ls.size = c.maxLocals) (hlen : ∀ sig, parseMethodDescriptor y.desc = some sig → argsL.length = sig.parameters.length) (hst : st = argsL.reverse ++ .ref b :: rest) (has : (.ref b :: argsL).toArray = as') (hW : 2 * 0 + (rest.map fun v => v.category).sum ≤ W) (hd : decode c.code pc = .ok (.invokespecial index, 3))
    (K : ∀ T' L v, Stand p l e R s m args below meth c T' (locs ++ L) (cells + rm.cells) (slots + rm.slots) → Qc v T'.heap L → ORun p e below s Q C S T' (mkF m (pc + 3) Ls (v.toList ++ rest))) : ORun p e below s Q C S T (mkF m pc Ls st) := by
  obtain ⟨v, _, ⟨T', L', k', n'⟩, -, X', ⟨Lc, hQ, e1, e2, e3⟩, stp⟩ := X.specialBack hx (y := y) hn hown (mvT hZ w1) (mvT hZ w2) (mvT hZ w4) hy (backOf (W := W) M hZ w4 w3 hf hl) (g := mkF m pc Ls st) rfl hsz (Steps.refl _) (a := b) (argsL := argsL) (rest := rest) hlen hst hW hd (fun _ _ => ⟨has, eT, hc, hs⟩)
  dsimp only [Pt.U, Pt.locs, Pt.cells, Pt.slots] at X' e1 e2 e3 stp hQ
  subst e1 e2 e3
  exact own_tr stp (K T' Lc v X' hQ)
theorem own_callV (X : Stand p l e R s m args below meth c T locs cells slots) (hx : p.tables.exec = Jvm.exec) (hZ : Z.Warmed39 s.vm) (hown : s.vm.findClass own = some m.cls) {Cn : String} {b : Addr} (E : Exa Z h b Cn) (w1 : (Jvm.Cond.methodLink own index y).before a0 Z = true) (wd : (Jvm.Cond.declares y).before a0 Z = true) (nf : NotFace s y) (ws : (Jvm.Cond.selects Cn y z).before a0 Z = true) (w2 : (Jvm.Cond.instanceMethod z).before a0 Z = true) (w3 : (Jvm.Cond.initialized z.cls).before a0 Z = true) (w4 : (Jvm.Cond.code z bytes maxL ret).before a0 Z = true)
    (hy : y.cls ≠ "java/lang/invoke/MethodHandle" ∧ y.cls ≠ "java/lang/invoke/VarHandle") (M : OMet l z bytes maxL ret [] rm as' Z h Qc) (eT : T.heap = h) (hf : rm.frames + 1 ≤ R.frames) (hl : W + (maxL + 11) + rm.locals ≤ R.locals) (hc : cells + rm.cells ≤ R.cells) (hs : slots + rm.slots ≤ R.slots)
    (hsz : Ls.size = c.maxLocals) (hlen : ∀ sig, parseMethodDescriptor y.desc = some sig → argsL.length = sig.parameters.length) (hst : st = argsL.reverse ++ .ref b :: rest) (has : (.ref b :: argsL).toArray = as') (hW : 2 * 0 + (rest.map fun v => v.category).sum ≤ W) (hd : decode c.code pc = .ok (.invokevirtual index, 3))
    (K : ∀ T' L v, Stand p l e R s m args below meth c T' (locs ++ L) (cells + rm.cells) (slots + rm.slots) → Qc v T'.heap L → ORun p e below s Q C S T' (mkF m (pc + 3) Ls (v.toList ++ rest))) : ORun p e below s Q C S T (mkF m pc Ls st) := by
  obtain ⟨cq, kq, qa, qb, qc⟩ := isOf hZ eT E
  obtain ⟨v, _, ⟨T', L', k', n'⟩, -, X', ⟨Lc, hQ, e1, e2, e3⟩, stp⟩ := X.virtualBack hx (y := y) (z := z) hown (mvT hZ w1) (mvT hZ wd) nf (mvT hZ ws) (mvT hZ w2) hy (backOf (W := W) M hZ w4 w3 hf hl) qa qc (g := mkF m pc Ls st) rfl hsz (Steps.refl _) (argsL := argsL) (rest := rest) hlen hst hW hd (fun _ _ => ⟨has, eT, hc, hs⟩)
  dsimp only [Pt.U, Pt.locs, Pt.cells, Pt.slots] at X' e1 e2 e3 stp hQ
  subst e1 e2 e3
  exact own_tr stp (K T' Lc v X' hQ)
end Calls
end OwnRun
theorem own_lt {x y : Int32} {a b : Int} (h : x < y) (ha : x.toInt = a) (hb : y.toInt = b) : a < b := by subst ha hb; exact Int32.lt_iff_toInt_lt.mp h
theorem own_nlt {x y : Int32} {a b : Int} (h : ¬ x < y) (ha : x.toInt = a) (hb : y.toInt = b) : b ≤ a := by subst ha hb; exact Int.not_lt.mp fun q => h (Int32.lt_iff_toInt_lt.mpr q)
theorem own_eq {x y : Int32} {a b : Int} (h : x = y) (ha : x.toInt = a) (hb : y.toInt = b) : a = b := by subst ha hb h; rfl
theorem own_ne {x y : Int32} {a b : Int} (h : ¬ x = y) (ha : x.toInt = a) (hb : y.toInt = b) : a ≠ b := by subst ha hb; exact fun q => h (Int32.toInt_inj.mp q)
theorem own_ltL {x y : Int64} {a b : Int} (h : x < y) (ha : x.toInt = a) (hb : y.toInt = b) : a < b := by subst ha hb; exact Int64.lt_iff_toInt_lt.mp h
theorem own_nltL {x y : Int64} {a b : Int} (h : ¬ x < y) (ha : x.toInt = a) (hb : y.toInt = b) : b ≤ a := by subst ha hb; exact Int.not_lt.mp fun q => h (Int64.lt_iff_toInt_lt.mpr q)
theorem own_eqL {x y : Int64} {a b : Int} (h : x = y) (ha : x.toInt = a) (hb : y.toInt = b) : a = b := by subst ha hb h; rfl
theorem own_neL {x y : Int64} {a b : Int} (h : ¬ x = y) (ha : x.toInt = a) (hb : y.toInt = b) : a ≠ b := by subst ha hb; exact fun q => h (Int64.toInt_inj.mp q)
theorem own_lc {cd : ClassFile.Cond} {x y : Int64} {b : Bool} (h : if_icmp.holds cd (lcmpW x y) 0 = b) : ifCond.holds cd (lcmpW x y) = b := (if0 _ _).trans h
theorem own_lclt {x y : Int64} (h : x < y) : ifCond.holds .lt (lcmpW x y) = true ∧ ifCond.holds .ge (lcmpW x y) = false := ⟨own_lc (tlt ((lw_lt x y).mpr h)).1, own_lc (tlt ((lw_lt x y).mpr h)).2.1⟩
theorem own_lcnlt {x y : Int64} (h : ¬ x < y) : ifCond.holds .lt (lcmpW x y) = false ∧ ifCond.holds .ge (lcmpW x y) = true := have q : ¬ lcmpW x y < 0 := fun z => h ((lw_lt x y).mp z); ⟨own_lc (flt q).1, own_lc (flt q).2.1⟩
theorem own_lcgt {x y : Int64} (h : y < x) : ifCond.holds .gt (lcmpW x y) = true ∧ ifCond.holds .le (lcmpW x y) = false := ⟨own_lc (tlt ((lw_gt x y).mpr h)).2.2.1, own_lc (tlt ((lw_gt x y).mpr h)).2.2.2⟩
theorem own_lcngt {x y : Int64} (h : ¬ y < x) : ifCond.holds .gt (lcmpW x y) = false ∧ ifCond.holds .le (lcmpW x y) = true := have q : ¬ 0 < lcmpW x y := fun z => h ((lw_gt x y).mp z); ⟨own_lc (flt q).2.2.1, own_lc (flt q).2.2.2⟩
theorem own_lceq {x y : Int64} (h : x = y) : ifCond.holds .eq (lcmpW x y) = true ∧ ifCond.holds .ne (lcmpW x y) = false := ⟨own_lc (teq ((lw_eq x y).mpr h)).1, own_lc (teq ((lw_eq x y).mpr h)).2⟩
theorem own_lcne {x y : Int64} (h : ¬ x = y) : ifCond.holds .eq (lcmpW x y) = false ∧ ifCond.holds .ne (lcmpW x y) = true := have q : ¬ lcmpW x y = 0 := fun z => h ((lw_eq x y).mp z); ⟨own_lc (feq q).1, own_lc (feq q).2⟩
theorem own_kext {h0 h : Heap} (K : Keep h0 h []) : Ext h0 h := ⟨K.1, fun a c q => K.2.1 a c q nin0⟩
theorem pd_0 : parseMethodDescriptor "()V" = some ⟨[], none⟩ := by decide +kernel
theorem pd_1 : parseMethodDescriptor "(II)V" = some ⟨[.int, .int], none⟩ := by decide +kernel
theorem pd_2 : parseMethodDescriptor "()Lcom/example/hold1/hold1/Disk$Place;" = some ⟨[], some (.object "com/example/hold1/hold1/Disk$Place")⟩ := by decide +kernel
theorem pd_3 : parseMethodDescriptor "()I" = some ⟨[], some .int⟩ := by decide +kernel
theorem d2_0 : decode jdk_30_method_1_code 0 = .ok (.aload_n 0, 1) := by decide +kernel
theorem d2_1 : decode jdk_30_method_1_code 1 = .ok (.invokespecial 1, 3) := by decide +kernel
theorem d2_4 : decode jdk_30_method_1_code 4 = .ok (.return_, 1) := by decide +kernel
theorem pn_rm2 : plainName "java/lang/Record" = true := by first | (simp [plainName, overriddenIn]; done) | decide +kernel
theorem ef_rm2 (m : MethodId) (x0 : Addr) : entryFrame m #[(.ref x0)] 1 = mkF m 0 #[.val (.ref x0)] [] := by first | (simp [entryFrame, mkF, argsToLocals, Value.category]; done) | rfl
set_option maxRecDepth 65536 in
set_option maxHeartbeats 40000000 in
theorem rm2 (l : Launch) (Z : State) (a0 : Array Value) (hw : ∀ d ∈ tables_1, d.before a0 Z = true) (ws : List Jvm.Cond) (h0 : Heap) (n0 : Nat) (Z0 : n0 ≤ h0.size) (a1 : Addr) :
    OMet l (⟨"java/lang/Record", "<init>", "()V"⟩ : MethodName) jdk_30_method_1_code 1 none ws ({ frames := 1, cells := 0, slots := 0, locals := 12 } : Room) #[(.ref a1)] Z h0 (fun v h L => v = none ∧ Fr n0 L ∧ h = h0) := by
  refine own_met (plainFor_of_name pn_rm2) ?_
  intro p e s m below meth c s₁ X0 hx hby hml hown hnm hret hlk hZ e0
  rw [ef_rm2]
  have N0 := Fr.nil n0
  show ORun p e below s _ _ _ s₁ (mkF m 0 #[.val (.ref a1)] [])
  refine own_by (fun t k => XS.aloadN X0.here hx rfl (hb hby d2_0) rfl rfl k) ?_
  show ORun p e below s _ _ _ s₁ (mkF m 1 #[.val (.ref a1)] [(.ref a1)])
  obtain ⟨T1, X1, e1, st1⟩ := initO X0 hx hZ hown (hw _ (List.mem_of_getElem? (i := 11) rfl)) (hw _ (List.mem_of_getElem? (i := 12) rfl)) (hw _ (List.mem_of_getElem? (i := 13) rfl)) e0 (g := (mkF m 1 #[.val (.ref a1)] [(.ref a1)])) rfl (by rw [hml]; rfl) rfl (hb hby d2_1) (by decide) (W := 0) (by show 2 * 0 + _ ≤ _; exact Nat.le_of_eq rfl) (by decide)
  refine own_by st1 ?_
  show ORun p e below s _ _ _ T1 (mkF m 4 #[.val (.ref a1)] [])
  refine own_retV X1 hx hret hlk (hb hby d2_4) (by decide) (by decide) ?_
  exact ⟨rfl, N0, e1⟩
theorem d1_0 : decode prog_13_method_1_code 0 = .ok (.aload_n 0, 1) := by decide +kernel
theorem d1_1 : decode prog_13_method_1_code 1 = .ok (.invokespecial 1, 3) := by decide +kernel
theorem d1_4 : decode prog_13_method_1_code 4 = .ok (.aload_n 0, 1) := by decide +kernel
theorem d1_5 : decode prog_13_method_1_code 5 = .ok (.iload_n 1, 1) := by decide +kernel
theorem d1_6 : decode prog_13_method_1_code 6 = .ok (.putfield 7, 3) := by decide +kernel
theorem d1_9 : decode prog_13_method_1_code 9 = .ok (.aload_n 0, 1) := by decide +kernel
theorem d1_10 : decode prog_13_method_1_code 10 = .ok (.iload_n 2, 1) := by decide +kernel
theorem d1_11 : decode prog_13_method_1_code 11 = .ok (.putfield 13, 3) := by decide +kernel
theorem d1_14 : decode prog_13_method_1_code 14 = .ok (.return_, 1) := by decide +kernel
theorem pn_rm1 : plainName "com/example/hold1/hold1/Disk$Place" = true := by first | (simp [plainName, overriddenIn]; done) | decide +kernel
theorem ef_rm1 (m : MethodId) (x0 : Addr) (x1 : Int32) (x2 : Int32) : entryFrame m #[(.ref x0), (.int x1), (.int x2)] 3 = mkF m 0 #[.val (.ref x0), .val (.int x1), .val (.int x2)] [] := by first | (simp [entryFrame, mkF, argsToLocals, Value.category]; done) | rfl
set_option maxRecDepth 65536 in
set_option maxHeartbeats 40000000 in
theorem rm1 (l : Launch) (Z : State) (a0 : Array Value) (hw : ∀ d ∈ tables_1, d.before a0 Z = true) (ws : List Jvm.Cond) (h0 : Heap) (n0 : Nat) (Z0 : n0 ≤ h0.size) (a1 : Addr) (p2 p3 : Int32) (E_a1 : Exa Z h0 a1 "com/example/hold1/hold1/Disk$Place") (g_a1 : n0 ≤ a1) (F_pair_a1 : Fld Z h0 a1 "com/example/hold1/hold1/Disk$Place" "pair" "I" (.int (0 : Int32))) (F_index_a1 : Fld Z h0 a1 "com/example/hold1/hold1/Disk$Place" "index" "I" (.int (0 : Int32))) :
    OMet l (⟨"com/example/hold1/hold1/Disk$Place", "<init>", "(II)V"⟩ : MethodName) prog_13_method_1_code 3 none ws ({ frames := 2, cells := 0, slots := 0, locals := 24 } : Room) #[(.ref a1), (.int p2), (.int p3)] Z h0 (fun v h L => v = none ∧ Fr n0 L ∧ Keep h0 h [a1] ∧ Exa Z h a1 "com/example/hold1/hold1/Disk$Place" ∧ Fld Z h a1 "com/example/hold1/hold1/Disk$Place" "pair" "I" (.int p2) ∧ Fld Z h a1 "com/example/hold1/hold1/Disk$Place" "index" "I" (.int p3)) := by
  refine own_met (plainFor_of_name pn_rm1) ?_
  intro p e s m below meth c s₁ X0 hx hby hml hown hnm hret hlk hZ e0
  rw [ef_rm1]
  have N0 := Fr.nil n0
  show ORun p e below s _ _ _ s₁ (mkF m 0 #[.val (.ref a1), .val (.int p2), .val (.int p3)] [])
  refine own_by (fun t k => XS.aloadN X0.here hx rfl (hb hby d1_0) rfl rfl k) ?_
  show ORun p e below s _ _ _ s₁ (mkF m 1 #[.val (.ref a1), .val (.int p2), .val (.int p3)] [(.ref a1)])
  refine own_callC X0 hx hZ hown rfl (hw _ (List.mem_of_getElem? (i := 6) rfl)) (hw _ (List.mem_of_getElem? (i := 7) rfl)) (hw _ (List.mem_of_getElem? (i := 9) rfl)) (hw _ (List.mem_of_getElem? (i := 10) rfl)) (by decide) (rm2 l Z a0 hw [] h0 n0 Z0 a1) e0 (by decide) (W := 0) (by decide) (by decide) (by decide) (b := a1) (argsL := []) (rest := []) (by rw [hml]; rfl) (lenOf pd_0 rfl) rfl rfl (Nat.le_of_eq rfl) (hb hby d1_1) ?_
  intro T1 L1 u1 X1 hQ1
  obtain ⟨rfl, Nq1, e1⟩ := hQ1
  have N1 := Fr.app N0 Nq1
  show ORun p e below s _ _ _ T1 (mkF m 4 #[.val (.ref a1), .val (.int p2), .val (.int p3)] [])
  refine own_by (fun t k => XS.aloadN X1.here hx rfl (hb hby d1_4) rfl rfl k) ?_
  show ORun p e below s _ _ _ T1 (mkF m 5 #[.val (.ref a1), .val (.int p2), .val (.int p3)] [(.ref a1)])
  refine own_by (fun t k => XS.iloadN X1.here hx rfl (hb hby d1_5) rfl k) ?_
  show ORun p e below s _ _ _ T1 (mkF m 6 #[.val (.ref a1), .val (.int p2), .val (.int p3)] [(.int p2), (.ref a1)])
  obtain ⟨T2, h2, X2, e2, W2, st2⟩ := putF X1 hx hZ hown (host := "") (Or.inl (hw _ (List.mem_of_getElem? (i := 14) rfl))) Via.refl e1 F_pair_a1 E_a1 (Or.inr ⟨(hw _ (List.mem_of_getElem? (i := 15) rfl)), rfl, hnm⟩) (hw _ (List.mem_of_getElem? (i := 1) rfl)) (ty := .int) (by decide) rfl rfl (g := (mkF m 6 #[.val (.ref a1), .val (.int p2), .val (.int p3)] [(.int p2), (.ref a1)])) rfl rfl (hb hby d1_6)
  have Fw2 := Fld.same W2 F_pair_a1
  have N2 := Fr.snoc X2 N1 g_a1
  refine own_by st2 ?_
  show ORun p e below s _ _ _ T2 (mkF m 9 #[.val (.ref a1), .val (.int p2), .val (.int p3)] [])
  refine own_by (fun t k => XS.aloadN X2.here hx rfl (hb hby d1_9) rfl rfl k) ?_
  show ORun p e below s _ _ _ T2 (mkF m 10 #[.val (.ref a1), .val (.int p2), .val (.int p3)] [(.ref a1)])
  refine own_by (fun t k => XS.iloadN X2.here hx rfl (hb hby d1_10) rfl k) ?_
  show ORun p e below s _ _ _ T2 (mkF m 11 #[.val (.ref a1), .val (.int p2), .val (.int p3)] [(.int p3), (.ref a1)])
  obtain ⟨T3, h3, X3, e3, W3, st3⟩ := putF X2 hx hZ hown (host := "") (Or.inl (hw _ (List.mem_of_getElem? (i := 16) rfl))) Via.refl e2 (F_index_a1.other W2 (Or.inr (slot_ne (Or.inr (hw _ (List.mem_of_getElem? (i := 17) rfl))) (Or.inr (hw _ (List.mem_of_getElem? (i := 15) rfl))) (by decide) (t := .int) (t' := .int) (by decide) (by decide)))) (E_a1.wr W2) (Or.inr ⟨(hw _ (List.mem_of_getElem? (i := 17) rfl)), rfl, hnm⟩) (hw _ (List.mem_of_getElem? (i := 1) rfl)) (ty := .int) (by decide) rfl rfl (g := (mkF m 11 #[.val (.ref a1), .val (.int p2), .val (.int p3)] [(.int p3), (.ref a1)])) rfl rfl (hb hby d1_11)
  have Fw3 := Fld.same W3 (F_index_a1.other W2 (Or.inr (slot_ne (Or.inr (hw _ (List.mem_of_getElem? (i := 17) rfl))) (Or.inr (hw _ (List.mem_of_getElem? (i := 15) rfl))) (by decide) (t := .int) (t' := .int) (by decide) (by decide))))
  have N3 := Fr.snoc X3 N2 g_a1
  refine own_by st3 ?_
  show ORun p e below s _ _ _ T3 (mkF m 14 #[.val (.ref a1), .val (.int p2), .val (.int p3)] [])
  refine own_retV X3 hx hret hlk (hb hby d1_14) (by decide) (by decide) ?_
  rw [e3]
  exact ⟨rfl, N3, (((Keep.refl h0 [a1]).wr W2 (Or.inl (List.mem_of_getElem? (i := 0) rfl))).wr W3 (Or.inl (List.mem_of_getElem? (i := 0) rfl))), ((E_a1.wr W2).wr W3), (Fw2.other W3 (Or.inr (slot_ne (Or.inr (hw _ (List.mem_of_getElem? (i := 15) rfl))) (Or.inr (hw _ (List.mem_of_getElem? (i := 17) rfl))) (by decide) (t := .int) (t' := .int) (by decide) (by decide)))), Fw3⟩
theorem d4_0 : decode prog_13_method_3_code 0 = .ok (.new 8, 3) := by decide +kernel
theorem d4_3 : decode prog_13_method_3_code 3 = .ok (.dup, 1) := by decide +kernel
theorem d4_4 : decode prog_13_method_3_code 4 = .ok (.aload_n 0, 1) := by decide +kernel
theorem d4_5 : decode prog_13_method_3_code 5 = .ok (.getfield 7, 3) := by decide +kernel
theorem d4_8 : decode prog_13_method_3_code 8 = .ok (.iconst 1, 1) := by decide +kernel
theorem d4_9 : decode prog_13_method_3_code 9 = .ok (.aload_n 0, 1) := by decide +kernel
theorem d4_10 : decode prog_13_method_3_code 10 = .ok (.getfield 13, 3) := by decide +kernel
theorem d4_13 : decode prog_13_method_3_code 13 = .ok (.isub, 1) := by decide +kernel
theorem d4_14 : decode prog_13_method_3_code 14 = .ok (.invokespecial 42, 3) := by decide +kernel
theorem d4_17 : decode prog_13_method_3_code 17 = .ok (.areturn, 1) := by decide +kernel
theorem pn_rm4 : plainName "com/example/hold1/hold1/Disk$Place" = true := by first | (simp [plainName, overriddenIn]; done) | decide +kernel
theorem ef_rm4 (m : MethodId) (x0 : Addr) : entryFrame m #[(.ref x0)] 1 = mkF m 0 #[.val (.ref x0)] [] := by first | (simp [entryFrame, mkF, argsToLocals, Value.category]; done) | rfl
set_option maxRecDepth 65536 in
set_option maxHeartbeats 40000000 in
theorem rm4 (l : Launch) (Z : State) (a0 : Array Value) (hw : ∀ d ∈ tables_1, d.before a0 Z = true) (ws : List Jvm.Cond) (h0 : Heap) (n0 : Nat) (Z0 : n0 ≤ h0.size) (a1 : Addr) (P N : Int32) (E_a1 : Exa Z h0 a1 "com/example/hold1/hold1/Disk$Place") (g_a1 : n0 ≤ a1) (F_pair_a1 : Fld Z h0 a1 "com/example/hold1/hold1/Disk$Place" "pair" "I" (.int P)) (F_index_a1 : Fld Z h0 a1 "com/example/hold1/hold1/Disk$Place" "index" "I" (.int N)) (b1 : 0 ≤ N.toInt ∧ N.toInt ≤ 1) :
    OMet l (⟨"com/example/hold1/hold1/Disk$Place", "partner", "()Lcom/example/hold1/hold1/Disk$Place;"⟩ : MethodName) prog_13_method_3_code 1 (some (.object "com/example/hold1/hold1/Disk$Place")) ws ({ frames := 3, cells := 1, slots := 2, locals := 42 } : Room) #[(.ref a1)] Z h0 (fun v h L => ∃ (r : Addr) (N' : Int32), v = some (.ref r) ∧ Fr n0 L ∧ Keep h0 h [] ∧ n0 ≤ r ∧ h0.size ≤ r ∧ Exa Z h r "com/example/hold1/hold1/Disk$Place" ∧ Fld Z h r "com/example/hold1/hold1/Disk$Place" "pair" "I" (.int P) ∧ Fld Z h r "com/example/hold1/hold1/Disk$Place" "index" "I" (.int N') ∧ N'.toInt = 1 - N.toInt) := by
  refine own_met (plainFor_of_name pn_rm4) ?_
  intro p e s m below meth c s₁ X0 hx hby hml hown hnm hret hlk hZ e0
  rw [ef_rm4]
  have N0 := Fr.nil n0
  show ORun p e below s _ _ _ s₁ (mkF m 0 #[.val (.ref a1)] [])
  obtain ⟨T1, h1, X1, e1, E1, A1, D1, -, st1⟩ := newO X0 hx hZ hown (hw _ (List.mem_of_getElem? (i := 23) rfl)) (hw _ (List.mem_of_getElem? (i := 1) rfl)) (hw _ (List.mem_of_getElem? (i := 2) rfl)) e0 (g := (mkF m 0 #[.val (.ref a1)] [])) rfl (hb hby d4_0) (by decide) (by decide)
  obtain ⟨b1, g1⟩ : ∃ z, z = h0.size := ⟨_, rfl⟩
  rw [← g1] at A1 D1 st1
  have old_b1 : n0 ≤ b1 := Nat.le_trans Z0 (Nat.le_of_eq g1.symm)
  have sz_b1 : h0.size ≤ b1 := Nat.le_trans (Nat.le_refl h0.size) (Nat.le_of_eq g1.symm)
  have ne_a1_b1 : a1 ≠ b1 := Nat.ne_of_lt (Nat.lt_of_lt_of_le E_a1.lt (Nat.le_of_eq g1.symm))
  have F1_15 : Fld Z h1 b1 "com/example/hold1/hold1/Disk$Place" "pair" "I" (.int (0 : Int32)) := D1 (Or.inr (hw _ (List.mem_of_getElem? (i := 15) rfl))) (ty := .int) (by decide)
  have F1_17 : Fld Z h1 b1 "com/example/hold1/hold1/Disk$Place" "index" "I" (.int (0 : Int32)) := D1 (Or.inr (hw _ (List.mem_of_getElem? (i := 17) rfl))) (ty := .int) (by decide)
  refine own_by st1 ?_
  show ORun p e below s _ _ _ T1 (mkF m 3 #[.val (.ref a1)] [(.ref b1)])
  refine own_by (fun t k => XS.dup X1.here hx rfl (hb hby d4_3) rfl rfl k) ?_
  show ORun p e below s _ _ _ T1 (mkF m 4 #[.val (.ref a1)] [(.ref b1), (.ref b1)])
  refine own_by (fun t k => XS.aloadN X1.here hx rfl (hb hby d4_4) rfl rfl k) ?_
  show ORun p e below s _ _ _ T1 (mkF m 5 #[.val (.ref a1)] [(.ref a1), (.ref b1), (.ref b1)])
  obtain ⟨T2, X2, e2, st2⟩ := getF X1 hx hZ hown (host := "") (Or.inl (hw _ (List.mem_of_getElem? (i := 14) rfl))) Via.refl e1 (F_pair_a1.ext E1) (g := (mkF m 5 #[.val (.ref a1)] [(.ref a1), (.ref b1), (.ref b1)])) rfl rfl (hb hby d4_5)
  refine own_by st2 ?_
  show ORun p e below s _ _ _ T2 (mkF m 8 #[.val (.ref a1)] [(.int P), (.ref b1), (.ref b1)])
  refine own_by (fun t k => XS.iconst X2.here hx rfl (hb hby d4_8) k) ?_
  show ORun p e below s _ _ _ T2 (mkF m 9 #[.val (.ref a1)] [(.int (1 : Int32)), (.int P), (.ref b1), (.ref b1)])
  refine own_by (fun t k => XS.aloadN X2.here hx rfl (hb hby d4_9) rfl rfl k) ?_
  show ORun p e below s _ _ _ T2 (mkF m 10 #[.val (.ref a1)] [(.ref a1), (.int (1 : Int32)), (.int P), (.ref b1), (.ref b1)])
  obtain ⟨T3, X3, e3, st3⟩ := getF X2 hx hZ hown (host := "") (Or.inl (hw _ (List.mem_of_getElem? (i := 16) rfl))) Via.refl e2 (F_index_a1.ext E1) (g := (mkF m 10 #[.val (.ref a1)] [(.ref a1), (.int (1 : Int32)), (.int P), (.ref b1), (.ref b1)])) rfl rfl (hb hby d4_10)
  refine own_by st3 ?_
  show ORun p e below s _ _ _ T3 (mkF m 13 #[.val (.ref a1)] [(.int N), (.int (1 : Int32)), (.int P), (.ref b1), (.ref b1)])
  refine own_by (fun t k => XS.isub X3.here hx rfl (hb hby d4_13) rfl k) (own_letI (f := (fun z => (mkF m 14 #[.val (.ref a1)] [(.int z), (.int P), (.ref b1), (.ref b1)]))) ((1 : Int32) - N) fun v4 hv4 => ?_)
  show ORun p e below s _ _ _ T3 (mkF m 14 #[.val (.ref a1)] [(.int v4), (.int P), (.ref b1), (.ref b1)])
  have r4 := rng32 v4
  have a4 : v4.toInt = 1 - N.toInt := by
    have q : (v4.toInt - (1 - N.toInt)) % 4294967296 = 0 := by rw [hv4]; exact c_isub (1 : Int32) N
    omega
  refine own_callC X3 hx hZ hown rfl (hw _ (List.mem_of_getElem? (i := 24) rfl)) (hw _ (List.mem_of_getElem? (i := 4) rfl)) (hw _ (List.mem_of_getElem? (i := 2) rfl)) (hw _ (List.mem_of_getElem? (i := 5) rfl)) (by decide) (rm1 l Z a0 hw [] h1 n0 (Nat.le_trans Z0 E1.1) b1 P v4 A1 old_b1 F1_15 F1_17) e3 (by decide) (W := 1) (by decide) (by decide) (by decide) (b := b1) (argsL := [(.int P), (.int v4)]) (rest := [(.ref b1)]) (by rw [hml]; rfl) (lenOf pd_1 rfl) rfl rfl (Nat.le_of_eq rfl) (hb hby d4_14) ?_
  intro T5 L5 u5 X5 hQ5
  obtain ⟨rfl, Nq5, K5, En5_b1, Fn5_pair_b1, Fn5_index_b1⟩ := hQ5
  have N5 := Fr.app N0 Nq5
  show ORun p e below s _ _ _ T5 (mkF m 17 #[.val (.ref a1)] [(.ref b1)])
  refine own_retA X5 hx hret rfl rfl rfl hlk (hb hby d4_17) (by decide) (by decide) ?_
  exact ⟨b1, v4, rfl, N5, (((Keep.refl h0 []).ext E1).trans K5 (allS (Or.inr sz_b1) all0)), old_b1, sz_b1, En5_b1, Fn5_pair_b1, Fn5_index_b1, by omega⟩
theorem d5_0 : decode prog_13_method_7_code 0 = .ok (.aload_n 0, 1) := by decide +kernel
theorem d5_1 : decode prog_13_method_7_code 1 = .ok (.getfield 7, 3) := by decide +kernel
theorem d5_4 : decode prog_13_method_7_code 4 = .ok (.ireturn, 1) := by decide +kernel
theorem pn_rm5 : plainName "com/example/hold1/hold1/Disk$Place" = true := by first | (simp [plainName, overriddenIn]; done) | decide +kernel
theorem ef_rm5 (m : MethodId) (x0 : Addr) : entryFrame m #[(.ref x0)] 1 = mkF m 0 #[.val (.ref x0)] [] := by first | (simp [entryFrame, mkF, argsToLocals, Value.category]; done) | rfl
set_option maxRecDepth 65536 in
set_option maxHeartbeats 40000000 in
theorem rm5 (l : Launch) (Z : State) (a0 : Array Value) (hw : ∀ d ∈ tables_1, d.before a0 Z = true) (ws : List Jvm.Cond) (h0 : Heap) (n0 : Nat) (Z0 : n0 ≤ h0.size) (a1 : Addr) (P N : Int32) (E_a1 : Exa Z h0 a1 "com/example/hold1/hold1/Disk$Place") (g_a1 : n0 ≤ a1) (F_pair_a1 : Fld Z h0 a1 "com/example/hold1/hold1/Disk$Place" "pair" "I" (.int P)) (F_index_a1 : Fld Z h0 a1 "com/example/hold1/hold1/Disk$Place" "index" "I" (.int N)) :
    OMet l (⟨"com/example/hold1/hold1/Disk$Place", "pair", "()I"⟩ : MethodName) prog_13_method_7_code 1 (some .int) ws ({ frames := 0, cells := 0, slots := 0, locals := 0 } : Room) #[(.ref a1)] Z h0 (fun v h L => v = some (.int P) ∧ Fr n0 L ∧ h = h0) := by
  refine own_met (plainFor_of_name pn_rm5) ?_
  intro p e s m below meth c s₁ X0 hx hby hml hown hnm hret hlk hZ e0
  rw [ef_rm5]
  have N0 := Fr.nil n0
  show ORun p e below s _ _ _ s₁ (mkF m 0 #[.val (.ref a1)] [])
  refine own_by (fun t k => XS.aloadN X0.here hx rfl (hb hby d5_0) rfl rfl k) ?_
  show ORun p e below s _ _ _ s₁ (mkF m 1 #[.val (.ref a1)] [(.ref a1)])
  obtain ⟨T1, X1, e1, st1⟩ := getF X0 hx hZ hown (host := "") (Or.inl (hw _ (List.mem_of_getElem? (i := 14) rfl))) Via.refl e0 F_pair_a1 (g := (mkF m 1 #[.val (.ref a1)] [(.ref a1)])) rfl rfl (hb hby d5_1)
  refine own_by st1 ?_
  show ORun p e below s _ _ _ T1 (mkF m 4 #[.val (.ref a1)] [(.int P)])
  refine own_retI X1 hx hret hlk (hb hby d5_4) (by decide) (by decide) ?_
  exact ⟨rfl, N0, e1⟩
theorem d6_0 : decode prog_13_method_8_code 0 = .ok (.aload_n 0, 1) := by decide +kernel
theorem d6_1 : decode prog_13_method_8_code 1 = .ok (.getfield 13, 3) := by decide +kernel
theorem d6_4 : decode prog_13_method_8_code 4 = .ok (.ireturn, 1) := by decide +kernel
theorem pn_rm6 : plainName "com/example/hold1/hold1/Disk$Place" = true := by first | (simp [plainName, overriddenIn]; done) | decide +kernel
theorem ef_rm6 (m : MethodId) (x0 : Addr) : entryFrame m #[(.ref x0)] 1 = mkF m 0 #[.val (.ref x0)] [] := by first | (simp [entryFrame, mkF, argsToLocals, Value.category]; done) | rfl
set_option maxRecDepth 65536 in
set_option maxHeartbeats 40000000 in
theorem rm6 (l : Launch) (Z : State) (a0 : Array Value) (hw : ∀ d ∈ tables_1, d.before a0 Z = true) (ws : List Jvm.Cond) (h0 : Heap) (n0 : Nat) (Z0 : n0 ≤ h0.size) (a1 : Addr) (P N : Int32) (E_a1 : Exa Z h0 a1 "com/example/hold1/hold1/Disk$Place") (g_a1 : n0 ≤ a1) (F_pair_a1 : Fld Z h0 a1 "com/example/hold1/hold1/Disk$Place" "pair" "I" (.int P)) (F_index_a1 : Fld Z h0 a1 "com/example/hold1/hold1/Disk$Place" "index" "I" (.int N)) :
    OMet l (⟨"com/example/hold1/hold1/Disk$Place", "index", "()I"⟩ : MethodName) prog_13_method_8_code 1 (some .int) ws ({ frames := 0, cells := 0, slots := 0, locals := 0 } : Room) #[(.ref a1)] Z h0 (fun v h L => v = some (.int N) ∧ Fr n0 L ∧ h = h0) := by
  refine own_met (plainFor_of_name pn_rm6) ?_
  intro p e s m below meth c s₁ X0 hx hby hml hown hnm hret hlk hZ e0
  rw [ef_rm6]
  have N0 := Fr.nil n0
  show ORun p e below s _ _ _ s₁ (mkF m 0 #[.val (.ref a1)] [])
  refine own_by (fun t k => XS.aloadN X0.here hx rfl (hb hby d6_0) rfl rfl k) ?_
  show ORun p e below s _ _ _ s₁ (mkF m 1 #[.val (.ref a1)] [(.ref a1)])
  obtain ⟨T1, X1, e1, st1⟩ := getF X0 hx hZ hown (host := "") (Or.inl (hw _ (List.mem_of_getElem? (i := 16) rfl))) Via.refl e0 F_index_a1 (g := (mkF m 1 #[.val (.ref a1)] [(.ref a1)])) rfl rfl (hb hby d6_1)
  refine own_by st1 ?_
  show ORun p e below s _ _ _ T1 (mkF m 4 #[.val (.ref a1)] [(.int N)])
  refine own_retI X1 hx hret hlk (hb hby d6_4) (by decide) (by decide) ?_
  exact ⟨rfl, N0, e1⟩
theorem pn_rm0 : plainName "com/example/hold1/hold1/PlacePartnerPinLaw" = true := by first | (simp [plainName, overriddenIn]; done) | decide +kernel
theorem ef_rm0 (m : MethodId) (x0 : Int32) (x1 : Int32) : entryFrame m #[(.int x0), (.int x1)] maxLocals = mkF m 0 #[.val (.int x0), .val (.int x1), .unset, .unset, .unset, .unset, .unset, .unset, .unset] [] := by first | (simp [entryFrame, mkF, argsToLocals, Value.category, maxLocals]; done) | rfl
set_option maxRecDepth 65536 in
set_option maxHeartbeats 40000000 in
theorem rm0 (l : Launch) (Z : State) (a0 : Array Value) (hw : ∀ d ∈ tables_1, d.before a0 Z = true) (ws : List Jvm.Cond) (h0 : Heap) (n0 : Nat) (Z0 : n0 ≤ h0.size) (p1 p2 : Int32) :
    OMet l x code maxLocals ret ws room_1 #[(.int p1), (.int p2)] Z h0 (fun v h L => v = some (.int 1) ∧ Fr n0 L) := by
  refine own_met (plainFor_of_name pn_rm0) ?_
  intro p e s m below meth c s₁ X0 hx hby hml hown hnm hret hlk hZ e0
  rw [ef_rm0]
  have N0 := Fr.nil n0
  show ORun p e below s _ _ _ s₁ (mkF m 0 #[.val (.int p1), .val (.int p2), .unset, .unset, .unset, .unset, .unset, .unset, .unset] [])
  refine own_by (fun t k => XS.iloadN X0.here hx rfl (hb hby at_0) rfl k) ?_
  show ORun p e below s _ _ _ s₁ (mkF m 1 #[.val (.int p1), .val (.int p2), .unset, .unset, .unset, .unset, .unset, .unset, .unset] [(.int p2)])
  refine own_by (fun t k => XS.iconst X0.here hx rfl (hb hby at_1) k) ?_
  show ORun p e below s _ _ _ s₁ (mkF m 2 #[.val (.int p1), .val (.int p2), .unset, .unset, .unset, .unset, .unset, .unset, .unset] [(.int (1 : Int32)), (.int p2)])
  refine own_by (fun t k => XS.iand X0.here hx rfl (hb hby at_2) rfl k) (own_letI (f := (fun z => (mkF m 3 #[.val (.int p1), .val (.int p2), .unset, .unset, .unset, .unset, .unset, .unset, .unset] [(.int z)]))) (p2 &&& (1 : Int32)) fun v1 hv1 => ?_)
  show ORun p e below s _ _ _ s₁ (mkF m 3 #[.val (.int p1), .val (.int p2), .unset, .unset, .unset, .unset, .unset, .unset, .unset] [(.int v1)])
  have a1a : v1.toInt = p2.toInt % 2 := by rw [hv1]; exact c_mask p2 (1 : Int32) 1 (by decide) (by decide)
  have r1 := rng32 v1
  refine own_by (fun t k => XS.istoreN X0.here hx rfl (hb hby at_3) rfl (l' := #[.val (.int p1), .val (.int p2), .val (.int v1), .unset, .unset, .unset, .unset, .unset, .unset]) rfl k) ?_
  show ORun p e below s _ _ _ s₁ (mkF m 4 #[.val (.int p1), .val (.int p2), .val (.int v1), .unset, .unset, .unset, .unset, .unset, .unset] [])
  refine own_by (fun t k => XS.iloadN X0.here hx rfl (hb hby at_4) rfl k) ?_
  show ORun p e below s _ _ _ s₁ (mkF m 5 #[.val (.int p1), .val (.int p2), .val (.int v1), .unset, .unset, .unset, .unset, .unset, .unset] [(.int v1)])
  by_cases hc2 : v1 = (0 : Int32)
  · have t2 := own_eq hc2 (a := v1.toInt) (b := 0) rfl (by decide)
    refine own_by (fun t k => XS.ifNo X0.here hx rfl (hb hby at_5) rfl ((if0 _ _).trans (teq hc2).2) k) ?_
    show ORun p e below s _ _ _ s₁ (mkF m 8 #[.val (.int p1), .val (.int p2), .val (.int v1), .unset, .unset, .unset, .unset, .unset, .unset] [])
    refine own_by (fun t k => XS.iconst X0.here hx rfl (hb hby at_8) k) ?_
    show ORun p e below s _ _ _ s₁ (mkF m 9 #[.val (.int p1), .val (.int p2), .val (.int v1), .unset, .unset, .unset, .unset, .unset, .unset] [(.int (1 : Int32))])
    refine own_by (fun t k => XS.istoreN X0.here hx rfl (hb hby at_9) rfl (l' := #[.val (.int p1), .val (.int p2), .val (.int v1), .val (.int (1 : Int32)), .unset, .unset, .unset, .unset, .unset]) rfl k) ?_
    show ORun p e below s _ _ _ s₁ (mkF m 10 #[.val (.int p1), .val (.int p2), .val (.int v1), .val (.int (1 : Int32)), .unset, .unset, .unset, .unset, .unset] [])
    refine own_by (fun t k => XS.goto X0.here hx rfl (pc0 := 10) (pc' := 15) rfl (hb hby at_10) (by decide) (by decide) k) ?_
    show ORun p e below s _ _ _ s₁ (mkF m 15 #[.val (.int p1), .val (.int p2), .val (.int v1), .val (.int (1 : Int32)), .unset, .unset, .unset, .unset, .unset] [])
    obtain ⟨T3, h3, X3, e3, E3, A3, D3, -, st3⟩ := newO X0 hx hZ hown (hw _ (List.mem_of_getElem? (i := 0) rfl)) (hw _ (List.mem_of_getElem? (i := 1) rfl)) (hw _ (List.mem_of_getElem? (i := 2) rfl)) e0 (g := (mkF m 15 #[.val (.int p1), .val (.int p2), .val (.int v1), .val (.int (1 : Int32)), .unset, .unset, .unset, .unset, .unset] [])) rfl (hb hby at_15) (by decide) (by decide)
    obtain ⟨b3, g3⟩ : ∃ z, z = h0.size := ⟨_, rfl⟩
    rw [← g3] at A3 D3 st3
    have old_b3 : n0 ≤ b3 := Nat.le_trans Z0 (Nat.le_of_eq g3.symm)
    have sz_b3 : h0.size ≤ b3 := Nat.le_trans (Nat.le_refl h0.size) (Nat.le_of_eq g3.symm)
    have F3_15 : Fld Z h3 b3 "com/example/hold1/hold1/Disk$Place" "pair" "I" (.int (0 : Int32)) := D3 (Or.inr (hw _ (List.mem_of_getElem? (i := 15) rfl))) (ty := .int) (by decide)
    have F3_17 : Fld Z h3 b3 "com/example/hold1/hold1/Disk$Place" "index" "I" (.int (0 : Int32)) := D3 (Or.inr (hw _ (List.mem_of_getElem? (i := 17) rfl))) (ty := .int) (by decide)
    refine own_by st3 ?_
    show ORun p e below s _ _ _ T3 (mkF m 18 #[.val (.int p1), .val (.int p2), .val (.int v1), .val (.int (1 : Int32)), .unset, .unset, .unset, .unset, .unset] [(.ref b3)])
    refine own_by (fun t k => XS.dup X3.here hx rfl (hb hby at_18) rfl rfl k) ?_
    show ORun p e below s _ _ _ T3 (mkF m 19 #[.val (.int p1), .val (.int p2), .val (.int v1), .val (.int (1 : Int32)), .unset, .unset, .unset, .unset, .unset] [(.ref b3), (.ref b3)])
    refine own_by (fun t k => XS.iloadN X3.here hx rfl (hb hby at_19) rfl k) ?_
    show ORun p e below s _ _ _ T3 (mkF m 20 #[.val (.int p1), .val (.int p2), .val (.int v1), .val (.int (1 : Int32)), .unset, .unset, .unset, .unset, .unset] [(.int p1), (.ref b3), (.ref b3)])
    refine own_by (fun t k => XS.iloadN X3.here hx rfl (hb hby at_20) rfl k) ?_
    show ORun p e below s _ _ _ T3 (mkF m 21 #[.val (.int p1), .val (.int p2), .val (.int v1), .val (.int (1 : Int32)), .unset, .unset, .unset, .unset, .unset] [(.int v1), (.int p1), (.ref b3), (.ref b3)])
    refine own_callC X3 hx hZ hown rfl (hw _ (List.mem_of_getElem? (i := 3) rfl)) (hw _ (List.mem_of_getElem? (i := 4) rfl)) (hw _ (List.mem_of_getElem? (i := 2) rfl)) (hw _ (List.mem_of_getElem? (i := 5) rfl)) (by decide) (rm1 l Z a0 hw [] h3 n0 (Nat.le_trans Z0 E3.1) b3 p1 v1 A3 old_b3 F3_15 F3_17) e3 (by decide) (W := 1) (by decide) (by decide) (by decide) (b := b3) (argsL := [(.int p1), (.int v1)]) (rest := [(.ref b3)]) (by rw [hml]; rfl) (lenOf pd_1 rfl) rfl rfl (Nat.le_of_eq rfl) (hb hby at_21) ?_
    intro T4 L4 u4 X4 hQ4
    obtain ⟨rfl, Nq4, K4, En4_b3, Fn4_pair_b3, Fn4_index_b3⟩ := hQ4
    have N4 := Fr.app N0 Nq4
    show ORun p e below s _ _ _ T4 (mkF m 24 #[.val (.int p1), .val (.int p2), .val (.int v1), .val (.int (1 : Int32)), .unset, .unset, .unset, .unset, .unset] [(.ref b3)])
    refine own_by (fun t k => XS.astore X4.here hx rfl (hb hby at_24) rfl rfl (l' := #[.val (.int p1), .val (.int p2), .val (.int v1), .val (.int (1 : Int32)), .val (.ref b3), .unset, .unset, .unset, .unset]) rfl k) ?_
    show ORun p e below s _ _ _ T4 (mkF m 26 #[.val (.int p1), .val (.int p2), .val (.int v1), .val (.int (1 : Int32)), .val (.ref b3), .unset, .unset, .unset, .unset] [])
    refine own_by (fun t k => XS.aload X4.here hx rfl (hb hby at_26) rfl rfl k) ?_
    show ORun p e below s _ _ _ T4 (mkF m 28 #[.val (.int p1), .val (.int p2), .val (.int v1), .val (.int (1 : Int32)), .val (.ref b3), .unset, .unset, .unset, .unset] [(.ref b3)])
    refine own_callV X4 hx hZ hown En4_b3 (hw _ (List.mem_of_getElem? (i := 18) rfl)) (hw _ (List.mem_of_getElem? (i := 19) rfl)) (notFace_of_selects (args := #[]) (mvT hZ (hw _ (List.mem_of_getElem? (i := 21) rfl)))) (hw _ (List.mem_of_getElem? (i := 21) rfl)) (hw _ (List.mem_of_getElem? (i := 20) rfl)) (hw _ (List.mem_of_getElem? (i := 2) rfl)) (hw _ (List.mem_of_getElem? (i := 22) rfl)) (by decide) (rm4 l Z a0 hw [] T4.heap n0 (Nat.le_trans (Nat.le_trans Z0 E3.1) K4.1) b3 p1 v1 En4_b3 old_b3 Fn4_pair_b3 Fn4_index_b3 (by omega)) rfl (by decide) (W := 0) (by decide) (by decide) (by decide) (argsL := []) (rest := []) (by rw [hml]; rfl) (lenOf pd_2 rfl) rfl rfl (Nat.le_of_eq rfl) (hb hby at_28) ?_
    intro T5 L5 u5 X5 hQ5
    obtain ⟨o5, n5, rfl, Nq5, K5, g_o5, sz_o5, En5_o5, Fn5_pair_o5, Fn5_index_o5, hn5⟩ := hQ5
    have N5 := Fr.app N4 Nq5
    show ORun p e below s _ _ _ T5 (mkF m 31 #[.val (.int p1), .val (.int p2), .val (.int v1), .val (.int (1 : Int32)), .val (.ref b3), .unset, .unset, .unset, .unset] [(.ref o5)])
    refine own_by (fun t k => XS.astore X5.here hx rfl (hb hby at_31) rfl rfl (l' := #[.val (.int p1), .val (.int p2), .val (.int v1), .val (.int (1 : Int32)), .val (.ref b3), .val (.ref o5), .unset, .unset, .unset]) rfl k) ?_
    show ORun p e below s _ _ _ T5 (mkF m 33 #[.val (.int p1), .val (.int p2), .val (.int v1), .val (.int (1 : Int32)), .val (.ref b3), .val (.ref o5), .unset, .unset, .unset] [])
    refine own_by (fun t k => XS.aload X5.here hx rfl (hb hby at_33) rfl rfl k) ?_
    show ORun p e below s _ _ _ T5 (mkF m 35 #[.val (.int p1), .val (.int p2), .val (.int v1), .val (.int (1 : Int32)), .val (.ref b3), .val (.ref o5), .unset, .unset, .unset] [(.ref o5)])
    refine own_callV X5 hx hZ hown En5_o5 (hw _ (List.mem_of_getElem? (i := 25) rfl)) (hw _ (List.mem_of_getElem? (i := 26) rfl)) (notFace_of_selects (args := #[]) (mvT hZ (hw _ (List.mem_of_getElem? (i := 28) rfl)))) (hw _ (List.mem_of_getElem? (i := 28) rfl)) (hw _ (List.mem_of_getElem? (i := 27) rfl)) (hw _ (List.mem_of_getElem? (i := 2) rfl)) (hw _ (List.mem_of_getElem? (i := 29) rfl)) (by decide) (rm5 l Z a0 hw [] T5.heap n0 (Nat.le_trans (Nat.le_trans (Nat.le_trans Z0 E3.1) K4.1) K5.1) o5 p1 n5 En5_o5 g_o5 Fn5_pair_o5 Fn5_index_o5) rfl (by decide) (W := 0) (by decide) (by decide) (by decide) (argsL := []) (rest := []) (by rw [hml]; rfl) (lenOf pd_3 rfl) rfl rfl (Nat.le_of_eq rfl) (hb hby at_35) ?_
    intro T6 L6 u6 X6 hQ6
    obtain ⟨rfl, Nq6, e6⟩ := hQ6
    have N6 := Fr.app N5 Nq6
    show ORun p e below s _ _ _ T6 (mkF m 38 #[.val (.int p1), .val (.int p2), .val (.int v1), .val (.int (1 : Int32)), .val (.ref b3), .val (.ref o5), .unset, .unset, .unset] [(.int p1)])
    refine own_by (fun t k => XS.iloadN X6.here hx rfl (hb hby at_38) rfl k) ?_
    show ORun p e below s _ _ _ T6 (mkF m 39 #[.val (.int p1), .val (.int p2), .val (.int v1), .val (.int (1 : Int32)), .val (.ref b3), .val (.ref o5), .unset, .unset, .unset] [(.int p1), (.int p1)])
    refine own_by (fun t k => XS.icmpNo X6.here hx rfl (hb hby at_39) rfl (teq rfl).2 k) ?_
    show ORun p e below s _ _ _ T6 (mkF m 42 #[.val (.int p1), .val (.int p2), .val (.int v1), .val (.int (1 : Int32)), .val (.ref b3), .val (.ref o5), .unset, .unset, .unset] [])
    refine own_by (fun t k => XS.aload X6.here hx rfl (hb hby at_42) rfl rfl k) ?_
    show ORun p e below s _ _ _ T6 (mkF m 44 #[.val (.int p1), .val (.int p2), .val (.int v1), .val (.int (1 : Int32)), .val (.ref b3), .val (.ref o5), .unset, .unset, .unset] [(.ref o5)])
    refine own_callV X6 hx hZ hown En5_o5 (hw _ (List.mem_of_getElem? (i := 30) rfl)) (hw _ (List.mem_of_getElem? (i := 31) rfl)) (notFace_of_selects (args := #[]) (mvT hZ (hw _ (List.mem_of_getElem? (i := 33) rfl)))) (hw _ (List.mem_of_getElem? (i := 33) rfl)) (hw _ (List.mem_of_getElem? (i := 32) rfl)) (hw _ (List.mem_of_getElem? (i := 2) rfl)) (hw _ (List.mem_of_getElem? (i := 34) rfl)) (by decide) (rm6 l Z a0 hw [] T5.heap n0 (Nat.le_trans (Nat.le_trans (Nat.le_trans Z0 E3.1) K4.1) K5.1) o5 p1 n5 En5_o5 g_o5 Fn5_pair_o5 Fn5_index_o5) e6 (by decide) (W := 0) (by decide) (by decide) (by decide) (argsL := []) (rest := []) (by rw [hml]; rfl) (lenOf pd_3 rfl) rfl rfl (Nat.le_of_eq rfl) (hb hby at_44) ?_
    intro T7 L7 u7 X7 hQ7
    obtain ⟨rfl, Nq7, e7⟩ := hQ7
    have N7 := Fr.app N6 Nq7
    show ORun p e below s _ _ _ T7 (mkF m 47 #[.val (.int p1), .val (.int p2), .val (.int v1), .val (.int (1 : Int32)), .val (.ref b3), .val (.ref o5), .unset, .unset, .unset] [(.int n5)])
    refine own_by (fun t k => XS.iloadN X7.here hx rfl (hb hby at_47) rfl k) ?_
    show ORun p e below s _ _ _ T7 (mkF m 48 #[.val (.int p1), .val (.int p2), .val (.int v1), .val (.int (1 : Int32)), .val (.ref b3), .val (.ref o5), .unset, .unset, .unset] [(.int (1 : Int32)), (.int n5)])
    by_cases hc8 : n5 = (1 : Int32)
    · have t8 := own_eq hc8 (a := n5.toInt) (b := 1) rfl (by decide)
      refine own_by (fun t k => XS.icmpNo X7.here hx rfl (hb hby at_48) rfl (teq hc8).2 k) ?_
      show ORun p e below s _ _ _ T7 (mkF m 51 #[.val (.int p1), .val (.int p2), .val (.int v1), .val (.int (1 : Int32)), .val (.ref b3), .val (.ref o5), .unset, .unset, .unset] [])
      refine own_by (fun t k => XS.iconst X7.here hx rfl (hb hby at_51) k) ?_
      show ORun p e below s _ _ _ T7 (mkF m 52 #[.val (.int p1), .val (.int p2), .val (.int v1), .val (.int (1 : Int32)), .val (.ref b3), .val (.ref o5), .unset, .unset, .unset] [(.int (1 : Int32))])
      refine own_by (fun t k => XS.goto X7.here hx rfl (pc0 := 52) (pc' := 56) rfl (hb hby at_52) (by decide) (by decide) k) ?_
      show ORun p e below s _ _ _ T7 (mkF m 56 #[.val (.int p1), .val (.int p2), .val (.int v1), .val (.int (1 : Int32)), .val (.ref b3), .val (.ref o5), .unset, .unset, .unset] [(.int (1 : Int32))])
      refine own_by (fun t k => XS.istore X7.here hx rfl (hb hby at_56) rfl (l' := #[.val (.int p1), .val (.int p2), .val (.int v1), .val (.int (1 : Int32)), .val (.ref b3), .val (.ref o5), .val (.int (1 : Int32)), .unset, .unset]) rfl k) ?_
      show ORun p e below s _ _ _ T7 (mkF m 58 #[.val (.int p1), .val (.int p2), .val (.int v1), .val (.int (1 : Int32)), .val (.ref b3), .val (.ref o5), .val (.int (1 : Int32)), .unset, .unset] [])
      refine own_by (fun t k => XS.aload X7.here hx rfl (hb hby at_58) rfl rfl k) ?_
      show ORun p e below s _ _ _ T7 (mkF m 60 #[.val (.int p1), .val (.int p2), .val (.int v1), .val (.int (1 : Int32)), .val (.ref b3), .val (.ref o5), .val (.int (1 : Int32)), .unset, .unset] [(.ref o5)])
      refine own_callV X7 hx hZ hown En5_o5 (hw _ (List.mem_of_getElem? (i := 18) rfl)) (hw _ (List.mem_of_getElem? (i := 19) rfl)) (notFace_of_selects (args := #[]) (mvT hZ (hw _ (List.mem_of_getElem? (i := 21) rfl)))) (hw _ (List.mem_of_getElem? (i := 21) rfl)) (hw _ (List.mem_of_getElem? (i := 20) rfl)) (hw _ (List.mem_of_getElem? (i := 2) rfl)) (hw _ (List.mem_of_getElem? (i := 22) rfl)) (by decide) (rm4 l Z a0 hw [] T5.heap n0 (Nat.le_trans (Nat.le_trans (Nat.le_trans Z0 E3.1) K4.1) K5.1) o5 p1 n5 En5_o5 g_o5 Fn5_pair_o5 Fn5_index_o5 (by omega)) e7 (by decide) (W := 0) (by decide) (by decide) (by decide) (argsL := []) (rest := []) (by rw [hml]; rfl) (lenOf pd_2 rfl) rfl rfl (Nat.le_of_eq rfl) (hb hby at_60) ?_
      intro T9 L9 u9 X9 hQ9
      obtain ⟨o9, n9, rfl, Nq9, K9, g_o9, sz_o9, En9_o9, Fn9_pair_o9, Fn9_index_o9, hn9⟩ := hQ9
      have N9 := Fr.app N7 Nq9
      show ORun p e below s _ _ _ T9 (mkF m 63 #[.val (.int p1), .val (.int p2), .val (.int v1), .val (.int (1 : Int32)), .val (.ref b3), .val (.ref o5), .val (.int (1 : Int32)), .unset, .unset] [(.ref o9)])
      refine own_by (fun t k => XS.astore X9.here hx rfl (hb hby at_63) rfl rfl (l' := #[.val (.int p1), .val (.int p2), .val (.int v1), .val (.int (1 : Int32)), .val (.ref b3), .val (.ref o5), .val (.int (1 : Int32)), .val (.ref o9), .unset]) rfl k) ?_
      show ORun p e below s _ _ _ T9 (mkF m 65 #[.val (.int p1), .val (.int p2), .val (.int v1), .val (.int (1 : Int32)), .val (.ref b3), .val (.ref o5), .val (.int (1 : Int32)), .val (.ref o9), .unset] [])
      refine own_by (fun t k => XS.aload X9.here hx rfl (hb hby at_65) rfl rfl k) ?_
      show ORun p e below s _ _ _ T9 (mkF m 67 #[.val (.int p1), .val (.int p2), .val (.int v1), .val (.int (1 : Int32)), .val (.ref b3), .val (.ref o5), .val (.int (1 : Int32)), .val (.ref o9), .unset] [(.ref o9)])
      refine own_callV X9 hx hZ hown En9_o9 (hw _ (List.mem_of_getElem? (i := 25) rfl)) (hw _ (List.mem_of_getElem? (i := 26) rfl)) (notFace_of_selects (args := #[]) (mvT hZ (hw _ (List.mem_of_getElem? (i := 28) rfl)))) (hw _ (List.mem_of_getElem? (i := 28) rfl)) (hw _ (List.mem_of_getElem? (i := 27) rfl)) (hw _ (List.mem_of_getElem? (i := 2) rfl)) (hw _ (List.mem_of_getElem? (i := 29) rfl)) (by decide) (rm5 l Z a0 hw [] T9.heap n0 (Nat.le_trans (Nat.le_trans (Nat.le_trans (Nat.le_trans Z0 E3.1) K4.1) K5.1) K9.1) o9 p1 n9 En9_o9 g_o9 Fn9_pair_o9 Fn9_index_o9) rfl (by decide) (W := 0) (by decide) (by decide) (by decide) (argsL := []) (rest := []) (by rw [hml]; rfl) (lenOf pd_3 rfl) rfl rfl (Nat.le_of_eq rfl) (hb hby at_67) ?_
      intro T10 L10 u10 X10 hQ10
      obtain ⟨rfl, Nq10, e10⟩ := hQ10
      have N10 := Fr.app N9 Nq10
      show ORun p e below s _ _ _ T10 (mkF m 70 #[.val (.int p1), .val (.int p2), .val (.int v1), .val (.int (1 : Int32)), .val (.ref b3), .val (.ref o5), .val (.int (1 : Int32)), .val (.ref o9), .unset] [(.int p1)])
      refine own_by (fun t k => XS.iloadN X10.here hx rfl (hb hby at_70) rfl k) ?_
      show ORun p e below s _ _ _ T10 (mkF m 71 #[.val (.int p1), .val (.int p2), .val (.int v1), .val (.int (1 : Int32)), .val (.ref b3), .val (.ref o5), .val (.int (1 : Int32)), .val (.ref o9), .unset] [(.int p1), (.int p1)])
      refine own_by (fun t k => XS.icmpNo X10.here hx rfl (hb hby at_71) rfl (teq rfl).2 k) ?_
      show ORun p e below s _ _ _ T10 (mkF m 74 #[.val (.int p1), .val (.int p2), .val (.int v1), .val (.int (1 : Int32)), .val (.ref b3), .val (.ref o5), .val (.int (1 : Int32)), .val (.ref o9), .unset] [])
      refine own_by (fun t k => XS.aload X10.here hx rfl (hb hby at_74) rfl rfl k) ?_
      show ORun p e below s _ _ _ T10 (mkF m 76 #[.val (.int p1), .val (.int p2), .val (.int v1), .val (.int (1 : Int32)), .val (.ref b3), .val (.ref o5), .val (.int (1 : Int32)), .val (.ref o9), .unset] [(.ref o9)])
      refine own_callV X10 hx hZ hown En9_o9 (hw _ (List.mem_of_getElem? (i := 30) rfl)) (hw _ (List.mem_of_getElem? (i := 31) rfl)) (notFace_of_selects (args := #[]) (mvT hZ (hw _ (List.mem_of_getElem? (i := 33) rfl)))) (hw _ (List.mem_of_getElem? (i := 33) rfl)) (hw _ (List.mem_of_getElem? (i := 32) rfl)) (hw _ (List.mem_of_getElem? (i := 2) rfl)) (hw _ (List.mem_of_getElem? (i := 34) rfl)) (by decide) (rm6 l Z a0 hw [] T9.heap n0 (Nat.le_trans (Nat.le_trans (Nat.le_trans (Nat.le_trans Z0 E3.1) K4.1) K5.1) K9.1) o9 p1 n9 En9_o9 g_o9 Fn9_pair_o9 Fn9_index_o9) e10 (by decide) (W := 0) (by decide) (by decide) (by decide) (argsL := []) (rest := []) (by rw [hml]; rfl) (lenOf pd_3 rfl) rfl rfl (Nat.le_of_eq rfl) (hb hby at_76) ?_
      intro T11 L11 u11 X11 hQ11
      obtain ⟨rfl, Nq11, e11⟩ := hQ11
      have N11 := Fr.app N10 Nq11
      show ORun p e below s _ _ _ T11 (mkF m 79 #[.val (.int p1), .val (.int p2), .val (.int v1), .val (.int (1 : Int32)), .val (.ref b3), .val (.ref o5), .val (.int (1 : Int32)), .val (.ref o9), .unset] [(.int n9)])
      refine own_by (fun t k => XS.iloadN X11.here hx rfl (hb hby at_79) rfl k) ?_
      show ORun p e below s _ _ _ T11 (mkF m 80 #[.val (.int p1), .val (.int p2), .val (.int v1), .val (.int (1 : Int32)), .val (.ref b3), .val (.ref o5), .val (.int (1 : Int32)), .val (.ref o9), .unset] [(.int v1), (.int n9)])
      by_cases hc12 : n9 = v1
      · have t12 := own_eq hc12 (a := n9.toInt) (b := v1.toInt) rfl rfl
        refine own_by (fun t k => XS.icmpNo X11.here hx rfl (hb hby at_80) rfl (teq hc12).2 k) ?_
        show ORun p e below s _ _ _ T11 (mkF m 83 #[.val (.int p1), .val (.int p2), .val (.int v1), .val (.int (1 : Int32)), .val (.ref b3), .val (.ref o5), .val (.int (1 : Int32)), .val (.ref o9), .unset] [])
        refine own_by (fun t k => XS.iconst X11.here hx rfl (hb hby at_83) k) ?_
        show ORun p e below s _ _ _ T11 (mkF m 84 #[.val (.int p1), .val (.int p2), .val (.int v1), .val (.int (1 : Int32)), .val (.ref b3), .val (.ref o5), .val (.int (1 : Int32)), .val (.ref o9), .unset] [(.int (1 : Int32))])
        refine own_by (fun t k => XS.goto X11.here hx rfl (pc0 := 84) (pc' := 88) rfl (hb hby at_84) (by decide) (by decide) k) ?_
        show ORun p e below s _ _ _ T11 (mkF m 88 #[.val (.int p1), .val (.int p2), .val (.int v1), .val (.int (1 : Int32)), .val (.ref b3), .val (.ref o5), .val (.int (1 : Int32)), .val (.ref o9), .unset] [(.int (1 : Int32))])
        refine own_by (fun t k => XS.istore X11.here hx rfl (hb hby at_88) rfl (l' := #[.val (.int p1), .val (.int p2), .val (.int v1), .val (.int (1 : Int32)), .val (.ref b3), .val (.ref o5), .val (.int (1 : Int32)), .val (.ref o9), .val (.int (1 : Int32))]) rfl k) ?_
        show ORun p e below s _ _ _ T11 (mkF m 90 #[.val (.int p1), .val (.int p2), .val (.int v1), .val (.int (1 : Int32)), .val (.ref b3), .val (.ref o5), .val (.int (1 : Int32)), .val (.ref o9), .val (.int (1 : Int32))] [])
        refine own_by (fun t k => XS.iload X11.here hx rfl (hb hby at_90) rfl k) ?_
        show ORun p e below s _ _ _ T11 (mkF m 92 #[.val (.int p1), .val (.int p2), .val (.int v1), .val (.int (1 : Int32)), .val (.ref b3), .val (.ref o5), .val (.int (1 : Int32)), .val (.ref o9), .val (.int (1 : Int32))] [(.int (1 : Int32))])
        refine own_by (fun t k => XS.ifNo X11.here hx rfl (hb hby at_92) rfl ((if0 _ _).trans (feq (by decide)).1) k) ?_
        show ORun p e below s _ _ _ T11 (mkF m 95 #[.val (.int p1), .val (.int p2), .val (.int v1), .val (.int (1 : Int32)), .val (.ref b3), .val (.ref o5), .val (.int (1 : Int32)), .val (.ref o9), .val (.int (1 : Int32))] [])
        refine own_by (fun t k => XS.iload X11.here hx rfl (hb hby at_95) rfl k) ?_
        show ORun p e below s _ _ _ T11 (mkF m 97 #[.val (.int p1), .val (.int p2), .val (.int v1), .val (.int (1 : Int32)), .val (.ref b3), .val (.ref o5), .val (.int (1 : Int32)), .val (.ref o9), .val (.int (1 : Int32))] [(.int (1 : Int32))])
        refine own_by (fun t k => XS.ifNo X11.here hx rfl (hb hby at_97) rfl ((if0 _ _).trans (feq (by decide)).1) k) ?_
        show ORun p e below s _ _ _ T11 (mkF m 100 #[.val (.int p1), .val (.int p2), .val (.int v1), .val (.int (1 : Int32)), .val (.ref b3), .val (.ref o5), .val (.int (1 : Int32)), .val (.ref o9), .val (.int (1 : Int32))] [])
        refine own_by (fun t k => XS.iconst X11.here hx rfl (hb hby at_100) k) ?_
        show ORun p e below s _ _ _ T11 (mkF m 101 #[.val (.int p1), .val (.int p2), .val (.int v1), .val (.int (1 : Int32)), .val (.ref b3), .val (.ref o5), .val (.int (1 : Int32)), .val (.ref o9), .val (.int (1 : Int32))] [(.int (1 : Int32))])
        refine own_by (fun t k => XS.goto X11.here hx rfl (pc0 := 101) (pc' := 105) rfl (hb hby at_101) (by decide) (by decide) k) ?_
        show ORun p e below s _ _ _ T11 (mkF m 105 #[.val (.int p1), .val (.int p2), .val (.int v1), .val (.int (1 : Int32)), .val (.ref b3), .val (.ref o5), .val (.int (1 : Int32)), .val (.ref o9), .val (.int (1 : Int32))] [(.int (1 : Int32))])
        refine own_retN X11 hx (t := .boolean) hret (by simp) hlk (hb hby at_105) (by decide) (by decide) ?_
        exact ⟨rfl, N11⟩
      · have t12 := own_ne hc12 (a := n9.toInt) (b := v1.toInt) rfl rfl
        refine own_by (fun t k => XS.icmpYes X11.here hx rfl (pc0 := 80) (pc' := 87) rfl (hb hby at_80) rfl (feq hc12).2 (by decide) (by decide) k) ?_
        show ORun p e below s _ _ _ T11 (mkF m 87 #[.val (.int p1), .val (.int p2), .val (.int v1), .val (.int (1 : Int32)), .val (.ref b3), .val (.ref o5), .val (.int (1 : Int32)), .val (.ref o9), .unset] [])
        refine own_by (fun t k => XS.iconst X11.here hx rfl (hb hby at_87) k) ?_
        show ORun p e below s _ _ _ T11 (mkF m 88 #[.val (.int p1), .val (.int p2), .val (.int v1), .val (.int (1 : Int32)), .val (.ref b3), .val (.ref o5), .val (.int (1 : Int32)), .val (.ref o9), .unset] [(.int (0 : Int32))])
        refine own_by (fun t k => XS.istore X11.here hx rfl (hb hby at_88) rfl (l' := #[.val (.int p1), .val (.int p2), .val (.int v1), .val (.int (1 : Int32)), .val (.ref b3), .val (.ref o5), .val (.int (1 : Int32)), .val (.ref o9), .val (.int (0 : Int32))]) rfl k) ?_
        show ORun p e below s _ _ _ T11 (mkF m 90 #[.val (.int p1), .val (.int p2), .val (.int v1), .val (.int (1 : Int32)), .val (.ref b3), .val (.ref o5), .val (.int (1 : Int32)), .val (.ref o9), .val (.int (0 : Int32))] [])
        refine own_by (fun t k => XS.iload X11.here hx rfl (hb hby at_90) rfl k) ?_
        show ORun p e below s _ _ _ T11 (mkF m 92 #[.val (.int p1), .val (.int p2), .val (.int v1), .val (.int (1 : Int32)), .val (.ref b3), .val (.ref o5), .val (.int (1 : Int32)), .val (.ref o9), .val (.int (0 : Int32))] [(.int (1 : Int32))])
        refine own_by (fun t k => XS.ifNo X11.here hx rfl (hb hby at_92) rfl ((if0 _ _).trans (feq (by decide)).1) k) ?_
        show ORun p e below s _ _ _ T11 (mkF m 95 #[.val (.int p1), .val (.int p2), .val (.int v1), .val (.int (1 : Int32)), .val (.ref b3), .val (.ref o5), .val (.int (1 : Int32)), .val (.ref o9), .val (.int (0 : Int32))] [])
        refine own_by (fun t k => XS.iload X11.here hx rfl (hb hby at_95) rfl k) ?_
        show ORun p e below s _ _ _ T11 (mkF m 97 #[.val (.int p1), .val (.int p2), .val (.int v1), .val (.int (1 : Int32)), .val (.ref b3), .val (.ref o5), .val (.int (1 : Int32)), .val (.ref o9), .val (.int (0 : Int32))] [(.int (0 : Int32))])
        refine own_by (fun t k => XS.ifYes X11.here hx rfl (pc0 := 97) (pc' := 104) rfl (hb hby at_97) rfl ((if0 _ _).trans (teq (by decide)).1) (by decide) (by decide) k) ?_
        show ORun p e below s _ _ _ T11 (mkF m 104 #[.val (.int p1), .val (.int p2), .val (.int v1), .val (.int (1 : Int32)), .val (.ref b3), .val (.ref o5), .val (.int (1 : Int32)), .val (.ref o9), .val (.int (0 : Int32))] [])
        refine own_by (fun t k => XS.iconst X11.here hx rfl (hb hby at_104) k) ?_
        show ORun p e below s _ _ _ T11 (mkF m 105 #[.val (.int p1), .val (.int p2), .val (.int v1), .val (.int (1 : Int32)), .val (.ref b3), .val (.ref o5), .val (.int (1 : Int32)), .val (.ref o9), .val (.int (0 : Int32))] [(.int (0 : Int32))])
        refine own_retN X11 hx (t := .boolean) hret (by simp) hlk (hb hby at_105) (by decide) (by decide) ?_
        exfalso
        omega
    · have t8 := own_ne hc8 (a := n5.toInt) (b := 1) rfl (by decide)
      refine own_by (fun t k => XS.icmpYes X7.here hx rfl (pc0 := 48) (pc' := 55) rfl (hb hby at_48) rfl (feq hc8).2 (by decide) (by decide) k) ?_
      show ORun p e below s _ _ _ T7 (mkF m 55 #[.val (.int p1), .val (.int p2), .val (.int v1), .val (.int (1 : Int32)), .val (.ref b3), .val (.ref o5), .unset, .unset, .unset] [])
      refine own_by (fun t k => XS.iconst X7.here hx rfl (hb hby at_55) k) ?_
      show ORun p e below s _ _ _ T7 (mkF m 56 #[.val (.int p1), .val (.int p2), .val (.int v1), .val (.int (1 : Int32)), .val (.ref b3), .val (.ref o5), .unset, .unset, .unset] [(.int (0 : Int32))])
      refine own_by (fun t k => XS.istore X7.here hx rfl (hb hby at_56) rfl (l' := #[.val (.int p1), .val (.int p2), .val (.int v1), .val (.int (1 : Int32)), .val (.ref b3), .val (.ref o5), .val (.int (0 : Int32)), .unset, .unset]) rfl k) ?_
      show ORun p e below s _ _ _ T7 (mkF m 58 #[.val (.int p1), .val (.int p2), .val (.int v1), .val (.int (1 : Int32)), .val (.ref b3), .val (.ref o5), .val (.int (0 : Int32)), .unset, .unset] [])
      refine own_by (fun t k => XS.aload X7.here hx rfl (hb hby at_58) rfl rfl k) ?_
      show ORun p e below s _ _ _ T7 (mkF m 60 #[.val (.int p1), .val (.int p2), .val (.int v1), .val (.int (1 : Int32)), .val (.ref b3), .val (.ref o5), .val (.int (0 : Int32)), .unset, .unset] [(.ref o5)])
      refine own_callV X7 hx hZ hown En5_o5 (hw _ (List.mem_of_getElem? (i := 18) rfl)) (hw _ (List.mem_of_getElem? (i := 19) rfl)) (notFace_of_selects (args := #[]) (mvT hZ (hw _ (List.mem_of_getElem? (i := 21) rfl)))) (hw _ (List.mem_of_getElem? (i := 21) rfl)) (hw _ (List.mem_of_getElem? (i := 20) rfl)) (hw _ (List.mem_of_getElem? (i := 2) rfl)) (hw _ (List.mem_of_getElem? (i := 22) rfl)) (by decide) (rm4 l Z a0 hw [] T5.heap n0 (Nat.le_trans (Nat.le_trans (Nat.le_trans Z0 E3.1) K4.1) K5.1) o5 p1 n5 En5_o5 g_o5 Fn5_pair_o5 Fn5_index_o5 (by omega)) e7 (by decide) (W := 0) (by decide) (by decide) (by decide) (argsL := []) (rest := []) (by rw [hml]; rfl) (lenOf pd_2 rfl) rfl rfl (Nat.le_of_eq rfl) (hb hby at_60) ?_
      intro T13 L13 u13 X13 hQ13
      obtain ⟨o13, n13, rfl, Nq13, K13, g_o13, sz_o13, En13_o13, Fn13_pair_o13, Fn13_index_o13, hn13⟩ := hQ13
      have N13 := Fr.app N7 Nq13
      show ORun p e below s _ _ _ T13 (mkF m 63 #[.val (.int p1), .val (.int p2), .val (.int v1), .val (.int (1 : Int32)), .val (.ref b3), .val (.ref o5), .val (.int (0 : Int32)), .unset, .unset] [(.ref o13)])
      refine own_by (fun t k => XS.astore X13.here hx rfl (hb hby at_63) rfl rfl (l' := #[.val (.int p1), .val (.int p2), .val (.int v1), .val (.int (1 : Int32)), .val (.ref b3), .val (.ref o5), .val (.int (0 : Int32)), .val (.ref o13), .unset]) rfl k) ?_
      show ORun p e below s _ _ _ T13 (mkF m 65 #[.val (.int p1), .val (.int p2), .val (.int v1), .val (.int (1 : Int32)), .val (.ref b3), .val (.ref o5), .val (.int (0 : Int32)), .val (.ref o13), .unset] [])
      refine own_by (fun t k => XS.aload X13.here hx rfl (hb hby at_65) rfl rfl k) ?_
      show ORun p e below s _ _ _ T13 (mkF m 67 #[.val (.int p1), .val (.int p2), .val (.int v1), .val (.int (1 : Int32)), .val (.ref b3), .val (.ref o5), .val (.int (0 : Int32)), .val (.ref o13), .unset] [(.ref o13)])
      refine own_callV X13 hx hZ hown En13_o13 (hw _ (List.mem_of_getElem? (i := 25) rfl)) (hw _ (List.mem_of_getElem? (i := 26) rfl)) (notFace_of_selects (args := #[]) (mvT hZ (hw _ (List.mem_of_getElem? (i := 28) rfl)))) (hw _ (List.mem_of_getElem? (i := 28) rfl)) (hw _ (List.mem_of_getElem? (i := 27) rfl)) (hw _ (List.mem_of_getElem? (i := 2) rfl)) (hw _ (List.mem_of_getElem? (i := 29) rfl)) (by decide) (rm5 l Z a0 hw [] T13.heap n0 (Nat.le_trans (Nat.le_trans (Nat.le_trans (Nat.le_trans Z0 E3.1) K4.1) K5.1) K13.1) o13 p1 n13 En13_o13 g_o13 Fn13_pair_o13 Fn13_index_o13) rfl (by decide) (W := 0) (by decide) (by decide) (by decide) (argsL := []) (rest := []) (by rw [hml]; rfl) (lenOf pd_3 rfl) rfl rfl (Nat.le_of_eq rfl) (hb hby at_67) ?_
      intro T14 L14 u14 X14 hQ14
      obtain ⟨rfl, Nq14, e14⟩ := hQ14
      have N14 := Fr.app N13 Nq14
      show ORun p e below s _ _ _ T14 (mkF m 70 #[.val (.int p1), .val (.int p2), .val (.int v1), .val (.int (1 : Int32)), .val (.ref b3), .val (.ref o5), .val (.int (0 : Int32)), .val (.ref o13), .unset] [(.int p1)])
      refine own_by (fun t k => XS.iloadN X14.here hx rfl (hb hby at_70) rfl k) ?_
      show ORun p e below s _ _ _ T14 (mkF m 71 #[.val (.int p1), .val (.int p2), .val (.int v1), .val (.int (1 : Int32)), .val (.ref b3), .val (.ref o5), .val (.int (0 : Int32)), .val (.ref o13), .unset] [(.int p1), (.int p1)])
      refine own_by (fun t k => XS.icmpNo X14.here hx rfl (hb hby at_71) rfl (teq rfl).2 k) ?_
      show ORun p e below s _ _ _ T14 (mkF m 74 #[.val (.int p1), .val (.int p2), .val (.int v1), .val (.int (1 : Int32)), .val (.ref b3), .val (.ref o5), .val (.int (0 : Int32)), .val (.ref o13), .unset] [])
      refine own_by (fun t k => XS.aload X14.here hx rfl (hb hby at_74) rfl rfl k) ?_
      show ORun p e below s _ _ _ T14 (mkF m 76 #[.val (.int p1), .val (.int p2), .val (.int v1), .val (.int (1 : Int32)), .val (.ref b3), .val (.ref o5), .val (.int (0 : Int32)), .val (.ref o13), .unset] [(.ref o13)])
      refine own_callV X14 hx hZ hown En13_o13 (hw _ (List.mem_of_getElem? (i := 30) rfl)) (hw _ (List.mem_of_getElem? (i := 31) rfl)) (notFace_of_selects (args := #[]) (mvT hZ (hw _ (List.mem_of_getElem? (i := 33) rfl)))) (hw _ (List.mem_of_getElem? (i := 33) rfl)) (hw _ (List.mem_of_getElem? (i := 32) rfl)) (hw _ (List.mem_of_getElem? (i := 2) rfl)) (hw _ (List.mem_of_getElem? (i := 34) rfl)) (by decide) (rm6 l Z a0 hw [] T13.heap n0 (Nat.le_trans (Nat.le_trans (Nat.le_trans (Nat.le_trans Z0 E3.1) K4.1) K5.1) K13.1) o13 p1 n13 En13_o13 g_o13 Fn13_pair_o13 Fn13_index_o13) e14 (by decide) (W := 0) (by decide) (by decide) (by decide) (argsL := []) (rest := []) (by rw [hml]; rfl) (lenOf pd_3 rfl) rfl rfl (Nat.le_of_eq rfl) (hb hby at_76) ?_
      intro T15 L15 u15 X15 hQ15
      obtain ⟨rfl, Nq15, e15⟩ := hQ15
      have N15 := Fr.app N14 Nq15
      show ORun p e below s _ _ _ T15 (mkF m 79 #[.val (.int p1), .val (.int p2), .val (.int v1), .val (.int (1 : Int32)), .val (.ref b3), .val (.ref o5), .val (.int (0 : Int32)), .val (.ref o13), .unset] [(.int n13)])
      refine own_by (fun t k => XS.iloadN X15.here hx rfl (hb hby at_79) rfl k) ?_
      show ORun p e below s _ _ _ T15 (mkF m 80 #[.val (.int p1), .val (.int p2), .val (.int v1), .val (.int (1 : Int32)), .val (.ref b3), .val (.ref o5), .val (.int (0 : Int32)), .val (.ref o13), .unset] [(.int v1), (.int n13)])
      by_cases hc16 : n13 = v1
      · have t16 := own_eq hc16 (a := n13.toInt) (b := v1.toInt) rfl rfl
        refine own_by (fun t k => XS.icmpNo X15.here hx rfl (hb hby at_80) rfl (teq hc16).2 k) ?_
        show ORun p e below s _ _ _ T15 (mkF m 83 #[.val (.int p1), .val (.int p2), .val (.int v1), .val (.int (1 : Int32)), .val (.ref b3), .val (.ref o5), .val (.int (0 : Int32)), .val (.ref o13), .unset] [])
        refine own_by (fun t k => XS.iconst X15.here hx rfl (hb hby at_83) k) ?_
        show ORun p e below s _ _ _ T15 (mkF m 84 #[.val (.int p1), .val (.int p2), .val (.int v1), .val (.int (1 : Int32)), .val (.ref b3), .val (.ref o5), .val (.int (0 : Int32)), .val (.ref o13), .unset] [(.int (1 : Int32))])
        refine own_by (fun t k => XS.goto X15.here hx rfl (pc0 := 84) (pc' := 88) rfl (hb hby at_84) (by decide) (by decide) k) ?_
        show ORun p e below s _ _ _ T15 (mkF m 88 #[.val (.int p1), .val (.int p2), .val (.int v1), .val (.int (1 : Int32)), .val (.ref b3), .val (.ref o5), .val (.int (0 : Int32)), .val (.ref o13), .unset] [(.int (1 : Int32))])
        refine own_by (fun t k => XS.istore X15.here hx rfl (hb hby at_88) rfl (l' := #[.val (.int p1), .val (.int p2), .val (.int v1), .val (.int (1 : Int32)), .val (.ref b3), .val (.ref o5), .val (.int (0 : Int32)), .val (.ref o13), .val (.int (1 : Int32))]) rfl k) ?_
        show ORun p e below s _ _ _ T15 (mkF m 90 #[.val (.int p1), .val (.int p2), .val (.int v1), .val (.int (1 : Int32)), .val (.ref b3), .val (.ref o5), .val (.int (0 : Int32)), .val (.ref o13), .val (.int (1 : Int32))] [])
        refine own_by (fun t k => XS.iload X15.here hx rfl (hb hby at_90) rfl k) ?_
        show ORun p e below s _ _ _ T15 (mkF m 92 #[.val (.int p1), .val (.int p2), .val (.int v1), .val (.int (1 : Int32)), .val (.ref b3), .val (.ref o5), .val (.int (0 : Int32)), .val (.ref o13), .val (.int (1 : Int32))] [(.int (0 : Int32))])
        refine own_by (fun t k => XS.ifYes X15.here hx rfl (pc0 := 92) (pc' := 104) rfl (hb hby at_92) rfl ((if0 _ _).trans (teq (by decide)).1) (by decide) (by decide) k) ?_
        show ORun p e below s _ _ _ T15 (mkF m 104 #[.val (.int p1), .val (.int p2), .val (.int v1), .val (.int (1 : Int32)), .val (.ref b3), .val (.ref o5), .val (.int (0 : Int32)), .val (.ref o13), .val (.int (1 : Int32))] [])
        refine own_by (fun t k => XS.iconst X15.here hx rfl (hb hby at_104) k) ?_
        show ORun p e below s _ _ _ T15 (mkF m 105 #[.val (.int p1), .val (.int p2), .val (.int v1), .val (.int (1 : Int32)), .val (.ref b3), .val (.ref o5), .val (.int (0 : Int32)), .val (.ref o13), .val (.int (1 : Int32))] [(.int (0 : Int32))])
        refine own_retN X15 hx (t := .boolean) hret (by simp) hlk (hb hby at_105) (by decide) (by decide) ?_
        exfalso
        omega
      · have t16 := own_ne hc16 (a := n13.toInt) (b := v1.toInt) rfl rfl
        refine own_by (fun t k => XS.icmpYes X15.here hx rfl (pc0 := 80) (pc' := 87) rfl (hb hby at_80) rfl (feq hc16).2 (by decide) (by decide) k) ?_
        show ORun p e below s _ _ _ T15 (mkF m 87 #[.val (.int p1), .val (.int p2), .val (.int v1), .val (.int (1 : Int32)), .val (.ref b3), .val (.ref o5), .val (.int (0 : Int32)), .val (.ref o13), .unset] [])
        refine own_by (fun t k => XS.iconst X15.here hx rfl (hb hby at_87) k) ?_
        show ORun p e below s _ _ _ T15 (mkF m 88 #[.val (.int p1), .val (.int p2), .val (.int v1), .val (.int (1 : Int32)), .val (.ref b3), .val (.ref o5), .val (.int (0 : Int32)), .val (.ref o13), .unset] [(.int (0 : Int32))])
        refine own_by (fun t k => XS.istore X15.here hx rfl (hb hby at_88) rfl (l' := #[.val (.int p1), .val (.int p2), .val (.int v1), .val (.int (1 : Int32)), .val (.ref b3), .val (.ref o5), .val (.int (0 : Int32)), .val (.ref o13), .val (.int (0 : Int32))]) rfl k) ?_
        show ORun p e below s _ _ _ T15 (mkF m 90 #[.val (.int p1), .val (.int p2), .val (.int v1), .val (.int (1 : Int32)), .val (.ref b3), .val (.ref o5), .val (.int (0 : Int32)), .val (.ref o13), .val (.int (0 : Int32))] [])
        refine own_by (fun t k => XS.iload X15.here hx rfl (hb hby at_90) rfl k) ?_
        show ORun p e below s _ _ _ T15 (mkF m 92 #[.val (.int p1), .val (.int p2), .val (.int v1), .val (.int (1 : Int32)), .val (.ref b3), .val (.ref o5), .val (.int (0 : Int32)), .val (.ref o13), .val (.int (0 : Int32))] [(.int (0 : Int32))])
        refine own_by (fun t k => XS.ifYes X15.here hx rfl (pc0 := 92) (pc' := 104) rfl (hb hby at_92) rfl ((if0 _ _).trans (teq (by decide)).1) (by decide) (by decide) k) ?_
        show ORun p e below s _ _ _ T15 (mkF m 104 #[.val (.int p1), .val (.int p2), .val (.int v1), .val (.int (1 : Int32)), .val (.ref b3), .val (.ref o5), .val (.int (0 : Int32)), .val (.ref o13), .val (.int (0 : Int32))] [])
        refine own_by (fun t k => XS.iconst X15.here hx rfl (hb hby at_104) k) ?_
        show ORun p e below s _ _ _ T15 (mkF m 105 #[.val (.int p1), .val (.int p2), .val (.int v1), .val (.int (1 : Int32)), .val (.ref b3), .val (.ref o5), .val (.int (0 : Int32)), .val (.ref o13), .val (.int (0 : Int32))] [(.int (0 : Int32))])
        refine own_retN X15 hx (t := .boolean) hret (by simp) hlk (hb hby at_105) (by decide) (by decide) ?_
        exfalso
        omega
  · have t2 := own_ne hc2 (a := v1.toInt) (b := 0) rfl (by decide)
    refine own_by (fun t k => XS.ifYes X0.here hx rfl (pc0 := 5) (pc' := 13) rfl (hb hby at_5) rfl ((if0 _ _).trans (feq hc2).2) (by decide) (by decide) k) ?_
    show ORun p e below s _ _ _ s₁ (mkF m 13 #[.val (.int p1), .val (.int p2), .val (.int v1), .unset, .unset, .unset, .unset, .unset, .unset] [])
    refine own_by (fun t k => XS.iconst X0.here hx rfl (hb hby at_13) k) ?_
    show ORun p e below s _ _ _ s₁ (mkF m 14 #[.val (.int p1), .val (.int p2), .val (.int v1), .unset, .unset, .unset, .unset, .unset, .unset] [(.int (0 : Int32))])
    refine own_by (fun t k => XS.istoreN X0.here hx rfl (hb hby at_14) rfl (l' := #[.val (.int p1), .val (.int p2), .val (.int v1), .val (.int (0 : Int32)), .unset, .unset, .unset, .unset, .unset]) rfl k) ?_
    show ORun p e below s _ _ _ s₁ (mkF m 15 #[.val (.int p1), .val (.int p2), .val (.int v1), .val (.int (0 : Int32)), .unset, .unset, .unset, .unset, .unset] [])
    obtain ⟨T17, h17, X17, e17, E17, A17, D17, -, st17⟩ := newO X0 hx hZ hown (hw _ (List.mem_of_getElem? (i := 0) rfl)) (hw _ (List.mem_of_getElem? (i := 1) rfl)) (hw _ (List.mem_of_getElem? (i := 2) rfl)) e0 (g := (mkF m 15 #[.val (.int p1), .val (.int p2), .val (.int v1), .val (.int (0 : Int32)), .unset, .unset, .unset, .unset, .unset] [])) rfl (hb hby at_15) (by decide) (by decide)
    obtain ⟨b17, g17⟩ : ∃ z, z = h0.size := ⟨_, rfl⟩
    rw [← g17] at A17 D17 st17
    have old_b17 : n0 ≤ b17 := Nat.le_trans Z0 (Nat.le_of_eq g17.symm)
    have sz_b17 : h0.size ≤ b17 := Nat.le_trans (Nat.le_refl h0.size) (Nat.le_of_eq g17.symm)
    have F17_15 : Fld Z h17 b17 "com/example/hold1/hold1/Disk$Place" "pair" "I" (.int (0 : Int32)) := D17 (Or.inr (hw _ (List.mem_of_getElem? (i := 15) rfl))) (ty := .int) (by decide)
    have F17_17 : Fld Z h17 b17 "com/example/hold1/hold1/Disk$Place" "index" "I" (.int (0 : Int32)) := D17 (Or.inr (hw _ (List.mem_of_getElem? (i := 17) rfl))) (ty := .int) (by decide)
    refine own_by st17 ?_
    show ORun p e below s _ _ _ T17 (mkF m 18 #[.val (.int p1), .val (.int p2), .val (.int v1), .val (.int (0 : Int32)), .unset, .unset, .unset, .unset, .unset] [(.ref b17)])
    refine own_by (fun t k => XS.dup X17.here hx rfl (hb hby at_18) rfl rfl k) ?_
    show ORun p e below s _ _ _ T17 (mkF m 19 #[.val (.int p1), .val (.int p2), .val (.int v1), .val (.int (0 : Int32)), .unset, .unset, .unset, .unset, .unset] [(.ref b17), (.ref b17)])
    refine own_by (fun t k => XS.iloadN X17.here hx rfl (hb hby at_19) rfl k) ?_
    show ORun p e below s _ _ _ T17 (mkF m 20 #[.val (.int p1), .val (.int p2), .val (.int v1), .val (.int (0 : Int32)), .unset, .unset, .unset, .unset, .unset] [(.int p1), (.ref b17), (.ref b17)])
    refine own_by (fun t k => XS.iloadN X17.here hx rfl (hb hby at_20) rfl k) ?_
    show ORun p e below s _ _ _ T17 (mkF m 21 #[.val (.int p1), .val (.int p2), .val (.int v1), .val (.int (0 : Int32)), .unset, .unset, .unset, .unset, .unset] [(.int v1), (.int p1), (.ref b17), (.ref b17)])
    refine own_callC X17 hx hZ hown rfl (hw _ (List.mem_of_getElem? (i := 3) rfl)) (hw _ (List.mem_of_getElem? (i := 4) rfl)) (hw _ (List.mem_of_getElem? (i := 2) rfl)) (hw _ (List.mem_of_getElem? (i := 5) rfl)) (by decide) (rm1 l Z a0 hw [] h17 n0 (Nat.le_trans Z0 E17.1) b17 p1 v1 A17 old_b17 F17_15 F17_17) e17 (by decide) (W := 1) (by decide) (by decide) (by decide) (b := b17) (argsL := [(.int p1), (.int v1)]) (rest := [(.ref b17)]) (by rw [hml]; rfl) (lenOf pd_1 rfl) rfl rfl (Nat.le_of_eq rfl) (hb hby at_21) ?_
    intro T18 L18 u18 X18 hQ18
    obtain ⟨rfl, Nq18, K18, En18_b17, Fn18_pair_b17, Fn18_index_b17⟩ := hQ18
    have N18 := Fr.app N0 Nq18
    show ORun p e below s _ _ _ T18 (mkF m 24 #[.val (.int p1), .val (.int p2), .val (.int v1), .val (.int (0 : Int32)), .unset, .unset, .unset, .unset, .unset] [(.ref b17)])
    refine own_by (fun t k => XS.astore X18.here hx rfl (hb hby at_24) rfl rfl (l' := #[.val (.int p1), .val (.int p2), .val (.int v1), .val (.int (0 : Int32)), .val (.ref b17), .unset, .unset, .unset, .unset]) rfl k) ?_
    show ORun p e below s _ _ _ T18 (mkF m 26 #[.val (.int p1), .val (.int p2), .val (.int v1), .val (.int (0 : Int32)), .val (.ref b17), .unset, .unset, .unset, .unset] [])
    refine own_by (fun t k => XS.aload X18.here hx rfl (hb hby at_26) rfl rfl k) ?_
    show ORun p e below s _ _ _ T18 (mkF m 28 #[.val (.int p1), .val (.int p2), .val (.int v1), .val (.int (0 : Int32)), .val (.ref b17), .unset, .unset, .unset, .unset] [(.ref b17)])
    refine own_callV X18 hx hZ hown En18_b17 (hw _ (List.mem_of_getElem? (i := 18) rfl)) (hw _ (List.mem_of_getElem? (i := 19) rfl)) (notFace_of_selects (args := #[]) (mvT hZ (hw _ (List.mem_of_getElem? (i := 21) rfl)))) (hw _ (List.mem_of_getElem? (i := 21) rfl)) (hw _ (List.mem_of_getElem? (i := 20) rfl)) (hw _ (List.mem_of_getElem? (i := 2) rfl)) (hw _ (List.mem_of_getElem? (i := 22) rfl)) (by decide) (rm4 l Z a0 hw [] T18.heap n0 (Nat.le_trans (Nat.le_trans Z0 E17.1) K18.1) b17 p1 v1 En18_b17 old_b17 Fn18_pair_b17 Fn18_index_b17 (by omega)) rfl (by decide) (W := 0) (by decide) (by decide) (by decide) (argsL := []) (rest := []) (by rw [hml]; rfl) (lenOf pd_2 rfl) rfl rfl (Nat.le_of_eq rfl) (hb hby at_28) ?_
    intro T19 L19 u19 X19 hQ19
    obtain ⟨o19, n19, rfl, Nq19, K19, g_o19, sz_o19, En19_o19, Fn19_pair_o19, Fn19_index_o19, hn19⟩ := hQ19
    have N19 := Fr.app N18 Nq19
    show ORun p e below s _ _ _ T19 (mkF m 31 #[.val (.int p1), .val (.int p2), .val (.int v1), .val (.int (0 : Int32)), .val (.ref b17), .unset, .unset, .unset, .unset] [(.ref o19)])
    refine own_by (fun t k => XS.astore X19.here hx rfl (hb hby at_31) rfl rfl (l' := #[.val (.int p1), .val (.int p2), .val (.int v1), .val (.int (0 : Int32)), .val (.ref b17), .val (.ref o19), .unset, .unset, .unset]) rfl k) ?_
    show ORun p e below s _ _ _ T19 (mkF m 33 #[.val (.int p1), .val (.int p2), .val (.int v1), .val (.int (0 : Int32)), .val (.ref b17), .val (.ref o19), .unset, .unset, .unset] [])
    refine own_by (fun t k => XS.aload X19.here hx rfl (hb hby at_33) rfl rfl k) ?_
    show ORun p e below s _ _ _ T19 (mkF m 35 #[.val (.int p1), .val (.int p2), .val (.int v1), .val (.int (0 : Int32)), .val (.ref b17), .val (.ref o19), .unset, .unset, .unset] [(.ref o19)])
    refine own_callV X19 hx hZ hown En19_o19 (hw _ (List.mem_of_getElem? (i := 25) rfl)) (hw _ (List.mem_of_getElem? (i := 26) rfl)) (notFace_of_selects (args := #[]) (mvT hZ (hw _ (List.mem_of_getElem? (i := 28) rfl)))) (hw _ (List.mem_of_getElem? (i := 28) rfl)) (hw _ (List.mem_of_getElem? (i := 27) rfl)) (hw _ (List.mem_of_getElem? (i := 2) rfl)) (hw _ (List.mem_of_getElem? (i := 29) rfl)) (by decide) (rm5 l Z a0 hw [] T19.heap n0 (Nat.le_trans (Nat.le_trans (Nat.le_trans Z0 E17.1) K18.1) K19.1) o19 p1 n19 En19_o19 g_o19 Fn19_pair_o19 Fn19_index_o19) rfl (by decide) (W := 0) (by decide) (by decide) (by decide) (argsL := []) (rest := []) (by rw [hml]; rfl) (lenOf pd_3 rfl) rfl rfl (Nat.le_of_eq rfl) (hb hby at_35) ?_
    intro T20 L20 u20 X20 hQ20
    obtain ⟨rfl, Nq20, e20⟩ := hQ20
    have N20 := Fr.app N19 Nq20
    show ORun p e below s _ _ _ T20 (mkF m 38 #[.val (.int p1), .val (.int p2), .val (.int v1), .val (.int (0 : Int32)), .val (.ref b17), .val (.ref o19), .unset, .unset, .unset] [(.int p1)])
    refine own_by (fun t k => XS.iloadN X20.here hx rfl (hb hby at_38) rfl k) ?_
    show ORun p e below s _ _ _ T20 (mkF m 39 #[.val (.int p1), .val (.int p2), .val (.int v1), .val (.int (0 : Int32)), .val (.ref b17), .val (.ref o19), .unset, .unset, .unset] [(.int p1), (.int p1)])
    refine own_by (fun t k => XS.icmpNo X20.here hx rfl (hb hby at_39) rfl (teq rfl).2 k) ?_
    show ORun p e below s _ _ _ T20 (mkF m 42 #[.val (.int p1), .val (.int p2), .val (.int v1), .val (.int (0 : Int32)), .val (.ref b17), .val (.ref o19), .unset, .unset, .unset] [])
    refine own_by (fun t k => XS.aload X20.here hx rfl (hb hby at_42) rfl rfl k) ?_
    show ORun p e below s _ _ _ T20 (mkF m 44 #[.val (.int p1), .val (.int p2), .val (.int v1), .val (.int (0 : Int32)), .val (.ref b17), .val (.ref o19), .unset, .unset, .unset] [(.ref o19)])
    refine own_callV X20 hx hZ hown En19_o19 (hw _ (List.mem_of_getElem? (i := 30) rfl)) (hw _ (List.mem_of_getElem? (i := 31) rfl)) (notFace_of_selects (args := #[]) (mvT hZ (hw _ (List.mem_of_getElem? (i := 33) rfl)))) (hw _ (List.mem_of_getElem? (i := 33) rfl)) (hw _ (List.mem_of_getElem? (i := 32) rfl)) (hw _ (List.mem_of_getElem? (i := 2) rfl)) (hw _ (List.mem_of_getElem? (i := 34) rfl)) (by decide) (rm6 l Z a0 hw [] T19.heap n0 (Nat.le_trans (Nat.le_trans (Nat.le_trans Z0 E17.1) K18.1) K19.1) o19 p1 n19 En19_o19 g_o19 Fn19_pair_o19 Fn19_index_o19) e20 (by decide) (W := 0) (by decide) (by decide) (by decide) (argsL := []) (rest := []) (by rw [hml]; rfl) (lenOf pd_3 rfl) rfl rfl (Nat.le_of_eq rfl) (hb hby at_44) ?_
    intro T21 L21 u21 X21 hQ21
    obtain ⟨rfl, Nq21, e21⟩ := hQ21
    have N21 := Fr.app N20 Nq21
    show ORun p e below s _ _ _ T21 (mkF m 47 #[.val (.int p1), .val (.int p2), .val (.int v1), .val (.int (0 : Int32)), .val (.ref b17), .val (.ref o19), .unset, .unset, .unset] [(.int n19)])
    refine own_by (fun t k => XS.iloadN X21.here hx rfl (hb hby at_47) rfl k) ?_
    show ORun p e below s _ _ _ T21 (mkF m 48 #[.val (.int p1), .val (.int p2), .val (.int v1), .val (.int (0 : Int32)), .val (.ref b17), .val (.ref o19), .unset, .unset, .unset] [(.int (0 : Int32)), (.int n19)])
    by_cases hc22 : n19 = (0 : Int32)
    · have t22 := own_eq hc22 (a := n19.toInt) (b := 0) rfl (by decide)
      refine own_by (fun t k => XS.icmpNo X21.here hx rfl (hb hby at_48) rfl (teq hc22).2 k) ?_
      show ORun p e below s _ _ _ T21 (mkF m 51 #[.val (.int p1), .val (.int p2), .val (.int v1), .val (.int (0 : Int32)), .val (.ref b17), .val (.ref o19), .unset, .unset, .unset] [])
      refine own_by (fun t k => XS.iconst X21.here hx rfl (hb hby at_51) k) ?_
      show ORun p e below s _ _ _ T21 (mkF m 52 #[.val (.int p1), .val (.int p2), .val (.int v1), .val (.int (0 : Int32)), .val (.ref b17), .val (.ref o19), .unset, .unset, .unset] [(.int (1 : Int32))])
      refine own_by (fun t k => XS.goto X21.here hx rfl (pc0 := 52) (pc' := 56) rfl (hb hby at_52) (by decide) (by decide) k) ?_
      show ORun p e below s _ _ _ T21 (mkF m 56 #[.val (.int p1), .val (.int p2), .val (.int v1), .val (.int (0 : Int32)), .val (.ref b17), .val (.ref o19), .unset, .unset, .unset] [(.int (1 : Int32))])
      refine own_by (fun t k => XS.istore X21.here hx rfl (hb hby at_56) rfl (l' := #[.val (.int p1), .val (.int p2), .val (.int v1), .val (.int (0 : Int32)), .val (.ref b17), .val (.ref o19), .val (.int (1 : Int32)), .unset, .unset]) rfl k) ?_
      show ORun p e below s _ _ _ T21 (mkF m 58 #[.val (.int p1), .val (.int p2), .val (.int v1), .val (.int (0 : Int32)), .val (.ref b17), .val (.ref o19), .val (.int (1 : Int32)), .unset, .unset] [])
      refine own_by (fun t k => XS.aload X21.here hx rfl (hb hby at_58) rfl rfl k) ?_
      show ORun p e below s _ _ _ T21 (mkF m 60 #[.val (.int p1), .val (.int p2), .val (.int v1), .val (.int (0 : Int32)), .val (.ref b17), .val (.ref o19), .val (.int (1 : Int32)), .unset, .unset] [(.ref o19)])
      refine own_callV X21 hx hZ hown En19_o19 (hw _ (List.mem_of_getElem? (i := 18) rfl)) (hw _ (List.mem_of_getElem? (i := 19) rfl)) (notFace_of_selects (args := #[]) (mvT hZ (hw _ (List.mem_of_getElem? (i := 21) rfl)))) (hw _ (List.mem_of_getElem? (i := 21) rfl)) (hw _ (List.mem_of_getElem? (i := 20) rfl)) (hw _ (List.mem_of_getElem? (i := 2) rfl)) (hw _ (List.mem_of_getElem? (i := 22) rfl)) (by decide) (rm4 l Z a0 hw [] T19.heap n0 (Nat.le_trans (Nat.le_trans (Nat.le_trans Z0 E17.1) K18.1) K19.1) o19 p1 n19 En19_o19 g_o19 Fn19_pair_o19 Fn19_index_o19 (by omega)) e21 (by decide) (W := 0) (by decide) (by decide) (by decide) (argsL := []) (rest := []) (by rw [hml]; rfl) (lenOf pd_2 rfl) rfl rfl (Nat.le_of_eq rfl) (hb hby at_60) ?_
      intro T23 L23 u23 X23 hQ23
      obtain ⟨o23, n23, rfl, Nq23, K23, g_o23, sz_o23, En23_o23, Fn23_pair_o23, Fn23_index_o23, hn23⟩ := hQ23
      have N23 := Fr.app N21 Nq23
      show ORun p e below s _ _ _ T23 (mkF m 63 #[.val (.int p1), .val (.int p2), .val (.int v1), .val (.int (0 : Int32)), .val (.ref b17), .val (.ref o19), .val (.int (1 : Int32)), .unset, .unset] [(.ref o23)])
      refine own_by (fun t k => XS.astore X23.here hx rfl (hb hby at_63) rfl rfl (l' := #[.val (.int p1), .val (.int p2), .val (.int v1), .val (.int (0 : Int32)), .val (.ref b17), .val (.ref o19), .val (.int (1 : Int32)), .val (.ref o23), .unset]) rfl k) ?_
      show ORun p e below s _ _ _ T23 (mkF m 65 #[.val (.int p1), .val (.int p2), .val (.int v1), .val (.int (0 : Int32)), .val (.ref b17), .val (.ref o19), .val (.int (1 : Int32)), .val (.ref o23), .unset] [])
      refine own_by (fun t k => XS.aload X23.here hx rfl (hb hby at_65) rfl rfl k) ?_
      show ORun p e below s _ _ _ T23 (mkF m 67 #[.val (.int p1), .val (.int p2), .val (.int v1), .val (.int (0 : Int32)), .val (.ref b17), .val (.ref o19), .val (.int (1 : Int32)), .val (.ref o23), .unset] [(.ref o23)])
      refine own_callV X23 hx hZ hown En23_o23 (hw _ (List.mem_of_getElem? (i := 25) rfl)) (hw _ (List.mem_of_getElem? (i := 26) rfl)) (notFace_of_selects (args := #[]) (mvT hZ (hw _ (List.mem_of_getElem? (i := 28) rfl)))) (hw _ (List.mem_of_getElem? (i := 28) rfl)) (hw _ (List.mem_of_getElem? (i := 27) rfl)) (hw _ (List.mem_of_getElem? (i := 2) rfl)) (hw _ (List.mem_of_getElem? (i := 29) rfl)) (by decide) (rm5 l Z a0 hw [] T23.heap n0 (Nat.le_trans (Nat.le_trans (Nat.le_trans (Nat.le_trans Z0 E17.1) K18.1) K19.1) K23.1) o23 p1 n23 En23_o23 g_o23 Fn23_pair_o23 Fn23_index_o23) rfl (by decide) (W := 0) (by decide) (by decide) (by decide) (argsL := []) (rest := []) (by rw [hml]; rfl) (lenOf pd_3 rfl) rfl rfl (Nat.le_of_eq rfl) (hb hby at_67) ?_
      intro T24 L24 u24 X24 hQ24
      obtain ⟨rfl, Nq24, e24⟩ := hQ24
      have N24 := Fr.app N23 Nq24
      show ORun p e below s _ _ _ T24 (mkF m 70 #[.val (.int p1), .val (.int p2), .val (.int v1), .val (.int (0 : Int32)), .val (.ref b17), .val (.ref o19), .val (.int (1 : Int32)), .val (.ref o23), .unset] [(.int p1)])
      refine own_by (fun t k => XS.iloadN X24.here hx rfl (hb hby at_70) rfl k) ?_
      show ORun p e below s _ _ _ T24 (mkF m 71 #[.val (.int p1), .val (.int p2), .val (.int v1), .val (.int (0 : Int32)), .val (.ref b17), .val (.ref o19), .val (.int (1 : Int32)), .val (.ref o23), .unset] [(.int p1), (.int p1)])
      refine own_by (fun t k => XS.icmpNo X24.here hx rfl (hb hby at_71) rfl (teq rfl).2 k) ?_
      show ORun p e below s _ _ _ T24 (mkF m 74 #[.val (.int p1), .val (.int p2), .val (.int v1), .val (.int (0 : Int32)), .val (.ref b17), .val (.ref o19), .val (.int (1 : Int32)), .val (.ref o23), .unset] [])
      refine own_by (fun t k => XS.aload X24.here hx rfl (hb hby at_74) rfl rfl k) ?_
      show ORun p e below s _ _ _ T24 (mkF m 76 #[.val (.int p1), .val (.int p2), .val (.int v1), .val (.int (0 : Int32)), .val (.ref b17), .val (.ref o19), .val (.int (1 : Int32)), .val (.ref o23), .unset] [(.ref o23)])
      refine own_callV X24 hx hZ hown En23_o23 (hw _ (List.mem_of_getElem? (i := 30) rfl)) (hw _ (List.mem_of_getElem? (i := 31) rfl)) (notFace_of_selects (args := #[]) (mvT hZ (hw _ (List.mem_of_getElem? (i := 33) rfl)))) (hw _ (List.mem_of_getElem? (i := 33) rfl)) (hw _ (List.mem_of_getElem? (i := 32) rfl)) (hw _ (List.mem_of_getElem? (i := 2) rfl)) (hw _ (List.mem_of_getElem? (i := 34) rfl)) (by decide) (rm6 l Z a0 hw [] T23.heap n0 (Nat.le_trans (Nat.le_trans (Nat.le_trans (Nat.le_trans Z0 E17.1) K18.1) K19.1) K23.1) o23 p1 n23 En23_o23 g_o23 Fn23_pair_o23 Fn23_index_o23) e24 (by decide) (W := 0) (by decide) (by decide) (by decide) (argsL := []) (rest := []) (by rw [hml]; rfl) (lenOf pd_3 rfl) rfl rfl (Nat.le_of_eq rfl) (hb hby at_76) ?_
      intro T25 L25 u25 X25 hQ25
      obtain ⟨rfl, Nq25, e25⟩ := hQ25
      have N25 := Fr.app N24 Nq25
      show ORun p e below s _ _ _ T25 (mkF m 79 #[.val (.int p1), .val (.int p2), .val (.int v1), .val (.int (0 : Int32)), .val (.ref b17), .val (.ref o19), .val (.int (1 : Int32)), .val (.ref o23), .unset] [(.int n23)])
      refine own_by (fun t k => XS.iloadN X25.here hx rfl (hb hby at_79) rfl k) ?_
      show ORun p e below s _ _ _ T25 (mkF m 80 #[.val (.int p1), .val (.int p2), .val (.int v1), .val (.int (0 : Int32)), .val (.ref b17), .val (.ref o19), .val (.int (1 : Int32)), .val (.ref o23), .unset] [(.int v1), (.int n23)])
      by_cases hc26 : n23 = v1
      · have t26 := own_eq hc26 (a := n23.toInt) (b := v1.toInt) rfl rfl
        refine own_by (fun t k => XS.icmpNo X25.here hx rfl (hb hby at_80) rfl (teq hc26).2 k) ?_
        show ORun p e below s _ _ _ T25 (mkF m 83 #[.val (.int p1), .val (.int p2), .val (.int v1), .val (.int (0 : Int32)), .val (.ref b17), .val (.ref o19), .val (.int (1 : Int32)), .val (.ref o23), .unset] [])
        refine own_by (fun t k => XS.iconst X25.here hx rfl (hb hby at_83) k) ?_
        show ORun p e below s _ _ _ T25 (mkF m 84 #[.val (.int p1), .val (.int p2), .val (.int v1), .val (.int (0 : Int32)), .val (.ref b17), .val (.ref o19), .val (.int (1 : Int32)), .val (.ref o23), .unset] [(.int (1 : Int32))])
        refine own_by (fun t k => XS.goto X25.here hx rfl (pc0 := 84) (pc' := 88) rfl (hb hby at_84) (by decide) (by decide) k) ?_
        show ORun p e below s _ _ _ T25 (mkF m 88 #[.val (.int p1), .val (.int p2), .val (.int v1), .val (.int (0 : Int32)), .val (.ref b17), .val (.ref o19), .val (.int (1 : Int32)), .val (.ref o23), .unset] [(.int (1 : Int32))])
        refine own_by (fun t k => XS.istore X25.here hx rfl (hb hby at_88) rfl (l' := #[.val (.int p1), .val (.int p2), .val (.int v1), .val (.int (0 : Int32)), .val (.ref b17), .val (.ref o19), .val (.int (1 : Int32)), .val (.ref o23), .val (.int (1 : Int32))]) rfl k) ?_
        show ORun p e below s _ _ _ T25 (mkF m 90 #[.val (.int p1), .val (.int p2), .val (.int v1), .val (.int (0 : Int32)), .val (.ref b17), .val (.ref o19), .val (.int (1 : Int32)), .val (.ref o23), .val (.int (1 : Int32))] [])
        refine own_by (fun t k => XS.iload X25.here hx rfl (hb hby at_90) rfl k) ?_
        show ORun p e below s _ _ _ T25 (mkF m 92 #[.val (.int p1), .val (.int p2), .val (.int v1), .val (.int (0 : Int32)), .val (.ref b17), .val (.ref o19), .val (.int (1 : Int32)), .val (.ref o23), .val (.int (1 : Int32))] [(.int (1 : Int32))])
        refine own_by (fun t k => XS.ifNo X25.here hx rfl (hb hby at_92) rfl ((if0 _ _).trans (feq (by decide)).1) k) ?_
        show ORun p e below s _ _ _ T25 (mkF m 95 #[.val (.int p1), .val (.int p2), .val (.int v1), .val (.int (0 : Int32)), .val (.ref b17), .val (.ref o19), .val (.int (1 : Int32)), .val (.ref o23), .val (.int (1 : Int32))] [])
        refine own_by (fun t k => XS.iload X25.here hx rfl (hb hby at_95) rfl k) ?_
        show ORun p e below s _ _ _ T25 (mkF m 97 #[.val (.int p1), .val (.int p2), .val (.int v1), .val (.int (0 : Int32)), .val (.ref b17), .val (.ref o19), .val (.int (1 : Int32)), .val (.ref o23), .val (.int (1 : Int32))] [(.int (1 : Int32))])
        refine own_by (fun t k => XS.ifNo X25.here hx rfl (hb hby at_97) rfl ((if0 _ _).trans (feq (by decide)).1) k) ?_
        show ORun p e below s _ _ _ T25 (mkF m 100 #[.val (.int p1), .val (.int p2), .val (.int v1), .val (.int (0 : Int32)), .val (.ref b17), .val (.ref o19), .val (.int (1 : Int32)), .val (.ref o23), .val (.int (1 : Int32))] [])
        refine own_by (fun t k => XS.iconst X25.here hx rfl (hb hby at_100) k) ?_
        show ORun p e below s _ _ _ T25 (mkF m 101 #[.val (.int p1), .val (.int p2), .val (.int v1), .val (.int (0 : Int32)), .val (.ref b17), .val (.ref o19), .val (.int (1 : Int32)), .val (.ref o23), .val (.int (1 : Int32))] [(.int (1 : Int32))])
        refine own_by (fun t k => XS.goto X25.here hx rfl (pc0 := 101) (pc' := 105) rfl (hb hby at_101) (by decide) (by decide) k) ?_
        show ORun p e below s _ _ _ T25 (mkF m 105 #[.val (.int p1), .val (.int p2), .val (.int v1), .val (.int (0 : Int32)), .val (.ref b17), .val (.ref o19), .val (.int (1 : Int32)), .val (.ref o23), .val (.int (1 : Int32))] [(.int (1 : Int32))])
        refine own_retN X25 hx (t := .boolean) hret (by simp) hlk (hb hby at_105) (by decide) (by decide) ?_
        exact ⟨rfl, N25⟩
      · have t26 := own_ne hc26 (a := n23.toInt) (b := v1.toInt) rfl rfl
        refine own_by (fun t k => XS.icmpYes X25.here hx rfl (pc0 := 80) (pc' := 87) rfl (hb hby at_80) rfl (feq hc26).2 (by decide) (by decide) k) ?_
        show ORun p e below s _ _ _ T25 (mkF m 87 #[.val (.int p1), .val (.int p2), .val (.int v1), .val (.int (0 : Int32)), .val (.ref b17), .val (.ref o19), .val (.int (1 : Int32)), .val (.ref o23), .unset] [])
        refine own_by (fun t k => XS.iconst X25.here hx rfl (hb hby at_87) k) ?_
        show ORun p e below s _ _ _ T25 (mkF m 88 #[.val (.int p1), .val (.int p2), .val (.int v1), .val (.int (0 : Int32)), .val (.ref b17), .val (.ref o19), .val (.int (1 : Int32)), .val (.ref o23), .unset] [(.int (0 : Int32))])
        refine own_by (fun t k => XS.istore X25.here hx rfl (hb hby at_88) rfl (l' := #[.val (.int p1), .val (.int p2), .val (.int v1), .val (.int (0 : Int32)), .val (.ref b17), .val (.ref o19), .val (.int (1 : Int32)), .val (.ref o23), .val (.int (0 : Int32))]) rfl k) ?_
        show ORun p e below s _ _ _ T25 (mkF m 90 #[.val (.int p1), .val (.int p2), .val (.int v1), .val (.int (0 : Int32)), .val (.ref b17), .val (.ref o19), .val (.int (1 : Int32)), .val (.ref o23), .val (.int (0 : Int32))] [])
        refine own_by (fun t k => XS.iload X25.here hx rfl (hb hby at_90) rfl k) ?_
        show ORun p e below s _ _ _ T25 (mkF m 92 #[.val (.int p1), .val (.int p2), .val (.int v1), .val (.int (0 : Int32)), .val (.ref b17), .val (.ref o19), .val (.int (1 : Int32)), .val (.ref o23), .val (.int (0 : Int32))] [(.int (1 : Int32))])
        refine own_by (fun t k => XS.ifNo X25.here hx rfl (hb hby at_92) rfl ((if0 _ _).trans (feq (by decide)).1) k) ?_
        show ORun p e below s _ _ _ T25 (mkF m 95 #[.val (.int p1), .val (.int p2), .val (.int v1), .val (.int (0 : Int32)), .val (.ref b17), .val (.ref o19), .val (.int (1 : Int32)), .val (.ref o23), .val (.int (0 : Int32))] [])
        refine own_by (fun t k => XS.iload X25.here hx rfl (hb hby at_95) rfl k) ?_
        show ORun p e below s _ _ _ T25 (mkF m 97 #[.val (.int p1), .val (.int p2), .val (.int v1), .val (.int (0 : Int32)), .val (.ref b17), .val (.ref o19), .val (.int (1 : Int32)), .val (.ref o23), .val (.int (0 : Int32))] [(.int (0 : Int32))])
        refine own_by (fun t k => XS.ifYes X25.here hx rfl (pc0 := 97) (pc' := 104) rfl (hb hby at_97) rfl ((if0 _ _).trans (teq (by decide)).1) (by decide) (by decide) k) ?_
        show ORun p e below s _ _ _ T25 (mkF m 104 #[.val (.int p1), .val (.int p2), .val (.int v1), .val (.int (0 : Int32)), .val (.ref b17), .val (.ref o19), .val (.int (1 : Int32)), .val (.ref o23), .val (.int (0 : Int32))] [])
        refine own_by (fun t k => XS.iconst X25.here hx rfl (hb hby at_104) k) ?_
        show ORun p e below s _ _ _ T25 (mkF m 105 #[.val (.int p1), .val (.int p2), .val (.int v1), .val (.int (0 : Int32)), .val (.ref b17), .val (.ref o19), .val (.int (1 : Int32)), .val (.ref o23), .val (.int (0 : Int32))] [(.int (0 : Int32))])
        refine own_retN X25 hx (t := .boolean) hret (by simp) hlk (hb hby at_105) (by decide) (by decide) ?_
        exfalso
        omega
    · have t22 := own_ne hc22 (a := n19.toInt) (b := 0) rfl (by decide)
      refine own_by (fun t k => XS.icmpYes X21.here hx rfl (pc0 := 48) (pc' := 55) rfl (hb hby at_48) rfl (feq hc22).2 (by decide) (by decide) k) ?_
      show ORun p e below s _ _ _ T21 (mkF m 55 #[.val (.int p1), .val (.int p2), .val (.int v1), .val (.int (0 : Int32)), .val (.ref b17), .val (.ref o19), .unset, .unset, .unset] [])
      refine own_by (fun t k => XS.iconst X21.here hx rfl (hb hby at_55) k) ?_
      show ORun p e below s _ _ _ T21 (mkF m 56 #[.val (.int p1), .val (.int p2), .val (.int v1), .val (.int (0 : Int32)), .val (.ref b17), .val (.ref o19), .unset, .unset, .unset] [(.int (0 : Int32))])
      refine own_by (fun t k => XS.istore X21.here hx rfl (hb hby at_56) rfl (l' := #[.val (.int p1), .val (.int p2), .val (.int v1), .val (.int (0 : Int32)), .val (.ref b17), .val (.ref o19), .val (.int (0 : Int32)), .unset, .unset]) rfl k) ?_
      show ORun p e below s _ _ _ T21 (mkF m 58 #[.val (.int p1), .val (.int p2), .val (.int v1), .val (.int (0 : Int32)), .val (.ref b17), .val (.ref o19), .val (.int (0 : Int32)), .unset, .unset] [])
      refine own_by (fun t k => XS.aload X21.here hx rfl (hb hby at_58) rfl rfl k) ?_
      show ORun p e below s _ _ _ T21 (mkF m 60 #[.val (.int p1), .val (.int p2), .val (.int v1), .val (.int (0 : Int32)), .val (.ref b17), .val (.ref o19), .val (.int (0 : Int32)), .unset, .unset] [(.ref o19)])
      refine own_callV X21 hx hZ hown En19_o19 (hw _ (List.mem_of_getElem? (i := 18) rfl)) (hw _ (List.mem_of_getElem? (i := 19) rfl)) (notFace_of_selects (args := #[]) (mvT hZ (hw _ (List.mem_of_getElem? (i := 21) rfl)))) (hw _ (List.mem_of_getElem? (i := 21) rfl)) (hw _ (List.mem_of_getElem? (i := 20) rfl)) (hw _ (List.mem_of_getElem? (i := 2) rfl)) (hw _ (List.mem_of_getElem? (i := 22) rfl)) (by decide) (rm4 l Z a0 hw [] T19.heap n0 (Nat.le_trans (Nat.le_trans (Nat.le_trans Z0 E17.1) K18.1) K19.1) o19 p1 n19 En19_o19 g_o19 Fn19_pair_o19 Fn19_index_o19 (by omega)) e21 (by decide) (W := 0) (by decide) (by decide) (by decide) (argsL := []) (rest := []) (by rw [hml]; rfl) (lenOf pd_2 rfl) rfl rfl (Nat.le_of_eq rfl) (hb hby at_60) ?_
      intro T27 L27 u27 X27 hQ27
      obtain ⟨o27, n27, rfl, Nq27, K27, g_o27, sz_o27, En27_o27, Fn27_pair_o27, Fn27_index_o27, hn27⟩ := hQ27
      have N27 := Fr.app N21 Nq27
      show ORun p e below s _ _ _ T27 (mkF m 63 #[.val (.int p1), .val (.int p2), .val (.int v1), .val (.int (0 : Int32)), .val (.ref b17), .val (.ref o19), .val (.int (0 : Int32)), .unset, .unset] [(.ref o27)])
      refine own_by (fun t k => XS.astore X27.here hx rfl (hb hby at_63) rfl rfl (l' := #[.val (.int p1), .val (.int p2), .val (.int v1), .val (.int (0 : Int32)), .val (.ref b17), .val (.ref o19), .val (.int (0 : Int32)), .val (.ref o27), .unset]) rfl k) ?_
      show ORun p e below s _ _ _ T27 (mkF m 65 #[.val (.int p1), .val (.int p2), .val (.int v1), .val (.int (0 : Int32)), .val (.ref b17), .val (.ref o19), .val (.int (0 : Int32)), .val (.ref o27), .unset] [])
      refine own_by (fun t k => XS.aload X27.here hx rfl (hb hby at_65) rfl rfl k) ?_
      show ORun p e below s _ _ _ T27 (mkF m 67 #[.val (.int p1), .val (.int p2), .val (.int v1), .val (.int (0 : Int32)), .val (.ref b17), .val (.ref o19), .val (.int (0 : Int32)), .val (.ref o27), .unset] [(.ref o27)])
      refine own_callV X27 hx hZ hown En27_o27 (hw _ (List.mem_of_getElem? (i := 25) rfl)) (hw _ (List.mem_of_getElem? (i := 26) rfl)) (notFace_of_selects (args := #[]) (mvT hZ (hw _ (List.mem_of_getElem? (i := 28) rfl)))) (hw _ (List.mem_of_getElem? (i := 28) rfl)) (hw _ (List.mem_of_getElem? (i := 27) rfl)) (hw _ (List.mem_of_getElem? (i := 2) rfl)) (hw _ (List.mem_of_getElem? (i := 29) rfl)) (by decide) (rm5 l Z a0 hw [] T27.heap n0 (Nat.le_trans (Nat.le_trans (Nat.le_trans (Nat.le_trans Z0 E17.1) K18.1) K19.1) K27.1) o27 p1 n27 En27_o27 g_o27 Fn27_pair_o27 Fn27_index_o27) rfl (by decide) (W := 0) (by decide) (by decide) (by decide) (argsL := []) (rest := []) (by rw [hml]; rfl) (lenOf pd_3 rfl) rfl rfl (Nat.le_of_eq rfl) (hb hby at_67) ?_
      intro T28 L28 u28 X28 hQ28
      obtain ⟨rfl, Nq28, e28⟩ := hQ28
      have N28 := Fr.app N27 Nq28
      show ORun p e below s _ _ _ T28 (mkF m 70 #[.val (.int p1), .val (.int p2), .val (.int v1), .val (.int (0 : Int32)), .val (.ref b17), .val (.ref o19), .val (.int (0 : Int32)), .val (.ref o27), .unset] [(.int p1)])
      refine own_by (fun t k => XS.iloadN X28.here hx rfl (hb hby at_70) rfl k) ?_
      show ORun p e below s _ _ _ T28 (mkF m 71 #[.val (.int p1), .val (.int p2), .val (.int v1), .val (.int (0 : Int32)), .val (.ref b17), .val (.ref o19), .val (.int (0 : Int32)), .val (.ref o27), .unset] [(.int p1), (.int p1)])
      refine own_by (fun t k => XS.icmpNo X28.here hx rfl (hb hby at_71) rfl (teq rfl).2 k) ?_
      show ORun p e below s _ _ _ T28 (mkF m 74 #[.val (.int p1), .val (.int p2), .val (.int v1), .val (.int (0 : Int32)), .val (.ref b17), .val (.ref o19), .val (.int (0 : Int32)), .val (.ref o27), .unset] [])
      refine own_by (fun t k => XS.aload X28.here hx rfl (hb hby at_74) rfl rfl k) ?_
      show ORun p e below s _ _ _ T28 (mkF m 76 #[.val (.int p1), .val (.int p2), .val (.int v1), .val (.int (0 : Int32)), .val (.ref b17), .val (.ref o19), .val (.int (0 : Int32)), .val (.ref o27), .unset] [(.ref o27)])
      refine own_callV X28 hx hZ hown En27_o27 (hw _ (List.mem_of_getElem? (i := 30) rfl)) (hw _ (List.mem_of_getElem? (i := 31) rfl)) (notFace_of_selects (args := #[]) (mvT hZ (hw _ (List.mem_of_getElem? (i := 33) rfl)))) (hw _ (List.mem_of_getElem? (i := 33) rfl)) (hw _ (List.mem_of_getElem? (i := 32) rfl)) (hw _ (List.mem_of_getElem? (i := 2) rfl)) (hw _ (List.mem_of_getElem? (i := 34) rfl)) (by decide) (rm6 l Z a0 hw [] T27.heap n0 (Nat.le_trans (Nat.le_trans (Nat.le_trans (Nat.le_trans Z0 E17.1) K18.1) K19.1) K27.1) o27 p1 n27 En27_o27 g_o27 Fn27_pair_o27 Fn27_index_o27) e28 (by decide) (W := 0) (by decide) (by decide) (by decide) (argsL := []) (rest := []) (by rw [hml]; rfl) (lenOf pd_3 rfl) rfl rfl (Nat.le_of_eq rfl) (hb hby at_76) ?_
      intro T29 L29 u29 X29 hQ29
      obtain ⟨rfl, Nq29, e29⟩ := hQ29
      have N29 := Fr.app N28 Nq29
      show ORun p e below s _ _ _ T29 (mkF m 79 #[.val (.int p1), .val (.int p2), .val (.int v1), .val (.int (0 : Int32)), .val (.ref b17), .val (.ref o19), .val (.int (0 : Int32)), .val (.ref o27), .unset] [(.int n27)])
      refine own_by (fun t k => XS.iloadN X29.here hx rfl (hb hby at_79) rfl k) ?_
      show ORun p e below s _ _ _ T29 (mkF m 80 #[.val (.int p1), .val (.int p2), .val (.int v1), .val (.int (0 : Int32)), .val (.ref b17), .val (.ref o19), .val (.int (0 : Int32)), .val (.ref o27), .unset] [(.int v1), (.int n27)])
      by_cases hc30 : n27 = v1
      · have t30 := own_eq hc30 (a := n27.toInt) (b := v1.toInt) rfl rfl
        refine own_by (fun t k => XS.icmpNo X29.here hx rfl (hb hby at_80) rfl (teq hc30).2 k) ?_
        show ORun p e below s _ _ _ T29 (mkF m 83 #[.val (.int p1), .val (.int p2), .val (.int v1), .val (.int (0 : Int32)), .val (.ref b17), .val (.ref o19), .val (.int (0 : Int32)), .val (.ref o27), .unset] [])
        refine own_by (fun t k => XS.iconst X29.here hx rfl (hb hby at_83) k) ?_
        show ORun p e below s _ _ _ T29 (mkF m 84 #[.val (.int p1), .val (.int p2), .val (.int v1), .val (.int (0 : Int32)), .val (.ref b17), .val (.ref o19), .val (.int (0 : Int32)), .val (.ref o27), .unset] [(.int (1 : Int32))])
        refine own_by (fun t k => XS.goto X29.here hx rfl (pc0 := 84) (pc' := 88) rfl (hb hby at_84) (by decide) (by decide) k) ?_
        show ORun p e below s _ _ _ T29 (mkF m 88 #[.val (.int p1), .val (.int p2), .val (.int v1), .val (.int (0 : Int32)), .val (.ref b17), .val (.ref o19), .val (.int (0 : Int32)), .val (.ref o27), .unset] [(.int (1 : Int32))])
        refine own_by (fun t k => XS.istore X29.here hx rfl (hb hby at_88) rfl (l' := #[.val (.int p1), .val (.int p2), .val (.int v1), .val (.int (0 : Int32)), .val (.ref b17), .val (.ref o19), .val (.int (0 : Int32)), .val (.ref o27), .val (.int (1 : Int32))]) rfl k) ?_
        show ORun p e below s _ _ _ T29 (mkF m 90 #[.val (.int p1), .val (.int p2), .val (.int v1), .val (.int (0 : Int32)), .val (.ref b17), .val (.ref o19), .val (.int (0 : Int32)), .val (.ref o27), .val (.int (1 : Int32))] [])
        refine own_by (fun t k => XS.iload X29.here hx rfl (hb hby at_90) rfl k) ?_
        show ORun p e below s _ _ _ T29 (mkF m 92 #[.val (.int p1), .val (.int p2), .val (.int v1), .val (.int (0 : Int32)), .val (.ref b17), .val (.ref o19), .val (.int (0 : Int32)), .val (.ref o27), .val (.int (1 : Int32))] [(.int (0 : Int32))])
        refine own_by (fun t k => XS.ifYes X29.here hx rfl (pc0 := 92) (pc' := 104) rfl (hb hby at_92) rfl ((if0 _ _).trans (teq (by decide)).1) (by decide) (by decide) k) ?_
        show ORun p e below s _ _ _ T29 (mkF m 104 #[.val (.int p1), .val (.int p2), .val (.int v1), .val (.int (0 : Int32)), .val (.ref b17), .val (.ref o19), .val (.int (0 : Int32)), .val (.ref o27), .val (.int (1 : Int32))] [])
        refine own_by (fun t k => XS.iconst X29.here hx rfl (hb hby at_104) k) ?_
        show ORun p e below s _ _ _ T29 (mkF m 105 #[.val (.int p1), .val (.int p2), .val (.int v1), .val (.int (0 : Int32)), .val (.ref b17), .val (.ref o19), .val (.int (0 : Int32)), .val (.ref o27), .val (.int (1 : Int32))] [(.int (0 : Int32))])
        refine own_retN X29 hx (t := .boolean) hret (by simp) hlk (hb hby at_105) (by decide) (by decide) ?_
        exfalso
        omega
      · have t30 := own_ne hc30 (a := n27.toInt) (b := v1.toInt) rfl rfl
        refine own_by (fun t k => XS.icmpYes X29.here hx rfl (pc0 := 80) (pc' := 87) rfl (hb hby at_80) rfl (feq hc30).2 (by decide) (by decide) k) ?_
        show ORun p e below s _ _ _ T29 (mkF m 87 #[.val (.int p1), .val (.int p2), .val (.int v1), .val (.int (0 : Int32)), .val (.ref b17), .val (.ref o19), .val (.int (0 : Int32)), .val (.ref o27), .unset] [])
        refine own_by (fun t k => XS.iconst X29.here hx rfl (hb hby at_87) k) ?_
        show ORun p e below s _ _ _ T29 (mkF m 88 #[.val (.int p1), .val (.int p2), .val (.int v1), .val (.int (0 : Int32)), .val (.ref b17), .val (.ref o19), .val (.int (0 : Int32)), .val (.ref o27), .unset] [(.int (0 : Int32))])
        refine own_by (fun t k => XS.istore X29.here hx rfl (hb hby at_88) rfl (l' := #[.val (.int p1), .val (.int p2), .val (.int v1), .val (.int (0 : Int32)), .val (.ref b17), .val (.ref o19), .val (.int (0 : Int32)), .val (.ref o27), .val (.int (0 : Int32))]) rfl k) ?_
        show ORun p e below s _ _ _ T29 (mkF m 90 #[.val (.int p1), .val (.int p2), .val (.int v1), .val (.int (0 : Int32)), .val (.ref b17), .val (.ref o19), .val (.int (0 : Int32)), .val (.ref o27), .val (.int (0 : Int32))] [])
        refine own_by (fun t k => XS.iload X29.here hx rfl (hb hby at_90) rfl k) ?_
        show ORun p e below s _ _ _ T29 (mkF m 92 #[.val (.int p1), .val (.int p2), .val (.int v1), .val (.int (0 : Int32)), .val (.ref b17), .val (.ref o19), .val (.int (0 : Int32)), .val (.ref o27), .val (.int (0 : Int32))] [(.int (0 : Int32))])
        refine own_by (fun t k => XS.ifYes X29.here hx rfl (pc0 := 92) (pc' := 104) rfl (hb hby at_92) rfl ((if0 _ _).trans (teq (by decide)).1) (by decide) (by decide) k) ?_
        show ORun p e below s _ _ _ T29 (mkF m 104 #[.val (.int p1), .val (.int p2), .val (.int v1), .val (.int (0 : Int32)), .val (.ref b17), .val (.ref o19), .val (.int (0 : Int32)), .val (.ref o27), .val (.int (0 : Int32))] [])
        refine own_by (fun t k => XS.iconst X29.here hx rfl (hb hby at_104) k) ?_
        show ORun p e below s _ _ _ T29 (mkF m 105 #[.val (.int p1), .val (.int p2), .val (.int v1), .val (.int (0 : Int32)), .val (.ref b17), .val (.ref o19), .val (.int (0 : Int32)), .val (.ref o27), .val (.int (0 : Int32))] [(.int (0 : Int32))])
        refine own_retN X29 hx (t := .boolean) hret (by simp) hlk (hb hby at_105) (by decide) (by decide) ?_
        exfalso
        omega
set_option maxRecDepth 65536 in
set_option maxHeartbeats 40000000 in
theorem comes_1 {Post : Tables → Env → Array Value → State → Outcome → State → Prop} (hpost : ∀ tb e args s v u, (limb_1_1.after args s (.returned v) u = true ∧ limb_1_2.after args s (.returned v) u = true ∧ True) → FrameEnd s (.returned v) u (Jvm.fieldLocs frame_1_writes args s ++ Jvm.arrayLocs frame_1_arrays args s ++ Jvm.staticLocs frame_1_statics s) 16 128 → Post tb e args s (.returned v) u) :
    ArmFor flags0 classFile x code maxLocals ret World_1 tables_1 room_1 Calls_1 rest_1 Pre_1 Post := by
  intro l hfl _ _ p e ha hc hk s m args below hf hA hF happ hP
  obtain ⟨hcalls, hrest, hpre⟩ := hP
  obtain ⟨-, -, -, hnamed, -, -, -, hat⟩ := (Spec.applies_iff hf).mp happ
  obtain ⟨hg, hn⟩ := and_e (Cond.before_iff.mp (show (Jvm.Cond.and given_1 narrow_1).before args s = true from hpre))
  obtain ⟨hcnt, g0⟩ := and_e hg
  obtain ⟨k0, g1⟩ := and_e g0
  have k1 := g1
  obtain ⟨w0, w1, rfl⟩ : ∃ w0 w1 : Value, args = #[w0, w1] := by
    have hs : args.size = 2 := by simpa [Cond.value, given_1] using hcnt
    obtain ⟨L⟩ := args
    match L, hs with
    | [w0, w1], _ => exact ⟨w0, w1, rfl⟩
  have hw := fun d (hd : d ∈ tables_1) => atoms_spec (ws := Jvm.Cond.code x code maxLocals ret :: tables_1) hat d (List.mem_cons_of_mem _ hd)
  have hfit : Fit s := fun {y c} hc i hi => by
    obtain ⟨ha, rfl⟩ := Array.getElem?_eq_some_iff.mp hc
    have q := List.all_eq_true.mp ((Array.all_eq_true_iff_forall_mem.mp hF) _ (Array.getElem_mem ha)) i (List.mem_range.mpr hi)
    simpa [Array.getElem?_eq_getElem hi] using q
  obtain ⟨i0, e0⟩ := is_v k0
  obtain rfl : w0 = (.int i0) := Option.some.inj e0
  obtain ⟨i1, e1⟩ := is_v k1
  obtain rfl : w1 = (.int i1) := Option.some.inj e1
  obtain ⟨n, o, h1, h2, h3, _, L, rfl, ⟨rfl, N⟩, hq⟩ := rm0 l s _ hw tables_1 s.heap s.heap.size (Nat.le_refl _) i0 i1  p e ha hc hk s m _ below hf ((Spec.applies_iff_loose hf).mp happ).1 ⟨rfl, State.Warmed39.refl s, rfl⟩ trivial
  refine ⟨n, _, h1, h2, h3, hpost _ _ _ _ _ _ ⟨Cond.after_iff.mpr rfl, Cond.after_iff.mpr (eq_i res_at (Term.int_eval (1)) rfl), trivial⟩ ⟨hq.1, hq.2.1, (hq.2.2.sift fun y hy => Or.inr (N y hy)).mono (by decide) (by decide)⟩⟩
theorem main_1_1 : Claimed_1_1 := comes_1 fun _ _ _ _ _ _ h hF => ⟨h.1, hF⟩
theorem main_1_2 : Claimed_1_2 := comes_1 fun _ _ _ _ _ _ h hF => ⟨h.2.1, hF⟩
end Jvm.Pilot.@@N@@
namespace Jvm.Pilot.@@N@@
open Jvm Jvm.ClassFile Sem Op Lib Jvm.Free Jvm.Stand Jvm.Pilot.@@N@@.Jvm.D
/-! MADE BY PROGRAM (witnessworld.py) out of the Statement's table words and the real class files: 10 classes; the members and pool entries that the words name. The judged class is class 1, her method 1. -/
namespace start1
open Jvm.ClassFile
def u (s : String) : CpInfo := .utf8 (stringToUtf16 s)
/-- a pool by its gaps: so many unusable entries, then the entry; so many at the end -/
def gap : Nat → List CpInfo → List CpInfo
  | 0, r => r
  | n + 1, r => .unusable :: gap n r
def poolList (es : List (Nat × CpInfo)) (last : Nat) : List CpInfo := es.foldr (fun e r => gap e.1 (e.2 :: r)) (gap last [])
def pool (es : List (Nat × CpInfo)) (last : Nat) : Array CpInfo := ⟨poolList es last⟩
def fileOf (pool : Array CpInfo) (this : Nat) (attrs : Array Attribute := #[]) (ms : Array MethodInfo := #[]) (fl : Nat := 33) (sup : Nat := 0) (ifs : Array Nat := #[]) (fds : Array FieldInfo := #[]) : ClassFile where
  minorVersion := 0
  majorVersion := 65
  constantPool := pool
  accessFlags := fl
  thisClass := this
  superClass := sup
  interfaces := ifs
  fields := fds
  methods := ms
  attributes := attrs
def plain (name : String) (sup : Option ClassId) : Class where
  name := name
  kind := .ordinary
  loader := none
  accessFlags := 33
  super := sup
  interfaces := #[]
  cf := none
  fields := #[]
  methods := #[]
  instanceTypes := #[]
  staticTypes := #[]
  resolved := #[]
  callSites := []
  init := .initialized
  statics := none
  mirror := none

def pool0 : Array CpInfo := pool [(5, u "<init>"), (0, u "()V"), (1, .class_ 10), (1, u "java/lang/Object")] 113

def k0c0 : Code := { maxStack := 0, maxLocals := 1, code := object_method_1_code, exceptionTable := #[], attributes := #[] }
def k0m0 : Method := { name := "<init>", desc := "()V", sig := { parameters := [], returnType := none }, accessFlags := 1, code := some k0c0 }
/-- java/lang/Object -/
def k0 : Class := { plain "java/lang/Object" none with
  accessFlags := 33
  interfaces := #[]
  cf := some (fileOf pool0 8 #[] #[{ accessFlags := 1, nameIndex := 5, descriptorIndex := 6, attributes := #[] }] 33 0 #[] #[])
  fields := #[]
  methods := #[k0m0]
  instanceTypes := #[]
  staticTypes := #[]
  resolved := Array.replicate 124 none
  statics := none }

def pool1 : Array CpInfo := pool [(2, .class_ 4), (1, u "java/lang/Object"), (0, u "<init>"), (0, u "()V"), (0, .class_ 8), (0, u "com/example/hold1/hold1/Disk$Place"), (0, .methodref 7 10), (0, .nameAndType 5 11), (0, u "(II)V"), (0, .methodref 7 13), (0, .nameAndType 14 15), (0, u "partner"), (0, u "()Lcom/example/hold1/hold1/Disk$Place;"), (0, .methodref 7 17), (0, .nameAndType 18 19), (0, u "pair"), (0, u "()I"), (0, .methodref 7 21), (0, .nameAndType 22 19), (0, u "index"), (0, .class_ 24), (0, u "com/example/hold1/hold1/PlacePartnerPinLaw"), (2, u "law"), (0, u "(II)Z")] 7

def k1m0 : Method := { name := "<init>", desc := "()V", sig := { parameters := [], returnType := none }, accessFlags := 2, code := none }
def k1c1 : Code := { maxStack := 4, maxLocals := 9, code := code, exceptionTable := #[], attributes := #[] }
def k1m1 : Method := { name := "law", desc := "(II)Z", sig := { parameters := [.int, .int], returnType := some .boolean }, accessFlags := 9, code := some k1c1 }
/-- com/example/hold1/hold1/PlacePartnerPinLaw -/
def k1 : Class := { plain "com/example/hold1/hold1/PlacePartnerPinLaw" (some 0) with
  accessFlags := 49
  interfaces := #[]
  cf := some (fileOf pool1 23 #[] #[{ accessFlags := 2, nameIndex := 5, descriptorIndex := 6, attributes := #[] }, { accessFlags := 9, nameIndex := 27, descriptorIndex := 28, attributes := #[] }] 49 2 #[] #[])
  fields := #[]
  methods := #[k1m0, k1m1]
  instanceTypes := #[]
  staticTypes := #[]
  resolved := Array.replicate 36 none
  statics := none }

def pool2 : Array CpInfo := pool [(1, .methodref 2 3), (0, .class_ 4), (0, .nameAndType 5 6), (0, u "java/lang/Object"), (0, u "<init>"), (0, u "()V"), (0, .class_ 8), (0, u "java/lang/Record")] 13

def k2c0 : Code := { maxStack := 1, maxLocals := 1, code := jdk_30_method_1_code, exceptionTable := #[], attributes := #[] }
def k2m0 : Method := { name := "<init>", desc := "()V", sig := { parameters := [], returnType := none }, accessFlags := 4, code := some k2c0 }
/-- java/lang/Record -/
def k2 : Class := { plain "java/lang/Record" (some 0) with
  accessFlags := 1057
  interfaces := #[]
  cf := some (fileOf pool2 7 #[] #[{ accessFlags := 4, nameIndex := 5, descriptorIndex := 6, attributes := #[] }] 1057 2 #[] #[])
  fields := #[]
  methods := #[k2m0]
  instanceTypes := #[]
  staticTypes := #[]
  resolved := Array.replicate 22 none
  statics := none }

def pool3 : Array CpInfo := pool [(1, .methodref 2 3), (0, .class_ 4), (0, .nameAndType 5 6), (0, u "java/lang/Record"), (0, u "<init>"), (0, u "()V"), (0, .fieldref 8 9), (0, .class_ 10), (0, .nameAndType 11 12), (0, u "com/example/hold1/hold1/Disk$Place"), (0, u "pair"), (0, u "I"), (0, .fieldref 8 14), (0, .nameAndType 15 12), (0, u "index"), (2, u "FORM"), (0, u "Ljava/util/regex/Pattern;"), (22, .methodref 8 43), (0, .nameAndType 5 44), (0, u "(II)V"), (35, u "partner"), (0, u "()Lcom/example/hold1/hold1/Disk$Place;"), (2, u "()I"), (5, .class_ 91), (0, u "com/example/hold1/hold1/Disk")] 28

def k3c0 : Code := { maxStack := 2, maxLocals := 3, code := prog_13_method_1_code, exceptionTable := #[], attributes := #[] }
def k3m0 : Method := { name := "<init>", desc := "(II)V", sig := { parameters := [.int, .int], returnType := none }, accessFlags := 0, code := some k3c0 }
def k3c1 : Code := { maxStack := 5, maxLocals := 1, code := prog_13_method_3_code, exceptionTable := #[], attributes := #[] }
def k3m1 : Method := { name := "partner", desc := "()Lcom/example/hold1/hold1/Disk$Place;", sig := { parameters := [], returnType := some (.object "com/example/hold1/hold1/Disk$Place") }, accessFlags := 0, code := some k3c1 }
def k3c2 : Code := { maxStack := 1, maxLocals := 1, code := prog_13_method_7_code, exceptionTable := #[], attributes := #[] }
def k3m2 : Method := { name := "pair", desc := "()I", sig := { parameters := [], returnType := some .int }, accessFlags := 1, code := some k3c2 }
def k3c3 : Code := { maxStack := 1, maxLocals := 1, code := prog_13_method_8_code, exceptionTable := #[], attributes := #[] }
def k3m3 : Method := { name := "index", desc := "()I", sig := { parameters := [], returnType := some .int }, accessFlags := 1, code := some k3c3 }
/-- com/example/hold1/hold1/Disk$Place -/
def k3 : Class := { plain "com/example/hold1/hold1/Disk$Place" (some 2) with
  accessFlags := 48
  interfaces := #[]
  cf := some (fileOf pool3 8 #[.nestHost 90] #[{ accessFlags := 0, nameIndex := 5, descriptorIndex := 44, attributes := #[] }, { accessFlags := 0, nameIndex := 80, descriptorIndex := 81, attributes := #[] }, { accessFlags := 1, nameIndex := 11, descriptorIndex := 84, attributes := #[] }, { accessFlags := 1, nameIndex := 15, descriptorIndex := 84, attributes := #[] }] 48 2 #[] #[{ accessFlags := 18, nameIndex := 11, descriptorIndex := 12, attributes := #[] }, { accessFlags := 18, nameIndex := 15, descriptorIndex := 12, attributes := #[] }, { accessFlags := 26, nameIndex := 18, descriptorIndex := 19, attributes := #[] }])
  fields := #[{ name := "pair", type := .int, accessFlags := 18, slot := 0, constantValue := 0 }, { name := "index", type := .int, accessFlags := 18, slot := 1, constantValue := 0 }, { name := "FORM", type := (.object "java/util/regex/Pattern"), accessFlags := 26, slot := 0, constantValue := 0 }]
  methods := #[k3m0, k3m1, k3m2, k3m3]
  instanceTypes := #[.int, .int]
  staticTypes := #[(.object "java/util/regex/Pattern")]
  resolved := Array.replicate 120 none
  statics := none }

def pool4 : Array CpInfo := pool [(1, u "java/lang/Cloneable"), (0, .class_ 1), (0, u "java/lang/Object"), (0, .class_ 3)] 3

/-- java/lang/Cloneable -/
def k4 : Class := { plain "java/lang/Cloneable" (some 0) with
  accessFlags := 1537
  interfaces := #[]
  cf := some (fileOf pool4 2 #[] #[] 1537 4 #[] #[])
  fields := #[]
  methods := #[]
  instanceTypes := #[]
  staticTypes := #[]
  resolved := Array.replicate 8 none
  statics := none }

def pool5 : Array CpInfo := pool [(1, u "java/io/Serializable"), (0, .class_ 1), (0, u "java/lang/Object"), (0, .class_ 3)] 3

/-- java/io/Serializable -/
def k5 : Class := { plain "java/io/Serializable" (some 0) with
  accessFlags := 1537
  interfaces := #[]
  cf := some (fileOf pool5 2 #[] #[] 1537 4 #[] #[])
  fields := #[]
  methods := #[]
  instanceTypes := #[]
  staticTypes := #[]
  resolved := Array.replicate 8 none
  statics := none }

/-- the primitive byte -/
def k6 : Class := { plain "byte" none with kind := .primitive 'B', accessFlags := 0x411 }
/-- [B -/
def k7 : Class := { plain "[B" (some 0) with kind := .array 6 .byte, interfaces := #[4, 5], accessFlags := 1041 }

/-- the primitive int -/
def k8 : Class := { plain "int" none with kind := .primitive 'I', accessFlags := 0x411 }
/-- [I -/
def k9 : Class := { plain "[I" (some 0) with kind := .array 8 .int, interfaces := #[4, 5], accessFlags := 1041 }

def heap : Heap := #[]
def classes : Array Class := #[k0, k1, k2, k3, k4, k5, k6, k7, k8, k9]
def interned : List (Array UInt16 × Addr) := []
def slotsUsed : Nat := 0
def theMethod : MethodId := ⟨1, 1⟩
def args0 : Array Value := #[.int 7, .int 1]
def aboutOver (below : List Frame) : State where
  vm := { classes := classes, interned := interned.toArray }
  heap := heap
  slotsUsed := slotsUsed
  threads := #[{ frames := .invoking theMethod args0 :: below }]
def below0 : List Frame := [.native { method := ⟨0, 0⟩, args := #[] }]
def about1 : State := aboutOver below0
def p0 : Program := .bare "" "" ""
def e0 : Env := launch0.env 0 0 0
theorem w_frames : about1.frames = Frame.invoking theMethod args0 :: below0 := rfl
set_option maxRecDepth 65536 in
theorem w_args : argsFit about1.vm theMethod args0 = true := by decide +kernel
set_option maxRecDepth 65536 in
theorem w_heap : heapFits about1 = true := by decide +kernel
set_option maxRecDepth 65536 in
theorem w_runnable : about1.curStatus? = some .runnable := by decide +kernel
set_option maxRecDepth 65536 in
theorem w_alone : about1.alone = true := by decide +kernel
set_option maxRecDepth 65536 in
theorem w_named : about1.methodNamed? x = some theMethod := by decide +kernel
set_option maxRecDepth 65536 in
theorem w_hears : about1.hears theMethod below0 = true := by decide +kernel
set_option maxRecDepth 65536 in
theorem w_ripe : about1.ripe theMethod args0 below0 = true := by decide +kernel
theorem w_running : about1.status = .running := rfl
set_option maxRecDepth 65536 in
theorem w_room : about1.hasRoom e0.platform room_1 = true :=
  launch0.hasRoom_least _ room_1 (by decide +kernel) (by decide +kernel) (by decide +kernel) (by decide +kernel) (by decide +kernel) (by decide +kernel)
theorem allAtoms_all (ts : List Jvm.Cond) (a : Array Jvm.Value) (st : Jvm.State) : (allAtoms ts).before a st = ts.all (fun c => c.before a st) := by
  induction ts with
  | nil => rfl
  | cons c t ih =>
    show (Jvm.Cond.and c (allAtoms t)).before a st = _
    rw [Jvm.Cond.before_and, ih, List.all_cons]
def words1 : List Jvm.Cond := Jvm.Cond.code x code maxLocals ret :: tables_1
/-- a 'code' word, met by the world's own term for the bytes: nothing is compared byte by byte -/
theorem code_word {y : MethodName} {bytes : ByteArray} {mx : Nat} {rt : Option FieldType} {a : Array Value} {s : State} {m : MethodId} {meth : Method} {c : Code} (h1 : s.methodNamed? y = some m) (h2 : s.vm.method? m = some meth) (h3 : meth.code = some c) (h4 : c.code = bytes)
    (h5 : (c.maxLocals == mx && c.exceptionTable.isEmpty && decide (c.maxStack ≤ mostOperands) && decide (meth.sig.returnType = rt) && !meth.locks && decide (parseMethodDescriptor y.desc = some meth.sig)) = true) : (Jvm.Cond.code y bytes mx rt).before a s = true := by
  simp only [Bool.and_eq_true, beq_iff_eq, Bool.not_eq_true', decide_eq_true_eq] at h5
  obtain ⟨⟨⟨⟨⟨g1, g2⟩, g3⟩, g4⟩, g5⟩, g6⟩ := h5
  simp [Cond.before, Cond.holds, Cond.value, h1, h2, h3, h4, g1, g2, g3, g4, g5, g6]
def isCode : Jvm.Cond → Bool
  | .code _ _ _ _ => true
  | _ => false
theorem all_split {L : List Jvm.Cond} {P : Jvm.Cond → Bool} (h1 : L.all (fun c => isCode c || P c) = true) (h2 : ∀ c ∈ L.filter isCode, P c = true) : L.all P = true := by
  refine List.all_eq_true.mpr fun c hc => ?_
  have h := List.all_eq_true.mp h1 c hc
  rcases Bool.eq_false_or_eq_true (isCode c) with hi | hi
  · exact h2 c (List.mem_filter.mpr ⟨hc, hi⟩)
  · simpa [hi] using h
set_option maxRecDepth 65536 in
theorem w_c0 : (Jvm.Cond.code x code maxLocals ret).before args0 about1 = true := code_word (m := ⟨1, 1⟩) (meth := k1m1) (c := k1c1) (by decide +kernel) rfl rfl rfl (by decide +kernel)
set_option maxRecDepth 65536 in
theorem w_c1 : (Jvm.Cond.code ({ cls := "com/example/hold1/hold1/Disk$Place", name := "<init>", desc := "(II)V" } : Jvm.MethodName) prog_13_method_1_code (3 : Nat) (Option.none : Option Jvm.ClassFile.FieldType)).before args0 about1 = true := code_word (m := ⟨3, 0⟩) (meth := k3m0) (c := k3c0) (by decide +kernel) rfl rfl rfl (by decide +kernel)
set_option maxRecDepth 65536 in
theorem w_c2 : (Jvm.Cond.code ({ cls := "java/lang/Record", name := "<init>", desc := "()V" } : Jvm.MethodName) jdk_30_method_1_code (1 : Nat) (Option.none : Option Jvm.ClassFile.FieldType)).before args0 about1 = true := code_word (m := ⟨2, 0⟩) (meth := k2m0) (c := k2c0) (by decide +kernel) rfl rfl rfl (by decide +kernel)
set_option maxRecDepth 65536 in
theorem w_c3 : (Jvm.Cond.code ({ cls := "java/lang/Object", name := "<init>", desc := "()V" } : Jvm.MethodName) object_method_1_code (1 : Nat) (Option.none : Option Jvm.ClassFile.FieldType)).before args0 about1 = true := code_word (m := ⟨0, 0⟩) (meth := k0m0) (c := k0c0) (by decide +kernel) rfl rfl rfl (by decide +kernel)
set_option maxRecDepth 65536 in
theorem w_c4 : (Jvm.Cond.code ({ cls := "com/example/hold1/hold1/Disk$Place", name := "partner", desc := "()Lcom/example/hold1/hold1/Disk$Place;" } : Jvm.MethodName) prog_13_method_3_code (1 : Nat) (Option.some (Jvm.ClassFile.FieldType.object "com/example/hold1/hold1/Disk$Place"))).before args0 about1 = true := code_word (m := ⟨3, 1⟩) (meth := k3m1) (c := k3c1) (by decide +kernel) rfl rfl rfl (by decide +kernel)
set_option maxRecDepth 65536 in
theorem w_c5 : (Jvm.Cond.code ({ cls := "com/example/hold1/hold1/Disk$Place", name := "pair", desc := "()I" } : Jvm.MethodName) prog_13_method_7_code (1 : Nat) (Option.some Jvm.ClassFile.FieldType.int)).before args0 about1 = true := code_word (m := ⟨3, 2⟩) (meth := k3m2) (c := k3c2) (by decide +kernel) rfl rfl rfl (by decide +kernel)
set_option maxRecDepth 65536 in
theorem w_c6 : (Jvm.Cond.code ({ cls := "com/example/hold1/hold1/Disk$Place", name := "index", desc := "()I" } : Jvm.MethodName) prog_13_method_8_code (1 : Nat) (Option.some Jvm.ClassFile.FieldType.int)).before args0 about1 = true := code_word (m := ⟨3, 3⟩) (meth := k3m3) (c := k3c3) (by decide +kernel) rfl rfl rfl (by decide +kernel)
def codes1 : List Jvm.Cond := [Jvm.Cond.code x code maxLocals ret, Jvm.Cond.code ({ cls := "com/example/hold1/hold1/Disk$Place", name := "<init>", desc := "(II)V" } : Jvm.MethodName) prog_13_method_1_code (3 : Nat) (Option.none : Option Jvm.ClassFile.FieldType), Jvm.Cond.code ({ cls := "java/lang/Record", name := "<init>", desc := "()V" } : Jvm.MethodName) jdk_30_method_1_code (1 : Nat) (Option.none : Option Jvm.ClassFile.FieldType), Jvm.Cond.code ({ cls := "java/lang/Object", name := "<init>", desc := "()V" } : Jvm.MethodName) object_method_1_code (1 : Nat) (Option.none : Option Jvm.ClassFile.FieldType), Jvm.Cond.code ({ cls := "com/example/hold1/hold1/Disk$Place", name := "partner", desc := "()Lcom/example/hold1/hold1/Disk$Place;" } : Jvm.MethodName) prog_13_method_3_code (1 : Nat) (Option.some (Jvm.ClassFile.FieldType.object "com/example/hold1/hold1/Disk$Place")), Jvm.Cond.code ({ cls := "com/example/hold1/hold1/Disk$Place", name := "pair", desc := "()I" } : Jvm.MethodName) prog_13_method_7_code (1 : Nat) (Option.some Jvm.ClassFile.FieldType.int), Jvm.Cond.code ({ cls := "com/example/hold1/hold1/Disk$Place", name := "index", desc := "()I" } : Jvm.MethodName) prog_13_method_8_code (1 : Nat) (Option.some Jvm.ClassFile.FieldType.int)]
set_option maxRecDepth 65536 in
theorem codes_eq : words1.filter isCode = codes1 := rfl
theorem w_codes : ∀ c ∈ words1.filter isCode, c.before args0 about1 = true := by
  rw [codes_eq]
  intro c hc
  simp only [codes1, List.mem_cons, List.not_mem_nil, or_false] at hc
  rcases hc with rfl | rfl | rfl | rfl | rfl | rfl | rfl
  · exact w_c0
  · exact w_c1
  · exact w_c2
  · exact w_c3
  · exact w_c4
  · exact w_c5
  · exact w_c6
set_option maxRecDepth 65536 in
theorem w_t1 : (words1.take 24).all (fun c => isCode c || c.before args0 about1) = true := by decide +kernel
set_option maxRecDepth 65536 in
theorem w_t2 : (words1.drop 24).all (fun c => isCode c || c.before args0 about1) = true := by decide +kernel
theorem w_tables : (allAtoms (Jvm.Cond.code x code maxLocals ret :: tables_1)).before args0 about1 = true := by
  rw [allAtoms_all]
  show words1.all (fun c => c.before args0 about1) = true
  refine all_split ?_ w_codes
  rw [← List.take_append_drop 24 words1, List.all_append, w_t1, w_t2]
  rfl
set_option maxRecDepth 65536 in
theorem w_case : (Jvm.Cond.and given_1 narrow_1).before args0 about1 = true := by decide +kernel
theorem w_applies : (headSpec (Jvm.Cond.code x code maxLocals ret :: tables_1) room_1).applies x e0.platform about1 = true :=
  (Spec.applies_iff w_frames).mpr ⟨w_running, w_runnable, w_alone, w_named, w_hears, w_ripe, w_room, w_tables⟩
theorem atStart : AtStart classFile x code maxLocals ret World_1 tables_1 room_1 Calls_1 rest_1 Pre_1 launch0 p0 e0 about1 theMethod args0 below0 :=
  ⟨lists_1, trivial, launch0.admits_env _ _ _, launch0.least_env, fairChoices_fair.cas, fairChoices_fair.clock, w_frames, w_args, w_heap, w_applies, trivial, trivial, w_case⟩
end start1
theorem witness_1 : WitnessClaimed_1 := ⟨start1.p0, start1.e0, start1.about1, start1.theMethod, start1.args0, start1.below0, start1.atStart⟩
end Jvm.Pilot.@@N@@
