import JvmDerived
import JvmDerived.Pilot.@@N@@Statement
import JvmDerived.Pilot.@@N@@Code
set_option linter.unusedVariables false
set_option linter.unusedSimpArgs false
namespace Jvm.RoadKit
open Sem ClassFile Op Lib Jvm.Stand Jvm.Free Jvm.LawKit
section New
variable {p : Program} {l : Launch} {e : Env} {R : Room} {s : State} {m : MethodId} {args : Array Value} {below : List Frame} {meth : Method} {c : Code} {T : State} {locs : List Loc} {cells slots : Nat}
theorem retI (X : Stand p l e R s m args below meth c T locs cells slots) (hx : p.tables.exec = Jvm.exec) {pc : Nat} {Ls : Array Slot} {z : Int32} {rest : List Value} (hret : meth.sig.returnType = some .int) (hd : decode c.code pc = .ok (.ireturn, 1)) {fs : List Frame}
    (hl : ∀ (f : JFrame) (acts : List Action), f.method = m → f.locked = none → f.entered = [] → (doReturn e (T.setTop f) acts (some (.int z))).1 = T.setFrames fs) : Steps p.tables e below (T.setTop (mkF m pc Ls (.int z :: rest))) (T.setFrames fs) := by
  have hm' : T.vm.method? m = some meth := X.method'
  have hn : narrow .int (.int z) = .int z := rfl
  show Steps p.tables e below (T.setTop { method := m, pc := pc, locals := Ls, stack := _ :: rest, locked := none }) _
  jvm_step X.here [X.here.top, hx, hd, hm', hret, hn]
  first | (intro acts; rw [hl _ acts rfl rfl rfl]) | rw [hl _ _ rfl rfl rfl]
  exact Steps.refl _
end New
end Jvm.RoadKit
namespace Jvm.Pilot.@@N@@
open Jvm Jvm.ClassFile Sem Op Lib Jvm.Free Jvm.Stand Jvm.LawKit Jvm.RoadKit Bundle Jvm.Pilot.@@N@@.Jvm.D
section OwnRun
variable {p : Program} {l : Launch} {e : Env} {R : Room} {s : State} {m : MethodId} {args : Array Value} {below : List Frame} {meth : Method} {c : Code} {T T' : State} {locs : List Loc} {cells slots : Nat} {Q : Option Value → Heap → List Loc → Prop} {C S : Nat}
/-- from T with the frame g on top the body comes to its end, and what it leaves is as Q says -/
def ORun (p : Program) (e : Env) (below : List Frame) (s : State) (Q : Option Value → Heap → List Loc → Prop) (C S : Nat) (T : State) (g : JFrame) : Prop :=
  ∃ s₂ o, Steps p.tables e below (T.setTop g) s₂ ∧ s₂.status = .running ∧ Ended s₂ below o ∧ ∃ v L, o = .returned v ∧ Q v s₂.heap L ∧ FrameEnd s o s₂ L C S
theorem own_by {g g' : JFrame} (st : ∀ t, Steps p.tables e below (T'.setTop g') t → Steps p.tables e below (T.setTop g) t) (h : ORun p e below s Q C S T' g') : ORun p e below s Q C S T g := by
  obtain ⟨s₂, o, h1, h2⟩ := h
  exact ⟨s₂, o, st _ h1, h2⟩
theorem own_tr {g g' : JFrame} (st : Steps p.tables e below (T.setTop g) (T'.setTop g')) (h : ORun p e below s Q C S T' g') : ORun p e below s Q C S T g := own_by (fun _ k => st.trans k) h
theorem own_letI (x : Int32) {f : Int32 → JFrame} (h : ∀ v, v = x → ORun p e below s Q C S T (f v)) : ORun p e below s Q C S T (f x) := h x rfl
theorem own_letJ (x : Int64) {f : Int64 → JFrame} (h : ∀ v, v = x → ORun p e below s Q C S T (f v)) : ORun p e below s Q C S T (f x) := h x rfl
theorem own_retI (X : Stand p l e R s m args below meth c T locs cells slots) (hx : p.tables.exec = Jvm.exec) {pc : Nat} {Ls : Array Slot} {z : Int32} {rest : List Value} (hret : meth.sig.returnType = some .int) (hlk : meth.locks = false) (hd : decode c.code pc = .ok (.ireturn, 1)) (hc : cells ≤ C) (hs : slots ≤ S) (hQ : Q (some (.int z)) T.heap locs) :
    ORun p e below s Q C S T (mkF m pc Ls (.int z :: rest)) := by
  obtain ⟨fs, hr, hrun, hended, hW, hsame⟩ := X.leave (v := some (.int z)) (fun h => by rw [hret] at h; cases h) hlk
  exact ⟨_, _, retI X hx hret hd hr, hrun, hended, _, _, rfl, hQ, ⟨_, rfl⟩, hW, hsame.mono hc hs⟩
theorem own_retN (X : Stand p l e R s m args below meth c T locs cells slots) (hx : p.tables.exec = Jvm.exec) {pc : Nat} {Ls : Array Slot} {z : Int32} {t : FieldType} {rest : List Value} (hret : meth.sig.returnType = some t) (ht : t = .boolean ∨ t = .byte ∨ t = .char ∨ t = .short) (hlk : meth.locks = false) (hd : decode c.code pc = .ok (.ireturn, 1)) (hc : cells ≤ C) (hs : slots ≤ S) (hQ : Q (some (.int (nar t z))) T.heap locs) :
    ORun p e below s Q C S T (mkF m pc Ls (.int z :: rest)) := by
  obtain ⟨fs, hr, hrun, hended, hW, hsame⟩ := X.leave (v := some (.int (nar t z))) (fun h => by rw [hret] at h; cases h) hlk
  exact ⟨_, _, retN X hx hret ht hd hr, hrun, hended, _, _, rfl, hQ, ⟨_, rfl⟩, hW, hsame.mono hc hs⟩
theorem own_retJ (X : Stand p l e R s m args below meth c T locs cells slots) (hx : p.tables.exec = Jvm.exec) {pc : Nat} {Ls : Array Slot} {z : Int64} (hret : meth.sig.returnType = some .long) (hlk : meth.locks = false) (hd : decode c.code pc = .ok (.lreturn, 1)) (hc : cells ≤ C) (hs : slots ≤ S) (hQ : Q (some (.long z)) T.heap locs) :
    ORun p e below s Q C S T (mkF m pc Ls [.long z]) := by
  obtain ⟨fs, hr, hrun, hended, hW, hsame⟩ := X.leave (v := some (.long z)) (fun h => by rw [hret] at h; cases h) hlk
  exact ⟨_, _, X.lreturnOut hx hret hd hr, hrun, hended, _, _, rfl, hQ, ⟨_, rfl⟩, hW, hsame.mono hc hs⟩
theorem own_retA (X : Stand p l e R s m args below meth c T locs cells slots) (hx : p.tables.exec = Jvm.exec) {pc : Nat} {Ls : Array Slot} {z : Value} {t : FieldType} {rest : List Value} (hret : meth.sig.returnType = some t) (ht : t.isReference = true) (hz : z.isRef = true) (hn : narrow t z = z) (hlk : meth.locks = false) (hd : decode c.code pc = .ok (.areturn, 1)) (hc : cells ≤ C) (hs : slots ≤ S) (hQ : Q (some z) T.heap locs) :
    ORun p e below s Q C S T (mkF m pc Ls (z :: rest)) := by
  obtain ⟨fs, hr, hrun, hended, hW, hsame⟩ := X.leave (v := some z) (fun h => by rw [hret] at h; cases h) hlk
  exact ⟨_, _, retOut X hx hret hn (Or.inr (Or.inr (Or.inr (Or.inr ⟨rfl, ht, hz⟩)))) hd hr, hrun, hended, _, _, rfl, hQ, ⟨_, rfl⟩, hW, hsame.mono hc hs⟩
theorem own_retV (X : Stand p l e R s m args below meth c T locs cells slots) (hx : p.tables.exec = Jvm.exec) {pc : Nat} {Ls : Array Slot} (hret : meth.sig.returnType = none) (hlk : meth.locks = false) (hd : decode c.code pc = .ok (.return_, 1)) (hc : cells ≤ C) (hs : slots ≤ S) (hQ : Q none T.heap locs) :
    ORun p e below s Q C S T (mkF m pc Ls []) := by
  obtain ⟨fs, hr, hrun, hended, hW, hsame⟩ := X.leave (v := none) (fun _ => rfl) hlk
  exact ⟨_, _, X.returnOut hx hret hd hr, hrun, hended, _, _, rfl, hQ, ⟨_, rfl⟩, hW, hsame.mono hc hs⟩
/-- a body's contract: called with as at the heap h (tables as at Z) it returns, and what it leaves is as Q says -/
abbrev OMet (l : Launch) (y : MethodName) (bytes : ByteArray) (maxL : Nat) (ret : Option FieldType) (ws : List Jvm.Cond) (rm : Room) (as' : Array Value) (Z : State) (h : Heap) (Q : Option Value → Heap → List Loc → Prop) : Prop :=
  MetFree l y (head1 (Jvm.Cond.code y bytes maxL ret :: ws) rm) (fun a U => a = as' ∧ Z.Warmed39 U.vm ∧ U.heap = h) (fun _ _ _ _ _ => True) (fun _ U o U' => ∃ v L, o = .returned v ∧ Q v U'.heap L ∧ FrameEnd U o U' L rm.cells rm.slots)
theorem own_met {y : MethodName} {bytes : ByteArray} {maxL : Nat} {ret : Option FieldType} {ws : List Jvm.Cond} {rm : Room} {as' : Array Value} {Z : State} {h : Heap} {Q : Option Value → Heap → List Loc → Prop} (hpn : plainFor y = true)
    (body : ∀ p e s m below meth c s₁, Stand p l e rm s m as' below meth c s₁ [] 0 0 → p.tables.exec = Jvm.exec → c.code = bytes → c.maxLocals = maxL → s.vm.findClass y.cls = some m.cls → meth.name = y.name → meth.sig.returnType = ret → meth.locks = false → Z.Warmed39 s.vm → s₁.heap = h →
      ORun p e below s Q rm.cells rm.slots s₁ (entryFrame m as' maxL)) : OMet l y bytes maxL ret ws rm as' Z h Q := by
  refine MetFree.of_bodySF hpn hisR ?_
  intro p e s m args below meth c s₁ Bd hml0 hP hK
  obtain ⟨rfl, hZ, hh⟩ := hP
  exact body p e s m below meth c s₁ (Stand.of_body Bd) Bd.exec Bd.bytes hml0 (findClass_of_methodNamed Bd.named) (name_of_methodNamed Bd.named Bd.method).1 Bd.returns Bd.notSynchronized hZ (by rw [← hh, Bd.state]; rfl)
section Calls
variable {Z : State} {a0 : Array Value} {h : Heap} {own : String} {index : Nat} {y z : MethodName} {bytes : ByteArray} {maxL : Nat} {ret : Option FieldType} {rm : Room} {as' : Array Value} {Qc : Option Value → Heap → List Loc → Prop} {W pc : Nat} {Ls : Array Slot} {st argsL rest : List Value}
theorem own_callS (X : Stand p l e R s m args below meth c T locs cells slots) (hx : p.tables.exec = Jvm.exec) (hZ : Z.Warmed39 s.vm) (hown : s.vm.findClass own = some m.cls) (w1 : (Jvm.Cond.methodLink own index y).before a0 Z = true) (w2 : (Jvm.Cond.static y).before a0 Z = true) (w3 : (Jvm.Cond.initialized y.cls).before a0 Z = true) (w4 : (Jvm.Cond.code y bytes maxL ret).before a0 Z = true)
    (hy : y.cls ≠ "java/lang/invoke/MethodHandle" ∧ y.cls ≠ "java/lang/invoke/VarHandle") (M : OMet l y bytes maxL ret [] rm as' Z h Qc) (eT : T.heap = h) (hf : rm.frames + 1 ≤ R.frames) (hl : W + (maxL + 11) + rm.locals ≤ R.locals) (hc : cells + rm.cells ≤ R.cells) (hs : slots + rm.slots ≤ R.slots)
    (hsz : Ls.size = c.maxLocals) (hlen : ∀ sig, parseMethodDescriptor y.desc = some sig → argsL.length = sig.parameters.length) (hst : st = argsL.reverse ++ rest) (has : argsL.toArray = as') (hW : 2 * 0 + (rest.map fun v => v.category).sum ≤ W) (hd : decode c.code pc = .ok (.invokestatic index, 3))
    (K : ∀ T' L v, Stand p l e R s m args below meth c T' (locs ++ L) (cells + rm.cells) (slots + rm.slots) → Qc v T'.heap L → ORun p e below s Q C S T' (mkF m (pc + 3) Ls (v.toList ++ rest))) : ORun p e below s Q C S T (mkF m pc Ls st) := by
  obtain ⟨v, _, ⟨T', L', k', n'⟩, -, X', ⟨Lc, hQ, e1, e2, e3⟩, stp⟩ := Jvm.LawKit.callS X hx (y := y) hown (mvT hZ w1) (mvT hZ w2) (mvT hZ w3) (mvT hZ w4) hy (backOf (W := W) M hZ w4 w3 hf hl) (g := mkF m pc Ls st) rfl hsz (argsL := argsL) (rest := rest) hlen hst hW hd (fun _ _ => ⟨has, eT, hc, hs⟩)
  dsimp only [Pt.U, Pt.locs, Pt.cells, Pt.slots] at X' e1 e2 e3 stp hQ
  subst e1 e2 e3
  exact own_by stp (K T' Lc v X' hQ)
theorem own_callC (X : Stand p l e R s m args below meth c T locs cells slots) (hx : p.tables.exec = Jvm.exec) (hZ : Z.Warmed39 s.vm) (hown : s.vm.findClass own = some m.cls) (hn : y.name = "<init>") (w1 : (Jvm.Cond.methodLink own index y).before a0 Z = true) (w2 : (Jvm.Cond.instanceMethod y).before a0 Z = true) (w3 : (Jvm.Cond.initialized y.cls).before a0 Z = true) (w4 : (Jvm.Cond.code y bytes maxL none).before a0 Z = true)
    (hy : y.cls ≠ "java/lang/invoke/MethodHandle" ∧ y.cls ≠ "java/lang/invoke/VarHandle") (M : OMet l y bytes maxL none [] rm as' Z h Qc) (eT : T.heap = h) (hf : rm.frames + 1 ≤ R.frames) (hl : W + (maxL + 11) + rm.locals ≤ R.locals) (hc : cells + rm.cells ≤ R.cells) (hs : slots + rm.slots ≤ R.slots)
    {b : Addr} (hsz : Ls.size = c.maxLocals) (hlen : ∀ sig, parseMethodDescriptor y.desc = some sig → argsL.length = sig.parameters.length) (hst : st = argsL.reverse ++ .ref b :: rest) (has : (.ref b :: argsL).toArray = as') (hW : 2 * 0 + (rest.map fun v => v.category).sum ≤ W) (hd : decode c.code pc = .ok (.invokespecial index, 3))
    (K : ∀ T' L v, Stand p l e R s m args below meth c T' (locs ++ L) (cells + rm.cells) (slots + rm.slots) → Qc v T'.heap L → ORun p e below s Q C S T' (mkF m (pc + 3) Ls (v.toList ++ rest))) : ORun p e below s Q C S T (mkF m pc Ls st) := by
  obtain ⟨v, _, ⟨T', L', k', n'⟩, -, X', ⟨Lc, hQ, e1, e2, e3⟩, stp⟩ := X.specialBack hx (y := y) hn hown (mvT hZ w1) (mvT hZ w2) (mvT hZ w4) hy (backOf (W := W) M hZ w4 w3 hf hl) (g := mkF m pc Ls st) rfl hsz (Steps.refl _) (a := b) (argsL := argsL) (rest := rest) hlen hst hW hd (fun _ _ => ⟨has, eT, hc, hs⟩)
  dsimp only [Pt.U, Pt.locs, Pt.cells, Pt.slots] at X' e1 e2 e3 stp hQ
  subst e1 e2 e3
  exact own_tr stp (K T' Lc v X' hQ)
theorem own_callV (X : Stand p l e R s m args below meth c T locs cells slots) (hx : p.tables.exec = Jvm.exec) (hZ : Z.Warmed39 s.vm) (hown : s.vm.findClass own = some m.cls) {Cn : String} {b : Addr} (E : Exa Z h b Cn) (w1 : (Jvm.Cond.methodLink own index y).before a0 Z = true) (wd : (Jvm.Cond.declares y).before a0 Z = true) (nf : NotFace s y) (ws : (Jvm.Cond.selects Cn y z).before a0 Z = true) (w2 : (Jvm.Cond.instanceMethod z).before a0 Z = true) (w3 : (Jvm.Cond.initialized z.cls).before a0 Z = true) (w4 : (Jvm.Cond.code z bytes maxL ret).before a0 Z = true)
    (hy : y.cls ≠ "java/lang/invoke/MethodHandle" ∧ y.cls ≠ "java/lang/invoke/VarHandle") (M : OMet l z bytes maxL ret [] rm as' Z h Qc) (eT : T.heap = h) (hf : rm.frames + 1 ≤ R.frames) (hl : W + (maxL + 11) + rm.locals ≤ R.locals) (hc : cells + rm.cells ≤ R.cells) (hs : slots + rm.slots ≤ R.slots)
    (hsz : Ls.size = c.maxLocals) (hlen : ∀ sig, parseMethodDescriptor y.desc = some sig → argsL.length = sig.parameters.length) (hst : st = argsL.reverse ++ .ref b :: rest) (has : (.ref b :: argsL).toArray = as') (hW : 2 * 0 + (rest.map fun v => v.category).sum ≤ W) (hd : decode c.code pc = .ok (.invokevirtual index, 3))
    (K : ∀ T' L v, Stand p l e R s m args below meth c T' (locs ++ L) (cells + rm.cells) (slots + rm.slots) → Qc v T'.heap L → ORun p e below s Q C S T' (mkF m (pc + 3) Ls (v.toList ++ rest))) : ORun p e below s Q C S T (mkF m pc Ls st) := by
  obtain ⟨cq, kq, qa, qb, qc⟩ := isOf hZ eT E
  obtain ⟨v, _, ⟨T', L', k', n'⟩, -, X', ⟨Lc, hQ, e1, e2, e3⟩, stp⟩ := X.virtualBack hx (y := y) (z := z) hown (mvT hZ w1) (mvT hZ wd) nf (mvT hZ ws) (mvT hZ w2) hy (backOf (W := W) M hZ w4 w3 hf hl) qa qc (g := mkF m pc Ls st) rfl hsz (Steps.refl _) (argsL := argsL) (rest := rest) hlen hst hW hd (fun _ _ => ⟨has, eT, hc, hs⟩)
  dsimp only [Pt.U, Pt.locs, Pt.cells, Pt.slots] at X' e1 e2 e3 stp hQ
  subst e1 e2 e3
  exact own_tr stp (K T' Lc v X' hQ)
end Calls
end OwnRun
theorem own_lt {x y : Int32} {a b : Int} (h : x < y) (ha : x.toInt = a) (hb : y.toInt = b) : a < b := by subst ha hb; exact Int32.lt_iff_toInt_lt.mp h
theorem own_nlt {x y : Int32} {a b : Int} (h : ¬ x < y) (ha : x.toInt = a) (hb : y.toInt = b) : b ≤ a := by subst ha hb; exact Int.not_lt.mp fun q => h (Int32.lt_iff_toInt_lt.mpr q)
theorem own_eq {x y : Int32} {a b : Int} (h : x = y) (ha : x.toInt = a) (hb : y.toInt = b) : a = b := by subst ha hb h; rfl
theorem own_ne {x y : Int32} {a b : Int} (h : ¬ x = y) (ha : x.toInt = a) (hb : y.toInt = b) : a ≠ b := by subst ha hb; exact fun q => h (Int32.toInt_inj.mp q)
theorem own_ltL {x y : Int64} {a b : Int} (h : x < y) (ha : x.toInt = a) (hb : y.toInt = b) : a < b := by subst ha hb; exact Int64.lt_iff_toInt_lt.mp h
theorem own_nltL {x y : Int64} {a b : Int} (h : ¬ x < y) (ha : x.toInt = a) (hb : y.toInt = b) : b ≤ a := by subst ha hb; exact Int.not_lt.mp fun q => h (Int64.lt_iff_toInt_lt.mpr q)
theorem own_eqL {x y : Int64} {a b : Int} (h : x = y) (ha : x.toInt = a) (hb : y.toInt = b) : a = b := by subst ha hb h; rfl
theorem own_neL {x y : Int64} {a b : Int} (h : ¬ x = y) (ha : x.toInt = a) (hb : y.toInt = b) : a ≠ b := by subst ha hb; exact fun q => h (Int64.toInt_inj.mp q)
theorem own_lc {cd : ClassFile.Cond} {x y : Int64} {b : Bool} (h : if_icmp.holds cd (lcmpW x y) 0 = b) : ifCond.holds cd (lcmpW x y) = b := (if0 _ _).trans h
theorem own_lclt {x y : Int64} (h : x < y) : ifCond.holds .lt (lcmpW x y) = true ∧ ifCond.holds .ge (lcmpW x y) = false := ⟨own_lc (tlt ((lw_lt x y).mpr h)).1, own_lc (tlt ((lw_lt x y).mpr h)).2.1⟩
theorem own_lcnlt {x y : Int64} (h : ¬ x < y) : ifCond.holds .lt (lcmpW x y) = false ∧ ifCond.holds .ge (lcmpW x y) = true := have q : ¬ lcmpW x y < 0 := fun z => h ((lw_lt x y).mp z); ⟨own_lc (flt q).1, own_lc (flt q).2.1⟩
theorem own_lcgt {x y : Int64} (h : y < x) : ifCond.holds .gt (lcmpW x y) = true ∧ ifCond.holds .le (lcmpW x y) = false := ⟨own_lc (tlt ((lw_gt x y).mpr h)).2.2.1, own_lc (tlt ((lw_gt x y).mpr h)).2.2.2⟩
theorem own_lcngt {x y : Int64} (h : ¬ y < x) : ifCond.holds .gt (lcmpW x y) = false ∧ ifCond.holds .le (lcmpW x y) = true := have q : ¬ 0 < lcmpW x y := fun z => h ((lw_gt x y).mp z); ⟨own_lc (flt q).2.2.1, own_lc (flt q).2.2.2⟩
theorem own_lceq {x y : Int64} (h : x = y) : ifCond.holds .eq (lcmpW x y) = true ∧ ifCond.holds .ne (lcmpW x y) = false := ⟨own_lc (teq ((lw_eq x y).mpr h)).1, own_lc (teq ((lw_eq x y).mpr h)).2⟩
theorem own_lcne {x y : Int64} (h : ¬ x = y) : ifCond.holds .eq (lcmpW x y) = false ∧ ifCond.holds .ne (lcmpW x y) = true := have q : ¬ lcmpW x y = 0 := fun z => h ((lw_eq x y).mp z); ⟨own_lc (feq q).1, own_lc (feq q).2⟩
theorem own_kext {h0 h : Heap} (K : Keep h0 h []) : Ext h0 h := ⟨K.1, fun a c q => K.2.1 a c q nin0⟩
theorem pd_0 : parseMethodDescriptor "(JII)J" = some ⟨[.long, .int, .int], some .long⟩ := by decide +kernel
theorem pd_1 : parseMethodDescriptor "(JI)J" = some ⟨[.long, .int], some .long⟩ := by decide +kernel
theorem d1_0 : decode prog_24_method_6_code 0 = .ok (.lload_n 0, 1) := by decide +kernel
theorem d1_1 : decode prog_24_method_6_code 1 = .ok (.iload_n 3, 1) := by decide +kernel
theorem d1_2 : decode prog_24_method_6_code 2 = .ok (.i2l, 1) := by decide +kernel
theorem d1_3 : decode prog_24_method_6_code 3 = .ok (.lload_n 0, 1) := by decide +kernel
theorem d1_4 : decode prog_24_method_6_code 4 = .ok (.lsub, 1) := by decide +kernel
theorem d1_5 : decode prog_24_method_6_code 5 = .ok (.ldc2_w 54, 3) := by decide +kernel
theorem d1_8 : decode prog_24_method_6_code 8 = .ok (.land, 1) := by decide +kernel
theorem d1_9 : decode prog_24_method_6_code 9 = .ok (.ladd, 1) := by decide +kernel
theorem d1_10 : decode prog_24_method_6_code 10 = .ok (.lstore 4, 2) := by decide +kernel
theorem d1_12 : decode prog_24_method_6_code 12 = .ok (.lload 4, 2) := by decide +kernel
theorem d1_14 : decode prog_24_method_6_code 14 = .ok (.bipush 16, 2) := by decide +kernel
theorem d1_16 : decode prog_24_method_6_code 16 = .ok (.lushr, 1) := by decide +kernel
theorem d1_17 : decode prog_24_method_6_code 17 = .ok (.lstore 6, 2) := by decide +kernel
theorem d1_19 : decode prog_24_method_6_code 19 = .ok (.lload 4, 2) := by decide +kernel
theorem d1_21 : decode prog_24_method_6_code 21 = .ok (.ldc2_w 56, 3) := by decide +kernel
theorem d1_24 : decode prog_24_method_6_code 24 = .ok (.ladd, 1) := by decide +kernel
theorem d1_25 : decode prog_24_method_6_code 25 = .ok (.lconst 1, 1) := by decide +kernel
theorem d1_26 : decode prog_24_method_6_code 26 = .ok (.lsub, 1) := by decide +kernel
theorem d1_27 : decode prog_24_method_6_code 27 = .ok (.bipush 16, 2) := by decide +kernel
theorem d1_29 : decode prog_24_method_6_code 29 = .ok (.lushr, 1) := by decide +kernel
theorem d1_30 : decode prog_24_method_6_code 30 = .ok (.lload 6, 2) := by decide +kernel
theorem d1_32 : decode prog_24_method_6_code 32 = .ok (.lcmp, 1) := by decide +kernel
theorem d1_33 : decode prog_24_method_6_code 33 = .ok (.ifCond .ne 7, 3) := by decide +kernel
theorem d1_36 : decode prog_24_method_6_code 36 = .ok (.iconst 1, 1) := by decide +kernel
theorem d1_37 : decode prog_24_method_6_code 37 = .ok (.goto 4, 3) := by decide +kernel
theorem d1_40 : decode prog_24_method_6_code 40 = .ok (.iconst 0, 1) := by decide +kernel
theorem d1_41 : decode prog_24_method_6_code 41 = .ok (.istore 8, 2) := by decide +kernel
theorem d1_43 : decode prog_24_method_6_code 43 = .ok (.lload 6, 2) := by decide +kernel
theorem d1_45 : decode prog_24_method_6_code 45 = .ok (.ldc2_w 54, 3) := by decide +kernel
theorem d1_48 : decode prog_24_method_6_code 48 = .ok (.land, 1) := by decide +kernel
theorem d1_49 : decode prog_24_method_6_code 49 = .ok (.iload_n 2, 1) := by decide +kernel
theorem d1_50 : decode prog_24_method_6_code 50 = .ok (.i2l, 1) := by decide +kernel
theorem d1_51 : decode prog_24_method_6_code 51 = .ok (.lcmp, 1) := by decide +kernel
theorem d1_52 : decode prog_24_method_6_code 52 = .ok (.ifCond .ne 8, 3) := by decide +kernel
theorem d1_55 : decode prog_24_method_6_code 55 = .ok (.iload 8, 2) := by decide +kernel
theorem d1_57 : decode prog_24_method_6_code 57 = .ok (.ifCond .ne 31, 3) := by decide +kernel
theorem d1_60 : decode prog_24_method_6_code 60 = .ok (.lload 6, 2) := by decide +kernel
theorem d1_62 : decode prog_24_method_6_code 62 = .ok (.lconst 1, 1) := by decide +kernel
theorem d1_63 : decode prog_24_method_6_code 63 = .ok (.iload_n 2, 1) := by decide +kernel
theorem d1_64 : decode prog_24_method_6_code 64 = .ok (.i2l, 1) := by decide +kernel
theorem d1_65 : decode prog_24_method_6_code 65 = .ok (.lload 6, 2) := by decide +kernel
theorem d1_67 : decode prog_24_method_6_code 67 = .ok (.lsub, 1) := by decide +kernel
theorem d1_68 : decode prog_24_method_6_code 68 = .ok (.lconst 1, 1) := by decide +kernel
theorem d1_69 : decode prog_24_method_6_code 69 = .ok (.lsub, 1) := by decide +kernel
theorem d1_70 : decode prog_24_method_6_code 70 = .ok (.ldc2_w 54, 3) := by decide +kernel
theorem d1_73 : decode prog_24_method_6_code 73 = .ok (.land, 1) := by decide +kernel
theorem d1_74 : decode prog_24_method_6_code 74 = .ok (.ladd, 1) := by decide +kernel
theorem d1_75 : decode prog_24_method_6_code 75 = .ok (.ladd, 1) := by decide +kernel
theorem d1_76 : decode prog_24_method_6_code 76 = .ok (.lstore 6, 2) := by decide +kernel
theorem d1_78 : decode prog_24_method_6_code 78 = .ok (.lload 6, 2) := by decide +kernel
theorem d1_80 : decode prog_24_method_6_code 80 = .ok (.bipush 16, 2) := by decide +kernel
theorem d1_82 : decode prog_24_method_6_code 82 = .ok (.lshl, 1) := by decide +kernel
theorem d1_83 : decode prog_24_method_6_code 83 = .ok (.iload_n 3, 1) := by decide +kernel
theorem d1_84 : decode prog_24_method_6_code 84 = .ok (.i2l, 1) := by decide +kernel
theorem d1_85 : decode prog_24_method_6_code 85 = .ok (.ladd, 1) := by decide +kernel
theorem d1_86 : decode prog_24_method_6_code 86 = .ok (.lstore 4, 2) := by decide +kernel
theorem d1_88 : decode prog_24_method_6_code 88 = .ok (.lload 4, 2) := by decide +kernel
theorem d1_90 : decode prog_24_method_6_code 90 = .ok (.lreturn, 1) := by decide +kernel
theorem pn_rm1 : plainName "com/example/callweave/callweave/generate/ReplayHashes" = true := by first | (simp [plainName, overriddenIn]; done) | decide +kernel
theorem ef_rm1 (m : MethodId) (x0 : Int64) (x1 : Int32) (x2 : Int32) : entryFrame m #[(.long x0), (.int x1), (.int x2)] 9 = mkF m 0 #[.val (.long x0), .second, .val (.int x1), .val (.int x2), .unset, .unset, .unset, .unset, .unset] [] := by first | (simp [entryFrame, mkF, argsToLocals, Value.category]; done) | rfl
set_option maxRecDepth 65536 in
set_option maxHeartbeats 40000000 in
theorem rm1 (l : Launch) (Z : State) (a0 : Array Value) (hw : ∀ d ∈ tables_1, d.before a0 Z = true) (ws : List Jvm.Cond) (h0 : Heap) (n0 : Nat) (Z0 : n0 ≤ h0.size) (q1 : Int64) (p2 p3 : Int32) (b1 : 0 ≤ q1.toInt ∧ q1.toInt < 4611686018427387904) (b2 : 0 ≤ p2.toInt ∧ p2.toInt < 16) (b3 : 0 ≤ p3.toInt ∧ p3.toInt < 16) :
    OMet l (⟨"com/example/callweave/callweave/generate/ReplayHashes", "startOfTest", "(JII)J"⟩ : MethodName) prog_24_method_6_code 9 (some .long) ws ({ frames := 0, cells := 0, slots := 0, locals := 0 } : Room) #[(.long q1), (.int p2), (.int p3)] Z h0 (fun v h L => ∃ r : Int64, v = some (.long r) ∧ (∃ c b : Int, c = q1.toInt + (p3.toInt - q1.toInt) % 16 ∧ b = c / 65536 ∧ ((b % 16 = p2.toInt ∧ c % 65536 ≤ 65520 ∧ r.toInt = c) ∨ (¬ (b % 16 = p2.toInt ∧ c % 65536 ≤ 65520) ∧ r.toInt = (b + 1 + (p2.toInt - b - 1) % 16) * 65536 + p3.toInt))) ∧ Fr n0 L ∧ h = h0) := by
  refine own_met (plainFor_of_name pn_rm1) ?_
  intro p e s m below meth c s₁ X0 hx hby hml hown hnm hret hlk hZ e0
  rw [ef_rm1]
  have N0 := Fr.nil n0
  show ORun p e below s _ _ _ s₁ (mkF m 0 #[.val (.long q1), .second, .val (.int p2), .val (.int p3), .unset, .unset, .unset, .unset, .unset] [])
  refine own_by (fun t k => XS.lloadN X0.here hx rfl (hb hby d1_0) rfl k) ?_
  show ORun p e below s _ _ _ s₁ (mkF m 1 #[.val (.long q1), .second, .val (.int p2), .val (.int p3), .unset, .unset, .unset, .unset, .unset] [(.long q1)])
  refine own_by (fun t k => XS.iloadN X0.here hx rfl (hb hby d1_1) rfl k) ?_
  show ORun p e below s _ _ _ s₁ (mkF m 2 #[.val (.long q1), .second, .val (.int p2), .val (.int p3), .unset, .unset, .unset, .unset, .unset] [(.int p3), (.long q1)])
  refine own_by (fun t k => XS.i2l X0.here hx rfl (hb hby d1_2) rfl k) (own_letJ (f := (fun z => (mkF m 3 #[.val (.long q1), .second, .val (.int p2), .val (.int p3), .unset, .unset, .unset, .unset, .unset] [(.long z), (.long q1)]))) (p3.toInt64) fun v1 hv1 => ?_)
  show ORun p e below s _ _ _ s₁ (mkF m 3 #[.val (.long q1), .second, .val (.int p2), .val (.int p3), .unset, .unset, .unset, .unset, .unset] [(.long v1), (.long q1)])
  have a1a : v1.toInt = p3.toInt := by rw [hv1]; exact c_i2l p3
  have r1 := rng64 v1
  refine own_by (fun t k => XS.lloadN X0.here hx rfl (hb hby d1_3) rfl k) ?_
  show ORun p e below s _ _ _ s₁ (mkF m 4 #[.val (.long q1), .second, .val (.int p2), .val (.int p3), .unset, .unset, .unset, .unset, .unset] [(.long q1), (.long v1), (.long q1)])
  refine own_by (fun t k => XS.lsub X0.here hx rfl (hb hby d1_4) rfl k) (own_letJ (f := (fun z => (mkF m 5 #[.val (.long q1), .second, .val (.int p2), .val (.int p3), .unset, .unset, .unset, .unset, .unset] [(.long z), (.long q1)]))) (v1 - q1) fun v2 hv2 => ?_)
  show ORun p e below s _ _ _ s₁ (mkF m 5 #[.val (.long q1), .second, .val (.int p2), .val (.int p3), .unset, .unset, .unset, .unset, .unset] [(.long v2), (.long q1)])
  have r2 := rng64 v2
  have a2 : v2.toInt = v1.toInt - q1.toInt := by
    have q : (v2.toInt - (v1.toInt - q1.toInt)) % 18446744073709551616 = 0 := by rw [hv2]; exact c_lsub v1 q1
    omega
  refine own_by (fun t k => X0.ldc2Long hx hown (mvT hZ (hw _ (List.mem_of_getElem? (i := 5) rfl))) (g := (mkF m 5 #[.val (.long q1), .second, .val (.int p2), .val (.int p3), .unset, .unset, .unset, .unset, .unset] [(.long v2), (.long q1)])) rfl (hb hby d1_5) _ k) ?_
  show ORun p e below s _ _ _ s₁ (mkF m 8 #[.val (.long q1), .second, .val (.int p2), .val (.int p3), .unset, .unset, .unset, .unset, .unset] [(.long (15 : Int64)), (.long v2), (.long q1)])
  refine own_by (fun t k => XS.land X0.here hx rfl (hb hby d1_8) rfl k) (own_letJ (f := (fun z => (mkF m 9 #[.val (.long q1), .second, .val (.int p2), .val (.int p3), .unset, .unset, .unset, .unset, .unset] [(.long z), (.long q1)]))) (v2 &&& (15 : Int64)) fun v3 hv3 => ?_)
  show ORun p e below s _ _ _ s₁ (mkF m 9 #[.val (.long q1), .second, .val (.int p2), .val (.int p3), .unset, .unset, .unset, .unset, .unset] [(.long v3), (.long q1)])
  have a3a : v3.toInt = v2.toInt % 16 := by rw [hv3]; exact c_maskL v2 (15 : Int64) 4 (by decide) (by decide)
  have r3 := rng64 v3
  refine own_by (fun t k => XS.ladd X0.here hx rfl (hb hby d1_9) rfl k) (own_letJ (f := (fun z => (mkF m 10 #[.val (.long q1), .second, .val (.int p2), .val (.int p3), .unset, .unset, .unset, .unset, .unset] [(.long z)]))) (q1 + v3) fun v4 hv4 => ?_)
  show ORun p e below s _ _ _ s₁ (mkF m 10 #[.val (.long q1), .second, .val (.int p2), .val (.int p3), .unset, .unset, .unset, .unset, .unset] [(.long v4)])
  have r4 := rng64 v4
  have a4 : v4.toInt = q1.toInt + v3.toInt := by
    have q : (v4.toInt - (q1.toInt + v3.toInt)) % 18446744073709551616 = 0 := by rw [hv4]; exact c_ladd q1 v3
    omega
  refine own_by (fun t k => XS.lstore X0.here hx rfl (hb hby d1_10) rfl (l' := #[.val (.long q1), .second, .val (.int p2), .val (.int p3), .val (.long v4), .second, .unset, .unset, .unset]) rfl k) ?_
  show ORun p e below s _ _ _ s₁ (mkF m 12 #[.val (.long q1), .second, .val (.int p2), .val (.int p3), .val (.long v4), .second, .unset, .unset, .unset] [])
  refine own_by (fun t k => XS.lload X0.here hx rfl (hb hby d1_12) rfl k) ?_
  show ORun p e below s _ _ _ s₁ (mkF m 14 #[.val (.long q1), .second, .val (.int p2), .val (.int p3), .val (.long v4), .second, .unset, .unset, .unset] [(.long v4)])
  refine own_by (fun t k => XS.bipush X0.here hx rfl (hb hby d1_14) k) ?_
  show ORun p e below s _ _ _ s₁ (mkF m 16 #[.val (.long q1), .second, .val (.int p2), .val (.int p3), .val (.long v4), .second, .unset, .unset, .unset] [(.int (16 : Int32)), (.long v4)])
  refine own_by (fun t k => XS.lushr X0.here hx rfl (hb hby d1_16) rfl k) (own_letJ (f := (fun z => (mkF m 17 #[.val (.long q1), .second, .val (.int p2), .val (.int p3), .val (.long v4), .second, .unset, .unset, .unset] [(.long z)]))) ((v4.toUInt64 >>> ((16 : Int32) &&& 0x3f).toInt64.toUInt64).toInt64) fun v5 hv5 => ?_)
  show ORun p e below s _ _ _ s₁ (mkF m 17 #[.val (.long q1), .second, .val (.int p2), .val (.int p3), .val (.long v4), .second, .unset, .unset, .unset] [(.long v5)])
  have r5 := rng64 v5
  have a5 : v5.toInt = v4.toInt / 65536 := by
    have q : v5.toInt = (v4.toInt % 18446744073709551616) / 65536 := by rw [hv5]; exact c_lushr v4 (16 : Int32) 16 (by decide) (by decide)
    omega
  refine own_by (fun t k => XS.lstore X0.here hx rfl (hb hby d1_17) rfl (l' := #[.val (.long q1), .second, .val (.int p2), .val (.int p3), .val (.long v4), .second, .val (.long v5), .second, .unset]) rfl k) ?_
  show ORun p e below s _ _ _ s₁ (mkF m 19 #[.val (.long q1), .second, .val (.int p2), .val (.int p3), .val (.long v4), .second, .val (.long v5), .second, .unset] [])
  refine own_by (fun t k => XS.lload X0.here hx rfl (hb hby d1_19) rfl k) ?_
  show ORun p e below s _ _ _ s₁ (mkF m 21 #[.val (.long q1), .second, .val (.int p2), .val (.int p3), .val (.long v4), .second, .val (.long v5), .second, .unset] [(.long v4)])
  refine own_by (fun t k => X0.ldc2Long hx hown (mvT hZ (hw _ (List.mem_of_getElem? (i := 6) rfl))) (g := (mkF m 21 #[.val (.long q1), .second, .val (.int p2), .val (.int p3), .val (.long v4), .second, .val (.long v5), .second, .unset] [(.long v4)])) rfl (hb hby d1_21) _ k) ?_
  show ORun p e below s _ _ _ s₁ (mkF m 24 #[.val (.long q1), .second, .val (.int p2), .val (.int p3), .val (.long v4), .second, .val (.long v5), .second, .unset] [(.long (16 : Int64)), (.long v4)])
  refine own_by (fun t k => XS.ladd X0.here hx rfl (hb hby d1_24) rfl k) (own_letJ (f := (fun z => (mkF m 25 #[.val (.long q1), .second, .val (.int p2), .val (.int p3), .val (.long v4), .second, .val (.long v5), .second, .unset] [(.long z)]))) (v4 + (16 : Int64)) fun v6 hv6 => ?_)
  show ORun p e below s _ _ _ s₁ (mkF m 25 #[.val (.long q1), .second, .val (.int p2), .val (.int p3), .val (.long v4), .second, .val (.long v5), .second, .unset] [(.long v6)])
  have r6 := rng64 v6
  have a6 : v6.toInt = v4.toInt + 16 := by
    have q : (v6.toInt - (v4.toInt + 16)) % 18446744073709551616 = 0 := by rw [hv6]; exact c_ladd v4 (16 : Int64)
    omega
  refine own_by (fun t k => XS.lconst X0.here hx rfl (hb hby d1_25) k) ?_
  show ORun p e below s _ _ _ s₁ (mkF m 26 #[.val (.long q1), .second, .val (.int p2), .val (.int p3), .val (.long v4), .second, .val (.long v5), .second, .unset] [(.long (1 : Int64)), (.long v6)])
  refine own_by (fun t k => XS.lsub X0.here hx rfl (hb hby d1_26) rfl k) (own_letJ (f := (fun z => (mkF m 27 #[.val (.long q1), .second, .val (.int p2), .val (.int p3), .val (.long v4), .second, .val (.long v5), .second, .unset] [(.long z)]))) (v6 - (1 : Int64)) fun v7 hv7 => ?_)
  show ORun p e below s _ _ _ s₁ (mkF m 27 #[.val (.long q1), .second, .val (.int p2), .val (.int p3), .val (.long v4), .second, .val (.long v5), .second, .unset] [(.long v7)])
  have r7 := rng64 v7
  have a7 : v7.toInt = v6.toInt - 1 := by
    have q : (v7.toInt - (v6.toInt - 1)) % 18446744073709551616 = 0 := by rw [hv7]; exact c_lsub v6 (1 : Int64)
    omega
  refine own_by (fun t k => XS.bipush X0.here hx rfl (hb hby d1_27) k) ?_
  show ORun p e below s _ _ _ s₁ (mkF m 29 #[.val (.long q1), .second, .val (.int p2), .val (.int p3), .val (.long v4), .second, .val (.long v5), .second, .unset] [(.int (16 : Int32)), (.long v7)])
  refine own_by (fun t k => XS.lushr X0.here hx rfl (hb hby d1_29) rfl k) (own_letJ (f := (fun z => (mkF m 30 #[.val (.long q1), .second, .val (.int p2), .val (.int p3), .val (.long v4), .second, .val (.long v5), .second, .unset] [(.long z)]))) ((v7.toUInt64 >>> ((16 : Int32) &&& 0x3f).toInt64.toUInt64).toInt64) fun v8 hv8 => ?_)
  show ORun p e below s _ _ _ s₁ (mkF m 30 #[.val (.long q1), .second, .val (.int p2), .val (.int p3), .val (.long v4), .second, .val (.long v5), .second, .unset] [(.long v8)])
  have r8 := rng64 v8
  have a8 : v8.toInt = v7.toInt / 65536 := by
    have q : v8.toInt = (v7.toInt % 18446744073709551616) / 65536 := by rw [hv8]; exact c_lushr v7 (16 : Int32) 16 (by decide) (by decide)
    omega
  refine own_by (fun t k => XS.lload X0.here hx rfl (hb hby d1_30) rfl k) ?_
  show ORun p e below s _ _ _ s₁ (mkF m 32 #[.val (.long q1), .second, .val (.int p2), .val (.int p3), .val (.long v4), .second, .val (.long v5), .second, .unset] [(.long v5), (.long v8)])
  refine own_by (fun t k => XS.lcmp X0.here hx rfl (hb hby d1_32) rfl k) ?_
  show ORun p e below s _ _ _ s₁ (mkF m 33 #[.val (.long q1), .second, .val (.int p2), .val (.int p3), .val (.long v4), .second, .val (.long v5), .second, .unset] [(.int (lcmpW v8 v5))])
  by_cases hc9 : v8 = v5
  · have t9 := own_eqL hc9 (a := v8.toInt) (b := v5.toInt) rfl rfl
    refine own_by (fun t k => XS.ifNo X0.here hx rfl (hb hby d1_33) rfl (own_lceq hc9).2 k) ?_
    show ORun p e below s _ _ _ s₁ (mkF m 36 #[.val (.long q1), .second, .val (.int p2), .val (.int p3), .val (.long v4), .second, .val (.long v5), .second, .unset] [])
    refine own_by (fun t k => XS.iconst X0.here hx rfl (hb hby d1_36) k) ?_
    show ORun p e below s _ _ _ s₁ (mkF m 37 #[.val (.long q1), .second, .val (.int p2), .val (.int p3), .val (.long v4), .second, .val (.long v5), .second, .unset] [(.int (1 : Int32))])
    refine own_by (fun t k => XS.goto X0.here hx rfl (pc0 := 37) (pc' := 41) rfl (hb hby d1_37) (by decide) (by decide) k) ?_
    show ORun p e below s _ _ _ s₁ (mkF m 41 #[.val (.long q1), .second, .val (.int p2), .val (.int p3), .val (.long v4), .second, .val (.long v5), .second, .unset] [(.int (1 : Int32))])
    refine own_by (fun t k => XS.istore X0.here hx rfl (hb hby d1_41) rfl (l' := #[.val (.long q1), .second, .val (.int p2), .val (.int p3), .val (.long v4), .second, .val (.long v5), .second, .val (.int (1 : Int32))]) rfl k) ?_
    show ORun p e below s _ _ _ s₁ (mkF m 43 #[.val (.long q1), .second, .val (.int p2), .val (.int p3), .val (.long v4), .second, .val (.long v5), .second, .val (.int (1 : Int32))] [])
    refine own_by (fun t k => XS.lload X0.here hx rfl (hb hby d1_43) rfl k) ?_
    show ORun p e below s _ _ _ s₁ (mkF m 45 #[.val (.long q1), .second, .val (.int p2), .val (.int p3), .val (.long v4), .second, .val (.long v5), .second, .val (.int (1 : Int32))] [(.long v5)])
    refine own_by (fun t k => X0.ldc2Long hx hown (mvT hZ (hw _ (List.mem_of_getElem? (i := 5) rfl))) (g := (mkF m 45 #[.val (.long q1), .second, .val (.int p2), .val (.int p3), .val (.long v4), .second, .val (.long v5), .second, .val (.int (1 : Int32))] [(.long v5)])) rfl (hb hby d1_45) _ k) ?_
    show ORun p e below s _ _ _ s₁ (mkF m 48 #[.val (.long q1), .second, .val (.int p2), .val (.int p3), .val (.long v4), .second, .val (.long v5), .second, .val (.int (1 : Int32))] [(.long (15 : Int64)), (.long v5)])
    refine own_by (fun t k => XS.land X0.here hx rfl (hb hby d1_48) rfl k) (own_letJ (f := (fun z => (mkF m 49 #[.val (.long q1), .second, .val (.int p2), .val (.int p3), .val (.long v4), .second, .val (.long v5), .second, .val (.int (1 : Int32))] [(.long z)]))) (v5 &&& (15 : Int64)) fun v10 hv10 => ?_)
    show ORun p e below s _ _ _ s₁ (mkF m 49 #[.val (.long q1), .second, .val (.int p2), .val (.int p3), .val (.long v4), .second, .val (.long v5), .second, .val (.int (1 : Int32))] [(.long v10)])
    have a10a : v10.toInt = v5.toInt % 16 := by rw [hv10]; exact c_maskL v5 (15 : Int64) 4 (by decide) (by decide)
    have r10 := rng64 v10
    refine own_by (fun t k => XS.iloadN X0.here hx rfl (hb hby d1_49) rfl k) ?_
    show ORun p e below s _ _ _ s₁ (mkF m 50 #[.val (.long q1), .second, .val (.int p2), .val (.int p3), .val (.long v4), .second, .val (.long v5), .second, .val (.int (1 : Int32))] [(.int p2), (.long v10)])
    refine own_by (fun t k => XS.i2l X0.here hx rfl (hb hby d1_50) rfl k) (own_letJ (f := (fun z => (mkF m 51 #[.val (.long q1), .second, .val (.int p2), .val (.int p3), .val (.long v4), .second, .val (.long v5), .second, .val (.int (1 : Int32))] [(.long z), (.long v10)]))) (p2.toInt64) fun v11 hv11 => ?_)
    show ORun p e below s _ _ _ s₁ (mkF m 51 #[.val (.long q1), .second, .val (.int p2), .val (.int p3), .val (.long v4), .second, .val (.long v5), .second, .val (.int (1 : Int32))] [(.long v11), (.long v10)])
    have a11a : v11.toInt = p2.toInt := by rw [hv11]; exact c_i2l p2
    have r11 := rng64 v11
    refine own_by (fun t k => XS.lcmp X0.here hx rfl (hb hby d1_51) rfl k) ?_
    show ORun p e below s _ _ _ s₁ (mkF m 52 #[.val (.long q1), .second, .val (.int p2), .val (.int p3), .val (.long v4), .second, .val (.long v5), .second, .val (.int (1 : Int32))] [(.int (lcmpW v10 v11))])
    by_cases hc12 : v10 = v11
    · have t12 := own_eqL hc12 (a := v10.toInt) (b := v11.toInt) rfl rfl
      refine own_by (fun t k => XS.ifNo X0.here hx rfl (hb hby d1_52) rfl (own_lceq hc12).2 k) ?_
      show ORun p e below s _ _ _ s₁ (mkF m 55 #[.val (.long q1), .second, .val (.int p2), .val (.int p3), .val (.long v4), .second, .val (.long v5), .second, .val (.int (1 : Int32))] [])
      refine own_by (fun t k => XS.iload X0.here hx rfl (hb hby d1_55) rfl k) ?_
      show ORun p e below s _ _ _ s₁ (mkF m 57 #[.val (.long q1), .second, .val (.int p2), .val (.int p3), .val (.long v4), .second, .val (.long v5), .second, .val (.int (1 : Int32))] [(.int (1 : Int32))])
      refine own_by (fun t k => XS.ifYes X0.here hx rfl (pc0 := 57) (pc' := 88) rfl (hb hby d1_57) rfl ((if0 _ _).trans (feq (by decide)).2) (by decide) (by decide) k) ?_
      show ORun p e below s _ _ _ s₁ (mkF m 88 #[.val (.long q1), .second, .val (.int p2), .val (.int p3), .val (.long v4), .second, .val (.long v5), .second, .val (.int (1 : Int32))] [])
      refine own_by (fun t k => XS.lload X0.here hx rfl (hb hby d1_88) rfl k) ?_
      show ORun p e below s _ _ _ s₁ (mkF m 90 #[.val (.long q1), .second, .val (.int p2), .val (.int p3), .val (.long v4), .second, .val (.long v5), .second, .val (.int (1 : Int32))] [(.long v4)])
      refine own_retJ X0 hx hret hlk (hb hby d1_90) (by decide) (by decide) ?_
      refine ⟨v4, rfl, ⟨_, _, rfl, rfl, ?_⟩, N0, e0⟩
      omega
    · have t12 := own_neL hc12 (a := v10.toInt) (b := v11.toInt) rfl rfl
      refine own_by (fun t k => XS.ifYes X0.here hx rfl (pc0 := 52) (pc' := 60) rfl (hb hby d1_52) rfl (own_lcne hc12).2 (by decide) (by decide) k) ?_
      show ORun p e below s _ _ _ s₁ (mkF m 60 #[.val (.long q1), .second, .val (.int p2), .val (.int p3), .val (.long v4), .second, .val (.long v5), .second, .val (.int (1 : Int32))] [])
      refine own_by (fun t k => XS.lload X0.here hx rfl (hb hby d1_60) rfl k) ?_
      show ORun p e below s _ _ _ s₁ (mkF m 62 #[.val (.long q1), .second, .val (.int p2), .val (.int p3), .val (.long v4), .second, .val (.long v5), .second, .val (.int (1 : Int32))] [(.long v5)])
      refine own_by (fun t k => XS.lconst X0.here hx rfl (hb hby d1_62) k) ?_
      show ORun p e below s _ _ _ s₁ (mkF m 63 #[.val (.long q1), .second, .val (.int p2), .val (.int p3), .val (.long v4), .second, .val (.long v5), .second, .val (.int (1 : Int32))] [(.long (1 : Int64)), (.long v5)])
      refine own_by (fun t k => XS.iloadN X0.here hx rfl (hb hby d1_63) rfl k) ?_
      show ORun p e below s _ _ _ s₁ (mkF m 64 #[.val (.long q1), .second, .val (.int p2), .val (.int p3), .val (.long v4), .second, .val (.long v5), .second, .val (.int (1 : Int32))] [(.int p2), (.long (1 : Int64)), (.long v5)])
      refine own_by (fun t k => XS.i2l X0.here hx rfl (hb hby d1_64) rfl k) (own_letJ (f := (fun z => (mkF m 65 #[.val (.long q1), .second, .val (.int p2), .val (.int p3), .val (.long v4), .second, .val (.long v5), .second, .val (.int (1 : Int32))] [(.long z), (.long (1 : Int64)), (.long v5)]))) (p2.toInt64) fun v13 hv13 => ?_)
      show ORun p e below s _ _ _ s₁ (mkF m 65 #[.val (.long q1), .second, .val (.int p2), .val (.int p3), .val (.long v4), .second, .val (.long v5), .second, .val (.int (1 : Int32))] [(.long v13), (.long (1 : Int64)), (.long v5)])
      have a13a : v13.toInt = p2.toInt := by rw [hv13]; exact c_i2l p2
      have r13 := rng64 v13
      refine own_by (fun t k => XS.lload X0.here hx rfl (hb hby d1_65) rfl k) ?_
      show ORun p e below s _ _ _ s₁ (mkF m 67 #[.val (.long q1), .second, .val (.int p2), .val (.int p3), .val (.long v4), .second, .val (.long v5), .second, .val (.int (1 : Int32))] [(.long v5), (.long v13), (.long (1 : Int64)), (.long v5)])
      refine own_by (fun t k => XS.lsub X0.here hx rfl (hb hby d1_67) rfl k) (own_letJ (f := (fun z => (mkF m 68 #[.val (.long q1), .second, .val (.int p2), .val (.int p3), .val (.long v4), .second, .val (.long v5), .second, .val (.int (1 : Int32))] [(.long z), (.long (1 : Int64)), (.long v5)]))) (v13 - v5) fun v14 hv14 => ?_)
      show ORun p e below s _ _ _ s₁ (mkF m 68 #[.val (.long q1), .second, .val (.int p2), .val (.int p3), .val (.long v4), .second, .val (.long v5), .second, .val (.int (1 : Int32))] [(.long v14), (.long (1 : Int64)), (.long v5)])
      have r14 := rng64 v14
      have a14 : v14.toInt = v13.toInt - v5.toInt := by
        have q : (v14.toInt - (v13.toInt - v5.toInt)) % 18446744073709551616 = 0 := by rw [hv14]; exact c_lsub v13 v5
        omega
      refine own_by (fun t k => XS.lconst X0.here hx rfl (hb hby d1_68) k) ?_
      show ORun p e below s _ _ _ s₁ (mkF m 69 #[.val (.long q1), .second, .val (.int p2), .val (.int p3), .val (.long v4), .second, .val (.long v5), .second, .val (.int (1 : Int32))] [(.long (1 : Int64)), (.long v14), (.long (1 : Int64)), (.long v5)])
      refine own_by (fun t k => XS.lsub X0.here hx rfl (hb hby d1_69) rfl k) (own_letJ (f := (fun z => (mkF m 70 #[.val (.long q1), .second, .val (.int p2), .val (.int p3), .val (.long v4), .second, .val (.long v5), .second, .val (.int (1 : Int32))] [(.long z), (.long (1 : Int64)), (.long v5)]))) (v14 - (1 : Int64)) fun v15 hv15 => ?_)
      show ORun p e below s _ _ _ s₁ (mkF m 70 #[.val (.long q1), .second, .val (.int p2), .val (.int p3), .val (.long v4), .second, .val (.long v5), .second, .val (.int (1 : Int32))] [(.long v15), (.long (1 : Int64)), (.long v5)])
      have r15 := rng64 v15
      have a15 : v15.toInt = v14.toInt - 1 := by
        have q : (v15.toInt - (v14.toInt - 1)) % 18446744073709551616 = 0 := by rw [hv15]; exact c_lsub v14 (1 : Int64)
        omega
      refine own_by (fun t k => X0.ldc2Long hx hown (mvT hZ (hw _ (List.mem_of_getElem? (i := 5) rfl))) (g := (mkF m 70 #[.val (.long q1), .second, .val (.int p2), .val (.int p3), .val (.long v4), .second, .val (.long v5), .second, .val (.int (1 : Int32))] [(.long v15), (.long (1 : Int64)), (.long v5)])) rfl (hb hby d1_70) _ k) ?_
      show ORun p e below s _ _ _ s₁ (mkF m 73 #[.val (.long q1), .second, .val (.int p2), .val (.int p3), .val (.long v4), .second, .val (.long v5), .second, .val (.int (1 : Int32))] [(.long (15 : Int64)), (.long v15), (.long (1 : Int64)), (.long v5)])
      refine own_by (fun t k => XS.land X0.here hx rfl (hb hby d1_73) rfl k) (own_letJ (f := (fun z => (mkF m 74 #[.val (.long q1), .second, .val (.int p2), .val (.int p3), .val (.long v4), .second, .val (.long v5), .second, .val (.int (1 : Int32))] [(.long z), (.long (1 : Int64)), (.long v5)]))) (v15 &&& (15 : Int64)) fun v16 hv16 => ?_)
      show ORun p e below s _ _ _ s₁ (mkF m 74 #[.val (.long q1), .second, .val (.int p2), .val (.int p3), .val (.long v4), .second, .val (.long v5), .second, .val (.int (1 : Int32))] [(.long v16), (.long (1 : Int64)), (.long v5)])
      have a16a : v16.toInt = v15.toInt % 16 := by rw [hv16]; exact c_maskL v15 (15 : Int64) 4 (by decide) (by decide)
      have r16 := rng64 v16
      refine own_by (fun t k => XS.ladd X0.here hx rfl (hb hby d1_74) rfl k) (own_letJ (f := (fun z => (mkF m 75 #[.val (.long q1), .second, .val (.int p2), .val (.int p3), .val (.long v4), .second, .val (.long v5), .second, .val (.int (1 : Int32))] [(.long z), (.long v5)]))) ((1 : Int64) + v16) fun v17 hv17 => ?_)
      show ORun p e below s _ _ _ s₁ (mkF m 75 #[.val (.long q1), .second, .val (.int p2), .val (.int p3), .val (.long v4), .second, .val (.long v5), .second, .val (.int (1 : Int32))] [(.long v17), (.long v5)])
      have r17 := rng64 v17
      have a17 : v17.toInt = 1 + v16.toInt := by
        have q : (v17.toInt - (1 + v16.toInt)) % 18446744073709551616 = 0 := by rw [hv17]; exact c_ladd (1 : Int64) v16
        omega
      refine own_by (fun t k => XS.ladd X0.here hx rfl (hb hby d1_75) rfl k) (own_letJ (f := (fun z => (mkF m 76 #[.val (.long q1), .second, .val (.int p2), .val (.int p3), .val (.long v4), .second, .val (.long v5), .second, .val (.int (1 : Int32))] [(.long z)]))) (v5 + v17) fun v18 hv18 => ?_)
      show ORun p e below s _ _ _ s₁ (mkF m 76 #[.val (.long q1), .second, .val (.int p2), .val (.int p3), .val (.long v4), .second, .val (.long v5), .second, .val (.int (1 : Int32))] [(.long v18)])
      have r18 := rng64 v18
      have a18 : v18.toInt = v5.toInt + v17.toInt := by
        have q : (v18.toInt - (v5.toInt + v17.toInt)) % 18446744073709551616 = 0 := by rw [hv18]; exact c_ladd v5 v17
        omega
      refine own_by (fun t k => XS.lstore X0.here hx rfl (hb hby d1_76) rfl (l' := #[.val (.long q1), .second, .val (.int p2), .val (.int p3), .val (.long v4), .second, .val (.long v18), .second, .val (.int (1 : Int32))]) rfl k) ?_
      show ORun p e below s _ _ _ s₁ (mkF m 78 #[.val (.long q1), .second, .val (.int p2), .val (.int p3), .val (.long v4), .second, .val (.long v18), .second, .val (.int (1 : Int32))] [])
      refine own_by (fun t k => XS.lload X0.here hx rfl (hb hby d1_78) rfl k) ?_
      show ORun p e below s _ _ _ s₁ (mkF m 80 #[.val (.long q1), .second, .val (.int p2), .val (.int p3), .val (.long v4), .second, .val (.long v18), .second, .val (.int (1 : Int32))] [(.long v18)])
      refine own_by (fun t k => XS.bipush X0.here hx rfl (hb hby d1_80) k) ?_
      show ORun p e below s _ _ _ s₁ (mkF m 82 #[.val (.long q1), .second, .val (.int p2), .val (.int p3), .val (.long v4), .second, .val (.long v18), .second, .val (.int (1 : Int32))] [(.int (16 : Int32)), (.long v18)])
      refine own_by (fun t k => XS.lshl X0.here hx rfl (hb hby d1_82) rfl k) (own_letJ (f := (fun z => (mkF m 83 #[.val (.long q1), .second, .val (.int p2), .val (.int p3), .val (.long v4), .second, .val (.long v18), .second, .val (.int (1 : Int32))] [(.long z)]))) (v18 <<< ((16 : Int32) &&& 0x3f).toInt64) fun v19 hv19 => ?_)
      show ORun p e below s _ _ _ s₁ (mkF m 83 #[.val (.long q1), .second, .val (.int p2), .val (.int p3), .val (.long v4), .second, .val (.long v18), .second, .val (.int (1 : Int32))] [(.long v19)])
      have r19 := rng64 v19
      have a19 : v19.toInt = v18.toInt * 65536 := by
        have q : (v19.toInt - v18.toInt * 65536) % 18446744073709551616 = 0 := by rw [hv19]; exact c_lshl v18 (16 : Int32) 16 (by decide)
        omega
      refine own_by (fun t k => XS.iloadN X0.here hx rfl (hb hby d1_83) rfl k) ?_
      show ORun p e below s _ _ _ s₁ (mkF m 84 #[.val (.long q1), .second, .val (.int p2), .val (.int p3), .val (.long v4), .second, .val (.long v18), .second, .val (.int (1 : Int32))] [(.int p3), (.long v19)])
      refine own_by (fun t k => XS.i2l X0.here hx rfl (hb hby d1_84) rfl k) (own_letJ (f := (fun z => (mkF m 85 #[.val (.long q1), .second, .val (.int p2), .val (.int p3), .val (.long v4), .second, .val (.long v18), .second, .val (.int (1 : Int32))] [(.long z), (.long v19)]))) (p3.toInt64) fun v20 hv20 => ?_)
      show ORun p e below s _ _ _ s₁ (mkF m 85 #[.val (.long q1), .second, .val (.int p2), .val (.int p3), .val (.long v4), .second, .val (.long v18), .second, .val (.int (1 : Int32))] [(.long v20), (.long v19)])
      have a20a : v20.toInt = p3.toInt := by rw [hv20]; exact c_i2l p3
      have r20 := rng64 v20
      refine own_by (fun t k => XS.ladd X0.here hx rfl (hb hby d1_85) rfl k) (own_letJ (f := (fun z => (mkF m 86 #[.val (.long q1), .second, .val (.int p2), .val (.int p3), .val (.long v4), .second, .val (.long v18), .second, .val (.int (1 : Int32))] [(.long z)]))) (v19 + v20) fun v21 hv21 => ?_)
      show ORun p e below s _ _ _ s₁ (mkF m 86 #[.val (.long q1), .second, .val (.int p2), .val (.int p3), .val (.long v4), .second, .val (.long v18), .second, .val (.int (1 : Int32))] [(.long v21)])
      have r21 := rng64 v21
      have a21 : v21.toInt = v19.toInt + v20.toInt := by
        have q : (v21.toInt - (v19.toInt + v20.toInt)) % 18446744073709551616 = 0 := by rw [hv21]; exact c_ladd v19 v20
        omega
      refine own_by (fun t k => XS.lstore X0.here hx rfl (hb hby d1_86) rfl (l' := #[.val (.long q1), .second, .val (.int p2), .val (.int p3), .val (.long v21), .second, .val (.long v18), .second, .val (.int (1 : Int32))]) rfl k) ?_
      show ORun p e below s _ _ _ s₁ (mkF m 88 #[.val (.long q1), .second, .val (.int p2), .val (.int p3), .val (.long v21), .second, .val (.long v18), .second, .val (.int (1 : Int32))] [])
      refine own_by (fun t k => XS.lload X0.here hx rfl (hb hby d1_88) rfl k) ?_
      show ORun p e below s _ _ _ s₁ (mkF m 90 #[.val (.long q1), .second, .val (.int p2), .val (.int p3), .val (.long v21), .second, .val (.long v18), .second, .val (.int (1 : Int32))] [(.long v21)])
      refine own_retJ X0 hx hret hlk (hb hby d1_90) (by decide) (by decide) ?_
      refine ⟨v21, rfl, ⟨_, _, rfl, rfl, ?_⟩, N0, e0⟩
      omega
  · have t9 := own_neL hc9 (a := v8.toInt) (b := v5.toInt) rfl rfl
    refine own_by (fun t k => XS.ifYes X0.here hx rfl (pc0 := 33) (pc' := 40) rfl (hb hby d1_33) rfl (own_lcne hc9).2 (by decide) (by decide) k) ?_
    show ORun p e below s _ _ _ s₁ (mkF m 40 #[.val (.long q1), .second, .val (.int p2), .val (.int p3), .val (.long v4), .second, .val (.long v5), .second, .unset] [])
    refine own_by (fun t k => XS.iconst X0.here hx rfl (hb hby d1_40) k) ?_
    show ORun p e below s _ _ _ s₁ (mkF m 41 #[.val (.long q1), .second, .val (.int p2), .val (.int p3), .val (.long v4), .second, .val (.long v5), .second, .unset] [(.int (0 : Int32))])
    refine own_by (fun t k => XS.istore X0.here hx rfl (hb hby d1_41) rfl (l' := #[.val (.long q1), .second, .val (.int p2), .val (.int p3), .val (.long v4), .second, .val (.long v5), .second, .val (.int (0 : Int32))]) rfl k) ?_
    show ORun p e below s _ _ _ s₁ (mkF m 43 #[.val (.long q1), .second, .val (.int p2), .val (.int p3), .val (.long v4), .second, .val (.long v5), .second, .val (.int (0 : Int32))] [])
    refine own_by (fun t k => XS.lload X0.here hx rfl (hb hby d1_43) rfl k) ?_
    show ORun p e below s _ _ _ s₁ (mkF m 45 #[.val (.long q1), .second, .val (.int p2), .val (.int p3), .val (.long v4), .second, .val (.long v5), .second, .val (.int (0 : Int32))] [(.long v5)])
    refine own_by (fun t k => X0.ldc2Long hx hown (mvT hZ (hw _ (List.mem_of_getElem? (i := 5) rfl))) (g := (mkF m 45 #[.val (.long q1), .second, .val (.int p2), .val (.int p3), .val (.long v4), .second, .val (.long v5), .second, .val (.int (0 : Int32))] [(.long v5)])) rfl (hb hby d1_45) _ k) ?_
    show ORun p e below s _ _ _ s₁ (mkF m 48 #[.val (.long q1), .second, .val (.int p2), .val (.int p3), .val (.long v4), .second, .val (.long v5), .second, .val (.int (0 : Int32))] [(.long (15 : Int64)), (.long v5)])
    refine own_by (fun t k => XS.land X0.here hx rfl (hb hby d1_48) rfl k) (own_letJ (f := (fun z => (mkF m 49 #[.val (.long q1), .second, .val (.int p2), .val (.int p3), .val (.long v4), .second, .val (.long v5), .second, .val (.int (0 : Int32))] [(.long z)]))) (v5 &&& (15 : Int64)) fun v22 hv22 => ?_)
    show ORun p e below s _ _ _ s₁ (mkF m 49 #[.val (.long q1), .second, .val (.int p2), .val (.int p3), .val (.long v4), .second, .val (.long v5), .second, .val (.int (0 : Int32))] [(.long v22)])
    have a22a : v22.toInt = v5.toInt % 16 := by rw [hv22]; exact c_maskL v5 (15 : Int64) 4 (by decide) (by decide)
    have r22 := rng64 v22
    refine own_by (fun t k => XS.iloadN X0.here hx rfl (hb hby d1_49) rfl k) ?_
    show ORun p e below s _ _ _ s₁ (mkF m 50 #[.val (.long q1), .second, .val (.int p2), .val (.int p3), .val (.long v4), .second, .val (.long v5), .second, .val (.int (0 : Int32))] [(.int p2), (.long v22)])
    refine own_by (fun t k => XS.i2l X0.here hx rfl (hb hby d1_50) rfl k) (own_letJ (f := (fun z => (mkF m 51 #[.val (.long q1), .second, .val (.int p2), .val (.int p3), .val (.long v4), .second, .val (.long v5), .second, .val (.int (0 : Int32))] [(.long z), (.long v22)]))) (p2.toInt64) fun v23 hv23 => ?_)
    show ORun p e below s _ _ _ s₁ (mkF m 51 #[.val (.long q1), .second, .val (.int p2), .val (.int p3), .val (.long v4), .second, .val (.long v5), .second, .val (.int (0 : Int32))] [(.long v23), (.long v22)])
    have a23a : v23.toInt = p2.toInt := by rw [hv23]; exact c_i2l p2
    have r23 := rng64 v23
    refine own_by (fun t k => XS.lcmp X0.here hx rfl (hb hby d1_51) rfl k) ?_
    show ORun p e below s _ _ _ s₁ (mkF m 52 #[.val (.long q1), .second, .val (.int p2), .val (.int p3), .val (.long v4), .second, .val (.long v5), .second, .val (.int (0 : Int32))] [(.int (lcmpW v22 v23))])
    by_cases hc24 : v22 = v23
    · have t24 := own_eqL hc24 (a := v22.toInt) (b := v23.toInt) rfl rfl
      refine own_by (fun t k => XS.ifNo X0.here hx rfl (hb hby d1_52) rfl (own_lceq hc24).2 k) ?_
      show ORun p e below s _ _ _ s₁ (mkF m 55 #[.val (.long q1), .second, .val (.int p2), .val (.int p3), .val (.long v4), .second, .val (.long v5), .second, .val (.int (0 : Int32))] [])
      refine own_by (fun t k => XS.iload X0.here hx rfl (hb hby d1_55) rfl k) ?_
      show ORun p e below s _ _ _ s₁ (mkF m 57 #[.val (.long q1), .second, .val (.int p2), .val (.int p3), .val (.long v4), .second, .val (.long v5), .second, .val (.int (0 : Int32))] [(.int (0 : Int32))])
      refine own_by (fun t k => XS.ifNo X0.here hx rfl (hb hby d1_57) rfl ((if0 _ _).trans (teq (by decide)).2) k) ?_
      show ORun p e below s _ _ _ s₁ (mkF m 60 #[.val (.long q1), .second, .val (.int p2), .val (.int p3), .val (.long v4), .second, .val (.long v5), .second, .val (.int (0 : Int32))] [])
      refine own_by (fun t k => XS.lload X0.here hx rfl (hb hby d1_60) rfl k) ?_
      show ORun p e below s _ _ _ s₁ (mkF m 62 #[.val (.long q1), .second, .val (.int p2), .val (.int p3), .val (.long v4), .second, .val (.long v5), .second, .val (.int (0 : Int32))] [(.long v5)])
      refine own_by (fun t k => XS.lconst X0.here hx rfl (hb hby d1_62) k) ?_
      show ORun p e below s _ _ _ s₁ (mkF m 63 #[.val (.long q1), .second, .val (.int p2), .val (.int p3), .val (.long v4), .second, .val (.long v5), .second, .val (.int (0 : Int32))] [(.long (1 : Int64)), (.long v5)])
      refine own_by (fun t k => XS.iloadN X0.here hx rfl (hb hby d1_63) rfl k) ?_
      show ORun p e below s _ _ _ s₁ (mkF m 64 #[.val (.long q1), .second, .val (.int p2), .val (.int p3), .val (.long v4), .second, .val (.long v5), .second, .val (.int (0 : Int32))] [(.int p2), (.long (1 : Int64)), (.long v5)])
      refine own_by (fun t k => XS.i2l X0.here hx rfl (hb hby d1_64) rfl k) (own_letJ (f := (fun z => (mkF m 65 #[.val (.long q1), .second, .val (.int p2), .val (.int p3), .val (.long v4), .second, .val (.long v5), .second, .val (.int (0 : Int32))] [(.long z), (.long (1 : Int64)), (.long v5)]))) (p2.toInt64) fun v25 hv25 => ?_)
      show ORun p e below s _ _ _ s₁ (mkF m 65 #[.val (.long q1), .second, .val (.int p2), .val (.int p3), .val (.long v4), .second, .val (.long v5), .second, .val (.int (0 : Int32))] [(.long v25), (.long (1 : Int64)), (.long v5)])
      have a25a : v25.toInt = p2.toInt := by rw [hv25]; exact c_i2l p2
      have r25 := rng64 v25
      refine own_by (fun t k => XS.lload X0.here hx rfl (hb hby d1_65) rfl k) ?_
      show ORun p e below s _ _ _ s₁ (mkF m 67 #[.val (.long q1), .second, .val (.int p2), .val (.int p3), .val (.long v4), .second, .val (.long v5), .second, .val (.int (0 : Int32))] [(.long v5), (.long v25), (.long (1 : Int64)), (.long v5)])
      refine own_by (fun t k => XS.lsub X0.here hx rfl (hb hby d1_67) rfl k) (own_letJ (f := (fun z => (mkF m 68 #[.val (.long q1), .second, .val (.int p2), .val (.int p3), .val (.long v4), .second, .val (.long v5), .second, .val (.int (0 : Int32))] [(.long z), (.long (1 : Int64)), (.long v5)]))) (v25 - v5) fun v26 hv26 => ?_)
      show ORun p e below s _ _ _ s₁ (mkF m 68 #[.val (.long q1), .second, .val (.int p2), .val (.int p3), .val (.long v4), .second, .val (.long v5), .second, .val (.int (0 : Int32))] [(.long v26), (.long (1 : Int64)), (.long v5)])
      have r26 := rng64 v26
      have a26 : v26.toInt = v25.toInt - v5.toInt := by
        have q : (v26.toInt - (v25.toInt - v5.toInt)) % 18446744073709551616 = 0 := by rw [hv26]; exact c_lsub v25 v5
        omega
      refine own_by (fun t k => XS.lconst X0.here hx rfl (hb hby d1_68) k) ?_
      show ORun p e below s _ _ _ s₁ (mkF m 69 #[.val (.long q1), .second, .val (.int p2), .val (.int p3), .val (.long v4), .second, .val (.long v5), .second, .val (.int (0 : Int32))] [(.long (1 : Int64)), (.long v26), (.long (1 : Int64)), (.long v5)])
      refine own_by (fun t k => XS.lsub X0.here hx rfl (hb hby d1_69) rfl k) (own_letJ (f := (fun z => (mkF m 70 #[.val (.long q1), .second, .val (.int p2), .val (.int p3), .val (.long v4), .second, .val (.long v5), .second, .val (.int (0 : Int32))] [(.long z), (.long (1 : Int64)), (.long v5)]))) (v26 - (1 : Int64)) fun v27 hv27 => ?_)
      show ORun p e below s _ _ _ s₁ (mkF m 70 #[.val (.long q1), .second, .val (.int p2), .val (.int p3), .val (.long v4), .second, .val (.long v5), .second, .val (.int (0 : Int32))] [(.long v27), (.long (1 : Int64)), (.long v5)])
      have r27 := rng64 v27
      have a27 : v27.toInt = v26.toInt - 1 := by
        have q : (v27.toInt - (v26.toInt - 1)) % 18446744073709551616 = 0 := by rw [hv27]; exact c_lsub v26 (1 : Int64)
        omega
      refine own_by (fun t k => X0.ldc2Long hx hown (mvT hZ (hw _ (List.mem_of_getElem? (i := 5) rfl))) (g := (mkF m 70 #[.val (.long q1), .second, .val (.int p2), .val (.int p3), .val (.long v4), .second, .val (.long v5), .second, .val (.int (0 : Int32))] [(.long v27), (.long (1 : Int64)), (.long v5)])) rfl (hb hby d1_70) _ k) ?_
      show ORun p e below s _ _ _ s₁ (mkF m 73 #[.val (.long q1), .second, .val (.int p2), .val (.int p3), .val (.long v4), .second, .val (.long v5), .second, .val (.int (0 : Int32))] [(.long (15 : Int64)), (.long v27), (.long (1 : Int64)), (.long v5)])
      refine own_by (fun t k => XS.land X0.here hx rfl (hb hby d1_73) rfl k) (own_letJ (f := (fun z => (mkF m 74 #[.val (.long q1), .second, .val (.int p2), .val (.int p3), .val (.long v4), .second, .val (.long v5), .second, .val (.int (0 : Int32))] [(.long z), (.long (1 : Int64)), (.long v5)]))) (v27 &&& (15 : Int64)) fun v28 hv28 => ?_)
      show ORun p e below s _ _ _ s₁ (mkF m 74 #[.val (.long q1), .second, .val (.int p2), .val (.int p3), .val (.long v4), .second, .val (.long v5), .second, .val (.int (0 : Int32))] [(.long v28), (.long (1 : Int64)), (.long v5)])
      have a28a : v28.toInt = v27.toInt % 16 := by rw [hv28]; exact c_maskL v27 (15 : Int64) 4 (by decide) (by decide)
      have r28 := rng64 v28
      refine own_by (fun t k => XS.ladd X0.here hx rfl (hb hby d1_74) rfl k) (own_letJ (f := (fun z => (mkF m 75 #[.val (.long q1), .second, .val (.int p2), .val (.int p3), .val (.long v4), .second, .val (.long v5), .second, .val (.int (0 : Int32))] [(.long z), (.long v5)]))) ((1 : Int64) + v28) fun v29 hv29 => ?_)
      show ORun p e below s _ _ _ s₁ (mkF m 75 #[.val (.long q1), .second, .val (.int p2), .val (.int p3), .val (.long v4), .second, .val (.long v5), .second, .val (.int (0 : Int32))] [(.long v29), (.long v5)])
      have r29 := rng64 v29
      have a29 : v29.toInt = 1 + v28.toInt := by
        have q : (v29.toInt - (1 + v28.toInt)) % 18446744073709551616 = 0 := by rw [hv29]; exact c_ladd (1 : Int64) v28
        omega
      refine own_by (fun t k => XS.ladd X0.here hx rfl (hb hby d1_75) rfl k) (own_letJ (f := (fun z => (mkF m 76 #[.val (.long q1), .second, .val (.int p2), .val (.int p3), .val (.long v4), .second, .val (.long v5), .second, .val (.int (0 : Int32))] [(.long z)]))) (v5 + v29) fun v30 hv30 => ?_)
      show ORun p e below s _ _ _ s₁ (mkF m 76 #[.val (.long q1), .second, .val (.int p2), .val (.int p3), .val (.long v4), .second, .val (.long v5), .second, .val (.int (0 : Int32))] [(.long v30)])
      have r30 := rng64 v30
      have a30 : v30.toInt = v5.toInt + v29.toInt := by
        have q : (v30.toInt - (v5.toInt + v29.toInt)) % 18446744073709551616 = 0 := by rw [hv30]; exact c_ladd v5 v29
        omega
      refine own_by (fun t k => XS.lstore X0.here hx rfl (hb hby d1_76) rfl (l' := #[.val (.long q1), .second, .val (.int p2), .val (.int p3), .val (.long v4), .second, .val (.long v30), .second, .val (.int (0 : Int32))]) rfl k) ?_
      show ORun p e below s _ _ _ s₁ (mkF m 78 #[.val (.long q1), .second, .val (.int p2), .val (.int p3), .val (.long v4), .second, .val (.long v30), .second, .val (.int (0 : Int32))] [])
      refine own_by (fun t k => XS.lload X0.here hx rfl (hb hby d1_78) rfl k) ?_
      show ORun p e below s _ _ _ s₁ (mkF m 80 #[.val (.long q1), .second, .val (.int p2), .val (.int p3), .val (.long v4), .second, .val (.long v30), .second, .val (.int (0 : Int32))] [(.long v30)])
      refine own_by (fun t k => XS.bipush X0.here hx rfl (hb hby d1_80) k) ?_
      show ORun p e below s _ _ _ s₁ (mkF m 82 #[.val (.long q1), .second, .val (.int p2), .val (.int p3), .val (.long v4), .second, .val (.long v30), .second, .val (.int (0 : Int32))] [(.int (16 : Int32)), (.long v30)])
      refine own_by (fun t k => XS.lshl X0.here hx rfl (hb hby d1_82) rfl k) (own_letJ (f := (fun z => (mkF m 83 #[.val (.long q1), .second, .val (.int p2), .val (.int p3), .val (.long v4), .second, .val (.long v30), .second, .val (.int (0 : Int32))] [(.long z)]))) (v30 <<< ((16 : Int32) &&& 0x3f).toInt64) fun v31 hv31 => ?_)
      show ORun p e below s _ _ _ s₁ (mkF m 83 #[.val (.long q1), .second, .val (.int p2), .val (.int p3), .val (.long v4), .second, .val (.long v30), .second, .val (.int (0 : Int32))] [(.long v31)])
      have r31 := rng64 v31
      have a31 : v31.toInt = v30.toInt * 65536 := by
        have q : (v31.toInt - v30.toInt * 65536) % 18446744073709551616 = 0 := by rw [hv31]; exact c_lshl v30 (16 : Int32) 16 (by decide)
        omega
      refine own_by (fun t k => XS.iloadN X0.here hx rfl (hb hby d1_83) rfl k) ?_
      show ORun p e below s _ _ _ s₁ (mkF m 84 #[.val (.long q1), .second, .val (.int p2), .val (.int p3), .val (.long v4), .second, .val (.long v30), .second, .val (.int (0 : Int32))] [(.int p3), (.long v31)])
      refine own_by (fun t k => XS.i2l X0.here hx rfl (hb hby d1_84) rfl k) (own_letJ (f := (fun z => (mkF m 85 #[.val (.long q1), .second, .val (.int p2), .val (.int p3), .val (.long v4), .second, .val (.long v30), .second, .val (.int (0 : Int32))] [(.long z), (.long v31)]))) (p3.toInt64) fun v32 hv32 => ?_)
      show ORun p e below s _ _ _ s₁ (mkF m 85 #[.val (.long q1), .second, .val (.int p2), .val (.int p3), .val (.long v4), .second, .val (.long v30), .second, .val (.int (0 : Int32))] [(.long v32), (.long v31)])
      have a32a : v32.toInt = p3.toInt := by rw [hv32]; exact c_i2l p3
      have r32 := rng64 v32
      refine own_by (fun t k => XS.ladd X0.here hx rfl (hb hby d1_85) rfl k) (own_letJ (f := (fun z => (mkF m 86 #[.val (.long q1), .second, .val (.int p2), .val (.int p3), .val (.long v4), .second, .val (.long v30), .second, .val (.int (0 : Int32))] [(.long z)]))) (v31 + v32) fun v33 hv33 => ?_)
      show ORun p e below s _ _ _ s₁ (mkF m 86 #[.val (.long q1), .second, .val (.int p2), .val (.int p3), .val (.long v4), .second, .val (.long v30), .second, .val (.int (0 : Int32))] [(.long v33)])
      have r33 := rng64 v33
      have a33 : v33.toInt = v31.toInt + v32.toInt := by
        have q : (v33.toInt - (v31.toInt + v32.toInt)) % 18446744073709551616 = 0 := by rw [hv33]; exact c_ladd v31 v32
        omega
      refine own_by (fun t k => XS.lstore X0.here hx rfl (hb hby d1_86) rfl (l' := #[.val (.long q1), .second, .val (.int p2), .val (.int p3), .val (.long v33), .second, .val (.long v30), .second, .val (.int (0 : Int32))]) rfl k) ?_
      show ORun p e below s _ _ _ s₁ (mkF m 88 #[.val (.long q1), .second, .val (.int p2), .val (.int p3), .val (.long v33), .second, .val (.long v30), .second, .val (.int (0 : Int32))] [])
      refine own_by (fun t k => XS.lload X0.here hx rfl (hb hby d1_88) rfl k) ?_
      show ORun p e below s _ _ _ s₁ (mkF m 90 #[.val (.long q1), .second, .val (.int p2), .val (.int p3), .val (.long v33), .second, .val (.long v30), .second, .val (.int (0 : Int32))] [(.long v33)])
      refine own_retJ X0 hx hret hlk (hb hby d1_90) (by decide) (by decide) ?_
      refine ⟨v33, rfl, ⟨_, _, rfl, rfl, ?_⟩, N0, e0⟩
      omega
    · have t24 := own_neL hc24 (a := v22.toInt) (b := v23.toInt) rfl rfl
      refine own_by (fun t k => XS.ifYes X0.here hx rfl (pc0 := 52) (pc' := 60) rfl (hb hby d1_52) rfl (own_lcne hc24).2 (by decide) (by decide) k) ?_
      show ORun p e below s _ _ _ s₁ (mkF m 60 #[.val (.long q1), .second, .val (.int p2), .val (.int p3), .val (.long v4), .second, .val (.long v5), .second, .val (.int (0 : Int32))] [])
      refine own_by (fun t k => XS.lload X0.here hx rfl (hb hby d1_60) rfl k) ?_
      show ORun p e below s _ _ _ s₁ (mkF m 62 #[.val (.long q1), .second, .val (.int p2), .val (.int p3), .val (.long v4), .second, .val (.long v5), .second, .val (.int (0 : Int32))] [(.long v5)])
      refine own_by (fun t k => XS.lconst X0.here hx rfl (hb hby d1_62) k) ?_
      show ORun p e below s _ _ _ s₁ (mkF m 63 #[.val (.long q1), .second, .val (.int p2), .val (.int p3), .val (.long v4), .second, .val (.long v5), .second, .val (.int (0 : Int32))] [(.long (1 : Int64)), (.long v5)])
      refine own_by (fun t k => XS.iloadN X0.here hx rfl (hb hby d1_63) rfl k) ?_
      show ORun p e below s _ _ _ s₁ (mkF m 64 #[.val (.long q1), .second, .val (.int p2), .val (.int p3), .val (.long v4), .second, .val (.long v5), .second, .val (.int (0 : Int32))] [(.int p2), (.long (1 : Int64)), (.long v5)])
      refine own_by (fun t k => XS.i2l X0.here hx rfl (hb hby d1_64) rfl k) (own_letJ (f := (fun z => (mkF m 65 #[.val (.long q1), .second, .val (.int p2), .val (.int p3), .val (.long v4), .second, .val (.long v5), .second, .val (.int (0 : Int32))] [(.long z), (.long (1 : Int64)), (.long v5)]))) (p2.toInt64) fun v34 hv34 => ?_)
      show ORun p e below s _ _ _ s₁ (mkF m 65 #[.val (.long q1), .second, .val (.int p2), .val (.int p3), .val (.long v4), .second, .val (.long v5), .second, .val (.int (0 : Int32))] [(.long v34), (.long (1 : Int64)), (.long v5)])
      have a34a : v34.toInt = p2.toInt := by rw [hv34]; exact c_i2l p2
      have r34 := rng64 v34
      refine own_by (fun t k => XS.lload X0.here hx rfl (hb hby d1_65) rfl k) ?_
      show ORun p e below s _ _ _ s₁ (mkF m 67 #[.val (.long q1), .second, .val (.int p2), .val (.int p3), .val (.long v4), .second, .val (.long v5), .second, .val (.int (0 : Int32))] [(.long v5), (.long v34), (.long (1 : Int64)), (.long v5)])
      refine own_by (fun t k => XS.lsub X0.here hx rfl (hb hby d1_67) rfl k) (own_letJ (f := (fun z => (mkF m 68 #[.val (.long q1), .second, .val (.int p2), .val (.int p3), .val (.long v4), .second, .val (.long v5), .second, .val (.int (0 : Int32))] [(.long z), (.long (1 : Int64)), (.long v5)]))) (v34 - v5) fun v35 hv35 => ?_)
      show ORun p e below s _ _ _ s₁ (mkF m 68 #[.val (.long q1), .second, .val (.int p2), .val (.int p3), .val (.long v4), .second, .val (.long v5), .second, .val (.int (0 : Int32))] [(.long v35), (.long (1 : Int64)), (.long v5)])
      have r35 := rng64 v35
      have a35 : v35.toInt = v34.toInt - v5.toInt := by
        have q : (v35.toInt - (v34.toInt - v5.toInt)) % 18446744073709551616 = 0 := by rw [hv35]; exact c_lsub v34 v5
        omega
      refine own_by (fun t k => XS.lconst X0.here hx rfl (hb hby d1_68) k) ?_
      show ORun p e below s _ _ _ s₁ (mkF m 69 #[.val (.long q1), .second, .val (.int p2), .val (.int p3), .val (.long v4), .second, .val (.long v5), .second, .val (.int (0 : Int32))] [(.long (1 : Int64)), (.long v35), (.long (1 : Int64)), (.long v5)])
      refine own_by (fun t k => XS.lsub X0.here hx rfl (hb hby d1_69) rfl k) (own_letJ (f := (fun z => (mkF m 70 #[.val (.long q1), .second, .val (.int p2), .val (.int p3), .val (.long v4), .second, .val (.long v5), .second, .val (.int (0 : Int32))] [(.long z), (.long (1 : Int64)), (.long v5)]))) (v35 - (1 : Int64)) fun v36 hv36 => ?_)
      show ORun p e below s _ _ _ s₁ (mkF m 70 #[.val (.long q1), .second, .val (.int p2), .val (.int p3), .val (.long v4), .second, .val (.long v5), .second, .val (.int (0 : Int32))] [(.long v36), (.long (1 : Int64)), (.long v5)])
      have r36 := rng64 v36
      have a36 : v36.toInt = v35.toInt - 1 := by
        have q : (v36.toInt - (v35.toInt - 1)) % 18446744073709551616 = 0 := by rw [hv36]; exact c_lsub v35 (1 : Int64)
        omega
      refine own_by (fun t k => X0.ldc2Long hx hown (mvT hZ (hw _ (List.mem_of_getElem? (i := 5) rfl))) (g := (mkF m 70 #[.val (.long q1), .second, .val (.int p2), .val (.int p3), .val (.long v4), .second, .val (.long v5), .second, .val (.int (0 : Int32))] [(.long v36), (.long (1 : Int64)), (.long v5)])) rfl (hb hby d1_70) _ k) ?_
      show ORun p e below s _ _ _ s₁ (mkF m 73 #[.val (.long q1), .second, .val (.int p2), .val (.int p3), .val (.long v4), .second, .val (.long v5), .second, .val (.int (0 : Int32))] [(.long (15 : Int64)), (.long v36), (.long (1 : Int64)), (.long v5)])
      refine own_by (fun t k => XS.land X0.here hx rfl (hb hby d1_73) rfl k) (own_letJ (f := (fun z => (mkF m 74 #[.val (.long q1), .second, .val (.int p2), .val (.int p3), .val (.long v4), .second, .val (.long v5), .second, .val (.int (0 : Int32))] [(.long z), (.long (1 : Int64)), (.long v5)]))) (v36 &&& (15 : Int64)) fun v37 hv37 => ?_)
      show ORun p e below s _ _ _ s₁ (mkF m 74 #[.val (.long q1), .second, .val (.int p2), .val (.int p3), .val (.long v4), .second, .val (.long v5), .second, .val (.int (0 : Int32))] [(.long v37), (.long (1 : Int64)), (.long v5)])
      have a37a : v37.toInt = v36.toInt % 16 := by rw [hv37]; exact c_maskL v36 (15 : Int64) 4 (by decide) (by decide)
      have r37 := rng64 v37
      refine own_by (fun t k => XS.ladd X0.here hx rfl (hb hby d1_74) rfl k) (own_letJ (f := (fun z => (mkF m 75 #[.val (.long q1), .second, .val (.int p2), .val (.int p3), .val (.long v4), .second, .val (.long v5), .second, .val (.int (0 : Int32))] [(.long z), (.long v5)]))) ((1 : Int64) + v37) fun v38 hv38 => ?_)
      show ORun p e below s _ _ _ s₁ (mkF m 75 #[.val (.long q1), .second, .val (.int p2), .val (.int p3), .val (.long v4), .second, .val (.long v5), .second, .val (.int (0 : Int32))] [(.long v38), (.long v5)])
      have r38 := rng64 v38
      have a38 : v38.toInt = 1 + v37.toInt := by
        have q : (v38.toInt - (1 + v37.toInt)) % 18446744073709551616 = 0 := by rw [hv38]; exact c_ladd (1 : Int64) v37
        omega
      refine own_by (fun t k => XS.ladd X0.here hx rfl (hb hby d1_75) rfl k) (own_letJ (f := (fun z => (mkF m 76 #[.val (.long q1), .second, .val (.int p2), .val (.int p3), .val (.long v4), .second, .val (.long v5), .second, .val (.int (0 : Int32))] [(.long z)]))) (v5 + v38) fun v39 hv39 => ?_)
      show ORun p e below s _ _ _ s₁ (mkF m 76 #[.val (.long q1), .second, .val (.int p2), .val (.int p3), .val (.long v4), .second, .val (.long v5), .second, .val (.int (0 : Int32))] [(.long v39)])
      have r39 := rng64 v39
      have a39 : v39.toInt = v5.toInt + v38.toInt := by
        have q : (v39.toInt - (v5.toInt + v38.toInt)) % 18446744073709551616 = 0 := by rw [hv39]; exact c_ladd v5 v38
        omega
      refine own_by (fun t k => XS.lstore X0.here hx rfl (hb hby d1_76) rfl (l' := #[.val (.long q1), .second, .val (.int p2), .val (.int p3), .val (.long v4), .second, .val (.long v39), .second, .val (.int (0 : Int32))]) rfl k) ?_
      show ORun p e below s _ _ _ s₁ (mkF m 78 #[.val (.long q1), .second, .val (.int p2), .val (.int p3), .val (.long v4), .second, .val (.long v39), .second, .val (.int (0 : Int32))] [])
      refine own_by (fun t k => XS.lload X0.here hx rfl (hb hby d1_78) rfl k) ?_
      show ORun p e below s _ _ _ s₁ (mkF m 80 #[.val (.long q1), .second, .val (.int p2), .val (.int p3), .val (.long v4), .second, .val (.long v39), .second, .val (.int (0 : Int32))] [(.long v39)])
      refine own_by (fun t k => XS.bipush X0.here hx rfl (hb hby d1_80) k) ?_
      show ORun p e below s _ _ _ s₁ (mkF m 82 #[.val (.long q1), .second, .val (.int p2), .val (.int p3), .val (.long v4), .second, .val (.long v39), .second, .val (.int (0 : Int32))] [(.int (16 : Int32)), (.long v39)])
      refine own_by (fun t k => XS.lshl X0.here hx rfl (hb hby d1_82) rfl k) (own_letJ (f := (fun z => (mkF m 83 #[.val (.long q1), .second, .val (.int p2), .val (.int p3), .val (.long v4), .second, .val (.long v39), .second, .val (.int (0 : Int32))] [(.long z)]))) (v39 <<< ((16 : Int32) &&& 0x3f).toInt64) fun v40 hv40 => ?_)
      show ORun p e below s _ _ _ s₁ (mkF m 83 #[.val (.long q1), .second, .val (.int p2), .val (.int p3), .val (.long v4), .second, .val (.long v39), .second, .val (.int (0 : Int32))] [(.long v40)])
      have r40 := rng64 v40
      have a40 : v40.toInt = v39.toInt * 65536 := by
        have q : (v40.toInt - v39.toInt * 65536) % 18446744073709551616 = 0 := by rw [hv40]; exact c_lshl v39 (16 : Int32) 16 (by decide)
        omega
      refine own_by (fun t k => XS.iloadN X0.here hx rfl (hb hby d1_83) rfl k) ?_
      show ORun p e below s _ _ _ s₁ (mkF m 84 #[.val (.long q1), .second, .val (.int p2), .val (.int p3), .val (.long v4), .second, .val (.long v39), .second, .val (.int (0 : Int32))] [(.int p3), (.long v40)])
      refine own_by (fun t k => XS.i2l X0.here hx rfl (hb hby d1_84) rfl k) (own_letJ (f := (fun z => (mkF m 85 #[.val (.long q1), .second, .val (.int p2), .val (.int p3), .val (.long v4), .second, .val (.long v39), .second, .val (.int (0 : Int32))] [(.long z), (.long v40)]))) (p3.toInt64) fun v41 hv41 => ?_)
      show ORun p e below s _ _ _ s₁ (mkF m 85 #[.val (.long q1), .second, .val (.int p2), .val (.int p3), .val (.long v4), .second, .val (.long v39), .second, .val (.int (0 : Int32))] [(.long v41), (.long v40)])
      have a41a : v41.toInt = p3.toInt := by rw [hv41]; exact c_i2l p3
      have r41 := rng64 v41
      refine own_by (fun t k => XS.ladd X0.here hx rfl (hb hby d1_85) rfl k) (own_letJ (f := (fun z => (mkF m 86 #[.val (.long q1), .second, .val (.int p2), .val (.int p3), .val (.long v4), .second, .val (.long v39), .second, .val (.int (0 : Int32))] [(.long z)]))) (v40 + v41) fun v42 hv42 => ?_)
      show ORun p e below s _ _ _ s₁ (mkF m 86 #[.val (.long q1), .second, .val (.int p2), .val (.int p3), .val (.long v4), .second, .val (.long v39), .second, .val (.int (0 : Int32))] [(.long v42)])
      have r42 := rng64 v42
      have a42 : v42.toInt = v40.toInt + v41.toInt := by
        have q : (v42.toInt - (v40.toInt + v41.toInt)) % 18446744073709551616 = 0 := by rw [hv42]; exact c_ladd v40 v41
        omega
      refine own_by (fun t k => XS.lstore X0.here hx rfl (hb hby d1_86) rfl (l' := #[.val (.long q1), .second, .val (.int p2), .val (.int p3), .val (.long v42), .second, .val (.long v39), .second, .val (.int (0 : Int32))]) rfl k) ?_
      show ORun p e below s _ _ _ s₁ (mkF m 88 #[.val (.long q1), .second, .val (.int p2), .val (.int p3), .val (.long v42), .second, .val (.long v39), .second, .val (.int (0 : Int32))] [])
      refine own_by (fun t k => XS.lload X0.here hx rfl (hb hby d1_88) rfl k) ?_
      show ORun p e below s _ _ _ s₁ (mkF m 90 #[.val (.long q1), .second, .val (.int p2), .val (.int p3), .val (.long v42), .second, .val (.long v39), .second, .val (.int (0 : Int32))] [(.long v42)])
      refine own_retJ X0 hx hret hlk (hb hby d1_90) (by decide) (by decide) ?_
      refine ⟨v42, rfl, ⟨_, _, rfl, rfl, ?_⟩, N0, e0⟩
      omega
theorem d2_0 : decode method_2_code 0 = .ok (.iload_n 2, 1) := by decide +kernel
theorem d2_1 : decode method_2_code 1 = .ok (.ifCond .ne 9, 3) := by decide +kernel
theorem d2_4 : decode method_2_code 4 = .ok (.ldc2_w 7, 3) := by decide +kernel
theorem d2_7 : decode method_2_code 7 = .ok (.goto 9, 3) := by decide +kernel
theorem d2_10 : decode method_2_code 10 = .ok (.ldc2_w 9, 3) := by decide +kernel
theorem d2_13 : decode method_2_code 13 = .ok (.iload_n 2, 1) := by decide +kernel
theorem d2_14 : decode method_2_code 14 = .ok (.i2l, 1) := by decide +kernel
theorem d2_15 : decode method_2_code 15 = .ok (.ladd, 1) := by decide +kernel
theorem d2_16 : decode method_2_code 16 = .ok (.lstore_n 3, 1) := by decide +kernel
theorem d2_17 : decode method_2_code 17 = .ok (.lload_n 0, 1) := by decide +kernel
theorem d2_18 : decode method_2_code 18 = .ok (.bipush 16, 2) := by decide +kernel
theorem d2_20 : decode method_2_code 20 = .ok (.lshl, 1) := by decide +kernel
theorem d2_21 : decode method_2_code 21 = .ok (.lload_n 3, 1) := by decide +kernel
theorem d2_22 : decode method_2_code 22 = .ok (.ladd, 1) := by decide +kernel
theorem d2_23 : decode method_2_code 23 = .ok (.lreturn, 1) := by decide +kernel
theorem pn_rm2 : plainName "com/example/callweave/callweave/generate/ReplayHashesStartOfTestPinLaw" = true := by first | (simp [plainName, overriddenIn]; done) | decide +kernel
theorem ef_rm2 (m : MethodId) (x0 : Int64) (x1 : Int32) : entryFrame m #[(.long x0), (.int x1)] 5 = mkF m 0 #[.val (.long x0), .second, .val (.int x1), .unset, .unset] [] := by first | (simp [entryFrame, mkF, argsToLocals, Value.category]; done) | rfl
set_option maxRecDepth 65536 in
set_option maxHeartbeats 40000000 in
theorem rm2 (l : Launch) (Z : State) (a0 : Array Value) (hw : ∀ d ∈ tables_1, d.before a0 Z = true) (ws : List Jvm.Cond) (h0 : Heap) (n0 : Nat) (Z0 : n0 ≤ h0.size) (q1 : Int64) (p2 : Int32) (b1 : 0 ≤ q1.toInt ∧ q1.toInt < 140737488355000) (b2 : 0 ≤ p2.toInt ∧ p2.toInt < 16) :
    OMet l (⟨"com/example/callweave/callweave/generate/ReplayHashesStartOfTestPinLaw", "lastValidIn", "(JI)J"⟩ : MethodName) method_2_code 5 (some .long) ws ({ frames := 0, cells := 0, slots := 0, locals := 0 } : Room) #[(.long q1), (.int p2)] Z h0 (fun v h L => ∃ r : Int64, v = some (.long r) ∧ ((p2.toInt = 0 ∧ r.toInt = q1.toInt * 65536 + 65520) ∨ (p2.toInt ≠ 0 ∧ r.toInt = q1.toInt * 65536 + 65504 + p2.toInt)) ∧ Fr n0 L ∧ h = h0) := by
  refine own_met (plainFor_of_name pn_rm2) ?_
  intro p e s m below meth c s₁ X0 hx hby hml hown hnm hret hlk hZ e0
  rw [ef_rm2]
  have N0 := Fr.nil n0
  show ORun p e below s _ _ _ s₁ (mkF m 0 #[.val (.long q1), .second, .val (.int p2), .unset, .unset] [])
  refine own_by (fun t k => XS.iloadN X0.here hx rfl (hb hby d2_0) rfl k) ?_
  show ORun p e below s _ _ _ s₁ (mkF m 1 #[.val (.long q1), .second, .val (.int p2), .unset, .unset] [(.int p2)])
  by_cases hc1 : p2 = (0 : Int32)
  · have t1 := own_eq hc1 (a := p2.toInt) (b := 0) rfl (by decide)
    refine own_by (fun t k => XS.ifNo X0.here hx rfl (hb hby d2_1) rfl ((if0 _ _).trans (teq hc1).2) k) ?_
    show ORun p e below s _ _ _ s₁ (mkF m 4 #[.val (.long q1), .second, .val (.int p2), .unset, .unset] [])
    refine own_by (fun t k => X0.ldc2Long hx hown (mvT hZ (hw _ (List.mem_of_getElem? (i := 15) rfl))) (g := (mkF m 4 #[.val (.long q1), .second, .val (.int p2), .unset, .unset] [])) rfl (hb hby d2_4) _ k) ?_
    show ORun p e below s _ _ _ s₁ (mkF m 7 #[.val (.long q1), .second, .val (.int p2), .unset, .unset] [(.long (65520 : Int64))])
    refine own_by (fun t k => XS.goto X0.here hx rfl (pc0 := 7) (pc' := 16) rfl (hb hby d2_7) (by decide) (by decide) k) ?_
    show ORun p e below s _ _ _ s₁ (mkF m 16 #[.val (.long q1), .second, .val (.int p2), .unset, .unset] [(.long (65520 : Int64))])
    refine own_by (fun t k => XS.lstoreN X0.here hx rfl (hb hby d2_16) rfl (l' := #[.val (.long q1), .second, .val (.int p2), .val (.long (65520 : Int64)), .second]) rfl k) ?_
    show ORun p e below s _ _ _ s₁ (mkF m 17 #[.val (.long q1), .second, .val (.int p2), .val (.long (65520 : Int64)), .second] [])
    refine own_by (fun t k => XS.lloadN X0.here hx rfl (hb hby d2_17) rfl k) ?_
    show ORun p e below s _ _ _ s₁ (mkF m 18 #[.val (.long q1), .second, .val (.int p2), .val (.long (65520 : Int64)), .second] [(.long q1)])
    refine own_by (fun t k => XS.bipush X0.here hx rfl (hb hby d2_18) k) ?_
    show ORun p e below s _ _ _ s₁ (mkF m 20 #[.val (.long q1), .second, .val (.int p2), .val (.long (65520 : Int64)), .second] [(.int (16 : Int32)), (.long q1)])
    refine own_by (fun t k => XS.lshl X0.here hx rfl (hb hby d2_20) rfl k) (own_letJ (f := (fun z => (mkF m 21 #[.val (.long q1), .second, .val (.int p2), .val (.long (65520 : Int64)), .second] [(.long z)]))) (q1 <<< ((16 : Int32) &&& 0x3f).toInt64) fun v2 hv2 => ?_)
    show ORun p e below s _ _ _ s₁ (mkF m 21 #[.val (.long q1), .second, .val (.int p2), .val (.long (65520 : Int64)), .second] [(.long v2)])
    have r2 := rng64 v2
    have a2 : v2.toInt = q1.toInt * 65536 := by
      have q : (v2.toInt - q1.toInt * 65536) % 18446744073709551616 = 0 := by rw [hv2]; exact c_lshl q1 (16 : Int32) 16 (by decide)
      omega
    refine own_by (fun t k => XS.lloadN X0.here hx rfl (hb hby d2_21) rfl k) ?_
    show ORun p e below s _ _ _ s₁ (mkF m 22 #[.val (.long q1), .second, .val (.int p2), .val (.long (65520 : Int64)), .second] [(.long (65520 : Int64)), (.long v2)])
    refine own_by (fun t k => XS.ladd X0.here hx rfl (hb hby d2_22) rfl k) (own_letJ (f := (fun z => (mkF m 23 #[.val (.long q1), .second, .val (.int p2), .val (.long (65520 : Int64)), .second] [(.long z)]))) (v2 + (65520 : Int64)) fun v3 hv3 => ?_)
    show ORun p e below s _ _ _ s₁ (mkF m 23 #[.val (.long q1), .second, .val (.int p2), .val (.long (65520 : Int64)), .second] [(.long v3)])
    have r3 := rng64 v3
    have a3 : v3.toInt = v2.toInt + 65520 := by
      have q : (v3.toInt - (v2.toInt + 65520)) % 18446744073709551616 = 0 := by rw [hv3]; exact c_ladd v2 (65520 : Int64)
      omega
    refine own_retJ X0 hx hret hlk (hb hby d2_23) (by decide) (by decide) ?_
    refine ⟨v3, rfl, ?_, N0, e0⟩
    omega
  · have t1 := own_ne hc1 (a := p2.toInt) (b := 0) rfl (by decide)
    refine own_by (fun t k => XS.ifYes X0.here hx rfl (pc0 := 1) (pc' := 10) rfl (hb hby d2_1) rfl ((if0 _ _).trans (feq hc1).2) (by decide) (by decide) k) ?_
    show ORun p e below s _ _ _ s₁ (mkF m 10 #[.val (.long q1), .second, .val (.int p2), .unset, .unset] [])
    refine own_by (fun t k => X0.ldc2Long hx hown (mvT hZ (hw _ (List.mem_of_getElem? (i := 14) rfl))) (g := (mkF m 10 #[.val (.long q1), .second, .val (.int p2), .unset, .unset] [])) rfl (hb hby d2_10) _ k) ?_
    show ORun p e below s _ _ _ s₁ (mkF m 13 #[.val (.long q1), .second, .val (.int p2), .unset, .unset] [(.long (65504 : Int64))])
    refine own_by (fun t k => XS.iloadN X0.here hx rfl (hb hby d2_13) rfl k) ?_
    show ORun p e below s _ _ _ s₁ (mkF m 14 #[.val (.long q1), .second, .val (.int p2), .unset, .unset] [(.int p2), (.long (65504 : Int64))])
    refine own_by (fun t k => XS.i2l X0.here hx rfl (hb hby d2_14) rfl k) (own_letJ (f := (fun z => (mkF m 15 #[.val (.long q1), .second, .val (.int p2), .unset, .unset] [(.long z), (.long (65504 : Int64))]))) (p2.toInt64) fun v4 hv4 => ?_)
    show ORun p e below s _ _ _ s₁ (mkF m 15 #[.val (.long q1), .second, .val (.int p2), .unset, .unset] [(.long v4), (.long (65504 : Int64))])
    have a4a : v4.toInt = p2.toInt := by rw [hv4]; exact c_i2l p2
    have r4 := rng64 v4
    refine own_by (fun t k => XS.ladd X0.here hx rfl (hb hby d2_15) rfl k) (own_letJ (f := (fun z => (mkF m 16 #[.val (.long q1), .second, .val (.int p2), .unset, .unset] [(.long z)]))) ((65504 : Int64) + v4) fun v5 hv5 => ?_)
    show ORun p e below s _ _ _ s₁ (mkF m 16 #[.val (.long q1), .second, .val (.int p2), .unset, .unset] [(.long v5)])
    have r5 := rng64 v5
    have a5 : v5.toInt = 65504 + v4.toInt := by
      have q : (v5.toInt - (65504 + v4.toInt)) % 18446744073709551616 = 0 := by rw [hv5]; exact c_ladd (65504 : Int64) v4
      omega
    refine own_by (fun t k => XS.lstoreN X0.here hx rfl (hb hby d2_16) rfl (l' := #[.val (.long q1), .second, .val (.int p2), .val (.long v5), .second]) rfl k) ?_
    show ORun p e below s _ _ _ s₁ (mkF m 17 #[.val (.long q1), .second, .val (.int p2), .val (.long v5), .second] [])
    refine own_by (fun t k => XS.lloadN X0.here hx rfl (hb hby d2_17) rfl k) ?_
    show ORun p e below s _ _ _ s₁ (mkF m 18 #[.val (.long q1), .second, .val (.int p2), .val (.long v5), .second] [(.long q1)])
    refine own_by (fun t k => XS.bipush X0.here hx rfl (hb hby d2_18) k) ?_
    show ORun p e below s _ _ _ s₁ (mkF m 20 #[.val (.long q1), .second, .val (.int p2), .val (.long v5), .second] [(.int (16 : Int32)), (.long q1)])
    refine own_by (fun t k => XS.lshl X0.here hx rfl (hb hby d2_20) rfl k) (own_letJ (f := (fun z => (mkF m 21 #[.val (.long q1), .second, .val (.int p2), .val (.long v5), .second] [(.long z)]))) (q1 <<< ((16 : Int32) &&& 0x3f).toInt64) fun v6 hv6 => ?_)
    show ORun p e below s _ _ _ s₁ (mkF m 21 #[.val (.long q1), .second, .val (.int p2), .val (.long v5), .second] [(.long v6)])
    have r6 := rng64 v6
    have a6 : v6.toInt = q1.toInt * 65536 := by
      have q : (v6.toInt - q1.toInt * 65536) % 18446744073709551616 = 0 := by rw [hv6]; exact c_lshl q1 (16 : Int32) 16 (by decide)
      omega
    refine own_by (fun t k => XS.lloadN X0.here hx rfl (hb hby d2_21) rfl k) ?_
    show ORun p e below s _ _ _ s₁ (mkF m 22 #[.val (.long q1), .second, .val (.int p2), .val (.long v5), .second] [(.long v5), (.long v6)])
    refine own_by (fun t k => XS.ladd X0.here hx rfl (hb hby d2_22) rfl k) (own_letJ (f := (fun z => (mkF m 23 #[.val (.long q1), .second, .val (.int p2), .val (.long v5), .second] [(.long z)]))) (v6 + v5) fun v7 hv7 => ?_)
    show ORun p e below s _ _ _ s₁ (mkF m 23 #[.val (.long q1), .second, .val (.int p2), .val (.long v5), .second] [(.long v7)])
    have r7 := rng64 v7
    have a7 : v7.toInt = v6.toInt + v5.toInt := by
      have q : (v7.toInt - (v6.toInt + v5.toInt)) % 18446744073709551616 = 0 := by rw [hv7]; exact c_ladd v6 v5
      omega
    refine own_retJ X0 hx hret hlk (hb hby d2_23) (by decide) (by decide) ?_
    refine ⟨v7, rfl, ?_, N0, e0⟩
    omega
theorem pn_rm0 : plainName "com/example/callweave/callweave/generate/ReplayHashesStartOfTestPinLaw" = true := by first | (simp [plainName, overriddenIn]; done) | decide +kernel
theorem ef_rm0 (m : MethodId) (x0 : Int64) (x1 : Int32) (x2 : Int32) : entryFrame m #[(.long x0), (.int x1), (.int x2)] maxLocals = mkF m 0 #[.val (.long x0), .second, .val (.int x1), .val (.int x2), .unset, .unset, .unset, .unset, .unset, .unset, .unset, .unset, .unset, .unset, .unset, .unset, .unset, .unset, .unset, .unset, .unset] [] := by first | (simp [entryFrame, mkF, argsToLocals, Value.category, maxLocals]; done) | rfl
set_option maxRecDepth 65536 in
set_option maxHeartbeats 40000000 in
theorem rm0 (l : Launch) (Z : State) (a0 : Array Value) (hw : ∀ d ∈ tables_1, d.before a0 Z = true) (ws : List Jvm.Cond) (h0 : Heap) (n0 : Nat) (Z0 : n0 ≤ h0.size) (p1 : Int64) (p2 p3 : Int32) :
    OMet l x code maxLocals ret ws room_1 #[(.long p1), (.int p2), (.int p3)] Z h0 (fun v h L => v = some (.int 1) ∧ Fr n0 L) := by
  refine own_met (plainFor_of_name pn_rm0) ?_
  intro p e s m below meth c s₁ X0 hx hby hml hown hnm hret hlk hZ e0
  rw [ef_rm0]
  have N0 := Fr.nil n0
  show ORun p e below s _ _ _ s₁ (mkF m 0 #[.val (.long p1), .second, .val (.int p2), .val (.int p3), .unset, .unset, .unset, .unset, .unset, .unset, .unset, .unset, .unset, .unset, .unset, .unset, .unset, .unset, .unset, .unset, .unset] [])
  refine own_by (fun t k => XS.lloadN X0.here hx rfl (hb hby at_0) rfl k) ?_
  show ORun p e below s _ _ _ s₁ (mkF m 1 #[.val (.long p1), .second, .val (.int p2), .val (.int p3), .unset, .unset, .unset, .unset, .unset, .unset, .unset, .unset, .unset, .unset, .unset, .unset, .unset, .unset, .unset, .unset, .unset] [(.long p1)])
  refine own_by (fun t k => X0.ldc2Long hx hown (mvT hZ (hw _ (List.mem_of_getElem? (i := 0) rfl))) (g := (mkF m 1 #[.val (.long p1), .second, .val (.int p2), .val (.int p3), .unset, .unset, .unset, .unset, .unset, .unset, .unset, .unset, .unset, .unset, .unset, .unset, .unset, .unset, .unset, .unset, .unset] [(.long p1)])) rfl (hb hby at_1) _ k) ?_
  show ORun p e below s _ _ _ s₁ (mkF m 4 #[.val (.long p1), .second, .val (.int p2), .val (.int p3), .unset, .unset, .unset, .unset, .unset, .unset, .unset, .unset, .unset, .unset, .unset, .unset, .unset, .unset, .unset, .unset, .unset] [(.long (4611686018427387903 : Int64)), (.long p1)])
  refine own_by (fun t k => XS.land X0.here hx rfl (hb hby at_4) rfl k) (own_letJ (f := (fun z => (mkF m 5 #[.val (.long p1), .second, .val (.int p2), .val (.int p3), .unset, .unset, .unset, .unset, .unset, .unset, .unset, .unset, .unset, .unset, .unset, .unset, .unset, .unset, .unset, .unset, .unset] [(.long z)]))) (p1 &&& (4611686018427387903 : Int64)) fun v1 hv1 => ?_)
  show ORun p e below s _ _ _ s₁ (mkF m 5 #[.val (.long p1), .second, .val (.int p2), .val (.int p3), .unset, .unset, .unset, .unset, .unset, .unset, .unset, .unset, .unset, .unset, .unset, .unset, .unset, .unset, .unset, .unset, .unset] [(.long v1)])
  have a1a : v1.toInt = p1.toInt % 4611686018427387904 := by rw [hv1]; exact c_maskL p1 (4611686018427387903 : Int64) 62 (by decide) (by decide)
  have r1 := rng64 v1
  refine own_by (fun t k => XS.lstore X0.here hx rfl (hb hby at_5) rfl (l' := #[.val (.long p1), .second, .val (.int p2), .val (.int p3), .val (.long v1), .second, .unset, .unset, .unset, .unset, .unset, .unset, .unset, .unset, .unset, .unset, .unset, .unset, .unset, .unset, .unset]) rfl k) ?_
  show ORun p e below s _ _ _ s₁ (mkF m 7 #[.val (.long p1), .second, .val (.int p2), .val (.int p3), .val (.long v1), .second, .unset, .unset, .unset, .unset, .unset, .unset, .unset, .unset, .unset, .unset, .unset, .unset, .unset, .unset, .unset] [])
  refine own_by (fun t k => XS.iloadN X0.here hx rfl (hb hby at_7) rfl k) ?_
  show ORun p e below s _ _ _ s₁ (mkF m 8 #[.val (.long p1), .second, .val (.int p2), .val (.int p3), .val (.long v1), .second, .unset, .unset, .unset, .unset, .unset, .unset, .unset, .unset, .unset, .unset, .unset, .unset, .unset, .unset, .unset] [(.int p2)])
  refine own_by (fun t k => XS.bipush X0.here hx rfl (hb hby at_8) k) ?_
  show ORun p e below s _ _ _ s₁ (mkF m 10 #[.val (.long p1), .second, .val (.int p2), .val (.int p3), .val (.long v1), .second, .unset, .unset, .unset, .unset, .unset, .unset, .unset, .unset, .unset, .unset, .unset, .unset, .unset, .unset, .unset] [(.int (15 : Int32)), (.int p2)])
  refine own_by (fun t k => XS.iand X0.here hx rfl (hb hby at_10) rfl k) (own_letI (f := (fun z => (mkF m 11 #[.val (.long p1), .second, .val (.int p2), .val (.int p3), .val (.long v1), .second, .unset, .unset, .unset, .unset, .unset, .unset, .unset, .unset, .unset, .unset, .unset, .unset, .unset, .unset, .unset] [(.int z)]))) (p2 &&& (15 : Int32)) fun v2 hv2 => ?_)
  show ORun p e below s _ _ _ s₁ (mkF m 11 #[.val (.long p1), .second, .val (.int p2), .val (.int p3), .val (.long v1), .second, .unset, .unset, .unset, .unset, .unset, .unset, .unset, .unset, .unset, .unset, .unset, .unset, .unset, .unset, .unset] [(.int v2)])
  have a2a : v2.toInt = p2.toInt % 16 := by rw [hv2]; exact c_mask p2 (15 : Int32) 4 (by decide) (by decide)
  have r2 := rng32 v2
  refine own_by (fun t k => XS.istore X0.here hx rfl (hb hby at_11) rfl (l' := #[.val (.long p1), .second, .val (.int p2), .val (.int p3), .val (.long v1), .second, .val (.int v2), .unset, .unset, .unset, .unset, .unset, .unset, .unset, .unset, .unset, .unset, .unset, .unset, .unset, .unset]) rfl k) ?_
  show ORun p e below s _ _ _ s₁ (mkF m 13 #[.val (.long p1), .second, .val (.int p2), .val (.int p3), .val (.long v1), .second, .val (.int v2), .unset, .unset, .unset, .unset, .unset, .unset, .unset, .unset, .unset, .unset, .unset, .unset, .unset, .unset] [])
  refine own_by (fun t k => XS.iloadN X0.here hx rfl (hb hby at_13) rfl k) ?_
  show ORun p e below s _ _ _ s₁ (mkF m 14 #[.val (.long p1), .second, .val (.int p2), .val (.int p3), .val (.long v1), .second, .val (.int v2), .unset, .unset, .unset, .unset, .unset, .unset, .unset, .unset, .unset, .unset, .unset, .unset, .unset, .unset] [(.int p3)])
  refine own_by (fun t k => XS.bipush X0.here hx rfl (hb hby at_14) k) ?_
  show ORun p e below s _ _ _ s₁ (mkF m 16 #[.val (.long p1), .second, .val (.int p2), .val (.int p3), .val (.long v1), .second, .val (.int v2), .unset, .unset, .unset, .unset, .unset, .unset, .unset, .unset, .unset, .unset, .unset, .unset, .unset, .unset] [(.int (15 : Int32)), (.int p3)])
  refine own_by (fun t k => XS.iand X0.here hx rfl (hb hby at_16) rfl k) (own_letI (f := (fun z => (mkF m 17 #[.val (.long p1), .second, .val (.int p2), .val (.int p3), .val (.long v1), .second, .val (.int v2), .unset, .unset, .unset, .unset, .unset, .unset, .unset, .unset, .unset, .unset, .unset, .unset, .unset, .unset] [(.int z)]))) (p3 &&& (15 : Int32)) fun v3 hv3 => ?_)
  show ORun p e below s _ _ _ s₁ (mkF m 17 #[.val (.long p1), .second, .val (.int p2), .val (.int p3), .val (.long v1), .second, .val (.int v2), .unset, .unset, .unset, .unset, .unset, .unset, .unset, .unset, .unset, .unset, .unset, .unset, .unset, .unset] [(.int v3)])
  have a3a : v3.toInt = p3.toInt % 16 := by rw [hv3]; exact c_mask p3 (15 : Int32) 4 (by decide) (by decide)
  have r3 := rng32 v3
  refine own_by (fun t k => XS.istore X0.here hx rfl (hb hby at_17) rfl (l' := #[.val (.long p1), .second, .val (.int p2), .val (.int p3), .val (.long v1), .second, .val (.int v2), .val (.int v3), .unset, .unset, .unset, .unset, .unset, .unset, .unset, .unset, .unset, .unset, .unset, .unset, .unset]) rfl k) ?_
  show ORun p e below s _ _ _ s₁ (mkF m 19 #[.val (.long p1), .second, .val (.int p2), .val (.int p3), .val (.long v1), .second, .val (.int v2), .val (.int v3), .unset, .unset, .unset, .unset, .unset, .unset, .unset, .unset, .unset, .unset, .unset, .unset, .unset] [])
  refine own_by (fun t k => XS.lload X0.here hx rfl (hb hby at_19) rfl k) ?_
  show ORun p e below s _ _ _ s₁ (mkF m 21 #[.val (.long p1), .second, .val (.int p2), .val (.int p3), .val (.long v1), .second, .val (.int v2), .val (.int v3), .unset, .unset, .unset, .unset, .unset, .unset, .unset, .unset, .unset, .unset, .unset, .unset, .unset] [(.long v1)])
  refine own_by (fun t k => XS.iload X0.here hx rfl (hb hby at_21) rfl k) ?_
  show ORun p e below s _ _ _ s₁ (mkF m 23 #[.val (.long p1), .second, .val (.int p2), .val (.int p3), .val (.long v1), .second, .val (.int v2), .val (.int v3), .unset, .unset, .unset, .unset, .unset, .unset, .unset, .unset, .unset, .unset, .unset, .unset, .unset] [(.int v2), (.long v1)])
  refine own_by (fun t k => XS.iload X0.here hx rfl (hb hby at_23) rfl k) ?_
  show ORun p e below s _ _ _ s₁ (mkF m 25 #[.val (.long p1), .second, .val (.int p2), .val (.int p3), .val (.long v1), .second, .val (.int v2), .val (.int v3), .unset, .unset, .unset, .unset, .unset, .unset, .unset, .unset, .unset, .unset, .unset, .unset, .unset] [(.int v3), (.int v2), (.long v1)])
  refine own_callS X0 hx hZ hown (hw _ (List.mem_of_getElem? (i := 1) rfl)) (hw _ (List.mem_of_getElem? (i := 2) rfl)) (hw _ (List.mem_of_getElem? (i := 3) rfl)) (hw _ (List.mem_of_getElem? (i := 4) rfl)) (by decide) (rm1 l Z a0 hw [] h0 n0 Z0 v1 v2 v3 (by omega) (by omega) (by omega)) e0 (by decide) (W := 0) (by decide) (by decide) (by decide) (argsL := [(.long v1), (.int v2), (.int v3)]) (rest := []) (by rw [hml]; rfl) (lenOf pd_0 rfl) rfl rfl (Nat.le_of_eq rfl) (hb hby at_25) ?_
  intro T4 L4 u4 X4 hQ4
  obtain ⟨y4, rfl, hy4, Nq4, e4⟩ := hQ4
  have N4 := Fr.app N0 Nq4
  obtain ⟨c4, b4, hcc4, hbb4, hy4⟩ := hy4
  show ORun p e below s _ _ _ T4 (mkF m 28 #[.val (.long p1), .second, .val (.int p2), .val (.int p3), .val (.long v1), .second, .val (.int v2), .val (.int v3), .unset, .unset, .unset, .unset, .unset, .unset, .unset, .unset, .unset, .unset, .unset, .unset, .unset] [(.long y4)])
  refine own_by (fun t k => XS.lstore X4.here hx rfl (hb hby at_28) rfl (l' := #[.val (.long p1), .second, .val (.int p2), .val (.int p3), .val (.long v1), .second, .val (.int v2), .val (.int v3), .val (.long y4), .second, .unset, .unset, .unset, .unset, .unset, .unset, .unset, .unset, .unset, .unset, .unset]) rfl k) ?_
  show ORun p e below s _ _ _ T4 (mkF m 30 #[.val (.long p1), .second, .val (.int p2), .val (.int p3), .val (.long v1), .second, .val (.int v2), .val (.int v3), .val (.long y4), .second, .unset, .unset, .unset, .unset, .unset, .unset, .unset, .unset, .unset, .unset, .unset] [])
  refine own_by (fun t k => XS.lload X4.here hx rfl (hb hby at_30) rfl k) ?_
  show ORun p e below s _ _ _ T4 (mkF m 32 #[.val (.long p1), .second, .val (.int p2), .val (.int p3), .val (.long v1), .second, .val (.int v2), .val (.int v3), .val (.long y4), .second, .unset, .unset, .unset, .unset, .unset, .unset, .unset, .unset, .unset, .unset, .unset] [(.long y4)])
  refine own_by (fun t k => XS.bipush X4.here hx rfl (hb hby at_32) k) ?_
  show ORun p e below s _ _ _ T4 (mkF m 34 #[.val (.long p1), .second, .val (.int p2), .val (.int p3), .val (.long v1), .second, .val (.int v2), .val (.int v3), .val (.long y4), .second, .unset, .unset, .unset, .unset, .unset, .unset, .unset, .unset, .unset, .unset, .unset] [(.int (16 : Int32)), (.long y4)])
  refine own_by (fun t k => XS.lushr X4.here hx rfl (hb hby at_34) rfl k) (own_letJ (f := (fun z => (mkF m 35 #[.val (.long p1), .second, .val (.int p2), .val (.int p3), .val (.long v1), .second, .val (.int v2), .val (.int v3), .val (.long y4), .second, .unset, .unset, .unset, .unset, .unset, .unset, .unset, .unset, .unset, .unset, .unset] [(.long z)]))) ((y4.toUInt64 >>> ((16 : Int32) &&& 0x3f).toInt64.toUInt64).toInt64) fun v5 hv5 => ?_)
  show ORun p e below s _ _ _ T4 (mkF m 35 #[.val (.long p1), .second, .val (.int p2), .val (.int p3), .val (.long v1), .second, .val (.int v2), .val (.int v3), .val (.long y4), .second, .unset, .unset, .unset, .unset, .unset, .unset, .unset, .unset, .unset, .unset, .unset] [(.long v5)])
  have r5 := rng64 v5
  have a5 : v5.toInt = y4.toInt / 65536 := by
    have q : v5.toInt = (y4.toInt % 18446744073709551616) / 65536 := by rw [hv5]; exact c_lushr y4 (16 : Int32) 16 (by decide) (by decide)
    omega
  refine own_by (fun t k => XS.lstore X4.here hx rfl (hb hby at_35) rfl (l' := #[.val (.long p1), .second, .val (.int p2), .val (.int p3), .val (.long v1), .second, .val (.int v2), .val (.int v3), .val (.long y4), .second, .val (.long v5), .second, .unset, .unset, .unset, .unset, .unset, .unset, .unset, .unset, .unset]) rfl k) ?_
  show ORun p e below s _ _ _ T4 (mkF m 37 #[.val (.long p1), .second, .val (.int p2), .val (.int p3), .val (.long v1), .second, .val (.int v2), .val (.int v3), .val (.long y4), .second, .val (.long v5), .second, .unset, .unset, .unset, .unset, .unset, .unset, .unset, .unset, .unset] [])
  refine own_by (fun t k => XS.lload X4.here hx rfl (hb hby at_37) rfl k) ?_
  show ORun p e below s _ _ _ T4 (mkF m 39 #[.val (.long p1), .second, .val (.int p2), .val (.int p3), .val (.long v1), .second, .val (.int v2), .val (.int v3), .val (.long y4), .second, .val (.long v5), .second, .unset, .unset, .unset, .unset, .unset, .unset, .unset, .unset, .unset] [(.long y4)])
  refine own_by (fun t k => X4.ldc2Long hx hown (mvT hZ (hw _ (List.mem_of_getElem? (i := 7) rfl))) (g := (mkF m 39 #[.val (.long p1), .second, .val (.int p2), .val (.int p3), .val (.long v1), .second, .val (.int v2), .val (.int v3), .val (.long y4), .second, .val (.long v5), .second, .unset, .unset, .unset, .unset, .unset, .unset, .unset, .unset, .unset] [(.long y4)])) rfl (hb hby at_39) _ k) ?_
  show ORun p e below s _ _ _ T4 (mkF m 42 #[.val (.long p1), .second, .val (.int p2), .val (.int p3), .val (.long v1), .second, .val (.int v2), .val (.int v3), .val (.long y4), .second, .val (.long v5), .second, .unset, .unset, .unset, .unset, .unset, .unset, .unset, .unset, .unset] [(.long (15 : Int64)), (.long y4)])
  refine own_by (fun t k => XS.land X4.here hx rfl (hb hby at_42) rfl k) (own_letJ (f := (fun z => (mkF m 43 #[.val (.long p1), .second, .val (.int p2), .val (.int p3), .val (.long v1), .second, .val (.int v2), .val (.int v3), .val (.long y4), .second, .val (.long v5), .second, .unset, .unset, .unset, .unset, .unset, .unset, .unset, .unset, .unset] [(.long z)]))) (y4 &&& (15 : Int64)) fun v6 hv6 => ?_)
  show ORun p e below s _ _ _ T4 (mkF m 43 #[.val (.long p1), .second, .val (.int p2), .val (.int p3), .val (.long v1), .second, .val (.int v2), .val (.int v3), .val (.long y4), .second, .val (.long v5), .second, .unset, .unset, .unset, .unset, .unset, .unset, .unset, .unset, .unset] [(.long v6)])
  have a6a : v6.toInt = y4.toInt % 16 := by rw [hv6]; exact c_maskL y4 (15 : Int64) 4 (by decide) (by decide)
  have r6 := rng64 v6
  refine own_by (fun t k => XS.iload X4.here hx rfl (hb hby at_43) rfl k) ?_
  show ORun p e below s _ _ _ T4 (mkF m 45 #[.val (.long p1), .second, .val (.int p2), .val (.int p3), .val (.long v1), .second, .val (.int v2), .val (.int v3), .val (.long y4), .second, .val (.long v5), .second, .unset, .unset, .unset, .unset, .unset, .unset, .unset, .unset, .unset] [(.int v3), (.long v6)])
  refine own_by (fun t k => XS.i2l X4.here hx rfl (hb hby at_45) rfl k) (own_letJ (f := (fun z => (mkF m 46 #[.val (.long p1), .second, .val (.int p2), .val (.int p3), .val (.long v1), .second, .val (.int v2), .val (.int v3), .val (.long y4), .second, .val (.long v5), .second, .unset, .unset, .unset, .unset, .unset, .unset, .unset, .unset, .unset] [(.long z), (.long v6)]))) (v3.toInt64) fun v7 hv7 => ?_)
  show ORun p e below s _ _ _ T4 (mkF m 46 #[.val (.long p1), .second, .val (.int p2), .val (.int p3), .val (.long v1), .second, .val (.int v2), .val (.int v3), .val (.long y4), .second, .val (.long v5), .second, .unset, .unset, .unset, .unset, .unset, .unset, .unset, .unset, .unset] [(.long v7), (.long v6)])
  have a7a : v7.toInt = v3.toInt := by rw [hv7]; exact c_i2l v3
  have r7 := rng64 v7
  refine own_by (fun t k => XS.lcmp X4.here hx rfl (hb hby at_46) rfl k) ?_
  show ORun p e below s _ _ _ T4 (mkF m 47 #[.val (.long p1), .second, .val (.int p2), .val (.int p3), .val (.long v1), .second, .val (.int v2), .val (.int v3), .val (.long y4), .second, .val (.long v5), .second, .unset, .unset, .unset, .unset, .unset, .unset, .unset, .unset, .unset] [(.int (lcmpW v6 v7))])
  refine own_by (fun t k => XS.ifNo X4.here hx rfl (hb hby at_47) rfl (own_lceq (Int64.toInt_inj.mp (by omega))).2 k) ?_
  show ORun p e below s _ _ _ T4 (mkF m 50 #[.val (.long p1), .second, .val (.int p2), .val (.int p3), .val (.long v1), .second, .val (.int v2), .val (.int v3), .val (.long y4), .second, .val (.long v5), .second, .unset, .unset, .unset, .unset, .unset, .unset, .unset, .unset, .unset] [])
  refine own_by (fun t k => XS.iconst X4.here hx rfl (hb hby at_50) k) ?_
  show ORun p e below s _ _ _ T4 (mkF m 51 #[.val (.long p1), .second, .val (.int p2), .val (.int p3), .val (.long v1), .second, .val (.int v2), .val (.int v3), .val (.long y4), .second, .val (.long v5), .second, .unset, .unset, .unset, .unset, .unset, .unset, .unset, .unset, .unset] [(.int (1 : Int32))])
  refine own_by (fun t k => XS.goto X4.here hx rfl (pc0 := 51) (pc' := 55) rfl (hb hby at_51) (by decide) (by decide) k) ?_
  show ORun p e below s _ _ _ T4 (mkF m 55 #[.val (.long p1), .second, .val (.int p2), .val (.int p3), .val (.long v1), .second, .val (.int v2), .val (.int v3), .val (.long y4), .second, .val (.long v5), .second, .unset, .unset, .unset, .unset, .unset, .unset, .unset, .unset, .unset] [(.int (1 : Int32))])
  refine own_by (fun t k => XS.istore X4.here hx rfl (hb hby at_55) rfl (l' := #[.val (.long p1), .second, .val (.int p2), .val (.int p3), .val (.long v1), .second, .val (.int v2), .val (.int v3), .val (.long y4), .second, .val (.long v5), .second, .val (.int (1 : Int32)), .unset, .unset, .unset, .unset, .unset, .unset, .unset, .unset]) rfl k) ?_
  show ORun p e below s _ _ _ T4 (mkF m 57 #[.val (.long p1), .second, .val (.int p2), .val (.int p3), .val (.long v1), .second, .val (.int v2), .val (.int v3), .val (.long y4), .second, .val (.long v5), .second, .val (.int (1 : Int32)), .unset, .unset, .unset, .unset, .unset, .unset, .unset, .unset] [])
  refine own_by (fun t k => XS.lload X4.here hx rfl (hb hby at_57) rfl k) ?_
  show ORun p e below s _ _ _ T4 (mkF m 59 #[.val (.long p1), .second, .val (.int p2), .val (.int p3), .val (.long v1), .second, .val (.int v2), .val (.int v3), .val (.long y4), .second, .val (.long v5), .second, .val (.int (1 : Int32)), .unset, .unset, .unset, .unset, .unset, .unset, .unset, .unset] [(.long v5)])
  refine own_by (fun t k => X4.ldc2Long hx hown (mvT hZ (hw _ (List.mem_of_getElem? (i := 7) rfl))) (g := (mkF m 59 #[.val (.long p1), .second, .val (.int p2), .val (.int p3), .val (.long v1), .second, .val (.int v2), .val (.int v3), .val (.long y4), .second, .val (.long v5), .second, .val (.int (1 : Int32)), .unset, .unset, .unset, .unset, .unset, .unset, .unset, .unset] [(.long v5)])) rfl (hb hby at_59) _ k) ?_
  show ORun p e below s _ _ _ T4 (mkF m 62 #[.val (.long p1), .second, .val (.int p2), .val (.int p3), .val (.long v1), .second, .val (.int v2), .val (.int v3), .val (.long y4), .second, .val (.long v5), .second, .val (.int (1 : Int32)), .unset, .unset, .unset, .unset, .unset, .unset, .unset, .unset] [(.long (15 : Int64)), (.long v5)])
  refine own_by (fun t k => XS.land X4.here hx rfl (hb hby at_62) rfl k) (own_letJ (f := (fun z => (mkF m 63 #[.val (.long p1), .second, .val (.int p2), .val (.int p3), .val (.long v1), .second, .val (.int v2), .val (.int v3), .val (.long y4), .second, .val (.long v5), .second, .val (.int (1 : Int32)), .unset, .unset, .unset, .unset, .unset, .unset, .unset, .unset] [(.long z)]))) (v5 &&& (15 : Int64)) fun v8 hv8 => ?_)
  show ORun p e below s _ _ _ T4 (mkF m 63 #[.val (.long p1), .second, .val (.int p2), .val (.int p3), .val (.long v1), .second, .val (.int v2), .val (.int v3), .val (.long y4), .second, .val (.long v5), .second, .val (.int (1 : Int32)), .unset, .unset, .unset, .unset, .unset, .unset, .unset, .unset] [(.long v8)])
  have a8a : v8.toInt = v5.toInt % 16 := by rw [hv8]; exact c_maskL v5 (15 : Int64) 4 (by decide) (by decide)
  have r8 := rng64 v8
  refine own_by (fun t k => XS.iload X4.here hx rfl (hb hby at_63) rfl k) ?_
  show ORun p e below s _ _ _ T4 (mkF m 65 #[.val (.long p1), .second, .val (.int p2), .val (.int p3), .val (.long v1), .second, .val (.int v2), .val (.int v3), .val (.long y4), .second, .val (.long v5), .second, .val (.int (1 : Int32)), .unset, .unset, .unset, .unset, .unset, .unset, .unset, .unset] [(.int v2), (.long v8)])
  refine own_by (fun t k => XS.i2l X4.here hx rfl (hb hby at_65) rfl k) (own_letJ (f := (fun z => (mkF m 66 #[.val (.long p1), .second, .val (.int p2), .val (.int p3), .val (.long v1), .second, .val (.int v2), .val (.int v3), .val (.long y4), .second, .val (.long v5), .second, .val (.int (1 : Int32)), .unset, .unset, .unset, .unset, .unset, .unset, .unset, .unset] [(.long z), (.long v8)]))) (v2.toInt64) fun v9 hv9 => ?_)
  show ORun p e below s _ _ _ T4 (mkF m 66 #[.val (.long p1), .second, .val (.int p2), .val (.int p3), .val (.long v1), .second, .val (.int v2), .val (.int v3), .val (.long y4), .second, .val (.long v5), .second, .val (.int (1 : Int32)), .unset, .unset, .unset, .unset, .unset, .unset, .unset, .unset] [(.long v9), (.long v8)])
  have a9a : v9.toInt = v2.toInt := by rw [hv9]; exact c_i2l v2
  have r9 := rng64 v9
  refine own_by (fun t k => XS.lcmp X4.here hx rfl (hb hby at_66) rfl k) ?_
  show ORun p e below s _ _ _ T4 (mkF m 67 #[.val (.long p1), .second, .val (.int p2), .val (.int p3), .val (.long v1), .second, .val (.int v2), .val (.int v3), .val (.long y4), .second, .val (.long v5), .second, .val (.int (1 : Int32)), .unset, .unset, .unset, .unset, .unset, .unset, .unset, .unset] [(.int (lcmpW v8 v9))])
  refine own_by (fun t k => XS.ifNo X4.here hx rfl (hb hby at_67) rfl (own_lceq (Int64.toInt_inj.mp (by omega))).2 k) ?_
  show ORun p e below s _ _ _ T4 (mkF m 70 #[.val (.long p1), .second, .val (.int p2), .val (.int p3), .val (.long v1), .second, .val (.int v2), .val (.int v3), .val (.long y4), .second, .val (.long v5), .second, .val (.int (1 : Int32)), .unset, .unset, .unset, .unset, .unset, .unset, .unset, .unset] [])
  refine own_by (fun t k => XS.iconst X4.here hx rfl (hb hby at_70) k) ?_
  show ORun p e below s _ _ _ T4 (mkF m 71 #[.val (.long p1), .second, .val (.int p2), .val (.int p3), .val (.long v1), .second, .val (.int v2), .val (.int v3), .val (.long y4), .second, .val (.long v5), .second, .val (.int (1 : Int32)), .unset, .unset, .unset, .unset, .unset, .unset, .unset, .unset] [(.int (1 : Int32))])
  refine own_by (fun t k => XS.goto X4.here hx rfl (pc0 := 71) (pc' := 75) rfl (hb hby at_71) (by decide) (by decide) k) ?_
  show ORun p e below s _ _ _ T4 (mkF m 75 #[.val (.long p1), .second, .val (.int p2), .val (.int p3), .val (.long v1), .second, .val (.int v2), .val (.int v3), .val (.long y4), .second, .val (.long v5), .second, .val (.int (1 : Int32)), .unset, .unset, .unset, .unset, .unset, .unset, .unset, .unset] [(.int (1 : Int32))])
  refine own_by (fun t k => XS.istore X4.here hx rfl (hb hby at_75) rfl (l' := #[.val (.long p1), .second, .val (.int p2), .val (.int p3), .val (.long v1), .second, .val (.int v2), .val (.int v3), .val (.long y4), .second, .val (.long v5), .second, .val (.int (1 : Int32)), .val (.int (1 : Int32)), .unset, .unset, .unset, .unset, .unset, .unset, .unset]) rfl k) ?_
  show ORun p e below s _ _ _ T4 (mkF m 77 #[.val (.long p1), .second, .val (.int p2), .val (.int p3), .val (.long v1), .second, .val (.int v2), .val (.int v3), .val (.long y4), .second, .val (.long v5), .second, .val (.int (1 : Int32)), .val (.int (1 : Int32)), .unset, .unset, .unset, .unset, .unset, .unset, .unset] [])
  refine own_by (fun t k => XS.lload X4.here hx rfl (hb hby at_77) rfl k) ?_
  show ORun p e below s _ _ _ T4 (mkF m 79 #[.val (.long p1), .second, .val (.int p2), .val (.int p3), .val (.long v1), .second, .val (.int v2), .val (.int v3), .val (.long y4), .second, .val (.long v5), .second, .val (.int (1 : Int32)), .val (.int (1 : Int32)), .unset, .unset, .unset, .unset, .unset, .unset, .unset] [(.long y4)])
  refine own_by (fun t k => X4.ldc2Long hx hown (mvT hZ (hw _ (List.mem_of_getElem? (i := 8) rfl))) (g := (mkF m 79 #[.val (.long p1), .second, .val (.int p2), .val (.int p3), .val (.long v1), .second, .val (.int v2), .val (.int v3), .val (.long y4), .second, .val (.long v5), .second, .val (.int (1 : Int32)), .val (.int (1 : Int32)), .unset, .unset, .unset, .unset, .unset, .unset, .unset] [(.long y4)])) rfl (hb hby at_79) _ k) ?_
  show ORun p e below s _ _ _ T4 (mkF m 82 #[.val (.long p1), .second, .val (.int p2), .val (.int p3), .val (.long v1), .second, .val (.int v2), .val (.int v3), .val (.long y4), .second, .val (.long v5), .second, .val (.int (1 : Int32)), .val (.int (1 : Int32)), .unset, .unset, .unset, .unset, .unset, .unset, .unset] [(.long (65535 : Int64)), (.long y4)])
  refine own_by (fun t k => XS.land X4.here hx rfl (hb hby at_82) rfl k) (own_letJ (f := (fun z => (mkF m 83 #[.val (.long p1), .second, .val (.int p2), .val (.int p3), .val (.long v1), .second, .val (.int v2), .val (.int v3), .val (.long y4), .second, .val (.long v5), .second, .val (.int (1 : Int32)), .val (.int (1 : Int32)), .unset, .unset, .unset, .unset, .unset, .unset, .unset] [(.long z)]))) (y4 &&& (65535 : Int64)) fun v10 hv10 => ?_)
  show ORun p e below s _ _ _ T4 (mkF m 83 #[.val (.long p1), .second, .val (.int p2), .val (.int p3), .val (.long v1), .second, .val (.int v2), .val (.int v3), .val (.long y4), .second, .val (.long v5), .second, .val (.int (1 : Int32)), .val (.int (1 : Int32)), .unset, .unset, .unset, .unset, .unset, .unset, .unset] [(.long v10)])
  have a10a : v10.toInt = y4.toInt % 65536 := by rw [hv10]; exact c_maskL y4 (65535 : Int64) 16 (by decide) (by decide)
  have r10 := rng64 v10
  refine own_by (fun t k => X4.ldc2Long hx hown (mvT hZ (hw _ (List.mem_of_getElem? (i := 7) rfl))) (g := (mkF m 83 #[.val (.long p1), .second, .val (.int p2), .val (.int p3), .val (.long v1), .second, .val (.int v2), .val (.int v3), .val (.long y4), .second, .val (.long v5), .second, .val (.int (1 : Int32)), .val (.int (1 : Int32)), .unset, .unset, .unset, .unset, .unset, .unset, .unset] [(.long v10)])) rfl (hb hby at_83) _ k) ?_
  show ORun p e below s _ _ _ T4 (mkF m 86 #[.val (.long p1), .second, .val (.int p2), .val (.int p3), .val (.long v1), .second, .val (.int v2), .val (.int v3), .val (.long y4), .second, .val (.long v5), .second, .val (.int (1 : Int32)), .val (.int (1 : Int32)), .unset, .unset, .unset, .unset, .unset, .unset, .unset] [(.long (15 : Int64)), (.long v10)])
  refine own_by (fun t k => XS.ladd X4.here hx rfl (hb hby at_86) rfl k) (own_letJ (f := (fun z => (mkF m 87 #[.val (.long p1), .second, .val (.int p2), .val (.int p3), .val (.long v1), .second, .val (.int v2), .val (.int v3), .val (.long y4), .second, .val (.long v5), .second, .val (.int (1 : Int32)), .val (.int (1 : Int32)), .unset, .unset, .unset, .unset, .unset, .unset, .unset] [(.long z)]))) (v10 + (15 : Int64)) fun v11 hv11 => ?_)
  show ORun p e below s _ _ _ T4 (mkF m 87 #[.val (.long p1), .second, .val (.int p2), .val (.int p3), .val (.long v1), .second, .val (.int v2), .val (.int v3), .val (.long y4), .second, .val (.long v5), .second, .val (.int (1 : Int32)), .val (.int (1 : Int32)), .unset, .unset, .unset, .unset, .unset, .unset, .unset] [(.long v11)])
  have r11 := rng64 v11
  have a11 : v11.toInt = v10.toInt + 15 := by
    have q : (v11.toInt - (v10.toInt + 15)) % 18446744073709551616 = 0 := by rw [hv11]; exact c_ladd v10 (15 : Int64)
    omega
  refine own_by (fun t k => X4.ldc2Long hx hown (mvT hZ (hw _ (List.mem_of_getElem? (i := 8) rfl))) (g := (mkF m 87 #[.val (.long p1), .second, .val (.int p2), .val (.int p3), .val (.long v1), .second, .val (.int v2), .val (.int v3), .val (.long y4), .second, .val (.long v5), .second, .val (.int (1 : Int32)), .val (.int (1 : Int32)), .unset, .unset, .unset, .unset, .unset, .unset, .unset] [(.long v11)])) rfl (hb hby at_87) _ k) ?_
  show ORun p e below s _ _ _ T4 (mkF m 90 #[.val (.long p1), .second, .val (.int p2), .val (.int p3), .val (.long v1), .second, .val (.int v2), .val (.int v3), .val (.long y4), .second, .val (.long v5), .second, .val (.int (1 : Int32)), .val (.int (1 : Int32)), .unset, .unset, .unset, .unset, .unset, .unset, .unset] [(.long (65535 : Int64)), (.long v11)])
  refine own_by (fun t k => XS.lcmp X4.here hx rfl (hb hby at_90) rfl k) ?_
  show ORun p e below s _ _ _ T4 (mkF m 91 #[.val (.long p1), .second, .val (.int p2), .val (.int p3), .val (.long v1), .second, .val (.int v2), .val (.int v3), .val (.long y4), .second, .val (.long v5), .second, .val (.int (1 : Int32)), .val (.int (1 : Int32)), .unset, .unset, .unset, .unset, .unset, .unset, .unset] [(.int (lcmpW v11 (65535 : Int64)))])
  refine own_by (fun t k => XS.ifNo X4.here hx rfl (hb hby at_91) rfl (own_lcngt (fun q => absurd (Int64.lt_iff_toInt_lt.mp q) (by show ¬ 65535 < v11.toInt; omega))).1 k) ?_
  show ORun p e below s _ _ _ T4 (mkF m 94 #[.val (.long p1), .second, .val (.int p2), .val (.int p3), .val (.long v1), .second, .val (.int v2), .val (.int v3), .val (.long y4), .second, .val (.long v5), .second, .val (.int (1 : Int32)), .val (.int (1 : Int32)), .unset, .unset, .unset, .unset, .unset, .unset, .unset] [])
  refine own_by (fun t k => XS.iconst X4.here hx rfl (hb hby at_94) k) ?_
  show ORun p e below s _ _ _ T4 (mkF m 95 #[.val (.long p1), .second, .val (.int p2), .val (.int p3), .val (.long v1), .second, .val (.int v2), .val (.int v3), .val (.long y4), .second, .val (.long v5), .second, .val (.int (1 : Int32)), .val (.int (1 : Int32)), .unset, .unset, .unset, .unset, .unset, .unset, .unset] [(.int (1 : Int32))])
  refine own_by (fun t k => XS.goto X4.here hx rfl (pc0 := 95) (pc' := 99) rfl (hb hby at_95) (by decide) (by decide) k) ?_
  show ORun p e below s _ _ _ T4 (mkF m 99 #[.val (.long p1), .second, .val (.int p2), .val (.int p3), .val (.long v1), .second, .val (.int v2), .val (.int v3), .val (.long y4), .second, .val (.long v5), .second, .val (.int (1 : Int32)), .val (.int (1 : Int32)), .unset, .unset, .unset, .unset, .unset, .unset, .unset] [(.int (1 : Int32))])
  refine own_by (fun t k => XS.istore X4.here hx rfl (hb hby at_99) rfl (l' := #[.val (.long p1), .second, .val (.int p2), .val (.int p3), .val (.long v1), .second, .val (.int v2), .val (.int v3), .val (.long y4), .second, .val (.long v5), .second, .val (.int (1 : Int32)), .val (.int (1 : Int32)), .val (.int (1 : Int32)), .unset, .unset, .unset, .unset, .unset, .unset]) rfl k) ?_
  show ORun p e below s _ _ _ T4 (mkF m 101 #[.val (.long p1), .second, .val (.int p2), .val (.int p3), .val (.long v1), .second, .val (.int v2), .val (.int v3), .val (.long y4), .second, .val (.long v5), .second, .val (.int (1 : Int32)), .val (.int (1 : Int32)), .val (.int (1 : Int32)), .unset, .unset, .unset, .unset, .unset, .unset] [])
  refine own_by (fun t k => XS.lload X4.here hx rfl (hb hby at_101) rfl k) ?_
  show ORun p e below s _ _ _ T4 (mkF m 103 #[.val (.long p1), .second, .val (.int p2), .val (.int p3), .val (.long v1), .second, .val (.int v2), .val (.int v3), .val (.long y4), .second, .val (.long v5), .second, .val (.int (1 : Int32)), .val (.int (1 : Int32)), .val (.int (1 : Int32)), .unset, .unset, .unset, .unset, .unset, .unset] [(.long y4)])
  refine own_by (fun t k => XS.lload X4.here hx rfl (hb hby at_103) rfl k) ?_
  show ORun p e below s _ _ _ T4 (mkF m 105 #[.val (.long p1), .second, .val (.int p2), .val (.int p3), .val (.long v1), .second, .val (.int v2), .val (.int v3), .val (.long y4), .second, .val (.long v5), .second, .val (.int (1 : Int32)), .val (.int (1 : Int32)), .val (.int (1 : Int32)), .unset, .unset, .unset, .unset, .unset, .unset] [(.long v1), (.long y4)])
  refine own_by (fun t k => XS.lcmp X4.here hx rfl (hb hby at_105) rfl k) ?_
  show ORun p e below s _ _ _ T4 (mkF m 106 #[.val (.long p1), .second, .val (.int p2), .val (.int p3), .val (.long v1), .second, .val (.int v2), .val (.int v3), .val (.long y4), .second, .val (.long v5), .second, .val (.int (1 : Int32)), .val (.int (1 : Int32)), .val (.int (1 : Int32)), .unset, .unset, .unset, .unset, .unset, .unset] [(.int (lcmpW y4 v1))])
  refine own_by (fun t k => XS.ifNo X4.here hx rfl (hb hby at_106) rfl (own_lcnlt (fun q => absurd (Int64.lt_iff_toInt_lt.mp q) (by show ¬ y4.toInt < v1.toInt; omega))).1 k) ?_
  show ORun p e below s _ _ _ T4 (mkF m 109 #[.val (.long p1), .second, .val (.int p2), .val (.int p3), .val (.long v1), .second, .val (.int v2), .val (.int v3), .val (.long y4), .second, .val (.long v5), .second, .val (.int (1 : Int32)), .val (.int (1 : Int32)), .val (.int (1 : Int32)), .unset, .unset, .unset, .unset, .unset, .unset] [])
  refine own_by (fun t k => XS.iconst X4.here hx rfl (hb hby at_109) k) ?_
  show ORun p e below s _ _ _ T4 (mkF m 110 #[.val (.long p1), .second, .val (.int p2), .val (.int p3), .val (.long v1), .second, .val (.int v2), .val (.int v3), .val (.long y4), .second, .val (.long v5), .second, .val (.int (1 : Int32)), .val (.int (1 : Int32)), .val (.int (1 : Int32)), .unset, .unset, .unset, .unset, .unset, .unset] [(.int (1 : Int32))])
  refine own_by (fun t k => XS.goto X4.here hx rfl (pc0 := 110) (pc' := 114) rfl (hb hby at_110) (by decide) (by decide) k) ?_
  show ORun p e below s _ _ _ T4 (mkF m 114 #[.val (.long p1), .second, .val (.int p2), .val (.int p3), .val (.long v1), .second, .val (.int v2), .val (.int v3), .val (.long y4), .second, .val (.long v5), .second, .val (.int (1 : Int32)), .val (.int (1 : Int32)), .val (.int (1 : Int32)), .unset, .unset, .unset, .unset, .unset, .unset] [(.int (1 : Int32))])
  refine own_by (fun t k => XS.istore X4.here hx rfl (hb hby at_114) rfl (l' := #[.val (.long p1), .second, .val (.int p2), .val (.int p3), .val (.long v1), .second, .val (.int v2), .val (.int v3), .val (.long y4), .second, .val (.long v5), .second, .val (.int (1 : Int32)), .val (.int (1 : Int32)), .val (.int (1 : Int32)), .val (.int (1 : Int32)), .unset, .unset, .unset, .unset, .unset]) rfl k) ?_
  show ORun p e below s _ _ _ T4 (mkF m 116 #[.val (.long p1), .second, .val (.int p2), .val (.int p3), .val (.long v1), .second, .val (.int v2), .val (.int v3), .val (.long y4), .second, .val (.long v5), .second, .val (.int (1 : Int32)), .val (.int (1 : Int32)), .val (.int (1 : Int32)), .val (.int (1 : Int32)), .unset, .unset, .unset, .unset, .unset] [])
  refine own_by (fun t k => XS.iload X4.here hx rfl (hb hby at_116) rfl k) ?_
  show ORun p e below s _ _ _ T4 (mkF m 118 #[.val (.long p1), .second, .val (.int p2), .val (.int p3), .val (.long v1), .second, .val (.int v2), .val (.int v3), .val (.long y4), .second, .val (.long v5), .second, .val (.int (1 : Int32)), .val (.int (1 : Int32)), .val (.int (1 : Int32)), .val (.int (1 : Int32)), .unset, .unset, .unset, .unset, .unset] [(.int (1 : Int32))])
  refine own_by (fun t k => XS.ifNo X4.here hx rfl (hb hby at_118) rfl ((if0 _ _).trans (feq (by decide)).1) k) ?_
  show ORun p e below s _ _ _ T4 (mkF m 121 #[.val (.long p1), .second, .val (.int p2), .val (.int p3), .val (.long v1), .second, .val (.int v2), .val (.int v3), .val (.long y4), .second, .val (.long v5), .second, .val (.int (1 : Int32)), .val (.int (1 : Int32)), .val (.int (1 : Int32)), .val (.int (1 : Int32)), .unset, .unset, .unset, .unset, .unset] [])
  refine own_by (fun t k => XS.iload X4.here hx rfl (hb hby at_121) rfl k) ?_
  show ORun p e below s _ _ _ T4 (mkF m 123 #[.val (.long p1), .second, .val (.int p2), .val (.int p3), .val (.long v1), .second, .val (.int v2), .val (.int v3), .val (.long y4), .second, .val (.long v5), .second, .val (.int (1 : Int32)), .val (.int (1 : Int32)), .val (.int (1 : Int32)), .val (.int (1 : Int32)), .unset, .unset, .unset, .unset, .unset] [(.int (1 : Int32))])
  refine own_by (fun t k => XS.ifNo X4.here hx rfl (hb hby at_123) rfl ((if0 _ _).trans (feq (by decide)).1) k) ?_
  show ORun p e below s _ _ _ T4 (mkF m 126 #[.val (.long p1), .second, .val (.int p2), .val (.int p3), .val (.long v1), .second, .val (.int v2), .val (.int v3), .val (.long y4), .second, .val (.long v5), .second, .val (.int (1 : Int32)), .val (.int (1 : Int32)), .val (.int (1 : Int32)), .val (.int (1 : Int32)), .unset, .unset, .unset, .unset, .unset] [])
  refine own_by (fun t k => XS.iload X4.here hx rfl (hb hby at_126) rfl k) ?_
  show ORun p e below s _ _ _ T4 (mkF m 128 #[.val (.long p1), .second, .val (.int p2), .val (.int p3), .val (.long v1), .second, .val (.int v2), .val (.int v3), .val (.long y4), .second, .val (.long v5), .second, .val (.int (1 : Int32)), .val (.int (1 : Int32)), .val (.int (1 : Int32)), .val (.int (1 : Int32)), .unset, .unset, .unset, .unset, .unset] [(.int (1 : Int32))])
  refine own_by (fun t k => XS.ifNo X4.here hx rfl (hb hby at_128) rfl ((if0 _ _).trans (feq (by decide)).1) k) ?_
  show ORun p e below s _ _ _ T4 (mkF m 131 #[.val (.long p1), .second, .val (.int p2), .val (.int p3), .val (.long v1), .second, .val (.int v2), .val (.int v3), .val (.long y4), .second, .val (.long v5), .second, .val (.int (1 : Int32)), .val (.int (1 : Int32)), .val (.int (1 : Int32)), .val (.int (1 : Int32)), .unset, .unset, .unset, .unset, .unset] [])
  refine own_by (fun t k => XS.iload X4.here hx rfl (hb hby at_131) rfl k) ?_
  show ORun p e below s _ _ _ T4 (mkF m 133 #[.val (.long p1), .second, .val (.int p2), .val (.int p3), .val (.long v1), .second, .val (.int v2), .val (.int v3), .val (.long y4), .second, .val (.long v5), .second, .val (.int (1 : Int32)), .val (.int (1 : Int32)), .val (.int (1 : Int32)), .val (.int (1 : Int32)), .unset, .unset, .unset, .unset, .unset] [(.int (1 : Int32))])
  refine own_by (fun t k => XS.ifNo X4.here hx rfl (hb hby at_133) rfl ((if0 _ _).trans (feq (by decide)).1) k) ?_
  show ORun p e below s _ _ _ T4 (mkF m 136 #[.val (.long p1), .second, .val (.int p2), .val (.int p3), .val (.long v1), .second, .val (.int v2), .val (.int v3), .val (.long y4), .second, .val (.long v5), .second, .val (.int (1 : Int32)), .val (.int (1 : Int32)), .val (.int (1 : Int32)), .val (.int (1 : Int32)), .unset, .unset, .unset, .unset, .unset] [])
  refine own_by (fun t k => XS.iconst X4.here hx rfl (hb hby at_136) k) ?_
  show ORun p e below s _ _ _ T4 (mkF m 137 #[.val (.long p1), .second, .val (.int p2), .val (.int p3), .val (.long v1), .second, .val (.int v2), .val (.int v3), .val (.long y4), .second, .val (.long v5), .second, .val (.int (1 : Int32)), .val (.int (1 : Int32)), .val (.int (1 : Int32)), .val (.int (1 : Int32)), .unset, .unset, .unset, .unset, .unset] [(.int (1 : Int32))])
  refine own_by (fun t k => XS.goto X4.here hx rfl (pc0 := 137) (pc' := 141) rfl (hb hby at_137) (by decide) (by decide) k) ?_
  show ORun p e below s _ _ _ T4 (mkF m 141 #[.val (.long p1), .second, .val (.int p2), .val (.int p3), .val (.long v1), .second, .val (.int v2), .val (.int v3), .val (.long y4), .second, .val (.long v5), .second, .val (.int (1 : Int32)), .val (.int (1 : Int32)), .val (.int (1 : Int32)), .val (.int (1 : Int32)), .unset, .unset, .unset, .unset, .unset] [(.int (1 : Int32))])
  refine own_by (fun t k => XS.istore X4.here hx rfl (hb hby at_141) rfl (l' := #[.val (.long p1), .second, .val (.int p2), .val (.int p3), .val (.long v1), .second, .val (.int v2), .val (.int v3), .val (.long y4), .second, .val (.long v5), .second, .val (.int (1 : Int32)), .val (.int (1 : Int32)), .val (.int (1 : Int32)), .val (.int (1 : Int32)), .val (.int (1 : Int32)), .unset, .unset, .unset, .unset]) rfl k) ?_
  show ORun p e below s _ _ _ T4 (mkF m 143 #[.val (.long p1), .second, .val (.int p2), .val (.int p3), .val (.long v1), .second, .val (.int v2), .val (.int v3), .val (.long y4), .second, .val (.long v5), .second, .val (.int (1 : Int32)), .val (.int (1 : Int32)), .val (.int (1 : Int32)), .val (.int (1 : Int32)), .val (.int (1 : Int32)), .unset, .unset, .unset, .unset] [])
  refine own_by (fun t k => XS.lload X4.here hx rfl (hb hby at_143) rfl k) ?_
  show ORun p e below s _ _ _ T4 (mkF m 145 #[.val (.long p1), .second, .val (.int p2), .val (.int p3), .val (.long v1), .second, .val (.int v2), .val (.int v3), .val (.long y4), .second, .val (.long v5), .second, .val (.int (1 : Int32)), .val (.int (1 : Int32)), .val (.int (1 : Int32)), .val (.int (1 : Int32)), .val (.int (1 : Int32)), .unset, .unset, .unset, .unset] [(.long y4)])
  refine own_by (fun t k => X4.ldc2Long hx hown (mvT hZ (hw _ (List.mem_of_getElem? (i := 9) rfl))) (g := (mkF m 145 #[.val (.long p1), .second, .val (.int p2), .val (.int p3), .val (.long v1), .second, .val (.int v2), .val (.int v3), .val (.long y4), .second, .val (.long v5), .second, .val (.int (1 : Int32)), .val (.int (1 : Int32)), .val (.int (1 : Int32)), .val (.int (1 : Int32)), .val (.int (1 : Int32)), .unset, .unset, .unset, .unset] [(.long y4)])) rfl (hb hby at_145) _ k) ?_
  show ORun p e below s _ _ _ T4 (mkF m 148 #[.val (.long p1), .second, .val (.int p2), .val (.int p3), .val (.long v1), .second, .val (.int v2), .val (.int v3), .val (.long y4), .second, .val (.long v5), .second, .val (.int (1 : Int32)), .val (.int (1 : Int32)), .val (.int (1 : Int32)), .val (.int (1 : Int32)), .val (.int (1 : Int32)), .unset, .unset, .unset, .unset] [(.long (16 : Int64)), (.long y4)])
  refine own_by (fun t k => XS.lsub X4.here hx rfl (hb hby at_148) rfl k) (own_letJ (f := (fun z => (mkF m 149 #[.val (.long p1), .second, .val (.int p2), .val (.int p3), .val (.long v1), .second, .val (.int v2), .val (.int v3), .val (.long y4), .second, .val (.long v5), .second, .val (.int (1 : Int32)), .val (.int (1 : Int32)), .val (.int (1 : Int32)), .val (.int (1 : Int32)), .val (.int (1 : Int32)), .unset, .unset, .unset, .unset] [(.long z)]))) (y4 - (16 : Int64)) fun v12 hv12 => ?_)
  show ORun p e below s _ _ _ T4 (mkF m 149 #[.val (.long p1), .second, .val (.int p2), .val (.int p3), .val (.long v1), .second, .val (.int v2), .val (.int v3), .val (.long y4), .second, .val (.long v5), .second, .val (.int (1 : Int32)), .val (.int (1 : Int32)), .val (.int (1 : Int32)), .val (.int (1 : Int32)), .val (.int (1 : Int32)), .unset, .unset, .unset, .unset] [(.long v12)])
  have r12 := rng64 v12
  have a12 : v12.toInt = y4.toInt - 16 := by
    have q : (v12.toInt - (y4.toInt - 16)) % 18446744073709551616 = 0 := by rw [hv12]; exact c_lsub y4 (16 : Int64)
    omega
  refine own_by (fun t k => XS.lload X4.here hx rfl (hb hby at_149) rfl k) ?_
  show ORun p e below s _ _ _ T4 (mkF m 151 #[.val (.long p1), .second, .val (.int p2), .val (.int p3), .val (.long v1), .second, .val (.int v2), .val (.int v3), .val (.long y4), .second, .val (.long v5), .second, .val (.int (1 : Int32)), .val (.int (1 : Int32)), .val (.int (1 : Int32)), .val (.int (1 : Int32)), .val (.int (1 : Int32)), .unset, .unset, .unset, .unset] [(.long v1), (.long v12)])
  refine own_by (fun t k => XS.lcmp X4.here hx rfl (hb hby at_151) rfl k) ?_
  show ORun p e below s _ _ _ T4 (mkF m 152 #[.val (.long p1), .second, .val (.int p2), .val (.int p3), .val (.long v1), .second, .val (.int v2), .val (.int v3), .val (.long y4), .second, .val (.long v5), .second, .val (.int (1 : Int32)), .val (.int (1 : Int32)), .val (.int (1 : Int32)), .val (.int (1 : Int32)), .val (.int (1 : Int32)), .unset, .unset, .unset, .unset] [(.int (lcmpW v12 v1))])
  by_cases hc13 : v12 < v1
  · have t13 := own_ltL hc13 (a := v12.toInt) (b := v1.toInt) rfl rfl
    refine own_by (fun t k => XS.ifNo X4.here hx rfl (hb hby at_152) rfl (own_lclt hc13).2 k) ?_
    show ORun p e below s _ _ _ T4 (mkF m 155 #[.val (.long p1), .second, .val (.int p2), .val (.int p3), .val (.long v1), .second, .val (.int v2), .val (.int v3), .val (.long y4), .second, .val (.long v5), .second, .val (.int (1 : Int32)), .val (.int (1 : Int32)), .val (.int (1 : Int32)), .val (.int (1 : Int32)), .val (.int (1 : Int32)), .unset, .unset, .unset, .unset] [])
    refine own_by (fun t k => XS.iconst X4.here hx rfl (hb hby at_155) k) ?_
    show ORun p e below s _ _ _ T4 (mkF m 156 #[.val (.long p1), .second, .val (.int p2), .val (.int p3), .val (.long v1), .second, .val (.int v2), .val (.int v3), .val (.long y4), .second, .val (.long v5), .second, .val (.int (1 : Int32)), .val (.int (1 : Int32)), .val (.int (1 : Int32)), .val (.int (1 : Int32)), .val (.int (1 : Int32)), .unset, .unset, .unset, .unset] [(.int (1 : Int32))])
    refine own_by (fun t k => XS.goto X4.here hx rfl (pc0 := 156) (pc' := 160) rfl (hb hby at_156) (by decide) (by decide) k) ?_
    show ORun p e below s _ _ _ T4 (mkF m 160 #[.val (.long p1), .second, .val (.int p2), .val (.int p3), .val (.long v1), .second, .val (.int v2), .val (.int v3), .val (.long y4), .second, .val (.long v5), .second, .val (.int (1 : Int32)), .val (.int (1 : Int32)), .val (.int (1 : Int32)), .val (.int (1 : Int32)), .val (.int (1 : Int32)), .unset, .unset, .unset, .unset] [(.int (1 : Int32))])
    refine own_by (fun t k => XS.istore X4.here hx rfl (hb hby at_160) rfl (l' := #[.val (.long p1), .second, .val (.int p2), .val (.int p3), .val (.long v1), .second, .val (.int v2), .val (.int v3), .val (.long y4), .second, .val (.long v5), .second, .val (.int (1 : Int32)), .val (.int (1 : Int32)), .val (.int (1 : Int32)), .val (.int (1 : Int32)), .val (.int (1 : Int32)), .val (.int (1 : Int32)), .unset, .unset, .unset]) rfl k) ?_
    show ORun p e below s _ _ _ T4 (mkF m 162 #[.val (.long p1), .second, .val (.int p2), .val (.int p3), .val (.long v1), .second, .val (.int v2), .val (.int v3), .val (.long y4), .second, .val (.long v5), .second, .val (.int (1 : Int32)), .val (.int (1 : Int32)), .val (.int (1 : Int32)), .val (.int (1 : Int32)), .val (.int (1 : Int32)), .val (.int (1 : Int32)), .unset, .unset, .unset] [])
    refine own_by (fun t k => XS.lload X4.here hx rfl (hb hby at_162) rfl k) ?_
    show ORun p e below s _ _ _ T4 (mkF m 164 #[.val (.long p1), .second, .val (.int p2), .val (.int p3), .val (.long v1), .second, .val (.int v2), .val (.int v3), .val (.long y4), .second, .val (.long v5), .second, .val (.int (1 : Int32)), .val (.int (1 : Int32)), .val (.int (1 : Int32)), .val (.int (1 : Int32)), .val (.int (1 : Int32)), .val (.int (1 : Int32)), .unset, .unset, .unset] [(.long y4)])
    refine own_by (fun t k => X4.ldc2Long hx hown (mvT hZ (hw _ (List.mem_of_getElem? (i := 8) rfl))) (g := (mkF m 164 #[.val (.long p1), .second, .val (.int p2), .val (.int p3), .val (.long v1), .second, .val (.int v2), .val (.int v3), .val (.long y4), .second, .val (.long v5), .second, .val (.int (1 : Int32)), .val (.int (1 : Int32)), .val (.int (1 : Int32)), .val (.int (1 : Int32)), .val (.int (1 : Int32)), .val (.int (1 : Int32)), .unset, .unset, .unset] [(.long y4)])) rfl (hb hby at_164) _ k) ?_
    show ORun p e below s _ _ _ T4 (mkF m 167 #[.val (.long p1), .second, .val (.int p2), .val (.int p3), .val (.long v1), .second, .val (.int v2), .val (.int v3), .val (.long y4), .second, .val (.long v5), .second, .val (.int (1 : Int32)), .val (.int (1 : Int32)), .val (.int (1 : Int32)), .val (.int (1 : Int32)), .val (.int (1 : Int32)), .val (.int (1 : Int32)), .unset, .unset, .unset] [(.long (65535 : Int64)), (.long y4)])
    refine own_by (fun t k => XS.land X4.here hx rfl (hb hby at_167) rfl k) (own_letJ (f := (fun z => (mkF m 168 #[.val (.long p1), .second, .val (.int p2), .val (.int p3), .val (.long v1), .second, .val (.int v2), .val (.int v3), .val (.long y4), .second, .val (.long v5), .second, .val (.int (1 : Int32)), .val (.int (1 : Int32)), .val (.int (1 : Int32)), .val (.int (1 : Int32)), .val (.int (1 : Int32)), .val (.int (1 : Int32)), .unset, .unset, .unset] [(.long z)]))) (y4 &&& (65535 : Int64)) fun v14 hv14 => ?_)
    show ORun p e below s _ _ _ T4 (mkF m 168 #[.val (.long p1), .second, .val (.int p2), .val (.int p3), .val (.long v1), .second, .val (.int v2), .val (.int v3), .val (.long y4), .second, .val (.long v5), .second, .val (.int (1 : Int32)), .val (.int (1 : Int32)), .val (.int (1 : Int32)), .val (.int (1 : Int32)), .val (.int (1 : Int32)), .val (.int (1 : Int32)), .unset, .unset, .unset] [(.long v14)])
    have a14a : v14.toInt = y4.toInt % 65536 := by rw [hv14]; exact c_maskL y4 (65535 : Int64) 16 (by decide) (by decide)
    have r14 := rng64 v14
    refine own_by (fun t k => XS.iload X4.here hx rfl (hb hby at_168) rfl k) ?_
    show ORun p e below s _ _ _ T4 (mkF m 170 #[.val (.long p1), .second, .val (.int p2), .val (.int p3), .val (.long v1), .second, .val (.int v2), .val (.int v3), .val (.long y4), .second, .val (.long v5), .second, .val (.int (1 : Int32)), .val (.int (1 : Int32)), .val (.int (1 : Int32)), .val (.int (1 : Int32)), .val (.int (1 : Int32)), .val (.int (1 : Int32)), .unset, .unset, .unset] [(.int v3), (.long v14)])
    refine own_by (fun t k => XS.i2l X4.here hx rfl (hb hby at_170) rfl k) (own_letJ (f := (fun z => (mkF m 171 #[.val (.long p1), .second, .val (.int p2), .val (.int p3), .val (.long v1), .second, .val (.int v2), .val (.int v3), .val (.long y4), .second, .val (.long v5), .second, .val (.int (1 : Int32)), .val (.int (1 : Int32)), .val (.int (1 : Int32)), .val (.int (1 : Int32)), .val (.int (1 : Int32)), .val (.int (1 : Int32)), .unset, .unset, .unset] [(.long z), (.long v14)]))) (v3.toInt64) fun v15 hv15 => ?_)
    show ORun p e below s _ _ _ T4 (mkF m 171 #[.val (.long p1), .second, .val (.int p2), .val (.int p3), .val (.long v1), .second, .val (.int v2), .val (.int v3), .val (.long y4), .second, .val (.long v5), .second, .val (.int (1 : Int32)), .val (.int (1 : Int32)), .val (.int (1 : Int32)), .val (.int (1 : Int32)), .val (.int (1 : Int32)), .val (.int (1 : Int32)), .unset, .unset, .unset] [(.long v15), (.long v14)])
    have a15a : v15.toInt = v3.toInt := by rw [hv15]; exact c_i2l v3
    have r15 := rng64 v15
    refine own_by (fun t k => XS.lcmp X4.here hx rfl (hb hby at_171) rfl k) ?_
    show ORun p e below s _ _ _ T4 (mkF m 172 #[.val (.long p1), .second, .val (.int p2), .val (.int p3), .val (.long v1), .second, .val (.int v2), .val (.int v3), .val (.long y4), .second, .val (.long v5), .second, .val (.int (1 : Int32)), .val (.int (1 : Int32)), .val (.int (1 : Int32)), .val (.int (1 : Int32)), .val (.int (1 : Int32)), .val (.int (1 : Int32)), .unset, .unset, .unset] [(.int (lcmpW v14 v15))])
    by_cases hc16 : v14 = v15
    · have t16 := own_eqL hc16 (a := v14.toInt) (b := v15.toInt) rfl rfl
      refine own_by (fun t k => XS.ifNo X4.here hx rfl (hb hby at_172) rfl (own_lceq hc16).2 k) ?_
      show ORun p e below s _ _ _ T4 (mkF m 175 #[.val (.long p1), .second, .val (.int p2), .val (.int p3), .val (.long v1), .second, .val (.int v2), .val (.int v3), .val (.long y4), .second, .val (.long v5), .second, .val (.int (1 : Int32)), .val (.int (1 : Int32)), .val (.int (1 : Int32)), .val (.int (1 : Int32)), .val (.int (1 : Int32)), .val (.int (1 : Int32)), .unset, .unset, .unset] [])
      refine own_by (fun t k => XS.iconst X4.here hx rfl (hb hby at_175) k) ?_
      show ORun p e below s _ _ _ T4 (mkF m 176 #[.val (.long p1), .second, .val (.int p2), .val (.int p3), .val (.long v1), .second, .val (.int v2), .val (.int v3), .val (.long y4), .second, .val (.long v5), .second, .val (.int (1 : Int32)), .val (.int (1 : Int32)), .val (.int (1 : Int32)), .val (.int (1 : Int32)), .val (.int (1 : Int32)), .val (.int (1 : Int32)), .unset, .unset, .unset] [(.int (1 : Int32))])
      refine own_by (fun t k => XS.goto X4.here hx rfl (pc0 := 176) (pc' := 180) rfl (hb hby at_176) (by decide) (by decide) k) ?_
      show ORun p e below s _ _ _ T4 (mkF m 180 #[.val (.long p1), .second, .val (.int p2), .val (.int p3), .val (.long v1), .second, .val (.int v2), .val (.int v3), .val (.long y4), .second, .val (.long v5), .second, .val (.int (1 : Int32)), .val (.int (1 : Int32)), .val (.int (1 : Int32)), .val (.int (1 : Int32)), .val (.int (1 : Int32)), .val (.int (1 : Int32)), .unset, .unset, .unset] [(.int (1 : Int32))])
      refine own_by (fun t k => XS.istore X4.here hx rfl (hb hby at_180) rfl (l' := #[.val (.long p1), .second, .val (.int p2), .val (.int p3), .val (.long v1), .second, .val (.int v2), .val (.int v3), .val (.long y4), .second, .val (.long v5), .second, .val (.int (1 : Int32)), .val (.int (1 : Int32)), .val (.int (1 : Int32)), .val (.int (1 : Int32)), .val (.int (1 : Int32)), .val (.int (1 : Int32)), .val (.int (1 : Int32)), .unset, .unset]) rfl k) ?_
      show ORun p e below s _ _ _ T4 (mkF m 182 #[.val (.long p1), .second, .val (.int p2), .val (.int p3), .val (.long v1), .second, .val (.int v2), .val (.int v3), .val (.long y4), .second, .val (.long v5), .second, .val (.int (1 : Int32)), .val (.int (1 : Int32)), .val (.int (1 : Int32)), .val (.int (1 : Int32)), .val (.int (1 : Int32)), .val (.int (1 : Int32)), .val (.int (1 : Int32)), .unset, .unset] [])
      refine own_by (fun t k => XS.lload X4.here hx rfl (hb hby at_182) rfl k) ?_
      show ORun p e below s _ _ _ T4 (mkF m 184 #[.val (.long p1), .second, .val (.int p2), .val (.int p3), .val (.long v1), .second, .val (.int v2), .val (.int v3), .val (.long y4), .second, .val (.long v5), .second, .val (.int (1 : Int32)), .val (.int (1 : Int32)), .val (.int (1 : Int32)), .val (.int (1 : Int32)), .val (.int (1 : Int32)), .val (.int (1 : Int32)), .val (.int (1 : Int32)), .unset, .unset] [(.long v5)])
      refine own_by (fun t k => X4.ldc2Long hx hown (mvT hZ (hw _ (List.mem_of_getElem? (i := 9) rfl))) (g := (mkF m 184 #[.val (.long p1), .second, .val (.int p2), .val (.int p3), .val (.long v1), .second, .val (.int v2), .val (.int v3), .val (.long y4), .second, .val (.long v5), .second, .val (.int (1 : Int32)), .val (.int (1 : Int32)), .val (.int (1 : Int32)), .val (.int (1 : Int32)), .val (.int (1 : Int32)), .val (.int (1 : Int32)), .val (.int (1 : Int32)), .unset, .unset] [(.long v5)])) rfl (hb hby at_184) _ k) ?_
      show ORun p e below s _ _ _ T4 (mkF m 187 #[.val (.long p1), .second, .val (.int p2), .val (.int p3), .val (.long v1), .second, .val (.int v2), .val (.int v3), .val (.long y4), .second, .val (.long v5), .second, .val (.int (1 : Int32)), .val (.int (1 : Int32)), .val (.int (1 : Int32)), .val (.int (1 : Int32)), .val (.int (1 : Int32)), .val (.int (1 : Int32)), .val (.int (1 : Int32)), .unset, .unset] [(.long (16 : Int64)), (.long v5)])
      refine own_by (fun t k => XS.lcmp X4.here hx rfl (hb hby at_187) rfl k) ?_
      show ORun p e below s _ _ _ T4 (mkF m 188 #[.val (.long p1), .second, .val (.int p2), .val (.int p3), .val (.long v1), .second, .val (.int v2), .val (.int v3), .val (.long y4), .second, .val (.long v5), .second, .val (.int (1 : Int32)), .val (.int (1 : Int32)), .val (.int (1 : Int32)), .val (.int (1 : Int32)), .val (.int (1 : Int32)), .val (.int (1 : Int32)), .val (.int (1 : Int32)), .unset, .unset] [(.int (lcmpW v5 (16 : Int64)))])
      by_cases hc17 : v5 < (16 : Int64)
      · have t17 := own_ltL hc17 (a := v5.toInt) (b := 16) rfl (by decide)
        refine own_by (fun t k => XS.ifYes X4.here hx rfl (pc0 := 188) (pc' := 208) rfl (hb hby at_188) rfl (own_lclt hc17).1 (by decide) (by decide) k) ?_
        show ORun p e below s _ _ _ T4 (mkF m 208 #[.val (.long p1), .second, .val (.int p2), .val (.int p3), .val (.long v1), .second, .val (.int v2), .val (.int v3), .val (.long y4), .second, .val (.long v5), .second, .val (.int (1 : Int32)), .val (.int (1 : Int32)), .val (.int (1 : Int32)), .val (.int (1 : Int32)), .val (.int (1 : Int32)), .val (.int (1 : Int32)), .val (.int (1 : Int32)), .unset, .unset] [])
        refine own_by (fun t k => XS.iconst X4.here hx rfl (hb hby at_208) k) ?_
        show ORun p e below s _ _ _ T4 (mkF m 209 #[.val (.long p1), .second, .val (.int p2), .val (.int p3), .val (.long v1), .second, .val (.int v2), .val (.int v3), .val (.long y4), .second, .val (.long v5), .second, .val (.int (1 : Int32)), .val (.int (1 : Int32)), .val (.int (1 : Int32)), .val (.int (1 : Int32)), .val (.int (1 : Int32)), .val (.int (1 : Int32)), .val (.int (1 : Int32)), .unset, .unset] [(.int (1 : Int32))])
        refine own_by (fun t k => XS.goto X4.here hx rfl (pc0 := 209) (pc' := 213) rfl (hb hby at_209) (by decide) (by decide) k) ?_
        show ORun p e below s _ _ _ T4 (mkF m 213 #[.val (.long p1), .second, .val (.int p2), .val (.int p3), .val (.long v1), .second, .val (.int v2), .val (.int v3), .val (.long y4), .second, .val (.long v5), .second, .val (.int (1 : Int32)), .val (.int (1 : Int32)), .val (.int (1 : Int32)), .val (.int (1 : Int32)), .val (.int (1 : Int32)), .val (.int (1 : Int32)), .val (.int (1 : Int32)), .unset, .unset] [(.int (1 : Int32))])
        refine own_by (fun t k => XS.istore X4.here hx rfl (hb hby at_213) rfl (l' := #[.val (.long p1), .second, .val (.int p2), .val (.int p3), .val (.long v1), .second, .val (.int v2), .val (.int v3), .val (.long y4), .second, .val (.long v5), .second, .val (.int (1 : Int32)), .val (.int (1 : Int32)), .val (.int (1 : Int32)), .val (.int (1 : Int32)), .val (.int (1 : Int32)), .val (.int (1 : Int32)), .val (.int (1 : Int32)), .val (.int (1 : Int32)), .unset]) rfl k) ?_
        show ORun p e below s _ _ _ T4 (mkF m 215 #[.val (.long p1), .second, .val (.int p2), .val (.int p3), .val (.long v1), .second, .val (.int v2), .val (.int v3), .val (.long y4), .second, .val (.long v5), .second, .val (.int (1 : Int32)), .val (.int (1 : Int32)), .val (.int (1 : Int32)), .val (.int (1 : Int32)), .val (.int (1 : Int32)), .val (.int (1 : Int32)), .val (.int (1 : Int32)), .val (.int (1 : Int32)), .unset] [])
        refine own_by (fun t k => XS.iload X4.here hx rfl (hb hby at_215) rfl k) ?_
        show ORun p e below s _ _ _ T4 (mkF m 217 #[.val (.long p1), .second, .val (.int p2), .val (.int p3), .val (.long v1), .second, .val (.int v2), .val (.int v3), .val (.long y4), .second, .val (.long v5), .second, .val (.int (1 : Int32)), .val (.int (1 : Int32)), .val (.int (1 : Int32)), .val (.int (1 : Int32)), .val (.int (1 : Int32)), .val (.int (1 : Int32)), .val (.int (1 : Int32)), .val (.int (1 : Int32)), .unset] [(.int (1 : Int32))])
        refine own_by (fun t k => XS.ifYes X4.here hx rfl (pc0 := 217) (pc' := 230) rfl (hb hby at_217) rfl ((if0 _ _).trans (feq (by decide)).2) (by decide) (by decide) k) ?_
        show ORun p e below s _ _ _ T4 (mkF m 230 #[.val (.long p1), .second, .val (.int p2), .val (.int p3), .val (.long v1), .second, .val (.int v2), .val (.int v3), .val (.long y4), .second, .val (.long v5), .second, .val (.int (1 : Int32)), .val (.int (1 : Int32)), .val (.int (1 : Int32)), .val (.int (1 : Int32)), .val (.int (1 : Int32)), .val (.int (1 : Int32)), .val (.int (1 : Int32)), .val (.int (1 : Int32)), .unset] [])
        refine own_by (fun t k => XS.iconst X4.here hx rfl (hb hby at_230) k) ?_
        show ORun p e below s _ _ _ T4 (mkF m 231 #[.val (.long p1), .second, .val (.int p2), .val (.int p3), .val (.long v1), .second, .val (.int v2), .val (.int v3), .val (.long y4), .second, .val (.long v5), .second, .val (.int (1 : Int32)), .val (.int (1 : Int32)), .val (.int (1 : Int32)), .val (.int (1 : Int32)), .val (.int (1 : Int32)), .val (.int (1 : Int32)), .val (.int (1 : Int32)), .val (.int (1 : Int32)), .unset] [(.int (1 : Int32))])
        refine own_by (fun t k => XS.goto X4.here hx rfl (pc0 := 231) (pc' := 235) rfl (hb hby at_231) (by decide) (by decide) k) ?_
        show ORun p e below s _ _ _ T4 (mkF m 235 #[.val (.long p1), .second, .val (.int p2), .val (.int p3), .val (.long v1), .second, .val (.int v2), .val (.int v3), .val (.long y4), .second, .val (.long v5), .second, .val (.int (1 : Int32)), .val (.int (1 : Int32)), .val (.int (1 : Int32)), .val (.int (1 : Int32)), .val (.int (1 : Int32)), .val (.int (1 : Int32)), .val (.int (1 : Int32)), .val (.int (1 : Int32)), .unset] [(.int (1 : Int32))])
        refine own_by (fun t k => XS.istore X4.here hx rfl (hb hby at_235) rfl (l' := #[.val (.long p1), .second, .val (.int p2), .val (.int p3), .val (.long v1), .second, .val (.int v2), .val (.int v3), .val (.long y4), .second, .val (.long v5), .second, .val (.int (1 : Int32)), .val (.int (1 : Int32)), .val (.int (1 : Int32)), .val (.int (1 : Int32)), .val (.int (1 : Int32)), .val (.int (1 : Int32)), .val (.int (1 : Int32)), .val (.int (1 : Int32)), .val (.int (1 : Int32))]) rfl k) ?_
        show ORun p e below s _ _ _ T4 (mkF m 237 #[.val (.long p1), .second, .val (.int p2), .val (.int p3), .val (.long v1), .second, .val (.int v2), .val (.int v3), .val (.long y4), .second, .val (.long v5), .second, .val (.int (1 : Int32)), .val (.int (1 : Int32)), .val (.int (1 : Int32)), .val (.int (1 : Int32)), .val (.int (1 : Int32)), .val (.int (1 : Int32)), .val (.int (1 : Int32)), .val (.int (1 : Int32)), .val (.int (1 : Int32))] [])
        refine own_by (fun t k => XS.iload X4.here hx rfl (hb hby at_237) rfl k) ?_
        show ORun p e below s _ _ _ T4 (mkF m 239 #[.val (.long p1), .second, .val (.int p2), .val (.int p3), .val (.long v1), .second, .val (.int v2), .val (.int v3), .val (.long y4), .second, .val (.long v5), .second, .val (.int (1 : Int32)), .val (.int (1 : Int32)), .val (.int (1 : Int32)), .val (.int (1 : Int32)), .val (.int (1 : Int32)), .val (.int (1 : Int32)), .val (.int (1 : Int32)), .val (.int (1 : Int32)), .val (.int (1 : Int32))] [(.int (1 : Int32))])
        refine own_by (fun t k => XS.ifNo X4.here hx rfl (hb hby at_239) rfl ((if0 _ _).trans (feq (by decide)).1) k) ?_
        show ORun p e below s _ _ _ T4 (mkF m 242 #[.val (.long p1), .second, .val (.int p2), .val (.int p3), .val (.long v1), .second, .val (.int v2), .val (.int v3), .val (.long y4), .second, .val (.long v5), .second, .val (.int (1 : Int32)), .val (.int (1 : Int32)), .val (.int (1 : Int32)), .val (.int (1 : Int32)), .val (.int (1 : Int32)), .val (.int (1 : Int32)), .val (.int (1 : Int32)), .val (.int (1 : Int32)), .val (.int (1 : Int32))] [])
        refine own_by (fun t k => XS.iload X4.here hx rfl (hb hby at_242) rfl k) ?_
        show ORun p e below s _ _ _ T4 (mkF m 244 #[.val (.long p1), .second, .val (.int p2), .val (.int p3), .val (.long v1), .second, .val (.int v2), .val (.int v3), .val (.long y4), .second, .val (.long v5), .second, .val (.int (1 : Int32)), .val (.int (1 : Int32)), .val (.int (1 : Int32)), .val (.int (1 : Int32)), .val (.int (1 : Int32)), .val (.int (1 : Int32)), .val (.int (1 : Int32)), .val (.int (1 : Int32)), .val (.int (1 : Int32))] [(.int (1 : Int32))])
        refine own_by (fun t k => XS.ifNo X4.here hx rfl (hb hby at_244) rfl ((if0 _ _).trans (feq (by decide)).1) k) ?_
        show ORun p e below s _ _ _ T4 (mkF m 247 #[.val (.long p1), .second, .val (.int p2), .val (.int p3), .val (.long v1), .second, .val (.int v2), .val (.int v3), .val (.long y4), .second, .val (.long v5), .second, .val (.int (1 : Int32)), .val (.int (1 : Int32)), .val (.int (1 : Int32)), .val (.int (1 : Int32)), .val (.int (1 : Int32)), .val (.int (1 : Int32)), .val (.int (1 : Int32)), .val (.int (1 : Int32)), .val (.int (1 : Int32))] [])
        refine own_by (fun t k => XS.iconst X4.here hx rfl (hb hby at_247) k) ?_
        show ORun p e below s _ _ _ T4 (mkF m 248 #[.val (.long p1), .second, .val (.int p2), .val (.int p3), .val (.long v1), .second, .val (.int v2), .val (.int v3), .val (.long y4), .second, .val (.long v5), .second, .val (.int (1 : Int32)), .val (.int (1 : Int32)), .val (.int (1 : Int32)), .val (.int (1 : Int32)), .val (.int (1 : Int32)), .val (.int (1 : Int32)), .val (.int (1 : Int32)), .val (.int (1 : Int32)), .val (.int (1 : Int32))] [(.int (1 : Int32))])
        refine own_by (fun t k => XS.goto X4.here hx rfl (pc0 := 248) (pc' := 252) rfl (hb hby at_248) (by decide) (by decide) k) ?_
        show ORun p e below s _ _ _ T4 (mkF m 252 #[.val (.long p1), .second, .val (.int p2), .val (.int p3), .val (.long v1), .second, .val (.int v2), .val (.int v3), .val (.long y4), .second, .val (.long v5), .second, .val (.int (1 : Int32)), .val (.int (1 : Int32)), .val (.int (1 : Int32)), .val (.int (1 : Int32)), .val (.int (1 : Int32)), .val (.int (1 : Int32)), .val (.int (1 : Int32)), .val (.int (1 : Int32)), .val (.int (1 : Int32))] [(.int (1 : Int32))])
        refine own_retN X4 hx (t := .boolean) hret (by simp) hlk (hb hby at_252) (by decide) (by decide) ?_
        exact ⟨rfl, N4⟩
      · have t17 := own_nltL hc17 (a := v5.toInt) (b := 16) rfl (by decide)
        refine own_by (fun t k => XS.ifNo X4.here hx rfl (hb hby at_188) rfl (own_lcnlt hc17).1 k) ?_
        show ORun p e below s _ _ _ T4 (mkF m 191 #[.val (.long p1), .second, .val (.int p2), .val (.int p3), .val (.long v1), .second, .val (.int v2), .val (.int v3), .val (.long y4), .second, .val (.long v5), .second, .val (.int (1 : Int32)), .val (.int (1 : Int32)), .val (.int (1 : Int32)), .val (.int (1 : Int32)), .val (.int (1 : Int32)), .val (.int (1 : Int32)), .val (.int (1 : Int32)), .unset, .unset] [])
        refine own_by (fun t k => XS.lload X4.here hx rfl (hb hby at_191) rfl k) ?_
        show ORun p e below s _ _ _ T4 (mkF m 193 #[.val (.long p1), .second, .val (.int p2), .val (.int p3), .val (.long v1), .second, .val (.int v2), .val (.int v3), .val (.long y4), .second, .val (.long v5), .second, .val (.int (1 : Int32)), .val (.int (1 : Int32)), .val (.int (1 : Int32)), .val (.int (1 : Int32)), .val (.int (1 : Int32)), .val (.int (1 : Int32)), .val (.int (1 : Int32)), .unset, .unset] [(.long v5)])
        refine own_by (fun t k => X4.ldc2Long hx hown (mvT hZ (hw _ (List.mem_of_getElem? (i := 9) rfl))) (g := (mkF m 193 #[.val (.long p1), .second, .val (.int p2), .val (.int p3), .val (.long v1), .second, .val (.int v2), .val (.int v3), .val (.long y4), .second, .val (.long v5), .second, .val (.int (1 : Int32)), .val (.int (1 : Int32)), .val (.int (1 : Int32)), .val (.int (1 : Int32)), .val (.int (1 : Int32)), .val (.int (1 : Int32)), .val (.int (1 : Int32)), .unset, .unset] [(.long v5)])) rfl (hb hby at_193) _ k) ?_
        show ORun p e below s _ _ _ T4 (mkF m 196 #[.val (.long p1), .second, .val (.int p2), .val (.int p3), .val (.long v1), .second, .val (.int v2), .val (.int v3), .val (.long y4), .second, .val (.long v5), .second, .val (.int (1 : Int32)), .val (.int (1 : Int32)), .val (.int (1 : Int32)), .val (.int (1 : Int32)), .val (.int (1 : Int32)), .val (.int (1 : Int32)), .val (.int (1 : Int32)), .unset, .unset] [(.long (16 : Int64)), (.long v5)])
        refine own_by (fun t k => XS.lsub X4.here hx rfl (hb hby at_196) rfl k) (own_letJ (f := (fun z => (mkF m 197 #[.val (.long p1), .second, .val (.int p2), .val (.int p3), .val (.long v1), .second, .val (.int v2), .val (.int v3), .val (.long y4), .second, .val (.long v5), .second, .val (.int (1 : Int32)), .val (.int (1 : Int32)), .val (.int (1 : Int32)), .val (.int (1 : Int32)), .val (.int (1 : Int32)), .val (.int (1 : Int32)), .val (.int (1 : Int32)), .unset, .unset] [(.long z)]))) (v5 - (16 : Int64)) fun v18 hv18 => ?_)
        show ORun p e below s _ _ _ T4 (mkF m 197 #[.val (.long p1), .second, .val (.int p2), .val (.int p3), .val (.long v1), .second, .val (.int v2), .val (.int v3), .val (.long y4), .second, .val (.long v5), .second, .val (.int (1 : Int32)), .val (.int (1 : Int32)), .val (.int (1 : Int32)), .val (.int (1 : Int32)), .val (.int (1 : Int32)), .val (.int (1 : Int32)), .val (.int (1 : Int32)), .unset, .unset] [(.long v18)])
        have r18 := rng64 v18
        have a18 : v18.toInt = v5.toInt - 16 := by
          have q : (v18.toInt - (v5.toInt - 16)) % 18446744073709551616 = 0 := by rw [hv18]; exact c_lsub v5 (16 : Int64)
          omega
        refine own_by (fun t k => XS.iload X4.here hx rfl (hb hby at_197) rfl k) ?_
        show ORun p e below s _ _ _ T4 (mkF m 199 #[.val (.long p1), .second, .val (.int p2), .val (.int p3), .val (.long v1), .second, .val (.int v2), .val (.int v3), .val (.long y4), .second, .val (.long v5), .second, .val (.int (1 : Int32)), .val (.int (1 : Int32)), .val (.int (1 : Int32)), .val (.int (1 : Int32)), .val (.int (1 : Int32)), .val (.int (1 : Int32)), .val (.int (1 : Int32)), .unset, .unset] [(.int v3), (.long v18)])
        refine own_callS X4 hx hZ hown (hw _ (List.mem_of_getElem? (i := 10) rfl)) (hw _ (List.mem_of_getElem? (i := 11) rfl)) (hw _ (List.mem_of_getElem? (i := 12) rfl)) (hw _ (List.mem_of_getElem? (i := 13) rfl)) (by decide) (rm2 l Z a0 hw [] h0 n0 Z0 v18 v3 (by omega) (by omega)) e4 (by decide) (W := 0) (by decide) (by decide) (by decide) (argsL := [(.long v18), (.int v3)]) (rest := []) (by rw [hml]; rfl) (lenOf pd_1 rfl) rfl rfl (Nat.le_of_eq rfl) (hb hby at_199) ?_
        intro T19 L19 u19 X19 hQ19
        obtain ⟨y19, rfl, hy19, Nq19, e19⟩ := hQ19
        have N19 := Fr.app N4 Nq19
        show ORun p e below s _ _ _ T19 (mkF m 202 #[.val (.long p1), .second, .val (.int p2), .val (.int p3), .val (.long v1), .second, .val (.int v2), .val (.int v3), .val (.long y4), .second, .val (.long v5), .second, .val (.int (1 : Int32)), .val (.int (1 : Int32)), .val (.int (1 : Int32)), .val (.int (1 : Int32)), .val (.int (1 : Int32)), .val (.int (1 : Int32)), .val (.int (1 : Int32)), .unset, .unset] [(.long y19)])
        refine own_by (fun t k => XS.lload X19.here hx rfl (hb hby at_202) rfl k) ?_
        show ORun p e below s _ _ _ T19 (mkF m 204 #[.val (.long p1), .second, .val (.int p2), .val (.int p3), .val (.long v1), .second, .val (.int v2), .val (.int v3), .val (.long y4), .second, .val (.long v5), .second, .val (.int (1 : Int32)), .val (.int (1 : Int32)), .val (.int (1 : Int32)), .val (.int (1 : Int32)), .val (.int (1 : Int32)), .val (.int (1 : Int32)), .val (.int (1 : Int32)), .unset, .unset] [(.long v1), (.long y19)])
        refine own_by (fun t k => XS.lcmp X19.here hx rfl (hb hby at_204) rfl k) ?_
        show ORun p e below s _ _ _ T19 (mkF m 205 #[.val (.long p1), .second, .val (.int p2), .val (.int p3), .val (.long v1), .second, .val (.int v2), .val (.int v3), .val (.long y4), .second, .val (.long v5), .second, .val (.int (1 : Int32)), .val (.int (1 : Int32)), .val (.int (1 : Int32)), .val (.int (1 : Int32)), .val (.int (1 : Int32)), .val (.int (1 : Int32)), .val (.int (1 : Int32)), .unset, .unset] [(.int (lcmpW y19 v1))])
        by_cases hc20 : y19 < v1
        · have t20 := own_ltL hc20 (a := y19.toInt) (b := v1.toInt) rfl rfl
          refine own_by (fun t k => XS.ifNo X19.here hx rfl (hb hby at_205) rfl (own_lclt hc20).2 k) ?_
          show ORun p e below s _ _ _ T19 (mkF m 208 #[.val (.long p1), .second, .val (.int p2), .val (.int p3), .val (.long v1), .second, .val (.int v2), .val (.int v3), .val (.long y4), .second, .val (.long v5), .second, .val (.int (1 : Int32)), .val (.int (1 : Int32)), .val (.int (1 : Int32)), .val (.int (1 : Int32)), .val (.int (1 : Int32)), .val (.int (1 : Int32)), .val (.int (1 : Int32)), .unset, .unset] [])
          refine own_by (fun t k => XS.iconst X19.here hx rfl (hb hby at_208) k) ?_
          show ORun p e below s _ _ _ T19 (mkF m 209 #[.val (.long p1), .second, .val (.int p2), .val (.int p3), .val (.long v1), .second, .val (.int v2), .val (.int v3), .val (.long y4), .second, .val (.long v5), .second, .val (.int (1 : Int32)), .val (.int (1 : Int32)), .val (.int (1 : Int32)), .val (.int (1 : Int32)), .val (.int (1 : Int32)), .val (.int (1 : Int32)), .val (.int (1 : Int32)), .unset, .unset] [(.int (1 : Int32))])
          refine own_by (fun t k => XS.goto X19.here hx rfl (pc0 := 209) (pc' := 213) rfl (hb hby at_209) (by decide) (by decide) k) ?_
          show ORun p e below s _ _ _ T19 (mkF m 213 #[.val (.long p1), .second, .val (.int p2), .val (.int p3), .val (.long v1), .second, .val (.int v2), .val (.int v3), .val (.long y4), .second, .val (.long v5), .second, .val (.int (1 : Int32)), .val (.int (1 : Int32)), .val (.int (1 : Int32)), .val (.int (1 : Int32)), .val (.int (1 : Int32)), .val (.int (1 : Int32)), .val (.int (1 : Int32)), .unset, .unset] [(.int (1 : Int32))])
          refine own_by (fun t k => XS.istore X19.here hx rfl (hb hby at_213) rfl (l' := #[.val (.long p1), .second, .val (.int p2), .val (.int p3), .val (.long v1), .second, .val (.int v2), .val (.int v3), .val (.long y4), .second, .val (.long v5), .second, .val (.int (1 : Int32)), .val (.int (1 : Int32)), .val (.int (1 : Int32)), .val (.int (1 : Int32)), .val (.int (1 : Int32)), .val (.int (1 : Int32)), .val (.int (1 : Int32)), .val (.int (1 : Int32)), .unset]) rfl k) ?_
          show ORun p e below s _ _ _ T19 (mkF m 215 #[.val (.long p1), .second, .val (.int p2), .val (.int p3), .val (.long v1), .second, .val (.int v2), .val (.int v3), .val (.long y4), .second, .val (.long v5), .second, .val (.int (1 : Int32)), .val (.int (1 : Int32)), .val (.int (1 : Int32)), .val (.int (1 : Int32)), .val (.int (1 : Int32)), .val (.int (1 : Int32)), .val (.int (1 : Int32)), .val (.int (1 : Int32)), .unset] [])
          refine own_by (fun t k => XS.iload X19.here hx rfl (hb hby at_215) rfl k) ?_
          show ORun p e below s _ _ _ T19 (mkF m 217 #[.val (.long p1), .second, .val (.int p2), .val (.int p3), .val (.long v1), .second, .val (.int v2), .val (.int v3), .val (.long y4), .second, .val (.long v5), .second, .val (.int (1 : Int32)), .val (.int (1 : Int32)), .val (.int (1 : Int32)), .val (.int (1 : Int32)), .val (.int (1 : Int32)), .val (.int (1 : Int32)), .val (.int (1 : Int32)), .val (.int (1 : Int32)), .unset] [(.int (1 : Int32))])
          refine own_by (fun t k => XS.ifYes X19.here hx rfl (pc0 := 217) (pc' := 230) rfl (hb hby at_217) rfl ((if0 _ _).trans (feq (by decide)).2) (by decide) (by decide) k) ?_
          show ORun p e below s _ _ _ T19 (mkF m 230 #[.val (.long p1), .second, .val (.int p2), .val (.int p3), .val (.long v1), .second, .val (.int v2), .val (.int v3), .val (.long y4), .second, .val (.long v5), .second, .val (.int (1 : Int32)), .val (.int (1 : Int32)), .val (.int (1 : Int32)), .val (.int (1 : Int32)), .val (.int (1 : Int32)), .val (.int (1 : Int32)), .val (.int (1 : Int32)), .val (.int (1 : Int32)), .unset] [])
          refine own_by (fun t k => XS.iconst X19.here hx rfl (hb hby at_230) k) ?_
          show ORun p e below s _ _ _ T19 (mkF m 231 #[.val (.long p1), .second, .val (.int p2), .val (.int p3), .val (.long v1), .second, .val (.int v2), .val (.int v3), .val (.long y4), .second, .val (.long v5), .second, .val (.int (1 : Int32)), .val (.int (1 : Int32)), .val (.int (1 : Int32)), .val (.int (1 : Int32)), .val (.int (1 : Int32)), .val (.int (1 : Int32)), .val (.int (1 : Int32)), .val (.int (1 : Int32)), .unset] [(.int (1 : Int32))])
          refine own_by (fun t k => XS.goto X19.here hx rfl (pc0 := 231) (pc' := 235) rfl (hb hby at_231) (by decide) (by decide) k) ?_
          show ORun p e below s _ _ _ T19 (mkF m 235 #[.val (.long p1), .second, .val (.int p2), .val (.int p3), .val (.long v1), .second, .val (.int v2), .val (.int v3), .val (.long y4), .second, .val (.long v5), .second, .val (.int (1 : Int32)), .val (.int (1 : Int32)), .val (.int (1 : Int32)), .val (.int (1 : Int32)), .val (.int (1 : Int32)), .val (.int (1 : Int32)), .val (.int (1 : Int32)), .val (.int (1 : Int32)), .unset] [(.int (1 : Int32))])
          refine own_by (fun t k => XS.istore X19.here hx rfl (hb hby at_235) rfl (l' := #[.val (.long p1), .second, .val (.int p2), .val (.int p3), .val (.long v1), .second, .val (.int v2), .val (.int v3), .val (.long y4), .second, .val (.long v5), .second, .val (.int (1 : Int32)), .val (.int (1 : Int32)), .val (.int (1 : Int32)), .val (.int (1 : Int32)), .val (.int (1 : Int32)), .val (.int (1 : Int32)), .val (.int (1 : Int32)), .val (.int (1 : Int32)), .val (.int (1 : Int32))]) rfl k) ?_
          show ORun p e below s _ _ _ T19 (mkF m 237 #[.val (.long p1), .second, .val (.int p2), .val (.int p3), .val (.long v1), .second, .val (.int v2), .val (.int v3), .val (.long y4), .second, .val (.long v5), .second, .val (.int (1 : Int32)), .val (.int (1 : Int32)), .val (.int (1 : Int32)), .val (.int (1 : Int32)), .val (.int (1 : Int32)), .val (.int (1 : Int32)), .val (.int (1 : Int32)), .val (.int (1 : Int32)), .val (.int (1 : Int32))] [])
          refine own_by (fun t k => XS.iload X19.here hx rfl (hb hby at_237) rfl k) ?_
          show ORun p e below s _ _ _ T19 (mkF m 239 #[.val (.long p1), .second, .val (.int p2), .val (.int p3), .val (.long v1), .second, .val (.int v2), .val (.int v3), .val (.long y4), .second, .val (.long v5), .second, .val (.int (1 : Int32)), .val (.int (1 : Int32)), .val (.int (1 : Int32)), .val (.int (1 : Int32)), .val (.int (1 : Int32)), .val (.int (1 : Int32)), .val (.int (1 : Int32)), .val (.int (1 : Int32)), .val (.int (1 : Int32))] [(.int (1 : Int32))])
          refine own_by (fun t k => XS.ifNo X19.here hx rfl (hb hby at_239) rfl ((if0 _ _).trans (feq (by decide)).1) k) ?_
          show ORun p e below s _ _ _ T19 (mkF m 242 #[.val (.long p1), .second, .val (.int p2), .val (.int p3), .val (.long v1), .second, .val (.int v2), .val (.int v3), .val (.long y4), .second, .val (.long v5), .second, .val (.int (1 : Int32)), .val (.int (1 : Int32)), .val (.int (1 : Int32)), .val (.int (1 : Int32)), .val (.int (1 : Int32)), .val (.int (1 : Int32)), .val (.int (1 : Int32)), .val (.int (1 : Int32)), .val (.int (1 : Int32))] [])
          refine own_by (fun t k => XS.iload X19.here hx rfl (hb hby at_242) rfl k) ?_
          show ORun p e below s _ _ _ T19 (mkF m 244 #[.val (.long p1), .second, .val (.int p2), .val (.int p3), .val (.long v1), .second, .val (.int v2), .val (.int v3), .val (.long y4), .second, .val (.long v5), .second, .val (.int (1 : Int32)), .val (.int (1 : Int32)), .val (.int (1 : Int32)), .val (.int (1 : Int32)), .val (.int (1 : Int32)), .val (.int (1 : Int32)), .val (.int (1 : Int32)), .val (.int (1 : Int32)), .val (.int (1 : Int32))] [(.int (1 : Int32))])
          refine own_by (fun t k => XS.ifNo X19.here hx rfl (hb hby at_244) rfl ((if0 _ _).trans (feq (by decide)).1) k) ?_
          show ORun p e below s _ _ _ T19 (mkF m 247 #[.val (.long p1), .second, .val (.int p2), .val (.int p3), .val (.long v1), .second, .val (.int v2), .val (.int v3), .val (.long y4), .second, .val (.long v5), .second, .val (.int (1 : Int32)), .val (.int (1 : Int32)), .val (.int (1 : Int32)), .val (.int (1 : Int32)), .val (.int (1 : Int32)), .val (.int (1 : Int32)), .val (.int (1 : Int32)), .val (.int (1 : Int32)), .val (.int (1 : Int32))] [])
          refine own_by (fun t k => XS.iconst X19.here hx rfl (hb hby at_247) k) ?_
          show ORun p e below s _ _ _ T19 (mkF m 248 #[.val (.long p1), .second, .val (.int p2), .val (.int p3), .val (.long v1), .second, .val (.int v2), .val (.int v3), .val (.long y4), .second, .val (.long v5), .second, .val (.int (1 : Int32)), .val (.int (1 : Int32)), .val (.int (1 : Int32)), .val (.int (1 : Int32)), .val (.int (1 : Int32)), .val (.int (1 : Int32)), .val (.int (1 : Int32)), .val (.int (1 : Int32)), .val (.int (1 : Int32))] [(.int (1 : Int32))])
          refine own_by (fun t k => XS.goto X19.here hx rfl (pc0 := 248) (pc' := 252) rfl (hb hby at_248) (by decide) (by decide) k) ?_
          show ORun p e below s _ _ _ T19 (mkF m 252 #[.val (.long p1), .second, .val (.int p2), .val (.int p3), .val (.long v1), .second, .val (.int v2), .val (.int v3), .val (.long y4), .second, .val (.long v5), .second, .val (.int (1 : Int32)), .val (.int (1 : Int32)), .val (.int (1 : Int32)), .val (.int (1 : Int32)), .val (.int (1 : Int32)), .val (.int (1 : Int32)), .val (.int (1 : Int32)), .val (.int (1 : Int32)), .val (.int (1 : Int32))] [(.int (1 : Int32))])
          refine own_retN X19 hx (t := .boolean) hret (by simp) hlk (hb hby at_252) (by decide) (by decide) ?_
          exact ⟨rfl, N19⟩
        · have t20 := own_nltL hc20 (a := y19.toInt) (b := v1.toInt) rfl rfl
          refine own_by (fun t k => XS.ifYes X19.here hx rfl (pc0 := 205) (pc' := 212) rfl (hb hby at_205) rfl (own_lcnlt hc20).2 (by decide) (by decide) k) ?_
          show ORun p e below s _ _ _ T19 (mkF m 212 #[.val (.long p1), .second, .val (.int p2), .val (.int p3), .val (.long v1), .second, .val (.int v2), .val (.int v3), .val (.long y4), .second, .val (.long v5), .second, .val (.int (1 : Int32)), .val (.int (1 : Int32)), .val (.int (1 : Int32)), .val (.int (1 : Int32)), .val (.int (1 : Int32)), .val (.int (1 : Int32)), .val (.int (1 : Int32)), .unset, .unset] [])
          refine own_by (fun t k => XS.iconst X19.here hx rfl (hb hby at_212) k) ?_
          show ORun p e below s _ _ _ T19 (mkF m 213 #[.val (.long p1), .second, .val (.int p2), .val (.int p3), .val (.long v1), .second, .val (.int v2), .val (.int v3), .val (.long y4), .second, .val (.long v5), .second, .val (.int (1 : Int32)), .val (.int (1 : Int32)), .val (.int (1 : Int32)), .val (.int (1 : Int32)), .val (.int (1 : Int32)), .val (.int (1 : Int32)), .val (.int (1 : Int32)), .unset, .unset] [(.int (0 : Int32))])
          refine own_by (fun t k => XS.istore X19.here hx rfl (hb hby at_213) rfl (l' := #[.val (.long p1), .second, .val (.int p2), .val (.int p3), .val (.long v1), .second, .val (.int v2), .val (.int v3), .val (.long y4), .second, .val (.long v5), .second, .val (.int (1 : Int32)), .val (.int (1 : Int32)), .val (.int (1 : Int32)), .val (.int (1 : Int32)), .val (.int (1 : Int32)), .val (.int (1 : Int32)), .val (.int (1 : Int32)), .val (.int (0 : Int32)), .unset]) rfl k) ?_
          show ORun p e below s _ _ _ T19 (mkF m 215 #[.val (.long p1), .second, .val (.int p2), .val (.int p3), .val (.long v1), .second, .val (.int v2), .val (.int v3), .val (.long y4), .second, .val (.long v5), .second, .val (.int (1 : Int32)), .val (.int (1 : Int32)), .val (.int (1 : Int32)), .val (.int (1 : Int32)), .val (.int (1 : Int32)), .val (.int (1 : Int32)), .val (.int (1 : Int32)), .val (.int (0 : Int32)), .unset] [])
          refine own_by (fun t k => XS.iload X19.here hx rfl (hb hby at_215) rfl k) ?_
          show ORun p e below s _ _ _ T19 (mkF m 217 #[.val (.long p1), .second, .val (.int p2), .val (.int p3), .val (.long v1), .second, .val (.int v2), .val (.int v3), .val (.long y4), .second, .val (.long v5), .second, .val (.int (1 : Int32)), .val (.int (1 : Int32)), .val (.int (1 : Int32)), .val (.int (1 : Int32)), .val (.int (1 : Int32)), .val (.int (1 : Int32)), .val (.int (1 : Int32)), .val (.int (0 : Int32)), .unset] [(.int (1 : Int32))])
          refine own_by (fun t k => XS.ifYes X19.here hx rfl (pc0 := 217) (pc' := 230) rfl (hb hby at_217) rfl ((if0 _ _).trans (feq (by decide)).2) (by decide) (by decide) k) ?_
          show ORun p e below s _ _ _ T19 (mkF m 230 #[.val (.long p1), .second, .val (.int p2), .val (.int p3), .val (.long v1), .second, .val (.int v2), .val (.int v3), .val (.long y4), .second, .val (.long v5), .second, .val (.int (1 : Int32)), .val (.int (1 : Int32)), .val (.int (1 : Int32)), .val (.int (1 : Int32)), .val (.int (1 : Int32)), .val (.int (1 : Int32)), .val (.int (1 : Int32)), .val (.int (0 : Int32)), .unset] [])
          refine own_by (fun t k => XS.iconst X19.here hx rfl (hb hby at_230) k) ?_
          show ORun p e below s _ _ _ T19 (mkF m 231 #[.val (.long p1), .second, .val (.int p2), .val (.int p3), .val (.long v1), .second, .val (.int v2), .val (.int v3), .val (.long y4), .second, .val (.long v5), .second, .val (.int (1 : Int32)), .val (.int (1 : Int32)), .val (.int (1 : Int32)), .val (.int (1 : Int32)), .val (.int (1 : Int32)), .val (.int (1 : Int32)), .val (.int (1 : Int32)), .val (.int (0 : Int32)), .unset] [(.int (1 : Int32))])
          refine own_by (fun t k => XS.goto X19.here hx rfl (pc0 := 231) (pc' := 235) rfl (hb hby at_231) (by decide) (by decide) k) ?_
          show ORun p e below s _ _ _ T19 (mkF m 235 #[.val (.long p1), .second, .val (.int p2), .val (.int p3), .val (.long v1), .second, .val (.int v2), .val (.int v3), .val (.long y4), .second, .val (.long v5), .second, .val (.int (1 : Int32)), .val (.int (1 : Int32)), .val (.int (1 : Int32)), .val (.int (1 : Int32)), .val (.int (1 : Int32)), .val (.int (1 : Int32)), .val (.int (1 : Int32)), .val (.int (0 : Int32)), .unset] [(.int (1 : Int32))])
          refine own_by (fun t k => XS.istore X19.here hx rfl (hb hby at_235) rfl (l' := #[.val (.long p1), .second, .val (.int p2), .val (.int p3), .val (.long v1), .second, .val (.int v2), .val (.int v3), .val (.long y4), .second, .val (.long v5), .second, .val (.int (1 : Int32)), .val (.int (1 : Int32)), .val (.int (1 : Int32)), .val (.int (1 : Int32)), .val (.int (1 : Int32)), .val (.int (1 : Int32)), .val (.int (1 : Int32)), .val (.int (0 : Int32)), .val (.int (1 : Int32))]) rfl k) ?_
          show ORun p e below s _ _ _ T19 (mkF m 237 #[.val (.long p1), .second, .val (.int p2), .val (.int p3), .val (.long v1), .second, .val (.int v2), .val (.int v3), .val (.long y4), .second, .val (.long v5), .second, .val (.int (1 : Int32)), .val (.int (1 : Int32)), .val (.int (1 : Int32)), .val (.int (1 : Int32)), .val (.int (1 : Int32)), .val (.int (1 : Int32)), .val (.int (1 : Int32)), .val (.int (0 : Int32)), .val (.int (1 : Int32))] [])
          refine own_by (fun t k => XS.iload X19.here hx rfl (hb hby at_237) rfl k) ?_
          show ORun p e below s _ _ _ T19 (mkF m 239 #[.val (.long p1), .second, .val (.int p2), .val (.int p3), .val (.long v1), .second, .val (.int v2), .val (.int v3), .val (.long y4), .second, .val (.long v5), .second, .val (.int (1 : Int32)), .val (.int (1 : Int32)), .val (.int (1 : Int32)), .val (.int (1 : Int32)), .val (.int (1 : Int32)), .val (.int (1 : Int32)), .val (.int (1 : Int32)), .val (.int (0 : Int32)), .val (.int (1 : Int32))] [(.int (1 : Int32))])
          refine own_by (fun t k => XS.ifNo X19.here hx rfl (hb hby at_239) rfl ((if0 _ _).trans (feq (by decide)).1) k) ?_
          show ORun p e below s _ _ _ T19 (mkF m 242 #[.val (.long p1), .second, .val (.int p2), .val (.int p3), .val (.long v1), .second, .val (.int v2), .val (.int v3), .val (.long y4), .second, .val (.long v5), .second, .val (.int (1 : Int32)), .val (.int (1 : Int32)), .val (.int (1 : Int32)), .val (.int (1 : Int32)), .val (.int (1 : Int32)), .val (.int (1 : Int32)), .val (.int (1 : Int32)), .val (.int (0 : Int32)), .val (.int (1 : Int32))] [])
          refine own_by (fun t k => XS.iload X19.here hx rfl (hb hby at_242) rfl k) ?_
          show ORun p e below s _ _ _ T19 (mkF m 244 #[.val (.long p1), .second, .val (.int p2), .val (.int p3), .val (.long v1), .second, .val (.int v2), .val (.int v3), .val (.long y4), .second, .val (.long v5), .second, .val (.int (1 : Int32)), .val (.int (1 : Int32)), .val (.int (1 : Int32)), .val (.int (1 : Int32)), .val (.int (1 : Int32)), .val (.int (1 : Int32)), .val (.int (1 : Int32)), .val (.int (0 : Int32)), .val (.int (1 : Int32))] [(.int (1 : Int32))])
          refine own_by (fun t k => XS.ifNo X19.here hx rfl (hb hby at_244) rfl ((if0 _ _).trans (feq (by decide)).1) k) ?_
          show ORun p e below s _ _ _ T19 (mkF m 247 #[.val (.long p1), .second, .val (.int p2), .val (.int p3), .val (.long v1), .second, .val (.int v2), .val (.int v3), .val (.long y4), .second, .val (.long v5), .second, .val (.int (1 : Int32)), .val (.int (1 : Int32)), .val (.int (1 : Int32)), .val (.int (1 : Int32)), .val (.int (1 : Int32)), .val (.int (1 : Int32)), .val (.int (1 : Int32)), .val (.int (0 : Int32)), .val (.int (1 : Int32))] [])
          refine own_by (fun t k => XS.iconst X19.here hx rfl (hb hby at_247) k) ?_
          show ORun p e below s _ _ _ T19 (mkF m 248 #[.val (.long p1), .second, .val (.int p2), .val (.int p3), .val (.long v1), .second, .val (.int v2), .val (.int v3), .val (.long y4), .second, .val (.long v5), .second, .val (.int (1 : Int32)), .val (.int (1 : Int32)), .val (.int (1 : Int32)), .val (.int (1 : Int32)), .val (.int (1 : Int32)), .val (.int (1 : Int32)), .val (.int (1 : Int32)), .val (.int (0 : Int32)), .val (.int (1 : Int32))] [(.int (1 : Int32))])
          refine own_by (fun t k => XS.goto X19.here hx rfl (pc0 := 248) (pc' := 252) rfl (hb hby at_248) (by decide) (by decide) k) ?_
          show ORun p e below s _ _ _ T19 (mkF m 252 #[.val (.long p1), .second, .val (.int p2), .val (.int p3), .val (.long v1), .second, .val (.int v2), .val (.int v3), .val (.long y4), .second, .val (.long v5), .second, .val (.int (1 : Int32)), .val (.int (1 : Int32)), .val (.int (1 : Int32)), .val (.int (1 : Int32)), .val (.int (1 : Int32)), .val (.int (1 : Int32)), .val (.int (1 : Int32)), .val (.int (0 : Int32)), .val (.int (1 : Int32))] [(.int (1 : Int32))])
          refine own_retN X19 hx (t := .boolean) hret (by simp) hlk (hb hby at_252) (by decide) (by decide) ?_
          exact ⟨rfl, N19⟩
    · have t16 := own_neL hc16 (a := v14.toInt) (b := v15.toInt) rfl rfl
      refine own_by (fun t k => XS.ifYes X4.here hx rfl (pc0 := 172) (pc' := 179) rfl (hb hby at_172) rfl (own_lcne hc16).2 (by decide) (by decide) k) ?_
      show ORun p e below s _ _ _ T4 (mkF m 179 #[.val (.long p1), .second, .val (.int p2), .val (.int p3), .val (.long v1), .second, .val (.int v2), .val (.int v3), .val (.long y4), .second, .val (.long v5), .second, .val (.int (1 : Int32)), .val (.int (1 : Int32)), .val (.int (1 : Int32)), .val (.int (1 : Int32)), .val (.int (1 : Int32)), .val (.int (1 : Int32)), .unset, .unset, .unset] [])
      refine own_by (fun t k => XS.iconst X4.here hx rfl (hb hby at_179) k) ?_
      show ORun p e below s _ _ _ T4 (mkF m 180 #[.val (.long p1), .second, .val (.int p2), .val (.int p3), .val (.long v1), .second, .val (.int v2), .val (.int v3), .val (.long y4), .second, .val (.long v5), .second, .val (.int (1 : Int32)), .val (.int (1 : Int32)), .val (.int (1 : Int32)), .val (.int (1 : Int32)), .val (.int (1 : Int32)), .val (.int (1 : Int32)), .unset, .unset, .unset] [(.int (0 : Int32))])
      refine own_by (fun t k => XS.istore X4.here hx rfl (hb hby at_180) rfl (l' := #[.val (.long p1), .second, .val (.int p2), .val (.int p3), .val (.long v1), .second, .val (.int v2), .val (.int v3), .val (.long y4), .second, .val (.long v5), .second, .val (.int (1 : Int32)), .val (.int (1 : Int32)), .val (.int (1 : Int32)), .val (.int (1 : Int32)), .val (.int (1 : Int32)), .val (.int (1 : Int32)), .val (.int (0 : Int32)), .unset, .unset]) rfl k) ?_
      show ORun p e below s _ _ _ T4 (mkF m 182 #[.val (.long p1), .second, .val (.int p2), .val (.int p3), .val (.long v1), .second, .val (.int v2), .val (.int v3), .val (.long y4), .second, .val (.long v5), .second, .val (.int (1 : Int32)), .val (.int (1 : Int32)), .val (.int (1 : Int32)), .val (.int (1 : Int32)), .val (.int (1 : Int32)), .val (.int (1 : Int32)), .val (.int (0 : Int32)), .unset, .unset] [])
      refine own_by (fun t k => XS.lload X4.here hx rfl (hb hby at_182) rfl k) ?_
      show ORun p e below s _ _ _ T4 (mkF m 184 #[.val (.long p1), .second, .val (.int p2), .val (.int p3), .val (.long v1), .second, .val (.int v2), .val (.int v3), .val (.long y4), .second, .val (.long v5), .second, .val (.int (1 : Int32)), .val (.int (1 : Int32)), .val (.int (1 : Int32)), .val (.int (1 : Int32)), .val (.int (1 : Int32)), .val (.int (1 : Int32)), .val (.int (0 : Int32)), .unset, .unset] [(.long v5)])
      refine own_by (fun t k => X4.ldc2Long hx hown (mvT hZ (hw _ (List.mem_of_getElem? (i := 9) rfl))) (g := (mkF m 184 #[.val (.long p1), .second, .val (.int p2), .val (.int p3), .val (.long v1), .second, .val (.int v2), .val (.int v3), .val (.long y4), .second, .val (.long v5), .second, .val (.int (1 : Int32)), .val (.int (1 : Int32)), .val (.int (1 : Int32)), .val (.int (1 : Int32)), .val (.int (1 : Int32)), .val (.int (1 : Int32)), .val (.int (0 : Int32)), .unset, .unset] [(.long v5)])) rfl (hb hby at_184) _ k) ?_
      show ORun p e below s _ _ _ T4 (mkF m 187 #[.val (.long p1), .second, .val (.int p2), .val (.int p3), .val (.long v1), .second, .val (.int v2), .val (.int v3), .val (.long y4), .second, .val (.long v5), .second, .val (.int (1 : Int32)), .val (.int (1 : Int32)), .val (.int (1 : Int32)), .val (.int (1 : Int32)), .val (.int (1 : Int32)), .val (.int (1 : Int32)), .val (.int (0 : Int32)), .unset, .unset] [(.long (16 : Int64)), (.long v5)])
      refine own_by (fun t k => XS.lcmp X4.here hx rfl (hb hby at_187) rfl k) ?_
      show ORun p e below s _ _ _ T4 (mkF m 188 #[.val (.long p1), .second, .val (.int p2), .val (.int p3), .val (.long v1), .second, .val (.int v2), .val (.int v3), .val (.long y4), .second, .val (.long v5), .second, .val (.int (1 : Int32)), .val (.int (1 : Int32)), .val (.int (1 : Int32)), .val (.int (1 : Int32)), .val (.int (1 : Int32)), .val (.int (1 : Int32)), .val (.int (0 : Int32)), .unset, .unset] [(.int (lcmpW v5 (16 : Int64)))])
      by_cases hc21 : v5 < (16 : Int64)
      · have t21 := own_ltL hc21 (a := v5.toInt) (b := 16) rfl (by decide)
        refine own_by (fun t k => XS.ifYes X4.here hx rfl (pc0 := 188) (pc' := 208) rfl (hb hby at_188) rfl (own_lclt hc21).1 (by decide) (by decide) k) ?_
        show ORun p e below s _ _ _ T4 (mkF m 208 #[.val (.long p1), .second, .val (.int p2), .val (.int p3), .val (.long v1), .second, .val (.int v2), .val (.int v3), .val (.long y4), .second, .val (.long v5), .second, .val (.int (1 : Int32)), .val (.int (1 : Int32)), .val (.int (1 : Int32)), .val (.int (1 : Int32)), .val (.int (1 : Int32)), .val (.int (1 : Int32)), .val (.int (0 : Int32)), .unset, .unset] [])
        refine own_by (fun t k => XS.iconst X4.here hx rfl (hb hby at_208) k) ?_
        show ORun p e below s _ _ _ T4 (mkF m 209 #[.val (.long p1), .second, .val (.int p2), .val (.int p3), .val (.long v1), .second, .val (.int v2), .val (.int v3), .val (.long y4), .second, .val (.long v5), .second, .val (.int (1 : Int32)), .val (.int (1 : Int32)), .val (.int (1 : Int32)), .val (.int (1 : Int32)), .val (.int (1 : Int32)), .val (.int (1 : Int32)), .val (.int (0 : Int32)), .unset, .unset] [(.int (1 : Int32))])
        refine own_by (fun t k => XS.goto X4.here hx rfl (pc0 := 209) (pc' := 213) rfl (hb hby at_209) (by decide) (by decide) k) ?_
        show ORun p e below s _ _ _ T4 (mkF m 213 #[.val (.long p1), .second, .val (.int p2), .val (.int p3), .val (.long v1), .second, .val (.int v2), .val (.int v3), .val (.long y4), .second, .val (.long v5), .second, .val (.int (1 : Int32)), .val (.int (1 : Int32)), .val (.int (1 : Int32)), .val (.int (1 : Int32)), .val (.int (1 : Int32)), .val (.int (1 : Int32)), .val (.int (0 : Int32)), .unset, .unset] [(.int (1 : Int32))])
        refine own_by (fun t k => XS.istore X4.here hx rfl (hb hby at_213) rfl (l' := #[.val (.long p1), .second, .val (.int p2), .val (.int p3), .val (.long v1), .second, .val (.int v2), .val (.int v3), .val (.long y4), .second, .val (.long v5), .second, .val (.int (1 : Int32)), .val (.int (1 : Int32)), .val (.int (1 : Int32)), .val (.int (1 : Int32)), .val (.int (1 : Int32)), .val (.int (1 : Int32)), .val (.int (0 : Int32)), .val (.int (1 : Int32)), .unset]) rfl k) ?_
        show ORun p e below s _ _ _ T4 (mkF m 215 #[.val (.long p1), .second, .val (.int p2), .val (.int p3), .val (.long v1), .second, .val (.int v2), .val (.int v3), .val (.long y4), .second, .val (.long v5), .second, .val (.int (1 : Int32)), .val (.int (1 : Int32)), .val (.int (1 : Int32)), .val (.int (1 : Int32)), .val (.int (1 : Int32)), .val (.int (1 : Int32)), .val (.int (0 : Int32)), .val (.int (1 : Int32)), .unset] [])
        refine own_by (fun t k => XS.iload X4.here hx rfl (hb hby at_215) rfl k) ?_
        show ORun p e below s _ _ _ T4 (mkF m 217 #[.val (.long p1), .second, .val (.int p2), .val (.int p3), .val (.long v1), .second, .val (.int v2), .val (.int v3), .val (.long y4), .second, .val (.long v5), .second, .val (.int (1 : Int32)), .val (.int (1 : Int32)), .val (.int (1 : Int32)), .val (.int (1 : Int32)), .val (.int (1 : Int32)), .val (.int (1 : Int32)), .val (.int (0 : Int32)), .val (.int (1 : Int32)), .unset] [(.int (1 : Int32))])
        refine own_by (fun t k => XS.ifYes X4.here hx rfl (pc0 := 217) (pc' := 230) rfl (hb hby at_217) rfl ((if0 _ _).trans (feq (by decide)).2) (by decide) (by decide) k) ?_
        show ORun p e below s _ _ _ T4 (mkF m 230 #[.val (.long p1), .second, .val (.int p2), .val (.int p3), .val (.long v1), .second, .val (.int v2), .val (.int v3), .val (.long y4), .second, .val (.long v5), .second, .val (.int (1 : Int32)), .val (.int (1 : Int32)), .val (.int (1 : Int32)), .val (.int (1 : Int32)), .val (.int (1 : Int32)), .val (.int (1 : Int32)), .val (.int (0 : Int32)), .val (.int (1 : Int32)), .unset] [])
        refine own_by (fun t k => XS.iconst X4.here hx rfl (hb hby at_230) k) ?_
        show ORun p e below s _ _ _ T4 (mkF m 231 #[.val (.long p1), .second, .val (.int p2), .val (.int p3), .val (.long v1), .second, .val (.int v2), .val (.int v3), .val (.long y4), .second, .val (.long v5), .second, .val (.int (1 : Int32)), .val (.int (1 : Int32)), .val (.int (1 : Int32)), .val (.int (1 : Int32)), .val (.int (1 : Int32)), .val (.int (1 : Int32)), .val (.int (0 : Int32)), .val (.int (1 : Int32)), .unset] [(.int (1 : Int32))])
        refine own_by (fun t k => XS.goto X4.here hx rfl (pc0 := 231) (pc' := 235) rfl (hb hby at_231) (by decide) (by decide) k) ?_
        show ORun p e below s _ _ _ T4 (mkF m 235 #[.val (.long p1), .second, .val (.int p2), .val (.int p3), .val (.long v1), .second, .val (.int v2), .val (.int v3), .val (.long y4), .second, .val (.long v5), .second, .val (.int (1 : Int32)), .val (.int (1 : Int32)), .val (.int (1 : Int32)), .val (.int (1 : Int32)), .val (.int (1 : Int32)), .val (.int (1 : Int32)), .val (.int (0 : Int32)), .val (.int (1 : Int32)), .unset] [(.int (1 : Int32))])
        refine own_by (fun t k => XS.istore X4.here hx rfl (hb hby at_235) rfl (l' := #[.val (.long p1), .second, .val (.int p2), .val (.int p3), .val (.long v1), .second, .val (.int v2), .val (.int v3), .val (.long y4), .second, .val (.long v5), .second, .val (.int (1 : Int32)), .val (.int (1 : Int32)), .val (.int (1 : Int32)), .val (.int (1 : Int32)), .val (.int (1 : Int32)), .val (.int (1 : Int32)), .val (.int (0 : Int32)), .val (.int (1 : Int32)), .val (.int (1 : Int32))]) rfl k) ?_
        show ORun p e below s _ _ _ T4 (mkF m 237 #[.val (.long p1), .second, .val (.int p2), .val (.int p3), .val (.long v1), .second, .val (.int v2), .val (.int v3), .val (.long y4), .second, .val (.long v5), .second, .val (.int (1 : Int32)), .val (.int (1 : Int32)), .val (.int (1 : Int32)), .val (.int (1 : Int32)), .val (.int (1 : Int32)), .val (.int (1 : Int32)), .val (.int (0 : Int32)), .val (.int (1 : Int32)), .val (.int (1 : Int32))] [])
        refine own_by (fun t k => XS.iload X4.here hx rfl (hb hby at_237) rfl k) ?_
        show ORun p e below s _ _ _ T4 (mkF m 239 #[.val (.long p1), .second, .val (.int p2), .val (.int p3), .val (.long v1), .second, .val (.int v2), .val (.int v3), .val (.long y4), .second, .val (.long v5), .second, .val (.int (1 : Int32)), .val (.int (1 : Int32)), .val (.int (1 : Int32)), .val (.int (1 : Int32)), .val (.int (1 : Int32)), .val (.int (1 : Int32)), .val (.int (0 : Int32)), .val (.int (1 : Int32)), .val (.int (1 : Int32))] [(.int (1 : Int32))])
        refine own_by (fun t k => XS.ifNo X4.here hx rfl (hb hby at_239) rfl ((if0 _ _).trans (feq (by decide)).1) k) ?_
        show ORun p e below s _ _ _ T4 (mkF m 242 #[.val (.long p1), .second, .val (.int p2), .val (.int p3), .val (.long v1), .second, .val (.int v2), .val (.int v3), .val (.long y4), .second, .val (.long v5), .second, .val (.int (1 : Int32)), .val (.int (1 : Int32)), .val (.int (1 : Int32)), .val (.int (1 : Int32)), .val (.int (1 : Int32)), .val (.int (1 : Int32)), .val (.int (0 : Int32)), .val (.int (1 : Int32)), .val (.int (1 : Int32))] [])
        refine own_by (fun t k => XS.iload X4.here hx rfl (hb hby at_242) rfl k) ?_
        show ORun p e below s _ _ _ T4 (mkF m 244 #[.val (.long p1), .second, .val (.int p2), .val (.int p3), .val (.long v1), .second, .val (.int v2), .val (.int v3), .val (.long y4), .second, .val (.long v5), .second, .val (.int (1 : Int32)), .val (.int (1 : Int32)), .val (.int (1 : Int32)), .val (.int (1 : Int32)), .val (.int (1 : Int32)), .val (.int (1 : Int32)), .val (.int (0 : Int32)), .val (.int (1 : Int32)), .val (.int (1 : Int32))] [(.int (1 : Int32))])
        refine own_by (fun t k => XS.ifNo X4.here hx rfl (hb hby at_244) rfl ((if0 _ _).trans (feq (by decide)).1) k) ?_
        show ORun p e below s _ _ _ T4 (mkF m 247 #[.val (.long p1), .second, .val (.int p2), .val (.int p3), .val (.long v1), .second, .val (.int v2), .val (.int v3), .val (.long y4), .second, .val (.long v5), .second, .val (.int (1 : Int32)), .val (.int (1 : Int32)), .val (.int (1 : Int32)), .val (.int (1 : Int32)), .val (.int (1 : Int32)), .val (.int (1 : Int32)), .val (.int (0 : Int32)), .val (.int (1 : Int32)), .val (.int (1 : Int32))] [])
        refine own_by (fun t k => XS.iconst X4.here hx rfl (hb hby at_247) k) ?_
        show ORun p e below s _ _ _ T4 (mkF m 248 #[.val (.long p1), .second, .val (.int p2), .val (.int p3), .val (.long v1), .second, .val (.int v2), .val (.int v3), .val (.long y4), .second, .val (.long v5), .second, .val (.int (1 : Int32)), .val (.int (1 : Int32)), .val (.int (1 : Int32)), .val (.int (1 : Int32)), .val (.int (1 : Int32)), .val (.int (1 : Int32)), .val (.int (0 : Int32)), .val (.int (1 : Int32)), .val (.int (1 : Int32))] [(.int (1 : Int32))])
        refine own_by (fun t k => XS.goto X4.here hx rfl (pc0 := 248) (pc' := 252) rfl (hb hby at_248) (by decide) (by decide) k) ?_
        show ORun p e below s _ _ _ T4 (mkF m 252 #[.val (.long p1), .second, .val (.int p2), .val (.int p3), .val (.long v1), .second, .val (.int v2), .val (.int v3), .val (.long y4), .second, .val (.long v5), .second, .val (.int (1 : Int32)), .val (.int (1 : Int32)), .val (.int (1 : Int32)), .val (.int (1 : Int32)), .val (.int (1 : Int32)), .val (.int (1 : Int32)), .val (.int (0 : Int32)), .val (.int (1 : Int32)), .val (.int (1 : Int32))] [(.int (1 : Int32))])
        refine own_retN X4 hx (t := .boolean) hret (by simp) hlk (hb hby at_252) (by decide) (by decide) ?_
        exact ⟨rfl, N4⟩
      · have t21 := own_nltL hc21 (a := v5.toInt) (b := 16) rfl (by decide)
        refine own_by (fun t k => XS.ifNo X4.here hx rfl (hb hby at_188) rfl (own_lcnlt hc21).1 k) ?_
        show ORun p e below s _ _ _ T4 (mkF m 191 #[.val (.long p1), .second, .val (.int p2), .val (.int p3), .val (.long v1), .second, .val (.int v2), .val (.int v3), .val (.long y4), .second, .val (.long v5), .second, .val (.int (1 : Int32)), .val (.int (1 : Int32)), .val (.int (1 : Int32)), .val (.int (1 : Int32)), .val (.int (1 : Int32)), .val (.int (1 : Int32)), .val (.int (0 : Int32)), .unset, .unset] [])
        refine own_by (fun t k => XS.lload X4.here hx rfl (hb hby at_191) rfl k) ?_
        show ORun p e below s _ _ _ T4 (mkF m 193 #[.val (.long p1), .second, .val (.int p2), .val (.int p3), .val (.long v1), .second, .val (.int v2), .val (.int v3), .val (.long y4), .second, .val (.long v5), .second, .val (.int (1 : Int32)), .val (.int (1 : Int32)), .val (.int (1 : Int32)), .val (.int (1 : Int32)), .val (.int (1 : Int32)), .val (.int (1 : Int32)), .val (.int (0 : Int32)), .unset, .unset] [(.long v5)])
        refine own_by (fun t k => X4.ldc2Long hx hown (mvT hZ (hw _ (List.mem_of_getElem? (i := 9) rfl))) (g := (mkF m 193 #[.val (.long p1), .second, .val (.int p2), .val (.int p3), .val (.long v1), .second, .val (.int v2), .val (.int v3), .val (.long y4), .second, .val (.long v5), .second, .val (.int (1 : Int32)), .val (.int (1 : Int32)), .val (.int (1 : Int32)), .val (.int (1 : Int32)), .val (.int (1 : Int32)), .val (.int (1 : Int32)), .val (.int (0 : Int32)), .unset, .unset] [(.long v5)])) rfl (hb hby at_193) _ k) ?_
        show ORun p e below s _ _ _ T4 (mkF m 196 #[.val (.long p1), .second, .val (.int p2), .val (.int p3), .val (.long v1), .second, .val (.int v2), .val (.int v3), .val (.long y4), .second, .val (.long v5), .second, .val (.int (1 : Int32)), .val (.int (1 : Int32)), .val (.int (1 : Int32)), .val (.int (1 : Int32)), .val (.int (1 : Int32)), .val (.int (1 : Int32)), .val (.int (0 : Int32)), .unset, .unset] [(.long (16 : Int64)), (.long v5)])
        refine own_by (fun t k => XS.lsub X4.here hx rfl (hb hby at_196) rfl k) (own_letJ (f := (fun z => (mkF m 197 #[.val (.long p1), .second, .val (.int p2), .val (.int p3), .val (.long v1), .second, .val (.int v2), .val (.int v3), .val (.long y4), .second, .val (.long v5), .second, .val (.int (1 : Int32)), .val (.int (1 : Int32)), .val (.int (1 : Int32)), .val (.int (1 : Int32)), .val (.int (1 : Int32)), .val (.int (1 : Int32)), .val (.int (0 : Int32)), .unset, .unset] [(.long z)]))) (v5 - (16 : Int64)) fun v22 hv22 => ?_)
        show ORun p e below s _ _ _ T4 (mkF m 197 #[.val (.long p1), .second, .val (.int p2), .val (.int p3), .val (.long v1), .second, .val (.int v2), .val (.int v3), .val (.long y4), .second, .val (.long v5), .second, .val (.int (1 : Int32)), .val (.int (1 : Int32)), .val (.int (1 : Int32)), .val (.int (1 : Int32)), .val (.int (1 : Int32)), .val (.int (1 : Int32)), .val (.int (0 : Int32)), .unset, .unset] [(.long v22)])
        have r22 := rng64 v22
        have a22 : v22.toInt = v5.toInt - 16 := by
          have q : (v22.toInt - (v5.toInt - 16)) % 18446744073709551616 = 0 := by rw [hv22]; exact c_lsub v5 (16 : Int64)
          omega
        refine own_by (fun t k => XS.iload X4.here hx rfl (hb hby at_197) rfl k) ?_
        show ORun p e below s _ _ _ T4 (mkF m 199 #[.val (.long p1), .second, .val (.int p2), .val (.int p3), .val (.long v1), .second, .val (.int v2), .val (.int v3), .val (.long y4), .second, .val (.long v5), .second, .val (.int (1 : Int32)), .val (.int (1 : Int32)), .val (.int (1 : Int32)), .val (.int (1 : Int32)), .val (.int (1 : Int32)), .val (.int (1 : Int32)), .val (.int (0 : Int32)), .unset, .unset] [(.int v3), (.long v22)])
        refine own_callS X4 hx hZ hown (hw _ (List.mem_of_getElem? (i := 10) rfl)) (hw _ (List.mem_of_getElem? (i := 11) rfl)) (hw _ (List.mem_of_getElem? (i := 12) rfl)) (hw _ (List.mem_of_getElem? (i := 13) rfl)) (by decide) (rm2 l Z a0 hw [] h0 n0 Z0 v22 v3 (by omega) (by omega)) e4 (by decide) (W := 0) (by decide) (by decide) (by decide) (argsL := [(.long v22), (.int v3)]) (rest := []) (by rw [hml]; rfl) (lenOf pd_1 rfl) rfl rfl (Nat.le_of_eq rfl) (hb hby at_199) ?_
        intro T23 L23 u23 X23 hQ23
        obtain ⟨y23, rfl, hy23, Nq23, e23⟩ := hQ23
        have N23 := Fr.app N4 Nq23
        show ORun p e below s _ _ _ T23 (mkF m 202 #[.val (.long p1), .second, .val (.int p2), .val (.int p3), .val (.long v1), .second, .val (.int v2), .val (.int v3), .val (.long y4), .second, .val (.long v5), .second, .val (.int (1 : Int32)), .val (.int (1 : Int32)), .val (.int (1 : Int32)), .val (.int (1 : Int32)), .val (.int (1 : Int32)), .val (.int (1 : Int32)), .val (.int (0 : Int32)), .unset, .unset] [(.long y23)])
        refine own_by (fun t k => XS.lload X23.here hx rfl (hb hby at_202) rfl k) ?_
        show ORun p e below s _ _ _ T23 (mkF m 204 #[.val (.long p1), .second, .val (.int p2), .val (.int p3), .val (.long v1), .second, .val (.int v2), .val (.int v3), .val (.long y4), .second, .val (.long v5), .second, .val (.int (1 : Int32)), .val (.int (1 : Int32)), .val (.int (1 : Int32)), .val (.int (1 : Int32)), .val (.int (1 : Int32)), .val (.int (1 : Int32)), .val (.int (0 : Int32)), .unset, .unset] [(.long v1), (.long y23)])
        refine own_by (fun t k => XS.lcmp X23.here hx rfl (hb hby at_204) rfl k) ?_
        show ORun p e below s _ _ _ T23 (mkF m 205 #[.val (.long p1), .second, .val (.int p2), .val (.int p3), .val (.long v1), .second, .val (.int v2), .val (.int v3), .val (.long y4), .second, .val (.long v5), .second, .val (.int (1 : Int32)), .val (.int (1 : Int32)), .val (.int (1 : Int32)), .val (.int (1 : Int32)), .val (.int (1 : Int32)), .val (.int (1 : Int32)), .val (.int (0 : Int32)), .unset, .unset] [(.int (lcmpW y23 v1))])
        by_cases hc24 : y23 < v1
        · have t24 := own_ltL hc24 (a := y23.toInt) (b := v1.toInt) rfl rfl
          refine own_by (fun t k => XS.ifNo X23.here hx rfl (hb hby at_205) rfl (own_lclt hc24).2 k) ?_
          show ORun p e below s _ _ _ T23 (mkF m 208 #[.val (.long p1), .second, .val (.int p2), .val (.int p3), .val (.long v1), .second, .val (.int v2), .val (.int v3), .val (.long y4), .second, .val (.long v5), .second, .val (.int (1 : Int32)), .val (.int (1 : Int32)), .val (.int (1 : Int32)), .val (.int (1 : Int32)), .val (.int (1 : Int32)), .val (.int (1 : Int32)), .val (.int (0 : Int32)), .unset, .unset] [])
          refine own_by (fun t k => XS.iconst X23.here hx rfl (hb hby at_208) k) ?_
          show ORun p e below s _ _ _ T23 (mkF m 209 #[.val (.long p1), .second, .val (.int p2), .val (.int p3), .val (.long v1), .second, .val (.int v2), .val (.int v3), .val (.long y4), .second, .val (.long v5), .second, .val (.int (1 : Int32)), .val (.int (1 : Int32)), .val (.int (1 : Int32)), .val (.int (1 : Int32)), .val (.int (1 : Int32)), .val (.int (1 : Int32)), .val (.int (0 : Int32)), .unset, .unset] [(.int (1 : Int32))])
          refine own_by (fun t k => XS.goto X23.here hx rfl (pc0 := 209) (pc' := 213) rfl (hb hby at_209) (by decide) (by decide) k) ?_
          show ORun p e below s _ _ _ T23 (mkF m 213 #[.val (.long p1), .second, .val (.int p2), .val (.int p3), .val (.long v1), .second, .val (.int v2), .val (.int v3), .val (.long y4), .second, .val (.long v5), .second, .val (.int (1 : Int32)), .val (.int (1 : Int32)), .val (.int (1 : Int32)), .val (.int (1 : Int32)), .val (.int (1 : Int32)), .val (.int (1 : Int32)), .val (.int (0 : Int32)), .unset, .unset] [(.int (1 : Int32))])
          refine own_by (fun t k => XS.istore X23.here hx rfl (hb hby at_213) rfl (l' := #[.val (.long p1), .second, .val (.int p2), .val (.int p3), .val (.long v1), .second, .val (.int v2), .val (.int v3), .val (.long y4), .second, .val (.long v5), .second, .val (.int (1 : Int32)), .val (.int (1 : Int32)), .val (.int (1 : Int32)), .val (.int (1 : Int32)), .val (.int (1 : Int32)), .val (.int (1 : Int32)), .val (.int (0 : Int32)), .val (.int (1 : Int32)), .unset]) rfl k) ?_
          show ORun p e below s _ _ _ T23 (mkF m 215 #[.val (.long p1), .second, .val (.int p2), .val (.int p3), .val (.long v1), .second, .val (.int v2), .val (.int v3), .val (.long y4), .second, .val (.long v5), .second, .val (.int (1 : Int32)), .val (.int (1 : Int32)), .val (.int (1 : Int32)), .val (.int (1 : Int32)), .val (.int (1 : Int32)), .val (.int (1 : Int32)), .val (.int (0 : Int32)), .val (.int (1 : Int32)), .unset] [])
          refine own_by (fun t k => XS.iload X23.here hx rfl (hb hby at_215) rfl k) ?_
          show ORun p e below s _ _ _ T23 (mkF m 217 #[.val (.long p1), .second, .val (.int p2), .val (.int p3), .val (.long v1), .second, .val (.int v2), .val (.int v3), .val (.long y4), .second, .val (.long v5), .second, .val (.int (1 : Int32)), .val (.int (1 : Int32)), .val (.int (1 : Int32)), .val (.int (1 : Int32)), .val (.int (1 : Int32)), .val (.int (1 : Int32)), .val (.int (0 : Int32)), .val (.int (1 : Int32)), .unset] [(.int (1 : Int32))])
          refine own_by (fun t k => XS.ifYes X23.here hx rfl (pc0 := 217) (pc' := 230) rfl (hb hby at_217) rfl ((if0 _ _).trans (feq (by decide)).2) (by decide) (by decide) k) ?_
          show ORun p e below s _ _ _ T23 (mkF m 230 #[.val (.long p1), .second, .val (.int p2), .val (.int p3), .val (.long v1), .second, .val (.int v2), .val (.int v3), .val (.long y4), .second, .val (.long v5), .second, .val (.int (1 : Int32)), .val (.int (1 : Int32)), .val (.int (1 : Int32)), .val (.int (1 : Int32)), .val (.int (1 : Int32)), .val (.int (1 : Int32)), .val (.int (0 : Int32)), .val (.int (1 : Int32)), .unset] [])
          refine own_by (fun t k => XS.iconst X23.here hx rfl (hb hby at_230) k) ?_
          show ORun p e below s _ _ _ T23 (mkF m 231 #[.val (.long p1), .second, .val (.int p2), .val (.int p3), .val (.long v1), .second, .val (.int v2), .val (.int v3), .val (.long y4), .second, .val (.long v5), .second, .val (.int (1 : Int32)), .val (.int (1 : Int32)), .val (.int (1 : Int32)), .val (.int (1 : Int32)), .val (.int (1 : Int32)), .val (.int (1 : Int32)), .val (.int (0 : Int32)), .val (.int (1 : Int32)), .unset] [(.int (1 : Int32))])
          refine own_by (fun t k => XS.goto X23.here hx rfl (pc0 := 231) (pc' := 235) rfl (hb hby at_231) (by decide) (by decide) k) ?_
          show ORun p e below s _ _ _ T23 (mkF m 235 #[.val (.long p1), .second, .val (.int p2), .val (.int p3), .val (.long v1), .second, .val (.int v2), .val (.int v3), .val (.long y4), .second, .val (.long v5), .second, .val (.int (1 : Int32)), .val (.int (1 : Int32)), .val (.int (1 : Int32)), .val (.int (1 : Int32)), .val (.int (1 : Int32)), .val (.int (1 : Int32)), .val (.int (0 : Int32)), .val (.int (1 : Int32)), .unset] [(.int (1 : Int32))])
          refine own_by (fun t k => XS.istore X23.here hx rfl (hb hby at_235) rfl (l' := #[.val (.long p1), .second, .val (.int p2), .val (.int p3), .val (.long v1), .second, .val (.int v2), .val (.int v3), .val (.long y4), .second, .val (.long v5), .second, .val (.int (1 : Int32)), .val (.int (1 : Int32)), .val (.int (1 : Int32)), .val (.int (1 : Int32)), .val (.int (1 : Int32)), .val (.int (1 : Int32)), .val (.int (0 : Int32)), .val (.int (1 : Int32)), .val (.int (1 : Int32))]) rfl k) ?_
          show ORun p e below s _ _ _ T23 (mkF m 237 #[.val (.long p1), .second, .val (.int p2), .val (.int p3), .val (.long v1), .second, .val (.int v2), .val (.int v3), .val (.long y4), .second, .val (.long v5), .second, .val (.int (1 : Int32)), .val (.int (1 : Int32)), .val (.int (1 : Int32)), .val (.int (1 : Int32)), .val (.int (1 : Int32)), .val (.int (1 : Int32)), .val (.int (0 : Int32)), .val (.int (1 : Int32)), .val (.int (1 : Int32))] [])
          refine own_by (fun t k => XS.iload X23.here hx rfl (hb hby at_237) rfl k) ?_
          show ORun p e below s _ _ _ T23 (mkF m 239 #[.val (.long p1), .second, .val (.int p2), .val (.int p3), .val (.long v1), .second, .val (.int v2), .val (.int v3), .val (.long y4), .second, .val (.long v5), .second, .val (.int (1 : Int32)), .val (.int (1 : Int32)), .val (.int (1 : Int32)), .val (.int (1 : Int32)), .val (.int (1 : Int32)), .val (.int (1 : Int32)), .val (.int (0 : Int32)), .val (.int (1 : Int32)), .val (.int (1 : Int32))] [(.int (1 : Int32))])
          refine own_by (fun t k => XS.ifNo X23.here hx rfl (hb hby at_239) rfl ((if0 _ _).trans (feq (by decide)).1) k) ?_
          show ORun p e below s _ _ _ T23 (mkF m 242 #[.val (.long p1), .second, .val (.int p2), .val (.int p3), .val (.long v1), .second, .val (.int v2), .val (.int v3), .val (.long y4), .second, .val (.long v5), .second, .val (.int (1 : Int32)), .val (.int (1 : Int32)), .val (.int (1 : Int32)), .val (.int (1 : Int32)), .val (.int (1 : Int32)), .val (.int (1 : Int32)), .val (.int (0 : Int32)), .val (.int (1 : Int32)), .val (.int (1 : Int32))] [])
          refine own_by (fun t k => XS.iload X23.here hx rfl (hb hby at_242) rfl k) ?_
          show ORun p e below s _ _ _ T23 (mkF m 244 #[.val (.long p1), .second, .val (.int p2), .val (.int p3), .val (.long v1), .second, .val (.int v2), .val (.int v3), .val (.long y4), .second, .val (.long v5), .second, .val (.int (1 : Int32)), .val (.int (1 : Int32)), .val (.int (1 : Int32)), .val (.int (1 : Int32)), .val (.int (1 : Int32)), .val (.int (1 : Int32)), .val (.int (0 : Int32)), .val (.int (1 : Int32)), .val (.int (1 : Int32))] [(.int (1 : Int32))])
          refine own_by (fun t k => XS.ifNo X23.here hx rfl (hb hby at_244) rfl ((if0 _ _).trans (feq (by decide)).1) k) ?_
          show ORun p e below s _ _ _ T23 (mkF m 247 #[.val (.long p1), .second, .val (.int p2), .val (.int p3), .val (.long v1), .second, .val (.int v2), .val (.int v3), .val (.long y4), .second, .val (.long v5), .second, .val (.int (1 : Int32)), .val (.int (1 : Int32)), .val (.int (1 : Int32)), .val (.int (1 : Int32)), .val (.int (1 : Int32)), .val (.int (1 : Int32)), .val (.int (0 : Int32)), .val (.int (1 : Int32)), .val (.int (1 : Int32))] [])
          refine own_by (fun t k => XS.iconst X23.here hx rfl (hb hby at_247) k) ?_
          show ORun p e below s _ _ _ T23 (mkF m 248 #[.val (.long p1), .second, .val (.int p2), .val (.int p3), .val (.long v1), .second, .val (.int v2), .val (.int v3), .val (.long y4), .second, .val (.long v5), .second, .val (.int (1 : Int32)), .val (.int (1 : Int32)), .val (.int (1 : Int32)), .val (.int (1 : Int32)), .val (.int (1 : Int32)), .val (.int (1 : Int32)), .val (.int (0 : Int32)), .val (.int (1 : Int32)), .val (.int (1 : Int32))] [(.int (1 : Int32))])
          refine own_by (fun t k => XS.goto X23.here hx rfl (pc0 := 248) (pc' := 252) rfl (hb hby at_248) (by decide) (by decide) k) ?_
          show ORun p e below s _ _ _ T23 (mkF m 252 #[.val (.long p1), .second, .val (.int p2), .val (.int p3), .val (.long v1), .second, .val (.int v2), .val (.int v3), .val (.long y4), .second, .val (.long v5), .second, .val (.int (1 : Int32)), .val (.int (1 : Int32)), .val (.int (1 : Int32)), .val (.int (1 : Int32)), .val (.int (1 : Int32)), .val (.int (1 : Int32)), .val (.int (0 : Int32)), .val (.int (1 : Int32)), .val (.int (1 : Int32))] [(.int (1 : Int32))])
          refine own_retN X23 hx (t := .boolean) hret (by simp) hlk (hb hby at_252) (by decide) (by decide) ?_
          exact ⟨rfl, N23⟩
        · have t24 := own_nltL hc24 (a := y23.toInt) (b := v1.toInt) rfl rfl
          refine own_by (fun t k => XS.ifYes X23.here hx rfl (pc0 := 205) (pc' := 212) rfl (hb hby at_205) rfl (own_lcnlt hc24).2 (by decide) (by decide) k) ?_
          show ORun p e below s _ _ _ T23 (mkF m 212 #[.val (.long p1), .second, .val (.int p2), .val (.int p3), .val (.long v1), .second, .val (.int v2), .val (.int v3), .val (.long y4), .second, .val (.long v5), .second, .val (.int (1 : Int32)), .val (.int (1 : Int32)), .val (.int (1 : Int32)), .val (.int (1 : Int32)), .val (.int (1 : Int32)), .val (.int (1 : Int32)), .val (.int (0 : Int32)), .unset, .unset] [])
          refine own_by (fun t k => XS.iconst X23.here hx rfl (hb hby at_212) k) ?_
          show ORun p e below s _ _ _ T23 (mkF m 213 #[.val (.long p1), .second, .val (.int p2), .val (.int p3), .val (.long v1), .second, .val (.int v2), .val (.int v3), .val (.long y4), .second, .val (.long v5), .second, .val (.int (1 : Int32)), .val (.int (1 : Int32)), .val (.int (1 : Int32)), .val (.int (1 : Int32)), .val (.int (1 : Int32)), .val (.int (1 : Int32)), .val (.int (0 : Int32)), .unset, .unset] [(.int (0 : Int32))])
          refine own_by (fun t k => XS.istore X23.here hx rfl (hb hby at_213) rfl (l' := #[.val (.long p1), .second, .val (.int p2), .val (.int p3), .val (.long v1), .second, .val (.int v2), .val (.int v3), .val (.long y4), .second, .val (.long v5), .second, .val (.int (1 : Int32)), .val (.int (1 : Int32)), .val (.int (1 : Int32)), .val (.int (1 : Int32)), .val (.int (1 : Int32)), .val (.int (1 : Int32)), .val (.int (0 : Int32)), .val (.int (0 : Int32)), .unset]) rfl k) ?_
          show ORun p e below s _ _ _ T23 (mkF m 215 #[.val (.long p1), .second, .val (.int p2), .val (.int p3), .val (.long v1), .second, .val (.int v2), .val (.int v3), .val (.long y4), .second, .val (.long v5), .second, .val (.int (1 : Int32)), .val (.int (1 : Int32)), .val (.int (1 : Int32)), .val (.int (1 : Int32)), .val (.int (1 : Int32)), .val (.int (1 : Int32)), .val (.int (0 : Int32)), .val (.int (0 : Int32)), .unset] [])
          refine own_by (fun t k => XS.iload X23.here hx rfl (hb hby at_215) rfl k) ?_
          show ORun p e below s _ _ _ T23 (mkF m 217 #[.val (.long p1), .second, .val (.int p2), .val (.int p3), .val (.long v1), .second, .val (.int v2), .val (.int v3), .val (.long y4), .second, .val (.long v5), .second, .val (.int (1 : Int32)), .val (.int (1 : Int32)), .val (.int (1 : Int32)), .val (.int (1 : Int32)), .val (.int (1 : Int32)), .val (.int (1 : Int32)), .val (.int (0 : Int32)), .val (.int (0 : Int32)), .unset] [(.int (1 : Int32))])
          refine own_by (fun t k => XS.ifYes X23.here hx rfl (pc0 := 217) (pc' := 230) rfl (hb hby at_217) rfl ((if0 _ _).trans (feq (by decide)).2) (by decide) (by decide) k) ?_
          show ORun p e below s _ _ _ T23 (mkF m 230 #[.val (.long p1), .second, .val (.int p2), .val (.int p3), .val (.long v1), .second, .val (.int v2), .val (.int v3), .val (.long y4), .second, .val (.long v5), .second, .val (.int (1 : Int32)), .val (.int (1 : Int32)), .val (.int (1 : Int32)), .val (.int (1 : Int32)), .val (.int (1 : Int32)), .val (.int (1 : Int32)), .val (.int (0 : Int32)), .val (.int (0 : Int32)), .unset] [])
          refine own_by (fun t k => XS.iconst X23.here hx rfl (hb hby at_230) k) ?_
          show ORun p e below s _ _ _ T23 (mkF m 231 #[.val (.long p1), .second, .val (.int p2), .val (.int p3), .val (.long v1), .second, .val (.int v2), .val (.int v3), .val (.long y4), .second, .val (.long v5), .second, .val (.int (1 : Int32)), .val (.int (1 : Int32)), .val (.int (1 : Int32)), .val (.int (1 : Int32)), .val (.int (1 : Int32)), .val (.int (1 : Int32)), .val (.int (0 : Int32)), .val (.int (0 : Int32)), .unset] [(.int (1 : Int32))])
          refine own_by (fun t k => XS.goto X23.here hx rfl (pc0 := 231) (pc' := 235) rfl (hb hby at_231) (by decide) (by decide) k) ?_
          show ORun p e below s _ _ _ T23 (mkF m 235 #[.val (.long p1), .second, .val (.int p2), .val (.int p3), .val (.long v1), .second, .val (.int v2), .val (.int v3), .val (.long y4), .second, .val (.long v5), .second, .val (.int (1 : Int32)), .val (.int (1 : Int32)), .val (.int (1 : Int32)), .val (.int (1 : Int32)), .val (.int (1 : Int32)), .val (.int (1 : Int32)), .val (.int (0 : Int32)), .val (.int (0 : Int32)), .unset] [(.int (1 : Int32))])
          refine own_by (fun t k => XS.istore X23.here hx rfl (hb hby at_235) rfl (l' := #[.val (.long p1), .second, .val (.int p2), .val (.int p3), .val (.long v1), .second, .val (.int v2), .val (.int v3), .val (.long y4), .second, .val (.long v5), .second, .val (.int (1 : Int32)), .val (.int (1 : Int32)), .val (.int (1 : Int32)), .val (.int (1 : Int32)), .val (.int (1 : Int32)), .val (.int (1 : Int32)), .val (.int (0 : Int32)), .val (.int (0 : Int32)), .val (.int (1 : Int32))]) rfl k) ?_
          show ORun p e below s _ _ _ T23 (mkF m 237 #[.val (.long p1), .second, .val (.int p2), .val (.int p3), .val (.long v1), .second, .val (.int v2), .val (.int v3), .val (.long y4), .second, .val (.long v5), .second, .val (.int (1 : Int32)), .val (.int (1 : Int32)), .val (.int (1 : Int32)), .val (.int (1 : Int32)), .val (.int (1 : Int32)), .val (.int (1 : Int32)), .val (.int (0 : Int32)), .val (.int (0 : Int32)), .val (.int (1 : Int32))] [])
          refine own_by (fun t k => XS.iload X23.here hx rfl (hb hby at_237) rfl k) ?_
          show ORun p e below s _ _ _ T23 (mkF m 239 #[.val (.long p1), .second, .val (.int p2), .val (.int p3), .val (.long v1), .second, .val (.int v2), .val (.int v3), .val (.long y4), .second, .val (.long v5), .second, .val (.int (1 : Int32)), .val (.int (1 : Int32)), .val (.int (1 : Int32)), .val (.int (1 : Int32)), .val (.int (1 : Int32)), .val (.int (1 : Int32)), .val (.int (0 : Int32)), .val (.int (0 : Int32)), .val (.int (1 : Int32))] [(.int (1 : Int32))])
          refine own_by (fun t k => XS.ifNo X23.here hx rfl (hb hby at_239) rfl ((if0 _ _).trans (feq (by decide)).1) k) ?_
          show ORun p e below s _ _ _ T23 (mkF m 242 #[.val (.long p1), .second, .val (.int p2), .val (.int p3), .val (.long v1), .second, .val (.int v2), .val (.int v3), .val (.long y4), .second, .val (.long v5), .second, .val (.int (1 : Int32)), .val (.int (1 : Int32)), .val (.int (1 : Int32)), .val (.int (1 : Int32)), .val (.int (1 : Int32)), .val (.int (1 : Int32)), .val (.int (0 : Int32)), .val (.int (0 : Int32)), .val (.int (1 : Int32))] [])
          refine own_by (fun t k => XS.iload X23.here hx rfl (hb hby at_242) rfl k) ?_
          show ORun p e below s _ _ _ T23 (mkF m 244 #[.val (.long p1), .second, .val (.int p2), .val (.int p3), .val (.long v1), .second, .val (.int v2), .val (.int v3), .val (.long y4), .second, .val (.long v5), .second, .val (.int (1 : Int32)), .val (.int (1 : Int32)), .val (.int (1 : Int32)), .val (.int (1 : Int32)), .val (.int (1 : Int32)), .val (.int (1 : Int32)), .val (.int (0 : Int32)), .val (.int (0 : Int32)), .val (.int (1 : Int32))] [(.int (1 : Int32))])
          refine own_by (fun t k => XS.ifNo X23.here hx rfl (hb hby at_244) rfl ((if0 _ _).trans (feq (by decide)).1) k) ?_
          show ORun p e below s _ _ _ T23 (mkF m 247 #[.val (.long p1), .second, .val (.int p2), .val (.int p3), .val (.long v1), .second, .val (.int v2), .val (.int v3), .val (.long y4), .second, .val (.long v5), .second, .val (.int (1 : Int32)), .val (.int (1 : Int32)), .val (.int (1 : Int32)), .val (.int (1 : Int32)), .val (.int (1 : Int32)), .val (.int (1 : Int32)), .val (.int (0 : Int32)), .val (.int (0 : Int32)), .val (.int (1 : Int32))] [])
          refine own_by (fun t k => XS.iconst X23.here hx rfl (hb hby at_247) k) ?_
          show ORun p e below s _ _ _ T23 (mkF m 248 #[.val (.long p1), .second, .val (.int p2), .val (.int p3), .val (.long v1), .second, .val (.int v2), .val (.int v3), .val (.long y4), .second, .val (.long v5), .second, .val (.int (1 : Int32)), .val (.int (1 : Int32)), .val (.int (1 : Int32)), .val (.int (1 : Int32)), .val (.int (1 : Int32)), .val (.int (1 : Int32)), .val (.int (0 : Int32)), .val (.int (0 : Int32)), .val (.int (1 : Int32))] [(.int (1 : Int32))])
          refine own_by (fun t k => XS.goto X23.here hx rfl (pc0 := 248) (pc' := 252) rfl (hb hby at_248) (by decide) (by decide) k) ?_
          show ORun p e below s _ _ _ T23 (mkF m 252 #[.val (.long p1), .second, .val (.int p2), .val (.int p3), .val (.long v1), .second, .val (.int v2), .val (.int v3), .val (.long y4), .second, .val (.long v5), .second, .val (.int (1 : Int32)), .val (.int (1 : Int32)), .val (.int (1 : Int32)), .val (.int (1 : Int32)), .val (.int (1 : Int32)), .val (.int (1 : Int32)), .val (.int (0 : Int32)), .val (.int (0 : Int32)), .val (.int (1 : Int32))] [(.int (1 : Int32))])
          refine own_retN X23 hx (t := .boolean) hret (by simp) hlk (hb hby at_252) (by decide) (by decide) ?_
          exact ⟨rfl, N23⟩
  · have t13 := own_nltL hc13 (a := v12.toInt) (b := v1.toInt) rfl rfl
    refine own_by (fun t k => XS.ifYes X4.here hx rfl (pc0 := 152) (pc' := 159) rfl (hb hby at_152) rfl (own_lcnlt hc13).2 (by decide) (by decide) k) ?_
    show ORun p e below s _ _ _ T4 (mkF m 159 #[.val (.long p1), .second, .val (.int p2), .val (.int p3), .val (.long v1), .second, .val (.int v2), .val (.int v3), .val (.long y4), .second, .val (.long v5), .second, .val (.int (1 : Int32)), .val (.int (1 : Int32)), .val (.int (1 : Int32)), .val (.int (1 : Int32)), .val (.int (1 : Int32)), .unset, .unset, .unset, .unset] [])
    refine own_by (fun t k => XS.iconst X4.here hx rfl (hb hby at_159) k) ?_
    show ORun p e below s _ _ _ T4 (mkF m 160 #[.val (.long p1), .second, .val (.int p2), .val (.int p3), .val (.long v1), .second, .val (.int v2), .val (.int v3), .val (.long y4), .second, .val (.long v5), .second, .val (.int (1 : Int32)), .val (.int (1 : Int32)), .val (.int (1 : Int32)), .val (.int (1 : Int32)), .val (.int (1 : Int32)), .unset, .unset, .unset, .unset] [(.int (0 : Int32))])
    refine own_by (fun t k => XS.istore X4.here hx rfl (hb hby at_160) rfl (l' := #[.val (.long p1), .second, .val (.int p2), .val (.int p3), .val (.long v1), .second, .val (.int v2), .val (.int v3), .val (.long y4), .second, .val (.long v5), .second, .val (.int (1 : Int32)), .val (.int (1 : Int32)), .val (.int (1 : Int32)), .val (.int (1 : Int32)), .val (.int (1 : Int32)), .val (.int (0 : Int32)), .unset, .unset, .unset]) rfl k) ?_
    show ORun p e below s _ _ _ T4 (mkF m 162 #[.val (.long p1), .second, .val (.int p2), .val (.int p3), .val (.long v1), .second, .val (.int v2), .val (.int v3), .val (.long y4), .second, .val (.long v5), .second, .val (.int (1 : Int32)), .val (.int (1 : Int32)), .val (.int (1 : Int32)), .val (.int (1 : Int32)), .val (.int (1 : Int32)), .val (.int (0 : Int32)), .unset, .unset, .unset] [])
    refine own_by (fun t k => XS.lload X4.here hx rfl (hb hby at_162) rfl k) ?_
    show ORun p e below s _ _ _ T4 (mkF m 164 #[.val (.long p1), .second, .val (.int p2), .val (.int p3), .val (.long v1), .second, .val (.int v2), .val (.int v3), .val (.long y4), .second, .val (.long v5), .second, .val (.int (1 : Int32)), .val (.int (1 : Int32)), .val (.int (1 : Int32)), .val (.int (1 : Int32)), .val (.int (1 : Int32)), .val (.int (0 : Int32)), .unset, .unset, .unset] [(.long y4)])
    refine own_by (fun t k => X4.ldc2Long hx hown (mvT hZ (hw _ (List.mem_of_getElem? (i := 8) rfl))) (g := (mkF m 164 #[.val (.long p1), .second, .val (.int p2), .val (.int p3), .val (.long v1), .second, .val (.int v2), .val (.int v3), .val (.long y4), .second, .val (.long v5), .second, .val (.int (1 : Int32)), .val (.int (1 : Int32)), .val (.int (1 : Int32)), .val (.int (1 : Int32)), .val (.int (1 : Int32)), .val (.int (0 : Int32)), .unset, .unset, .unset] [(.long y4)])) rfl (hb hby at_164) _ k) ?_
    show ORun p e below s _ _ _ T4 (mkF m 167 #[.val (.long p1), .second, .val (.int p2), .val (.int p3), .val (.long v1), .second, .val (.int v2), .val (.int v3), .val (.long y4), .second, .val (.long v5), .second, .val (.int (1 : Int32)), .val (.int (1 : Int32)), .val (.int (1 : Int32)), .val (.int (1 : Int32)), .val (.int (1 : Int32)), .val (.int (0 : Int32)), .unset, .unset, .unset] [(.long (65535 : Int64)), (.long y4)])
    refine own_by (fun t k => XS.land X4.here hx rfl (hb hby at_167) rfl k) (own_letJ (f := (fun z => (mkF m 168 #[.val (.long p1), .second, .val (.int p2), .val (.int p3), .val (.long v1), .second, .val (.int v2), .val (.int v3), .val (.long y4), .second, .val (.long v5), .second, .val (.int (1 : Int32)), .val (.int (1 : Int32)), .val (.int (1 : Int32)), .val (.int (1 : Int32)), .val (.int (1 : Int32)), .val (.int (0 : Int32)), .unset, .unset, .unset] [(.long z)]))) (y4 &&& (65535 : Int64)) fun v25 hv25 => ?_)
    show ORun p e below s _ _ _ T4 (mkF m 168 #[.val (.long p1), .second, .val (.int p2), .val (.int p3), .val (.long v1), .second, .val (.int v2), .val (.int v3), .val (.long y4), .second, .val (.long v5), .second, .val (.int (1 : Int32)), .val (.int (1 : Int32)), .val (.int (1 : Int32)), .val (.int (1 : Int32)), .val (.int (1 : Int32)), .val (.int (0 : Int32)), .unset, .unset, .unset] [(.long v25)])
    have a25a : v25.toInt = y4.toInt % 65536 := by rw [hv25]; exact c_maskL y4 (65535 : Int64) 16 (by decide) (by decide)
    have r25 := rng64 v25
    refine own_by (fun t k => XS.iload X4.here hx rfl (hb hby at_168) rfl k) ?_
    show ORun p e below s _ _ _ T4 (mkF m 170 #[.val (.long p1), .second, .val (.int p2), .val (.int p3), .val (.long v1), .second, .val (.int v2), .val (.int v3), .val (.long y4), .second, .val (.long v5), .second, .val (.int (1 : Int32)), .val (.int (1 : Int32)), .val (.int (1 : Int32)), .val (.int (1 : Int32)), .val (.int (1 : Int32)), .val (.int (0 : Int32)), .unset, .unset, .unset] [(.int v3), (.long v25)])
    refine own_by (fun t k => XS.i2l X4.here hx rfl (hb hby at_170) rfl k) (own_letJ (f := (fun z => (mkF m 171 #[.val (.long p1), .second, .val (.int p2), .val (.int p3), .val (.long v1), .second, .val (.int v2), .val (.int v3), .val (.long y4), .second, .val (.long v5), .second, .val (.int (1 : Int32)), .val (.int (1 : Int32)), .val (.int (1 : Int32)), .val (.int (1 : Int32)), .val (.int (1 : Int32)), .val (.int (0 : Int32)), .unset, .unset, .unset] [(.long z), (.long v25)]))) (v3.toInt64) fun v26 hv26 => ?_)
    show ORun p e below s _ _ _ T4 (mkF m 171 #[.val (.long p1), .second, .val (.int p2), .val (.int p3), .val (.long v1), .second, .val (.int v2), .val (.int v3), .val (.long y4), .second, .val (.long v5), .second, .val (.int (1 : Int32)), .val (.int (1 : Int32)), .val (.int (1 : Int32)), .val (.int (1 : Int32)), .val (.int (1 : Int32)), .val (.int (0 : Int32)), .unset, .unset, .unset] [(.long v26), (.long v25)])
    have a26a : v26.toInt = v3.toInt := by rw [hv26]; exact c_i2l v3
    have r26 := rng64 v26
    refine own_by (fun t k => XS.lcmp X4.here hx rfl (hb hby at_171) rfl k) ?_
    show ORun p e below s _ _ _ T4 (mkF m 172 #[.val (.long p1), .second, .val (.int p2), .val (.int p3), .val (.long v1), .second, .val (.int v2), .val (.int v3), .val (.long y4), .second, .val (.long v5), .second, .val (.int (1 : Int32)), .val (.int (1 : Int32)), .val (.int (1 : Int32)), .val (.int (1 : Int32)), .val (.int (1 : Int32)), .val (.int (0 : Int32)), .unset, .unset, .unset] [(.int (lcmpW v25 v26))])
    by_cases hc27 : v25 = v26
    · have t27 := own_eqL hc27 (a := v25.toInt) (b := v26.toInt) rfl rfl
      refine own_by (fun t k => XS.ifNo X4.here hx rfl (hb hby at_172) rfl (own_lceq hc27).2 k) ?_
      show ORun p e below s _ _ _ T4 (mkF m 175 #[.val (.long p1), .second, .val (.int p2), .val (.int p3), .val (.long v1), .second, .val (.int v2), .val (.int v3), .val (.long y4), .second, .val (.long v5), .second, .val (.int (1 : Int32)), .val (.int (1 : Int32)), .val (.int (1 : Int32)), .val (.int (1 : Int32)), .val (.int (1 : Int32)), .val (.int (0 : Int32)), .unset, .unset, .unset] [])
      refine own_by (fun t k => XS.iconst X4.here hx rfl (hb hby at_175) k) ?_
      show ORun p e below s _ _ _ T4 (mkF m 176 #[.val (.long p1), .second, .val (.int p2), .val (.int p3), .val (.long v1), .second, .val (.int v2), .val (.int v3), .val (.long y4), .second, .val (.long v5), .second, .val (.int (1 : Int32)), .val (.int (1 : Int32)), .val (.int (1 : Int32)), .val (.int (1 : Int32)), .val (.int (1 : Int32)), .val (.int (0 : Int32)), .unset, .unset, .unset] [(.int (1 : Int32))])
      refine own_by (fun t k => XS.goto X4.here hx rfl (pc0 := 176) (pc' := 180) rfl (hb hby at_176) (by decide) (by decide) k) ?_
      show ORun p e below s _ _ _ T4 (mkF m 180 #[.val (.long p1), .second, .val (.int p2), .val (.int p3), .val (.long v1), .second, .val (.int v2), .val (.int v3), .val (.long y4), .second, .val (.long v5), .second, .val (.int (1 : Int32)), .val (.int (1 : Int32)), .val (.int (1 : Int32)), .val (.int (1 : Int32)), .val (.int (1 : Int32)), .val (.int (0 : Int32)), .unset, .unset, .unset] [(.int (1 : Int32))])
      refine own_by (fun t k => XS.istore X4.here hx rfl (hb hby at_180) rfl (l' := #[.val (.long p1), .second, .val (.int p2), .val (.int p3), .val (.long v1), .second, .val (.int v2), .val (.int v3), .val (.long y4), .second, .val (.long v5), .second, .val (.int (1 : Int32)), .val (.int (1 : Int32)), .val (.int (1 : Int32)), .val (.int (1 : Int32)), .val (.int (1 : Int32)), .val (.int (0 : Int32)), .val (.int (1 : Int32)), .unset, .unset]) rfl k) ?_
      show ORun p e below s _ _ _ T4 (mkF m 182 #[.val (.long p1), .second, .val (.int p2), .val (.int p3), .val (.long v1), .second, .val (.int v2), .val (.int v3), .val (.long y4), .second, .val (.long v5), .second, .val (.int (1 : Int32)), .val (.int (1 : Int32)), .val (.int (1 : Int32)), .val (.int (1 : Int32)), .val (.int (1 : Int32)), .val (.int (0 : Int32)), .val (.int (1 : Int32)), .unset, .unset] [])
      refine own_by (fun t k => XS.lload X4.here hx rfl (hb hby at_182) rfl k) ?_
      show ORun p e below s _ _ _ T4 (mkF m 184 #[.val (.long p1), .second, .val (.int p2), .val (.int p3), .val (.long v1), .second, .val (.int v2), .val (.int v3), .val (.long y4), .second, .val (.long v5), .second, .val (.int (1 : Int32)), .val (.int (1 : Int32)), .val (.int (1 : Int32)), .val (.int (1 : Int32)), .val (.int (1 : Int32)), .val (.int (0 : Int32)), .val (.int (1 : Int32)), .unset, .unset] [(.long v5)])
      refine own_by (fun t k => X4.ldc2Long hx hown (mvT hZ (hw _ (List.mem_of_getElem? (i := 9) rfl))) (g := (mkF m 184 #[.val (.long p1), .second, .val (.int p2), .val (.int p3), .val (.long v1), .second, .val (.int v2), .val (.int v3), .val (.long y4), .second, .val (.long v5), .second, .val (.int (1 : Int32)), .val (.int (1 : Int32)), .val (.int (1 : Int32)), .val (.int (1 : Int32)), .val (.int (1 : Int32)), .val (.int (0 : Int32)), .val (.int (1 : Int32)), .unset, .unset] [(.long v5)])) rfl (hb hby at_184) _ k) ?_
      show ORun p e below s _ _ _ T4 (mkF m 187 #[.val (.long p1), .second, .val (.int p2), .val (.int p3), .val (.long v1), .second, .val (.int v2), .val (.int v3), .val (.long y4), .second, .val (.long v5), .second, .val (.int (1 : Int32)), .val (.int (1 : Int32)), .val (.int (1 : Int32)), .val (.int (1 : Int32)), .val (.int (1 : Int32)), .val (.int (0 : Int32)), .val (.int (1 : Int32)), .unset, .unset] [(.long (16 : Int64)), (.long v5)])
      refine own_by (fun t k => XS.lcmp X4.here hx rfl (hb hby at_187) rfl k) ?_
      show ORun p e below s _ _ _ T4 (mkF m 188 #[.val (.long p1), .second, .val (.int p2), .val (.int p3), .val (.long v1), .second, .val (.int v2), .val (.int v3), .val (.long y4), .second, .val (.long v5), .second, .val (.int (1 : Int32)), .val (.int (1 : Int32)), .val (.int (1 : Int32)), .val (.int (1 : Int32)), .val (.int (1 : Int32)), .val (.int (0 : Int32)), .val (.int (1 : Int32)), .unset, .unset] [(.int (lcmpW v5 (16 : Int64)))])
      by_cases hc28 : v5 < (16 : Int64)
      · have t28 := own_ltL hc28 (a := v5.toInt) (b := 16) rfl (by decide)
        refine own_by (fun t k => XS.ifYes X4.here hx rfl (pc0 := 188) (pc' := 208) rfl (hb hby at_188) rfl (own_lclt hc28).1 (by decide) (by decide) k) ?_
        show ORun p e below s _ _ _ T4 (mkF m 208 #[.val (.long p1), .second, .val (.int p2), .val (.int p3), .val (.long v1), .second, .val (.int v2), .val (.int v3), .val (.long y4), .second, .val (.long v5), .second, .val (.int (1 : Int32)), .val (.int (1 : Int32)), .val (.int (1 : Int32)), .val (.int (1 : Int32)), .val (.int (1 : Int32)), .val (.int (0 : Int32)), .val (.int (1 : Int32)), .unset, .unset] [])
        refine own_by (fun t k => XS.iconst X4.here hx rfl (hb hby at_208) k) ?_
        show ORun p e below s _ _ _ T4 (mkF m 209 #[.val (.long p1), .second, .val (.int p2), .val (.int p3), .val (.long v1), .second, .val (.int v2), .val (.int v3), .val (.long y4), .second, .val (.long v5), .second, .val (.int (1 : Int32)), .val (.int (1 : Int32)), .val (.int (1 : Int32)), .val (.int (1 : Int32)), .val (.int (1 : Int32)), .val (.int (0 : Int32)), .val (.int (1 : Int32)), .unset, .unset] [(.int (1 : Int32))])
        refine own_by (fun t k => XS.goto X4.here hx rfl (pc0 := 209) (pc' := 213) rfl (hb hby at_209) (by decide) (by decide) k) ?_
        show ORun p e below s _ _ _ T4 (mkF m 213 #[.val (.long p1), .second, .val (.int p2), .val (.int p3), .val (.long v1), .second, .val (.int v2), .val (.int v3), .val (.long y4), .second, .val (.long v5), .second, .val (.int (1 : Int32)), .val (.int (1 : Int32)), .val (.int (1 : Int32)), .val (.int (1 : Int32)), .val (.int (1 : Int32)), .val (.int (0 : Int32)), .val (.int (1 : Int32)), .unset, .unset] [(.int (1 : Int32))])
        refine own_by (fun t k => XS.istore X4.here hx rfl (hb hby at_213) rfl (l' := #[.val (.long p1), .second, .val (.int p2), .val (.int p3), .val (.long v1), .second, .val (.int v2), .val (.int v3), .val (.long y4), .second, .val (.long v5), .second, .val (.int (1 : Int32)), .val (.int (1 : Int32)), .val (.int (1 : Int32)), .val (.int (1 : Int32)), .val (.int (1 : Int32)), .val (.int (0 : Int32)), .val (.int (1 : Int32)), .val (.int (1 : Int32)), .unset]) rfl k) ?_
        show ORun p e below s _ _ _ T4 (mkF m 215 #[.val (.long p1), .second, .val (.int p2), .val (.int p3), .val (.long v1), .second, .val (.int v2), .val (.int v3), .val (.long y4), .second, .val (.long v5), .second, .val (.int (1 : Int32)), .val (.int (1 : Int32)), .val (.int (1 : Int32)), .val (.int (1 : Int32)), .val (.int (1 : Int32)), .val (.int (0 : Int32)), .val (.int (1 : Int32)), .val (.int (1 : Int32)), .unset] [])
        refine own_by (fun t k => XS.iload X4.here hx rfl (hb hby at_215) rfl k) ?_
        show ORun p e below s _ _ _ T4 (mkF m 217 #[.val (.long p1), .second, .val (.int p2), .val (.int p3), .val (.long v1), .second, .val (.int v2), .val (.int v3), .val (.long y4), .second, .val (.long v5), .second, .val (.int (1 : Int32)), .val (.int (1 : Int32)), .val (.int (1 : Int32)), .val (.int (1 : Int32)), .val (.int (1 : Int32)), .val (.int (0 : Int32)), .val (.int (1 : Int32)), .val (.int (1 : Int32)), .unset] [(.int (0 : Int32))])
        refine own_by (fun t k => XS.ifNo X4.here hx rfl (hb hby at_217) rfl ((if0 _ _).trans (teq (by decide)).2) k) ?_
        show ORun p e below s _ _ _ T4 (mkF m 220 #[.val (.long p1), .second, .val (.int p2), .val (.int p3), .val (.long v1), .second, .val (.int v2), .val (.int v3), .val (.long y4), .second, .val (.long v5), .second, .val (.int (1 : Int32)), .val (.int (1 : Int32)), .val (.int (1 : Int32)), .val (.int (1 : Int32)), .val (.int (1 : Int32)), .val (.int (0 : Int32)), .val (.int (1 : Int32)), .val (.int (1 : Int32)), .unset] [])
        refine own_by (fun t k => XS.iload X4.here hx rfl (hb hby at_220) rfl k) ?_
        show ORun p e below s _ _ _ T4 (mkF m 222 #[.val (.long p1), .second, .val (.int p2), .val (.int p3), .val (.long v1), .second, .val (.int v2), .val (.int v3), .val (.long y4), .second, .val (.long v5), .second, .val (.int (1 : Int32)), .val (.int (1 : Int32)), .val (.int (1 : Int32)), .val (.int (1 : Int32)), .val (.int (1 : Int32)), .val (.int (0 : Int32)), .val (.int (1 : Int32)), .val (.int (1 : Int32)), .unset] [(.int (1 : Int32))])
        refine own_by (fun t k => XS.ifNo X4.here hx rfl (hb hby at_222) rfl ((if0 _ _).trans (feq (by decide)).1) k) ?_
        show ORun p e below s _ _ _ T4 (mkF m 225 #[.val (.long p1), .second, .val (.int p2), .val (.int p3), .val (.long v1), .second, .val (.int v2), .val (.int v3), .val (.long y4), .second, .val (.long v5), .second, .val (.int (1 : Int32)), .val (.int (1 : Int32)), .val (.int (1 : Int32)), .val (.int (1 : Int32)), .val (.int (1 : Int32)), .val (.int (0 : Int32)), .val (.int (1 : Int32)), .val (.int (1 : Int32)), .unset] [])
        refine own_by (fun t k => XS.iload X4.here hx rfl (hb hby at_225) rfl k) ?_
        show ORun p e below s _ _ _ T4 (mkF m 227 #[.val (.long p1), .second, .val (.int p2), .val (.int p3), .val (.long v1), .second, .val (.int v2), .val (.int v3), .val (.long y4), .second, .val (.long v5), .second, .val (.int (1 : Int32)), .val (.int (1 : Int32)), .val (.int (1 : Int32)), .val (.int (1 : Int32)), .val (.int (1 : Int32)), .val (.int (0 : Int32)), .val (.int (1 : Int32)), .val (.int (1 : Int32)), .unset] [(.int (1 : Int32))])
        refine own_by (fun t k => XS.ifNo X4.here hx rfl (hb hby at_227) rfl ((if0 _ _).trans (feq (by decide)).1) k) ?_
        show ORun p e below s _ _ _ T4 (mkF m 230 #[.val (.long p1), .second, .val (.int p2), .val (.int p3), .val (.long v1), .second, .val (.int v2), .val (.int v3), .val (.long y4), .second, .val (.long v5), .second, .val (.int (1 : Int32)), .val (.int (1 : Int32)), .val (.int (1 : Int32)), .val (.int (1 : Int32)), .val (.int (1 : Int32)), .val (.int (0 : Int32)), .val (.int (1 : Int32)), .val (.int (1 : Int32)), .unset] [])
        refine own_by (fun t k => XS.iconst X4.here hx rfl (hb hby at_230) k) ?_
        show ORun p e below s _ _ _ T4 (mkF m 231 #[.val (.long p1), .second, .val (.int p2), .val (.int p3), .val (.long v1), .second, .val (.int v2), .val (.int v3), .val (.long y4), .second, .val (.long v5), .second, .val (.int (1 : Int32)), .val (.int (1 : Int32)), .val (.int (1 : Int32)), .val (.int (1 : Int32)), .val (.int (1 : Int32)), .val (.int (0 : Int32)), .val (.int (1 : Int32)), .val (.int (1 : Int32)), .unset] [(.int (1 : Int32))])
        refine own_by (fun t k => XS.goto X4.here hx rfl (pc0 := 231) (pc' := 235) rfl (hb hby at_231) (by decide) (by decide) k) ?_
        show ORun p e below s _ _ _ T4 (mkF m 235 #[.val (.long p1), .second, .val (.int p2), .val (.int p3), .val (.long v1), .second, .val (.int v2), .val (.int v3), .val (.long y4), .second, .val (.long v5), .second, .val (.int (1 : Int32)), .val (.int (1 : Int32)), .val (.int (1 : Int32)), .val (.int (1 : Int32)), .val (.int (1 : Int32)), .val (.int (0 : Int32)), .val (.int (1 : Int32)), .val (.int (1 : Int32)), .unset] [(.int (1 : Int32))])
        refine own_by (fun t k => XS.istore X4.here hx rfl (hb hby at_235) rfl (l' := #[.val (.long p1), .second, .val (.int p2), .val (.int p3), .val (.long v1), .second, .val (.int v2), .val (.int v3), .val (.long y4), .second, .val (.long v5), .second, .val (.int (1 : Int32)), .val (.int (1 : Int32)), .val (.int (1 : Int32)), .val (.int (1 : Int32)), .val (.int (1 : Int32)), .val (.int (0 : Int32)), .val (.int (1 : Int32)), .val (.int (1 : Int32)), .val (.int (1 : Int32))]) rfl k) ?_
        show ORun p e below s _ _ _ T4 (mkF m 237 #[.val (.long p1), .second, .val (.int p2), .val (.int p3), .val (.long v1), .second, .val (.int v2), .val (.int v3), .val (.long y4), .second, .val (.long v5), .second, .val (.int (1 : Int32)), .val (.int (1 : Int32)), .val (.int (1 : Int32)), .val (.int (1 : Int32)), .val (.int (1 : Int32)), .val (.int (0 : Int32)), .val (.int (1 : Int32)), .val (.int (1 : Int32)), .val (.int (1 : Int32))] [])
        refine own_by (fun t k => XS.iload X4.here hx rfl (hb hby at_237) rfl k) ?_
        show ORun p e below s _ _ _ T4 (mkF m 239 #[.val (.long p1), .second, .val (.int p2), .val (.int p3), .val (.long v1), .second, .val (.int v2), .val (.int v3), .val (.long y4), .second, .val (.long v5), .second, .val (.int (1 : Int32)), .val (.int (1 : Int32)), .val (.int (1 : Int32)), .val (.int (1 : Int32)), .val (.int (1 : Int32)), .val (.int (0 : Int32)), .val (.int (1 : Int32)), .val (.int (1 : Int32)), .val (.int (1 : Int32))] [(.int (1 : Int32))])
        refine own_by (fun t k => XS.ifNo X4.here hx rfl (hb hby at_239) rfl ((if0 _ _).trans (feq (by decide)).1) k) ?_
        show ORun p e below s _ _ _ T4 (mkF m 242 #[.val (.long p1), .second, .val (.int p2), .val (.int p3), .val (.long v1), .second, .val (.int v2), .val (.int v3), .val (.long y4), .second, .val (.long v5), .second, .val (.int (1 : Int32)), .val (.int (1 : Int32)), .val (.int (1 : Int32)), .val (.int (1 : Int32)), .val (.int (1 : Int32)), .val (.int (0 : Int32)), .val (.int (1 : Int32)), .val (.int (1 : Int32)), .val (.int (1 : Int32))] [])
        refine own_by (fun t k => XS.iload X4.here hx rfl (hb hby at_242) rfl k) ?_
        show ORun p e below s _ _ _ T4 (mkF m 244 #[.val (.long p1), .second, .val (.int p2), .val (.int p3), .val (.long v1), .second, .val (.int v2), .val (.int v3), .val (.long y4), .second, .val (.long v5), .second, .val (.int (1 : Int32)), .val (.int (1 : Int32)), .val (.int (1 : Int32)), .val (.int (1 : Int32)), .val (.int (1 : Int32)), .val (.int (0 : Int32)), .val (.int (1 : Int32)), .val (.int (1 : Int32)), .val (.int (1 : Int32))] [(.int (1 : Int32))])
        refine own_by (fun t k => XS.ifNo X4.here hx rfl (hb hby at_244) rfl ((if0 _ _).trans (feq (by decide)).1) k) ?_
        show ORun p e below s _ _ _ T4 (mkF m 247 #[.val (.long p1), .second, .val (.int p2), .val (.int p3), .val (.long v1), .second, .val (.int v2), .val (.int v3), .val (.long y4), .second, .val (.long v5), .second, .val (.int (1 : Int32)), .val (.int (1 : Int32)), .val (.int (1 : Int32)), .val (.int (1 : Int32)), .val (.int (1 : Int32)), .val (.int (0 : Int32)), .val (.int (1 : Int32)), .val (.int (1 : Int32)), .val (.int (1 : Int32))] [])
        refine own_by (fun t k => XS.iconst X4.here hx rfl (hb hby at_247) k) ?_
        show ORun p e below s _ _ _ T4 (mkF m 248 #[.val (.long p1), .second, .val (.int p2), .val (.int p3), .val (.long v1), .second, .val (.int v2), .val (.int v3), .val (.long y4), .second, .val (.long v5), .second, .val (.int (1 : Int32)), .val (.int (1 : Int32)), .val (.int (1 : Int32)), .val (.int (1 : Int32)), .val (.int (1 : Int32)), .val (.int (0 : Int32)), .val (.int (1 : Int32)), .val (.int (1 : Int32)), .val (.int (1 : Int32))] [(.int (1 : Int32))])
        refine own_by (fun t k => XS.goto X4.here hx rfl (pc0 := 248) (pc' := 252) rfl (hb hby at_248) (by decide) (by decide) k) ?_
        show ORun p e below s _ _ _ T4 (mkF m 252 #[.val (.long p1), .second, .val (.int p2), .val (.int p3), .val (.long v1), .second, .val (.int v2), .val (.int v3), .val (.long y4), .second, .val (.long v5), .second, .val (.int (1 : Int32)), .val (.int (1 : Int32)), .val (.int (1 : Int32)), .val (.int (1 : Int32)), .val (.int (1 : Int32)), .val (.int (0 : Int32)), .val (.int (1 : Int32)), .val (.int (1 : Int32)), .val (.int (1 : Int32))] [(.int (1 : Int32))])
        refine own_retN X4 hx (t := .boolean) hret (by simp) hlk (hb hby at_252) (by decide) (by decide) ?_
        exact ⟨rfl, N4⟩
      · have t28 := own_nltL hc28 (a := v5.toInt) (b := 16) rfl (by decide)
        refine own_by (fun t k => XS.ifNo X4.here hx rfl (hb hby at_188) rfl (own_lcnlt hc28).1 k) ?_
        show ORun p e below s _ _ _ T4 (mkF m 191 #[.val (.long p1), .second, .val (.int p2), .val (.int p3), .val (.long v1), .second, .val (.int v2), .val (.int v3), .val (.long y4), .second, .val (.long v5), .second, .val (.int (1 : Int32)), .val (.int (1 : Int32)), .val (.int (1 : Int32)), .val (.int (1 : Int32)), .val (.int (1 : Int32)), .val (.int (0 : Int32)), .val (.int (1 : Int32)), .unset, .unset] [])
        refine own_by (fun t k => XS.lload X4.here hx rfl (hb hby at_191) rfl k) ?_
        show ORun p e below s _ _ _ T4 (mkF m 193 #[.val (.long p1), .second, .val (.int p2), .val (.int p3), .val (.long v1), .second, .val (.int v2), .val (.int v3), .val (.long y4), .second, .val (.long v5), .second, .val (.int (1 : Int32)), .val (.int (1 : Int32)), .val (.int (1 : Int32)), .val (.int (1 : Int32)), .val (.int (1 : Int32)), .val (.int (0 : Int32)), .val (.int (1 : Int32)), .unset, .unset] [(.long v5)])
        refine own_by (fun t k => X4.ldc2Long hx hown (mvT hZ (hw _ (List.mem_of_getElem? (i := 9) rfl))) (g := (mkF m 193 #[.val (.long p1), .second, .val (.int p2), .val (.int p3), .val (.long v1), .second, .val (.int v2), .val (.int v3), .val (.long y4), .second, .val (.long v5), .second, .val (.int (1 : Int32)), .val (.int (1 : Int32)), .val (.int (1 : Int32)), .val (.int (1 : Int32)), .val (.int (1 : Int32)), .val (.int (0 : Int32)), .val (.int (1 : Int32)), .unset, .unset] [(.long v5)])) rfl (hb hby at_193) _ k) ?_
        show ORun p e below s _ _ _ T4 (mkF m 196 #[.val (.long p1), .second, .val (.int p2), .val (.int p3), .val (.long v1), .second, .val (.int v2), .val (.int v3), .val (.long y4), .second, .val (.long v5), .second, .val (.int (1 : Int32)), .val (.int (1 : Int32)), .val (.int (1 : Int32)), .val (.int (1 : Int32)), .val (.int (1 : Int32)), .val (.int (0 : Int32)), .val (.int (1 : Int32)), .unset, .unset] [(.long (16 : Int64)), (.long v5)])
        refine own_by (fun t k => XS.lsub X4.here hx rfl (hb hby at_196) rfl k) (own_letJ (f := (fun z => (mkF m 197 #[.val (.long p1), .second, .val (.int p2), .val (.int p3), .val (.long v1), .second, .val (.int v2), .val (.int v3), .val (.long y4), .second, .val (.long v5), .second, .val (.int (1 : Int32)), .val (.int (1 : Int32)), .val (.int (1 : Int32)), .val (.int (1 : Int32)), .val (.int (1 : Int32)), .val (.int (0 : Int32)), .val (.int (1 : Int32)), .unset, .unset] [(.long z)]))) (v5 - (16 : Int64)) fun v29 hv29 => ?_)
        show ORun p e below s _ _ _ T4 (mkF m 197 #[.val (.long p1), .second, .val (.int p2), .val (.int p3), .val (.long v1), .second, .val (.int v2), .val (.int v3), .val (.long y4), .second, .val (.long v5), .second, .val (.int (1 : Int32)), .val (.int (1 : Int32)), .val (.int (1 : Int32)), .val (.int (1 : Int32)), .val (.int (1 : Int32)), .val (.int (0 : Int32)), .val (.int (1 : Int32)), .unset, .unset] [(.long v29)])
        have r29 := rng64 v29
        have a29 : v29.toInt = v5.toInt - 16 := by
          have q : (v29.toInt - (v5.toInt - 16)) % 18446744073709551616 = 0 := by rw [hv29]; exact c_lsub v5 (16 : Int64)
          omega
        refine own_by (fun t k => XS.iload X4.here hx rfl (hb hby at_197) rfl k) ?_
        show ORun p e below s _ _ _ T4 (mkF m 199 #[.val (.long p1), .second, .val (.int p2), .val (.int p3), .val (.long v1), .second, .val (.int v2), .val (.int v3), .val (.long y4), .second, .val (.long v5), .second, .val (.int (1 : Int32)), .val (.int (1 : Int32)), .val (.int (1 : Int32)), .val (.int (1 : Int32)), .val (.int (1 : Int32)), .val (.int (0 : Int32)), .val (.int (1 : Int32)), .unset, .unset] [(.int v3), (.long v29)])
        refine own_callS X4 hx hZ hown (hw _ (List.mem_of_getElem? (i := 10) rfl)) (hw _ (List.mem_of_getElem? (i := 11) rfl)) (hw _ (List.mem_of_getElem? (i := 12) rfl)) (hw _ (List.mem_of_getElem? (i := 13) rfl)) (by decide) (rm2 l Z a0 hw [] h0 n0 Z0 v29 v3 (by omega) (by omega)) e4 (by decide) (W := 0) (by decide) (by decide) (by decide) (argsL := [(.long v29), (.int v3)]) (rest := []) (by rw [hml]; rfl) (lenOf pd_1 rfl) rfl rfl (Nat.le_of_eq rfl) (hb hby at_199) ?_
        intro T30 L30 u30 X30 hQ30
        obtain ⟨y30, rfl, hy30, Nq30, e30⟩ := hQ30
        have N30 := Fr.app N4 Nq30
        show ORun p e below s _ _ _ T30 (mkF m 202 #[.val (.long p1), .second, .val (.int p2), .val (.int p3), .val (.long v1), .second, .val (.int v2), .val (.int v3), .val (.long y4), .second, .val (.long v5), .second, .val (.int (1 : Int32)), .val (.int (1 : Int32)), .val (.int (1 : Int32)), .val (.int (1 : Int32)), .val (.int (1 : Int32)), .val (.int (0 : Int32)), .val (.int (1 : Int32)), .unset, .unset] [(.long y30)])
        refine own_by (fun t k => XS.lload X30.here hx rfl (hb hby at_202) rfl k) ?_
        show ORun p e below s _ _ _ T30 (mkF m 204 #[.val (.long p1), .second, .val (.int p2), .val (.int p3), .val (.long v1), .second, .val (.int v2), .val (.int v3), .val (.long y4), .second, .val (.long v5), .second, .val (.int (1 : Int32)), .val (.int (1 : Int32)), .val (.int (1 : Int32)), .val (.int (1 : Int32)), .val (.int (1 : Int32)), .val (.int (0 : Int32)), .val (.int (1 : Int32)), .unset, .unset] [(.long v1), (.long y30)])
        refine own_by (fun t k => XS.lcmp X30.here hx rfl (hb hby at_204) rfl k) ?_
        show ORun p e below s _ _ _ T30 (mkF m 205 #[.val (.long p1), .second, .val (.int p2), .val (.int p3), .val (.long v1), .second, .val (.int v2), .val (.int v3), .val (.long y4), .second, .val (.long v5), .second, .val (.int (1 : Int32)), .val (.int (1 : Int32)), .val (.int (1 : Int32)), .val (.int (1 : Int32)), .val (.int (1 : Int32)), .val (.int (0 : Int32)), .val (.int (1 : Int32)), .unset, .unset] [(.int (lcmpW y30 v1))])
        by_cases hc31 : y30 < v1
        · have t31 := own_ltL hc31 (a := y30.toInt) (b := v1.toInt) rfl rfl
          refine own_by (fun t k => XS.ifNo X30.here hx rfl (hb hby at_205) rfl (own_lclt hc31).2 k) ?_
          show ORun p e below s _ _ _ T30 (mkF m 208 #[.val (.long p1), .second, .val (.int p2), .val (.int p3), .val (.long v1), .second, .val (.int v2), .val (.int v3), .val (.long y4), .second, .val (.long v5), .second, .val (.int (1 : Int32)), .val (.int (1 : Int32)), .val (.int (1 : Int32)), .val (.int (1 : Int32)), .val (.int (1 : Int32)), .val (.int (0 : Int32)), .val (.int (1 : Int32)), .unset, .unset] [])
          refine own_by (fun t k => XS.iconst X30.here hx rfl (hb hby at_208) k) ?_
          show ORun p e below s _ _ _ T30 (mkF m 209 #[.val (.long p1), .second, .val (.int p2), .val (.int p3), .val (.long v1), .second, .val (.int v2), .val (.int v3), .val (.long y4), .second, .val (.long v5), .second, .val (.int (1 : Int32)), .val (.int (1 : Int32)), .val (.int (1 : Int32)), .val (.int (1 : Int32)), .val (.int (1 : Int32)), .val (.int (0 : Int32)), .val (.int (1 : Int32)), .unset, .unset] [(.int (1 : Int32))])
          refine own_by (fun t k => XS.goto X30.here hx rfl (pc0 := 209) (pc' := 213) rfl (hb hby at_209) (by decide) (by decide) k) ?_
          show ORun p e below s _ _ _ T30 (mkF m 213 #[.val (.long p1), .second, .val (.int p2), .val (.int p3), .val (.long v1), .second, .val (.int v2), .val (.int v3), .val (.long y4), .second, .val (.long v5), .second, .val (.int (1 : Int32)), .val (.int (1 : Int32)), .val (.int (1 : Int32)), .val (.int (1 : Int32)), .val (.int (1 : Int32)), .val (.int (0 : Int32)), .val (.int (1 : Int32)), .unset, .unset] [(.int (1 : Int32))])
          refine own_by (fun t k => XS.istore X30.here hx rfl (hb hby at_213) rfl (l' := #[.val (.long p1), .second, .val (.int p2), .val (.int p3), .val (.long v1), .second, .val (.int v2), .val (.int v3), .val (.long y4), .second, .val (.long v5), .second, .val (.int (1 : Int32)), .val (.int (1 : Int32)), .val (.int (1 : Int32)), .val (.int (1 : Int32)), .val (.int (1 : Int32)), .val (.int (0 : Int32)), .val (.int (1 : Int32)), .val (.int (1 : Int32)), .unset]) rfl k) ?_
          show ORun p e below s _ _ _ T30 (mkF m 215 #[.val (.long p1), .second, .val (.int p2), .val (.int p3), .val (.long v1), .second, .val (.int v2), .val (.int v3), .val (.long y4), .second, .val (.long v5), .second, .val (.int (1 : Int32)), .val (.int (1 : Int32)), .val (.int (1 : Int32)), .val (.int (1 : Int32)), .val (.int (1 : Int32)), .val (.int (0 : Int32)), .val (.int (1 : Int32)), .val (.int (1 : Int32)), .unset] [])
          refine own_by (fun t k => XS.iload X30.here hx rfl (hb hby at_215) rfl k) ?_
          show ORun p e below s _ _ _ T30 (mkF m 217 #[.val (.long p1), .second, .val (.int p2), .val (.int p3), .val (.long v1), .second, .val (.int v2), .val (.int v3), .val (.long y4), .second, .val (.long v5), .second, .val (.int (1 : Int32)), .val (.int (1 : Int32)), .val (.int (1 : Int32)), .val (.int (1 : Int32)), .val (.int (1 : Int32)), .val (.int (0 : Int32)), .val (.int (1 : Int32)), .val (.int (1 : Int32)), .unset] [(.int (0 : Int32))])
          refine own_by (fun t k => XS.ifNo X30.here hx rfl (hb hby at_217) rfl ((if0 _ _).trans (teq (by decide)).2) k) ?_
          show ORun p e below s _ _ _ T30 (mkF m 220 #[.val (.long p1), .second, .val (.int p2), .val (.int p3), .val (.long v1), .second, .val (.int v2), .val (.int v3), .val (.long y4), .second, .val (.long v5), .second, .val (.int (1 : Int32)), .val (.int (1 : Int32)), .val (.int (1 : Int32)), .val (.int (1 : Int32)), .val (.int (1 : Int32)), .val (.int (0 : Int32)), .val (.int (1 : Int32)), .val (.int (1 : Int32)), .unset] [])
          refine own_by (fun t k => XS.iload X30.here hx rfl (hb hby at_220) rfl k) ?_
          show ORun p e below s _ _ _ T30 (mkF m 222 #[.val (.long p1), .second, .val (.int p2), .val (.int p3), .val (.long v1), .second, .val (.int v2), .val (.int v3), .val (.long y4), .second, .val (.long v5), .second, .val (.int (1 : Int32)), .val (.int (1 : Int32)), .val (.int (1 : Int32)), .val (.int (1 : Int32)), .val (.int (1 : Int32)), .val (.int (0 : Int32)), .val (.int (1 : Int32)), .val (.int (1 : Int32)), .unset] [(.int (1 : Int32))])
          refine own_by (fun t k => XS.ifNo X30.here hx rfl (hb hby at_222) rfl ((if0 _ _).trans (feq (by decide)).1) k) ?_
          show ORun p e below s _ _ _ T30 (mkF m 225 #[.val (.long p1), .second, .val (.int p2), .val (.int p3), .val (.long v1), .second, .val (.int v2), .val (.int v3), .val (.long y4), .second, .val (.long v5), .second, .val (.int (1 : Int32)), .val (.int (1 : Int32)), .val (.int (1 : Int32)), .val (.int (1 : Int32)), .val (.int (1 : Int32)), .val (.int (0 : Int32)), .val (.int (1 : Int32)), .val (.int (1 : Int32)), .unset] [])
          refine own_by (fun t k => XS.iload X30.here hx rfl (hb hby at_225) rfl k) ?_
          show ORun p e below s _ _ _ T30 (mkF m 227 #[.val (.long p1), .second, .val (.int p2), .val (.int p3), .val (.long v1), .second, .val (.int v2), .val (.int v3), .val (.long y4), .second, .val (.long v5), .second, .val (.int (1 : Int32)), .val (.int (1 : Int32)), .val (.int (1 : Int32)), .val (.int (1 : Int32)), .val (.int (1 : Int32)), .val (.int (0 : Int32)), .val (.int (1 : Int32)), .val (.int (1 : Int32)), .unset] [(.int (1 : Int32))])
          refine own_by (fun t k => XS.ifNo X30.here hx rfl (hb hby at_227) rfl ((if0 _ _).trans (feq (by decide)).1) k) ?_
          show ORun p e below s _ _ _ T30 (mkF m 230 #[.val (.long p1), .second, .val (.int p2), .val (.int p3), .val (.long v1), .second, .val (.int v2), .val (.int v3), .val (.long y4), .second, .val (.long v5), .second, .val (.int (1 : Int32)), .val (.int (1 : Int32)), .val (.int (1 : Int32)), .val (.int (1 : Int32)), .val (.int (1 : Int32)), .val (.int (0 : Int32)), .val (.int (1 : Int32)), .val (.int (1 : Int32)), .unset] [])
          refine own_by (fun t k => XS.iconst X30.here hx rfl (hb hby at_230) k) ?_
          show ORun p e below s _ _ _ T30 (mkF m 231 #[.val (.long p1), .second, .val (.int p2), .val (.int p3), .val (.long v1), .second, .val (.int v2), .val (.int v3), .val (.long y4), .second, .val (.long v5), .second, .val (.int (1 : Int32)), .val (.int (1 : Int32)), .val (.int (1 : Int32)), .val (.int (1 : Int32)), .val (.int (1 : Int32)), .val (.int (0 : Int32)), .val (.int (1 : Int32)), .val (.int (1 : Int32)), .unset] [(.int (1 : Int32))])
          refine own_by (fun t k => XS.goto X30.here hx rfl (pc0 := 231) (pc' := 235) rfl (hb hby at_231) (by decide) (by decide) k) ?_
          show ORun p e below s _ _ _ T30 (mkF m 235 #[.val (.long p1), .second, .val (.int p2), .val (.int p3), .val (.long v1), .second, .val (.int v2), .val (.int v3), .val (.long y4), .second, .val (.long v5), .second, .val (.int (1 : Int32)), .val (.int (1 : Int32)), .val (.int (1 : Int32)), .val (.int (1 : Int32)), .val (.int (1 : Int32)), .val (.int (0 : Int32)), .val (.int (1 : Int32)), .val (.int (1 : Int32)), .unset] [(.int (1 : Int32))])
          refine own_by (fun t k => XS.istore X30.here hx rfl (hb hby at_235) rfl (l' := #[.val (.long p1), .second, .val (.int p2), .val (.int p3), .val (.long v1), .second, .val (.int v2), .val (.int v3), .val (.long y4), .second, .val (.long v5), .second, .val (.int (1 : Int32)), .val (.int (1 : Int32)), .val (.int (1 : Int32)), .val (.int (1 : Int32)), .val (.int (1 : Int32)), .val (.int (0 : Int32)), .val (.int (1 : Int32)), .val (.int (1 : Int32)), .val (.int (1 : Int32))]) rfl k) ?_
          show ORun p e below s _ _ _ T30 (mkF m 237 #[.val (.long p1), .second, .val (.int p2), .val (.int p3), .val (.long v1), .second, .val (.int v2), .val (.int v3), .val (.long y4), .second, .val (.long v5), .second, .val (.int (1 : Int32)), .val (.int (1 : Int32)), .val (.int (1 : Int32)), .val (.int (1 : Int32)), .val (.int (1 : Int32)), .val (.int (0 : Int32)), .val (.int (1 : Int32)), .val (.int (1 : Int32)), .val (.int (1 : Int32))] [])
          refine own_by (fun t k => XS.iload X30.here hx rfl (hb hby at_237) rfl k) ?_
          show ORun p e below s _ _ _ T30 (mkF m 239 #[.val (.long p1), .second, .val (.int p2), .val (.int p3), .val (.long v1), .second, .val (.int v2), .val (.int v3), .val (.long y4), .second, .val (.long v5), .second, .val (.int (1 : Int32)), .val (.int (1 : Int32)), .val (.int (1 : Int32)), .val (.int (1 : Int32)), .val (.int (1 : Int32)), .val (.int (0 : Int32)), .val (.int (1 : Int32)), .val (.int (1 : Int32)), .val (.int (1 : Int32))] [(.int (1 : Int32))])
          refine own_by (fun t k => XS.ifNo X30.here hx rfl (hb hby at_239) rfl ((if0 _ _).trans (feq (by decide)).1) k) ?_
          show ORun p e below s _ _ _ T30 (mkF m 242 #[.val (.long p1), .second, .val (.int p2), .val (.int p3), .val (.long v1), .second, .val (.int v2), .val (.int v3), .val (.long y4), .second, .val (.long v5), .second, .val (.int (1 : Int32)), .val (.int (1 : Int32)), .val (.int (1 : Int32)), .val (.int (1 : Int32)), .val (.int (1 : Int32)), .val (.int (0 : Int32)), .val (.int (1 : Int32)), .val (.int (1 : Int32)), .val (.int (1 : Int32))] [])
          refine own_by (fun t k => XS.iload X30.here hx rfl (hb hby at_242) rfl k) ?_
          show ORun p e below s _ _ _ T30 (mkF m 244 #[.val (.long p1), .second, .val (.int p2), .val (.int p3), .val (.long v1), .second, .val (.int v2), .val (.int v3), .val (.long y4), .second, .val (.long v5), .second, .val (.int (1 : Int32)), .val (.int (1 : Int32)), .val (.int (1 : Int32)), .val (.int (1 : Int32)), .val (.int (1 : Int32)), .val (.int (0 : Int32)), .val (.int (1 : Int32)), .val (.int (1 : Int32)), .val (.int (1 : Int32))] [(.int (1 : Int32))])
          refine own_by (fun t k => XS.ifNo X30.here hx rfl (hb hby at_244) rfl ((if0 _ _).trans (feq (by decide)).1) k) ?_
          show ORun p e below s _ _ _ T30 (mkF m 247 #[.val (.long p1), .second, .val (.int p2), .val (.int p3), .val (.long v1), .second, .val (.int v2), .val (.int v3), .val (.long y4), .second, .val (.long v5), .second, .val (.int (1 : Int32)), .val (.int (1 : Int32)), .val (.int (1 : Int32)), .val (.int (1 : Int32)), .val (.int (1 : Int32)), .val (.int (0 : Int32)), .val (.int (1 : Int32)), .val (.int (1 : Int32)), .val (.int (1 : Int32))] [])
          refine own_by (fun t k => XS.iconst X30.here hx rfl (hb hby at_247) k) ?_
          show ORun p e below s _ _ _ T30 (mkF m 248 #[.val (.long p1), .second, .val (.int p2), .val (.int p3), .val (.long v1), .second, .val (.int v2), .val (.int v3), .val (.long y4), .second, .val (.long v5), .second, .val (.int (1 : Int32)), .val (.int (1 : Int32)), .val (.int (1 : Int32)), .val (.int (1 : Int32)), .val (.int (1 : Int32)), .val (.int (0 : Int32)), .val (.int (1 : Int32)), .val (.int (1 : Int32)), .val (.int (1 : Int32))] [(.int (1 : Int32))])
          refine own_by (fun t k => XS.goto X30.here hx rfl (pc0 := 248) (pc' := 252) rfl (hb hby at_248) (by decide) (by decide) k) ?_
          show ORun p e below s _ _ _ T30 (mkF m 252 #[.val (.long p1), .second, .val (.int p2), .val (.int p3), .val (.long v1), .second, .val (.int v2), .val (.int v3), .val (.long y4), .second, .val (.long v5), .second, .val (.int (1 : Int32)), .val (.int (1 : Int32)), .val (.int (1 : Int32)), .val (.int (1 : Int32)), .val (.int (1 : Int32)), .val (.int (0 : Int32)), .val (.int (1 : Int32)), .val (.int (1 : Int32)), .val (.int (1 : Int32))] [(.int (1 : Int32))])
          refine own_retN X30 hx (t := .boolean) hret (by simp) hlk (hb hby at_252) (by decide) (by decide) ?_
          exact ⟨rfl, N30⟩
        · have t31 := own_nltL hc31 (a := y30.toInt) (b := v1.toInt) rfl rfl
          refine own_by (fun t k => XS.ifYes X30.here hx rfl (pc0 := 205) (pc' := 212) rfl (hb hby at_205) rfl (own_lcnlt hc31).2 (by decide) (by decide) k) ?_
          show ORun p e below s _ _ _ T30 (mkF m 212 #[.val (.long p1), .second, .val (.int p2), .val (.int p3), .val (.long v1), .second, .val (.int v2), .val (.int v3), .val (.long y4), .second, .val (.long v5), .second, .val (.int (1 : Int32)), .val (.int (1 : Int32)), .val (.int (1 : Int32)), .val (.int (1 : Int32)), .val (.int (1 : Int32)), .val (.int (0 : Int32)), .val (.int (1 : Int32)), .unset, .unset] [])
          refine own_by (fun t k => XS.iconst X30.here hx rfl (hb hby at_212) k) ?_
          show ORun p e below s _ _ _ T30 (mkF m 213 #[.val (.long p1), .second, .val (.int p2), .val (.int p3), .val (.long v1), .second, .val (.int v2), .val (.int v3), .val (.long y4), .second, .val (.long v5), .second, .val (.int (1 : Int32)), .val (.int (1 : Int32)), .val (.int (1 : Int32)), .val (.int (1 : Int32)), .val (.int (1 : Int32)), .val (.int (0 : Int32)), .val (.int (1 : Int32)), .unset, .unset] [(.int (0 : Int32))])
          refine own_by (fun t k => XS.istore X30.here hx rfl (hb hby at_213) rfl (l' := #[.val (.long p1), .second, .val (.int p2), .val (.int p3), .val (.long v1), .second, .val (.int v2), .val (.int v3), .val (.long y4), .second, .val (.long v5), .second, .val (.int (1 : Int32)), .val (.int (1 : Int32)), .val (.int (1 : Int32)), .val (.int (1 : Int32)), .val (.int (1 : Int32)), .val (.int (0 : Int32)), .val (.int (1 : Int32)), .val (.int (0 : Int32)), .unset]) rfl k) ?_
          show ORun p e below s _ _ _ T30 (mkF m 215 #[.val (.long p1), .second, .val (.int p2), .val (.int p3), .val (.long v1), .second, .val (.int v2), .val (.int v3), .val (.long y4), .second, .val (.long v5), .second, .val (.int (1 : Int32)), .val (.int (1 : Int32)), .val (.int (1 : Int32)), .val (.int (1 : Int32)), .val (.int (1 : Int32)), .val (.int (0 : Int32)), .val (.int (1 : Int32)), .val (.int (0 : Int32)), .unset] [])
          refine own_by (fun t k => XS.iload X30.here hx rfl (hb hby at_215) rfl k) ?_
          show ORun p e below s _ _ _ T30 (mkF m 217 #[.val (.long p1), .second, .val (.int p2), .val (.int p3), .val (.long v1), .second, .val (.int v2), .val (.int v3), .val (.long y4), .second, .val (.long v5), .second, .val (.int (1 : Int32)), .val (.int (1 : Int32)), .val (.int (1 : Int32)), .val (.int (1 : Int32)), .val (.int (1 : Int32)), .val (.int (0 : Int32)), .val (.int (1 : Int32)), .val (.int (0 : Int32)), .unset] [(.int (0 : Int32))])
          refine own_by (fun t k => XS.ifNo X30.here hx rfl (hb hby at_217) rfl ((if0 _ _).trans (teq (by decide)).2) k) ?_
          show ORun p e below s _ _ _ T30 (mkF m 220 #[.val (.long p1), .second, .val (.int p2), .val (.int p3), .val (.long v1), .second, .val (.int v2), .val (.int v3), .val (.long y4), .second, .val (.long v5), .second, .val (.int (1 : Int32)), .val (.int (1 : Int32)), .val (.int (1 : Int32)), .val (.int (1 : Int32)), .val (.int (1 : Int32)), .val (.int (0 : Int32)), .val (.int (1 : Int32)), .val (.int (0 : Int32)), .unset] [])
          refine own_by (fun t k => XS.iload X30.here hx rfl (hb hby at_220) rfl k) ?_
          show ORun p e below s _ _ _ T30 (mkF m 222 #[.val (.long p1), .second, .val (.int p2), .val (.int p3), .val (.long v1), .second, .val (.int v2), .val (.int v3), .val (.long y4), .second, .val (.long v5), .second, .val (.int (1 : Int32)), .val (.int (1 : Int32)), .val (.int (1 : Int32)), .val (.int (1 : Int32)), .val (.int (1 : Int32)), .val (.int (0 : Int32)), .val (.int (1 : Int32)), .val (.int (0 : Int32)), .unset] [(.int (1 : Int32))])
          refine own_by (fun t k => XS.ifNo X30.here hx rfl (hb hby at_222) rfl ((if0 _ _).trans (feq (by decide)).1) k) ?_
          show ORun p e below s _ _ _ T30 (mkF m 225 #[.val (.long p1), .second, .val (.int p2), .val (.int p3), .val (.long v1), .second, .val (.int v2), .val (.int v3), .val (.long y4), .second, .val (.long v5), .second, .val (.int (1 : Int32)), .val (.int (1 : Int32)), .val (.int (1 : Int32)), .val (.int (1 : Int32)), .val (.int (1 : Int32)), .val (.int (0 : Int32)), .val (.int (1 : Int32)), .val (.int (0 : Int32)), .unset] [])
          refine own_by (fun t k => XS.iload X30.here hx rfl (hb hby at_225) rfl k) ?_
          show ORun p e below s _ _ _ T30 (mkF m 227 #[.val (.long p1), .second, .val (.int p2), .val (.int p3), .val (.long v1), .second, .val (.int v2), .val (.int v3), .val (.long y4), .second, .val (.long v5), .second, .val (.int (1 : Int32)), .val (.int (1 : Int32)), .val (.int (1 : Int32)), .val (.int (1 : Int32)), .val (.int (1 : Int32)), .val (.int (0 : Int32)), .val (.int (1 : Int32)), .val (.int (0 : Int32)), .unset] [(.int (0 : Int32))])
          refine own_by (fun t k => XS.ifYes X30.here hx rfl (pc0 := 227) (pc' := 234) rfl (hb hby at_227) rfl ((if0 _ _).trans (teq (by decide)).1) (by decide) (by decide) k) ?_
          show ORun p e below s _ _ _ T30 (mkF m 234 #[.val (.long p1), .second, .val (.int p2), .val (.int p3), .val (.long v1), .second, .val (.int v2), .val (.int v3), .val (.long y4), .second, .val (.long v5), .second, .val (.int (1 : Int32)), .val (.int (1 : Int32)), .val (.int (1 : Int32)), .val (.int (1 : Int32)), .val (.int (1 : Int32)), .val (.int (0 : Int32)), .val (.int (1 : Int32)), .val (.int (0 : Int32)), .unset] [])
          refine own_by (fun t k => XS.iconst X30.here hx rfl (hb hby at_234) k) ?_
          show ORun p e below s _ _ _ T30 (mkF m 235 #[.val (.long p1), .second, .val (.int p2), .val (.int p3), .val (.long v1), .second, .val (.int v2), .val (.int v3), .val (.long y4), .second, .val (.long v5), .second, .val (.int (1 : Int32)), .val (.int (1 : Int32)), .val (.int (1 : Int32)), .val (.int (1 : Int32)), .val (.int (1 : Int32)), .val (.int (0 : Int32)), .val (.int (1 : Int32)), .val (.int (0 : Int32)), .unset] [(.int (0 : Int32))])
          refine own_by (fun t k => XS.istore X30.here hx rfl (hb hby at_235) rfl (l' := #[.val (.long p1), .second, .val (.int p2), .val (.int p3), .val (.long v1), .second, .val (.int v2), .val (.int v3), .val (.long y4), .second, .val (.long v5), .second, .val (.int (1 : Int32)), .val (.int (1 : Int32)), .val (.int (1 : Int32)), .val (.int (1 : Int32)), .val (.int (1 : Int32)), .val (.int (0 : Int32)), .val (.int (1 : Int32)), .val (.int (0 : Int32)), .val (.int (0 : Int32))]) rfl k) ?_
          show ORun p e below s _ _ _ T30 (mkF m 237 #[.val (.long p1), .second, .val (.int p2), .val (.int p3), .val (.long v1), .second, .val (.int v2), .val (.int v3), .val (.long y4), .second, .val (.long v5), .second, .val (.int (1 : Int32)), .val (.int (1 : Int32)), .val (.int (1 : Int32)), .val (.int (1 : Int32)), .val (.int (1 : Int32)), .val (.int (0 : Int32)), .val (.int (1 : Int32)), .val (.int (0 : Int32)), .val (.int (0 : Int32))] [])
          refine own_by (fun t k => XS.iload X30.here hx rfl (hb hby at_237) rfl k) ?_
          show ORun p e below s _ _ _ T30 (mkF m 239 #[.val (.long p1), .second, .val (.int p2), .val (.int p3), .val (.long v1), .second, .val (.int v2), .val (.int v3), .val (.long y4), .second, .val (.long v5), .second, .val (.int (1 : Int32)), .val (.int (1 : Int32)), .val (.int (1 : Int32)), .val (.int (1 : Int32)), .val (.int (1 : Int32)), .val (.int (0 : Int32)), .val (.int (1 : Int32)), .val (.int (0 : Int32)), .val (.int (0 : Int32))] [(.int (1 : Int32))])
          refine own_by (fun t k => XS.ifNo X30.here hx rfl (hb hby at_239) rfl ((if0 _ _).trans (feq (by decide)).1) k) ?_
          show ORun p e below s _ _ _ T30 (mkF m 242 #[.val (.long p1), .second, .val (.int p2), .val (.int p3), .val (.long v1), .second, .val (.int v2), .val (.int v3), .val (.long y4), .second, .val (.long v5), .second, .val (.int (1 : Int32)), .val (.int (1 : Int32)), .val (.int (1 : Int32)), .val (.int (1 : Int32)), .val (.int (1 : Int32)), .val (.int (0 : Int32)), .val (.int (1 : Int32)), .val (.int (0 : Int32)), .val (.int (0 : Int32))] [])
          refine own_by (fun t k => XS.iload X30.here hx rfl (hb hby at_242) rfl k) ?_
          show ORun p e below s _ _ _ T30 (mkF m 244 #[.val (.long p1), .second, .val (.int p2), .val (.int p3), .val (.long v1), .second, .val (.int v2), .val (.int v3), .val (.long y4), .second, .val (.long v5), .second, .val (.int (1 : Int32)), .val (.int (1 : Int32)), .val (.int (1 : Int32)), .val (.int (1 : Int32)), .val (.int (1 : Int32)), .val (.int (0 : Int32)), .val (.int (1 : Int32)), .val (.int (0 : Int32)), .val (.int (0 : Int32))] [(.int (0 : Int32))])
          refine own_by (fun t k => XS.ifYes X30.here hx rfl (pc0 := 244) (pc' := 251) rfl (hb hby at_244) rfl ((if0 _ _).trans (teq (by decide)).1) (by decide) (by decide) k) ?_
          show ORun p e below s _ _ _ T30 (mkF m 251 #[.val (.long p1), .second, .val (.int p2), .val (.int p3), .val (.long v1), .second, .val (.int v2), .val (.int v3), .val (.long y4), .second, .val (.long v5), .second, .val (.int (1 : Int32)), .val (.int (1 : Int32)), .val (.int (1 : Int32)), .val (.int (1 : Int32)), .val (.int (1 : Int32)), .val (.int (0 : Int32)), .val (.int (1 : Int32)), .val (.int (0 : Int32)), .val (.int (0 : Int32))] [])
          refine own_by (fun t k => XS.iconst X30.here hx rfl (hb hby at_251) k) ?_
          show ORun p e below s _ _ _ T30 (mkF m 252 #[.val (.long p1), .second, .val (.int p2), .val (.int p3), .val (.long v1), .second, .val (.int v2), .val (.int v3), .val (.long y4), .second, .val (.long v5), .second, .val (.int (1 : Int32)), .val (.int (1 : Int32)), .val (.int (1 : Int32)), .val (.int (1 : Int32)), .val (.int (1 : Int32)), .val (.int (0 : Int32)), .val (.int (1 : Int32)), .val (.int (0 : Int32)), .val (.int (0 : Int32))] [(.int (0 : Int32))])
          refine own_retN X30 hx (t := .boolean) hret (by simp) hlk (hb hby at_252) (by decide) (by decide) ?_
          exfalso
          omega
    · have t27 := own_neL hc27 (a := v25.toInt) (b := v26.toInt) rfl rfl
      refine own_by (fun t k => XS.ifYes X4.here hx rfl (pc0 := 172) (pc' := 179) rfl (hb hby at_172) rfl (own_lcne hc27).2 (by decide) (by decide) k) ?_
      show ORun p e below s _ _ _ T4 (mkF m 179 #[.val (.long p1), .second, .val (.int p2), .val (.int p3), .val (.long v1), .second, .val (.int v2), .val (.int v3), .val (.long y4), .second, .val (.long v5), .second, .val (.int (1 : Int32)), .val (.int (1 : Int32)), .val (.int (1 : Int32)), .val (.int (1 : Int32)), .val (.int (1 : Int32)), .val (.int (0 : Int32)), .unset, .unset, .unset] [])
      refine own_by (fun t k => XS.iconst X4.here hx rfl (hb hby at_179) k) ?_
      show ORun p e below s _ _ _ T4 (mkF m 180 #[.val (.long p1), .second, .val (.int p2), .val (.int p3), .val (.long v1), .second, .val (.int v2), .val (.int v3), .val (.long y4), .second, .val (.long v5), .second, .val (.int (1 : Int32)), .val (.int (1 : Int32)), .val (.int (1 : Int32)), .val (.int (1 : Int32)), .val (.int (1 : Int32)), .val (.int (0 : Int32)), .unset, .unset, .unset] [(.int (0 : Int32))])
      refine own_by (fun t k => XS.istore X4.here hx rfl (hb hby at_180) rfl (l' := #[.val (.long p1), .second, .val (.int p2), .val (.int p3), .val (.long v1), .second, .val (.int v2), .val (.int v3), .val (.long y4), .second, .val (.long v5), .second, .val (.int (1 : Int32)), .val (.int (1 : Int32)), .val (.int (1 : Int32)), .val (.int (1 : Int32)), .val (.int (1 : Int32)), .val (.int (0 : Int32)), .val (.int (0 : Int32)), .unset, .unset]) rfl k) ?_
      show ORun p e below s _ _ _ T4 (mkF m 182 #[.val (.long p1), .second, .val (.int p2), .val (.int p3), .val (.long v1), .second, .val (.int v2), .val (.int v3), .val (.long y4), .second, .val (.long v5), .second, .val (.int (1 : Int32)), .val (.int (1 : Int32)), .val (.int (1 : Int32)), .val (.int (1 : Int32)), .val (.int (1 : Int32)), .val (.int (0 : Int32)), .val (.int (0 : Int32)), .unset, .unset] [])
      refine own_by (fun t k => XS.lload X4.here hx rfl (hb hby at_182) rfl k) ?_
      show ORun p e below s _ _ _ T4 (mkF m 184 #[.val (.long p1), .second, .val (.int p2), .val (.int p3), .val (.long v1), .second, .val (.int v2), .val (.int v3), .val (.long y4), .second, .val (.long v5), .second, .val (.int (1 : Int32)), .val (.int (1 : Int32)), .val (.int (1 : Int32)), .val (.int (1 : Int32)), .val (.int (1 : Int32)), .val (.int (0 : Int32)), .val (.int (0 : Int32)), .unset, .unset] [(.long v5)])
      refine own_by (fun t k => X4.ldc2Long hx hown (mvT hZ (hw _ (List.mem_of_getElem? (i := 9) rfl))) (g := (mkF m 184 #[.val (.long p1), .second, .val (.int p2), .val (.int p3), .val (.long v1), .second, .val (.int v2), .val (.int v3), .val (.long y4), .second, .val (.long v5), .second, .val (.int (1 : Int32)), .val (.int (1 : Int32)), .val (.int (1 : Int32)), .val (.int (1 : Int32)), .val (.int (1 : Int32)), .val (.int (0 : Int32)), .val (.int (0 : Int32)), .unset, .unset] [(.long v5)])) rfl (hb hby at_184) _ k) ?_
      show ORun p e below s _ _ _ T4 (mkF m 187 #[.val (.long p1), .second, .val (.int p2), .val (.int p3), .val (.long v1), .second, .val (.int v2), .val (.int v3), .val (.long y4), .second, .val (.long v5), .second, .val (.int (1 : Int32)), .val (.int (1 : Int32)), .val (.int (1 : Int32)), .val (.int (1 : Int32)), .val (.int (1 : Int32)), .val (.int (0 : Int32)), .val (.int (0 : Int32)), .unset, .unset] [(.long (16 : Int64)), (.long v5)])
      refine own_by (fun t k => XS.lcmp X4.here hx rfl (hb hby at_187) rfl k) ?_
      show ORun p e below s _ _ _ T4 (mkF m 188 #[.val (.long p1), .second, .val (.int p2), .val (.int p3), .val (.long v1), .second, .val (.int v2), .val (.int v3), .val (.long y4), .second, .val (.long v5), .second, .val (.int (1 : Int32)), .val (.int (1 : Int32)), .val (.int (1 : Int32)), .val (.int (1 : Int32)), .val (.int (1 : Int32)), .val (.int (0 : Int32)), .val (.int (0 : Int32)), .unset, .unset] [(.int (lcmpW v5 (16 : Int64)))])
      by_cases hc32 : v5 < (16 : Int64)
      · have t32 := own_ltL hc32 (a := v5.toInt) (b := 16) rfl (by decide)
        refine own_by (fun t k => XS.ifYes X4.here hx rfl (pc0 := 188) (pc' := 208) rfl (hb hby at_188) rfl (own_lclt hc32).1 (by decide) (by decide) k) ?_
        show ORun p e below s _ _ _ T4 (mkF m 208 #[.val (.long p1), .second, .val (.int p2), .val (.int p3), .val (.long v1), .second, .val (.int v2), .val (.int v3), .val (.long y4), .second, .val (.long v5), .second, .val (.int (1 : Int32)), .val (.int (1 : Int32)), .val (.int (1 : Int32)), .val (.int (1 : Int32)), .val (.int (1 : Int32)), .val (.int (0 : Int32)), .val (.int (0 : Int32)), .unset, .unset] [])
        refine own_by (fun t k => XS.iconst X4.here hx rfl (hb hby at_208) k) ?_
        show ORun p e below s _ _ _ T4 (mkF m 209 #[.val (.long p1), .second, .val (.int p2), .val (.int p3), .val (.long v1), .second, .val (.int v2), .val (.int v3), .val (.long y4), .second, .val (.long v5), .second, .val (.int (1 : Int32)), .val (.int (1 : Int32)), .val (.int (1 : Int32)), .val (.int (1 : Int32)), .val (.int (1 : Int32)), .val (.int (0 : Int32)), .val (.int (0 : Int32)), .unset, .unset] [(.int (1 : Int32))])
        refine own_by (fun t k => XS.goto X4.here hx rfl (pc0 := 209) (pc' := 213) rfl (hb hby at_209) (by decide) (by decide) k) ?_
        show ORun p e below s _ _ _ T4 (mkF m 213 #[.val (.long p1), .second, .val (.int p2), .val (.int p3), .val (.long v1), .second, .val (.int v2), .val (.int v3), .val (.long y4), .second, .val (.long v5), .second, .val (.int (1 : Int32)), .val (.int (1 : Int32)), .val (.int (1 : Int32)), .val (.int (1 : Int32)), .val (.int (1 : Int32)), .val (.int (0 : Int32)), .val (.int (0 : Int32)), .unset, .unset] [(.int (1 : Int32))])
        refine own_by (fun t k => XS.istore X4.here hx rfl (hb hby at_213) rfl (l' := #[.val (.long p1), .second, .val (.int p2), .val (.int p3), .val (.long v1), .second, .val (.int v2), .val (.int v3), .val (.long y4), .second, .val (.long v5), .second, .val (.int (1 : Int32)), .val (.int (1 : Int32)), .val (.int (1 : Int32)), .val (.int (1 : Int32)), .val (.int (1 : Int32)), .val (.int (0 : Int32)), .val (.int (0 : Int32)), .val (.int (1 : Int32)), .unset]) rfl k) ?_
        show ORun p e below s _ _ _ T4 (mkF m 215 #[.val (.long p1), .second, .val (.int p2), .val (.int p3), .val (.long v1), .second, .val (.int v2), .val (.int v3), .val (.long y4), .second, .val (.long v5), .second, .val (.int (1 : Int32)), .val (.int (1 : Int32)), .val (.int (1 : Int32)), .val (.int (1 : Int32)), .val (.int (1 : Int32)), .val (.int (0 : Int32)), .val (.int (0 : Int32)), .val (.int (1 : Int32)), .unset] [])
        refine own_by (fun t k => XS.iload X4.here hx rfl (hb hby at_215) rfl k) ?_
        show ORun p e below s _ _ _ T4 (mkF m 217 #[.val (.long p1), .second, .val (.int p2), .val (.int p3), .val (.long v1), .second, .val (.int v2), .val (.int v3), .val (.long y4), .second, .val (.long v5), .second, .val (.int (1 : Int32)), .val (.int (1 : Int32)), .val (.int (1 : Int32)), .val (.int (1 : Int32)), .val (.int (1 : Int32)), .val (.int (0 : Int32)), .val (.int (0 : Int32)), .val (.int (1 : Int32)), .unset] [(.int (0 : Int32))])
        refine own_by (fun t k => XS.ifNo X4.here hx rfl (hb hby at_217) rfl ((if0 _ _).trans (teq (by decide)).2) k) ?_
        show ORun p e below s _ _ _ T4 (mkF m 220 #[.val (.long p1), .second, .val (.int p2), .val (.int p3), .val (.long v1), .second, .val (.int v2), .val (.int v3), .val (.long y4), .second, .val (.long v5), .second, .val (.int (1 : Int32)), .val (.int (1 : Int32)), .val (.int (1 : Int32)), .val (.int (1 : Int32)), .val (.int (1 : Int32)), .val (.int (0 : Int32)), .val (.int (0 : Int32)), .val (.int (1 : Int32)), .unset] [])
        refine own_by (fun t k => XS.iload X4.here hx rfl (hb hby at_220) rfl k) ?_
        show ORun p e below s _ _ _ T4 (mkF m 222 #[.val (.long p1), .second, .val (.int p2), .val (.int p3), .val (.long v1), .second, .val (.int v2), .val (.int v3), .val (.long y4), .second, .val (.long v5), .second, .val (.int (1 : Int32)), .val (.int (1 : Int32)), .val (.int (1 : Int32)), .val (.int (1 : Int32)), .val (.int (1 : Int32)), .val (.int (0 : Int32)), .val (.int (0 : Int32)), .val (.int (1 : Int32)), .unset] [(.int (0 : Int32))])
        refine own_by (fun t k => XS.ifYes X4.here hx rfl (pc0 := 222) (pc' := 234) rfl (hb hby at_222) rfl ((if0 _ _).trans (teq (by decide)).1) (by decide) (by decide) k) ?_
        show ORun p e below s _ _ _ T4 (mkF m 234 #[.val (.long p1), .second, .val (.int p2), .val (.int p3), .val (.long v1), .second, .val (.int v2), .val (.int v3), .val (.long y4), .second, .val (.long v5), .second, .val (.int (1 : Int32)), .val (.int (1 : Int32)), .val (.int (1 : Int32)), .val (.int (1 : Int32)), .val (.int (1 : Int32)), .val (.int (0 : Int32)), .val (.int (0 : Int32)), .val (.int (1 : Int32)), .unset] [])
        refine own_by (fun t k => XS.iconst X4.here hx rfl (hb hby at_234) k) ?_
        show ORun p e below s _ _ _ T4 (mkF m 235 #[.val (.long p1), .second, .val (.int p2), .val (.int p3), .val (.long v1), .second, .val (.int v2), .val (.int v3), .val (.long y4), .second, .val (.long v5), .second, .val (.int (1 : Int32)), .val (.int (1 : Int32)), .val (.int (1 : Int32)), .val (.int (1 : Int32)), .val (.int (1 : Int32)), .val (.int (0 : Int32)), .val (.int (0 : Int32)), .val (.int (1 : Int32)), .unset] [(.int (0 : Int32))])
        refine own_by (fun t k => XS.istore X4.here hx rfl (hb hby at_235) rfl (l' := #[.val (.long p1), .second, .val (.int p2), .val (.int p3), .val (.long v1), .second, .val (.int v2), .val (.int v3), .val (.long y4), .second, .val (.long v5), .second, .val (.int (1 : Int32)), .val (.int (1 : Int32)), .val (.int (1 : Int32)), .val (.int (1 : Int32)), .val (.int (1 : Int32)), .val (.int (0 : Int32)), .val (.int (0 : Int32)), .val (.int (1 : Int32)), .val (.int (0 : Int32))]) rfl k) ?_
        show ORun p e below s _ _ _ T4 (mkF m 237 #[.val (.long p1), .second, .val (.int p2), .val (.int p3), .val (.long v1), .second, .val (.int v2), .val (.int v3), .val (.long y4), .second, .val (.long v5), .second, .val (.int (1 : Int32)), .val (.int (1 : Int32)), .val (.int (1 : Int32)), .val (.int (1 : Int32)), .val (.int (1 : Int32)), .val (.int (0 : Int32)), .val (.int (0 : Int32)), .val (.int (1 : Int32)), .val (.int (0 : Int32))] [])
        refine own_by (fun t k => XS.iload X4.here hx rfl (hb hby at_237) rfl k) ?_
        show ORun p e below s _ _ _ T4 (mkF m 239 #[.val (.long p1), .second, .val (.int p2), .val (.int p3), .val (.long v1), .second, .val (.int v2), .val (.int v3), .val (.long y4), .second, .val (.long v5), .second, .val (.int (1 : Int32)), .val (.int (1 : Int32)), .val (.int (1 : Int32)), .val (.int (1 : Int32)), .val (.int (1 : Int32)), .val (.int (0 : Int32)), .val (.int (0 : Int32)), .val (.int (1 : Int32)), .val (.int (0 : Int32))] [(.int (1 : Int32))])
        refine own_by (fun t k => XS.ifNo X4.here hx rfl (hb hby at_239) rfl ((if0 _ _).trans (feq (by decide)).1) k) ?_
        show ORun p e below s _ _ _ T4 (mkF m 242 #[.val (.long p1), .second, .val (.int p2), .val (.int p3), .val (.long v1), .second, .val (.int v2), .val (.int v3), .val (.long y4), .second, .val (.long v5), .second, .val (.int (1 : Int32)), .val (.int (1 : Int32)), .val (.int (1 : Int32)), .val (.int (1 : Int32)), .val (.int (1 : Int32)), .val (.int (0 : Int32)), .val (.int (0 : Int32)), .val (.int (1 : Int32)), .val (.int (0 : Int32))] [])
        refine own_by (fun t k => XS.iload X4.here hx rfl (hb hby at_242) rfl k) ?_
        show ORun p e below s _ _ _ T4 (mkF m 244 #[.val (.long p1), .second, .val (.int p2), .val (.int p3), .val (.long v1), .second, .val (.int v2), .val (.int v3), .val (.long y4), .second, .val (.long v5), .second, .val (.int (1 : Int32)), .val (.int (1 : Int32)), .val (.int (1 : Int32)), .val (.int (1 : Int32)), .val (.int (1 : Int32)), .val (.int (0 : Int32)), .val (.int (0 : Int32)), .val (.int (1 : Int32)), .val (.int (0 : Int32))] [(.int (0 : Int32))])
        refine own_by (fun t k => XS.ifYes X4.here hx rfl (pc0 := 244) (pc' := 251) rfl (hb hby at_244) rfl ((if0 _ _).trans (teq (by decide)).1) (by decide) (by decide) k) ?_
        show ORun p e below s _ _ _ T4 (mkF m 251 #[.val (.long p1), .second, .val (.int p2), .val (.int p3), .val (.long v1), .second, .val (.int v2), .val (.int v3), .val (.long y4), .second, .val (.long v5), .second, .val (.int (1 : Int32)), .val (.int (1 : Int32)), .val (.int (1 : Int32)), .val (.int (1 : Int32)), .val (.int (1 : Int32)), .val (.int (0 : Int32)), .val (.int (0 : Int32)), .val (.int (1 : Int32)), .val (.int (0 : Int32))] [])
        refine own_by (fun t k => XS.iconst X4.here hx rfl (hb hby at_251) k) ?_
        show ORun p e below s _ _ _ T4 (mkF m 252 #[.val (.long p1), .second, .val (.int p2), .val (.int p3), .val (.long v1), .second, .val (.int v2), .val (.int v3), .val (.long y4), .second, .val (.long v5), .second, .val (.int (1 : Int32)), .val (.int (1 : Int32)), .val (.int (1 : Int32)), .val (.int (1 : Int32)), .val (.int (1 : Int32)), .val (.int (0 : Int32)), .val (.int (0 : Int32)), .val (.int (1 : Int32)), .val (.int (0 : Int32))] [(.int (0 : Int32))])
        refine own_retN X4 hx (t := .boolean) hret (by simp) hlk (hb hby at_252) (by decide) (by decide) ?_
        exfalso
        omega
      · have t32 := own_nltL hc32 (a := v5.toInt) (b := 16) rfl (by decide)
        refine own_by (fun t k => XS.ifNo X4.here hx rfl (hb hby at_188) rfl (own_lcnlt hc32).1 k) ?_
        show ORun p e below s _ _ _ T4 (mkF m 191 #[.val (.long p1), .second, .val (.int p2), .val (.int p3), .val (.long v1), .second, .val (.int v2), .val (.int v3), .val (.long y4), .second, .val (.long v5), .second, .val (.int (1 : Int32)), .val (.int (1 : Int32)), .val (.int (1 : Int32)), .val (.int (1 : Int32)), .val (.int (1 : Int32)), .val (.int (0 : Int32)), .val (.int (0 : Int32)), .unset, .unset] [])
        refine own_by (fun t k => XS.lload X4.here hx rfl (hb hby at_191) rfl k) ?_
        show ORun p e below s _ _ _ T4 (mkF m 193 #[.val (.long p1), .second, .val (.int p2), .val (.int p3), .val (.long v1), .second, .val (.int v2), .val (.int v3), .val (.long y4), .second, .val (.long v5), .second, .val (.int (1 : Int32)), .val (.int (1 : Int32)), .val (.int (1 : Int32)), .val (.int (1 : Int32)), .val (.int (1 : Int32)), .val (.int (0 : Int32)), .val (.int (0 : Int32)), .unset, .unset] [(.long v5)])
        refine own_by (fun t k => X4.ldc2Long hx hown (mvT hZ (hw _ (List.mem_of_getElem? (i := 9) rfl))) (g := (mkF m 193 #[.val (.long p1), .second, .val (.int p2), .val (.int p3), .val (.long v1), .second, .val (.int v2), .val (.int v3), .val (.long y4), .second, .val (.long v5), .second, .val (.int (1 : Int32)), .val (.int (1 : Int32)), .val (.int (1 : Int32)), .val (.int (1 : Int32)), .val (.int (1 : Int32)), .val (.int (0 : Int32)), .val (.int (0 : Int32)), .unset, .unset] [(.long v5)])) rfl (hb hby at_193) _ k) ?_
        show ORun p e below s _ _ _ T4 (mkF m 196 #[.val (.long p1), .second, .val (.int p2), .val (.int p3), .val (.long v1), .second, .val (.int v2), .val (.int v3), .val (.long y4), .second, .val (.long v5), .second, .val (.int (1 : Int32)), .val (.int (1 : Int32)), .val (.int (1 : Int32)), .val (.int (1 : Int32)), .val (.int (1 : Int32)), .val (.int (0 : Int32)), .val (.int (0 : Int32)), .unset, .unset] [(.long (16 : Int64)), (.long v5)])
        refine own_by (fun t k => XS.lsub X4.here hx rfl (hb hby at_196) rfl k) (own_letJ (f := (fun z => (mkF m 197 #[.val (.long p1), .second, .val (.int p2), .val (.int p3), .val (.long v1), .second, .val (.int v2), .val (.int v3), .val (.long y4), .second, .val (.long v5), .second, .val (.int (1 : Int32)), .val (.int (1 : Int32)), .val (.int (1 : Int32)), .val (.int (1 : Int32)), .val (.int (1 : Int32)), .val (.int (0 : Int32)), .val (.int (0 : Int32)), .unset, .unset] [(.long z)]))) (v5 - (16 : Int64)) fun v33 hv33 => ?_)
        show ORun p e below s _ _ _ T4 (mkF m 197 #[.val (.long p1), .second, .val (.int p2), .val (.int p3), .val (.long v1), .second, .val (.int v2), .val (.int v3), .val (.long y4), .second, .val (.long v5), .second, .val (.int (1 : Int32)), .val (.int (1 : Int32)), .val (.int (1 : Int32)), .val (.int (1 : Int32)), .val (.int (1 : Int32)), .val (.int (0 : Int32)), .val (.int (0 : Int32)), .unset, .unset] [(.long v33)])
        have r33 := rng64 v33
        have a33 : v33.toInt = v5.toInt - 16 := by
          have q : (v33.toInt - (v5.toInt - 16)) % 18446744073709551616 = 0 := by rw [hv33]; exact c_lsub v5 (16 : Int64)
          omega
        refine own_by (fun t k => XS.iload X4.here hx rfl (hb hby at_197) rfl k) ?_
        show ORun p e below s _ _ _ T4 (mkF m 199 #[.val (.long p1), .second, .val (.int p2), .val (.int p3), .val (.long v1), .second, .val (.int v2), .val (.int v3), .val (.long y4), .second, .val (.long v5), .second, .val (.int (1 : Int32)), .val (.int (1 : Int32)), .val (.int (1 : Int32)), .val (.int (1 : Int32)), .val (.int (1 : Int32)), .val (.int (0 : Int32)), .val (.int (0 : Int32)), .unset, .unset] [(.int v3), (.long v33)])
        refine own_callS X4 hx hZ hown (hw _ (List.mem_of_getElem? (i := 10) rfl)) (hw _ (List.mem_of_getElem? (i := 11) rfl)) (hw _ (List.mem_of_getElem? (i := 12) rfl)) (hw _ (List.mem_of_getElem? (i := 13) rfl)) (by decide) (rm2 l Z a0 hw [] h0 n0 Z0 v33 v3 (by omega) (by omega)) e4 (by decide) (W := 0) (by decide) (by decide) (by decide) (argsL := [(.long v33), (.int v3)]) (rest := []) (by rw [hml]; rfl) (lenOf pd_1 rfl) rfl rfl (Nat.le_of_eq rfl) (hb hby at_199) ?_
        intro T34 L34 u34 X34 hQ34
        obtain ⟨y34, rfl, hy34, Nq34, e34⟩ := hQ34
        have N34 := Fr.app N4 Nq34
        show ORun p e below s _ _ _ T34 (mkF m 202 #[.val (.long p1), .second, .val (.int p2), .val (.int p3), .val (.long v1), .second, .val (.int v2), .val (.int v3), .val (.long y4), .second, .val (.long v5), .second, .val (.int (1 : Int32)), .val (.int (1 : Int32)), .val (.int (1 : Int32)), .val (.int (1 : Int32)), .val (.int (1 : Int32)), .val (.int (0 : Int32)), .val (.int (0 : Int32)), .unset, .unset] [(.long y34)])
        refine own_by (fun t k => XS.lload X34.here hx rfl (hb hby at_202) rfl k) ?_
        show ORun p e below s _ _ _ T34 (mkF m 204 #[.val (.long p1), .second, .val (.int p2), .val (.int p3), .val (.long v1), .second, .val (.int v2), .val (.int v3), .val (.long y4), .second, .val (.long v5), .second, .val (.int (1 : Int32)), .val (.int (1 : Int32)), .val (.int (1 : Int32)), .val (.int (1 : Int32)), .val (.int (1 : Int32)), .val (.int (0 : Int32)), .val (.int (0 : Int32)), .unset, .unset] [(.long v1), (.long y34)])
        refine own_by (fun t k => XS.lcmp X34.here hx rfl (hb hby at_204) rfl k) ?_
        show ORun p e below s _ _ _ T34 (mkF m 205 #[.val (.long p1), .second, .val (.int p2), .val (.int p3), .val (.long v1), .second, .val (.int v2), .val (.int v3), .val (.long y4), .second, .val (.long v5), .second, .val (.int (1 : Int32)), .val (.int (1 : Int32)), .val (.int (1 : Int32)), .val (.int (1 : Int32)), .val (.int (1 : Int32)), .val (.int (0 : Int32)), .val (.int (0 : Int32)), .unset, .unset] [(.int (lcmpW y34 v1))])
        by_cases hc35 : y34 < v1
        · have t35 := own_ltL hc35 (a := y34.toInt) (b := v1.toInt) rfl rfl
          refine own_by (fun t k => XS.ifNo X34.here hx rfl (hb hby at_205) rfl (own_lclt hc35).2 k) ?_
          show ORun p e below s _ _ _ T34 (mkF m 208 #[.val (.long p1), .second, .val (.int p2), .val (.int p3), .val (.long v1), .second, .val (.int v2), .val (.int v3), .val (.long y4), .second, .val (.long v5), .second, .val (.int (1 : Int32)), .val (.int (1 : Int32)), .val (.int (1 : Int32)), .val (.int (1 : Int32)), .val (.int (1 : Int32)), .val (.int (0 : Int32)), .val (.int (0 : Int32)), .unset, .unset] [])
          refine own_by (fun t k => XS.iconst X34.here hx rfl (hb hby at_208) k) ?_
          show ORun p e below s _ _ _ T34 (mkF m 209 #[.val (.long p1), .second, .val (.int p2), .val (.int p3), .val (.long v1), .second, .val (.int v2), .val (.int v3), .val (.long y4), .second, .val (.long v5), .second, .val (.int (1 : Int32)), .val (.int (1 : Int32)), .val (.int (1 : Int32)), .val (.int (1 : Int32)), .val (.int (1 : Int32)), .val (.int (0 : Int32)), .val (.int (0 : Int32)), .unset, .unset] [(.int (1 : Int32))])
          refine own_by (fun t k => XS.goto X34.here hx rfl (pc0 := 209) (pc' := 213) rfl (hb hby at_209) (by decide) (by decide) k) ?_
          show ORun p e below s _ _ _ T34 (mkF m 213 #[.val (.long p1), .second, .val (.int p2), .val (.int p3), .val (.long v1), .second, .val (.int v2), .val (.int v3), .val (.long y4), .second, .val (.long v5), .second, .val (.int (1 : Int32)), .val (.int (1 : Int32)), .val (.int (1 : Int32)), .val (.int (1 : Int32)), .val (.int (1 : Int32)), .val (.int (0 : Int32)), .val (.int (0 : Int32)), .unset, .unset] [(.int (1 : Int32))])
          refine own_by (fun t k => XS.istore X34.here hx rfl (hb hby at_213) rfl (l' := #[.val (.long p1), .second, .val (.int p2), .val (.int p3), .val (.long v1), .second, .val (.int v2), .val (.int v3), .val (.long y4), .second, .val (.long v5), .second, .val (.int (1 : Int32)), .val (.int (1 : Int32)), .val (.int (1 : Int32)), .val (.int (1 : Int32)), .val (.int (1 : Int32)), .val (.int (0 : Int32)), .val (.int (0 : Int32)), .val (.int (1 : Int32)), .unset]) rfl k) ?_
          show ORun p e below s _ _ _ T34 (mkF m 215 #[.val (.long p1), .second, .val (.int p2), .val (.int p3), .val (.long v1), .second, .val (.int v2), .val (.int v3), .val (.long y4), .second, .val (.long v5), .second, .val (.int (1 : Int32)), .val (.int (1 : Int32)), .val (.int (1 : Int32)), .val (.int (1 : Int32)), .val (.int (1 : Int32)), .val (.int (0 : Int32)), .val (.int (0 : Int32)), .val (.int (1 : Int32)), .unset] [])
          refine own_by (fun t k => XS.iload X34.here hx rfl (hb hby at_215) rfl k) ?_
          show ORun p e below s _ _ _ T34 (mkF m 217 #[.val (.long p1), .second, .val (.int p2), .val (.int p3), .val (.long v1), .second, .val (.int v2), .val (.int v3), .val (.long y4), .second, .val (.long v5), .second, .val (.int (1 : Int32)), .val (.int (1 : Int32)), .val (.int (1 : Int32)), .val (.int (1 : Int32)), .val (.int (1 : Int32)), .val (.int (0 : Int32)), .val (.int (0 : Int32)), .val (.int (1 : Int32)), .unset] [(.int (0 : Int32))])
          refine own_by (fun t k => XS.ifNo X34.here hx rfl (hb hby at_217) rfl ((if0 _ _).trans (teq (by decide)).2) k) ?_
          show ORun p e below s _ _ _ T34 (mkF m 220 #[.val (.long p1), .second, .val (.int p2), .val (.int p3), .val (.long v1), .second, .val (.int v2), .val (.int v3), .val (.long y4), .second, .val (.long v5), .second, .val (.int (1 : Int32)), .val (.int (1 : Int32)), .val (.int (1 : Int32)), .val (.int (1 : Int32)), .val (.int (1 : Int32)), .val (.int (0 : Int32)), .val (.int (0 : Int32)), .val (.int (1 : Int32)), .unset] [])
          refine own_by (fun t k => XS.iload X34.here hx rfl (hb hby at_220) rfl k) ?_
          show ORun p e below s _ _ _ T34 (mkF m 222 #[.val (.long p1), .second, .val (.int p2), .val (.int p3), .val (.long v1), .second, .val (.int v2), .val (.int v3), .val (.long y4), .second, .val (.long v5), .second, .val (.int (1 : Int32)), .val (.int (1 : Int32)), .val (.int (1 : Int32)), .val (.int (1 : Int32)), .val (.int (1 : Int32)), .val (.int (0 : Int32)), .val (.int (0 : Int32)), .val (.int (1 : Int32)), .unset] [(.int (0 : Int32))])
          refine own_by (fun t k => XS.ifYes X34.here hx rfl (pc0 := 222) (pc' := 234) rfl (hb hby at_222) rfl ((if0 _ _).trans (teq (by decide)).1) (by decide) (by decide) k) ?_
          show ORun p e below s _ _ _ T34 (mkF m 234 #[.val (.long p1), .second, .val (.int p2), .val (.int p3), .val (.long v1), .second, .val (.int v2), .val (.int v3), .val (.long y4), .second, .val (.long v5), .second, .val (.int (1 : Int32)), .val (.int (1 : Int32)), .val (.int (1 : Int32)), .val (.int (1 : Int32)), .val (.int (1 : Int32)), .val (.int (0 : Int32)), .val (.int (0 : Int32)), .val (.int (1 : Int32)), .unset] [])
          refine own_by (fun t k => XS.iconst X34.here hx rfl (hb hby at_234) k) ?_
          show ORun p e below s _ _ _ T34 (mkF m 235 #[.val (.long p1), .second, .val (.int p2), .val (.int p3), .val (.long v1), .second, .val (.int v2), .val (.int v3), .val (.long y4), .second, .val (.long v5), .second, .val (.int (1 : Int32)), .val (.int (1 : Int32)), .val (.int (1 : Int32)), .val (.int (1 : Int32)), .val (.int (1 : Int32)), .val (.int (0 : Int32)), .val (.int (0 : Int32)), .val (.int (1 : Int32)), .unset] [(.int (0 : Int32))])
          refine own_by (fun t k => XS.istore X34.here hx rfl (hb hby at_235) rfl (l' := #[.val (.long p1), .second, .val (.int p2), .val (.int p3), .val (.long v1), .second, .val (.int v2), .val (.int v3), .val (.long y4), .second, .val (.long v5), .second, .val (.int (1 : Int32)), .val (.int (1 : Int32)), .val (.int (1 : Int32)), .val (.int (1 : Int32)), .val (.int (1 : Int32)), .val (.int (0 : Int32)), .val (.int (0 : Int32)), .val (.int (1 : Int32)), .val (.int (0 : Int32))]) rfl k) ?_
          show ORun p e below s _ _ _ T34 (mkF m 237 #[.val (.long p1), .second, .val (.int p2), .val (.int p3), .val (.long v1), .second, .val (.int v2), .val (.int v3), .val (.long y4), .second, .val (.long v5), .second, .val (.int (1 : Int32)), .val (.int (1 : Int32)), .val (.int (1 : Int32)), .val (.int (1 : Int32)), .val (.int (1 : Int32)), .val (.int (0 : Int32)), .val (.int (0 : Int32)), .val (.int (1 : Int32)), .val (.int (0 : Int32))] [])
          refine own_by (fun t k => XS.iload X34.here hx rfl (hb hby at_237) rfl k) ?_
          show ORun p e below s _ _ _ T34 (mkF m 239 #[.val (.long p1), .second, .val (.int p2), .val (.int p3), .val (.long v1), .second, .val (.int v2), .val (.int v3), .val (.long y4), .second, .val (.long v5), .second, .val (.int (1 : Int32)), .val (.int (1 : Int32)), .val (.int (1 : Int32)), .val (.int (1 : Int32)), .val (.int (1 : Int32)), .val (.int (0 : Int32)), .val (.int (0 : Int32)), .val (.int (1 : Int32)), .val (.int (0 : Int32))] [(.int (1 : Int32))])
          refine own_by (fun t k => XS.ifNo X34.here hx rfl (hb hby at_239) rfl ((if0 _ _).trans (feq (by decide)).1) k) ?_
          show ORun p e below s _ _ _ T34 (mkF m 242 #[.val (.long p1), .second, .val (.int p2), .val (.int p3), .val (.long v1), .second, .val (.int v2), .val (.int v3), .val (.long y4), .second, .val (.long v5), .second, .val (.int (1 : Int32)), .val (.int (1 : Int32)), .val (.int (1 : Int32)), .val (.int (1 : Int32)), .val (.int (1 : Int32)), .val (.int (0 : Int32)), .val (.int (0 : Int32)), .val (.int (1 : Int32)), .val (.int (0 : Int32))] [])
          refine own_by (fun t k => XS.iload X34.here hx rfl (hb hby at_242) rfl k) ?_
          show ORun p e below s _ _ _ T34 (mkF m 244 #[.val (.long p1), .second, .val (.int p2), .val (.int p3), .val (.long v1), .second, .val (.int v2), .val (.int v3), .val (.long y4), .second, .val (.long v5), .second, .val (.int (1 : Int32)), .val (.int (1 : Int32)), .val (.int (1 : Int32)), .val (.int (1 : Int32)), .val (.int (1 : Int32)), .val (.int (0 : Int32)), .val (.int (0 : Int32)), .val (.int (1 : Int32)), .val (.int (0 : Int32))] [(.int (0 : Int32))])
          refine own_by (fun t k => XS.ifYes X34.here hx rfl (pc0 := 244) (pc' := 251) rfl (hb hby at_244) rfl ((if0 _ _).trans (teq (by decide)).1) (by decide) (by decide) k) ?_
          show ORun p e below s _ _ _ T34 (mkF m 251 #[.val (.long p1), .second, .val (.int p2), .val (.int p3), .val (.long v1), .second, .val (.int v2), .val (.int v3), .val (.long y4), .second, .val (.long v5), .second, .val (.int (1 : Int32)), .val (.int (1 : Int32)), .val (.int (1 : Int32)), .val (.int (1 : Int32)), .val (.int (1 : Int32)), .val (.int (0 : Int32)), .val (.int (0 : Int32)), .val (.int (1 : Int32)), .val (.int (0 : Int32))] [])
          refine own_by (fun t k => XS.iconst X34.here hx rfl (hb hby at_251) k) ?_
          show ORun p e below s _ _ _ T34 (mkF m 252 #[.val (.long p1), .second, .val (.int p2), .val (.int p3), .val (.long v1), .second, .val (.int v2), .val (.int v3), .val (.long y4), .second, .val (.long v5), .second, .val (.int (1 : Int32)), .val (.int (1 : Int32)), .val (.int (1 : Int32)), .val (.int (1 : Int32)), .val (.int (1 : Int32)), .val (.int (0 : Int32)), .val (.int (0 : Int32)), .val (.int (1 : Int32)), .val (.int (0 : Int32))] [(.int (0 : Int32))])
          refine own_retN X34 hx (t := .boolean) hret (by simp) hlk (hb hby at_252) (by decide) (by decide) ?_
          exfalso
          omega
        · have t35 := own_nltL hc35 (a := y34.toInt) (b := v1.toInt) rfl rfl
          refine own_by (fun t k => XS.ifYes X34.here hx rfl (pc0 := 205) (pc' := 212) rfl (hb hby at_205) rfl (own_lcnlt hc35).2 (by decide) (by decide) k) ?_
          show ORun p e below s _ _ _ T34 (mkF m 212 #[.val (.long p1), .second, .val (.int p2), .val (.int p3), .val (.long v1), .second, .val (.int v2), .val (.int v3), .val (.long y4), .second, .val (.long v5), .second, .val (.int (1 : Int32)), .val (.int (1 : Int32)), .val (.int (1 : Int32)), .val (.int (1 : Int32)), .val (.int (1 : Int32)), .val (.int (0 : Int32)), .val (.int (0 : Int32)), .unset, .unset] [])
          refine own_by (fun t k => XS.iconst X34.here hx rfl (hb hby at_212) k) ?_
          show ORun p e below s _ _ _ T34 (mkF m 213 #[.val (.long p1), .second, .val (.int p2), .val (.int p3), .val (.long v1), .second, .val (.int v2), .val (.int v3), .val (.long y4), .second, .val (.long v5), .second, .val (.int (1 : Int32)), .val (.int (1 : Int32)), .val (.int (1 : Int32)), .val (.int (1 : Int32)), .val (.int (1 : Int32)), .val (.int (0 : Int32)), .val (.int (0 : Int32)), .unset, .unset] [(.int (0 : Int32))])
          refine own_by (fun t k => XS.istore X34.here hx rfl (hb hby at_213) rfl (l' := #[.val (.long p1), .second, .val (.int p2), .val (.int p3), .val (.long v1), .second, .val (.int v2), .val (.int v3), .val (.long y4), .second, .val (.long v5), .second, .val (.int (1 : Int32)), .val (.int (1 : Int32)), .val (.int (1 : Int32)), .val (.int (1 : Int32)), .val (.int (1 : Int32)), .val (.int (0 : Int32)), .val (.int (0 : Int32)), .val (.int (0 : Int32)), .unset]) rfl k) ?_
          show ORun p e below s _ _ _ T34 (mkF m 215 #[.val (.long p1), .second, .val (.int p2), .val (.int p3), .val (.long v1), .second, .val (.int v2), .val (.int v3), .val (.long y4), .second, .val (.long v5), .second, .val (.int (1 : Int32)), .val (.int (1 : Int32)), .val (.int (1 : Int32)), .val (.int (1 : Int32)), .val (.int (1 : Int32)), .val (.int (0 : Int32)), .val (.int (0 : Int32)), .val (.int (0 : Int32)), .unset] [])
          refine own_by (fun t k => XS.iload X34.here hx rfl (hb hby at_215) rfl k) ?_
          show ORun p e below s _ _ _ T34 (mkF m 217 #[.val (.long p1), .second, .val (.int p2), .val (.int p3), .val (.long v1), .second, .val (.int v2), .val (.int v3), .val (.long y4), .second, .val (.long v5), .second, .val (.int (1 : Int32)), .val (.int (1 : Int32)), .val (.int (1 : Int32)), .val (.int (1 : Int32)), .val (.int (1 : Int32)), .val (.int (0 : Int32)), .val (.int (0 : Int32)), .val (.int (0 : Int32)), .unset] [(.int (0 : Int32))])
          refine own_by (fun t k => XS.ifNo X34.here hx rfl (hb hby at_217) rfl ((if0 _ _).trans (teq (by decide)).2) k) ?_
          show ORun p e below s _ _ _ T34 (mkF m 220 #[.val (.long p1), .second, .val (.int p2), .val (.int p3), .val (.long v1), .second, .val (.int v2), .val (.int v3), .val (.long y4), .second, .val (.long v5), .second, .val (.int (1 : Int32)), .val (.int (1 : Int32)), .val (.int (1 : Int32)), .val (.int (1 : Int32)), .val (.int (1 : Int32)), .val (.int (0 : Int32)), .val (.int (0 : Int32)), .val (.int (0 : Int32)), .unset] [])
          refine own_by (fun t k => XS.iload X34.here hx rfl (hb hby at_220) rfl k) ?_
          show ORun p e below s _ _ _ T34 (mkF m 222 #[.val (.long p1), .second, .val (.int p2), .val (.int p3), .val (.long v1), .second, .val (.int v2), .val (.int v3), .val (.long y4), .second, .val (.long v5), .second, .val (.int (1 : Int32)), .val (.int (1 : Int32)), .val (.int (1 : Int32)), .val (.int (1 : Int32)), .val (.int (1 : Int32)), .val (.int (0 : Int32)), .val (.int (0 : Int32)), .val (.int (0 : Int32)), .unset] [(.int (0 : Int32))])
          refine own_by (fun t k => XS.ifYes X34.here hx rfl (pc0 := 222) (pc' := 234) rfl (hb hby at_222) rfl ((if0 _ _).trans (teq (by decide)).1) (by decide) (by decide) k) ?_
          show ORun p e below s _ _ _ T34 (mkF m 234 #[.val (.long p1), .second, .val (.int p2), .val (.int p3), .val (.long v1), .second, .val (.int v2), .val (.int v3), .val (.long y4), .second, .val (.long v5), .second, .val (.int (1 : Int32)), .val (.int (1 : Int32)), .val (.int (1 : Int32)), .val (.int (1 : Int32)), .val (.int (1 : Int32)), .val (.int (0 : Int32)), .val (.int (0 : Int32)), .val (.int (0 : Int32)), .unset] [])
          refine own_by (fun t k => XS.iconst X34.here hx rfl (hb hby at_234) k) ?_
          show ORun p e below s _ _ _ T34 (mkF m 235 #[.val (.long p1), .second, .val (.int p2), .val (.int p3), .val (.long v1), .second, .val (.int v2), .val (.int v3), .val (.long y4), .second, .val (.long v5), .second, .val (.int (1 : Int32)), .val (.int (1 : Int32)), .val (.int (1 : Int32)), .val (.int (1 : Int32)), .val (.int (1 : Int32)), .val (.int (0 : Int32)), .val (.int (0 : Int32)), .val (.int (0 : Int32)), .unset] [(.int (0 : Int32))])
          refine own_by (fun t k => XS.istore X34.here hx rfl (hb hby at_235) rfl (l' := #[.val (.long p1), .second, .val (.int p2), .val (.int p3), .val (.long v1), .second, .val (.int v2), .val (.int v3), .val (.long y4), .second, .val (.long v5), .second, .val (.int (1 : Int32)), .val (.int (1 : Int32)), .val (.int (1 : Int32)), .val (.int (1 : Int32)), .val (.int (1 : Int32)), .val (.int (0 : Int32)), .val (.int (0 : Int32)), .val (.int (0 : Int32)), .val (.int (0 : Int32))]) rfl k) ?_
          show ORun p e below s _ _ _ T34 (mkF m 237 #[.val (.long p1), .second, .val (.int p2), .val (.int p3), .val (.long v1), .second, .val (.int v2), .val (.int v3), .val (.long y4), .second, .val (.long v5), .second, .val (.int (1 : Int32)), .val (.int (1 : Int32)), .val (.int (1 : Int32)), .val (.int (1 : Int32)), .val (.int (1 : Int32)), .val (.int (0 : Int32)), .val (.int (0 : Int32)), .val (.int (0 : Int32)), .val (.int (0 : Int32))] [])
          refine own_by (fun t k => XS.iload X34.here hx rfl (hb hby at_237) rfl k) ?_
          show ORun p e below s _ _ _ T34 (mkF m 239 #[.val (.long p1), .second, .val (.int p2), .val (.int p3), .val (.long v1), .second, .val (.int v2), .val (.int v3), .val (.long y4), .second, .val (.long v5), .second, .val (.int (1 : Int32)), .val (.int (1 : Int32)), .val (.int (1 : Int32)), .val (.int (1 : Int32)), .val (.int (1 : Int32)), .val (.int (0 : Int32)), .val (.int (0 : Int32)), .val (.int (0 : Int32)), .val (.int (0 : Int32))] [(.int (1 : Int32))])
          refine own_by (fun t k => XS.ifNo X34.here hx rfl (hb hby at_239) rfl ((if0 _ _).trans (feq (by decide)).1) k) ?_
          show ORun p e below s _ _ _ T34 (mkF m 242 #[.val (.long p1), .second, .val (.int p2), .val (.int p3), .val (.long v1), .second, .val (.int v2), .val (.int v3), .val (.long y4), .second, .val (.long v5), .second, .val (.int (1 : Int32)), .val (.int (1 : Int32)), .val (.int (1 : Int32)), .val (.int (1 : Int32)), .val (.int (1 : Int32)), .val (.int (0 : Int32)), .val (.int (0 : Int32)), .val (.int (0 : Int32)), .val (.int (0 : Int32))] [])
          refine own_by (fun t k => XS.iload X34.here hx rfl (hb hby at_242) rfl k) ?_
          show ORun p e below s _ _ _ T34 (mkF m 244 #[.val (.long p1), .second, .val (.int p2), .val (.int p3), .val (.long v1), .second, .val (.int v2), .val (.int v3), .val (.long y4), .second, .val (.long v5), .second, .val (.int (1 : Int32)), .val (.int (1 : Int32)), .val (.int (1 : Int32)), .val (.int (1 : Int32)), .val (.int (1 : Int32)), .val (.int (0 : Int32)), .val (.int (0 : Int32)), .val (.int (0 : Int32)), .val (.int (0 : Int32))] [(.int (0 : Int32))])
          refine own_by (fun t k => XS.ifYes X34.here hx rfl (pc0 := 244) (pc' := 251) rfl (hb hby at_244) rfl ((if0 _ _).trans (teq (by decide)).1) (by decide) (by decide) k) ?_
          show ORun p e below s _ _ _ T34 (mkF m 251 #[.val (.long p1), .second, .val (.int p2), .val (.int p3), .val (.long v1), .second, .val (.int v2), .val (.int v3), .val (.long y4), .second, .val (.long v5), .second, .val (.int (1 : Int32)), .val (.int (1 : Int32)), .val (.int (1 : Int32)), .val (.int (1 : Int32)), .val (.int (1 : Int32)), .val (.int (0 : Int32)), .val (.int (0 : Int32)), .val (.int (0 : Int32)), .val (.int (0 : Int32))] [])
          refine own_by (fun t k => XS.iconst X34.here hx rfl (hb hby at_251) k) ?_
          show ORun p e below s _ _ _ T34 (mkF m 252 #[.val (.long p1), .second, .val (.int p2), .val (.int p3), .val (.long v1), .second, .val (.int v2), .val (.int v3), .val (.long y4), .second, .val (.long v5), .second, .val (.int (1 : Int32)), .val (.int (1 : Int32)), .val (.int (1 : Int32)), .val (.int (1 : Int32)), .val (.int (1 : Int32)), .val (.int (0 : Int32)), .val (.int (0 : Int32)), .val (.int (0 : Int32)), .val (.int (0 : Int32))] [(.int (0 : Int32))])
          refine own_retN X34 hx (t := .boolean) hret (by simp) hlk (hb hby at_252) (by decide) (by decide) ?_
          exfalso
          omega
set_option maxRecDepth 65536 in
set_option maxHeartbeats 40000000 in
theorem comes_1 {Post : Tables → Env → Array Value → State → Outcome → State → Prop} (hpost : ∀ tb e args s v u, (limb_1_1.after args s (.returned v) u = true ∧ limb_1_2.after args s (.returned v) u = true ∧ True) → FrameEnd s (.returned v) u (Jvm.fieldLocs frame_1_writes args s ++ Jvm.arrayLocs frame_1_arrays args s ++ Jvm.staticLocs frame_1_statics s) 0 0 → Post tb e args s (.returned v) u) :
    ArmFor flags0 classFile x code maxLocals ret World_1 tables_1 room_1 Calls_1 rest_1 Pre_1 Post := by
  intro l hfl _ _ p e ha hc hk s m args below hf hA hF happ hP
  obtain ⟨hcalls, hrest, hpre⟩ := hP
  obtain ⟨-, -, -, hnamed, -, -, -, hat⟩ := (Spec.applies_iff hf).mp happ
  obtain ⟨hg, hn⟩ := and_e (Cond.before_iff.mp (show (Jvm.Cond.and given_1 narrow_1).before args s = true from hpre))
  obtain ⟨hcnt, g0⟩ := and_e hg
  obtain ⟨k0, g1⟩ := and_e g0
  obtain ⟨k1, g2⟩ := and_e g1
  have k2 := g2
  obtain ⟨w0, w1, w2, rfl⟩ : ∃ w0 w1 w2 : Value, args = #[w0, w1, w2] := by
    have hs : args.size = 3 := by simpa [Cond.value, given_1] using hcnt
    obtain ⟨L⟩ := args
    match L, hs with
    | [w0, w1, w2], _ => exact ⟨w0, w1, w2, rfl⟩
  have hw := fun d (hd : d ∈ tables_1) => atoms_spec (ws := Jvm.Cond.code x code maxLocals ret :: tables_1) hat d (List.mem_cons_of_mem _ hd)
  have hfit : Fit s := fun {y c} hc i hi => by
    obtain ⟨ha, rfl⟩ := Array.getElem?_eq_some_iff.mp hc
    have q := List.all_eq_true.mp ((Array.all_eq_true_iff_forall_mem.mp hF) _ (Array.getElem_mem ha)) i (List.mem_range.mpr hi)
    simpa [Array.getElem?_eq_getElem hi] using q
  obtain ⟨i0, e0⟩ := isL_v k0
  obtain rfl : w0 = (.long i0) := Option.some.inj e0
  obtain ⟨i1, e1⟩ := is_v k1
  obtain rfl : w1 = (.int i1) := Option.some.inj e1
  obtain ⟨i2, e2⟩ := is_v k2
  obtain rfl : w2 = (.int i2) := Option.some.inj e2
  obtain ⟨n, o, h1, h2, h3, _, L, rfl, ⟨rfl, N⟩, hq⟩ := rm0 l s _ hw tables_1 s.heap s.heap.size (Nat.le_refl _) i0 i1 i2  p e ha hc hk s m _ below hf ((Spec.applies_iff_loose hf).mp happ).1 ⟨rfl, State.Warmed39.refl s, rfl⟩ trivial
  refine ⟨n, _, h1, h2, h3, hpost _ _ _ _ _ _ ⟨Cond.after_iff.mpr rfl, Cond.after_iff.mpr (eq_i res_at (Term.int_eval (1)) rfl), trivial⟩ ⟨hq.1, hq.2.1, (hq.2.2.sift fun y hy => Or.inr (N y hy)).mono (by decide) (by decide)⟩⟩
theorem main_1_1 : Claimed_1_1 := comes_1 fun _ _ _ _ _ _ h hF => ⟨h.1, hF⟩
theorem main_1_2 : Claimed_1_2 := comes_1 fun _ _ _ _ _ _ h hF => ⟨h.2.1, hF⟩
end Jvm.Pilot.@@N@@
namespace Jvm.Pilot.@@N@@
open Jvm Jvm.ClassFile Sem Op Lib Jvm.Free Jvm.Stand Jvm.Pilot.@@N@@.Jvm.D
/-! MADE BY PROGRAM (witnessworld.py) out of the Statement's table words and the real class files: 12 classes; the members and pool entries that the words name. The judged class is class 1, her method 2. -/
namespace start1
open Jvm.ClassFile
def u (s : String) : CpInfo := .utf8 (stringToUtf16 s)
/-- a pool by its gaps: so many unusable entries, then the entry; so many at the end -/
def gap : Nat → List CpInfo → List CpInfo
  | 0, r => r
  | n + 1, r => .unusable :: gap n r
def poolList (es : List (Nat × CpInfo)) (last : Nat) : List CpInfo := es.foldr (fun e r => gap e.1 (e.2 :: r)) (gap last [])
def pool (es : List (Nat × CpInfo)) (last : Nat) : Array CpInfo := ⟨poolList es last⟩
def fileOf (pool : Array CpInfo) (this : Nat) (attrs : Array Attribute := #[]) (ms : Array MethodInfo := #[]) (fl : Nat := 33) (sup : Nat := 0) (ifs : Array Nat := #[]) (fds : Array FieldInfo := #[]) : ClassFile where
  minorVersion := 0
  majorVersion := 65
  constantPool := pool
  accessFlags := fl
  thisClass := this
  superClass := sup
  interfaces := ifs
  fields := fds
  methods := ms
  attributes := attrs
def plain (name : String) (sup : Option ClassId) : Class where
  name := name
  kind := .ordinary
  loader := none
  accessFlags := 33
  super := sup
  interfaces := #[]
  cf := none
  fields := #[]
  methods := #[]
  instanceTypes := #[]
  staticTypes := #[]
  resolved := #[]
  callSites := []
  init := .initialized
  statics := none
  mirror := none

def pool0 : Array CpInfo := pool [(5, u "<init>"), (0, u "()V"), (1, .class_ 10), (1, u "java/lang/Object")] 113

def k0m0 : Method := { name := "<init>", desc := "()V", sig := { parameters := [], returnType := none }, accessFlags := 1, code := none }
/-- java/lang/Object -/
def k0 : Class := { plain "java/lang/Object" none with
  accessFlags := 33
  interfaces := #[]
  cf := some (fileOf pool0 8 #[] #[{ accessFlags := 1, nameIndex := 5, descriptorIndex := 6, attributes := #[] }] 33 0 #[] #[])
  fields := #[]
  methods := #[k0m0]
  instanceTypes := #[]
  staticTypes := #[]
  resolved := Array.replicate 124 none
  statics := none }

def pool1 : Array CpInfo := pool [(2, .class_ 4), (1, u "java/lang/Object"), (0, u "<init>"), (0, u "()V"), (0, .long 65520), (1, .long 65504), (1, .long 4611686018427387903), (1, .methodref 14 15), (0, .class_ 16), (0, .nameAndType 17 18), (0, u "com/example/callweave/callweave/generate/ReplayHashes"), (0, u "startOfTest"), (0, u "(JII)J"), (0, .long 15), (1, .long 65535), (1, .long 16), (1, .methodref 26 27), (0, .class_ 28), (0, .nameAndType 29 30), (0, u "com/example/callweave/callweave/generate/ReplayHashesStartOfTestPinLaw"), (0, u "lastValidIn"), (0, u "(JI)J"), (3, u "law"), (0, u "(JII)Z")] 2

def k1m0 : Method := { name := "<init>", desc := "()V", sig := { parameters := [], returnType := none }, accessFlags := 2, code := none }
def k1c1 : Code := { maxStack := 4, maxLocals := 5, code := method_2_code, exceptionTable := #[], attributes := #[] }
def k1m1 : Method := { name := "lastValidIn", desc := "(JI)J", sig := { parameters := [.long, .int], returnType := some .long }, accessFlags := 10, code := some k1c1 }
def k1c2 : Code := { maxStack := 4, maxLocals := 21, code := code, exceptionTable := #[], attributes := #[] }
def k1m2 : Method := { name := "law", desc := "(JII)Z", sig := { parameters := [.long, .int, .int], returnType := some .boolean }, accessFlags := 9, code := some k1c2 }
/-- com/example/callweave/callweave/generate/ReplayHashesStartOfTestPinLaw -/
def k1 : Class := { plain "com/example/callweave/callweave/generate/ReplayHashesStartOfTestPinLaw" (some 0) with
  accessFlags := 49
  interfaces := #[]
  cf := some (fileOf pool1 26 #[] #[{ accessFlags := 2, nameIndex := 5, descriptorIndex := 6, attributes := #[] }, { accessFlags := 10, nameIndex := 29, descriptorIndex := 30, attributes := #[] }, { accessFlags := 9, nameIndex := 34, descriptorIndex := 35, attributes := #[] }] 49 2 #[] #[])
  fields := #[]
  methods := #[k1m0, k1m1, k1m2]
  instanceTypes := #[]
  staticTypes := #[]
  resolved := Array.replicate 38 none
  statics := none }

def pool2 : Array CpInfo := pool [(1, .class_ 2), (0, u "java/lang/constant/Constable"), (0, .class_ 4), (0, u "java/lang/Object")] 6

/-- java/lang/constant/Constable -/
def k2 : Class := { plain "java/lang/constant/Constable" (some 0) with
  accessFlags := 1537
  interfaces := #[]
  cf := some (fileOf pool2 1 #[] #[] 1537 3 #[] #[])
  fields := #[]
  methods := #[]
  instanceTypes := #[]
  staticTypes := #[]
  resolved := Array.replicate 11 none
  statics := none }

def pool3 : Array CpInfo := pool [(1, .class_ 2), (0, u "java/lang/Comparable"), (0, .class_ 4), (0, u "java/lang/Object")] 7

/-- java/lang/Comparable -/
def k3 : Class := { plain "java/lang/Comparable" (some 0) with
  accessFlags := 1537
  interfaces := #[]
  cf := some (fileOf pool3 1 #[] #[] 1537 3 #[] #[])
  fields := #[]
  methods := #[]
  instanceTypes := #[]
  staticTypes := #[]
  resolved := Array.replicate 12 none
  statics := none }

def pool4 : Array CpInfo := pool [(1, .class_ 2), (0, u "java/io/Serializable"), (0, .class_ 4), (0, u "java/lang/Object")] 2

/-- java/io/Serializable -/
def k4 : Class := { plain "java/io/Serializable" (some 0) with
  accessFlags := 1537
  interfaces := #[]
  cf := some (fileOf pool4 1 #[] #[] 1537 3 #[] #[])
  fields := #[]
  methods := #[]
  instanceTypes := #[]
  staticTypes := #[]
  resolved := Array.replicate 7 none
  statics := none }

def pool5 : Array CpInfo := pool [(2, .class_ 4), (1, u "java/lang/Enum"), (0, u "name"), (0, u "Ljava/lang/String;"), (2, u "ordinal"), (0, u "I"), (1, .class_ 14), (1, u "java/lang/Object"), (4, u "hash"), (86, .class_ 108), (1, u "java/lang/Enum$EnumDesc"), (2, .class_ 112), (0, u "java/lang/constant/Constable"), (0, .class_ 114), (0, u "java/lang/Comparable"), (0, .class_ 116), (0, u "java/io/Serializable")] 87

/-- java/lang/Enum -/
def k5 : Class := { plain "java/lang/Enum" (some 0) with
  accessFlags := 1057
  interfaces := #[2, 3, 4]
  cf := some (fileOf pool5 2 #[.nestMembers #[106]] #[] 1057 12 #[111, 113, 115] #[{ accessFlags := 18, nameIndex := 5, descriptorIndex := 6, attributes := #[] }, { accessFlags := 18, nameIndex := 9, descriptorIndex := 10, attributes := #[] }, { accessFlags := 2, nameIndex := 19, descriptorIndex := 10, attributes := #[] }])
  fields := #[{ name := "name", type := (.object "java/lang/String"), accessFlags := 18, slot := 0, constantValue := 0 }, { name := "ordinal", type := .int, accessFlags := 18, slot := 1, constantValue := 0 }, { name := "hash", type := .int, accessFlags := 2, slot := 2, constantValue := 0 }]
  methods := #[]
  instanceTypes := #[(.object "java/lang/String"), .int, .int]
  staticTypes := #[]
  resolved := Array.replicate 204 none
  statics := none }

def pool6 : Array CpInfo := pool [(3, .class_ 4), (0, u "com/example/callweave/callweave/generate/ReplayHashes"), (2, u "PLAIN"), (0, u "Lcom/example/callweave/callweave/generate/ReplayHashes;"), (2, u "FLIPPED"), (2, u "$VALUES"), (0, u "[Lcom/example/callweave/callweave/generate/ReplayHashes;"), (6, .class_ 24), (1, u "java/lang/Enum"), (8, u "blockEnding"), (0, u "I"), (2, u "aheadReversed"), (0, u "Z"), (10, .class_ 50), (0, u "com/example/callweave/callweave/generate/ReplayHashes$Numbering"), (3, .long 15), (1, .long 16), (4, .class_ 63), (1, u "com/example/callweave/callweave/generate/ReplayHashes$NullKey"), (269, u "BLOCK_BITS"), (2, u "RUN"), (0, u "LARGEST_HASH"), (0, u "J"), (0, u "AHEAD_BLOCK_ENDING"), (1, u "WINDOW"), (1, u "MOST_PLACES"), (1, u "FIRST_CONSTANTS"), (0, u "HASHTABLE_BUCKETS"), (1, u "OBJECTS_BETWEEN_GAPS"), (11, u "startOfTest"), (0, u "(JII)J")] 29

def k6c0 : Code := { maxStack := 8, maxLocals := 9, code := prog_24_method_6_code, exceptionTable := #[], attributes := #[] }
def k6m0 : Method := { name := "startOfTest", desc := "(JII)J", sig := { parameters := [.long, .int, .int], returnType := some .long }, accessFlags := 8, code := some k6c0 }
/-- com/example/callweave/callweave/generate/ReplayHashes -/
def k6 : Class := { plain "com/example/callweave/callweave/generate/ReplayHashes" (some 5) with
  accessFlags := 16432
  interfaces := #[]
  cf := some (fileOf pool6 3 #[.nestMembers #[49, 61]] #[{ accessFlags := 8, nameIndex := 360, descriptorIndex := 361, attributes := #[] }] 16432 22 #[] #[{ accessFlags := 16409, nameIndex := 7, descriptorIndex := 8, attributes := #[] }, { accessFlags := 16409, nameIndex := 11, descriptorIndex := 8, attributes := #[] }, { accessFlags := 26, nameIndex := 333, descriptorIndex := 34, attributes := #[] }, { accessFlags := 26, nameIndex := 336, descriptorIndex := 34, attributes := #[] }, { accessFlags := 26, nameIndex := 337, descriptorIndex := 338, attributes := #[] }, { accessFlags := 26, nameIndex := 339, descriptorIndex := 34, attributes := #[] }, { accessFlags := 26, nameIndex := 341, descriptorIndex := 34, attributes := #[] }, { accessFlags := 26, nameIndex := 343, descriptorIndex := 34, attributes := #[] }, { accessFlags := 26, nameIndex := 345, descriptorIndex := 34, attributes := #[] }, { accessFlags := 26, nameIndex := 346, descriptorIndex := 34, attributes := #[] }, { accessFlags := 26, nameIndex := 348, descriptorIndex := 34, attributes := #[] }, { accessFlags := 18, nameIndex := 33, descriptorIndex := 34, attributes := #[] }, { accessFlags := 18, nameIndex := 37, descriptorIndex := 38, attributes := #[] }, { accessFlags := 4122, nameIndex := 14, descriptorIndex := 15, attributes := #[] }])
  fields := #[{ name := "PLAIN", type := (.object "com/example/callweave/callweave/generate/ReplayHashes"), accessFlags := 16409, slot := 0, constantValue := 0 }, { name := "FLIPPED", type := (.object "com/example/callweave/callweave/generate/ReplayHashes"), accessFlags := 16409, slot := 1, constantValue := 0 }, { name := "BLOCK_BITS", type := .int, accessFlags := 26, slot := 2, constantValue := 0 }, { name := "RUN", type := .int, accessFlags := 26, slot := 3, constantValue := 0 }, { name := "LARGEST_HASH", type := .long, accessFlags := 26, slot := 4, constantValue := 0 }, { name := "AHEAD_BLOCK_ENDING", type := .int, accessFlags := 26, slot := 5, constantValue := 0 }, { name := "WINDOW", type := .int, accessFlags := 26, slot := 6, constantValue := 0 }, { name := "MOST_PLACES", type := .int, accessFlags := 26, slot := 7, constantValue := 0 }, { name := "FIRST_CONSTANTS", type := .int, accessFlags := 26, slot := 8, constantValue := 0 }, { name := "HASHTABLE_BUCKETS", type := .int, accessFlags := 26, slot := 9, constantValue := 0 }, { name := "OBJECTS_BETWEEN_GAPS", type := .int, accessFlags := 26, slot := 10, constantValue := 0 }, { name := "blockEnding", type := .int, accessFlags := 18, slot := 3, constantValue := 0 }, { name := "aheadReversed", type := .boolean, accessFlags := 18, slot := 4, constantValue := 0 }, { name := "$VALUES", type := (.array (.object "com/example/callweave/callweave/generate/ReplayHashes")), accessFlags := 4122, slot := 11, constantValue := 0 }]
  methods := #[k6m0]
  instanceTypes := #[(.object "java/lang/String"), .int, .int, .int, .boolean]
  staticTypes := #[(.object "com/example/callweave/callweave/generate/ReplayHashes"), (.object "com/example/callweave/callweave/generate/ReplayHashes"), .int, .int, .long, .int, .int, .int, .int, .int, .int, (.array (.object "com/example/callweave/callweave/generate/ReplayHashes"))]
  resolved := Array.replicate 391 none
  statics := none }

def pool7 : Array CpInfo := pool [(1, u "java/lang/Cloneable"), (0, .class_ 1), (0, u "java/lang/Object"), (0, .class_ 3)] 3

/-- java/lang/Cloneable -/
def k7 : Class := { plain "java/lang/Cloneable" (some 0) with
  accessFlags := 1537
  interfaces := #[]
  cf := some (fileOf pool7 2 #[] #[] 1537 4 #[] #[])
  fields := #[]
  methods := #[]
  instanceTypes := #[]
  staticTypes := #[]
  resolved := Array.replicate 8 none
  statics := none }

/-- the primitive byte -/
def k8 : Class := { plain "byte" none with kind := .primitive 'B', accessFlags := 0x411 }
/-- [B -/
def k9 : Class := { plain "[B" (some 0) with kind := .array 8 .byte, interfaces := #[7, 4], accessFlags := 1041 }

/-- the primitive int -/
def k10 : Class := { plain "int" none with kind := .primitive 'I', accessFlags := 0x411 }
/-- [I -/
def k11 : Class := { plain "[I" (some 0) with kind := .array 10 .int, interfaces := #[7, 4], accessFlags := 1041 }

def heap : Heap := #[]
def classes : Array Class := #[k0, k1, k2, k3, k4, k5, k6, k7, k8, k9, k10, k11]
def interned : List (Array UInt16 × Addr) := []
def slotsUsed : Nat := 0
def theMethod : MethodId := ⟨1, 2⟩
def args0 : Array Value := #[.long 12345, .int 3, .int 7]
def aboutOver (below : List Frame) : State where
  vm := { classes := classes, interned := interned.toArray }
  heap := heap
  slotsUsed := slotsUsed
  threads := #[{ frames := .invoking theMethod args0 :: below }]
def below0 : List Frame := [.native { method := ⟨0, 0⟩, args := #[] }]
def about1 : State := aboutOver below0
def p0 : Program := .bare "" "" ""
def e0 : Env := launch0.env 0 0 0
theorem w_frames : about1.frames = Frame.invoking theMethod args0 :: below0 := rfl
set_option maxRecDepth 65536 in
theorem w_args : argsFit about1.vm theMethod args0 = true := by decide +kernel
set_option maxRecDepth 65536 in
theorem w_heap : heapFits about1 = true := by decide +kernel
set_option maxRecDepth 65536 in
theorem w_runnable : about1.curStatus? = some .runnable := by decide +kernel
set_option maxRecDepth 65536 in
theorem w_alone : about1.alone = true := by decide +kernel
set_option maxRecDepth 65536 in
theorem w_named : about1.methodNamed? x = some theMethod := by decide +kernel
set_option maxRecDepth 65536 in
theorem w_hears : about1.hears theMethod below0 = true := by decide +kernel
set_option maxRecDepth 65536 in
theorem w_ripe : about1.ripe theMethod args0 below0 = true := by decide +kernel
theorem w_running : about1.status = .running := rfl
set_option maxRecDepth 65536 in
theorem w_room : about1.hasRoom e0.platform room_1 = true :=
  launch0.hasRoom_least _ room_1 (by decide +kernel) (by decide +kernel) (by decide +kernel) (by decide +kernel) (by decide +kernel) (by decide +kernel)
theorem allAtoms_all (ts : List Jvm.Cond) (a : Array Jvm.Value) (st : Jvm.State) : (allAtoms ts).before a st = ts.all (fun c => c.before a st) := by
  induction ts with
  | nil => rfl
  | cons c t ih =>
    show (Jvm.Cond.and c (allAtoms t)).before a st = _
    rw [Jvm.Cond.before_and, ih, List.all_cons]
def words1 : List Jvm.Cond := Jvm.Cond.code x code maxLocals ret :: tables_1
/-- a 'code' word, met by the world's own term for the bytes: nothing is compared byte by byte -/
theorem code_word {y : MethodName} {bytes : ByteArray} {mx : Nat} {rt : Option FieldType} {a : Array Value} {s : State} {m : MethodId} {meth : Method} {c : Code} (h1 : s.methodNamed? y = some m) (h2 : s.vm.method? m = some meth) (h3 : meth.code = some c) (h4 : c.code = bytes)
    (h5 : (c.maxLocals == mx && c.exceptionTable.isEmpty && decide (c.maxStack ≤ mostOperands) && decide (meth.sig.returnType = rt) && !meth.locks && decide (parseMethodDescriptor y.desc = some meth.sig)) = true) : (Jvm.Cond.code y bytes mx rt).before a s = true := by
  simp only [Bool.and_eq_true, beq_iff_eq, Bool.not_eq_true', decide_eq_true_eq] at h5
  obtain ⟨⟨⟨⟨⟨g1, g2⟩, g3⟩, g4⟩, g5⟩, g6⟩ := h5
  simp [Cond.before, Cond.holds, Cond.value, h1, h2, h3, h4, g1, g2, g3, g4, g5, g6]
def isCode : Jvm.Cond → Bool
  | .code _ _ _ _ => true
  | _ => false
theorem all_split {L : List Jvm.Cond} {P : Jvm.Cond → Bool} (h1 : L.all (fun c => isCode c || P c) = true) (h2 : ∀ c ∈ L.filter isCode, P c = true) : L.all P = true := by
  refine List.all_eq_true.mpr fun c hc => ?_
  have h := List.all_eq_true.mp h1 c hc
  rcases Bool.eq_false_or_eq_true (isCode c) with hi | hi
  · exact h2 c (List.mem_filter.mpr ⟨hc, hi⟩)
  · simpa [hi] using h
set_option maxRecDepth 65536 in
theorem w_c0 : (Jvm.Cond.code x code maxLocals ret).before args0 about1 = true := code_word (m := ⟨1, 2⟩) (meth := k1m2) (c := k1c2) (by decide +kernel) rfl rfl rfl (by decide +kernel)
set_option maxRecDepth 65536 in
theorem w_c1 : (Jvm.Cond.code ({ cls := "com/example/callweave/callweave/generate/ReplayHashes", name := "startOfTest", desc := "(JII)J" } : Jvm.MethodName) prog_24_method_6_code (9 : Nat) (Option.some Jvm.ClassFile.FieldType.long)).before args0 about1 = true := code_word (m := ⟨6, 0⟩) (meth := k6m0) (c := k6c0) (by decide +kernel) rfl rfl rfl (by decide +kernel)
set_option maxRecDepth 65536 in
theorem w_c2 : (Jvm.Cond.code ({ cls := "com/example/callweave/callweave/generate/ReplayHashesStartOfTestPinLaw", name := "lastValidIn", desc := "(JI)J" } : Jvm.MethodName) method_2_code (5 : Nat) (Option.some Jvm.ClassFile.FieldType.long)).before args0 about1 = true := code_word (m := ⟨1, 1⟩) (meth := k1m1) (c := k1c1) (by decide +kernel) rfl rfl rfl (by decide +kernel)
def codes1 : List Jvm.Cond := [Jvm.Cond.code x code maxLocals ret, Jvm.Cond.code ({ cls := "com/example/callweave/callweave/generate/ReplayHashes", name := "startOfTest", desc := "(JII)J" } : Jvm.MethodName) prog_24_method_6_code (9 : Nat) (Option.some Jvm.ClassFile.FieldType.long), Jvm.Cond.code ({ cls := "com/example/callweave/callweave/generate/ReplayHashesStartOfTestPinLaw", name := "lastValidIn", desc := "(JI)J" } : Jvm.MethodName) method_2_code (5 : Nat) (Option.some Jvm.ClassFile.FieldType.long)]
set_option maxRecDepth 65536 in
theorem codes_eq : words1.filter isCode = codes1 := rfl
theorem w_codes : ∀ c ∈ words1.filter isCode, c.before args0 about1 = true := by
  rw [codes_eq]
  intro c hc
  simp only [codes1, List.mem_cons, List.not_mem_nil, or_false] at hc
  rcases hc with rfl | rfl | rfl
  · exact w_c0
  · exact w_c1
  · exact w_c2
set_option maxRecDepth 65536 in
theorem w_t1 : words1.all (fun c => isCode c || c.before args0 about1) = true := by decide +kernel
theorem w_tables : (allAtoms (Jvm.Cond.code x code maxLocals ret :: tables_1)).before args0 about1 = true := by
  rw [allAtoms_all]
  show words1.all (fun c => c.before args0 about1) = true
  refine all_split ?_ w_codes
  rw [w_t1]
set_option maxRecDepth 65536 in
theorem w_case : (Jvm.Cond.and given_1 narrow_1).before args0 about1 = true := by decide +kernel
theorem w_applies : (headSpec (Jvm.Cond.code x code maxLocals ret :: tables_1) room_1).applies x e0.platform about1 = true :=
  (Spec.applies_iff w_frames).mpr ⟨w_running, w_runnable, w_alone, w_named, w_hears, w_ripe, w_room, w_tables⟩
theorem atStart : AtStart classFile x code maxLocals ret World_1 tables_1 room_1 Calls_1 rest_1 Pre_1 launch0 p0 e0 about1 theMethod args0 below0 :=
  ⟨lists_1, trivial, launch0.admits_env _ _ _, launch0.least_env, fairChoices_fair.cas, fairChoices_fair.clock, w_frames, w_args, w_heap, w_applies, trivial, trivial, w_case⟩
end start1
theorem witness_1 : WitnessClaimed_1 := ⟨start1.p0, start1.e0, start1.about1, start1.theMethod, start1.args0, start1.below0, start1.atStart⟩
end Jvm.Pilot.@@N@@
