import JvmDerived
import JvmDerived.Pilot.@@N@@Statement
import JvmDerived.Pilot.@@N@@Code
set_option linter.unusedVariables false
set_option linter.unusedSimpArgs false
namespace Jvm.RoadKit
open Sem ClassFile Op Lib Jvm.Stand Jvm.Free Jvm.LawKit
section New
variable {p : Program} {l : Launch} {e : Env} {R : Room} {s : State} {m : MethodId} {args : Array Value} {below : List Frame} {meth : Method} {c : Code} {T : State} {locs : List Loc} {cells slots : Nat}
theorem retI (X : Stand p l e R s m args below meth c T locs cells slots) (hx : p.tables.exec = Jvm.exec) {pc : Nat} {Ls : Array Slot} {z : Int32} {rest : List Value} (hret : meth.sig.returnType = some .int) (hd : decode c.code pc = .ok (.ireturn, 1)) {fs : List Frame}
    (hl : ∀ (f : JFrame) (acts : List Action), f.method = m → f.locked = none → f.entered = [] → (doReturn e (T.setTop f) acts (some (.int z))).1 = T.setFrames fs) : Steps p.tables e below (T.setTop (mkF m pc Ls (.int z :: rest))) (T.setFrames fs) := by
  have hm' : T.vm.method? m = some meth := X.method'
  have hn : narrow .int (.int z) = .int z := rfl
  show Steps p.tables e below (T.setTop { method := m, pc := pc, locals := Ls, stack := _ :: rest, locked := none }) _
  jvm_step X.here [X.here.top, hx, hd, hm', hret, hn]
  first | (intro acts; rw [hl _ acts rfl rfl rfl]) | rw [hl _ _ rfl rfl rfl]
  exact Steps.refl _
end New
end Jvm.RoadKit
namespace Jvm.Pilot.@@N@@
open Jvm Jvm.ClassFile Sem Op Lib Jvm.Free Jvm.Stand Jvm.LawKit Jvm.RoadKit Bundle Jvm.Pilot.@@N@@.Jvm.D
section OwnRun
variable {p : Program} {l : Launch} {e : Env} {R : Room} {s : State} {m : MethodId} {args : Array Value} {below : List Frame} {meth : Method} {c : Code} {T T' : State} {locs : List Loc} {cells slots : Nat} {Q : Option Value → Heap → List Loc → Prop} {C S : Nat}
/-- from T with the frame g on top the body comes to its end, and what it leaves is as Q says -/
def ORun (p : Program) (e : Env) (below : List Frame) (s : State) (Q : Option Value → Heap → List Loc → Prop) (C S : Nat) (T : State) (g : JFrame) : Prop :=
  ∃ s₂ o, Steps p.tables e below (T.setTop g) s₂ ∧ s₂.status = .running ∧ Ended s₂ below o ∧ ∃ v L, o = .returned v ∧ Q v s₂.heap L ∧ FrameEnd s o s₂ L C S
theorem own_by {g g' : JFrame} (st : ∀ t, Steps p.tables e below (T'.setTop g') t → Steps p.tables e below (T.setTop g) t) (h : ORun p e below s Q C S T' g') : ORun p e below s Q C S T g := by
  obtain ⟨s₂, o, h1, h2⟩ := h
  exact ⟨s₂, o, st _ h1, h2⟩
theorem own_tr {g g' : JFrame} (st : Steps p.tables e below (T.setTop g) (T'.setTop g')) (h : ORun p e below s Q C S T' g') : ORun p e below s Q C S T g := own_by (fun _ k => st.trans k) h
theorem own_letI (x : Int32) {f : Int32 → JFrame} (h : ∀ v, v = x → ORun p e below s Q C S T (f v)) : ORun p e below s Q C S T (f x) := h x rfl
theorem own_letJ (x : Int64) {f : Int64 → JFrame} (h : ∀ v, v = x → ORun p e below s Q C S T (f v)) : ORun p e below s Q C S T (f x) := h x rfl
theorem own_retI (X : Stand p l e R s m args below meth c T locs cells slots) (hx : p.tables.exec = Jvm.exec) {pc : Nat} {Ls : Array Slot} {z : Int32} {rest : List Value} (hret : meth.sig.returnType = some .int) (hlk : meth.locks = false) (hd : decode c.code pc = .ok (.ireturn, 1)) (hc : cells ≤ C) (hs : slots ≤ S) (hQ : Q (some (.int z)) T.heap locs) :
    ORun p e below s Q C S T (mkF m pc Ls (.int z :: rest)) := by
  obtain ⟨fs, hr, hrun, hended, hW, hsame⟩ := X.leave (v := some (.int z)) (fun h => by rw [hret] at h; cases h) hlk
  exact ⟨_, _, retI X hx hret hd hr, hrun, hended, _, _, rfl, hQ, ⟨_, rfl⟩, hW, hsame.mono hc hs⟩
theorem own_retN (X : Stand p l e R s m args below meth c T locs cells slots) (hx : p.tables.exec = Jvm.exec) {pc : Nat} {Ls : Array Slot} {z : Int32} {t : FieldType} {rest : List Value} (hret : meth.sig.returnType = some t) (ht : t = .boolean ∨ t = .byte ∨ t = .char ∨ t = .short) (hlk : meth.locks = false) (hd : decode c.code pc = .ok (.ireturn, 1)) (hc : cells ≤ C) (hs : slots ≤ S) (hQ : Q (some (.int (nar t z))) T.heap locs) :
    ORun p e below s Q C S T (mkF m pc Ls (.int z :: rest)) := by
  obtain ⟨fs, hr, hrun, hended, hW, hsame⟩ := X.leave (v := some (.int (nar t z))) (fun h => by rw [hret] at h; cases h) hlk
  exact ⟨_, _, retN X hx hret ht hd hr, hrun, hended, _, _, rfl, hQ, ⟨_, rfl⟩, hW, hsame.mono hc hs⟩
theorem own_retJ (X : Stand p l e R s m args below meth c T locs cells slots) (hx : p.tables.exec = Jvm.exec) {pc : Nat} {Ls : Array Slot} {z : Int64} (hret : meth.sig.returnType = some .long) (hlk : meth.locks = false) (hd : decode c.code pc = .ok (.lreturn, 1)) (hc : cells ≤ C) (hs : slots ≤ S) (hQ : Q (some (.long z)) T.heap locs) :
    ORun p e below s Q C S T (mkF m pc Ls [.long z]) := by
  obtain ⟨fs, hr, hrun, hended, hW, hsame⟩ := X.leave (v := some (.long z)) (fun h => by rw [hret] at h; cases h) hlk
  exact ⟨_, _, X.lreturnOut hx hret hd hr, hrun, hended, _, _, rfl, hQ, ⟨_, rfl⟩, hW, hsame.mono hc hs⟩
theorem own_retA (X : Stand p l e R s m args below meth c T locs cells slots) (hx : p.tables.exec = Jvm.exec) {pc : Nat} {Ls : Array Slot} {z : Value} {t : FieldType} {rest : List Value} (hret : meth.sig.returnType = some t) (ht : t.isReference = true) (hz : z.isRef = true) (hn : narrow t z = z) (hlk : meth.locks = false) (hd : decode c.code pc = .ok (.areturn, 1)) (hc : cells ≤ C) (hs : slots ≤ S) (hQ : Q (some z) T.heap locs) :
    ORun p e below s Q C S T (mkF m pc Ls (z :: rest)) := by
  obtain ⟨fs, hr, hrun, hended, hW, hsame⟩ := X.leave (v := some z) (fun h => by rw [hret] at h; cases h) hlk
  exact ⟨_, _, retOut X hx hret hn (Or.inr (Or.inr (Or.inr (Or.inr ⟨rfl, ht, hz⟩)))) hd hr, hrun, hended, _, _, rfl, hQ, ⟨_, rfl⟩, hW, hsame.mono hc hs⟩
theorem own_retV (X : Stand p l e R s m args below meth c T locs cells slots) (hx : p.tables.exec = Jvm.exec) {pc : Nat} {Ls : Array Slot} (hret : meth.sig.returnType = none) (hlk : meth.locks = false) (hd : decode c.code pc = .ok (.return_, 1)) (hc : cells ≤ C) (hs : slots ≤ S) (hQ : Q none T.heap locs) :
    ORun p e below s Q C S T (mkF m pc Ls []) := by
  obtain ⟨fs, hr, hrun, hended, hW, hsame⟩ := X.leave (v := none) (fun _ => rfl) hlk
  exact ⟨_, _, X.returnOut hx hret hd hr, hrun, hended, _, _, rfl, hQ, ⟨_, rfl⟩, hW, hsame.mono hc hs⟩
/-- a body's contract: called with as at the heap h (tables as at Z) it returns, and what it leaves is as Q says -/
abbrev OMet (l : Launch) (y : MethodName) (bytes : ByteArray) (maxL : Nat) (ret : Option FieldType) (ws : List Jvm.Cond) (rm : Room) (as' : Array Value) (Z : State) (h : Heap) (Q : Option Value → Heap → List Loc → Prop) : Prop :=
  MetFree l y (head1 (Jvm.Cond.code y bytes maxL ret :: ws) rm) (fun a U => a = as' ∧ Z.Warmed39 U.vm ∧ U.heap = h) (fun _ _ _ _ _ => True) (fun _ U o U' => ∃ v L, o = .returned v ∧ Q v U'.heap L ∧ FrameEnd U o U' L rm.cells rm.slots)
theorem own_met {y : MethodName} {bytes : ByteArray} {maxL : Nat} {ret : Option FieldType} {ws : List Jvm.Cond} {rm : Room} {as' : Array Value} {Z : State} {h : Heap} {Q : Option Value → Heap → List Loc → Prop} (hpn : plainFor y = true)
    (body : ∀ p e s m below meth c s₁, Stand p l e rm s m as' below meth c s₁ [] 0 0 → p.tables.exec = Jvm.exec → c.code = bytes → c.maxLocals = maxL → s.vm.findClass y.cls = some m.cls → meth.name = y.name → meth.sig.returnType = ret → meth.locks = false → Z.Warmed39 s.vm → s₁.heap = h →
      ORun p e below s Q rm.cells rm.slots s₁ (entryFrame m as' maxL)) : OMet l y bytes maxL ret ws rm as' Z h Q := by
  refine MetFree.of_bodySF hpn hisR ?_
  intro p e s m args below meth c s₁ Bd hml0 hP hK
  obtain ⟨rfl, hZ, hh⟩ := hP
  exact body p e s m below meth c s₁ (Stand.of_body Bd) Bd.exec Bd.bytes hml0 (findClass_of_methodNamed Bd.named) (name_of_methodNamed Bd.named Bd.method).1 Bd.returns Bd.notSynchronized hZ (by rw [← hh, Bd.state]; rfl)
section Calls
variable {Z : State} {a0 : Array Value} {h : Heap} {own : String} {index : Nat} {y z : MethodName} {bytes : ByteArray} {maxL : Nat} {ret : Option FieldType} {rm : Room} {as' : Array Value} {Qc : Option Value → Heap → List Loc → Prop} {W pc : Nat} {Ls : Array Slot} {st argsL rest : List Value}
theorem own_callS (X : Stand p l e R s m args below meth c T locs cells slots) (hx : p.tables.exec = Jvm.exec) (hZ : Z.Warmed39 s.vm) (hown : s.vm.findClass own = some m.cls) (w1 : (Jvm.Cond.methodLink own index y).before a0 Z = true) (w2 : (Jvm.Cond.static y).before a0 Z = true) (w3 : (Jvm.Cond.initialized y.cls).before a0 Z = true) (w4 : (Jvm.Cond.code y bytes maxL ret).before a0 Z = true)
    (hy : y.cls ≠ "java/lang/invoke/MethodHandle" ∧ y.cls ≠ "java/lang/invoke/VarHandle") (M : OMet l y bytes maxL ret [] rm as' Z h Qc) (eT : T.heap = h) (hf : rm.frames + 1 ≤ R.frames) (hl : W + (maxL + 11) + rm.locals ≤ R.locals) (hc : cells + rm.cells ≤ R.cells) (hs : slots + rm.slots ≤ R.slots)
    (hsz : Ls.size = c.maxLocals) (hlen : ∀ sig, parseMethodDescriptor y.desc = some sig → argsL.length = sig.parameters.length) (hst : st = argsL.reverse ++ rest) (has : argsL.toArray = as') (hW : 2 * 0 + (rest.map fun v => v.category).sum ≤ W) (hd : decode c.code pc = .ok (.invokestatic index, 3))
    (K : ∀ T' L v, Stand p l e R s m args below meth c T' (locs ++ L) (cells + rm.cells) (slots + rm.slots) → Qc v T'.heap L → ORun p e below s Q C S T' (mkF m (pc + 3) Ls (v.toList ++ rest))) : ORun p e below s Q C S T (mkF m pc Ls st) := by
  obtain ⟨v, _, ⟨T', L', k', n'⟩, -, X', ⟨Lc, hQ, e1, e2, e3⟩, stp⟩ := Jvm.LawKit.callS X hx (y := y) hown (mvT hZ w1) (mvT hZ w2) (mvT hZ w3) (mvT hZ w4) hy (backOf (W := W) M hZ w4 w3 hf hl) (g := mkF m pc Ls st) rfl hsz (argsL := argsL) (rest := rest) hlen hst hW hd (fun _ _ => ⟨has, eT, hc, hs⟩)
  dsimp only [Pt.U, Pt.locs, Pt.cells, Pt.slots] at X' e1 e2 e3 stp hQ
  subst e1 e2 e3
  exact own_by stp (K T' Lc v X' hQ)
theorem own_callC (X : Stand p l e R s m args below meth c T locs cells slots) (hx : p.tables.exec = Jvm.exec) (hZ : Z.Warmed39 s.vm) (hown : s.vm.findClass own = some m.cls) (hn : y.name = "<init>") (w1 : (Jvm.Cond.methodLink own index y).before a0 Z = true) (w2 : (Jvm.Cond.instanceMethod y).before a0 Z = true) (w3 : (Jvm.Cond.initialized y.cls).before a0 Z = true) (w4 : (Jvm.Cond.code y bytes maxL none).before a0 Z = true)
    (hy : y.cls ≠ "java/lang/invoke/MethodHandle" ∧ y.cls ≠ "java/lang/invoke/VarHandle") (M : OMet l y bytes maxL none [] rm as' Z h Qc) (eT : T.heap = h) (hf : rm.frames + 1 ≤ R.frames) (hl : W + (maxL + 11) + rm.locals ≤ R.locals) (hc : cells + rm.cells ≤ R.cells) (hs : slots + rm.slots ≤ R.slots)
    {b : Addr} (hsz : Ls.size = c.maxLocals) (hlen : ∀ sig, parseMethodDescriptor y.desc = some sig → argsL.length = sig.parameters.length) (hst : st = argsL.reverse ++ .ref b :: rest) (has : (.ref b :: argsL).toArray = as') (hW : 2 * 0 + (rest.map fun v => v.category).sum ≤ W) (hd : decode c.code pc = .ok (.invokespecial index, 3))
    (K : ∀ T' L v, Stand p l e R s m args below meth c T' (locs ++ L) (cells + rm.cells) (slots + rm.slots) → Qc v T'.heap L → ORun p e below s Q C S T' (mkF m (pc + 3) Ls (v.toList ++ rest))) : ORun p e below s Q C S T (mkF m pc Ls st) := by
  obtain ⟨v, _, ⟨T', L', k', n'⟩, -, X', ⟨Lc, hQ, e1, e2, e3⟩, stp⟩ := X.specialBack hx (y := y) hn hown (mvT hZ w1) (mvT hZ w2) (mvT hZ w4) hy (backOf (W := W) M hZ w4 w3 hf hl) (g := mkF m pc Ls st) rfl hsz (Steps.refl _) (a := b) (argsL := argsL) (rest := rest) hlen hst hW hd (fun _ _ => ⟨has, eT, hc, hs⟩)
  dsimp only [Pt.U, Pt.locs, Pt.cells, Pt.slots] at X' e1 e2 e3 stp hQ
  subst e1 e2 e3
  exact own_tr stp (K T' Lc v X' hQ)
theorem own_callV (X : Stand p l e R s m args below meth c T locs cells slots) (hx : p.tables.exec = Jvm.exec) (hZ : Z.Warmed39 s.vm) (hown : s.vm.findClass own = some m.cls) {Cn : String} {b : Addr} (E : Exa Z h b Cn) (w1 : (Jvm.Cond.methodLink own index y).before a0 Z = true) (wd : (Jvm.Cond.declares y).before a0 Z = true) (nf : NotFace s y) (ws : (Jvm.Cond.selects Cn y z).before a0 Z = true) (w2 : (Jvm.Cond.instanceMethod z).before a0 Z = true) (w3 : (Jvm.Cond.initialized z.cls).before a0 Z = true) (w4 : (Jvm.Cond.code z bytes maxL ret).before a0 Z = true)
    (hy : y.cls ≠ "java/lang/invoke/MethodHandle" ∧ y.cls ≠ "java/lang/invoke/VarHandle") (M : OMet l z bytes maxL ret [] rm as' Z h Qc) (eT : T.heap = h) (hf : rm.frames + 1 ≤ R.frames) (hl : W + (maxL + 11) + rm.locals ≤ R.locals) (hc : cells + rm.cells ≤ R.cells) (hs : slots + rm.slots ≤ R.slots)
    (hsz : Ls.size = c.maxLocals) (hlen : ∀ sig, parseMethodDescriptor y.desc = some sig → argsL.length = sig.parameters.length) (hst : st = argsL.reverse ++ .ref b :: rest) (has : (.ref b :: argsL).toArray = as') (hW : 2 * 0 + (rest.map fun v => v.category).sum ≤ W) (hd : decode c.code pc = .ok (.invokevirtual index, 3))
    (K : ∀ T' L v, Stand p l e R s m args below meth c T' (locs ++ L) (cells + rm.cells) (slots + rm.slots) → Qc v T'.heap L → ORun p e below s Q C S T' (mkF m (pc + 3) Ls (v.toList ++ rest))) : ORun p e below s Q C S T (mkF m pc Ls st) := by
  obtain ⟨cq, kq, qa, qb, qc⟩ := isOf hZ eT E
  obtain ⟨v, _, ⟨T', L', k', n'⟩, -, X', ⟨Lc, hQ, e1, e2, e3⟩, stp⟩ := X.virtualBack hx (y := y) (z := z) hown (mvT hZ w1) (mvT hZ wd) nf (mvT hZ ws) (mvT hZ w2) hy (backOf (W := W) M hZ w4 w3 hf hl) qa qc (g := mkF m pc Ls st) rfl hsz (Steps.refl _) (argsL := argsL) (rest := rest) hlen hst hW hd (fun _ _ => ⟨has, eT, hc, hs⟩)
  dsimp only [Pt.U, Pt.locs, Pt.cells, Pt.slots] at X' e1 e2 e3 stp hQ
  subst e1 e2 e3
  exact own_tr stp (K T' Lc v X' hQ)
end Calls
end OwnRun
theorem own_lt {x y : Int32} {a b : Int} (h : x < y) (ha : x.toInt = a) (hb : y.toInt = b) : a < b := by subst ha hb; exact Int32.lt_iff_toInt_lt.mp h
theorem own_nlt {x y : Int32} {a b : Int} (h : ¬ x < y) (ha : x.toInt = a) (hb : y.toInt = b) : b ≤ a := by subst ha hb; exact Int.not_lt.mp fun q => h (Int32.lt_iff_toInt_lt.mpr q)
theorem own_eq {x y : Int32} {a b : Int} (h : x = y) (ha : x.toInt = a) (hb : y.toInt = b) : a = b := by subst ha hb h; rfl
theorem own_ne {x y : Int32} {a b : Int} (h : ¬ x = y) (ha : x.toInt = a) (hb : y.toInt = b) : a ≠ b := by subst ha hb; exact fun q => h (Int32.toInt_inj.mp q)
theorem own_ltL {x y : Int64} {a b : Int} (h : x < y) (ha : x.toInt = a) (hb : y.toInt = b) : a < b := by subst ha hb; exact Int64.lt_iff_toInt_lt.mp h
theorem own_nltL {x y : Int64} {a b : Int} (h : ¬ x < y) (ha : x.toInt = a) (hb : y.toInt = b) : b ≤ a := by subst ha hb; exact Int.not_lt.mp fun q => h (Int64.lt_iff_toInt_lt.mpr q)
theorem own_eqL {x y : Int64} {a b : Int} (h : x = y) (ha : x.toInt = a) (hb : y.toInt = b) : a = b := by subst ha hb h; rfl
theorem own_neL {x y : Int64} {a b : Int} (h : ¬ x = y) (ha : x.toInt = a) (hb : y.toInt = b) : a ≠ b := by subst ha hb; exact fun q => h (Int64.toInt_inj.mp q)
theorem own_lc {cd : ClassFile.Cond} {x y : Int64} {b : Bool} (h : if_icmp.holds cd (lcmpW x y) 0 = b) : ifCond.holds cd (lcmpW x y) = b := (if0 _ _).trans h
theorem own_lclt {x y : Int64} (h : x < y) : ifCond.holds .lt (lcmpW x y) = true ∧ ifCond.holds .ge (lcmpW x y) = false := ⟨own_lc (tlt ((lw_lt x y).mpr h)).1, own_lc (tlt ((lw_lt x y).mpr h)).2.1⟩
theorem own_lcnlt {x y : Int64} (h : ¬ x < y) : ifCond.holds .lt (lcmpW x y) = false ∧ ifCond.holds .ge (lcmpW x y) = true := have q : ¬ lcmpW x y < 0 := fun z => h ((lw_lt x y).mp z); ⟨own_lc (flt q).1, own_lc (flt q).2.1⟩
theorem own_lcgt {x y : Int64} (h : y < x) : ifCond.holds .gt (lcmpW x y) = true ∧ ifCond.holds .le (lcmpW x y) = false := ⟨own_lc (tlt ((lw_gt x y).mpr h)).2.2.1, own_lc (tlt ((lw_gt x y).mpr h)).2.2.2⟩
theorem own_lcngt {x y : Int64} (h : ¬ y < x) : ifCond.holds .gt (lcmpW x y) = false ∧ ifCond.holds .le (lcmpW x y) = true := have q : ¬ 0 < lcmpW x y := fun z => h ((lw_gt x y).mp z); ⟨own_lc (flt q).2.2.1, own_lc (flt q).2.2.2⟩
theorem own_lceq {x y : Int64} (h : x = y) : ifCond.holds .eq (lcmpW x y) = true ∧ ifCond.holds .ne (lcmpW x y) = false := ⟨own_lc (teq ((lw_eq x y).mpr h)).1, own_lc (teq ((lw_eq x y).mpr h)).2⟩
theorem own_lcne {x y : Int64} (h : ¬ x = y) : ifCond.holds .eq (lcmpW x y) = false ∧ ifCond.holds .ne (lcmpW x y) = true := have q : ¬ lcmpW x y = 0 := fun z => h ((lw_eq x y).mp z); ⟨own_lc (feq q).1, own_lc (feq q).2⟩
theorem own_kext {h0 h : Heap} (K : Keep h0 h []) : Ext h0 h := ⟨K.1, fun a c q => K.2.1 a c q nin0⟩
theorem pd_0 : parseMethodDescriptor "(C)Z" = some ⟨[.char], some .boolean⟩ := by decide +kernel
theorem d1_0 : decode prog_92_method_4_code 0 = .ok (.iload_n 0, 1) := by decide +kernel
theorem d1_1 : decode prog_92_method_4_code 1 = .ok (.bipush 32, 2) := by decide +kernel
theorem d1_3 : decode prog_92_method_4_code 3 = .ok (.if_icmp .ge 29, 3) := by decide +kernel
theorem d1_6 : decode prog_92_method_4_code 6 = .ok (.iload_n 0, 1) := by decide +kernel
theorem d1_7 : decode prog_92_method_4_code 7 = .ok (.bipush 9, 2) := by decide +kernel
theorem d1_9 : decode prog_92_method_4_code 9 = .ok (.if_icmp .eq 15, 3) := by decide +kernel
theorem d1_12 : decode prog_92_method_4_code 12 = .ok (.iload_n 0, 1) := by decide +kernel
theorem d1_13 : decode prog_92_method_4_code 13 = .ok (.bipush 10, 2) := by decide +kernel
theorem d1_15 : decode prog_92_method_4_code 15 = .ok (.if_icmp .eq 9, 3) := by decide +kernel
theorem d1_18 : decode prog_92_method_4_code 18 = .ok (.iload_n 0, 1) := by decide +kernel
theorem d1_19 : decode prog_92_method_4_code 19 = .ok (.bipush 13, 2) := by decide +kernel
theorem d1_21 : decode prog_92_method_4_code 21 = .ok (.if_icmp .ne 7, 3) := by decide +kernel
theorem d1_24 : decode prog_92_method_4_code 24 = .ok (.iconst 1, 1) := by decide +kernel
theorem d1_25 : decode prog_92_method_4_code 25 = .ok (.goto 18, 3) := by decide +kernel
theorem d1_28 : decode prog_92_method_4_code 28 = .ok (.iconst 0, 1) := by decide +kernel
theorem d1_29 : decode prog_92_method_4_code 29 = .ok (.goto 14, 3) := by decide +kernel
theorem d1_32 : decode prog_92_method_4_code 32 = .ok (.iload_n 0, 1) := by decide +kernel
theorem d1_33 : decode prog_92_method_4_code 33 = .ok (.ldc 35, 2) := by decide +kernel
theorem d1_35 : decode prog_92_method_4_code 35 = .ok (.if_icmp .ge 7, 3) := by decide +kernel
theorem d1_38 : decode prog_92_method_4_code 38 = .ok (.iconst 1, 1) := by decide +kernel
theorem d1_39 : decode prog_92_method_4_code 39 = .ok (.goto 4, 3) := by decide +kernel
theorem d1_42 : decode prog_92_method_4_code 42 = .ok (.iconst 0, 1) := by decide +kernel
theorem d1_43 : decode prog_92_method_4_code 43 = .ok (.ireturn, 1) := by decide +kernel
theorem pn_rm1 : plainName "com/example/neat_maps/neatmaps/XmlCharacters" = true := by first | (simp [plainName, overriddenIn]; done) | decide +kernel
theorem ef_rm1 (m : MethodId) (x0 : Int32) : entryFrame m #[(.int x0)] 1 = mkF m 0 #[.val (.int x0)] [] := by first | (simp [entryFrame, mkF, argsToLocals, Value.category]; done) | rfl
set_option maxRecDepth 65536 in
set_option maxHeartbeats 40000000 in
theorem rm1 (l : Launch) (Z : State) (a0 : Array Value) (hw : ∀ d ∈ tables_1, d.before a0 Z = true) (ws : List Jvm.Cond) (h0 : Heap) (n0 : Nat) (Z0 : n0 ≤ h0.size) (p1 : Int32) :
    OMet l (⟨"com/example/neat_maps/neatmaps/XmlCharacters", "isHeld", "(C)Z"⟩ : MethodName) prog_92_method_4_code 1 (some .boolean) ws ({ frames := 0, cells := 0, slots := 0, locals := 0 } : Room) #[(.int p1)] Z h0 (fun v h L => ∃ r : Int32, v = some (.int r) ∧ ((r.toInt = 1 ∧ (p1.toInt = 9 ∨ p1.toInt = 10 ∨ p1.toInt = 13 ∨ (32 ≤ p1.toInt ∧ p1.toInt < 65534))) ∨ (r.toInt = 0 ∧ ¬ (p1.toInt = 9 ∨ p1.toInt = 10 ∨ p1.toInt = 13 ∨ (32 ≤ p1.toInt ∧ p1.toInt < 65534)))) ∧ Fr n0 L ∧ h = h0) := by
  refine own_met (plainFor_of_name pn_rm1) ?_
  intro p e s m below meth c s₁ X0 hx hby hml hown hnm hret hlk hZ e0
  rw [ef_rm1]
  have N0 := Fr.nil n0
  show ORun p e below s _ _ _ s₁ (mkF m 0 #[.val (.int p1)] [])
  refine own_by (fun t k => XS.iloadN X0.here hx rfl (hb hby d1_0) rfl k) ?_
  show ORun p e below s _ _ _ s₁ (mkF m 1 #[.val (.int p1)] [(.int p1)])
  refine own_by (fun t k => XS.bipush X0.here hx rfl (hb hby d1_1) k) ?_
  show ORun p e below s _ _ _ s₁ (mkF m 3 #[.val (.int p1)] [(.int (32 : Int32)), (.int p1)])
  by_cases hc1 : p1 < (32 : Int32)
  · have t1 := own_lt hc1 (a := p1.toInt) (b := 32) rfl (by decide)
    refine own_by (fun t k => XS.icmpNo X0.here hx rfl (hb hby d1_3) rfl (tlt hc1).2.1 k) ?_
    show ORun p e below s _ _ _ s₁ (mkF m 6 #[.val (.int p1)] [])
    refine own_by (fun t k => XS.iloadN X0.here hx rfl (hb hby d1_6) rfl k) ?_
    show ORun p e below s _ _ _ s₁ (mkF m 7 #[.val (.int p1)] [(.int p1)])
    refine own_by (fun t k => XS.bipush X0.here hx rfl (hb hby d1_7) k) ?_
    show ORun p e below s _ _ _ s₁ (mkF m 9 #[.val (.int p1)] [(.int (9 : Int32)), (.int p1)])
    by_cases hc2 : p1 = (9 : Int32)
    · have t2 := own_eq hc2 (a := p1.toInt) (b := 9) rfl (by decide)
      refine own_by (fun t k => XS.icmpYes X0.here hx rfl (pc0 := 9) (pc' := 24) rfl (hb hby d1_9) rfl (teq hc2).1 (by decide) (by decide) k) ?_
      show ORun p e below s _ _ _ s₁ (mkF m 24 #[.val (.int p1)] [])
      refine own_by (fun t k => XS.iconst X0.here hx rfl (hb hby d1_24) k) ?_
      show ORun p e below s _ _ _ s₁ (mkF m 25 #[.val (.int p1)] [(.int (1 : Int32))])
      refine own_by (fun t k => XS.goto X0.here hx rfl (pc0 := 25) (pc' := 43) rfl (hb hby d1_25) (by decide) (by decide) k) ?_
      show ORun p e below s _ _ _ s₁ (mkF m 43 #[.val (.int p1)] [(.int (1 : Int32))])
      refine own_retN X0 hx (t := .boolean) hret (by simp) hlk (hb hby d1_43) (by decide) (by decide) ?_
      exact ⟨1, rfl, Or.inl ⟨by decide, by omega⟩, N0, e0⟩
    · have t2 := own_ne hc2 (a := p1.toInt) (b := 9) rfl (by decide)
      refine own_by (fun t k => XS.icmpNo X0.here hx rfl (hb hby d1_9) rfl (feq hc2).1 k) ?_
      show ORun p e below s _ _ _ s₁ (mkF m 12 #[.val (.int p1)] [])
      refine own_by (fun t k => XS.iloadN X0.here hx rfl (hb hby d1_12) rfl k) ?_
      show ORun p e below s _ _ _ s₁ (mkF m 13 #[.val (.int p1)] [(.int p1)])
      refine own_by (fun t k => XS.bipush X0.here hx rfl (hb hby d1_13) k) ?_
      show ORun p e below s _ _ _ s₁ (mkF m 15 #[.val (.int p1)] [(.int (10 : Int32)), (.int p1)])
      by_cases hc3 : p1 = (10 : Int32)
      · have t3 := own_eq hc3 (a := p1.toInt) (b := 10) rfl (by decide)
        refine own_by (fun t k => XS.icmpYes X0.here hx rfl (pc0 := 15) (pc' := 24) rfl (hb hby d1_15) rfl (teq hc3).1 (by decide) (by decide) k) ?_
        show ORun p e below s _ _ _ s₁ (mkF m 24 #[.val (.int p1)] [])
        refine own_by (fun t k => XS.iconst X0.here hx rfl (hb hby d1_24) k) ?_
        show ORun p e below s _ _ _ s₁ (mkF m 25 #[.val (.int p1)] [(.int (1 : Int32))])
        refine own_by (fun t k => XS.goto X0.here hx rfl (pc0 := 25) (pc' := 43) rfl (hb hby d1_25) (by decide) (by decide) k) ?_
        show ORun p e below s _ _ _ s₁ (mkF m 43 #[.val (.int p1)] [(.int (1 : Int32))])
        refine own_retN X0 hx (t := .boolean) hret (by simp) hlk (hb hby d1_43) (by decide) (by decide) ?_
        exact ⟨1, rfl, Or.inl ⟨by decide, by omega⟩, N0, e0⟩
      · have t3 := own_ne hc3 (a := p1.toInt) (b := 10) rfl (by decide)
        refine own_by (fun t k => XS.icmpNo X0.here hx rfl (hb hby d1_15) rfl (feq hc3).1 k) ?_
        show ORun p e below s _ _ _ s₁ (mkF m 18 #[.val (.int p1)] [])
        refine own_by (fun t k => XS.iloadN X0.here hx rfl (hb hby d1_18) rfl k) ?_
        show ORun p e below s _ _ _ s₁ (mkF m 19 #[.val (.int p1)] [(.int p1)])
        refine own_by (fun t k => XS.bipush X0.here hx rfl (hb hby d1_19) k) ?_
        show ORun p e below s _ _ _ s₁ (mkF m 21 #[.val (.int p1)] [(.int (13 : Int32)), (.int p1)])
        by_cases hc4 : p1 = (13 : Int32)
        · have t4 := own_eq hc4 (a := p1.toInt) (b := 13) rfl (by decide)
          refine own_by (fun t k => XS.icmpNo X0.here hx rfl (hb hby d1_21) rfl (teq hc4).2 k) ?_
          show ORun p e below s _ _ _ s₁ (mkF m 24 #[.val (.int p1)] [])
          refine own_by (fun t k => XS.iconst X0.here hx rfl (hb hby d1_24) k) ?_
          show ORun p e below s _ _ _ s₁ (mkF m 25 #[.val (.int p1)] [(.int (1 : Int32))])
          refine own_by (fun t k => XS.goto X0.here hx rfl (pc0 := 25) (pc' := 43) rfl (hb hby d1_25) (by decide) (by decide) k) ?_
          show ORun p e below s _ _ _ s₁ (mkF m 43 #[.val (.int p1)] [(.int (1 : Int32))])
          refine own_retN X0 hx (t := .boolean) hret (by simp) hlk (hb hby d1_43) (by decide) (by decide) ?_
          exact ⟨1, rfl, Or.inl ⟨by decide, by omega⟩, N0, e0⟩
        · have t4 := own_ne hc4 (a := p1.toInt) (b := 13) rfl (by decide)
          refine own_by (fun t k => XS.icmpYes X0.here hx rfl (pc0 := 21) (pc' := 28) rfl (hb hby d1_21) rfl (feq hc4).2 (by decide) (by decide) k) ?_
          show ORun p e below s _ _ _ s₁ (mkF m 28 #[.val (.int p1)] [])
          refine own_by (fun t k => XS.iconst X0.here hx rfl (hb hby d1_28) k) ?_
          show ORun p e below s _ _ _ s₁ (mkF m 29 #[.val (.int p1)] [(.int (0 : Int32))])
          refine own_by (fun t k => XS.goto X0.here hx rfl (pc0 := 29) (pc' := 43) rfl (hb hby d1_29) (by decide) (by decide) k) ?_
          show ORun p e below s _ _ _ s₁ (mkF m 43 #[.val (.int p1)] [(.int (0 : Int32))])
          refine own_retN X0 hx (t := .boolean) hret (by simp) hlk (hb hby d1_43) (by decide) (by decide) ?_
          exact ⟨0, rfl, Or.inr ⟨by decide, by omega⟩, N0, e0⟩
  · have t1 := own_nlt hc1 (a := p1.toInt) (b := 32) rfl (by decide)
    refine own_by (fun t k => XS.icmpYes X0.here hx rfl (pc0 := 3) (pc' := 32) rfl (hb hby d1_3) rfl (flt hc1).2.1 (by decide) (by decide) k) ?_
    show ORun p e below s _ _ _ s₁ (mkF m 32 #[.val (.int p1)] [])
    refine own_by (fun t k => XS.iloadN X0.here hx rfl (hb hby d1_32) rfl k) ?_
    show ORun p e below s _ _ _ s₁ (mkF m 33 #[.val (.int p1)] [(.int p1)])
    refine own_by (fun t k => X0.ldcInt hx hown (mvT hZ (hw _ (List.mem_of_getElem? (i := 8) rfl))) (g := (mkF m 33 #[.val (.int p1)] [(.int p1)])) rfl (hb hby d1_33) _ k) ?_
    show ORun p e below s _ _ _ s₁ (mkF m 35 #[.val (.int p1)] [(.int (65534 : Int32)), (.int p1)])
    by_cases hc5 : p1 < (65534 : Int32)
    · have t5 := own_lt hc5 (a := p1.toInt) (b := 65534) rfl (by decide)
      refine own_by (fun t k => XS.icmpNo X0.here hx rfl (hb hby d1_35) rfl (tlt hc5).2.1 k) ?_
      show ORun p e below s _ _ _ s₁ (mkF m 38 #[.val (.int p1)] [])
      refine own_by (fun t k => XS.iconst X0.here hx rfl (hb hby d1_38) k) ?_
      show ORun p e below s _ _ _ s₁ (mkF m 39 #[.val (.int p1)] [(.int (1 : Int32))])
      refine own_by (fun t k => XS.goto X0.here hx rfl (pc0 := 39) (pc' := 43) rfl (hb hby d1_39) (by decide) (by decide) k) ?_
      show ORun p e below s _ _ _ s₁ (mkF m 43 #[.val (.int p1)] [(.int (1 : Int32))])
      refine own_retN X0 hx (t := .boolean) hret (by simp) hlk (hb hby d1_43) (by decide) (by decide) ?_
      exact ⟨1, rfl, Or.inl ⟨by decide, by omega⟩, N0, e0⟩
    · have t5 := own_nlt hc5 (a := p1.toInt) (b := 65534) rfl (by decide)
      refine own_by (fun t k => XS.icmpYes X0.here hx rfl (pc0 := 35) (pc' := 42) rfl (hb hby d1_35) rfl (flt hc5).2.1 (by decide) (by decide) k) ?_
      show ORun p e below s _ _ _ s₁ (mkF m 42 #[.val (.int p1)] [])
      refine own_by (fun t k => XS.iconst X0.here hx rfl (hb hby d1_42) k) ?_
      show ORun p e below s _ _ _ s₁ (mkF m 43 #[.val (.int p1)] [(.int (0 : Int32))])
      refine own_retN X0 hx (t := .boolean) hret (by simp) hlk (hb hby d1_43) (by decide) (by decide) ?_
      exact ⟨0, rfl, Or.inr ⟨by decide, by omega⟩, N0, e0⟩
theorem pn_rm0 : plainName "com/example/neat_maps/neatmaps/XmlCharactersIsHeldPinLaw" = true := by first | (simp [plainName, overriddenIn]; done) | decide +kernel
theorem ef_rm0 (m : MethodId) (x0 : Int32) : entryFrame m #[(.int x0)] maxLocals = mkF m 0 #[.val (.int x0), .unset, .unset] [] := by first | (simp [entryFrame, mkF, argsToLocals, Value.category, maxLocals]; done) | rfl
set_option maxRecDepth 65536 in
set_option maxHeartbeats 40000000 in
theorem rm0 (l : Launch) (Z : State) (a0 : Array Value) (hw : ∀ d ∈ tables_1, d.before a0 Z = true) (ws : List Jvm.Cond) (h0 : Heap) (n0 : Nat) (Z0 : n0 ≤ h0.size) (p1 : Int32) :
    OMet l x code maxLocals ret ws room_1 #[(.int p1)] Z h0 (fun v h L => v = some (.int 1) ∧ Fr n0 L) := by
  refine own_met (plainFor_of_name pn_rm0) ?_
  intro p e s m below meth c s₁ X0 hx hby hml hown hnm hret hlk hZ e0
  rw [ef_rm0]
  have N0 := Fr.nil n0
  show ORun p e below s _ _ _ s₁ (mkF m 0 #[.val (.int p1), .unset, .unset] [])
  refine own_by (fun t k => XS.iloadN X0.here hx rfl (hb hby at_0) rfl k) ?_
  show ORun p e below s _ _ _ s₁ (mkF m 1 #[.val (.int p1), .unset, .unset] [(.int p1)])
  refine own_by (fun t k => X0.ldcInt hx hown (mvT hZ (hw _ (List.mem_of_getElem? (i := 0) rfl))) (g := (mkF m 1 #[.val (.int p1), .unset, .unset] [(.int p1)])) rfl (hb hby at_1) _ k) ?_
  show ORun p e below s _ _ _ s₁ (mkF m 3 #[.val (.int p1), .unset, .unset] [(.int (65535 : Int32)), (.int p1)])
  refine own_by (fun t k => XS.iand X0.here hx rfl (hb hby at_3) rfl k) (own_letI (f := (fun z => (mkF m 4 #[.val (.int p1), .unset, .unset] [(.int z)]))) (p1 &&& (65535 : Int32)) fun v1 hv1 => ?_)
  show ORun p e below s _ _ _ s₁ (mkF m 4 #[.val (.int p1), .unset, .unset] [(.int v1)])
  have a1a : v1.toInt = p1.toInt % 65536 := by rw [hv1]; exact c_mask p1 (65535 : Int32) 16 (by decide) (by decide)
  have r1 := rng32 v1
  refine own_by (fun t k => XS.i2c X0.here hx rfl (hb hby at_4) rfl k) (own_letI (f := (fun z => (mkF m 5 #[.val (.int p1), .unset, .unset] [(.int z)]))) (v1.toUInt32.toUInt16.toUInt32.toInt32) fun v2 hv2 => ?_)
  show ORun p e below s _ _ _ s₁ (mkF m 5 #[.val (.int p1), .unset, .unset] [(.int v2)])
  have a2a : (v2.toInt - v1.toInt) % 65536 = 0 ∧ 0 ≤ v2.toInt ∧ v2.toInt < 65536 := by rw [hv2]; exact c_i2c v1
  have r2 := rng32 v2
  refine own_by (fun t k => XS.istoreN X0.here hx rfl (hb hby at_5) rfl (l' := #[.val (.int p1), .val (.int v2), .unset]) rfl k) ?_
  show ORun p e below s _ _ _ s₁ (mkF m 6 #[.val (.int p1), .val (.int v2), .unset] [])
  refine own_by (fun t k => XS.iloadN X0.here hx rfl (hb hby at_6) rfl k) ?_
  show ORun p e below s _ _ _ s₁ (mkF m 7 #[.val (.int p1), .val (.int v2), .unset] [(.int v2)])
  refine own_by (fun t k => X0.ldcInt hx hown (mvT hZ (hw _ (List.mem_of_getElem? (i := 1) rfl))) (g := (mkF m 7 #[.val (.int p1), .val (.int v2), .unset] [(.int v2)])) rfl (hb hby at_7) _ k) ?_
  show ORun p e below s _ _ _ s₁ (mkF m 9 #[.val (.int p1), .val (.int v2), .unset] [(.int (55296 : Int32)), (.int v2)])
  by_cases hc3 : v2 < (55296 : Int32)
  · have t3 := own_lt hc3 (a := v2.toInt) (b := 55296) rfl (by decide)
    refine own_by (fun t k => XS.icmpYes X0.here hx rfl (pc0 := 9) (pc' := 20) rfl (hb hby at_9) rfl (tlt hc3).1 (by decide) (by decide) k) ?_
    show ORun p e below s _ _ _ s₁ (mkF m 20 #[.val (.int p1), .val (.int v2), .unset] [])
    have J4 : ∀ w4 : Int32, ((w4.toInt = 1 ∧ (v2.toInt = 9 ∨ v2.toInt = 10 ∨ v2.toInt = 13 ∨ (32 ≤ v2.toInt ∧ v2.toInt < 65534))) ∨ (w4.toInt = 0 ∧ ¬ (v2.toInt = 9 ∨ v2.toInt = 10 ∨ v2.toInt = 13 ∨ (32 ≤ v2.toInt ∧ v2.toInt < 65534)))) → ORun p e below s (fun v h L => v = some (.int 1) ∧ Fr n0 L) room_1.cells room_1.slots s₁ (mkF m 67 #[.val (.int p1), .val (.int v2), .unset] [(.int w4)]) := by
      intro w4 hJ4
      refine own_by (fun t k => XS.istoreN X0.here hx rfl (hb hby at_67) rfl (l' := #[.val (.int p1), .val (.int v2), .val (.int w4)]) rfl k) ?_
      show ORun p e below s _ _ _ s₁ (mkF m 68 #[.val (.int p1), .val (.int v2), .val (.int w4)] [])
      refine own_by (fun t k => XS.iloadN X0.here hx rfl (hb hby at_68) rfl k) ?_
      show ORun p e below s _ _ _ s₁ (mkF m 69 #[.val (.int p1), .val (.int v2), .val (.int w4)] [(.int v2)])
      refine own_callS X0 hx hZ hown (hw _ (List.mem_of_getElem? (i := 3) rfl)) (hw _ (List.mem_of_getElem? (i := 4) rfl)) (hw _ (List.mem_of_getElem? (i := 5) rfl)) (hw _ (List.mem_of_getElem? (i := 6) rfl)) (by decide) (rm1 l Z a0 hw [] h0 n0 Z0 v2) e0 (by decide) (W := 0) (by decide) (by decide) (by decide) (argsL := [(.int v2)]) (rest := []) (by rw [hml]; rfl) (lenOf pd_0 rfl) rfl rfl (Nat.le_of_eq rfl) (hb hby at_69) ?_
      intro T5 L5 u5 X5 hQ5
      obtain ⟨y5, rfl, hy5, Nq5, e5⟩ := hQ5
      have N5 := Fr.app N0 Nq5
      show ORun p e below s _ _ _ T5 (mkF m 72 #[.val (.int p1), .val (.int v2), .val (.int w4)] [(.int y5)])
      refine own_by (fun t k => XS.iloadN X5.here hx rfl (hb hby at_72) rfl k) ?_
      show ORun p e below s _ _ _ T5 (mkF m 73 #[.val (.int p1), .val (.int v2), .val (.int w4)] [(.int w4), (.int y5)])
      by_cases hc6 : y5 = w4
      · have t6 := own_eq hc6 (a := y5.toInt) (b := w4.toInt) rfl rfl
        refine own_by (fun t k => XS.icmpNo X5.here hx rfl (hb hby at_73) rfl (teq hc6).2 k) ?_
        show ORun p e below s _ _ _ T5 (mkF m 76 #[.val (.int p1), .val (.int v2), .val (.int w4)] [])
        refine own_by (fun t k => XS.iconst X5.here hx rfl (hb hby at_76) k) ?_
        show ORun p e below s _ _ _ T5 (mkF m 77 #[.val (.int p1), .val (.int v2), .val (.int w4)] [(.int (1 : Int32))])
        refine own_by (fun t k => XS.goto X5.here hx rfl (pc0 := 77) (pc' := 81) rfl (hb hby at_77) (by decide) (by decide) k) ?_
        show ORun p e below s _ _ _ T5 (mkF m 81 #[.val (.int p1), .val (.int v2), .val (.int w4)] [(.int (1 : Int32))])
        refine own_retN X5 hx (t := .boolean) hret (by simp) hlk (hb hby at_81) (by decide) (by decide) ?_
        exact ⟨rfl, N5⟩
      · have t6 := own_ne hc6 (a := y5.toInt) (b := w4.toInt) rfl rfl
        refine own_by (fun t k => XS.icmpYes X5.here hx rfl (pc0 := 73) (pc' := 80) rfl (hb hby at_73) rfl (feq hc6).2 (by decide) (by decide) k) ?_
        show ORun p e below s _ _ _ T5 (mkF m 80 #[.val (.int p1), .val (.int v2), .val (.int w4)] [])
        refine own_by (fun t k => XS.iconst X5.here hx rfl (hb hby at_80) k) ?_
        show ORun p e below s _ _ _ T5 (mkF m 81 #[.val (.int p1), .val (.int v2), .val (.int w4)] [(.int (0 : Int32))])
        refine own_retN X5 hx (t := .boolean) hret (by simp) hlk (hb hby at_81) (by decide) (by decide) ?_
        exfalso
        omega
    refine own_by (fun t k => XS.iloadN X0.here hx rfl (hb hby at_20) rfl k) ?_
    show ORun p e below s _ _ _ s₁ (mkF m 21 #[.val (.int p1), .val (.int v2), .unset] [(.int v2)])
    refine own_by (fun t k => XS.bipush X0.here hx rfl (hb hby at_21) k) ?_
    show ORun p e below s _ _ _ s₁ (mkF m 23 #[.val (.int p1), .val (.int v2), .unset] [(.int (9 : Int32)), (.int v2)])
    by_cases hc7 : v2 = (9 : Int32)
    · have t7 := own_eq hc7 (a := v2.toInt) (b := 9) rfl (by decide)
      refine own_by (fun t k => XS.icmpYes X0.here hx rfl (pc0 := 23) (pc' := 62) rfl (hb hby at_23) rfl (teq hc7).1 (by decide) (by decide) k) ?_
      show ORun p e below s _ _ _ s₁ (mkF m 62 #[.val (.int p1), .val (.int v2), .unset] [])
      refine own_by (fun t k => XS.iconst X0.here hx rfl (hb hby at_62) k) ?_
      show ORun p e below s _ _ _ s₁ (mkF m 63 #[.val (.int p1), .val (.int v2), .unset] [(.int (1 : Int32))])
      refine own_by (fun t k => XS.goto X0.here hx rfl (pc0 := 63) (pc' := 67) rfl (hb hby at_63) (by decide) (by decide) k) ?_
      show ORun p e below s _ _ _ s₁ (mkF m 67 #[.val (.int p1), .val (.int v2), .unset] [(.int (1 : Int32))])
      exact J4 (1 : Int32) (Or.inl ⟨by decide, by omega⟩)
    · have t7 := own_ne hc7 (a := v2.toInt) (b := 9) rfl (by decide)
      refine own_by (fun t k => XS.icmpNo X0.here hx rfl (hb hby at_23) rfl (feq hc7).1 k) ?_
      show ORun p e below s _ _ _ s₁ (mkF m 26 #[.val (.int p1), .val (.int v2), .unset] [])
      refine own_by (fun t k => XS.iloadN X0.here hx rfl (hb hby at_26) rfl k) ?_
      show ORun p e below s _ _ _ s₁ (mkF m 27 #[.val (.int p1), .val (.int v2), .unset] [(.int v2)])
      refine own_by (fun t k => XS.bipush X0.here hx rfl (hb hby at_27) k) ?_
      show ORun p e below s _ _ _ s₁ (mkF m 29 #[.val (.int p1), .val (.int v2), .unset] [(.int (10 : Int32)), (.int v2)])
      by_cases hc8 : v2 = (10 : Int32)
      · have t8 := own_eq hc8 (a := v2.toInt) (b := 10) rfl (by decide)
        refine own_by (fun t k => XS.icmpYes X0.here hx rfl (pc0 := 29) (pc' := 62) rfl (hb hby at_29) rfl (teq hc8).1 (by decide) (by decide) k) ?_
        show ORun p e below s _ _ _ s₁ (mkF m 62 #[.val (.int p1), .val (.int v2), .unset] [])
        refine own_by (fun t k => XS.iconst X0.here hx rfl (hb hby at_62) k) ?_
        show ORun p e below s _ _ _ s₁ (mkF m 63 #[.val (.int p1), .val (.int v2), .unset] [(.int (1 : Int32))])
        refine own_by (fun t k => XS.goto X0.here hx rfl (pc0 := 63) (pc' := 67) rfl (hb hby at_63) (by decide) (by decide) k) ?_
        show ORun p e below s _ _ _ s₁ (mkF m 67 #[.val (.int p1), .val (.int v2), .unset] [(.int (1 : Int32))])
        exact J4 (1 : Int32) (Or.inl ⟨by decide, by omega⟩)
      · have t8 := own_ne hc8 (a := v2.toInt) (b := 10) rfl (by decide)
        refine own_by (fun t k => XS.icmpNo X0.here hx rfl (hb hby at_29) rfl (feq hc8).1 k) ?_
        show ORun p e below s _ _ _ s₁ (mkF m 32 #[.val (.int p1), .val (.int v2), .unset] [])
        refine own_by (fun t k => XS.iloadN X0.here hx rfl (hb hby at_32) rfl k) ?_
        show ORun p e below s _ _ _ s₁ (mkF m 33 #[.val (.int p1), .val (.int v2), .unset] [(.int v2)])
        refine own_by (fun t k => XS.bipush X0.here hx rfl (hb hby at_33) k) ?_
        show ORun p e below s _ _ _ s₁ (mkF m 35 #[.val (.int p1), .val (.int v2), .unset] [(.int (13 : Int32)), (.int v2)])
        by_cases hc9 : v2 = (13 : Int32)
        · have t9 := own_eq hc9 (a := v2.toInt) (b := 13) rfl (by decide)
          refine own_by (fun t k => XS.icmpYes X0.here hx rfl (pc0 := 35) (pc' := 62) rfl (hb hby at_35) rfl (teq hc9).1 (by decide) (by decide) k) ?_
          show ORun p e below s _ _ _ s₁ (mkF m 62 #[.val (.int p1), .val (.int v2), .unset] [])
          refine own_by (fun t k => XS.iconst X0.here hx rfl (hb hby at_62) k) ?_
          show ORun p e below s _ _ _ s₁ (mkF m 63 #[.val (.int p1), .val (.int v2), .unset] [(.int (1 : Int32))])
          refine own_by (fun t k => XS.goto X0.here hx rfl (pc0 := 63) (pc' := 67) rfl (hb hby at_63) (by decide) (by decide) k) ?_
          show ORun p e below s _ _ _ s₁ (mkF m 67 #[.val (.int p1), .val (.int v2), .unset] [(.int (1 : Int32))])
          exact J4 (1 : Int32) (Or.inl ⟨by decide, by omega⟩)
        · have t9 := own_ne hc9 (a := v2.toInt) (b := 13) rfl (by decide)
          refine own_by (fun t k => XS.icmpNo X0.here hx rfl (hb hby at_35) rfl (feq hc9).1 k) ?_
          show ORun p e below s _ _ _ s₁ (mkF m 38 #[.val (.int p1), .val (.int v2), .unset] [])
          refine own_by (fun t k => XS.iloadN X0.here hx rfl (hb hby at_38) rfl k) ?_
          show ORun p e below s _ _ _ s₁ (mkF m 39 #[.val (.int p1), .val (.int v2), .unset] [(.int v2)])
          refine own_by (fun t k => XS.bipush X0.here hx rfl (hb hby at_39) k) ?_
          show ORun p e below s _ _ _ s₁ (mkF m 41 #[.val (.int p1), .val (.int v2), .unset] [(.int (32 : Int32)), (.int v2)])
          by_cases hc10 : v2 < (32 : Int32)
          · have t10 := own_lt hc10 (a := v2.toInt) (b := 32) rfl (by decide)
            refine own_by (fun t k => XS.icmpYes X0.here hx rfl (pc0 := 41) (pc' := 50) rfl (hb hby at_41) rfl (tlt hc10).1 (by decide) (by decide) k) ?_
            show ORun p e below s _ _ _ s₁ (mkF m 50 #[.val (.int p1), .val (.int v2), .unset] [])
            refine own_by (fun t k => XS.iloadN X0.here hx rfl (hb hby at_50) rfl k) ?_
            show ORun p e below s _ _ _ s₁ (mkF m 51 #[.val (.int p1), .val (.int v2), .unset] [(.int v2)])
            refine own_by (fun t k => X0.ldcInt hx hown (mvT hZ (hw _ (List.mem_of_getElem? (i := 2) rfl))) (g := (mkF m 51 #[.val (.int p1), .val (.int v2), .unset] [(.int v2)])) rfl (hb hby at_51) _ k) ?_
            show ORun p e below s _ _ _ s₁ (mkF m 53 #[.val (.int p1), .val (.int v2), .unset] [(.int (57344 : Int32)), (.int v2)])
            by_cases hc11 : v2 < (57344 : Int32)
            · have t11 := own_lt hc11 (a := v2.toInt) (b := 57344) rfl (by decide)
              refine own_by (fun t k => XS.icmpYes X0.here hx rfl (pc0 := 53) (pc' := 66) rfl (hb hby at_53) rfl (tlt hc11).1 (by decide) (by decide) k) ?_
              show ORun p e below s _ _ _ s₁ (mkF m 66 #[.val (.int p1), .val (.int v2), .unset] [])
              refine own_by (fun t k => XS.iconst X0.here hx rfl (hb hby at_66) k) ?_
              show ORun p e below s _ _ _ s₁ (mkF m 67 #[.val (.int p1), .val (.int v2), .unset] [(.int (0 : Int32))])
              exact J4 (0 : Int32) (Or.inr ⟨by decide, by omega⟩)
            · have t11 := own_nlt hc11 (a := v2.toInt) (b := 57344) rfl (by decide)
              refine own_by (fun t k => XS.icmpNo X0.here hx rfl (hb hby at_53) rfl (flt hc11).1 k) ?_
              show ORun p e below s _ _ _ s₁ (mkF m 56 #[.val (.int p1), .val (.int v2), .unset] [])
              refine own_by (fun t k => XS.iloadN X0.here hx rfl (hb hby at_56) rfl k) ?_
              show ORun p e below s _ _ _ s₁ (mkF m 57 #[.val (.int p1), .val (.int v2), .unset] [(.int v2)])
              refine own_by (fun t k => X0.ldcInt hx hown (mvT hZ (hw _ (List.mem_of_getElem? (i := 10) rfl))) (g := (mkF m 57 #[.val (.int p1), .val (.int v2), .unset] [(.int v2)])) rfl (hb hby at_57) _ k) ?_
              show ORun p e below s _ _ _ s₁ (mkF m 59 #[.val (.int p1), .val (.int v2), .unset] [(.int (65533 : Int32)), (.int v2)])
              by_cases hc12 : (65533 : Int32) < v2
              · have t12 := own_lt hc12 (a := 65533) (b := v2.toInt) (by decide) rfl
                refine own_by (fun t k => XS.icmpYes X0.here hx rfl (pc0 := 59) (pc' := 66) rfl (hb hby at_59) rfl (tlt hc12).2.2.1 (by decide) (by decide) k) ?_
                show ORun p e below s _ _ _ s₁ (mkF m 66 #[.val (.int p1), .val (.int v2), .unset] [])
                refine own_by (fun t k => XS.iconst X0.here hx rfl (hb hby at_66) k) ?_
                show ORun p e below s _ _ _ s₁ (mkF m 67 #[.val (.int p1), .val (.int v2), .unset] [(.int (0 : Int32))])
                exact J4 (0 : Int32) (Or.inr ⟨by decide, by omega⟩)
              · have t12 := own_nlt hc12 (a := 65533) (b := v2.toInt) (by decide) rfl
                refine own_by (fun t k => XS.icmpNo X0.here hx rfl (hb hby at_59) rfl (flt hc12).2.2.1 k) ?_
                show ORun p e below s _ _ _ s₁ (mkF m 62 #[.val (.int p1), .val (.int v2), .unset] [])
                refine own_by (fun t k => XS.iconst X0.here hx rfl (hb hby at_62) k) ?_
                show ORun p e below s _ _ _ s₁ (mkF m 63 #[.val (.int p1), .val (.int v2), .unset] [(.int (1 : Int32))])
                refine own_by (fun t k => XS.goto X0.here hx rfl (pc0 := 63) (pc' := 67) rfl (hb hby at_63) (by decide) (by decide) k) ?_
                show ORun p e below s _ _ _ s₁ (mkF m 67 #[.val (.int p1), .val (.int v2), .unset] [(.int (1 : Int32))])
                exact J4 (1 : Int32) (Or.inl ⟨by decide, by omega⟩)
          · have t10 := own_nlt hc10 (a := v2.toInt) (b := 32) rfl (by decide)
            refine own_by (fun t k => XS.icmpNo X0.here hx rfl (hb hby at_41) rfl (flt hc10).1 k) ?_
            show ORun p e below s _ _ _ s₁ (mkF m 44 #[.val (.int p1), .val (.int v2), .unset] [])
            refine own_by (fun t k => XS.iloadN X0.here hx rfl (hb hby at_44) rfl k) ?_
            show ORun p e below s _ _ _ s₁ (mkF m 45 #[.val (.int p1), .val (.int v2), .unset] [(.int v2)])
            refine own_by (fun t k => X0.ldcInt hx hown (mvT hZ (hw _ (List.mem_of_getElem? (i := 7) rfl))) (g := (mkF m 45 #[.val (.int p1), .val (.int v2), .unset] [(.int v2)])) rfl (hb hby at_45) _ k) ?_
            show ORun p e below s _ _ _ s₁ (mkF m 47 #[.val (.int p1), .val (.int v2), .unset] [(.int (55295 : Int32)), (.int v2)])
            by_cases hc13 : (55295 : Int32) < v2
            · have t13 := own_lt hc13 (a := 55295) (b := v2.toInt) (by decide) rfl
              refine own_by (fun t k => XS.icmpNo X0.here hx rfl (hb hby at_47) rfl (tlt hc13).2.2.2 k) ?_
              show ORun p e below s _ _ _ s₁ (mkF m 50 #[.val (.int p1), .val (.int v2), .unset] [])
              refine own_by (fun t k => XS.iloadN X0.here hx rfl (hb hby at_50) rfl k) ?_
              show ORun p e below s _ _ _ s₁ (mkF m 51 #[.val (.int p1), .val (.int v2), .unset] [(.int v2)])
              refine own_by (fun t k => X0.ldcInt hx hown (mvT hZ (hw _ (List.mem_of_getElem? (i := 2) rfl))) (g := (mkF m 51 #[.val (.int p1), .val (.int v2), .unset] [(.int v2)])) rfl (hb hby at_51) _ k) ?_
              show ORun p e below s _ _ _ s₁ (mkF m 53 #[.val (.int p1), .val (.int v2), .unset] [(.int (57344 : Int32)), (.int v2)])
              by_cases hc14 : v2 < (57344 : Int32)
              · have t14 := own_lt hc14 (a := v2.toInt) (b := 57344) rfl (by decide)
                refine own_by (fun t k => XS.icmpYes X0.here hx rfl (pc0 := 53) (pc' := 66) rfl (hb hby at_53) rfl (tlt hc14).1 (by decide) (by decide) k) ?_
                show ORun p e below s _ _ _ s₁ (mkF m 66 #[.val (.int p1), .val (.int v2), .unset] [])
                refine own_by (fun t k => XS.iconst X0.here hx rfl (hb hby at_66) k) ?_
                show ORun p e below s _ _ _ s₁ (mkF m 67 #[.val (.int p1), .val (.int v2), .unset] [(.int (0 : Int32))])
                exact J4 (0 : Int32) (Or.inr ⟨by decide, by omega⟩)
              · have t14 := own_nlt hc14 (a := v2.toInt) (b := 57344) rfl (by decide)
                refine own_by (fun t k => XS.icmpNo X0.here hx rfl (hb hby at_53) rfl (flt hc14).1 k) ?_
                show ORun p e below s _ _ _ s₁ (mkF m 56 #[.val (.int p1), .val (.int v2), .unset] [])
                refine own_by (fun t k => XS.iloadN X0.here hx rfl (hb hby at_56) rfl k) ?_
                show ORun p e below s _ _ _ s₁ (mkF m 57 #[.val (.int p1), .val (.int v2), .unset] [(.int v2)])
                refine own_by (fun t k => X0.ldcInt hx hown (mvT hZ (hw _ (List.mem_of_getElem? (i := 10) rfl))) (g := (mkF m 57 #[.val (.int p1), .val (.int v2), .unset] [(.int v2)])) rfl (hb hby at_57) _ k) ?_
                show ORun p e below s _ _ _ s₁ (mkF m 59 #[.val (.int p1), .val (.int v2), .unset] [(.int (65533 : Int32)), (.int v2)])
                by_cases hc15 : (65533 : Int32) < v2
                · have t15 := own_lt hc15 (a := 65533) (b := v2.toInt) (by decide) rfl
                  refine own_by (fun t k => XS.icmpYes X0.here hx rfl (pc0 := 59) (pc' := 66) rfl (hb hby at_59) rfl (tlt hc15).2.2.1 (by decide) (by decide) k) ?_
                  show ORun p e below s _ _ _ s₁ (mkF m 66 #[.val (.int p1), .val (.int v2), .unset] [])
                  refine own_by (fun t k => XS.iconst X0.here hx rfl (hb hby at_66) k) ?_
                  show ORun p e below s _ _ _ s₁ (mkF m 67 #[.val (.int p1), .val (.int v2), .unset] [(.int (0 : Int32))])
                  exact J4 (0 : Int32) (Or.inr ⟨by decide, by omega⟩)
                · have t15 := own_nlt hc15 (a := 65533) (b := v2.toInt) (by decide) rfl
                  refine own_by (fun t k => XS.icmpNo X0.here hx rfl (hb hby at_59) rfl (flt hc15).2.2.1 k) ?_
                  show ORun p e below s _ _ _ s₁ (mkF m 62 #[.val (.int p1), .val (.int v2), .unset] [])
                  refine own_by (fun t k => XS.iconst X0.here hx rfl (hb hby at_62) k) ?_
                  show ORun p e below s _ _ _ s₁ (mkF m 63 #[.val (.int p1), .val (.int v2), .unset] [(.int (1 : Int32))])
                  refine own_by (fun t k => XS.goto X0.here hx rfl (pc0 := 63) (pc' := 67) rfl (hb hby at_63) (by decide) (by decide) k) ?_
                  show ORun p e below s _ _ _ s₁ (mkF m 67 #[.val (.int p1), .val (.int v2), .unset] [(.int (1 : Int32))])
                  exact J4 (1 : Int32) (Or.inl ⟨by decide, by omega⟩)
            · have t13 := own_nlt hc13 (a := 55295) (b := v2.toInt) (by decide) rfl
              refine own_by (fun t k => XS.icmpYes X0.here hx rfl (pc0 := 47) (pc' := 62) rfl (hb hby at_47) rfl (flt hc13).2.2.2 (by decide) (by decide) k) ?_
              show ORun p e below s _ _ _ s₁ (mkF m 62 #[.val (.int p1), .val (.int v2), .unset] [])
              refine own_by (fun t k => XS.iconst X0.here hx rfl (hb hby at_62) k) ?_
              show ORun p e below s _ _ _ s₁ (mkF m 63 #[.val (.int p1), .val (.int v2), .unset] [(.int (1 : Int32))])
              refine own_by (fun t k => XS.goto X0.here hx rfl (pc0 := 63) (pc' := 67) rfl (hb hby at_63) (by decide) (by decide) k) ?_
              show ORun p e below s _ _ _ s₁ (mkF m 67 #[.val (.int p1), .val (.int v2), .unset] [(.int (1 : Int32))])
              exact J4 (1 : Int32) (Or.inl ⟨by decide, by omega⟩)
  · have t3 := own_nlt hc3 (a := v2.toInt) (b := 55296) rfl (by decide)
    refine own_by (fun t k => XS.icmpNo X0.here hx rfl (hb hby at_9) rfl (flt hc3).1 k) ?_
    show ORun p e below s _ _ _ s₁ (mkF m 12 #[.val (.int p1), .val (.int v2), .unset] [])
    refine own_by (fun t k => XS.iloadN X0.here hx rfl (hb hby at_12) rfl k) ?_
    show ORun p e below s _ _ _ s₁ (mkF m 13 #[.val (.int p1), .val (.int v2), .unset] [(.int v2)])
    refine own_by (fun t k => X0.ldcInt hx hown (mvT hZ (hw _ (List.mem_of_getElem? (i := 9) rfl))) (g := (mkF m 13 #[.val (.int p1), .val (.int v2), .unset] [(.int v2)])) rfl (hb hby at_13) _ k) ?_
    show ORun p e below s _ _ _ s₁ (mkF m 15 #[.val (.int p1), .val (.int v2), .unset] [(.int (57343 : Int32)), (.int v2)])
    by_cases hc16 : (57343 : Int32) < v2
    · have t16 := own_lt hc16 (a := 57343) (b := v2.toInt) (by decide) rfl
      refine own_by (fun t k => XS.icmpYes X0.here hx rfl (pc0 := 15) (pc' := 20) rfl (hb hby at_15) rfl (tlt hc16).2.2.1 (by decide) (by decide) k) ?_
      show ORun p e below s _ _ _ s₁ (mkF m 20 #[.val (.int p1), .val (.int v2), .unset] [])
      have J17 : ∀ w17 : Int32, ((w17.toInt = 1 ∧ (v2.toInt = 9 ∨ v2.toInt = 10 ∨ v2.toInt = 13 ∨ (32 ≤ v2.toInt ∧ v2.toInt < 65534))) ∨ (w17.toInt = 0 ∧ ¬ (v2.toInt = 9 ∨ v2.toInt = 10 ∨ v2.toInt = 13 ∨ (32 ≤ v2.toInt ∧ v2.toInt < 65534)))) → ORun p e below s (fun v h L => v = some (.int 1) ∧ Fr n0 L) room_1.cells room_1.slots s₁ (mkF m 67 #[.val (.int p1), .val (.int v2), .unset] [(.int w17)]) := by
        intro w17 hJ17
        refine own_by (fun t k => XS.istoreN X0.here hx rfl (hb hby at_67) rfl (l' := #[.val (.int p1), .val (.int v2), .val (.int w17)]) rfl k) ?_
        show ORun p e below s _ _ _ s₁ (mkF m 68 #[.val (.int p1), .val (.int v2), .val (.int w17)] [])
        refine own_by (fun t k => XS.iloadN X0.here hx rfl (hb hby at_68) rfl k) ?_
        show ORun p e below s _ _ _ s₁ (mkF m 69 #[.val (.int p1), .val (.int v2), .val (.int w17)] [(.int v2)])
        refine own_callS X0 hx hZ hown (hw _ (List.mem_of_getElem? (i := 3) rfl)) (hw _ (List.mem_of_getElem? (i := 4) rfl)) (hw _ (List.mem_of_getElem? (i := 5) rfl)) (hw _ (List.mem_of_getElem? (i := 6) rfl)) (by decide) (rm1 l Z a0 hw [] h0 n0 Z0 v2) e0 (by decide) (W := 0) (by decide) (by decide) (by decide) (argsL := [(.int v2)]) (rest := []) (by rw [hml]; rfl) (lenOf pd_0 rfl) rfl rfl (Nat.le_of_eq rfl) (hb hby at_69) ?_
        intro T18 L18 u18 X18 hQ18
        obtain ⟨y18, rfl, hy18, Nq18, e18⟩ := hQ18
        have N18 := Fr.app N0 Nq18
        show ORun p e below s _ _ _ T18 (mkF m 72 #[.val (.int p1), .val (.int v2), .val (.int w17)] [(.int y18)])
        refine own_by (fun t k => XS.iloadN X18.here hx rfl (hb hby at_72) rfl k) ?_
        show ORun p e below s _ _ _ T18 (mkF m 73 #[.val (.int p1), .val (.int v2), .val (.int w17)] [(.int w17), (.int y18)])
        by_cases hc19 : y18 = w17
        · have t19 := own_eq hc19 (a := y18.toInt) (b := w17.toInt) rfl rfl
          refine own_by (fun t k => XS.icmpNo X18.here hx rfl (hb hby at_73) rfl (teq hc19).2 k) ?_
          show ORun p e below s _ _ _ T18 (mkF m 76 #[.val (.int p1), .val (.int v2), .val (.int w17)] [])
          refine own_by (fun t k => XS.iconst X18.here hx rfl (hb hby at_76) k) ?_
          show ORun p e below s _ _ _ T18 (mkF m 77 #[.val (.int p1), .val (.int v2), .val (.int w17)] [(.int (1 : Int32))])
          refine own_by (fun t k => XS.goto X18.here hx rfl (pc0 := 77) (pc' := 81) rfl (hb hby at_77) (by decide) (by decide) k) ?_
          show ORun p e below s _ _ _ T18 (mkF m 81 #[.val (.int p1), .val (.int v2), .val (.int w17)] [(.int (1 : Int32))])
          refine own_retN X18 hx (t := .boolean) hret (by simp) hlk (hb hby at_81) (by decide) (by decide) ?_
          exact ⟨rfl, N18⟩
        · have t19 := own_ne hc19 (a := y18.toInt) (b := w17.toInt) rfl rfl
          refine own_by (fun t k => XS.icmpYes X18.here hx rfl (pc0 := 73) (pc' := 80) rfl (hb hby at_73) rfl (feq hc19).2 (by decide) (by decide) k) ?_
          show ORun p e below s _ _ _ T18 (mkF m 80 #[.val (.int p1), .val (.int v2), .val (.int w17)] [])
          refine own_by (fun t k => XS.iconst X18.here hx rfl (hb hby at_80) k) ?_
          show ORun p e below s _ _ _ T18 (mkF m 81 #[.val (.int p1), .val (.int v2), .val (.int w17)] [(.int (0 : Int32))])
          refine own_retN X18 hx (t := .boolean) hret (by simp) hlk (hb hby at_81) (by decide) (by decide) ?_
          exfalso
          omega
      refine own_by (fun t k => XS.iloadN X0.here hx rfl (hb hby at_20) rfl k) ?_
      show ORun p e below s _ _ _ s₁ (mkF m 21 #[.val (.int p1), .val (.int v2), .unset] [(.int v2)])
      refine own_by (fun t k => XS.bipush X0.here hx rfl (hb hby at_21) k) ?_
      show ORun p e below s _ _ _ s₁ (mkF m 23 #[.val (.int p1), .val (.int v2), .unset] [(.int (9 : Int32)), (.int v2)])
      by_cases hc20 : v2 = (9 : Int32)
      · have t20 := own_eq hc20 (a := v2.toInt) (b := 9) rfl (by decide)
        refine own_by (fun t k => XS.icmpYes X0.here hx rfl (pc0 := 23) (pc' := 62) rfl (hb hby at_23) rfl (teq hc20).1 (by decide) (by decide) k) ?_
        show ORun p e below s _ _ _ s₁ (mkF m 62 #[.val (.int p1), .val (.int v2), .unset] [])
        refine own_by (fun t k => XS.iconst X0.here hx rfl (hb hby at_62) k) ?_
        show ORun p e below s _ _ _ s₁ (mkF m 63 #[.val (.int p1), .val (.int v2), .unset] [(.int (1 : Int32))])
        refine own_by (fun t k => XS.goto X0.here hx rfl (pc0 := 63) (pc' := 67) rfl (hb hby at_63) (by decide) (by decide) k) ?_
        show ORun p e below s _ _ _ s₁ (mkF m 67 #[.val (.int p1), .val (.int v2), .unset] [(.int (1 : Int32))])
        exact J17 (1 : Int32) (Or.inl ⟨by decide, by omega⟩)
      · have t20 := own_ne hc20 (a := v2.toInt) (b := 9) rfl (by decide)
        refine own_by (fun t k => XS.icmpNo X0.here hx rfl (hb hby at_23) rfl (feq hc20).1 k) ?_
        show ORun p e below s _ _ _ s₁ (mkF m 26 #[.val (.int p1), .val (.int v2), .unset] [])
        refine own_by (fun t k => XS.iloadN X0.here hx rfl (hb hby at_26) rfl k) ?_
        show ORun p e below s _ _ _ s₁ (mkF m 27 #[.val (.int p1), .val (.int v2), .unset] [(.int v2)])
        refine own_by (fun t k => XS.bipush X0.here hx rfl (hb hby at_27) k) ?_
        show ORun p e below s _ _ _ s₁ (mkF m 29 #[.val (.int p1), .val (.int v2), .unset] [(.int (10 : Int32)), (.int v2)])
        by_cases hc21 : v2 = (10 : Int32)
        · have t21 := own_eq hc21 (a := v2.toInt) (b := 10) rfl (by decide)
          refine own_by (fun t k => XS.icmpYes X0.here hx rfl (pc0 := 29) (pc' := 62) rfl (hb hby at_29) rfl (teq hc21).1 (by decide) (by decide) k) ?_
          show ORun p e below s _ _ _ s₁ (mkF m 62 #[.val (.int p1), .val (.int v2), .unset] [])
          refine own_by (fun t k => XS.iconst X0.here hx rfl (hb hby at_62) k) ?_
          show ORun p e below s _ _ _ s₁ (mkF m 63 #[.val (.int p1), .val (.int v2), .unset] [(.int (1 : Int32))])
          refine own_by (fun t k => XS.goto X0.here hx rfl (pc0 := 63) (pc' := 67) rfl (hb hby at_63) (by decide) (by decide) k) ?_
          show ORun p e below s _ _ _ s₁ (mkF m 67 #[.val (.int p1), .val (.int v2), .unset] [(.int (1 : Int32))])
          exact J17 (1 : Int32) (Or.inl ⟨by decide, by omega⟩)
        · have t21 := own_ne hc21 (a := v2.toInt) (b := 10) rfl (by decide)
          refine own_by (fun t k => XS.icmpNo X0.here hx rfl (hb hby at_29) rfl (feq hc21).1 k) ?_
          show ORun p e below s _ _ _ s₁ (mkF m 32 #[.val (.int p1), .val (.int v2), .unset] [])
          refine own_by (fun t k => XS.iloadN X0.here hx rfl (hb hby at_32) rfl k) ?_
          show ORun p e below s _ _ _ s₁ (mkF m 33 #[.val (.int p1), .val (.int v2), .unset] [(.int v2)])
          refine own_by (fun t k => XS.bipush X0.here hx rfl (hb hby at_33) k) ?_
          show ORun p e below s _ _ _ s₁ (mkF m 35 #[.val (.int p1), .val (.int v2), .unset] [(.int (13 : Int32)), (.int v2)])
          by_cases hc22 : v2 = (13 : Int32)
          · have t22 := own_eq hc22 (a := v2.toInt) (b := 13) rfl (by decide)
            refine own_by (fun t k => XS.icmpYes X0.here hx rfl (pc0 := 35) (pc' := 62) rfl (hb hby at_35) rfl (teq hc22).1 (by decide) (by decide) k) ?_
            show ORun p e below s _ _ _ s₁ (mkF m 62 #[.val (.int p1), .val (.int v2), .unset] [])
            refine own_by (fun t k => XS.iconst X0.here hx rfl (hb hby at_62) k) ?_
            show ORun p e below s _ _ _ s₁ (mkF m 63 #[.val (.int p1), .val (.int v2), .unset] [(.int (1 : Int32))])
            refine own_by (fun t k => XS.goto X0.here hx rfl (pc0 := 63) (pc' := 67) rfl (hb hby at_63) (by decide) (by decide) k) ?_
            show ORun p e below s _ _ _ s₁ (mkF m 67 #[.val (.int p1), .val (.int v2), .unset] [(.int (1 : Int32))])
            exact J17 (1 : Int32) (Or.inl ⟨by decide, by omega⟩)
          · have t22 := own_ne hc22 (a := v2.toInt) (b := 13) rfl (by decide)
            refine own_by (fun t k => XS.icmpNo X0.here hx rfl (hb hby at_35) rfl (feq hc22).1 k) ?_
            show ORun p e below s _ _ _ s₁ (mkF m 38 #[.val (.int p1), .val (.int v2), .unset] [])
            refine own_by (fun t k => XS.iloadN X0.here hx rfl (hb hby at_38) rfl k) ?_
            show ORun p e below s _ _ _ s₁ (mkF m 39 #[.val (.int p1), .val (.int v2), .unset] [(.int v2)])
            refine own_by (fun t k => XS.bipush X0.here hx rfl (hb hby at_39) k) ?_
            show ORun p e below s _ _ _ s₁ (mkF m 41 #[.val (.int p1), .val (.int v2), .unset] [(.int (32 : Int32)), (.int v2)])
            by_cases hc23 : v2 < (32 : Int32)
            · have t23 := own_lt hc23 (a := v2.toInt) (b := 32) rfl (by decide)
              refine own_by (fun t k => XS.icmpYes X0.here hx rfl (pc0 := 41) (pc' := 50) rfl (hb hby at_41) rfl (tlt hc23).1 (by decide) (by decide) k) ?_
              show ORun p e below s _ _ _ s₁ (mkF m 50 #[.val (.int p1), .val (.int v2), .unset] [])
              refine own_by (fun t k => XS.iloadN X0.here hx rfl (hb hby at_50) rfl k) ?_
              show ORun p e below s _ _ _ s₁ (mkF m 51 #[.val (.int p1), .val (.int v2), .unset] [(.int v2)])
              refine own_by (fun t k => X0.ldcInt hx hown (mvT hZ (hw _ (List.mem_of_getElem? (i := 2) rfl))) (g := (mkF m 51 #[.val (.int p1), .val (.int v2), .unset] [(.int v2)])) rfl (hb hby at_51) _ k) ?_
              show ORun p e below s _ _ _ s₁ (mkF m 53 #[.val (.int p1), .val (.int v2), .unset] [(.int (57344 : Int32)), (.int v2)])
              by_cases hc24 : v2 < (57344 : Int32)
              · have t24 := own_lt hc24 (a := v2.toInt) (b := 57344) rfl (by decide)
                refine own_by (fun t k => XS.icmpYes X0.here hx rfl (pc0 := 53) (pc' := 66) rfl (hb hby at_53) rfl (tlt hc24).1 (by decide) (by decide) k) ?_
                show ORun p e below s _ _ _ s₁ (mkF m 66 #[.val (.int p1), .val (.int v2), .unset] [])
                refine own_by (fun t k => XS.iconst X0.here hx rfl (hb hby at_66) k) ?_
                show ORun p e below s _ _ _ s₁ (mkF m 67 #[.val (.int p1), .val (.int v2), .unset] [(.int (0 : Int32))])
                exact J17 (0 : Int32) (Or.inr ⟨by decide, by omega⟩)
              · have t24 := own_nlt hc24 (a := v2.toInt) (b := 57344) rfl (by decide)
                refine own_by (fun t k => XS.icmpNo X0.here hx rfl (hb hby at_53) rfl (flt hc24).1 k) ?_
                show ORun p e below s _ _ _ s₁ (mkF m 56 #[.val (.int p1), .val (.int v2), .unset] [])
                refine own_by (fun t k => XS.iloadN X0.here hx rfl (hb hby at_56) rfl k) ?_
                show ORun p e below s _ _ _ s₁ (mkF m 57 #[.val (.int p1), .val (.int v2), .unset] [(.int v2)])
                refine own_by (fun t k => X0.ldcInt hx hown (mvT hZ (hw _ (List.mem_of_getElem? (i := 10) rfl))) (g := (mkF m 57 #[.val (.int p1), .val (.int v2), .unset] [(.int v2)])) rfl (hb hby at_57) _ k) ?_
                show ORun p e below s _ _ _ s₁ (mkF m 59 #[.val (.int p1), .val (.int v2), .unset] [(.int (65533 : Int32)), (.int v2)])
                by_cases hc25 : (65533 : Int32) < v2
                · have t25 := own_lt hc25 (a := 65533) (b := v2.toInt) (by decide) rfl
                  refine own_by (fun t k => XS.icmpYes X0.here hx rfl (pc0 := 59) (pc' := 66) rfl (hb hby at_59) rfl (tlt hc25).2.2.1 (by decide) (by decide) k) ?_
                  show ORun p e below s _ _ _ s₁ (mkF m 66 #[.val (.int p1), .val (.int v2), .unset] [])
                  refine own_by (fun t k => XS.iconst X0.here hx rfl (hb hby at_66) k) ?_
                  show ORun p e below s _ _ _ s₁ (mkF m 67 #[.val (.int p1), .val (.int v2), .unset] [(.int (0 : Int32))])
                  exact J17 (0 : Int32) (Or.inr ⟨by decide, by omega⟩)
                · have t25 := own_nlt hc25 (a := 65533) (b := v2.toInt) (by decide) rfl
                  refine own_by (fun t k => XS.icmpNo X0.here hx rfl (hb hby at_59) rfl (flt hc25).2.2.1 k) ?_
                  show ORun p e below s _ _ _ s₁ (mkF m 62 #[.val (.int p1), .val (.int v2), .unset] [])
                  refine own_by (fun t k => XS.iconst X0.here hx rfl (hb hby at_62) k) ?_
                  show ORun p e below s _ _ _ s₁ (mkF m 63 #[.val (.int p1), .val (.int v2), .unset] [(.int (1 : Int32))])
                  refine own_by (fun t k => XS.goto X0.here hx rfl (pc0 := 63) (pc' := 67) rfl (hb hby at_63) (by decide) (by decide) k) ?_
                  show ORun p e below s _ _ _ s₁ (mkF m 67 #[.val (.int p1), .val (.int v2), .unset] [(.int (1 : Int32))])
                  exact J17 (1 : Int32) (Or.inl ⟨by decide, by omega⟩)
            · have t23 := own_nlt hc23 (a := v2.toInt) (b := 32) rfl (by decide)
              refine own_by (fun t k => XS.icmpNo X0.here hx rfl (hb hby at_41) rfl (flt hc23).1 k) ?_
              show ORun p e below s _ _ _ s₁ (mkF m 44 #[.val (.int p1), .val (.int v2), .unset] [])
              refine own_by (fun t k => XS.iloadN X0.here hx rfl (hb hby at_44) rfl k) ?_
              show ORun p e below s _ _ _ s₁ (mkF m 45 #[.val (.int p1), .val (.int v2), .unset] [(.int v2)])
              refine own_by (fun t k => X0.ldcInt hx hown (mvT hZ (hw _ (List.mem_of_getElem? (i := 7) rfl))) (g := (mkF m 45 #[.val (.int p1), .val (.int v2), .unset] [(.int v2)])) rfl (hb hby at_45) _ k) ?_
              show ORun p e below s _ _ _ s₁ (mkF m 47 #[.val (.int p1), .val (.int v2), .unset] [(.int (55295 : Int32)), (.int v2)])
              by_cases hc26 : (55295 : Int32) < v2
              · have t26 := own_lt hc26 (a := 55295) (b := v2.toInt) (by decide) rfl
                refine own_by (fun t k => XS.icmpNo X0.here hx rfl (hb hby at_47) rfl (tlt hc26).2.2.2 k) ?_
                show ORun p e below s _ _ _ s₁ (mkF m 50 #[.val (.int p1), .val (.int v2), .unset] [])
                refine own_by (fun t k => XS.iloadN X0.here hx rfl (hb hby at_50) rfl k) ?_
                show ORun p e below s _ _ _ s₁ (mkF m 51 #[.val (.int p1), .val (.int v2), .unset] [(.int v2)])
                refine own_by (fun t k => X0.ldcInt hx hown (mvT hZ (hw _ (List.mem_of_getElem? (i := 2) rfl))) (g := (mkF m 51 #[.val (.int p1), .val (.int v2), .unset] [(.int v2)])) rfl (hb hby at_51) _ k) ?_
                show ORun p e below s _ _ _ s₁ (mkF m 53 #[.val (.int p1), .val (.int v2), .unset] [(.int (57344 : Int32)), (.int v2)])
                by_cases hc27 : v2 < (57344 : Int32)
                · have t27 := own_lt hc27 (a := v2.toInt) (b := 57344) rfl (by decide)
                  refine own_by (fun t k => XS.icmpYes X0.here hx rfl (pc0 := 53) (pc' := 66) rfl (hb hby at_53) rfl (tlt hc27).1 (by decide) (by decide) k) ?_
                  show ORun p e below s _ _ _ s₁ (mkF m 66 #[.val (.int p1), .val (.int v2), .unset] [])
                  refine own_by (fun t k => XS.iconst X0.here hx rfl (hb hby at_66) k) ?_
                  show ORun p e below s _ _ _ s₁ (mkF m 67 #[.val (.int p1), .val (.int v2), .unset] [(.int (0 : Int32))])
                  exact J17 (0 : Int32) (Or.inr ⟨by decide, by omega⟩)
                · have t27 := own_nlt hc27 (a := v2.toInt) (b := 57344) rfl (by decide)
                  refine own_by (fun t k => XS.icmpNo X0.here hx rfl (hb hby at_53) rfl (flt hc27).1 k) ?_
                  show ORun p e below s _ _ _ s₁ (mkF m 56 #[.val (.int p1), .val (.int v2), .unset] [])
                  refine own_by (fun t k => XS.iloadN X0.here hx rfl (hb hby at_56) rfl k) ?_
                  show ORun p e below s _ _ _ s₁ (mkF m 57 #[.val (.int p1), .val (.int v2), .unset] [(.int v2)])
                  refine own_by (fun t k => X0.ldcInt hx hown (mvT hZ (hw _ (List.mem_of_getElem? (i := 10) rfl))) (g := (mkF m 57 #[.val (.int p1), .val (.int v2), .unset] [(.int v2)])) rfl (hb hby at_57) _ k) ?_
                  show ORun p e below s _ _ _ s₁ (mkF m 59 #[.val (.int p1), .val (.int v2), .unset] [(.int (65533 : Int32)), (.int v2)])
                  by_cases hc28 : (65533 : Int32) < v2
                  · have t28 := own_lt hc28 (a := 65533) (b := v2.toInt) (by decide) rfl
                    refine own_by (fun t k => XS.icmpYes X0.here hx rfl (pc0 := 59) (pc' := 66) rfl (hb hby at_59) rfl (tlt hc28).2.2.1 (by decide) (by decide) k) ?_
                    show ORun p e below s _ _ _ s₁ (mkF m 66 #[.val (.int p1), .val (.int v2), .unset] [])
                    refine own_by (fun t k => XS.iconst X0.here hx rfl (hb hby at_66) k) ?_
                    show ORun p e below s _ _ _ s₁ (mkF m 67 #[.val (.int p1), .val (.int v2), .unset] [(.int (0 : Int32))])
                    exact J17 (0 : Int32) (Or.inr ⟨by decide, by omega⟩)
                  · have t28 := own_nlt hc28 (a := 65533) (b := v2.toInt) (by decide) rfl
                    refine own_by (fun t k => XS.icmpNo X0.here hx rfl (hb hby at_59) rfl (flt hc28).2.2.1 k) ?_
                    show ORun p e below s _ _ _ s₁ (mkF m 62 #[.val (.int p1), .val (.int v2), .unset] [])
                    refine own_by (fun t k => XS.iconst X0.here hx rfl (hb hby at_62) k) ?_
                    show ORun p e below s _ _ _ s₁ (mkF m 63 #[.val (.int p1), .val (.int v2), .unset] [(.int (1 : Int32))])
                    refine own_by (fun t k => XS.goto X0.here hx rfl (pc0 := 63) (pc' := 67) rfl (hb hby at_63) (by decide) (by decide) k) ?_
                    show ORun p e below s _ _ _ s₁ (mkF m 67 #[.val (.int p1), .val (.int v2), .unset] [(.int (1 : Int32))])
                    exact J17 (1 : Int32) (Or.inl ⟨by decide, by omega⟩)
              · have t26 := own_nlt hc26 (a := 55295) (b := v2.toInt) (by decide) rfl
                refine own_by (fun t k => XS.icmpYes X0.here hx rfl (pc0 := 47) (pc' := 62) rfl (hb hby at_47) rfl (flt hc26).2.2.2 (by decide) (by decide) k) ?_
                show ORun p e below s _ _ _ s₁ (mkF m 62 #[.val (.int p1), .val (.int v2), .unset] [])
                refine own_by (fun t k => XS.iconst X0.here hx rfl (hb hby at_62) k) ?_
                show ORun p e below s _ _ _ s₁ (mkF m 63 #[.val (.int p1), .val (.int v2), .unset] [(.int (1 : Int32))])
                refine own_by (fun t k => XS.goto X0.here hx rfl (pc0 := 63) (pc' := 67) rfl (hb hby at_63) (by decide) (by decide) k) ?_
                show ORun p e below s _ _ _ s₁ (mkF m 67 #[.val (.int p1), .val (.int v2), .unset] [(.int (1 : Int32))])
                exact J17 (1 : Int32) (Or.inl ⟨by decide, by omega⟩)
    · have t16 := own_nlt hc16 (a := 57343) (b := v2.toInt) (by decide) rfl
      refine own_by (fun t k => XS.icmpNo X0.here hx rfl (hb hby at_15) rfl (flt hc16).2.2.1 k) ?_
      show ORun p e below s _ _ _ s₁ (mkF m 18 #[.val (.int p1), .val (.int v2), .unset] [])
      refine own_by (fun t k => XS.iconst X0.here hx rfl (hb hby at_18) k) ?_
      show ORun p e below s _ _ _ s₁ (mkF m 19 #[.val (.int p1), .val (.int v2), .unset] [(.int (1 : Int32))])
      refine own_retN X0 hx (t := .boolean) hret (by simp) hlk (hb hby at_19) (by decide) (by decide) ?_
      exact ⟨rfl, N0⟩
set_option maxRecDepth 65536 in
set_option maxHeartbeats 40000000 in
theorem comes_1 {Post : Tables → Env → Array Value → State → Outcome → State → Prop} (hpost : ∀ tb e args s v u, (limb_1_1.after args s (.returned v) u = true ∧ limb_1_2.after args s (.returned v) u = true ∧ True) → FrameEnd s (.returned v) u (Jvm.fieldLocs frame_1_writes args s ++ Jvm.arrayLocs frame_1_arrays args s ++ Jvm.staticLocs frame_1_statics s) 0 0 → Post tb e args s (.returned v) u) :
    ArmFor flags0 classFile x code maxLocals ret World_1 tables_1 room_1 Calls_1 rest_1 Pre_1 Post := by
  intro l hfl _ _ p e ha hc hk s m args below hf hA hF happ hP
  obtain ⟨hcalls, hrest, hpre⟩ := hP
  obtain ⟨-, -, -, hnamed, -, -, -, hat⟩ := (Spec.applies_iff hf).mp happ
  obtain ⟨hg, hn⟩ := and_e (Cond.before_iff.mp (show (Jvm.Cond.and given_1 narrow_1).before args s = true from hpre))
  obtain ⟨hcnt, g0⟩ := and_e hg
  have k0 := g0
  obtain ⟨w0, rfl⟩ : ∃ w0 : Value, args = #[w0] := by
    have hs : args.size = 1 := by simpa [Cond.value, given_1] using hcnt
    obtain ⟨L⟩ := args
    match L, hs with
    | [w0], _ => exact ⟨w0, rfl⟩
  have hw := fun d (hd : d ∈ tables_1) => atoms_spec (ws := Jvm.Cond.code x code maxLocals ret :: tables_1) hat d (List.mem_cons_of_mem _ hd)
  have hfit : Fit s := fun {y c} hc i hi => by
    obtain ⟨ha, rfl⟩ := Array.getElem?_eq_some_iff.mp hc
    have q := List.all_eq_true.mp ((Array.all_eq_true_iff_forall_mem.mp hF) _ (Array.getElem_mem ha)) i (List.mem_range.mpr hi)
    simpa [Array.getElem?_eq_getElem hi] using q
  obtain ⟨i0, e0⟩ := is_v k0
  obtain rfl : w0 = (.int i0) := Option.some.inj e0
  obtain ⟨n, o, h1, h2, h3, _, L, rfl, ⟨rfl, N⟩, hq⟩ := rm0 l s _ hw tables_1 s.heap s.heap.size (Nat.le_refl _) i0  p e ha hc hk s m _ below hf ((Spec.applies_iff_loose hf).mp happ).1 ⟨rfl, State.Warmed39.refl s, rfl⟩ trivial
  refine ⟨n, _, h1, h2, h3, hpost _ _ _ _ _ _ ⟨Cond.after_iff.mpr rfl, Cond.after_iff.mpr (eq_i res_at (Term.int_eval (1)) rfl), trivial⟩ ⟨hq.1, hq.2.1, (hq.2.2.sift fun y hy => Or.inr (N y hy)).mono (by decide) (by decide)⟩⟩
theorem main_1_1 : Claimed_1_1 := comes_1 fun _ _ _ _ _ _ h hF => ⟨h.1, hF⟩
theorem main_1_2 : Claimed_1_2 := comes_1 fun _ _ _ _ _ _ h hF => ⟨h.2.1, hF⟩
end Jvm.Pilot.@@N@@
namespace Jvm.Pilot.@@N@@
open Jvm Jvm.ClassFile Sem Op Lib Jvm.Free Jvm.Stand Jvm.Pilot.@@N@@.Jvm.D
/-! MADE BY PROGRAM (witnessworld.py) out of the Statement's table words and the real class files: 9 classes; the members and pool entries that the words name. The judged class is class 1, her method 1. -/
namespace start1
open Jvm.ClassFile
def u (s : String) : CpInfo := .utf8 (stringToUtf16 s)
/-- a pool by its gaps: so many unusable entries, then the entry; so many at the end -/
def gap : Nat → List CpInfo → List CpInfo
  | 0, r => r
  | n + 1, r => .unusable :: gap n r
def poolList (es : List (Nat × CpInfo)) (last : Nat) : List CpInfo := es.foldr (fun e r => gap e.1 (e.2 :: r)) (gap last [])
def pool (es : List (Nat × CpInfo)) (last : Nat) : Array CpInfo := ⟨poolList es last⟩
def fileOf (pool : Array CpInfo) (this : Nat) (attrs : Array Attribute := #[]) (ms : Array MethodInfo := #[]) (fl : Nat := 33) (sup : Nat := 0) (ifs : Array Nat := #[]) (fds : Array FieldInfo := #[]) : ClassFile where
  minorVersion := 0
  majorVersion := 65
  constantPool := pool
  accessFlags := fl
  thisClass := this
  superClass := sup
  interfaces := ifs
  fields := fds
  methods := ms
  attributes := attrs
def plain (name : String) (sup : Option ClassId) : Class where
  name := name
  kind := .ordinary
  loader := none
  accessFlags := 33
  super := sup
  interfaces := #[]
  cf := none
  fields := #[]
  methods := #[]
  instanceTypes := #[]
  staticTypes := #[]
  resolved := #[]
  callSites := []
  init := .initialized
  statics := none
  mirror := none

def pool0 : Array CpInfo := pool [(5, u "<init>"), (0, u "()V"), (1, .class_ 10), (1, u "java/lang/Object")] 113

def k0m0 : Method := { name := "<init>", desc := "()V", sig := { parameters := [], returnType := none }, accessFlags := 1, code := none }
/-- java/lang/Object -/
def k0 : Class := { plain "java/lang/Object" none with
  accessFlags := 33
  interfaces := #[]
  cf := some (fileOf pool0 8 #[] #[{ accessFlags := 1, nameIndex := 5, descriptorIndex := 6, attributes := #[] }] 33 0 #[] #[])
  fields := #[]
  methods := #[k0m0]
  instanceTypes := #[]
  staticTypes := #[]
  resolved := Array.replicate 124 none
  statics := none }

def pool1 : Array CpInfo := pool [(2, .class_ 4), (1, u "java/lang/Object"), (0, u "<init>"), (0, u "()V"), (0, .integer 65535), (0, .integer 55296), (0, .integer 57343), (0, .integer 55295), (0, .integer 57344), (0, .integer 65533), (0, .methodref 14 15), (0, .class_ 16), (0, .nameAndType 17 18), (0, u "com/example/neat_maps/neatmaps/XmlCharacters"), (0, u "isHeld"), (0, u "(C)Z"), (0, .class_ 20), (0, u "com/example/neat_maps/neatmaps/XmlCharactersIsHeldPinLaw"), (2, u "law"), (0, u "(I)Z")] 3

def k1m0 : Method := { name := "<init>", desc := "()V", sig := { parameters := [], returnType := none }, accessFlags := 2, code := none }
def k1c1 : Code := { maxStack := 2, maxLocals := 3, code := code, exceptionTable := #[], attributes := #[] }
def k1m1 : Method := { name := "law", desc := "(I)Z", sig := { parameters := [.int], returnType := some .boolean }, accessFlags := 9, code := some k1c1 }
/-- com/example/neat_maps/neatmaps/XmlCharactersIsHeldPinLaw -/
def k1 : Class := { plain "com/example/neat_maps/neatmaps/XmlCharactersIsHeldPinLaw" (some 0) with
  accessFlags := 49
  interfaces := #[]
  cf := some (fileOf pool1 19 #[] #[{ accessFlags := 2, nameIndex := 5, descriptorIndex := 6, attributes := #[] }, { accessFlags := 9, nameIndex := 23, descriptorIndex := 24, attributes := #[] }] 49 2 #[] #[])
  fields := #[]
  methods := #[k1m0, k1m1]
  instanceTypes := #[]
  staticTypes := #[]
  resolved := Array.replicate 28 none
  statics := none }

def pool2 : Array CpInfo := pool [(2, .class_ 4), (1, u "java/lang/Object"), (0, u "<init>"), (0, u "()V"), (0, .class_ 8), (0, u "com/example/neat_maps/neatmaps/XmlCharacters"), (16, u "(C)Z"), (8, u "isHeld"), (0, .integer 65534), (0, u "FIRST_REFERRED_CONTROL"), (0, u "C"), (2, u "LAST_REFERRED_CONTROL")] 11

def k2m0 : Method := { name := "<init>", desc := "()V", sig := { parameters := [], returnType := none }, accessFlags := 2, code := none }
def k2c1 : Code := { maxStack := 2, maxLocals := 1, code := prog_92_method_4_code, exceptionTable := #[], attributes := #[] }
def k2m1 : Method := { name := "isHeld", desc := "(C)Z", sig := { parameters := [.char], returnType := some .boolean }, accessFlags := 8, code := some k2c1 }
/-- com/example/neat_maps/neatmaps/XmlCharacters -/
def k2 : Class := { plain "com/example/neat_maps/neatmaps/XmlCharacters" (some 0) with
  accessFlags := 48
  interfaces := #[]
  cf := some (fileOf pool2 7 #[] #[{ accessFlags := 2, nameIndex := 5, descriptorIndex := 6, attributes := #[] }, { accessFlags := 8, nameIndex := 34, descriptorIndex := 25, attributes := #[] }] 48 2 #[] #[{ accessFlags := 26, nameIndex := 36, descriptorIndex := 37, attributes := #[] }, { accessFlags := 24, nameIndex := 40, descriptorIndex := 37, attributes := #[] }])
  fields := #[{ name := "FIRST_REFERRED_CONTROL", type := .char, accessFlags := 26, slot := 0, constantValue := 0 }, { name := "LAST_REFERRED_CONTROL", type := .char, accessFlags := 24, slot := 1, constantValue := 0 }]
  methods := #[k2m0, k2m1]
  instanceTypes := #[]
  staticTypes := #[.char, .char]
  resolved := Array.replicate 52 none
  statics := none }

def pool3 : Array CpInfo := pool [(1, u "java/lang/Cloneable"), (0, .class_ 1), (0, u "java/lang/Object"), (0, .class_ 3)] 3

/-- java/lang/Cloneable -/
def k3 : Class := { plain "java/lang/Cloneable" (some 0) with
  accessFlags := 1537
  interfaces := #[]
  cf := some (fileOf pool3 2 #[] #[] 1537 4 #[] #[])
  fields := #[]
  methods := #[]
  instanceTypes := #[]
  staticTypes := #[]
  resolved := Array.replicate 8 none
  statics := none }

def pool4 : Array CpInfo := pool [(1, u "java/io/Serializable"), (0, .class_ 1), (0, u "java/lang/Object"), (0, .class_ 3)] 3

/-- java/io/Serializable -/
def k4 : Class := { plain "java/io/Serializable" (some 0) with
  accessFlags := 1537
  interfaces := #[]
  cf := some (fileOf pool4 2 #[] #[] 1537 4 #[] #[])
  fields := #[]
  methods := #[]
  instanceTypes := #[]
  staticTypes := #[]
  resolved := Array.replicate 8 none
  statics := none }

/-- the primitive byte -/
def k5 : Class := { plain "byte" none with kind := .primitive 'B', accessFlags := 0x411 }
/-- [B -/
def k6 : Class := { plain "[B" (some 0) with kind := .array 5 .byte, interfaces := #[3, 4], accessFlags := 1041 }

/-- the primitive int -/
def k7 : Class := { plain "int" none with kind := .primitive 'I', accessFlags := 0x411 }
/-- [I -/
def k8 : Class := { plain "[I" (some 0) with kind := .array 7 .int, interfaces := #[3, 4], accessFlags := 1041 }

def heap : Heap := #[]
def classes : Array Class := #[k0, k1, k2, k3, k4, k5, k6, k7, k8]
def interned : List (Array UInt16 × Addr) := []
def slotsUsed : Nat := 0
def theMethod : MethodId := ⟨1, 1⟩
def args0 : Array Value := #[.int 65]
def aboutOver (below : List Frame) : State where
  vm := { classes := classes, interned := interned.toArray }
  heap := heap
  slotsUsed := slotsUsed
  threads := #[{ frames := .invoking theMethod args0 :: below }]
def below0 : List Frame := [.native { method := ⟨0, 0⟩, args := #[] }]
def about1 : State := aboutOver below0
def p0 : Program := .bare "" "" ""
def e0 : Env := launch0.env 0 0 0
theorem w_frames : about1.frames = Frame.invoking theMethod args0 :: below0 := rfl
set_option maxRecDepth 65536 in
theorem w_args : argsFit about1.vm theMethod args0 = true := by decide +kernel
set_option maxRecDepth 65536 in
theorem w_heap : heapFits about1 = true := by decide +kernel
set_option maxRecDepth 65536 in
theorem w_runnable : about1.curStatus? = some .runnable := by decide +kernel
set_option maxRecDepth 65536 in
theorem w_alone : about1.alone = true := by decide +kernel
set_option maxRecDepth 65536 in
theorem w_named : about1.methodNamed? x = some theMethod := by decide +kernel
set_option maxRecDepth 65536 in
theorem w_hears : about1.hears theMethod below0 = true := by decide +kernel
set_option maxRecDepth 65536 in
theorem w_ripe : about1.ripe theMethod args0 below0 = true := by decide +kernel
theorem w_running : about1.status = .running := rfl
set_option maxRecDepth 65536 in
theorem w_room : about1.hasRoom e0.platform room_1 = true :=
  launch0.hasRoom_least _ room_1 (by decide +kernel) (by decide +kernel) (by decide +kernel) (by decide +kernel) (by decide +kernel) (by decide +kernel)
theorem allAtoms_all (ts : List Jvm.Cond) (a : Array Jvm.Value) (st : Jvm.State) : (allAtoms ts).before a st = ts.all (fun c => c.before a st) := by
  induction ts with
  | nil => rfl
  | cons c t ih =>
    show (Jvm.Cond.and c (allAtoms t)).before a st = _
    rw [Jvm.Cond.before_and, ih, List.all_cons]
def words1 : List Jvm.Cond := Jvm.Cond.code x code maxLocals ret :: tables_1
/-- a 'code' word, met by the world's own term for the bytes: nothing is compared byte by byte -/
theorem code_word {y : MethodName} {bytes : ByteArray} {mx : Nat} {rt : Option FieldType} {a : Array Value} {s : State} {m : MethodId} {meth : Method} {c : Code} (h1 : s.methodNamed? y = some m) (h2 : s.vm.method? m = some meth) (h3 : meth.code = some c) (h4 : c.code = bytes)
    (h5 : (c.maxLocals == mx && c.exceptionTable.isEmpty && decide (c.maxStack ≤ mostOperands) && decide (meth.sig.returnType = rt) && !meth.locks && decide (parseMethodDescriptor y.desc = some meth.sig)) = true) : (Jvm.Cond.code y bytes mx rt).before a s = true := by
  simp only [Bool.and_eq_true, beq_iff_eq, Bool.not_eq_true', decide_eq_true_eq] at h5
  obtain ⟨⟨⟨⟨⟨g1, g2⟩, g3⟩, g4⟩, g5⟩, g6⟩ := h5
  simp [Cond.before, Cond.holds, Cond.value, h1, h2, h3, h4, g1, g2, g3, g4, g5, g6]
def isCode : Jvm.Cond → Bool
  | .code _ _ _ _ => true
  | _ => false
theorem all_split {L : List Jvm.Cond} {P : Jvm.Cond → Bool} (h1 : L.all (fun c => isCode c || P c) = true) (h2 : ∀ c ∈ L.filter isCode, P c = true) : L.all P = true := by
  refine List.all_eq_true.mpr fun c hc => ?_
  have h := List.all_eq_true.mp h1 c hc
  rcases Bool.eq_false_or_eq_true (isCode c) with hi | hi
  · exact h2 c (List.mem_filter.mpr ⟨hc, hi⟩)
  · simpa [hi] using h
set_option maxRecDepth 65536 in
theorem w_c0 : (Jvm.Cond.code x code maxLocals ret).before args0 about1 = true := code_word (m := ⟨1, 1⟩) (meth := k1m1) (c := k1c1) (by decide +kernel) rfl rfl rfl (by decide +kernel)
set_option maxRecDepth 65536 in
theorem w_c1 : (Jvm.Cond.code ({ cls := "com/example/neat_maps/neatmaps/XmlCharacters", name := "isHeld", desc := "(C)Z" } : Jvm.MethodName) prog_92_method_4_code (1 : Nat) (Option.some Jvm.ClassFile.FieldType.boolean)).before args0 about1 = true := code_word (m := ⟨2, 1⟩) (meth := k2m1) (c := k2c1) (by decide +kernel) rfl rfl rfl (by decide +kernel)
def codes1 : List Jvm.Cond := [Jvm.Cond.code x code maxLocals ret, Jvm.Cond.code ({ cls := "com/example/neat_maps/neatmaps/XmlCharacters", name := "isHeld", desc := "(C)Z" } : Jvm.MethodName) prog_92_method_4_code (1 : Nat) (Option.some Jvm.ClassFile.FieldType.boolean)]
set_option maxRecDepth 65536 in
theorem codes_eq : words1.filter isCode = codes1 := rfl
theorem w_codes : ∀ c ∈ words1.filter isCode, c.before args0 about1 = true := by
  rw [codes_eq]
  intro c hc
  simp only [codes1, List.mem_cons, List.not_mem_nil, or_false] at hc
  rcases hc with rfl | rfl
  · exact w_c0
  · exact w_c1
set_option maxRecDepth 65536 in
theorem w_t1 : words1.all (fun c => isCode c || c.before args0 about1) = true := by decide +kernel
theorem w_tables : (allAtoms (Jvm.Cond.code x code maxLocals ret :: tables_1)).before args0 about1 = true := by
  rw [allAtoms_all]
  show words1.all (fun c => c.before args0 about1) = true
  refine all_split ?_ w_codes
  rw [w_t1]
set_option maxRecDepth 65536 in
theorem w_case : (Jvm.Cond.and given_1 narrow_1).before args0 about1 = true := by decide +kernel
theorem w_applies : (headSpec (Jvm.Cond.code x code maxLocals ret :: tables_1) room_1).applies x e0.platform about1 = true :=
  (Spec.applies_iff w_frames).mpr ⟨w_running, w_runnable, w_alone, w_named, w_hears, w_ripe, w_room, w_tables⟩
theorem atStart : AtStart classFile x code maxLocals ret World_1 tables_1 room_1 Calls_1 rest_1 Pre_1 launch0 p0 e0 about1 theMethod args0 below0 :=
  ⟨lists_1, trivial, launch0.admits_env _ _ _, launch0.least_env, fairChoices_fair.cas, fairChoices_fair.clock, w_frames, w_args, w_heap, w_applies, trivial, trivial, w_case⟩
end start1
theorem witness_1 : WitnessClaimed_1 := ⟨start1.p0, start1.e0, start1.about1, start1.theMethod, start1.args0, start1.below0, start1.atStart⟩
end Jvm.Pilot.@@N@@
