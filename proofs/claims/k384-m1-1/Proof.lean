import JvmDerived
import JvmDerived.Pilot.@@N@@Statement
import JvmDerived.Pilot.@@N@@Code
set_option linter.unusedVariables false
set_option linter.unusedSimpArgs false
namespace Jvm.RoadKit
open Sem ClassFile Op Lib Jvm.Stand Jvm.Free Jvm.LawKit
section New
variable {p : Program} {l : Launch} {e : Env} {R : Room} {s : State} {m : MethodId} {args : Array Value} {below : List Frame} {meth : Method} {c : Code} {T : State} {locs : List Loc} {cells slots : Nat}
theorem retI (X : Stand p l e R s m args below meth c T locs cells slots) (hx : p.tables.exec = Jvm.exec) {pc : Nat} {Ls : Array Slot} {z : Int32} {rest : List Value} (hret : meth.sig.returnType = some .int) (hd : decode c.code pc = .ok (.ireturn, 1)) {fs : List Frame}
    (hl : ∀ (f : JFrame) (acts : List Action), f.method = m → f.locked = none → f.entered = [] → (doReturn e (T.setTop f) acts (some (.int z))).1 = T.setFrames fs) : Steps p.tables e below (T.setTop (mkF m pc Ls (.int z :: rest))) (T.setFrames fs) := by
  have hm' : T.vm.method? m = some meth := X.method'
  have hn : narrow .int (.int z) = .int z := rfl
  show Steps p.tables e below (T.setTop { method := m, pc := pc, locals := Ls, stack := _ :: rest, locked := none }) _
  jvm_step X.here [X.here.top, hx, hd, hm', hret, hn]
  first | (intro acts; rw [hl _ acts rfl rfl rfl]) | rw [hl _ _ rfl rfl rfl]
  exact Steps.refl _
end New
end Jvm.RoadKit
namespace Jvm.Pilot.@@N@@
open Jvm Jvm.ClassFile Sem Op Lib Jvm.Free Jvm.Stand Jvm.LawKit Jvm.RoadKit Bundle Jvm.Pilot.@@N@@.Jvm.D
section OwnRun
variable {p : Program} {l : Launch} {e : Env} {R : Room} {s : State} {m : MethodId} {args : Array Value} {below : List Frame} {meth : Method} {c : Code} {T T' : State} {locs : List Loc} {cells slots : Nat} {Q : Option Value → Heap → List Loc → Prop} {C S : Nat}
/-- from T with the frame g on top the body comes to its end, and what it leaves is as Q says -/
def ORun (p : Program) (e : Env) (below : List Frame) (s : State) (Q : Option Value → Heap → List Loc → Prop) (C S : Nat) (T : State) (g : JFrame) : Prop :=
  ∃ s₂ o, Steps p.tables e below (T.setTop g) s₂ ∧ s₂.status = .running ∧ Ended s₂ below o ∧ ∃ v L, o = .returned v ∧ Q v s₂.heap L ∧ FrameEnd s o s₂ L C S
theorem own_by {g g' : JFrame} (st : ∀ t, Steps p.tables e below (T'.setTop g') t → Steps p.tables e below (T.setTop g) t) (h : ORun p e below s Q C S T' g') : ORun p e below s Q C S T g := by
  obtain ⟨s₂, o, h1, h2⟩ := h
  exact ⟨s₂, o, st _ h1, h2⟩
theorem own_tr {g g' : JFrame} (st : Steps p.tables e below (T.setTop g) (T'.setTop g')) (h : ORun p e below s Q C S T' g') : ORun p e below s Q C S T g := own_by (fun _ k => st.trans k) h
theorem own_letI (x : Int32) {f : Int32 → JFrame} (h : ∀ v, v = x → ORun p e below s Q C S T (f v)) : ORun p e below s Q C S T (f x) := h x rfl
theorem own_letJ (x : Int64) {f : Int64 → JFrame} (h : ∀ v, v = x → ORun p e below s Q C S T (f v)) : ORun p e below s Q C S T (f x) := h x rfl
theorem own_retI (X : Stand p l e R s m args below meth c T locs cells slots) (hx : p.tables.exec = Jvm.exec) {pc : Nat} {Ls : Array Slot} {z : Int32} {rest : List Value} (hret : meth.sig.returnType = some .int) (hlk : meth.locks = false) (hd : decode c.code pc = .ok (.ireturn, 1)) (hc : cells ≤ C) (hs : slots ≤ S) (hQ : Q (some (.int z)) T.heap locs) :
    ORun p e below s Q C S T (mkF m pc Ls (.int z :: rest)) := by
  obtain ⟨fs, hr, hrun, hended, hW, hsame⟩ := X.leave (v := some (.int z)) (fun h => by rw [hret] at h; cases h) hlk
  exact ⟨_, _, retI X hx hret hd hr, hrun, hended, _, _, rfl, hQ, ⟨_, rfl⟩, hW, hsame.mono hc hs⟩
theorem own_retN (X : Stand p l e R s m args below meth c T locs cells slots) (hx : p.tables.exec = Jvm.exec) {pc : Nat} {Ls : Array Slot} {z : Int32} {t : FieldType} {rest : List Value} (hret : meth.sig.returnType = some t) (ht : t = .boolean ∨ t = .byte ∨ t = .char ∨ t = .short) (hlk : meth.locks = false) (hd : decode c.code pc = .ok (.ireturn, 1)) (hc : cells ≤ C) (hs : slots ≤ S) (hQ : Q (some (.int (nar t z))) T.heap locs) :
    ORun p e below s Q C S T (mkF m pc Ls (.int z :: rest)) := by
  obtain ⟨fs, hr, hrun, hended, hW, hsame⟩ := X.leave (v := some (.int (nar t z))) (fun h => by rw [hret] at h; cases h) hlk
  exact ⟨_, _, retN X hx hret ht hd hr, hrun, hended, _, _, rfl, hQ, ⟨_, rfl⟩, hW, hsame.mono hc hs⟩
theorem own_retJ (X : Stand p l e R s m args below meth c T locs cells slots) (hx : p.tables.exec = Jvm.exec) {pc : Nat} {Ls : Array Slot} {z : Int64} (hret : meth.sig.returnType = some .long) (hlk : meth.locks = false) (hd : decode c.code pc = .ok (.lreturn, 1)) (hc : cells ≤ C) (hs : slots ≤ S) (hQ : Q (some (.long z)) T.heap locs) :
    ORun p e below s Q C S T (mkF m pc Ls [.long z]) := by
  obtain ⟨fs, hr, hrun, hended, hW, hsame⟩ := X.leave (v := some (.long z)) (fun h => by rw [hret] at h; cases h) hlk
  exact ⟨_, _, X.lreturnOut hx hret hd hr, hrun, hended, _, _, rfl, hQ, ⟨_, rfl⟩, hW, hsame.mono hc hs⟩
theorem own_retA (X : Stand p l e R s m args below meth c T locs cells slots) (hx : p.tables.exec = Jvm.exec) {pc : Nat} {Ls : Array Slot} {z : Value} {t : FieldType} {rest : List Value} (hret : meth.sig.returnType = some t) (ht : t.isReference = true) (hz : z.isRef = true) (hn : narrow t z = z) (hlk : meth.locks = false) (hd : decode c.code pc = .ok (.areturn, 1)) (hc : cells ≤ C) (hs : slots ≤ S) (hQ : Q (some z) T.heap locs) :
    ORun p e below s Q C S T (mkF m pc Ls (z :: rest)) := by
  obtain ⟨fs, hr, hrun, hended, hW, hsame⟩ := X.leave (v := some z) (fun h => by rw [hret] at h; cases h) hlk
  exact ⟨_, _, retOut X hx hret hn (Or.inr (Or.inr (Or.inr (Or.inr ⟨rfl, ht, hz⟩)))) hd hr, hrun, hended, _, _, rfl, hQ, ⟨_, rfl⟩, hW, hsame.mono hc hs⟩
theorem own_retV (X : Stand p l e R s m args below meth c T locs cells slots) (hx : p.tables.exec = Jvm.exec) {pc : Nat} {Ls : Array Slot} (hret : meth.sig.returnType = none) (hlk : meth.locks = false) (hd : decode c.code pc = .ok (.return_, 1)) (hc : cells ≤ C) (hs : slots ≤ S) (hQ : Q none T.heap locs) :
    ORun p e below s Q C S T (mkF m pc Ls []) := by
  obtain ⟨fs, hr, hrun, hended, hW, hsame⟩ := X.leave (v := none) (fun _ => rfl) hlk
  exact ⟨_, _, X.returnOut hx hret hd hr, hrun, hended, _, _, rfl, hQ, ⟨_, rfl⟩, hW, hsame.mono hc hs⟩
/-- a body's contract: called with as at the heap h (tables as at Z) it returns, and what it leaves is as Q says -/
abbrev OMet (l : Launch) (y : MethodName) (bytes : ByteArray) (maxL : Nat) (ret : Option FieldType) (ws : List Jvm.Cond) (rm : Room) (as' : Array Value) (Z : State) (h : Heap) (Q : Option Value → Heap → List Loc → Prop) : Prop :=
  MetFree l y (head1 (Jvm.Cond.code y bytes maxL ret :: ws) rm) (fun a U => a = as' ∧ Z.Warmed39 U.vm ∧ U.heap = h) (fun _ _ _ _ _ => True) (fun _ U o U' => ∃ v L, o = .returned v ∧ Q v U'.heap L ∧ FrameEnd U o U' L rm.cells rm.slots)
theorem own_met {y : MethodName} {bytes : ByteArray} {maxL : Nat} {ret : Option FieldType} {ws : List Jvm.Cond} {rm : Room} {as' : Array Value} {Z : State} {h : Heap} {Q : Option Value → Heap → List Loc → Prop} (hpn : plainFor y = true)
    (body : ∀ p e s m below meth c s₁, Stand p l e rm s m as' below meth c s₁ [] 0 0 → p.tables.exec = Jvm.exec → c.code = bytes → c.maxLocals = maxL → s.vm.findClass y.cls = some m.cls → meth.name = y.name → meth.sig.returnType = ret → meth.locks = false → Z.Warmed39 s.vm → s₁.heap = h →
      ORun p e below s Q rm.cells rm.slots s₁ (entryFrame m as' maxL)) : OMet l y bytes maxL ret ws rm as' Z h Q := by
  refine MetFree.of_bodySF hpn hisR ?_
  intro p e s m args below meth c s₁ Bd hml0 hP hK
  obtain ⟨rfl, hZ, hh⟩ := hP
  exact body p e s m below meth c s₁ (Stand.of_body Bd) Bd.exec Bd.bytes hml0 (findClass_of_methodNamed Bd.named) (name_of_methodNamed Bd.named Bd.method).1 Bd.returns Bd.notSynchronized hZ (by rw [← hh, Bd.state]; rfl)
section Calls
variable {Z : State} {a0 : Array Value} {h : Heap} {own : String} {index : Nat} {y z : MethodName} {bytes : ByteArray} {maxL : Nat} {ret : Option FieldType} {rm : Room} {as' : Array Value} {Qc : Option Value → Heap → List Loc → Prop} {W pc : Nat} {Ls : Array Slot} {st argsL rest : List Value}
theorem own_callS (X : Stand p l e R s m args below meth c T locs cells slots) (hx : p.tables.exec = Jvm.exec) (hZ : Z.Warmed39 s.vm) (hown : s.vm.findClass own = some m.cls) (w1 : (Jvm.Cond.methodLink own index y).before a0 Z = true) (w2 : (Jvm.Cond.static y).before a0 Z = true) (w3 : (Jvm.Cond.initialized y.cls).before a0 Z = true) (w4 : (Jvm.Cond.code y bytes maxL ret).before a0 Z = true)
    (hy : y.cls ≠ "java/lang/invoke/MethodHandle" ∧ y.cls ≠ "java/lang/invoke/VarHandle") (M : OMet l y bytes maxL ret [] rm as' Z h Qc) (eT : T.heap = h) (hf : rm.frames + 1 ≤ R.frames) (hl : W + (maxL + 11) + rm.locals ≤ R.locals) (hc : cells + rm.cells ≤ R.cells) (hs : slots + rm.slots ≤ R.slots)
    (hsz : Ls.size = c.maxLocals) (hlen : ∀ sig, parseMethodDescriptor y.desc = some sig → argsL.length = sig.parameters.length) (hst : st = argsL.reverse ++ rest) (has : argsL.toArray = as') (hW : 2 * 0 + (rest.map fun v => v.category).sum ≤ W) (hd : decode c.code pc = .ok (.invokestatic index, 3))
    (K : ∀ T' L v, Stand p l e R s m args below meth c T' (locs ++ L) (cells + rm.cells) (slots + rm.slots) → Qc v T'.heap L → ORun p e below s Q C S T' (mkF m (pc + 3) Ls (v.toList ++ rest))) : ORun p e below s Q C S T (mkF m pc Ls st) := by
  obtain ⟨v, _, ⟨T', L', k', n'⟩, -, X', ⟨Lc, hQ, e1, e2, e3⟩, stp⟩ := Jvm.LawKit.callS X hx (y := y) hown (mvT hZ w1) (mvT hZ w2) (mvT hZ w3) (mvT hZ w4) hy (backOf (W := W) M hZ w4 w3 hf hl) (g := mkF m pc Ls st) rfl hsz (argsL := argsL) (rest := rest) hlen hst hW hd (fun _ _ => ⟨has, eT, hc, hs⟩)
  dsimp only [Pt.U, Pt.locs, Pt.cells, Pt.slots] at X' e1 e2 e3 stp hQ
  subst e1 e2 e3
  exact own_by stp (K T' Lc v X' hQ)
theorem own_callC (X : Stand p l e R s m args below meth c T locs cells slots) (hx : p.tables.exec = Jvm.exec) (hZ : Z.Warmed39 s.vm) (hown : s.vm.findClass own = some m.cls) (hn : y.name = "<init>") (w1 : (Jvm.Cond.methodLink own index y).before a0 Z = true) (w2 : (Jvm.Cond.instanceMethod y).before a0 Z = true) (w3 : (Jvm.Cond.initialized y.cls).before a0 Z = true) (w4 : (Jvm.Cond.code y bytes maxL none).before a0 Z = true)
    (hy : y.cls ≠ "java/lang/invoke/MethodHandle" ∧ y.cls ≠ "java/lang/invoke/VarHandle") (M : OMet l y bytes maxL none [] rm as' Z h Qc) (eT : T.heap = h) (hf : rm.frames + 1 ≤ R.frames) (hl : W + (maxL + 11) + rm.locals ≤ R.locals) (hc : cells + rm.cells ≤ R.cells) (hs : slots + rm.slots ≤ R.slots)
    {b : Addr} (hsz : Ls.size = c.maxLocals) (hlen : ∀ sig, parseMethodDescriptor y.desc = some sig → argsL.length = sig.parameters.length) (hst : st = argsL.reverse ++ .ref b :: rest) (has : (.ref b :: argsL).toArray = as') (hW : 2 * 0 + (rest.map fun v => v.category).sum ≤ W) (hd : decode c.code pc = .ok (.invokespecial index, 3))
    (K : ∀ T' L v, Stand p l e R s m args below meth c T' (locs ++ L) (cells + rm.cells) (slots + rm.slots) → Qc v T'.heap L → ORun p e below s Q C S T' (mkF m (pc + 3) Ls (v.toList ++ rest))) : ORun p e below s Q C S T (mkF m pc Ls st) := by
  obtain ⟨v, _, ⟨T', L', k', n'⟩, -, X', ⟨Lc, hQ, e1, e2, e3⟩, stp⟩ := X.specialBack hx (y := y) hn hown (mvT hZ w1) (mvT hZ w2) (mvT hZ w4) hy (backOf (W := W) M hZ w4 w3 hf hl) (g := mkF m pc Ls st) rfl hsz (Steps.refl _) (a := b) (argsL := argsL) (rest := rest) hlen hst hW hd (fun _ _ => ⟨has, eT, hc, hs⟩)
  dsimp only [Pt.U, Pt.locs, Pt.cells, Pt.slots] at X' e1 e2 e3 stp hQ
  subst e1 e2 e3
  exact own_tr stp (K T' Lc v X' hQ)
theorem own_callV (X : Stand p l e R s m args below meth c T locs cells slots) (hx : p.tables.exec = Jvm.exec) (hZ : Z.Warmed39 s.vm) (hown : s.vm.findClass own = some m.cls) {Cn : String} {b : Addr} (E : Exa Z h b Cn) (w1 : (Jvm.Cond.methodLink own index y).before a0 Z = true) (wd : (Jvm.Cond.declares y).before a0 Z = true) (nf : NotFace s y) (ws : (Jvm.Cond.selects Cn y z).before a0 Z = true) (w2 : (Jvm.Cond.instanceMethod z).before a0 Z = true) (w3 : (Jvm.Cond.initialized z.cls).before a0 Z = true) (w4 : (Jvm.Cond.code z bytes maxL ret).before a0 Z = true)
    (hy : y.cls ≠ "java/lang/invoke/MethodHandle" ∧ y.cls ≠ "java/lang/invoke/VarHandle") (M : OMet l z bytes maxL ret [] rm as' Z h Qc) (eT : T.heap = h) (hf : rm.frames + 1 ≤ R.frames) (hl : W + (maxL + 11) + rm.locals ≤ R.locals) (hc : cells + rm.cells ≤ R.cells) (hs : slots + rm.slots ≤ R.slots)
    (hsz : Ls.size = c.maxLocals) (hlen : ∀ sig, parseMethodDescriptor y.desc = some sig → argsL.length = sig.parameters.length) (hst : st = argsL.reverse ++ .ref b :: rest) (has : (.ref b :: argsL).toArray = as') (hW : 2 * 0 + (rest.map fun v => v.category).sum ≤ W) (hd : decode c.code pc = .ok (.invokevirtual index, 3))
    (K : ∀ T' L v, Stand p l e R s m args below meth c T' (locs ++ L) (cells + rm.cells) (slots + rm.slots) → Qc v T'.heap L → ORun p e below s Q C S T' (mkF m (pc + 3) Ls (v.toList ++ rest))) : ORun p e below s Q C S T (mkF m pc Ls st) := by
  obtain ⟨cq, kq, qa, qb, qc⟩ := isOf hZ eT E
  obtain ⟨v, _, ⟨T', L', k', n'⟩, -, X', ⟨Lc, hQ, e1, e2, e3⟩, stp⟩ := X.virtualBack hx (y := y) (z := z) hown (mvT hZ w1) (mvT hZ wd) nf (mvT hZ ws) (mvT hZ w2) hy (backOf (W := W) M hZ w4 w3 hf hl) qa qc (g := mkF m pc Ls st) rfl hsz (Steps.refl _) (argsL := argsL) (rest := rest) hlen hst hW hd (fun _ _ => ⟨has, eT, hc, hs⟩)
  dsimp only [Pt.U, Pt.locs, Pt.cells, Pt.slots] at X' e1 e2 e3 stp hQ
  subst e1 e2 e3
  exact own_tr stp (K T' Lc v X' hQ)
end Calls
end OwnRun
theorem own_lt {x y : Int32} {a b : Int} (h : x < y) (ha : x.toInt = a) (hb : y.toInt = b) : a < b := by subst ha hb; exact Int32.lt_iff_toInt_lt.mp h
theorem own_nlt {x y : Int32} {a b : Int} (h : ¬ x < y) (ha : x.toInt = a) (hb : y.toInt = b) : b ≤ a := by subst ha hb; exact Int.not_lt.mp fun q => h (Int32.lt_iff_toInt_lt.mpr q)
theorem own_eq {x y : Int32} {a b : Int} (h : x = y) (ha : x.toInt = a) (hb : y.toInt = b) : a = b := by subst ha hb h; rfl
theorem own_ne {x y : Int32} {a b : Int} (h : ¬ x = y) (ha : x.toInt = a) (hb : y.toInt = b) : a ≠ b := by subst ha hb; exact fun q => h (Int32.toInt_inj.mp q)
theorem own_ltL {x y : Int64} {a b : Int} (h : x < y) (ha : x.toInt = a) (hb : y.toInt = b) : a < b := by subst ha hb; exact Int64.lt_iff_toInt_lt.mp h
theorem own_nltL {x y : Int64} {a b : Int} (h : ¬ x < y) (ha : x.toInt = a) (hb : y.toInt = b) : b ≤ a := by subst ha hb; exact Int.not_lt.mp fun q => h (Int64.lt_iff_toInt_lt.mpr q)
theorem own_eqL {x y : Int64} {a b : Int} (h : x = y) (ha : x.toInt = a) (hb : y.toInt = b) : a = b := by subst ha hb h; rfl
theorem own_neL {x y : Int64} {a b : Int} (h : ¬ x = y) (ha : x.toInt = a) (hb : y.toInt = b) : a ≠ b := by subst ha hb; exact fun q => h (Int64.toInt_inj.mp q)
theorem own_lc {cd : ClassFile.Cond} {x y : Int64} {b : Bool} (h : if_icmp.holds cd (lcmpW x y) 0 = b) : ifCond.holds cd (lcmpW x y) = b := (if0 _ _).trans h
theorem own_lclt {x y : Int64} (h : x < y) : ifCond.holds .lt (lcmpW x y) = true ∧ ifCond.holds .ge (lcmpW x y) = false := ⟨own_lc (tlt ((lw_lt x y).mpr h)).1, own_lc (tlt ((lw_lt x y).mpr h)).2.1⟩
theorem own_lcnlt {x y : Int64} (h : ¬ x < y) : ifCond.holds .lt (lcmpW x y) = false ∧ ifCond.holds .ge (lcmpW x y) = true := have q : ¬ lcmpW x y < 0 := fun z => h ((lw_lt x y).mp z); ⟨own_lc (flt q).1, own_lc (flt q).2.1⟩
theorem own_lcgt {x y : Int64} (h : y < x) : ifCond.holds .gt (lcmpW x y) = true ∧ ifCond.holds .le (lcmpW x y) = false := ⟨own_lc (tlt ((lw_gt x y).mpr h)).2.2.1, own_lc (tlt ((lw_gt x y).mpr h)).2.2.2⟩
theorem own_lcngt {x y : Int64} (h : ¬ y < x) : ifCond.holds .gt (lcmpW x y) = false ∧ ifCond.holds .le (lcmpW x y) = true := have q : ¬ 0 < lcmpW x y := fun z => h ((lw_gt x y).mp z); ⟨own_lc (flt q).2.2.1, own_lc (flt q).2.2.2⟩
theorem own_lceq {x y : Int64} (h : x = y) : ifCond.holds .eq (lcmpW x y) = true ∧ ifCond.holds .ne (lcmpW x y) = false := ⟨own_lc (teq ((lw_eq x y).mpr h)).1, own_lc (teq ((lw_eq x y).mpr h)).2⟩
theorem own_lcne {x y : Int64} (h : ¬ x = y) : ifCond.holds .eq (lcmpW x y) = false ∧ ifCond.holds .ne (lcmpW x y) = true := have q : ¬ lcmpW x y = 0 := fun z => h ((lw_eq x y).mp z); ⟨own_lc (feq q).1, own_lc (feq q).2⟩
theorem own_kext {h0 h : Heap} (K : Keep h0 h []) : Ext h0 h := ⟨K.1, fun a c q => K.2.1 a c q nin0⟩
theorem pd_0 : parseMethodDescriptor "(J)V" = some ⟨[.long], none⟩ := by decide +kernel
theorem pd_1 : parseMethodDescriptor "(JJ)Z" = some ⟨[.long, .long], some .boolean⟩ := by decide +kernel
theorem d1_0 : decode prog_21_method_1_code 0 = .ok (.aload_n 0, 1) := by decide +kernel
theorem d1_1 : decode prog_21_method_1_code 1 = .ok (.invokespecial 1, 3) := by decide +kernel
theorem d1_4 : decode prog_21_method_1_code 4 = .ok (.aload_n 0, 1) := by decide +kernel
theorem d1_5 : decode prog_21_method_1_code 5 = .ok (.lload_n 1, 1) := by decide +kernel
theorem d1_6 : decode prog_21_method_1_code 6 = .ok (.putfield 7, 3) := by decide +kernel
theorem d1_9 : decode prog_21_method_1_code 9 = .ok (.return_, 1) := by decide +kernel
theorem pn_rm1 : plainName "com/example/diligent_bench/diligentbench/StreamBudget" = true := by first | (simp [plainName, overriddenIn]; done) | decide +kernel
theorem ef_rm1 (m : MethodId) (x0 : Addr) (x1 : Int64) : entryFrame m #[(.ref x0), (.long x1)] 3 = mkF m 0 #[.val (.ref x0), .val (.long x1), .second] [] := by first | (simp [entryFrame, mkF, argsToLocals, Value.category]; done) | rfl
set_option maxRecDepth 65536 in
set_option maxHeartbeats 40000000 in
theorem rm1 (l : Launch) (Z : State) (a0 : Array Value) (hw : ∀ d ∈ tables_1, d.before a0 Z = true) (ws : List Jvm.Cond) (h0 : Heap) (n0 : Nat) (Z0 : n0 ≤ h0.size) (a1 : Addr) (q2 : Int64) (E1 : Exa Z h0 a1 "com/example/diligent_bench/diligentbench/StreamBudget") (Fm : Fld Z h0 a1 "com/example/diligent_bench/diligentbench/StreamBudget" "maxBytes" "J" (.long (0 : Int64))) (Fb : Fld Z h0 a1 "com/example/diligent_bench/diligentbench/StreamBudget" "bytes" "J" (.long (0 : Int64))) (g1 : n0 ≤ a1) :
    OMet l (⟨"com/example/diligent_bench/diligentbench/StreamBudget", "<init>", "(J)V"⟩ : MethodName) prog_21_method_1_code 3 none ws ({ frames := 1, cells := 0, slots := 0, locals := 12 } : Room) #[(.ref a1), (.long q2)] Z h0 (fun v h L => v = none ∧ Fr n0 L ∧ Keep h0 h [a1] ∧ Exa Z h a1 "com/example/diligent_bench/diligentbench/StreamBudget" ∧ Fld Z h a1 "com/example/diligent_bench/diligentbench/StreamBudget" "maxBytes" "J" (.long q2) ∧ Fld Z h a1 "com/example/diligent_bench/diligentbench/StreamBudget" "bytes" "J" (.long (0 : Int64))) := by
  refine own_met (plainFor_of_name pn_rm1) ?_
  intro p e s m below meth c s₁ X0 hx hby hml hown hnm hret hlk hZ e0
  rw [ef_rm1]
  have N0 := Fr.nil n0
  have rg_q2 := rng64 q2
  show ORun p e below s _ _ _ s₁ (mkF m 0 #[.val (.ref a1), .val (.long q2), .second] [])
  refine own_by (fun t k => XS.aloadN X0.here hx rfl (hb hby d1_0) rfl rfl k) ?_
  show ORun p e below s _ _ _ s₁ (mkF m 1 #[.val (.ref a1), .val (.long q2), .second] [(.ref a1)])
  obtain ⟨T1, X1, e1, st1⟩ := initO X0 hx hZ hown (hw _ (List.mem_of_getElem? (i := 8) rfl)) (hw _ (List.mem_of_getElem? (i := 9) rfl)) (hw _ (List.mem_of_getElem? (i := 10) rfl)) e0 (g := (mkF m 1 #[.val (.ref a1), .val (.long q2), .second] [(.ref a1)])) rfl (by rw [hml]; rfl) rfl (hb hby d1_1) (by decide) (W := 0) (by show 2 * 0 + _ ≤ _; exact Nat.le_of_eq rfl) (by decide)
  refine own_by st1 ?_
  show ORun p e below s _ _ _ T1 (mkF m 4 #[.val (.ref a1), .val (.long q2), .second] [])
  refine own_by (fun t k => XS.aloadN X1.here hx rfl (hb hby d1_4) rfl rfl k) ?_
  show ORun p e below s _ _ _ T1 (mkF m 5 #[.val (.ref a1), .val (.long q2), .second] [(.ref a1)])
  refine own_by (fun t k => XS.lloadN X1.here hx rfl (hb hby d1_5) rfl k) ?_
  show ORun p e below s _ _ _ T1 (mkF m 6 #[.val (.ref a1), .val (.long q2), .second] [(.long q2), (.ref a1)])
  obtain ⟨T2, h2, X2, e2, W2, st2⟩ := putF X1 hx hZ hown (host := "") (Or.inl (hw _ (List.mem_of_getElem? (i := 11) rfl))) Via.refl e1 Fm E1 (Or.inr ⟨(hw _ (List.mem_of_getElem? (i := 12) rfl)), rfl, hnm⟩) (hw _ (List.mem_of_getElem? (i := 3) rfl)) (ty := .long) (by decide) rfl rfl (g := (mkF m 6 #[.val (.ref a1), .val (.long q2), .second] [(.long q2), (.ref a1)])) rfl rfl (hb hby d1_6)
  have Fw2 := Fld.same W2 Fm
  have N2 := Fr.snoc X2 N0 g1
  refine own_by st2 ?_
  show ORun p e below s _ _ _ T2 (mkF m 9 #[.val (.ref a1), .val (.long q2), .second] [])
  refine own_retV X2 hx hret hlk (hb hby d1_9) (by decide) (by decide) ?_
  rw [e2]
  exact ⟨rfl, N2, ((Keep.refl h0 [a1]).wr W2 (Or.inl (List.mem_of_getElem? (i := 0) rfl))), (E1.wr W2), Fw2, (Fb.other W2 (Or.inr (slot_ne (Or.inl (hw _ (List.mem_of_getElem? (i := 19) rfl))) (Or.inr (hw _ (List.mem_of_getElem? (i := 12) rfl))) (by decide) (t := .long) (t' := .long) (by decide) (by decide))))⟩
theorem d3_0 : decode prog_21_method_2_code 0 = .ok (.lload_n 3, 1) := by decide +kernel
theorem d3_1 : decode prog_21_method_2_code 1 = .ok (.lload_n 1, 1) := by decide +kernel
theorem d3_2 : decode prog_21_method_2_code 2 = .ok (.lcmp, 1) := by decide +kernel
theorem d3_3 : decode prog_21_method_2_code 3 = .ok (.ifCond .le 19, 3) := by decide +kernel
theorem d3_6 : decode prog_21_method_2_code 6 = .ok (.aload_n 0, 1) := by decide +kernel
theorem d3_7 : decode prog_21_method_2_code 7 = .ok (.getfield 13, 3) := by decide +kernel
theorem d3_10 : decode prog_21_method_2_code 10 = .ok (.lload_n 1, 1) := by decide +kernel
theorem d3_11 : decode prog_21_method_2_code 11 = .ok (.lsub, 1) := by decide +kernel
theorem d3_12 : decode prog_21_method_2_code 12 = .ok (.lload_n 3, 1) := by decide +kernel
theorem d3_13 : decode prog_21_method_2_code 13 = .ok (.ladd, 1) := by decide +kernel
theorem d3_14 : decode prog_21_method_2_code 14 = .ok (.aload_n 0, 1) := by decide +kernel
theorem d3_15 : decode prog_21_method_2_code 15 = .ok (.getfield 7, 3) := by decide +kernel
theorem d3_18 : decode prog_21_method_2_code 18 = .ok (.lcmp, 1) := by decide +kernel
theorem d3_19 : decode prog_21_method_2_code 19 = .ok (.ifCond .gt 7, 3) := by decide +kernel
theorem d3_22 : decode prog_21_method_2_code 22 = .ok (.iconst 1, 1) := by decide +kernel
theorem d3_23 : decode prog_21_method_2_code 23 = .ok (.goto 4, 3) := by decide +kernel
theorem d3_26 : decode prog_21_method_2_code 26 = .ok (.iconst 0, 1) := by decide +kernel
theorem d3_27 : decode prog_21_method_2_code 27 = .ok (.istore 5, 2) := by decide +kernel
theorem d3_29 : decode prog_21_method_2_code 29 = .ok (.iload 5, 2) := by decide +kernel
theorem d3_31 : decode prog_21_method_2_code 31 = .ok (.ifCond .eq 15, 3) := by decide +kernel
theorem d3_34 : decode prog_21_method_2_code 34 = .ok (.aload_n 0, 1) := by decide +kernel
theorem d3_35 : decode prog_21_method_2_code 35 = .ok (.dup, 1) := by decide +kernel
theorem d3_36 : decode prog_21_method_2_code 36 = .ok (.getfield 13, 3) := by decide +kernel
theorem d3_39 : decode prog_21_method_2_code 39 = .ok (.lload_n 3, 1) := by decide +kernel
theorem d3_40 : decode prog_21_method_2_code 40 = .ok (.lload_n 1, 1) := by decide +kernel
theorem d3_41 : decode prog_21_method_2_code 41 = .ok (.lsub, 1) := by decide +kernel
theorem d3_42 : decode prog_21_method_2_code 42 = .ok (.ladd, 1) := by decide +kernel
theorem d3_43 : decode prog_21_method_2_code 43 = .ok (.putfield 13, 3) := by decide +kernel
theorem d3_46 : decode prog_21_method_2_code 46 = .ok (.iload 5, 2) := by decide +kernel
theorem d3_48 : decode prog_21_method_2_code 48 = .ok (.ireturn, 1) := by decide +kernel
theorem pn_rm3 : plainName "com/example/diligent_bench/diligentbench/StreamBudget" = true := by first | (simp [plainName, overriddenIn]; done) | decide +kernel
theorem ef_rm3 (m : MethodId) (x0 : Addr) (x1 : Int64) (x2 : Int64) : entryFrame m #[(.ref x0), (.long x1), (.long x2)] 6 = mkF m 0 #[.val (.ref x0), .val (.long x1), .second, .val (.long x2), .second, .unset] [] := by first | (simp [entryFrame, mkF, argsToLocals, Value.category]; done) | rfl
set_option maxRecDepth 65536 in
set_option maxHeartbeats 40000000 in
theorem rm3 (l : Launch) (Z : State) (a0 : Array Value) (hw : ∀ d ∈ tables_1, d.before a0 Z = true) (ws : List Jvm.Cond) (h0 : Heap) (n0 : Nat) (Z0 : n0 ≤ h0.size) (a1 : Addr) (q2 q3 B M : Int64) (E1 : Exa Z h0 a1 "com/example/diligent_bench/diligentbench/StreamBudget") (Fm : Fld Z h0 a1 "com/example/diligent_bench/diligentbench/StreamBudget" "maxBytes" "J" (.long M)) (Fb : Fld Z h0 a1 "com/example/diligent_bench/diligentbench/StreamBudget" "bytes" "J" (.long B)) (g1 : n0 ≤ a1) (b1 : 0 ≤ q2.toInt ∧ q2.toInt ≤ B.toInt ∧ 0 ≤ q3.toInt ∧ B.toInt - q2.toInt + q3.toInt < 9223372036854775808) :
    OMet l (⟨"com/example/diligent_bench/diligentbench/StreamBudget", "resize", "(JJ)Z"⟩ : MethodName) prog_21_method_2_code 6 (some .boolean) ws ({ frames := 0, cells := 0, slots := 0, locals := 0 } : Room) #[(.ref a1), (.long q2), (.long q3)] Z h0 (fun v h L => ∃ (r : Int32) (B' : Int64), v = some (.int r) ∧ Fr n0 L ∧ Keep h0 h [a1] ∧ Exa Z h a1 "com/example/diligent_bench/diligentbench/StreamBudget" ∧ Fld Z h a1 "com/example/diligent_bench/diligentbench/StreamBudget" "maxBytes" "J" (.long M) ∧ Fld Z h a1 "com/example/diligent_bench/diligentbench/StreamBudget" "bytes" "J" (.long B') ∧ ((r.toInt = 1 ∧ (q3.toInt ≤ q2.toInt ∨ B.toInt - q2.toInt + q3.toInt ≤ M.toInt) ∧ B'.toInt = B.toInt - q2.toInt + q3.toInt) ∨ (r.toInt = 0 ∧ ¬ (q3.toInt ≤ q2.toInt ∨ B.toInt - q2.toInt + q3.toInt ≤ M.toInt) ∧ B'.toInt = B.toInt))) := by
  refine own_met (plainFor_of_name pn_rm3) ?_
  intro p e s m below meth c s₁ X0 hx hby hml hown hnm hret hlk hZ e0
  rw [ef_rm3]
  have N0 := Fr.nil n0
  have rg_q2 := rng64 q2
  have rg_q3 := rng64 q3
  show ORun p e below s _ _ _ s₁ (mkF m 0 #[.val (.ref a1), .val (.long q2), .second, .val (.long q3), .second, .unset] [])
  refine own_by (fun t k => XS.lloadN X0.here hx rfl (hb hby d3_0) rfl k) ?_
  show ORun p e below s _ _ _ s₁ (mkF m 1 #[.val (.ref a1), .val (.long q2), .second, .val (.long q3), .second, .unset] [(.long q3)])
  refine own_by (fun t k => XS.lloadN X0.here hx rfl (hb hby d3_1) rfl k) ?_
  show ORun p e below s _ _ _ s₁ (mkF m 2 #[.val (.ref a1), .val (.long q2), .second, .val (.long q3), .second, .unset] [(.long q2), (.long q3)])
  refine own_by (fun t k => XS.lcmp X0.here hx rfl (hb hby d3_2) rfl k) ?_
  show ORun p e below s _ _ _ s₁ (mkF m 3 #[.val (.ref a1), .val (.long q2), .second, .val (.long q3), .second, .unset] [(.int (lcmpW q3 q2))])
  by_cases hc1 : q2 < q3
  · have t1 := own_ltL hc1 (a := q2.toInt) (b := q3.toInt) rfl rfl
    refine own_by (fun t k => XS.ifNo X0.here hx rfl (hb hby d3_3) rfl (own_lcgt hc1).2 k) ?_
    show ORun p e below s _ _ _ s₁ (mkF m 6 #[.val (.ref a1), .val (.long q2), .second, .val (.long q3), .second, .unset] [])
    refine own_by (fun t k => XS.aloadN X0.here hx rfl (hb hby d3_6) rfl rfl k) ?_
    show ORun p e below s _ _ _ s₁ (mkF m 7 #[.val (.ref a1), .val (.long q2), .second, .val (.long q3), .second, .unset] [(.ref a1)])
    obtain ⟨T2, X2, e2, st2⟩ := getF X0 hx hZ hown (host := "") (Or.inl (hw _ (List.mem_of_getElem? (i := 18) rfl))) Via.refl e0 Fb (g := (mkF m 7 #[.val (.ref a1), .val (.long q2), .second, .val (.long q3), .second, .unset] [(.ref a1)])) rfl rfl (hb hby d3_7)
    refine own_by st2 ?_
    show ORun p e below s _ _ _ T2 (mkF m 10 #[.val (.ref a1), .val (.long q2), .second, .val (.long q3), .second, .unset] [(.long B)])
    refine own_by (fun t k => XS.lloadN X2.here hx rfl (hb hby d3_10) rfl k) ?_
    show ORun p e below s _ _ _ T2 (mkF m 11 #[.val (.ref a1), .val (.long q2), .second, .val (.long q3), .second, .unset] [(.long q2), (.long B)])
    refine own_by (fun t k => XS.lsub X2.here hx rfl (hb hby d3_11) rfl k) (own_letJ (f := (fun z => (mkF m 12 #[.val (.ref a1), .val (.long q2), .second, .val (.long q3), .second, .unset] [(.long z)]))) (B - q2) fun v3 hv3 => ?_)
    show ORun p e below s _ _ _ T2 (mkF m 12 #[.val (.ref a1), .val (.long q2), .second, .val (.long q3), .second, .unset] [(.long v3)])
    have r3 := rng64 v3
    have a3 : v3.toInt = B.toInt - q2.toInt := by
      have q : (v3.toInt - (B.toInt - q2.toInt)) % 18446744073709551616 = 0 := by rw [hv3]; exact c_lsub B q2
      omega
    refine own_by (fun t k => XS.lloadN X2.here hx rfl (hb hby d3_12) rfl k) ?_
    show ORun p e below s _ _ _ T2 (mkF m 13 #[.val (.ref a1), .val (.long q2), .second, .val (.long q3), .second, .unset] [(.long q3), (.long v3)])
    refine own_by (fun t k => XS.ladd X2.here hx rfl (hb hby d3_13) rfl k) (own_letJ (f := (fun z => (mkF m 14 #[.val (.ref a1), .val (.long q2), .second, .val (.long q3), .second, .unset] [(.long z)]))) (v3 + q3) fun v4 hv4 => ?_)
    show ORun p e below s _ _ _ T2 (mkF m 14 #[.val (.ref a1), .val (.long q2), .second, .val (.long q3), .second, .unset] [(.long v4)])
    have r4 := rng64 v4
    have a4 : v4.toInt = v3.toInt + q3.toInt := by
      have q : (v4.toInt - (v3.toInt + q3.toInt)) % 18446744073709551616 = 0 := by rw [hv4]; exact c_ladd v3 q3
      omega
    refine own_by (fun t k => XS.aloadN X2.here hx rfl (hb hby d3_14) rfl rfl k) ?_
    show ORun p e below s _ _ _ T2 (mkF m 15 #[.val (.ref a1), .val (.long q2), .second, .val (.long q3), .second, .unset] [(.ref a1), (.long v4)])
    obtain ⟨T5, X5, e5, st5⟩ := getF X2 hx hZ hown (host := "") (Or.inl (hw _ (List.mem_of_getElem? (i := 11) rfl))) Via.refl e2 Fm (g := (mkF m 15 #[.val (.ref a1), .val (.long q2), .second, .val (.long q3), .second, .unset] [(.ref a1), (.long v4)])) rfl rfl (hb hby d3_15)
    refine own_by st5 ?_
    show ORun p e below s _ _ _ T5 (mkF m 18 #[.val (.ref a1), .val (.long q2), .second, .val (.long q3), .second, .unset] [(.long M), (.long v4)])
    refine own_by (fun t k => XS.lcmp X5.here hx rfl (hb hby d3_18) rfl k) ?_
    show ORun p e below s _ _ _ T5 (mkF m 19 #[.val (.ref a1), .val (.long q2), .second, .val (.long q3), .second, .unset] [(.int (lcmpW v4 M))])
    by_cases hc6 : M < v4
    · have t6 := own_ltL hc6 (a := M.toInt) (b := v4.toInt) rfl rfl
      refine own_by (fun t k => XS.ifYes X5.here hx rfl (pc0 := 19) (pc' := 26) rfl (hb hby d3_19) rfl (own_lcgt hc6).1 (by decide) (by decide) k) ?_
      show ORun p e below s _ _ _ T5 (mkF m 26 #[.val (.ref a1), .val (.long q2), .second, .val (.long q3), .second, .unset] [])
      refine own_by (fun t k => XS.iconst X5.here hx rfl (hb hby d3_26) k) ?_
      show ORun p e below s _ _ _ T5 (mkF m 27 #[.val (.ref a1), .val (.long q2), .second, .val (.long q3), .second, .unset] [(.int (0 : Int32))])
      refine own_by (fun t k => XS.istore X5.here hx rfl (hb hby d3_27) rfl (l' := #[.val (.ref a1), .val (.long q2), .second, .val (.long q3), .second, .val (.int (0 : Int32))]) rfl k) ?_
      show ORun p e below s _ _ _ T5 (mkF m 29 #[.val (.ref a1), .val (.long q2), .second, .val (.long q3), .second, .val (.int (0 : Int32))] [])
      refine own_by (fun t k => XS.iload X5.here hx rfl (hb hby d3_29) rfl k) ?_
      show ORun p e below s _ _ _ T5 (mkF m 31 #[.val (.ref a1), .val (.long q2), .second, .val (.long q3), .second, .val (.int (0 : Int32))] [(.int (0 : Int32))])
      refine own_by (fun t k => XS.ifYes X5.here hx rfl (pc0 := 31) (pc' := 46) rfl (hb hby d3_31) rfl ((if0 _ _).trans (teq (by decide)).1) (by decide) (by decide) k) ?_
      show ORun p e below s _ _ _ T5 (mkF m 46 #[.val (.ref a1), .val (.long q2), .second, .val (.long q3), .second, .val (.int (0 : Int32))] [])
      refine own_by (fun t k => XS.iload X5.here hx rfl (hb hby d3_46) rfl k) ?_
      show ORun p e below s _ _ _ T5 (mkF m 48 #[.val (.ref a1), .val (.long q2), .second, .val (.long q3), .second, .val (.int (0 : Int32))] [(.int (0 : Int32))])
      refine own_retN X5 hx (t := .boolean) hret (by simp) hlk (hb hby d3_48) (by decide) (by decide) ?_
      rw [e5]
      refine ⟨0, B, rfl, N0, (Keep.refl h0 [a1]), E1, Fm, Fb, Or.inr ⟨by decide, by omega, by omega⟩⟩
    · have t6 := own_nltL hc6 (a := M.toInt) (b := v4.toInt) rfl rfl
      refine own_by (fun t k => XS.ifNo X5.here hx rfl (hb hby d3_19) rfl (own_lcngt hc6).1 k) ?_
      show ORun p e below s _ _ _ T5 (mkF m 22 #[.val (.ref a1), .val (.long q2), .second, .val (.long q3), .second, .unset] [])
      refine own_by (fun t k => XS.iconst X5.here hx rfl (hb hby d3_22) k) ?_
      show ORun p e below s _ _ _ T5 (mkF m 23 #[.val (.ref a1), .val (.long q2), .second, .val (.long q3), .second, .unset] [(.int (1 : Int32))])
      refine own_by (fun t k => XS.goto X5.here hx rfl (pc0 := 23) (pc' := 27) rfl (hb hby d3_23) (by decide) (by decide) k) ?_
      show ORun p e below s _ _ _ T5 (mkF m 27 #[.val (.ref a1), .val (.long q2), .second, .val (.long q3), .second, .unset] [(.int (1 : Int32))])
      refine own_by (fun t k => XS.istore X5.here hx rfl (hb hby d3_27) rfl (l' := #[.val (.ref a1), .val (.long q2), .second, .val (.long q3), .second, .val (.int (1 : Int32))]) rfl k) ?_
      show ORun p e below s _ _ _ T5 (mkF m 29 #[.val (.ref a1), .val (.long q2), .second, .val (.long q3), .second, .val (.int (1 : Int32))] [])
      refine own_by (fun t k => XS.iload X5.here hx rfl (hb hby d3_29) rfl k) ?_
      show ORun p e below s _ _ _ T5 (mkF m 31 #[.val (.ref a1), .val (.long q2), .second, .val (.long q3), .second, .val (.int (1 : Int32))] [(.int (1 : Int32))])
      refine own_by (fun t k => XS.ifNo X5.here hx rfl (hb hby d3_31) rfl ((if0 _ _).trans (feq (by decide)).1) k) ?_
      show ORun p e below s _ _ _ T5 (mkF m 34 #[.val (.ref a1), .val (.long q2), .second, .val (.long q3), .second, .val (.int (1 : Int32))] [])
      refine own_by (fun t k => XS.aloadN X5.here hx rfl (hb hby d3_34) rfl rfl k) ?_
      show ORun p e below s _ _ _ T5 (mkF m 35 #[.val (.ref a1), .val (.long q2), .second, .val (.long q3), .second, .val (.int (1 : Int32))] [(.ref a1)])
      refine own_by (fun t k => XS.dup X5.here hx rfl (hb hby d3_35) rfl rfl k) ?_
      show ORun p e below s _ _ _ T5 (mkF m 36 #[.val (.ref a1), .val (.long q2), .second, .val (.long q3), .second, .val (.int (1 : Int32))] [(.ref a1), (.ref a1)])
      obtain ⟨T7, X7, e7, st7⟩ := getF X5 hx hZ hown (host := "") (Or.inl (hw _ (List.mem_of_getElem? (i := 18) rfl))) Via.refl e5 Fb (g := (mkF m 36 #[.val (.ref a1), .val (.long q2), .second, .val (.long q3), .second, .val (.int (1 : Int32))] [(.ref a1), (.ref a1)])) rfl rfl (hb hby d3_36)
      refine own_by st7 ?_
      show ORun p e below s _ _ _ T7 (mkF m 39 #[.val (.ref a1), .val (.long q2), .second, .val (.long q3), .second, .val (.int (1 : Int32))] [(.long B), (.ref a1)])
      refine own_by (fun t k => XS.lloadN X7.here hx rfl (hb hby d3_39) rfl k) ?_
      show ORun p e below s _ _ _ T7 (mkF m 40 #[.val (.ref a1), .val (.long q2), .second, .val (.long q3), .second, .val (.int (1 : Int32))] [(.long q3), (.long B), (.ref a1)])
      refine own_by (fun t k => XS.lloadN X7.here hx rfl (hb hby d3_40) rfl k) ?_
      show ORun p e below s _ _ _ T7 (mkF m 41 #[.val (.ref a1), .val (.long q2), .second, .val (.long q3), .second, .val (.int (1 : Int32))] [(.long q2), (.long q3), (.long B), (.ref a1)])
      refine own_by (fun t k => XS.lsub X7.here hx rfl (hb hby d3_41) rfl k) (own_letJ (f := (fun z => (mkF m 42 #[.val (.ref a1), .val (.long q2), .second, .val (.long q3), .second, .val (.int (1 : Int32))] [(.long z), (.long B), (.ref a1)]))) (q3 - q2) fun v8 hv8 => ?_)
      show ORun p e below s _ _ _ T7 (mkF m 42 #[.val (.ref a1), .val (.long q2), .second, .val (.long q3), .second, .val (.int (1 : Int32))] [(.long v8), (.long B), (.ref a1)])
      have r8 := rng64 v8
      have a8 : v8.toInt = q3.toInt - q2.toInt := by
        have q : (v8.toInt - (q3.toInt - q2.toInt)) % 18446744073709551616 = 0 := by rw [hv8]; exact c_lsub q3 q2
        omega
      refine own_by (fun t k => XS.ladd X7.here hx rfl (hb hby d3_42) rfl k) (own_letJ (f := (fun z => (mkF m 43 #[.val (.ref a1), .val (.long q2), .second, .val (.long q3), .second, .val (.int (1 : Int32))] [(.long z), (.ref a1)]))) (B + v8) fun v9 hv9 => ?_)
      show ORun p e below s _ _ _ T7 (mkF m 43 #[.val (.ref a1), .val (.long q2), .second, .val (.long q3), .second, .val (.int (1 : Int32))] [(.long v9), (.ref a1)])
      have r9 := rng64 v9
      have a9 : v9.toInt = B.toInt + v8.toInt := by
        have q : (v9.toInt - (B.toInt + v8.toInt)) % 18446744073709551616 = 0 := by rw [hv9]; exact c_ladd B v8
        omega
      obtain ⟨T10, h10, X10, e10, W10, st10⟩ := putF X7 hx hZ hown (host := "") (Or.inl (hw _ (List.mem_of_getElem? (i := 18) rfl))) Via.refl e7 Fb E1 (Or.inl (hw _ (List.mem_of_getElem? (i := 19) rfl))) (hw _ (List.mem_of_getElem? (i := 3) rfl)) (ty := .long) (by decide) rfl rfl (g := (mkF m 43 #[.val (.ref a1), .val (.long q2), .second, .val (.long q3), .second, .val (.int (1 : Int32))] [(.long v9), (.ref a1)])) rfl rfl (hb hby d3_43)
      have Fw10 := Fld.same W10 Fb
      have N10 := Fr.snoc X10 N0 g1
      refine own_by st10 ?_
      show ORun p e below s _ _ _ T10 (mkF m 46 #[.val (.ref a1), .val (.long q2), .second, .val (.long q3), .second, .val (.int (1 : Int32))] [])
      refine own_by (fun t k => XS.iload X10.here hx rfl (hb hby d3_46) rfl k) ?_
      show ORun p e below s _ _ _ T10 (mkF m 48 #[.val (.ref a1), .val (.long q2), .second, .val (.long q3), .second, .val (.int (1 : Int32))] [(.int (1 : Int32))])
      refine own_retN X10 hx (t := .boolean) hret (by simp) hlk (hb hby d3_48) (by decide) (by decide) ?_
      rw [e10]
      refine ⟨1, v9, rfl, N10, ((Keep.refl h0 [a1]).wr W10 (Or.inl (List.mem_of_getElem? (i := 0) rfl))), (E1.wr W10), (Fm.other W10 (Or.inr (slot_ne (Or.inr (hw _ (List.mem_of_getElem? (i := 12) rfl))) (Or.inl (hw _ (List.mem_of_getElem? (i := 19) rfl))) (by decide) (t := .long) (t' := .long) (by decide) (by decide)))), Fw10, Or.inl ⟨by decide, by omega, by omega⟩⟩
  · have t1 := own_nltL hc1 (a := q2.toInt) (b := q3.toInt) rfl rfl
    refine own_by (fun t k => XS.ifYes X0.here hx rfl (pc0 := 3) (pc' := 22) rfl (hb hby d3_3) rfl (own_lcngt hc1).2 (by decide) (by decide) k) ?_
    show ORun p e below s _ _ _ s₁ (mkF m 22 #[.val (.ref a1), .val (.long q2), .second, .val (.long q3), .second, .unset] [])
    refine own_by (fun t k => XS.iconst X0.here hx rfl (hb hby d3_22) k) ?_
    show ORun p e below s _ _ _ s₁ (mkF m 23 #[.val (.ref a1), .val (.long q2), .second, .val (.long q3), .second, .unset] [(.int (1 : Int32))])
    refine own_by (fun t k => XS.goto X0.here hx rfl (pc0 := 23) (pc' := 27) rfl (hb hby d3_23) (by decide) (by decide) k) ?_
    show ORun p e below s _ _ _ s₁ (mkF m 27 #[.val (.ref a1), .val (.long q2), .second, .val (.long q3), .second, .unset] [(.int (1 : Int32))])
    refine own_by (fun t k => XS.istore X0.here hx rfl (hb hby d3_27) rfl (l' := #[.val (.ref a1), .val (.long q2), .second, .val (.long q3), .second, .val (.int (1 : Int32))]) rfl k) ?_
    show ORun p e below s _ _ _ s₁ (mkF m 29 #[.val (.ref a1), .val (.long q2), .second, .val (.long q3), .second, .val (.int (1 : Int32))] [])
    refine own_by (fun t k => XS.iload X0.here hx rfl (hb hby d3_29) rfl k) ?_
    show ORun p e below s _ _ _ s₁ (mkF m 31 #[.val (.ref a1), .val (.long q2), .second, .val (.long q3), .second, .val (.int (1 : Int32))] [(.int (1 : Int32))])
    refine own_by (fun t k => XS.ifNo X0.here hx rfl (hb hby d3_31) rfl ((if0 _ _).trans (feq (by decide)).1) k) ?_
    show ORun p e below s _ _ _ s₁ (mkF m 34 #[.val (.ref a1), .val (.long q2), .second, .val (.long q3), .second, .val (.int (1 : Int32))] [])
    refine own_by (fun t k => XS.aloadN X0.here hx rfl (hb hby d3_34) rfl rfl k) ?_
    show ORun p e below s _ _ _ s₁ (mkF m 35 #[.val (.ref a1), .val (.long q2), .second, .val (.long q3), .second, .val (.int (1 : Int32))] [(.ref a1)])
    refine own_by (fun t k => XS.dup X0.here hx rfl (hb hby d3_35) rfl rfl k) ?_
    show ORun p e below s _ _ _ s₁ (mkF m 36 #[.val (.ref a1), .val (.long q2), .second, .val (.long q3), .second, .val (.int (1 : Int32))] [(.ref a1), (.ref a1)])
    obtain ⟨T11, X11, e11, st11⟩ := getF X0 hx hZ hown (host := "") (Or.inl (hw _ (List.mem_of_getElem? (i := 18) rfl))) Via.refl e0 Fb (g := (mkF m 36 #[.val (.ref a1), .val (.long q2), .second, .val (.long q3), .second, .val (.int (1 : Int32))] [(.ref a1), (.ref a1)])) rfl rfl (hb hby d3_36)
    refine own_by st11 ?_
    show ORun p e below s _ _ _ T11 (mkF m 39 #[.val (.ref a1), .val (.long q2), .second, .val (.long q3), .second, .val (.int (1 : Int32))] [(.long B), (.ref a1)])
    refine own_by (fun t k => XS.lloadN X11.here hx rfl (hb hby d3_39) rfl k) ?_
    show ORun p e below s _ _ _ T11 (mkF m 40 #[.val (.ref a1), .val (.long q2), .second, .val (.long q3), .second, .val (.int (1 : Int32))] [(.long q3), (.long B), (.ref a1)])
    refine own_by (fun t k => XS.lloadN X11.here hx rfl (hb hby d3_40) rfl k) ?_
    show ORun p e below s _ _ _ T11 (mkF m 41 #[.val (.ref a1), .val (.long q2), .second, .val (.long q3), .second, .val (.int (1 : Int32))] [(.long q2), (.long q3), (.long B), (.ref a1)])
    refine own_by (fun t k => XS.lsub X11.here hx rfl (hb hby d3_41) rfl k) (own_letJ (f := (fun z => (mkF m 42 #[.val (.ref a1), .val (.long q2), .second, .val (.long q3), .second, .val (.int (1 : Int32))] [(.long z), (.long B), (.ref a1)]))) (q3 - q2) fun v12 hv12 => ?_)
    show ORun p e below s _ _ _ T11 (mkF m 42 #[.val (.ref a1), .val (.long q2), .second, .val (.long q3), .second, .val (.int (1 : Int32))] [(.long v12), (.long B), (.ref a1)])
    have r12 := rng64 v12
    have a12 : v12.toInt = q3.toInt - q2.toInt := by
      have q : (v12.toInt - (q3.toInt - q2.toInt)) % 18446744073709551616 = 0 := by rw [hv12]; exact c_lsub q3 q2
      omega
    refine own_by (fun t k => XS.ladd X11.here hx rfl (hb hby d3_42) rfl k) (own_letJ (f := (fun z => (mkF m 43 #[.val (.ref a1), .val (.long q2), .second, .val (.long q3), .second, .val (.int (1 : Int32))] [(.long z), (.ref a1)]))) (B + v12) fun v13 hv13 => ?_)
    show ORun p e below s _ _ _ T11 (mkF m 43 #[.val (.ref a1), .val (.long q2), .second, .val (.long q3), .second, .val (.int (1 : Int32))] [(.long v13), (.ref a1)])
    have r13 := rng64 v13
    have a13 : v13.toInt = B.toInt + v12.toInt := by
      have q : (v13.toInt - (B.toInt + v12.toInt)) % 18446744073709551616 = 0 := by rw [hv13]; exact c_ladd B v12
      omega
    obtain ⟨T14, h14, X14, e14, W14, st14⟩ := putF X11 hx hZ hown (host := "") (Or.inl (hw _ (List.mem_of_getElem? (i := 18) rfl))) Via.refl e11 Fb E1 (Or.inl (hw _ (List.mem_of_getElem? (i := 19) rfl))) (hw _ (List.mem_of_getElem? (i := 3) rfl)) (ty := .long) (by decide) rfl rfl (g := (mkF m 43 #[.val (.ref a1), .val (.long q2), .second, .val (.long q3), .second, .val (.int (1 : Int32))] [(.long v13), (.ref a1)])) rfl rfl (hb hby d3_43)
    have Fw14 := Fld.same W14 Fb
    have N14 := Fr.snoc X14 N0 g1
    refine own_by st14 ?_
    show ORun p e below s _ _ _ T14 (mkF m 46 #[.val (.ref a1), .val (.long q2), .second, .val (.long q3), .second, .val (.int (1 : Int32))] [])
    refine own_by (fun t k => XS.iload X14.here hx rfl (hb hby d3_46) rfl k) ?_
    show ORun p e below s _ _ _ T14 (mkF m 48 #[.val (.ref a1), .val (.long q2), .second, .val (.long q3), .second, .val (.int (1 : Int32))] [(.int (1 : Int32))])
    refine own_retN X14 hx (t := .boolean) hret (by simp) hlk (hb hby d3_48) (by decide) (by decide) ?_
    rw [e14]
    refine ⟨1, v13, rfl, N14, ((Keep.refl h0 [a1]).wr W14 (Or.inl (List.mem_of_getElem? (i := 0) rfl))), (E1.wr W14), (Fm.other W14 (Or.inr (slot_ne (Or.inr (hw _ (List.mem_of_getElem? (i := 12) rfl))) (Or.inl (hw _ (List.mem_of_getElem? (i := 19) rfl))) (by decide) (t := .long) (t' := .long) (by decide) (by decide)))), Fw14, Or.inl ⟨by decide, by omega, by omega⟩⟩
theorem pn_rm0 : plainName "com/example/diligent_bench/diligentbench/StreamBudgetResizePinLaw" = true := by first | (simp [plainName, overriddenIn]; done) | decide +kernel
theorem ef_rm0 (m : MethodId) (x0 : Int64) (x1 : Int64) (x2 : Int64) (x3 : Int64) (x4 : Int32) : entryFrame m #[(.long x0), (.long x1), (.long x2), (.long x3), (.int x4)] maxLocals = mkF m 0 #[.val (.long x0), .second, .val (.long x1), .second, .val (.long x2), .second, .val (.long x3), .second, .val (.int x4), .unset, .unset, .unset, .unset, .unset, .unset, .unset, .unset, .unset, .unset, .unset, .unset, .unset, .unset, .unset, .unset, .unset, .unset, .unset, .unset, .unset, .unset, .unset] [] := by first | (simp [entryFrame, mkF, argsToLocals, Value.category, maxLocals]; done) | rfl
set_option maxRecDepth 65536 in
set_option maxHeartbeats 40000000 in
theorem rm0 (l : Launch) (Z : State) (a0 : Array Value) (hw : ∀ d ∈ tables_1, d.before a0 Z = true) (ws : List Jvm.Cond) (h0 : Heap) (n0 : Nat) (Z0 : n0 ≤ h0.size) (p1 p2 p3 p4 : Int64) (p5 : Int32) :
    OMet l x code maxLocals ret ws room_1 #[(.long p1), (.long p2), (.long p3), (.long p4), (.int p5)] Z h0 (fun v h L => v = some (.int 1) ∧ Fr n0 L) := by
  refine own_met (plainFor_of_name pn_rm0) ?_
  intro p e s m below meth c s₁ X0 hx hby hml hown hnm hret hlk hZ e0
  rw [ef_rm0]
  have N0 := Fr.nil n0
  have rg_p1 := rng64 p1
  have rg_p2 := rng64 p2
  have rg_p3 := rng64 p3
  have rg_p4 := rng64 p4
  have rg_p5 := rng32 p5
  show ORun p e below s _ _ _ s₁ (mkF m 0 #[.val (.long p1), .second, .val (.long p2), .second, .val (.long p3), .second, .val (.long p4), .second, .val (.int p5), .unset, .unset, .unset, .unset, .unset, .unset, .unset, .unset, .unset, .unset, .unset, .unset, .unset, .unset, .unset, .unset, .unset, .unset, .unset, .unset, .unset, .unset, .unset] [])
  refine own_by (fun t k => X0.ldc2Long hx hown (mvT hZ (hw _ (List.mem_of_getElem? (i := 0) rfl))) (g := (mkF m 0 #[.val (.long p1), .second, .val (.long p2), .second, .val (.long p3), .second, .val (.long p4), .second, .val (.int p5), .unset, .unset, .unset, .unset, .unset, .unset, .unset, .unset, .unset, .unset, .unset, .unset, .unset, .unset, .unset, .unset, .unset, .unset, .unset, .unset, .unset, .unset, .unset] [])) rfl (hb hby at_0) _ k) ?_
  show ORun p e below s _ _ _ s₁ (mkF m 3 #[.val (.long p1), .second, .val (.long p2), .second, .val (.long p3), .second, .val (.long p4), .second, .val (.int p5), .unset, .unset, .unset, .unset, .unset, .unset, .unset, .unset, .unset, .unset, .unset, .unset, .unset, .unset, .unset, .unset, .unset, .unset, .unset, .unset, .unset, .unset, .unset] [(.long (4611686018427387903 : Int64))])
  refine own_by (fun t k => XS.lstore X0.here hx rfl (hb hby at_3) rfl (l' := #[.val (.long p1), .second, .val (.long p2), .second, .val (.long p3), .second, .val (.long p4), .second, .val (.int p5), .val (.long (4611686018427387903 : Int64)), .second, .unset, .unset, .unset, .unset, .unset, .unset, .unset, .unset, .unset, .unset, .unset, .unset, .unset, .unset, .unset, .unset, .unset, .unset, .unset, .unset, .unset]) rfl k) ?_
  show ORun p e below s _ _ _ s₁ (mkF m 5 #[.val (.long p1), .second, .val (.long p2), .second, .val (.long p3), .second, .val (.long p4), .second, .val (.int p5), .val (.long (4611686018427387903 : Int64)), .second, .unset, .unset, .unset, .unset, .unset, .unset, .unset, .unset, .unset, .unset, .unset, .unset, .unset, .unset, .unset, .unset, .unset, .unset, .unset, .unset, .unset] [])
  have J1 : ∀ w1 : Int32, (w1.toInt = 0 ∨ w1.toInt = 1) → ORun p e below s (fun v h L => v = some (.int 1) ∧ Fr n0 L) room_1.cells room_1.slots s₁ (mkF m 17 #[.val (.long p1), .second, .val (.long p2), .second, .val (.long p3), .second, .val (.long p4), .second, .val (.int p5), .val (.long (4611686018427387903 : Int64)), .second, .unset, .unset, .unset, .unset, .unset, .unset, .unset, .unset, .unset, .unset, .unset, .unset, .unset, .unset, .unset, .unset, .unset, .unset, .unset, .unset, .unset] [(.int w1)]) := by
    intro w1 hJ1
    refine own_by (fun t k => XS.istore X0.here hx rfl (hb hby at_17) rfl (l' := #[.val (.long p1), .second, .val (.long p2), .second, .val (.long p3), .second, .val (.long p4), .second, .val (.int p5), .val (.long (4611686018427387903 : Int64)), .second, .val (.int w1), .unset, .unset, .unset, .unset, .unset, .unset, .unset, .unset, .unset, .unset, .unset, .unset, .unset, .unset, .unset, .unset, .unset, .unset, .unset, .unset]) rfl k) ?_
    show ORun p e below s _ _ _ s₁ (mkF m 19 #[.val (.long p1), .second, .val (.long p2), .second, .val (.long p3), .second, .val (.long p4), .second, .val (.int p5), .val (.long (4611686018427387903 : Int64)), .second, .val (.int w1), .unset, .unset, .unset, .unset, .unset, .unset, .unset, .unset, .unset, .unset, .unset, .unset, .unset, .unset, .unset, .unset, .unset, .unset, .unset, .unset] [])
    have J2 : ∀ w2 : Int64, ((w1.toInt = 1 ∧ w2.toInt = 9223372036854775807) ∨ (w1.toInt = 0 ∧ 0 ≤ w2.toInt ∧ w2.toInt < 4611686018427387904)) → ORun p e below s (fun v h L => v = some (.int 1) ∧ Fr n0 L) room_1.cells room_1.slots s₁ (mkF m 34 #[.val (.long p1), .second, .val (.long p2), .second, .val (.long p3), .second, .val (.long p4), .second, .val (.int p5), .val (.long (4611686018427387903 : Int64)), .second, .val (.int w1), .unset, .unset, .unset, .unset, .unset, .unset, .unset, .unset, .unset, .unset, .unset, .unset, .unset, .unset, .unset, .unset, .unset, .unset, .unset, .unset] [(.long w2)]) := by
      intro w2 hJ2
      refine own_by (fun t k => XS.lstore X0.here hx rfl (hb hby at_34) rfl (l' := #[.val (.long p1), .second, .val (.long p2), .second, .val (.long p3), .second, .val (.long p4), .second, .val (.int p5), .val (.long (4611686018427387903 : Int64)), .second, .val (.int w1), .val (.long w2), .second, .unset, .unset, .unset, .unset, .unset, .unset, .unset, .unset, .unset, .unset, .unset, .unset, .unset, .unset, .unset, .unset, .unset, .unset]) rfl k) ?_
      show ORun p e below s _ _ _ s₁ (mkF m 36 #[.val (.long p1), .second, .val (.long p2), .second, .val (.long p3), .second, .val (.long p4), .second, .val (.int p5), .val (.long (4611686018427387903 : Int64)), .second, .val (.int w1), .val (.long w2), .second, .unset, .unset, .unset, .unset, .unset, .unset, .unset, .unset, .unset, .unset, .unset, .unset, .unset, .unset, .unset, .unset, .unset, .unset] [])
      refine own_by (fun t k => XS.lloadN X0.here hx rfl (hb hby at_36) rfl k) ?_
      show ORun p e below s _ _ _ s₁ (mkF m 37 #[.val (.long p1), .second, .val (.long p2), .second, .val (.long p3), .second, .val (.long p4), .second, .val (.int p5), .val (.long (4611686018427387903 : Int64)), .second, .val (.int w1), .val (.long w2), .second, .unset, .unset, .unset, .unset, .unset, .unset, .unset, .unset, .unset, .unset, .unset, .unset, .unset, .unset, .unset, .unset, .unset, .unset] [(.long p2)])
      refine own_by (fun t k => XS.lload X0.here hx rfl (hb hby at_37) rfl k) ?_
      show ORun p e below s _ _ _ s₁ (mkF m 39 #[.val (.long p1), .second, .val (.long p2), .second, .val (.long p3), .second, .val (.long p4), .second, .val (.int p5), .val (.long (4611686018427387903 : Int64)), .second, .val (.int w1), .val (.long w2), .second, .unset, .unset, .unset, .unset, .unset, .unset, .unset, .unset, .unset, .unset, .unset, .unset, .unset, .unset, .unset, .unset, .unset, .unset] [(.long (4611686018427387903 : Int64)), (.long p2)])
      refine own_by (fun t k => XS.land X0.here hx rfl (hb hby at_39) rfl k) (own_letJ (f := (fun z => (mkF m 40 #[.val (.long p1), .second, .val (.long p2), .second, .val (.long p3), .second, .val (.long p4), .second, .val (.int p5), .val (.long (4611686018427387903 : Int64)), .second, .val (.int w1), .val (.long w2), .second, .unset, .unset, .unset, .unset, .unset, .unset, .unset, .unset, .unset, .unset, .unset, .unset, .unset, .unset, .unset, .unset, .unset, .unset] [(.long z)]))) (p2 &&& (4611686018427387903 : Int64)) fun v3 hv3 => ?_)
      show ORun p e below s _ _ _ s₁ (mkF m 40 #[.val (.long p1), .second, .val (.long p2), .second, .val (.long p3), .second, .val (.long p4), .second, .val (.int p5), .val (.long (4611686018427387903 : Int64)), .second, .val (.int w1), .val (.long w2), .second, .unset, .unset, .unset, .unset, .unset, .unset, .unset, .unset, .unset, .unset, .unset, .unset, .unset, .unset, .unset, .unset, .unset, .unset] [(.long v3)])
      have a3a : v3.toInt = p2.toInt % 4611686018427387904 := by rw [hv3]; exact c_maskL p2 (4611686018427387903 : Int64) 62 (by decide) (by decide)
      have r3 := rng64 v3
      refine own_by (fun t k => XS.lstore X0.here hx rfl (hb hby at_40) rfl (l' := #[.val (.long p1), .second, .val (.long p2), .second, .val (.long p3), .second, .val (.long p4), .second, .val (.int p5), .val (.long (4611686018427387903 : Int64)), .second, .val (.int w1), .val (.long w2), .second, .val (.long v3), .second, .unset, .unset, .unset, .unset, .unset, .unset, .unset, .unset, .unset, .unset, .unset, .unset, .unset, .unset, .unset, .unset]) rfl k) ?_
      show ORun p e below s _ _ _ s₁ (mkF m 42 #[.val (.long p1), .second, .val (.long p2), .second, .val (.long p3), .second, .val (.long p4), .second, .val (.int p5), .val (.long (4611686018427387903 : Int64)), .second, .val (.int w1), .val (.long w2), .second, .val (.long v3), .second, .unset, .unset, .unset, .unset, .unset, .unset, .unset, .unset, .unset, .unset, .unset, .unset, .unset, .unset, .unset, .unset] [])
      refine own_by (fun t k => XS.lload X0.here hx rfl (hb hby at_42) rfl k) ?_
      show ORun p e below s _ _ _ s₁ (mkF m 44 #[.val (.long p1), .second, .val (.long p2), .second, .val (.long p3), .second, .val (.long p4), .second, .val (.int p5), .val (.long (4611686018427387903 : Int64)), .second, .val (.int w1), .val (.long w2), .second, .val (.long v3), .second, .unset, .unset, .unset, .unset, .unset, .unset, .unset, .unset, .unset, .unset, .unset, .unset, .unset, .unset, .unset, .unset] [(.long p3)])
      refine own_by (fun t k => XS.lload X0.here hx rfl (hb hby at_44) rfl k) ?_
      show ORun p e below s _ _ _ s₁ (mkF m 46 #[.val (.long p1), .second, .val (.long p2), .second, .val (.long p3), .second, .val (.long p4), .second, .val (.int p5), .val (.long (4611686018427387903 : Int64)), .second, .val (.int w1), .val (.long w2), .second, .val (.long v3), .second, .unset, .unset, .unset, .unset, .unset, .unset, .unset, .unset, .unset, .unset, .unset, .unset, .unset, .unset, .unset, .unset] [(.long (4611686018427387903 : Int64)), (.long p3)])
      refine own_by (fun t k => XS.land X0.here hx rfl (hb hby at_46) rfl k) (own_letJ (f := (fun z => (mkF m 47 #[.val (.long p1), .second, .val (.long p2), .second, .val (.long p3), .second, .val (.long p4), .second, .val (.int p5), .val (.long (4611686018427387903 : Int64)), .second, .val (.int w1), .val (.long w2), .second, .val (.long v3), .second, .unset, .unset, .unset, .unset, .unset, .unset, .unset, .unset, .unset, .unset, .unset, .unset, .unset, .unset, .unset, .unset] [(.long z)]))) (p3 &&& (4611686018427387903 : Int64)) fun v4 hv4 => ?_)
      show ORun p e below s _ _ _ s₁ (mkF m 47 #[.val (.long p1), .second, .val (.long p2), .second, .val (.long p3), .second, .val (.long p4), .second, .val (.int p5), .val (.long (4611686018427387903 : Int64)), .second, .val (.int w1), .val (.long w2), .second, .val (.long v3), .second, .unset, .unset, .unset, .unset, .unset, .unset, .unset, .unset, .unset, .unset, .unset, .unset, .unset, .unset, .unset, .unset] [(.long v4)])
      have a4a : v4.toInt = p3.toInt % 4611686018427387904 := by rw [hv4]; exact c_maskL p3 (4611686018427387903 : Int64) 62 (by decide) (by decide)
      have r4 := rng64 v4
      refine own_by (fun t k => XS.lstore X0.here hx rfl (hb hby at_47) rfl (l' := #[.val (.long p1), .second, .val (.long p2), .second, .val (.long p3), .second, .val (.long p4), .second, .val (.int p5), .val (.long (4611686018427387903 : Int64)), .second, .val (.int w1), .val (.long w2), .second, .val (.long v3), .second, .val (.long v4), .second, .unset, .unset, .unset, .unset, .unset, .unset, .unset, .unset, .unset, .unset, .unset, .unset, .unset, .unset]) rfl k) ?_
      show ORun p e below s _ _ _ s₁ (mkF m 49 #[.val (.long p1), .second, .val (.long p2), .second, .val (.long p3), .second, .val (.long p4), .second, .val (.int p5), .val (.long (4611686018427387903 : Int64)), .second, .val (.int w1), .val (.long w2), .second, .val (.long v3), .second, .val (.long v4), .second, .unset, .unset, .unset, .unset, .unset, .unset, .unset, .unset, .unset, .unset, .unset, .unset, .unset, .unset] [])
      refine own_by (fun t k => XS.lload X0.here hx rfl (hb hby at_49) rfl k) ?_
      show ORun p e below s _ _ _ s₁ (mkF m 51 #[.val (.long p1), .second, .val (.long p2), .second, .val (.long p3), .second, .val (.long p4), .second, .val (.int p5), .val (.long (4611686018427387903 : Int64)), .second, .val (.int w1), .val (.long w2), .second, .val (.long v3), .second, .val (.long v4), .second, .unset, .unset, .unset, .unset, .unset, .unset, .unset, .unset, .unset, .unset, .unset, .unset, .unset, .unset] [(.long p4)])
      refine own_by (fun t k => XS.lload X0.here hx rfl (hb hby at_51) rfl k) ?_
      show ORun p e below s _ _ _ s₁ (mkF m 53 #[.val (.long p1), .second, .val (.long p2), .second, .val (.long p3), .second, .val (.long p4), .second, .val (.int p5), .val (.long (4611686018427387903 : Int64)), .second, .val (.int w1), .val (.long w2), .second, .val (.long v3), .second, .val (.long v4), .second, .unset, .unset, .unset, .unset, .unset, .unset, .unset, .unset, .unset, .unset, .unset, .unset, .unset, .unset] [(.long (4611686018427387903 : Int64)), (.long p4)])
      refine own_by (fun t k => XS.land X0.here hx rfl (hb hby at_53) rfl k) (own_letJ (f := (fun z => (mkF m 54 #[.val (.long p1), .second, .val (.long p2), .second, .val (.long p3), .second, .val (.long p4), .second, .val (.int p5), .val (.long (4611686018427387903 : Int64)), .second, .val (.int w1), .val (.long w2), .second, .val (.long v3), .second, .val (.long v4), .second, .unset, .unset, .unset, .unset, .unset, .unset, .unset, .unset, .unset, .unset, .unset, .unset, .unset, .unset] [(.long z)]))) (p4 &&& (4611686018427387903 : Int64)) fun v5 hv5 => ?_)
      show ORun p e below s _ _ _ s₁ (mkF m 54 #[.val (.long p1), .second, .val (.long p2), .second, .val (.long p3), .second, .val (.long p4), .second, .val (.int p5), .val (.long (4611686018427387903 : Int64)), .second, .val (.int w1), .val (.long w2), .second, .val (.long v3), .second, .val (.long v4), .second, .unset, .unset, .unset, .unset, .unset, .unset, .unset, .unset, .unset, .unset, .unset, .unset, .unset, .unset] [(.long v5)])
      have a5a : v5.toInt = p4.toInt % 4611686018427387904 := by rw [hv5]; exact c_maskL p4 (4611686018427387903 : Int64) 62 (by decide) (by decide)
      have r5 := rng64 v5
      refine own_by (fun t k => XS.lstore X0.here hx rfl (hb hby at_54) rfl (l' := #[.val (.long p1), .second, .val (.long p2), .second, .val (.long p3), .second, .val (.long p4), .second, .val (.int p5), .val (.long (4611686018427387903 : Int64)), .second, .val (.int w1), .val (.long w2), .second, .val (.long v3), .second, .val (.long v4), .second, .val (.long v5), .second, .unset, .unset, .unset, .unset, .unset, .unset, .unset, .unset, .unset, .unset, .unset, .unset]) rfl k) ?_
      show ORun p e below s _ _ _ s₁ (mkF m 56 #[.val (.long p1), .second, .val (.long p2), .second, .val (.long p3), .second, .val (.long p4), .second, .val (.int p5), .val (.long (4611686018427387903 : Int64)), .second, .val (.int w1), .val (.long w2), .second, .val (.long v3), .second, .val (.long v4), .second, .val (.long v5), .second, .unset, .unset, .unset, .unset, .unset, .unset, .unset, .unset, .unset, .unset, .unset, .unset] [])
      obtain ⟨T6, h6, X6, e6, E6, A6, D6, -, st6⟩ := newO X0 hx hZ hown (hw _ (List.mem_of_getElem? (i := 2) rfl)) (hw _ (List.mem_of_getElem? (i := 3) rfl)) (hw _ (List.mem_of_getElem? (i := 4) rfl)) e0 (g := (mkF m 56 #[.val (.long p1), .second, .val (.long p2), .second, .val (.long p3), .second, .val (.long p4), .second, .val (.int p5), .val (.long (4611686018427387903 : Int64)), .second, .val (.int w1), .val (.long w2), .second, .val (.long v3), .second, .val (.long v4), .second, .val (.long v5), .second, .unset, .unset, .unset, .unset, .unset, .unset, .unset, .unset, .unset, .unset, .unset, .unset] [])) rfl (hb hby at_56) (by decide) (by decide)
      obtain ⟨b6, g6⟩ : ∃ z, z = h0.size := ⟨_, rfl⟩
      rw [← g6] at A6 D6 st6
      have old_b6 : n0 ≤ b6 := Nat.le_trans Z0 (Nat.le_of_eq g6.symm)
      have sz_b6 : h0.size ≤ b6 := Nat.le_trans (Nat.le_refl h0.size) (Nat.le_of_eq g6.symm)
      have F6_12 : Fld Z h6 b6 "com/example/diligent_bench/diligentbench/StreamBudget" "maxBytes" "J" (.long (0 : Int64)) := D6 (Or.inr (hw _ (List.mem_of_getElem? (i := 12) rfl))) (ty := .long) (by decide)
      have F6_19 : Fld Z h6 b6 "com/example/diligent_bench/diligentbench/StreamBudget" "bytes" "J" (.long (0 : Int64)) := D6 (Or.inl (hw _ (List.mem_of_getElem? (i := 19) rfl))) (ty := .long) (by decide)
      refine own_by st6 ?_
      show ORun p e below s _ _ _ T6 (mkF m 59 #[.val (.long p1), .second, .val (.long p2), .second, .val (.long p3), .second, .val (.long p4), .second, .val (.int p5), .val (.long (4611686018427387903 : Int64)), .second, .val (.int w1), .val (.long w2), .second, .val (.long v3), .second, .val (.long v4), .second, .val (.long v5), .second, .unset, .unset, .unset, .unset, .unset, .unset, .unset, .unset, .unset, .unset, .unset, .unset] [(.ref b6)])
      refine own_by (fun t k => XS.dup X6.here hx rfl (hb hby at_59) rfl rfl k) ?_
      show ORun p e below s _ _ _ T6 (mkF m 60 #[.val (.long p1), .second, .val (.long p2), .second, .val (.long p3), .second, .val (.long p4), .second, .val (.int p5), .val (.long (4611686018427387903 : Int64)), .second, .val (.int w1), .val (.long w2), .second, .val (.long v3), .second, .val (.long v4), .second, .val (.long v5), .second, .unset, .unset, .unset, .unset, .unset, .unset, .unset, .unset, .unset, .unset, .unset, .unset] [(.ref b6), (.ref b6)])
      refine own_by (fun t k => XS.lload X6.here hx rfl (hb hby at_60) rfl k) ?_
      show ORun p e below s _ _ _ T6 (mkF m 62 #[.val (.long p1), .second, .val (.long p2), .second, .val (.long p3), .second, .val (.long p4), .second, .val (.int p5), .val (.long (4611686018427387903 : Int64)), .second, .val (.int w1), .val (.long w2), .second, .val (.long v3), .second, .val (.long v4), .second, .val (.long v5), .second, .unset, .unset, .unset, .unset, .unset, .unset, .unset, .unset, .unset, .unset, .unset, .unset] [(.long w2), (.ref b6), (.ref b6)])
      refine own_callC X6 hx hZ hown rfl (hw _ (List.mem_of_getElem? (i := 5) rfl)) (hw _ (List.mem_of_getElem? (i := 6) rfl)) (hw _ (List.mem_of_getElem? (i := 4) rfl)) (hw _ (List.mem_of_getElem? (i := 7) rfl)) (by decide) (rm1 l Z a0 hw [] h6 n0 (Nat.le_trans Z0 E6.1) b6 w2 A6 F6_12 F6_19 old_b6) e6 (by decide) (W := 1) (by decide) (by decide) (by decide) (b := b6) (argsL := [(.long w2)]) (rest := [(.ref b6)]) (by rw [hml]; rfl) (lenOf pd_0 rfl) rfl rfl (Nat.le_of_eq rfl) (hb hby at_62) ?_
      intro T7 L7 u7 X7 hQ7
      obtain ⟨rfl, Nq7, K7, En7, Fm7, Fb7⟩ := hQ7
      have N7 := Fr.app N0 Nq7
      show ORun p e below s _ _ _ T7 (mkF m 65 #[.val (.long p1), .second, .val (.long p2), .second, .val (.long p3), .second, .val (.long p4), .second, .val (.int p5), .val (.long (4611686018427387903 : Int64)), .second, .val (.int w1), .val (.long w2), .second, .val (.long v3), .second, .val (.long v4), .second, .val (.long v5), .second, .unset, .unset, .unset, .unset, .unset, .unset, .unset, .unset, .unset, .unset, .unset, .unset] [(.ref b6)])
      refine own_by (fun t k => XS.astore X7.here hx rfl (hb hby at_65) rfl rfl (l' := #[.val (.long p1), .second, .val (.long p2), .second, .val (.long p3), .second, .val (.long p4), .second, .val (.int p5), .val (.long (4611686018427387903 : Int64)), .second, .val (.int w1), .val (.long w2), .second, .val (.long v3), .second, .val (.long v4), .second, .val (.long v5), .second, .val (.ref b6), .unset, .unset, .unset, .unset, .unset, .unset, .unset, .unset, .unset, .unset, .unset]) rfl k) ?_
      show ORun p e below s _ _ _ T7 (mkF m 67 #[.val (.long p1), .second, .val (.long p2), .second, .val (.long p3), .second, .val (.long p4), .second, .val (.int p5), .val (.long (4611686018427387903 : Int64)), .second, .val (.int w1), .val (.long w2), .second, .val (.long v3), .second, .val (.long v4), .second, .val (.long v5), .second, .val (.ref b6), .unset, .unset, .unset, .unset, .unset, .unset, .unset, .unset, .unset, .unset, .unset] [])
      refine own_by (fun t k => XS.aload X7.here hx rfl (hb hby at_67) rfl rfl k) ?_
      show ORun p e below s _ _ _ T7 (mkF m 69 #[.val (.long p1), .second, .val (.long p2), .second, .val (.long p3), .second, .val (.long p4), .second, .val (.int p5), .val (.long (4611686018427387903 : Int64)), .second, .val (.int w1), .val (.long w2), .second, .val (.long v3), .second, .val (.long v4), .second, .val (.long v5), .second, .val (.ref b6), .unset, .unset, .unset, .unset, .unset, .unset, .unset, .unset, .unset, .unset, .unset] [(.ref b6)])
      refine own_by (fun t k => XS.lconst X7.here hx rfl (hb hby at_69) k) ?_
      show ORun p e below s _ _ _ T7 (mkF m 70 #[.val (.long p1), .second, .val (.long p2), .second, .val (.long p3), .second, .val (.long p4), .second, .val (.int p5), .val (.long (4611686018427387903 : Int64)), .second, .val (.int w1), .val (.long w2), .second, .val (.long v3), .second, .val (.long v4), .second, .val (.long v5), .second, .val (.ref b6), .unset, .unset, .unset, .unset, .unset, .unset, .unset, .unset, .unset, .unset, .unset] [(.long (0 : Int64)), (.ref b6)])
      refine own_by (fun t k => XS.lload X7.here hx rfl (hb hby at_70) rfl k) ?_
      show ORun p e below s _ _ _ T7 (mkF m 72 #[.val (.long p1), .second, .val (.long p2), .second, .val (.long p3), .second, .val (.long p4), .second, .val (.int p5), .val (.long (4611686018427387903 : Int64)), .second, .val (.int w1), .val (.long w2), .second, .val (.long v3), .second, .val (.long v4), .second, .val (.long v5), .second, .val (.ref b6), .unset, .unset, .unset, .unset, .unset, .unset, .unset, .unset, .unset, .unset, .unset] [(.long v3), (.long (0 : Int64)), (.ref b6)])
      refine own_callV X7 hx hZ hown En7 (hw _ (List.mem_of_getElem? (i := 13) rfl)) (hw _ (List.mem_of_getElem? (i := 14) rfl)) (notFace_of_selects (args := #[]) (mvT hZ (hw _ (List.mem_of_getElem? (i := 16) rfl)))) (hw _ (List.mem_of_getElem? (i := 16) rfl)) (hw _ (List.mem_of_getElem? (i := 15) rfl)) (hw _ (List.mem_of_getElem? (i := 4) rfl)) (hw _ (List.mem_of_getElem? (i := 17) rfl)) (by decide) (rm3 l Z a0 hw [] T7.heap n0 (Nat.le_trans (Nat.le_trans Z0 E6.1) K7.1) b6 (0 : Int64) v3 (0 : Int64) w2 En7 Fm7 Fb7 old_b6 (by show 0 ≤ 0 ∧ 0 ≤ 0 ∧ 0 ≤ v3.toInt ∧ 0 - 0 + v3.toInt < 9223372036854775808; omega)) rfl (by decide) (W := 0) (by decide) (by decide) (by decide) (argsL := [(.long (0 : Int64)), (.long v3)]) (rest := []) (by rw [hml]; rfl) (lenOf pd_1 rfl) rfl rfl (Nat.le_of_eq rfl) (hb hby at_72) ?_
      intro T8 L8 u8 X8 hQ8
      obtain ⟨y8, B8, rfl, Nq8, K8, En8, Fm8, Fb8, hy8⟩ := hQ8
      have N8 := Fr.app N7 Nq8
      have tB8 : ((0 : Int64)).toInt = 0 := by decide
      have tz8 : ((0 : Int64)).toInt = 0 := by decide
      show ORun p e below s _ _ _ T8 (mkF m 75 #[.val (.long p1), .second, .val (.long p2), .second, .val (.long p3), .second, .val (.long p4), .second, .val (.int p5), .val (.long (4611686018427387903 : Int64)), .second, .val (.int w1), .val (.long w2), .second, .val (.long v3), .second, .val (.long v4), .second, .val (.long v5), .second, .val (.ref b6), .unset, .unset, .unset, .unset, .unset, .unset, .unset, .unset, .unset, .unset, .unset] [(.int y8)])
      refine own_by (fun t k => XS.istore X8.here hx rfl (hb hby at_75) rfl (l' := #[.val (.long p1), .second, .val (.long p2), .second, .val (.long p3), .second, .val (.long p4), .second, .val (.int p5), .val (.long (4611686018427387903 : Int64)), .second, .val (.int w1), .val (.long w2), .second, .val (.long v3), .second, .val (.long v4), .second, .val (.long v5), .second, .val (.ref b6), .val (.int y8), .unset, .unset, .unset, .unset, .unset, .unset, .unset, .unset, .unset, .unset]) rfl k) ?_
      show ORun p e below s _ _ _ T8 (mkF m 77 #[.val (.long p1), .second, .val (.long p2), .second, .val (.long p3), .second, .val (.long p4), .second, .val (.int p5), .val (.long (4611686018427387903 : Int64)), .second, .val (.int w1), .val (.long w2), .second, .val (.long v3), .second, .val (.long v4), .second, .val (.long v5), .second, .val (.ref b6), .val (.int y8), .unset, .unset, .unset, .unset, .unset, .unset, .unset, .unset, .unset, .unset] [])
      refine own_by (fun t k => XS.iload X8.here hx rfl (hb hby at_77) rfl k) ?_
      show ORun p e below s _ _ _ T8 (mkF m 79 #[.val (.long p1), .second, .val (.long p2), .second, .val (.long p3), .second, .val (.long p4), .second, .val (.int p5), .val (.long (4611686018427387903 : Int64)), .second, .val (.int w1), .val (.long w2), .second, .val (.long v3), .second, .val (.long v4), .second, .val (.long v5), .second, .val (.ref b6), .val (.int y8), .unset, .unset, .unset, .unset, .unset, .unset, .unset, .unset, .unset, .unset] [(.int y8)])
      have J9 : ∀ w9 : Int32, ((w9.toInt = 1 ∧ (v3.toInt ≤ w2.toInt)) ∨ (w9.toInt = 0 ∧ ¬ (v3.toInt ≤ w2.toInt))) → ORun p e below s (fun v h L => v = some (.int 1) ∧ Fr n0 L) room_1.cells room_1.slots T8 (mkF m 92 #[.val (.long p1), .second, .val (.long p2), .second, .val (.long p3), .second, .val (.long p4), .second, .val (.int p5), .val (.long (4611686018427387903 : Int64)), .second, .val (.int w1), .val (.long w2), .second, .val (.long v3), .second, .val (.long v4), .second, .val (.long v5), .second, .val (.ref b6), .val (.int y8), .unset, .unset, .unset, .unset, .unset, .unset, .unset, .unset, .unset, .unset] [(.int w9), (.int y8)]) := by
        intro w9 hJ9
        by_cases hc10 : y8 = w9
        · have t10 := own_eq hc10 (a := y8.toInt) (b := w9.toInt) rfl rfl
          refine own_by (fun t k => XS.icmpYes X8.here hx rfl (pc0 := 92) (pc' := 97) rfl (hb hby at_92) rfl (teq hc10).1 (by decide) (by decide) k) ?_
          show ORun p e below s _ _ _ T8 (mkF m 97 #[.val (.long p1), .second, .val (.long p2), .second, .val (.long p3), .second, .val (.long p4), .second, .val (.int p5), .val (.long (4611686018427387903 : Int64)), .second, .val (.int w1), .val (.long w2), .second, .val (.long v3), .second, .val (.long v4), .second, .val (.long v5), .second, .val (.ref b6), .val (.int y8), .unset, .unset, .unset, .unset, .unset, .unset, .unset, .unset, .unset, .unset] [])
          have J11 : ∀ w11 : Int64, ((y8.toInt = 1 ∧ w11.toInt = v3.toInt) ∨ (y8.toInt = 0 ∧ w11.toInt = 0)) → ORun p e below s (fun v h L => v = some (.int 1) ∧ Fr n0 L) room_1.cells room_1.slots T8 (mkF m 108 #[.val (.long p1), .second, .val (.long p2), .second, .val (.long p3), .second, .val (.long p4), .second, .val (.int p5), .val (.long (4611686018427387903 : Int64)), .second, .val (.int w1), .val (.long w2), .second, .val (.long v3), .second, .val (.long v4), .second, .val (.long v5), .second, .val (.ref b6), .val (.int y8), .unset, .unset, .unset, .unset, .unset, .unset, .unset, .unset, .unset, .unset] [(.long w11)]) := by
            intro w11 hJ11
            refine own_by (fun t k => XS.lstore X8.here hx rfl (hb hby at_108) rfl (l' := #[.val (.long p1), .second, .val (.long p2), .second, .val (.long p3), .second, .val (.long p4), .second, .val (.int p5), .val (.long (4611686018427387903 : Int64)), .second, .val (.int w1), .val (.long w2), .second, .val (.long v3), .second, .val (.long v4), .second, .val (.long v5), .second, .val (.ref b6), .val (.int y8), .val (.long w11), .second, .unset, .unset, .unset, .unset, .unset, .unset, .unset, .unset]) rfl k) ?_
            show ORun p e below s _ _ _ T8 (mkF m 110 #[.val (.long p1), .second, .val (.long p2), .second, .val (.long p3), .second, .val (.long p4), .second, .val (.int p5), .val (.long (4611686018427387903 : Int64)), .second, .val (.int w1), .val (.long w2), .second, .val (.long v3), .second, .val (.long v4), .second, .val (.long v5), .second, .val (.ref b6), .val (.int y8), .val (.long w11), .second, .unset, .unset, .unset, .unset, .unset, .unset, .unset, .unset] [])
            refine own_by (fun t k => XS.aload X8.here hx rfl (hb hby at_110) rfl rfl k) ?_
            show ORun p e below s _ _ _ T8 (mkF m 112 #[.val (.long p1), .second, .val (.long p2), .second, .val (.long p3), .second, .val (.long p4), .second, .val (.int p5), .val (.long (4611686018427387903 : Int64)), .second, .val (.int w1), .val (.long w2), .second, .val (.long v3), .second, .val (.long v4), .second, .val (.long v5), .second, .val (.ref b6), .val (.int y8), .val (.long w11), .second, .unset, .unset, .unset, .unset, .unset, .unset, .unset, .unset] [(.ref b6)])
            refine own_by (fun t k => XS.lconst X8.here hx rfl (hb hby at_112) k) ?_
            show ORun p e below s _ _ _ T8 (mkF m 113 #[.val (.long p1), .second, .val (.long p2), .second, .val (.long p3), .second, .val (.long p4), .second, .val (.int p5), .val (.long (4611686018427387903 : Int64)), .second, .val (.int w1), .val (.long w2), .second, .val (.long v3), .second, .val (.long v4), .second, .val (.long v5), .second, .val (.ref b6), .val (.int y8), .val (.long w11), .second, .unset, .unset, .unset, .unset, .unset, .unset, .unset, .unset] [(.long (0 : Int64)), (.ref b6)])
            refine own_by (fun t k => XS.lload X8.here hx rfl (hb hby at_113) rfl k) ?_
            show ORun p e below s _ _ _ T8 (mkF m 115 #[.val (.long p1), .second, .val (.long p2), .second, .val (.long p3), .second, .val (.long p4), .second, .val (.int p5), .val (.long (4611686018427387903 : Int64)), .second, .val (.int w1), .val (.long w2), .second, .val (.long v3), .second, .val (.long v4), .second, .val (.long v5), .second, .val (.ref b6), .val (.int y8), .val (.long w11), .second, .unset, .unset, .unset, .unset, .unset, .unset, .unset, .unset] [(.long v4), (.long (0 : Int64)), (.ref b6)])
            refine own_callV X8 hx hZ hown En8 (hw _ (List.mem_of_getElem? (i := 13) rfl)) (hw _ (List.mem_of_getElem? (i := 14) rfl)) (notFace_of_selects (args := #[]) (mvT hZ (hw _ (List.mem_of_getElem? (i := 16) rfl)))) (hw _ (List.mem_of_getElem? (i := 16) rfl)) (hw _ (List.mem_of_getElem? (i := 15) rfl)) (hw _ (List.mem_of_getElem? (i := 4) rfl)) (hw _ (List.mem_of_getElem? (i := 17) rfl)) (by decide) (rm3 l Z a0 hw [] T8.heap n0 (Nat.le_trans (Nat.le_trans (Nat.le_trans Z0 E6.1) K7.1) K8.1) b6 (0 : Int64) v4 B8 w2 En8 Fm8 Fb8 old_b6 (by show 0 ≤ 0 ∧ 0 ≤ B8.toInt ∧ 0 ≤ v4.toInt ∧ B8.toInt - 0 + v4.toInt < 9223372036854775808; omega)) rfl (by decide) (W := 0) (by decide) (by decide) (by decide) (argsL := [(.long (0 : Int64)), (.long v4)]) (rest := []) (by rw [hml]; rfl) (lenOf pd_1 rfl) rfl rfl (Nat.le_of_eq rfl) (hb hby at_115) ?_
            intro T12 L12 u12 X12 hQ12
            obtain ⟨y12, B12, rfl, Nq12, K12, En12, Fm12, Fb12, hy12⟩ := hQ12
            have N12 := Fr.app N8 Nq12
            have tz12 : ((0 : Int64)).toInt = 0 := by decide
            show ORun p e below s _ _ _ T12 (mkF m 118 #[.val (.long p1), .second, .val (.long p2), .second, .val (.long p3), .second, .val (.long p4), .second, .val (.int p5), .val (.long (4611686018427387903 : Int64)), .second, .val (.int w1), .val (.long w2), .second, .val (.long v3), .second, .val (.long v4), .second, .val (.long v5), .second, .val (.ref b6), .val (.int y8), .val (.long w11), .second, .unset, .unset, .unset, .unset, .unset, .unset, .unset, .unset] [(.int y12)])
            refine own_by (fun t k => XS.istore X12.here hx rfl (hb hby at_118) rfl (l' := #[.val (.long p1), .second, .val (.long p2), .second, .val (.long p3), .second, .val (.long p4), .second, .val (.int p5), .val (.long (4611686018427387903 : Int64)), .second, .val (.int w1), .val (.long w2), .second, .val (.long v3), .second, .val (.long v4), .second, .val (.long v5), .second, .val (.ref b6), .val (.int y8), .val (.long w11), .second, .val (.int y12), .unset, .unset, .unset, .unset, .unset, .unset, .unset]) rfl k) ?_
            show ORun p e below s _ _ _ T12 (mkF m 120 #[.val (.long p1), .second, .val (.long p2), .second, .val (.long p3), .second, .val (.long p4), .second, .val (.int p5), .val (.long (4611686018427387903 : Int64)), .second, .val (.int w1), .val (.long w2), .second, .val (.long v3), .second, .val (.long v4), .second, .val (.long v5), .second, .val (.ref b6), .val (.int y8), .val (.long w11), .second, .val (.int y12), .unset, .unset, .unset, .unset, .unset, .unset, .unset] [])
            refine own_by (fun t k => XS.iload X12.here hx rfl (hb hby at_120) rfl k) ?_
            show ORun p e below s _ _ _ T12 (mkF m 122 #[.val (.long p1), .second, .val (.long p2), .second, .val (.long p3), .second, .val (.long p4), .second, .val (.int p5), .val (.long (4611686018427387903 : Int64)), .second, .val (.int w1), .val (.long w2), .second, .val (.long v3), .second, .val (.long v4), .second, .val (.long v5), .second, .val (.ref b6), .val (.int y8), .val (.long w11), .second, .val (.int y12), .unset, .unset, .unset, .unset, .unset, .unset, .unset] [(.int y12)])
            have J13 : ∀ w13 : Int32, ((w13.toInt = 1 ∧ (v4.toInt = 0 ∨ w11.toInt + v4.toInt ≤ w2.toInt)) ∨ (w13.toInt = 0 ∧ ¬ (v4.toInt = 0 ∨ w11.toInt + v4.toInt ≤ w2.toInt))) → ORun p e below s (fun v h L => v = some (.int 1) ∧ Fr n0 L) room_1.cells room_1.slots T12 (mkF m 145 #[.val (.long p1), .second, .val (.long p2), .second, .val (.long p3), .second, .val (.long p4), .second, .val (.int p5), .val (.long (4611686018427387903 : Int64)), .second, .val (.int w1), .val (.long w2), .second, .val (.long v3), .second, .val (.long v4), .second, .val (.long v5), .second, .val (.ref b6), .val (.int y8), .val (.long w11), .second, .val (.int y12), .unset, .unset, .unset, .unset, .unset, .unset, .unset] [(.int w13), (.int y12)]) := by
              intro w13 hJ13
              by_cases hc14 : y12 = w13
              · have t14 := own_eq hc14 (a := y12.toInt) (b := w13.toInt) rfl rfl
                refine own_by (fun t k => XS.icmpYes X12.here hx rfl (pc0 := 145) (pc' := 150) rfl (hb hby at_145) rfl (teq hc14).1 (by decide) (by decide) k) ?_
                show ORun p e below s _ _ _ T12 (mkF m 150 #[.val (.long p1), .second, .val (.long p2), .second, .val (.long p3), .second, .val (.long p4), .second, .val (.int p5), .val (.long (4611686018427387903 : Int64)), .second, .val (.int w1), .val (.long w2), .second, .val (.long v3), .second, .val (.long v4), .second, .val (.long v5), .second, .val (.ref b6), .val (.int y8), .val (.long w11), .second, .val (.int y12), .unset, .unset, .unset, .unset, .unset, .unset, .unset] [])
                have J15 : ∀ w15 : Int64, ((y12.toInt = 1 ∧ w15.toInt = v4.toInt) ∨ (y12.toInt = 0 ∧ w15.toInt = 0)) → ORun p e below s (fun v h L => v = some (.int 1) ∧ Fr n0 L) room_1.cells room_1.slots T12 (mkF m 161 #[.val (.long p1), .second, .val (.long p2), .second, .val (.long p3), .second, .val (.long p4), .second, .val (.int p5), .val (.long (4611686018427387903 : Int64)), .second, .val (.int w1), .val (.long w2), .second, .val (.long v3), .second, .val (.long v4), .second, .val (.long v5), .second, .val (.ref b6), .val (.int y8), .val (.long w11), .second, .val (.int y12), .unset, .unset, .unset, .unset, .unset, .unset, .unset] [(.long w15)]) := by
                  intro w15 hJ15
                  refine own_by (fun t k => XS.lstore X12.here hx rfl (hb hby at_161) rfl (l' := #[.val (.long p1), .second, .val (.long p2), .second, .val (.long p3), .second, .val (.long p4), .second, .val (.int p5), .val (.long (4611686018427387903 : Int64)), .second, .val (.int w1), .val (.long w2), .second, .val (.long v3), .second, .val (.long v4), .second, .val (.long v5), .second, .val (.ref b6), .val (.int y8), .val (.long w11), .second, .val (.int y12), .val (.long w15), .second, .unset, .unset, .unset, .unset, .unset]) rfl k) ?_
                  show ORun p e below s _ _ _ T12 (mkF m 163 #[.val (.long p1), .second, .val (.long p2), .second, .val (.long p3), .second, .val (.long p4), .second, .val (.int p5), .val (.long (4611686018427387903 : Int64)), .second, .val (.int w1), .val (.long w2), .second, .val (.long v3), .second, .val (.long v4), .second, .val (.long v5), .second, .val (.ref b6), .val (.int y8), .val (.long w11), .second, .val (.int y12), .val (.long w15), .second, .unset, .unset, .unset, .unset, .unset] [])
                  refine own_by (fun t k => XS.aload X12.here hx rfl (hb hby at_163) rfl rfl k) ?_
                  show ORun p e below s _ _ _ T12 (mkF m 165 #[.val (.long p1), .second, .val (.long p2), .second, .val (.long p3), .second, .val (.long p4), .second, .val (.int p5), .val (.long (4611686018427387903 : Int64)), .second, .val (.int w1), .val (.long w2), .second, .val (.long v3), .second, .val (.long v4), .second, .val (.long v5), .second, .val (.ref b6), .val (.int y8), .val (.long w11), .second, .val (.int y12), .val (.long w15), .second, .unset, .unset, .unset, .unset, .unset] [(.ref b6)])
                  refine own_by (fun t k => XS.lload X12.here hx rfl (hb hby at_165) rfl k) ?_
                  show ORun p e below s _ _ _ T12 (mkF m 167 #[.val (.long p1), .second, .val (.long p2), .second, .val (.long p3), .second, .val (.long p4), .second, .val (.int p5), .val (.long (4611686018427387903 : Int64)), .second, .val (.int w1), .val (.long w2), .second, .val (.long v3), .second, .val (.long v4), .second, .val (.long v5), .second, .val (.ref b6), .val (.int y8), .val (.long w11), .second, .val (.int y12), .val (.long w15), .second, .unset, .unset, .unset, .unset, .unset] [(.long w11), (.ref b6)])
                  refine own_by (fun t k => XS.lload X12.here hx rfl (hb hby at_167) rfl k) ?_
                  show ORun p e below s _ _ _ T12 (mkF m 169 #[.val (.long p1), .second, .val (.long p2), .second, .val (.long p3), .second, .val (.long p4), .second, .val (.int p5), .val (.long (4611686018427387903 : Int64)), .second, .val (.int w1), .val (.long w2), .second, .val (.long v3), .second, .val (.long v4), .second, .val (.long v5), .second, .val (.ref b6), .val (.int y8), .val (.long w11), .second, .val (.int y12), .val (.long w15), .second, .unset, .unset, .unset, .unset, .unset] [(.long v5), (.long w11), (.ref b6)])
                  refine own_callV X12 hx hZ hown En12 (hw _ (List.mem_of_getElem? (i := 13) rfl)) (hw _ (List.mem_of_getElem? (i := 14) rfl)) (notFace_of_selects (args := #[]) (mvT hZ (hw _ (List.mem_of_getElem? (i := 16) rfl)))) (hw _ (List.mem_of_getElem? (i := 16) rfl)) (hw _ (List.mem_of_getElem? (i := 15) rfl)) (hw _ (List.mem_of_getElem? (i := 4) rfl)) (hw _ (List.mem_of_getElem? (i := 17) rfl)) (by decide) (rm3 l Z a0 hw [] T12.heap n0 (Nat.le_trans (Nat.le_trans (Nat.le_trans (Nat.le_trans Z0 E6.1) K7.1) K8.1) K12.1) b6 w11 v5 B12 w2 En12 Fm12 Fb12 old_b6 (by show 0 ≤ w11.toInt ∧ w11.toInt ≤ B12.toInt ∧ 0 ≤ v5.toInt ∧ B12.toInt - w11.toInt + v5.toInt < 9223372036854775808; omega)) rfl (by decide) (W := 0) (by decide) (by decide) (by decide) (argsL := [(.long w11), (.long v5)]) (rest := []) (by rw [hml]; rfl) (lenOf pd_1 rfl) rfl rfl (Nat.le_of_eq rfl) (hb hby at_169) ?_
                  intro T16 L16 u16 X16 hQ16
                  obtain ⟨y16, B16, rfl, Nq16, K16, En16, Fm16, Fb16, hy16⟩ := hQ16
                  have N16 := Fr.app N12 Nq16
                  show ORun p e below s _ _ _ T16 (mkF m 172 #[.val (.long p1), .second, .val (.long p2), .second, .val (.long p3), .second, .val (.long p4), .second, .val (.int p5), .val (.long (4611686018427387903 : Int64)), .second, .val (.int w1), .val (.long w2), .second, .val (.long v3), .second, .val (.long v4), .second, .val (.long v5), .second, .val (.ref b6), .val (.int y8), .val (.long w11), .second, .val (.int y12), .val (.long w15), .second, .unset, .unset, .unset, .unset, .unset] [(.int y16)])
                  refine own_by (fun t k => XS.istore X16.here hx rfl (hb hby at_172) rfl (l' := #[.val (.long p1), .second, .val (.long p2), .second, .val (.long p3), .second, .val (.long p4), .second, .val (.int p5), .val (.long (4611686018427387903 : Int64)), .second, .val (.int w1), .val (.long w2), .second, .val (.long v3), .second, .val (.long v4), .second, .val (.long v5), .second, .val (.ref b6), .val (.int y8), .val (.long w11), .second, .val (.int y12), .val (.long w15), .second, .val (.int y16), .unset, .unset, .unset, .unset]) rfl k) ?_
                  show ORun p e below s _ _ _ T16 (mkF m 174 #[.val (.long p1), .second, .val (.long p2), .second, .val (.long p3), .second, .val (.long p4), .second, .val (.int p5), .val (.long (4611686018427387903 : Int64)), .second, .val (.int w1), .val (.long w2), .second, .val (.long v3), .second, .val (.long v4), .second, .val (.long v5), .second, .val (.ref b6), .val (.int y8), .val (.long w11), .second, .val (.int y12), .val (.long w15), .second, .val (.int y16), .unset, .unset, .unset, .unset] [])
                  refine own_by (fun t k => XS.iload X16.here hx rfl (hb hby at_174) rfl k) ?_
                  show ORun p e below s _ _ _ T16 (mkF m 176 #[.val (.long p1), .second, .val (.long p2), .second, .val (.long p3), .second, .val (.long p4), .second, .val (.int p5), .val (.long (4611686018427387903 : Int64)), .second, .val (.int w1), .val (.long w2), .second, .val (.long v3), .second, .val (.long v4), .second, .val (.long v5), .second, .val (.ref b6), .val (.int y8), .val (.long w11), .second, .val (.int y12), .val (.long w15), .second, .val (.int y16), .unset, .unset, .unset, .unset] [(.int y16)])
                  have J17 : ∀ w17 : Int32, ((w17.toInt = 1 ∧ (v5.toInt ≤ w11.toInt ∨ w15.toInt + v5.toInt ≤ w2.toInt)) ∨ (w17.toInt = 0 ∧ ¬ (v5.toInt ≤ w11.toInt ∨ w15.toInt + v5.toInt ≤ w2.toInt))) → ORun p e below s (fun v h L => v = some (.int 1) ∧ Fr n0 L) room_1.cells room_1.slots T16 (mkF m 200 #[.val (.long p1), .second, .val (.long p2), .second, .val (.long p3), .second, .val (.long p4), .second, .val (.int p5), .val (.long (4611686018427387903 : Int64)), .second, .val (.int w1), .val (.long w2), .second, .val (.long v3), .second, .val (.long v4), .second, .val (.long v5), .second, .val (.ref b6), .val (.int y8), .val (.long w11), .second, .val (.int y12), .val (.long w15), .second, .val (.int y16), .unset, .unset, .unset, .unset] [(.int w17), (.int y16)]) := by
                    intro w17 hJ17
                    by_cases hc18 : y16 = w17
                    · have t18 := own_eq hc18 (a := y16.toInt) (b := w17.toInt) rfl rfl
                      refine own_by (fun t k => XS.icmpYes X16.here hx rfl (pc0 := 200) (pc' := 205) rfl (hb hby at_200) rfl (teq hc18).1 (by decide) (by decide) k) ?_
                      show ORun p e below s _ _ _ T16 (mkF m 205 #[.val (.long p1), .second, .val (.long p2), .second, .val (.long p3), .second, .val (.long p4), .second, .val (.int p5), .val (.long (4611686018427387903 : Int64)), .second, .val (.int w1), .val (.long w2), .second, .val (.long v3), .second, .val (.long v4), .second, .val (.long v5), .second, .val (.ref b6), .val (.int y8), .val (.long w11), .second, .val (.int y12), .val (.long w15), .second, .val (.int y16), .unset, .unset, .unset, .unset] [])
                      refine own_by (fun t k => XS.iload X16.here hx rfl (hb hby at_205) rfl k) ?_
                      show ORun p e below s _ _ _ T16 (mkF m 207 #[.val (.long p1), .second, .val (.long p2), .second, .val (.long p3), .second, .val (.long p4), .second, .val (.int p5), .val (.long (4611686018427387903 : Int64)), .second, .val (.int w1), .val (.long w2), .second, .val (.long v3), .second, .val (.long v4), .second, .val (.long v5), .second, .val (.ref b6), .val (.int y8), .val (.long w11), .second, .val (.int y12), .val (.long w15), .second, .val (.int y16), .unset, .unset, .unset, .unset] [(.int w1)])
                      by_cases hc19 : w1 = (0 : Int32)
                      · have t19 := own_eq hc19 (a := w1.toInt) (b := 0) rfl (by decide)
                        refine own_by (fun t k => XS.ifYes X16.here hx rfl (pc0 := 207) (pc' := 231) rfl (hb hby at_207) rfl ((if0 _ _).trans (teq hc19).1) (by decide) (by decide) k) ?_
                        show ORun p e below s _ _ _ T16 (mkF m 231 #[.val (.long p1), .second, .val (.long p2), .second, .val (.long p3), .second, .val (.long p4), .second, .val (.int p5), .val (.long (4611686018427387903 : Int64)), .second, .val (.int w1), .val (.long w2), .second, .val (.long v3), .second, .val (.long v4), .second, .val (.long v5), .second, .val (.ref b6), .val (.int y8), .val (.long w11), .second, .val (.int y12), .val (.long w15), .second, .val (.int y16), .unset, .unset, .unset, .unset] [])
                        refine own_by (fun t k => XS.lload X16.here hx rfl (hb hby at_231) rfl k) ?_
                        show ORun p e below s _ _ _ T16 (mkF m 233 #[.val (.long p1), .second, .val (.long p2), .second, .val (.long p3), .second, .val (.long p4), .second, .val (.int p5), .val (.long (4611686018427387903 : Int64)), .second, .val (.int w1), .val (.long w2), .second, .val (.long v3), .second, .val (.long v4), .second, .val (.long v5), .second, .val (.ref b6), .val (.int y8), .val (.long w11), .second, .val (.int y12), .val (.long w15), .second, .val (.int y16), .unset, .unset, .unset, .unset] [(.long w15)])
                        have J20 : ∀ w20 : Int64, ((y16.toInt = 1 ∧ w20.toInt = v5.toInt) ∨ (y16.toInt = 0 ∧ w20.toInt = w11.toInt)) → ORun p e below s (fun v h L => v = some (.int 1) ∧ Fr n0 L) room_1.cells room_1.slots T16 (mkF m 245 #[.val (.long p1), .second, .val (.long p2), .second, .val (.long p3), .second, .val (.long p4), .second, .val (.int p5), .val (.long (4611686018427387903 : Int64)), .second, .val (.int w1), .val (.long w2), .second, .val (.long v3), .second, .val (.long v4), .second, .val (.long v5), .second, .val (.ref b6), .val (.int y8), .val (.long w11), .second, .val (.int y12), .val (.long w15), .second, .val (.int y16), .unset, .unset, .unset, .unset] [(.long w20), (.long w15)]) := by
                          intro w20 hJ20
                          refine own_by (fun t k => XS.ladd X16.here hx rfl (hb hby at_245) rfl k) (own_letJ (f := (fun z => (mkF m 246 #[.val (.long p1), .second, .val (.long p2), .second, .val (.long p3), .second, .val (.long p4), .second, .val (.int p5), .val (.long (4611686018427387903 : Int64)), .second, .val (.int w1), .val (.long w2), .second, .val (.long v3), .second, .val (.long v4), .second, .val (.long v5), .second, .val (.ref b6), .val (.int y8), .val (.long w11), .second, .val (.int y12), .val (.long w15), .second, .val (.int y16), .unset, .unset, .unset, .unset] [(.long z)]))) (w15 + w20) fun v21 hv21 => ?_)
                          show ORun p e below s _ _ _ T16 (mkF m 246 #[.val (.long p1), .second, .val (.long p2), .second, .val (.long p3), .second, .val (.long p4), .second, .val (.int p5), .val (.long (4611686018427387903 : Int64)), .second, .val (.int w1), .val (.long w2), .second, .val (.long v3), .second, .val (.long v4), .second, .val (.long v5), .second, .val (.ref b6), .val (.int y8), .val (.long w11), .second, .val (.int y12), .val (.long w15), .second, .val (.int y16), .unset, .unset, .unset, .unset] [(.long v21)])
                          have r21 := rng64 v21
                          have a21 : v21.toInt = w15.toInt + w20.toInt := by
                            have q : (v21.toInt - (w15.toInt + w20.toInt)) % 18446744073709551616 = 0 := by rw [hv21]; exact c_ladd w15 w20
                            omega
                          refine own_by (fun t k => XS.lstore X16.here hx rfl (hb hby at_246) rfl (l' := #[.val (.long p1), .second, .val (.long p2), .second, .val (.long p3), .second, .val (.long p4), .second, .val (.int p5), .val (.long (4611686018427387903 : Int64)), .second, .val (.int w1), .val (.long w2), .second, .val (.long v3), .second, .val (.long v4), .second, .val (.long v5), .second, .val (.ref b6), .val (.int y8), .val (.long w11), .second, .val (.int y12), .val (.long w15), .second, .val (.int y16), .val (.long v21), .second, .unset, .unset]) rfl k) ?_
                          show ORun p e below s _ _ _ T16 (mkF m 248 #[.val (.long p1), .second, .val (.long p2), .second, .val (.long p3), .second, .val (.long p4), .second, .val (.int p5), .val (.long (4611686018427387903 : Int64)), .second, .val (.int w1), .val (.long w2), .second, .val (.long v3), .second, .val (.long v4), .second, .val (.long v5), .second, .val (.ref b6), .val (.int y8), .val (.long w11), .second, .val (.int y12), .val (.long w15), .second, .val (.int y16), .val (.long v21), .second, .unset, .unset] [])
                          refine own_by (fun t k => XS.lload X16.here hx rfl (hb hby at_248) rfl k) ?_
                          show ORun p e below s _ _ _ T16 (mkF m 250 #[.val (.long p1), .second, .val (.long p2), .second, .val (.long p3), .second, .val (.long p4), .second, .val (.int p5), .val (.long (4611686018427387903 : Int64)), .second, .val (.int w1), .val (.long w2), .second, .val (.long v3), .second, .val (.long v4), .second, .val (.long v5), .second, .val (.ref b6), .val (.int y8), .val (.long w11), .second, .val (.int y12), .val (.long w15), .second, .val (.int y16), .val (.long v21), .second, .unset, .unset] [(.long w2)])
                          refine own_by (fun t k => XS.lload X16.here hx rfl (hb hby at_250) rfl k) ?_
                          show ORun p e below s _ _ _ T16 (mkF m 252 #[.val (.long p1), .second, .val (.long p2), .second, .val (.long p3), .second, .val (.long p4), .second, .val (.int p5), .val (.long (4611686018427387903 : Int64)), .second, .val (.int w1), .val (.long w2), .second, .val (.long v3), .second, .val (.long v4), .second, .val (.long v5), .second, .val (.ref b6), .val (.int y8), .val (.long w11), .second, .val (.int y12), .val (.long w15), .second, .val (.int y16), .val (.long v21), .second, .unset, .unset] [(.long v21), (.long w2)])
                          refine own_by (fun t k => XS.lsub X16.here hx rfl (hb hby at_252) rfl k) (own_letJ (f := (fun z => (mkF m 253 #[.val (.long p1), .second, .val (.long p2), .second, .val (.long p3), .second, .val (.long p4), .second, .val (.int p5), .val (.long (4611686018427387903 : Int64)), .second, .val (.int w1), .val (.long w2), .second, .val (.long v3), .second, .val (.long v4), .second, .val (.long v5), .second, .val (.ref b6), .val (.int y8), .val (.long w11), .second, .val (.int y12), .val (.long w15), .second, .val (.int y16), .val (.long v21), .second, .unset, .unset] [(.long z)]))) (w2 - v21) fun v22 hv22 => ?_)
                          show ORun p e below s _ _ _ T16 (mkF m 253 #[.val (.long p1), .second, .val (.long p2), .second, .val (.long p3), .second, .val (.long p4), .second, .val (.int p5), .val (.long (4611686018427387903 : Int64)), .second, .val (.int w1), .val (.long w2), .second, .val (.long v3), .second, .val (.long v4), .second, .val (.long v5), .second, .val (.ref b6), .val (.int y8), .val (.long w11), .second, .val (.int y12), .val (.long w15), .second, .val (.int y16), .val (.long v21), .second, .unset, .unset] [(.long v22)])
                          have r22 := rng64 v22
                          have a22 : v22.toInt = w2.toInt - v21.toInt := by
                            have q : (v22.toInt - (w2.toInt - v21.toInt)) % 18446744073709551616 = 0 := by rw [hv22]; exact c_lsub w2 v21
                            omega
                          refine own_by (fun t k => XS.lstore X16.here hx rfl (hb hby at_253) rfl (l' := #[.val (.long p1), .second, .val (.long p2), .second, .val (.long p3), .second, .val (.long p4), .second, .val (.int p5), .val (.long (4611686018427387903 : Int64)), .second, .val (.int w1), .val (.long w2), .second, .val (.long v3), .second, .val (.long v4), .second, .val (.long v5), .second, .val (.ref b6), .val (.int y8), .val (.long w11), .second, .val (.int y12), .val (.long w15), .second, .val (.int y16), .val (.long v21), .second, .val (.long v22), .second]) rfl k) ?_
                          show ORun p e below s _ _ _ T16 (mkF m 255 #[.val (.long p1), .second, .val (.long p2), .second, .val (.long p3), .second, .val (.long p4), .second, .val (.int p5), .val (.long (4611686018427387903 : Int64)), .second, .val (.int w1), .val (.long w2), .second, .val (.long v3), .second, .val (.long v4), .second, .val (.long v5), .second, .val (.ref b6), .val (.int y8), .val (.long w11), .second, .val (.int y12), .val (.long w15), .second, .val (.int y16), .val (.long v21), .second, .val (.long v22), .second] [])
                          refine own_by (fun t k => XS.aload X16.here hx rfl (hb hby at_255) rfl rfl k) ?_
                          show ORun p e below s _ _ _ T16 (mkF m 257 #[.val (.long p1), .second, .val (.long p2), .second, .val (.long p3), .second, .val (.long p4), .second, .val (.int p5), .val (.long (4611686018427387903 : Int64)), .second, .val (.int w1), .val (.long w2), .second, .val (.long v3), .second, .val (.long v4), .second, .val (.long v5), .second, .val (.ref b6), .val (.int y8), .val (.long w11), .second, .val (.int y12), .val (.long w15), .second, .val (.int y16), .val (.long v21), .second, .val (.long v22), .second] [(.ref b6)])
                          refine own_by (fun t k => XS.lconst X16.here hx rfl (hb hby at_257) k) ?_
                          show ORun p e below s _ _ _ T16 (mkF m 258 #[.val (.long p1), .second, .val (.long p2), .second, .val (.long p3), .second, .val (.long p4), .second, .val (.int p5), .val (.long (4611686018427387903 : Int64)), .second, .val (.int w1), .val (.long w2), .second, .val (.long v3), .second, .val (.long v4), .second, .val (.long v5), .second, .val (.ref b6), .val (.int y8), .val (.long w11), .second, .val (.int y12), .val (.long w15), .second, .val (.int y16), .val (.long v21), .second, .val (.long v22), .second] [(.long (0 : Int64)), (.ref b6)])
                          refine own_by (fun t k => XS.lload X16.here hx rfl (hb hby at_258) rfl k) ?_
                          show ORun p e below s _ _ _ T16 (mkF m 260 #[.val (.long p1), .second, .val (.long p2), .second, .val (.long p3), .second, .val (.long p4), .second, .val (.int p5), .val (.long (4611686018427387903 : Int64)), .second, .val (.int w1), .val (.long w2), .second, .val (.long v3), .second, .val (.long v4), .second, .val (.long v5), .second, .val (.ref b6), .val (.int y8), .val (.long w11), .second, .val (.int y12), .val (.long w15), .second, .val (.int y16), .val (.long v21), .second, .val (.long v22), .second] [(.long v22), (.long (0 : Int64)), (.ref b6)])
                          refine own_by (fun t k => XS.lconst X16.here hx rfl (hb hby at_260) k) ?_
                          show ORun p e below s _ _ _ T16 (mkF m 261 #[.val (.long p1), .second, .val (.long p2), .second, .val (.long p3), .second, .val (.long p4), .second, .val (.int p5), .val (.long (4611686018427387903 : Int64)), .second, .val (.int w1), .val (.long w2), .second, .val (.long v3), .second, .val (.long v4), .second, .val (.long v5), .second, .val (.ref b6), .val (.int y8), .val (.long w11), .second, .val (.int y12), .val (.long w15), .second, .val (.int y16), .val (.long v21), .second, .val (.long v22), .second] [(.long (1 : Int64)), (.long v22), (.long (0 : Int64)), (.ref b6)])
                          refine own_by (fun t k => XS.ladd X16.here hx rfl (hb hby at_261) rfl k) (own_letJ (f := (fun z => (mkF m 262 #[.val (.long p1), .second, .val (.long p2), .second, .val (.long p3), .second, .val (.long p4), .second, .val (.int p5), .val (.long (4611686018427387903 : Int64)), .second, .val (.int w1), .val (.long w2), .second, .val (.long v3), .second, .val (.long v4), .second, .val (.long v5), .second, .val (.ref b6), .val (.int y8), .val (.long w11), .second, .val (.int y12), .val (.long w15), .second, .val (.int y16), .val (.long v21), .second, .val (.long v22), .second] [(.long z), (.long (0 : Int64)), (.ref b6)]))) (v22 + (1 : Int64)) fun v23 hv23 => ?_)
                          show ORun p e below s _ _ _ T16 (mkF m 262 #[.val (.long p1), .second, .val (.long p2), .second, .val (.long p3), .second, .val (.long p4), .second, .val (.int p5), .val (.long (4611686018427387903 : Int64)), .second, .val (.int w1), .val (.long w2), .second, .val (.long v3), .second, .val (.long v4), .second, .val (.long v5), .second, .val (.ref b6), .val (.int y8), .val (.long w11), .second, .val (.int y12), .val (.long w15), .second, .val (.int y16), .val (.long v21), .second, .val (.long v22), .second] [(.long v23), (.long (0 : Int64)), (.ref b6)])
                          have r23 := rng64 v23
                          have a23 : v23.toInt = v22.toInt + 1 := by
                            have q : (v23.toInt - (v22.toInt + 1)) % 18446744073709551616 = 0 := by rw [hv23]; exact c_ladd v22 (1 : Int64)
                            omega
                          refine own_callV X16 hx hZ hown En16 (hw _ (List.mem_of_getElem? (i := 13) rfl)) (hw _ (List.mem_of_getElem? (i := 14) rfl)) (notFace_of_selects (args := #[]) (mvT hZ (hw _ (List.mem_of_getElem? (i := 16) rfl)))) (hw _ (List.mem_of_getElem? (i := 16) rfl)) (hw _ (List.mem_of_getElem? (i := 15) rfl)) (hw _ (List.mem_of_getElem? (i := 4) rfl)) (hw _ (List.mem_of_getElem? (i := 17) rfl)) (by decide) (rm3 l Z a0 hw [] T16.heap n0 (Nat.le_trans (Nat.le_trans (Nat.le_trans (Nat.le_trans (Nat.le_trans Z0 E6.1) K7.1) K8.1) K12.1) K16.1) b6 (0 : Int64) v23 B16 w2 En16 Fm16 Fb16 old_b6 (by show 0 ≤ 0 ∧ 0 ≤ B16.toInt ∧ 0 ≤ v23.toInt ∧ B16.toInt - 0 + v23.toInt < 9223372036854775808; omega)) rfl (by decide) (W := 0) (by decide) (by decide) (by decide) (argsL := [(.long (0 : Int64)), (.long v23)]) (rest := []) (by rw [hml]; rfl) (lenOf pd_1 rfl) rfl rfl (Nat.le_of_eq rfl) (hb hby at_262) ?_
                          intro T24 L24 u24 X24 hQ24
                          obtain ⟨y24, B24, rfl, Nq24, K24, En24, Fm24, Fb24, hy24⟩ := hQ24
                          have N24 := Fr.app N16 Nq24
                          have tz24 : ((0 : Int64)).toInt = 0 := by decide
                          show ORun p e below s _ _ _ T24 (mkF m 265 #[.val (.long p1), .second, .val (.long p2), .second, .val (.long p3), .second, .val (.long p4), .second, .val (.int p5), .val (.long (4611686018427387903 : Int64)), .second, .val (.int w1), .val (.long w2), .second, .val (.long v3), .second, .val (.long v4), .second, .val (.long v5), .second, .val (.ref b6), .val (.int y8), .val (.long w11), .second, .val (.int y12), .val (.long w15), .second, .val (.int y16), .val (.long v21), .second, .val (.long v22), .second] [(.int y24)])
                          by_cases hc25 : y24 = (0 : Int32)
                          · have t25 := own_eq hc25 (a := y24.toInt) (b := 0) rfl (by decide)
                            refine own_by (fun t k => XS.ifYes X24.here hx rfl (pc0 := 265) (pc' := 270) rfl (hb hby at_265) rfl ((if0 _ _).trans (teq hc25).1) (by decide) (by decide) k) ?_
                            show ORun p e below s _ _ _ T24 (mkF m 270 #[.val (.long p1), .second, .val (.long p2), .second, .val (.long p3), .second, .val (.long p4), .second, .val (.int p5), .val (.long (4611686018427387903 : Int64)), .second, .val (.int w1), .val (.long w2), .second, .val (.long v3), .second, .val (.long v4), .second, .val (.long v5), .second, .val (.ref b6), .val (.int y8), .val (.long w11), .second, .val (.int y12), .val (.long w15), .second, .val (.int y16), .val (.long v21), .second, .val (.long v22), .second] [])
                            refine own_by (fun t k => XS.aload X24.here hx rfl (hb hby at_270) rfl rfl k) ?_
                            show ORun p e below s _ _ _ T24 (mkF m 272 #[.val (.long p1), .second, .val (.long p2), .second, .val (.long p3), .second, .val (.long p4), .second, .val (.int p5), .val (.long (4611686018427387903 : Int64)), .second, .val (.int w1), .val (.long w2), .second, .val (.long v3), .second, .val (.long v4), .second, .val (.long v5), .second, .val (.ref b6), .val (.int y8), .val (.long w11), .second, .val (.int y12), .val (.long w15), .second, .val (.int y16), .val (.long v21), .second, .val (.long v22), .second] [(.ref b6)])
                            refine own_by (fun t k => XS.lconst X24.here hx rfl (hb hby at_272) k) ?_
                            show ORun p e below s _ _ _ T24 (mkF m 273 #[.val (.long p1), .second, .val (.long p2), .second, .val (.long p3), .second, .val (.long p4), .second, .val (.int p5), .val (.long (4611686018427387903 : Int64)), .second, .val (.int w1), .val (.long w2), .second, .val (.long v3), .second, .val (.long v4), .second, .val (.long v5), .second, .val (.ref b6), .val (.int y8), .val (.long w11), .second, .val (.int y12), .val (.long w15), .second, .val (.int y16), .val (.long v21), .second, .val (.long v22), .second] [(.long (0 : Int64)), (.ref b6)])
                            refine own_by (fun t k => XS.lload X24.here hx rfl (hb hby at_273) rfl k) ?_
                            show ORun p e below s _ _ _ T24 (mkF m 275 #[.val (.long p1), .second, .val (.long p2), .second, .val (.long p3), .second, .val (.long p4), .second, .val (.int p5), .val (.long (4611686018427387903 : Int64)), .second, .val (.int w1), .val (.long w2), .second, .val (.long v3), .second, .val (.long v4), .second, .val (.long v5), .second, .val (.ref b6), .val (.int y8), .val (.long w11), .second, .val (.int y12), .val (.long w15), .second, .val (.int y16), .val (.long v21), .second, .val (.long v22), .second] [(.long v22), (.long (0 : Int64)), (.ref b6)])
                            refine own_callV X24 hx hZ hown En24 (hw _ (List.mem_of_getElem? (i := 13) rfl)) (hw _ (List.mem_of_getElem? (i := 14) rfl)) (notFace_of_selects (args := #[]) (mvT hZ (hw _ (List.mem_of_getElem? (i := 16) rfl)))) (hw _ (List.mem_of_getElem? (i := 16) rfl)) (hw _ (List.mem_of_getElem? (i := 15) rfl)) (hw _ (List.mem_of_getElem? (i := 4) rfl)) (hw _ (List.mem_of_getElem? (i := 17) rfl)) (by decide) (rm3 l Z a0 hw [] T24.heap n0 (Nat.le_trans (Nat.le_trans (Nat.le_trans (Nat.le_trans (Nat.le_trans (Nat.le_trans Z0 E6.1) K7.1) K8.1) K12.1) K16.1) K24.1) b6 (0 : Int64) v22 B24 w2 En24 Fm24 Fb24 old_b6 (by show 0 ≤ 0 ∧ 0 ≤ B24.toInt ∧ 0 ≤ v22.toInt ∧ B24.toInt - 0 + v22.toInt < 9223372036854775808; omega)) rfl (by decide) (W := 0) (by decide) (by decide) (by decide) (argsL := [(.long (0 : Int64)), (.long v22)]) (rest := []) (by rw [hml]; rfl) (lenOf pd_1 rfl) rfl rfl (Nat.le_of_eq rfl) (hb hby at_275) ?_
                            intro T26 L26 u26 X26 hQ26
                            obtain ⟨y26, B26, rfl, Nq26, K26, En26, Fm26, Fb26, hy26⟩ := hQ26
                            have N26 := Fr.app N24 Nq26
                            have tz26 : ((0 : Int64)).toInt = 0 := by decide
                            show ORun p e below s _ _ _ T26 (mkF m 278 #[.val (.long p1), .second, .val (.long p2), .second, .val (.long p3), .second, .val (.long p4), .second, .val (.int p5), .val (.long (4611686018427387903 : Int64)), .second, .val (.int w1), .val (.long w2), .second, .val (.long v3), .second, .val (.long v4), .second, .val (.long v5), .second, .val (.ref b6), .val (.int y8), .val (.long w11), .second, .val (.int y12), .val (.long w15), .second, .val (.int y16), .val (.long v21), .second, .val (.long v22), .second] [(.int y26)])
                            refine own_retN X26 hx (t := .boolean) hret (by simp) hlk (hb hby at_278) (by decide) (by decide) ?_
                            have hz : y26 = 1 := Int32.toInt_inj.mp (show y26.toInt = 1 by omega)
                            rw [hz]
                            exact ⟨rfl, N26⟩
                          · have t25 := own_ne hc25 (a := y24.toInt) (b := 0) rfl (by decide)
                            refine own_by (fun t k => XS.ifNo X24.here hx rfl (hb hby at_265) rfl ((if0 _ _).trans (feq hc25).1) k) ?_
                            show ORun p e below s _ _ _ T24 (mkF m 268 #[.val (.long p1), .second, .val (.long p2), .second, .val (.long p3), .second, .val (.long p4), .second, .val (.int p5), .val (.long (4611686018427387903 : Int64)), .second, .val (.int w1), .val (.long w2), .second, .val (.long v3), .second, .val (.long v4), .second, .val (.long v5), .second, .val (.ref b6), .val (.int y8), .val (.long w11), .second, .val (.int y12), .val (.long w15), .second, .val (.int y16), .val (.long v21), .second, .val (.long v22), .second] [])
                            refine own_by (fun t k => XS.iconst X24.here hx rfl (hb hby at_268) k) ?_
                            show ORun p e below s _ _ _ T24 (mkF m 269 #[.val (.long p1), .second, .val (.long p2), .second, .val (.long p3), .second, .val (.long p4), .second, .val (.int p5), .val (.long (4611686018427387903 : Int64)), .second, .val (.int w1), .val (.long w2), .second, .val (.long v3), .second, .val (.long v4), .second, .val (.long v5), .second, .val (.ref b6), .val (.int y8), .val (.long w11), .second, .val (.int y12), .val (.long w15), .second, .val (.int y16), .val (.long v21), .second, .val (.long v22), .second] [(.int (0 : Int32))])
                            refine own_retN X24 hx (t := .boolean) hret (by simp) hlk (hb hby at_269) (by decide) (by decide) ?_
                            exfalso
                            omega
                        refine own_by (fun t k => XS.iload X16.here hx rfl (hb hby at_233) rfl k) ?_
                        show ORun p e below s _ _ _ T16 (mkF m 235 #[.val (.long p1), .second, .val (.long p2), .second, .val (.long p3), .second, .val (.long p4), .second, .val (.int p5), .val (.long (4611686018427387903 : Int64)), .second, .val (.int w1), .val (.long w2), .second, .val (.long v3), .second, .val (.long v4), .second, .val (.long v5), .second, .val (.ref b6), .val (.int y8), .val (.long w11), .second, .val (.int y12), .val (.long w15), .second, .val (.int y16), .unset, .unset, .unset, .unset] [(.int y16), (.long w15)])
                        by_cases hc27 : y16 = (0 : Int32)
                        · have t27 := own_eq hc27 (a := y16.toInt) (b := 0) rfl (by decide)
                          refine own_by (fun t k => XS.ifYes X16.here hx rfl (pc0 := 235) (pc' := 243) rfl (hb hby at_235) rfl ((if0 _ _).trans (teq hc27).1) (by decide) (by decide) k) ?_
                          show ORun p e below s _ _ _ T16 (mkF m 243 #[.val (.long p1), .second, .val (.long p2), .second, .val (.long p3), .second, .val (.long p4), .second, .val (.int p5), .val (.long (4611686018427387903 : Int64)), .second, .val (.int w1), .val (.long w2), .second, .val (.long v3), .second, .val (.long v4), .second, .val (.long v5), .second, .val (.ref b6), .val (.int y8), .val (.long w11), .second, .val (.int y12), .val (.long w15), .second, .val (.int y16), .unset, .unset, .unset, .unset] [(.long w15)])
                          refine own_by (fun t k => XS.lload X16.here hx rfl (hb hby at_243) rfl k) ?_
                          show ORun p e below s _ _ _ T16 (mkF m 245 #[.val (.long p1), .second, .val (.long p2), .second, .val (.long p3), .second, .val (.long p4), .second, .val (.int p5), .val (.long (4611686018427387903 : Int64)), .second, .val (.int w1), .val (.long w2), .second, .val (.long v3), .second, .val (.long v4), .second, .val (.long v5), .second, .val (.ref b6), .val (.int y8), .val (.long w11), .second, .val (.int y12), .val (.long w15), .second, .val (.int y16), .unset, .unset, .unset, .unset] [(.long w11), (.long w15)])
                          exact J20 w11 (by omega)
                        · have t27 := own_ne hc27 (a := y16.toInt) (b := 0) rfl (by decide)
                          refine own_by (fun t k => XS.ifNo X16.here hx rfl (hb hby at_235) rfl ((if0 _ _).trans (feq hc27).1) k) ?_
                          show ORun p e below s _ _ _ T16 (mkF m 238 #[.val (.long p1), .second, .val (.long p2), .second, .val (.long p3), .second, .val (.long p4), .second, .val (.int p5), .val (.long (4611686018427387903 : Int64)), .second, .val (.int w1), .val (.long w2), .second, .val (.long v3), .second, .val (.long v4), .second, .val (.long v5), .second, .val (.ref b6), .val (.int y8), .val (.long w11), .second, .val (.int y12), .val (.long w15), .second, .val (.int y16), .unset, .unset, .unset, .unset] [(.long w15)])
                          refine own_by (fun t k => XS.lload X16.here hx rfl (hb hby at_238) rfl k) ?_
                          show ORun p e below s _ _ _ T16 (mkF m 240 #[.val (.long p1), .second, .val (.long p2), .second, .val (.long p3), .second, .val (.long p4), .second, .val (.int p5), .val (.long (4611686018427387903 : Int64)), .second, .val (.int w1), .val (.long w2), .second, .val (.long v3), .second, .val (.long v4), .second, .val (.long v5), .second, .val (.ref b6), .val (.int y8), .val (.long w11), .second, .val (.int y12), .val (.long w15), .second, .val (.int y16), .unset, .unset, .unset, .unset] [(.long v5), (.long w15)])
                          refine own_by (fun t k => XS.goto X16.here hx rfl (pc0 := 240) (pc' := 245) rfl (hb hby at_240) (by decide) (by decide) k) ?_
                          show ORun p e below s _ _ _ T16 (mkF m 245 #[.val (.long p1), .second, .val (.long p2), .second, .val (.long p3), .second, .val (.long p4), .second, .val (.int p5), .val (.long (4611686018427387903 : Int64)), .second, .val (.int w1), .val (.long w2), .second, .val (.long v3), .second, .val (.long v4), .second, .val (.long v5), .second, .val (.ref b6), .val (.int y8), .val (.long w11), .second, .val (.int y12), .val (.long w15), .second, .val (.int y16), .unset, .unset, .unset, .unset] [(.long v5), (.long w15)])
                          exact J20 v5 (by omega)
                      · have t19 := own_ne hc19 (a := w1.toInt) (b := 0) rfl (by decide)
                        refine own_by (fun t k => XS.ifNo X16.here hx rfl (hb hby at_207) rfl ((if0 _ _).trans (feq hc19).1) k) ?_
                        show ORun p e below s _ _ _ T16 (mkF m 210 #[.val (.long p1), .second, .val (.long p2), .second, .val (.long p3), .second, .val (.long p4), .second, .val (.int p5), .val (.long (4611686018427387903 : Int64)), .second, .val (.int w1), .val (.long w2), .second, .val (.long v3), .second, .val (.long v4), .second, .val (.long v5), .second, .val (.ref b6), .val (.int y8), .val (.long w11), .second, .val (.int y12), .val (.long w15), .second, .val (.int y16), .unset, .unset, .unset, .unset] [])
                        refine own_by (fun t k => XS.iload X16.here hx rfl (hb hby at_210) rfl k) ?_
                        show ORun p e below s _ _ _ T16 (mkF m 212 #[.val (.long p1), .second, .val (.long p2), .second, .val (.long p3), .second, .val (.long p4), .second, .val (.int p5), .val (.long (4611686018427387903 : Int64)), .second, .val (.int w1), .val (.long w2), .second, .val (.long v3), .second, .val (.long v4), .second, .val (.long v5), .second, .val (.ref b6), .val (.int y8), .val (.long w11), .second, .val (.int y12), .val (.long w15), .second, .val (.int y16), .unset, .unset, .unset, .unset] [(.int y8)])
                        by_cases hc28 : y8 = (0 : Int32)
                        · have t28 := own_eq hc28 (a := y8.toInt) (b := 0) rfl (by decide)
                          refine own_by (fun t k => XS.ifYes X16.here hx rfl (pc0 := 212) (pc' := 229) rfl (hb hby at_212) rfl ((if0 _ _).trans (teq hc28).1) (by decide) (by decide) k) ?_
                          show ORun p e below s _ _ _ T16 (mkF m 229 #[.val (.long p1), .second, .val (.long p2), .second, .val (.long p3), .second, .val (.long p4), .second, .val (.int p5), .val (.long (4611686018427387903 : Int64)), .second, .val (.int w1), .val (.long w2), .second, .val (.long v3), .second, .val (.long v4), .second, .val (.long v5), .second, .val (.ref b6), .val (.int y8), .val (.long w11), .second, .val (.int y12), .val (.long w15), .second, .val (.int y16), .unset, .unset, .unset, .unset] [])
                          refine own_by (fun t k => XS.iconst X16.here hx rfl (hb hby at_229) k) ?_
                          show ORun p e below s _ _ _ T16 (mkF m 230 #[.val (.long p1), .second, .val (.long p2), .second, .val (.long p3), .second, .val (.long p4), .second, .val (.int p5), .val (.long (4611686018427387903 : Int64)), .second, .val (.int w1), .val (.long w2), .second, .val (.long v3), .second, .val (.long v4), .second, .val (.long v5), .second, .val (.ref b6), .val (.int y8), .val (.long w11), .second, .val (.int y12), .val (.long w15), .second, .val (.int y16), .unset, .unset, .unset, .unset] [(.int (0 : Int32))])
                          refine own_retN X16 hx (t := .boolean) hret (by simp) hlk (hb hby at_230) (by decide) (by decide) ?_
                          exfalso
                          omega
                        · have t28 := own_ne hc28 (a := y8.toInt) (b := 0) rfl (by decide)
                          refine own_by (fun t k => XS.ifNo X16.here hx rfl (hb hby at_212) rfl ((if0 _ _).trans (feq hc28).1) k) ?_
                          show ORun p e below s _ _ _ T16 (mkF m 215 #[.val (.long p1), .second, .val (.long p2), .second, .val (.long p3), .second, .val (.long p4), .second, .val (.int p5), .val (.long (4611686018427387903 : Int64)), .second, .val (.int w1), .val (.long w2), .second, .val (.long v3), .second, .val (.long v4), .second, .val (.long v5), .second, .val (.ref b6), .val (.int y8), .val (.long w11), .second, .val (.int y12), .val (.long w15), .second, .val (.int y16), .unset, .unset, .unset, .unset] [])
                          refine own_by (fun t k => XS.iload X16.here hx rfl (hb hby at_215) rfl k) ?_
                          show ORun p e below s _ _ _ T16 (mkF m 217 #[.val (.long p1), .second, .val (.long p2), .second, .val (.long p3), .second, .val (.long p4), .second, .val (.int p5), .val (.long (4611686018427387903 : Int64)), .second, .val (.int w1), .val (.long w2), .second, .val (.long v3), .second, .val (.long v4), .second, .val (.long v5), .second, .val (.ref b6), .val (.int y8), .val (.long w11), .second, .val (.int y12), .val (.long w15), .second, .val (.int y16), .unset, .unset, .unset, .unset] [(.int y12)])
                          by_cases hc29 : y12 = (0 : Int32)
                          · have t29 := own_eq hc29 (a := y12.toInt) (b := 0) rfl (by decide)
                            refine own_by (fun t k => XS.ifYes X16.here hx rfl (pc0 := 217) (pc' := 229) rfl (hb hby at_217) rfl ((if0 _ _).trans (teq hc29).1) (by decide) (by decide) k) ?_
                            show ORun p e below s _ _ _ T16 (mkF m 229 #[.val (.long p1), .second, .val (.long p2), .second, .val (.long p3), .second, .val (.long p4), .second, .val (.int p5), .val (.long (4611686018427387903 : Int64)), .second, .val (.int w1), .val (.long w2), .second, .val (.long v3), .second, .val (.long v4), .second, .val (.long v5), .second, .val (.ref b6), .val (.int y8), .val (.long w11), .second, .val (.int y12), .val (.long w15), .second, .val (.int y16), .unset, .unset, .unset, .unset] [])
                            refine own_by (fun t k => XS.iconst X16.here hx rfl (hb hby at_229) k) ?_
                            show ORun p e below s _ _ _ T16 (mkF m 230 #[.val (.long p1), .second, .val (.long p2), .second, .val (.long p3), .second, .val (.long p4), .second, .val (.int p5), .val (.long (4611686018427387903 : Int64)), .second, .val (.int w1), .val (.long w2), .second, .val (.long v3), .second, .val (.long v4), .second, .val (.long v5), .second, .val (.ref b6), .val (.int y8), .val (.long w11), .second, .val (.int y12), .val (.long w15), .second, .val (.int y16), .unset, .unset, .unset, .unset] [(.int (0 : Int32))])
                            refine own_retN X16 hx (t := .boolean) hret (by simp) hlk (hb hby at_230) (by decide) (by decide) ?_
                            exfalso
                            omega
                          · have t29 := own_ne hc29 (a := y12.toInt) (b := 0) rfl (by decide)
                            refine own_by (fun t k => XS.ifNo X16.here hx rfl (hb hby at_217) rfl ((if0 _ _).trans (feq hc29).1) k) ?_
                            show ORun p e below s _ _ _ T16 (mkF m 220 #[.val (.long p1), .second, .val (.long p2), .second, .val (.long p3), .second, .val (.long p4), .second, .val (.int p5), .val (.long (4611686018427387903 : Int64)), .second, .val (.int w1), .val (.long w2), .second, .val (.long v3), .second, .val (.long v4), .second, .val (.long v5), .second, .val (.ref b6), .val (.int y8), .val (.long w11), .second, .val (.int y12), .val (.long w15), .second, .val (.int y16), .unset, .unset, .unset, .unset] [])
                            refine own_by (fun t k => XS.iload X16.here hx rfl (hb hby at_220) rfl k) ?_
                            show ORun p e below s _ _ _ T16 (mkF m 222 #[.val (.long p1), .second, .val (.long p2), .second, .val (.long p3), .second, .val (.long p4), .second, .val (.int p5), .val (.long (4611686018427387903 : Int64)), .second, .val (.int w1), .val (.long w2), .second, .val (.long v3), .second, .val (.long v4), .second, .val (.long v5), .second, .val (.ref b6), .val (.int y8), .val (.long w11), .second, .val (.int y12), .val (.long w15), .second, .val (.int y16), .unset, .unset, .unset, .unset] [(.int y16)])
                            by_cases hc30 : y16 = (0 : Int32)
                            · have t30 := own_eq hc30 (a := y16.toInt) (b := 0) rfl (by decide)
                              refine own_by (fun t k => XS.ifYes X16.here hx rfl (pc0 := 222) (pc' := 229) rfl (hb hby at_222) rfl ((if0 _ _).trans (teq hc30).1) (by decide) (by decide) k) ?_
                              show ORun p e below s _ _ _ T16 (mkF m 229 #[.val (.long p1), .second, .val (.long p2), .second, .val (.long p3), .second, .val (.long p4), .second, .val (.int p5), .val (.long (4611686018427387903 : Int64)), .second, .val (.int w1), .val (.long w2), .second, .val (.long v3), .second, .val (.long v4), .second, .val (.long v5), .second, .val (.ref b6), .val (.int y8), .val (.long w11), .second, .val (.int y12), .val (.long w15), .second, .val (.int y16), .unset, .unset, .unset, .unset] [])
                              refine own_by (fun t k => XS.iconst X16.here hx rfl (hb hby at_229) k) ?_
                              show ORun p e below s _ _ _ T16 (mkF m 230 #[.val (.long p1), .second, .val (.long p2), .second, .val (.long p3), .second, .val (.long p4), .second, .val (.int p5), .val (.long (4611686018427387903 : Int64)), .second, .val (.int w1), .val (.long w2), .second, .val (.long v3), .second, .val (.long v4), .second, .val (.long v5), .second, .val (.ref b6), .val (.int y8), .val (.long w11), .second, .val (.int y12), .val (.long w15), .second, .val (.int y16), .unset, .unset, .unset, .unset] [(.int (0 : Int32))])
                              refine own_retN X16 hx (t := .boolean) hret (by simp) hlk (hb hby at_230) (by decide) (by decide) ?_
                              exfalso
                              omega
                            · have t30 := own_ne hc30 (a := y16.toInt) (b := 0) rfl (by decide)
                              refine own_by (fun t k => XS.ifNo X16.here hx rfl (hb hby at_222) rfl ((if0 _ _).trans (feq hc30).1) k) ?_
                              show ORun p e below s _ _ _ T16 (mkF m 225 #[.val (.long p1), .second, .val (.long p2), .second, .val (.long p3), .second, .val (.long p4), .second, .val (.int p5), .val (.long (4611686018427387903 : Int64)), .second, .val (.int w1), .val (.long w2), .second, .val (.long v3), .second, .val (.long v4), .second, .val (.long v5), .second, .val (.ref b6), .val (.int y8), .val (.long w11), .second, .val (.int y12), .val (.long w15), .second, .val (.int y16), .unset, .unset, .unset, .unset] [])
                              refine own_by (fun t k => XS.iconst X16.here hx rfl (hb hby at_225) k) ?_
                              show ORun p e below s _ _ _ T16 (mkF m 226 #[.val (.long p1), .second, .val (.long p2), .second, .val (.long p3), .second, .val (.long p4), .second, .val (.int p5), .val (.long (4611686018427387903 : Int64)), .second, .val (.int w1), .val (.long w2), .second, .val (.long v3), .second, .val (.long v4), .second, .val (.long v5), .second, .val (.ref b6), .val (.int y8), .val (.long w11), .second, .val (.int y12), .val (.long w15), .second, .val (.int y16), .unset, .unset, .unset, .unset] [(.int (1 : Int32))])
                              refine own_by (fun t k => XS.goto X16.here hx rfl (pc0 := 226) (pc' := 230) rfl (hb hby at_226) (by decide) (by decide) k) ?_
                              show ORun p e below s _ _ _ T16 (mkF m 230 #[.val (.long p1), .second, .val (.long p2), .second, .val (.long p3), .second, .val (.long p4), .second, .val (.int p5), .val (.long (4611686018427387903 : Int64)), .second, .val (.int w1), .val (.long w2), .second, .val (.long v3), .second, .val (.long v4), .second, .val (.long v5), .second, .val (.ref b6), .val (.int y8), .val (.long w11), .second, .val (.int y12), .val (.long w15), .second, .val (.int y16), .unset, .unset, .unset, .unset] [(.int (1 : Int32))])
                              refine own_retN X16 hx (t := .boolean) hret (by simp) hlk (hb hby at_230) (by decide) (by decide) ?_
                              exact ⟨rfl, N16⟩
                    · have t18 := own_ne hc18 (a := y16.toInt) (b := w17.toInt) rfl rfl
                      refine own_by (fun t k => XS.icmpNo X16.here hx rfl (hb hby at_200) rfl (feq hc18).1 k) ?_
                      show ORun p e below s _ _ _ T16 (mkF m 203 #[.val (.long p1), .second, .val (.long p2), .second, .val (.long p3), .second, .val (.long p4), .second, .val (.int p5), .val (.long (4611686018427387903 : Int64)), .second, .val (.int w1), .val (.long w2), .second, .val (.long v3), .second, .val (.long v4), .second, .val (.long v5), .second, .val (.ref b6), .val (.int y8), .val (.long w11), .second, .val (.int y12), .val (.long w15), .second, .val (.int y16), .unset, .unset, .unset, .unset] [])
                      refine own_by (fun t k => XS.iconst X16.here hx rfl (hb hby at_203) k) ?_
                      show ORun p e below s _ _ _ T16 (mkF m 204 #[.val (.long p1), .second, .val (.long p2), .second, .val (.long p3), .second, .val (.long p4), .second, .val (.int p5), .val (.long (4611686018427387903 : Int64)), .second, .val (.int w1), .val (.long w2), .second, .val (.long v3), .second, .val (.long v4), .second, .val (.long v5), .second, .val (.ref b6), .val (.int y8), .val (.long w11), .second, .val (.int y12), .val (.long w15), .second, .val (.int y16), .unset, .unset, .unset, .unset] [(.int (0 : Int32))])
                      refine own_retN X16 hx (t := .boolean) hret (by simp) hlk (hb hby at_204) (by decide) (by decide) ?_
                      exfalso
                      omega
                  refine own_by (fun t k => XS.lload X16.here hx rfl (hb hby at_176) rfl k) ?_
                  show ORun p e below s _ _ _ T16 (mkF m 178 #[.val (.long p1), .second, .val (.long p2), .second, .val (.long p3), .second, .val (.long p4), .second, .val (.int p5), .val (.long (4611686018427387903 : Int64)), .second, .val (.int w1), .val (.long w2), .second, .val (.long v3), .second, .val (.long v4), .second, .val (.long v5), .second, .val (.ref b6), .val (.int y8), .val (.long w11), .second, .val (.int y12), .val (.long w15), .second, .val (.int y16), .unset, .unset, .unset, .unset] [(.long v5), (.int y16)])
                  refine own_by (fun t k => XS.lload X16.here hx rfl (hb hby at_178) rfl k) ?_
                  show ORun p e below s _ _ _ T16 (mkF m 180 #[.val (.long p1), .second, .val (.long p2), .second, .val (.long p3), .second, .val (.long p4), .second, .val (.int p5), .val (.long (4611686018427387903 : Int64)), .second, .val (.int w1), .val (.long w2), .second, .val (.long v3), .second, .val (.long v4), .second, .val (.long v5), .second, .val (.ref b6), .val (.int y8), .val (.long w11), .second, .val (.int y12), .val (.long w15), .second, .val (.int y16), .unset, .unset, .unset, .unset] [(.long w11), (.long v5), (.int y16)])
                  refine own_by (fun t k => XS.lcmp X16.here hx rfl (hb hby at_180) rfl k) ?_
                  show ORun p e below s _ _ _ T16 (mkF m 181 #[.val (.long p1), .second, .val (.long p2), .second, .val (.long p3), .second, .val (.long p4), .second, .val (.int p5), .val (.long (4611686018427387903 : Int64)), .second, .val (.int w1), .val (.long w2), .second, .val (.long v3), .second, .val (.long v4), .second, .val (.long v5), .second, .val (.ref b6), .val (.int y8), .val (.long w11), .second, .val (.int y12), .val (.long w15), .second, .val (.int y16), .unset, .unset, .unset, .unset] [(.int (lcmpW v5 w11)), (.int y16)])
                  by_cases hc31 : w11 < v5
                  · have t31 := own_ltL hc31 (a := w11.toInt) (b := v5.toInt) rfl rfl
                    refine own_by (fun t k => XS.ifNo X16.here hx rfl (hb hby at_181) rfl (own_lcgt hc31).2 k) ?_
                    show ORun p e below s _ _ _ T16 (mkF m 184 #[.val (.long p1), .second, .val (.long p2), .second, .val (.long p3), .second, .val (.long p4), .second, .val (.int p5), .val (.long (4611686018427387903 : Int64)), .second, .val (.int w1), .val (.long w2), .second, .val (.long v3), .second, .val (.long v4), .second, .val (.long v5), .second, .val (.ref b6), .val (.int y8), .val (.long w11), .second, .val (.int y12), .val (.long w15), .second, .val (.int y16), .unset, .unset, .unset, .unset] [(.int y16)])
                    refine own_by (fun t k => XS.lload X16.here hx rfl (hb hby at_184) rfl k) ?_
                    show ORun p e below s _ _ _ T16 (mkF m 186 #[.val (.long p1), .second, .val (.long p2), .second, .val (.long p3), .second, .val (.long p4), .second, .val (.int p5), .val (.long (4611686018427387903 : Int64)), .second, .val (.int w1), .val (.long w2), .second, .val (.long v3), .second, .val (.long v4), .second, .val (.long v5), .second, .val (.ref b6), .val (.int y8), .val (.long w11), .second, .val (.int y12), .val (.long w15), .second, .val (.int y16), .unset, .unset, .unset, .unset] [(.long w15), (.int y16)])
                    refine own_by (fun t k => XS.lload X16.here hx rfl (hb hby at_186) rfl k) ?_
                    show ORun p e below s _ _ _ T16 (mkF m 188 #[.val (.long p1), .second, .val (.long p2), .second, .val (.long p3), .second, .val (.long p4), .second, .val (.int p5), .val (.long (4611686018427387903 : Int64)), .second, .val (.int w1), .val (.long w2), .second, .val (.long v3), .second, .val (.long v4), .second, .val (.long v5), .second, .val (.ref b6), .val (.int y8), .val (.long w11), .second, .val (.int y12), .val (.long w15), .second, .val (.int y16), .unset, .unset, .unset, .unset] [(.long v5), (.long w15), (.int y16)])
                    refine own_by (fun t k => XS.ladd X16.here hx rfl (hb hby at_188) rfl k) (own_letJ (f := (fun z => (mkF m 189 #[.val (.long p1), .second, .val (.long p2), .second, .val (.long p3), .second, .val (.long p4), .second, .val (.int p5), .val (.long (4611686018427387903 : Int64)), .second, .val (.int w1), .val (.long w2), .second, .val (.long v3), .second, .val (.long v4), .second, .val (.long v5), .second, .val (.ref b6), .val (.int y8), .val (.long w11), .second, .val (.int y12), .val (.long w15), .second, .val (.int y16), .unset, .unset, .unset, .unset] [(.long z), (.int y16)]))) (w15 + v5) fun v32 hv32 => ?_)
                    show ORun p e below s _ _ _ T16 (mkF m 189 #[.val (.long p1), .second, .val (.long p2), .second, .val (.long p3), .second, .val (.long p4), .second, .val (.int p5), .val (.long (4611686018427387903 : Int64)), .second, .val (.int w1), .val (.long w2), .second, .val (.long v3), .second, .val (.long v4), .second, .val (.long v5), .second, .val (.ref b6), .val (.int y8), .val (.long w11), .second, .val (.int y12), .val (.long w15), .second, .val (.int y16), .unset, .unset, .unset, .unset] [(.long v32), (.int y16)])
                    have r32 := rng64 v32
                    have a32 : v32.toInt = w15.toInt + v5.toInt := by
                      have q : (v32.toInt - (w15.toInt + v5.toInt)) % 18446744073709551616 = 0 := by rw [hv32]; exact c_ladd w15 v5
                      omega
                    refine own_by (fun t k => XS.lload X16.here hx rfl (hb hby at_189) rfl k) ?_
                    show ORun p e below s _ _ _ T16 (mkF m 191 #[.val (.long p1), .second, .val (.long p2), .second, .val (.long p3), .second, .val (.long p4), .second, .val (.int p5), .val (.long (4611686018427387903 : Int64)), .second, .val (.int w1), .val (.long w2), .second, .val (.long v3), .second, .val (.long v4), .second, .val (.long v5), .second, .val (.ref b6), .val (.int y8), .val (.long w11), .second, .val (.int y12), .val (.long w15), .second, .val (.int y16), .unset, .unset, .unset, .unset] [(.long w2), (.long v32), (.int y16)])
                    refine own_by (fun t k => XS.lcmp X16.here hx rfl (hb hby at_191) rfl k) ?_
                    show ORun p e below s _ _ _ T16 (mkF m 192 #[.val (.long p1), .second, .val (.long p2), .second, .val (.long p3), .second, .val (.long p4), .second, .val (.int p5), .val (.long (4611686018427387903 : Int64)), .second, .val (.int w1), .val (.long w2), .second, .val (.long v3), .second, .val (.long v4), .second, .val (.long v5), .second, .val (.ref b6), .val (.int y8), .val (.long w11), .second, .val (.int y12), .val (.long w15), .second, .val (.int y16), .unset, .unset, .unset, .unset] [(.int (lcmpW v32 w2)), (.int y16)])
                    by_cases hc33 : w2 < v32
                    · have t33 := own_ltL hc33 (a := w2.toInt) (b := v32.toInt) rfl rfl
                      refine own_by (fun t k => XS.ifYes X16.here hx rfl (pc0 := 192) (pc' := 199) rfl (hb hby at_192) rfl (own_lcgt hc33).1 (by decide) (by decide) k) ?_
                      show ORun p e below s _ _ _ T16 (mkF m 199 #[.val (.long p1), .second, .val (.long p2), .second, .val (.long p3), .second, .val (.long p4), .second, .val (.int p5), .val (.long (4611686018427387903 : Int64)), .second, .val (.int w1), .val (.long w2), .second, .val (.long v3), .second, .val (.long v4), .second, .val (.long v5), .second, .val (.ref b6), .val (.int y8), .val (.long w11), .second, .val (.int y12), .val (.long w15), .second, .val (.int y16), .unset, .unset, .unset, .unset] [(.int y16)])
                      refine own_by (fun t k => XS.iconst X16.here hx rfl (hb hby at_199) k) ?_
                      show ORun p e below s _ _ _ T16 (mkF m 200 #[.val (.long p1), .second, .val (.long p2), .second, .val (.long p3), .second, .val (.long p4), .second, .val (.int p5), .val (.long (4611686018427387903 : Int64)), .second, .val (.int w1), .val (.long w2), .second, .val (.long v3), .second, .val (.long v4), .second, .val (.long v5), .second, .val (.ref b6), .val (.int y8), .val (.long w11), .second, .val (.int y12), .val (.long w15), .second, .val (.int y16), .unset, .unset, .unset, .unset] [(.int (0 : Int32)), (.int y16)])
                      exact J17 (0 : Int32) (Or.inr ⟨by decide, by omega⟩)
                    · have t33 := own_nltL hc33 (a := w2.toInt) (b := v32.toInt) rfl rfl
                      refine own_by (fun t k => XS.ifNo X16.here hx rfl (hb hby at_192) rfl (own_lcngt hc33).1 k) ?_
                      show ORun p e below s _ _ _ T16 (mkF m 195 #[.val (.long p1), .second, .val (.long p2), .second, .val (.long p3), .second, .val (.long p4), .second, .val (.int p5), .val (.long (4611686018427387903 : Int64)), .second, .val (.int w1), .val (.long w2), .second, .val (.long v3), .second, .val (.long v4), .second, .val (.long v5), .second, .val (.ref b6), .val (.int y8), .val (.long w11), .second, .val (.int y12), .val (.long w15), .second, .val (.int y16), .unset, .unset, .unset, .unset] [(.int y16)])
                      refine own_by (fun t k => XS.iconst X16.here hx rfl (hb hby at_195) k) ?_
                      show ORun p e below s _ _ _ T16 (mkF m 196 #[.val (.long p1), .second, .val (.long p2), .second, .val (.long p3), .second, .val (.long p4), .second, .val (.int p5), .val (.long (4611686018427387903 : Int64)), .second, .val (.int w1), .val (.long w2), .second, .val (.long v3), .second, .val (.long v4), .second, .val (.long v5), .second, .val (.ref b6), .val (.int y8), .val (.long w11), .second, .val (.int y12), .val (.long w15), .second, .val (.int y16), .unset, .unset, .unset, .unset] [(.int (1 : Int32)), (.int y16)])
                      refine own_by (fun t k => XS.goto X16.here hx rfl (pc0 := 196) (pc' := 200) rfl (hb hby at_196) (by decide) (by decide) k) ?_
                      show ORun p e below s _ _ _ T16 (mkF m 200 #[.val (.long p1), .second, .val (.long p2), .second, .val (.long p3), .second, .val (.long p4), .second, .val (.int p5), .val (.long (4611686018427387903 : Int64)), .second, .val (.int w1), .val (.long w2), .second, .val (.long v3), .second, .val (.long v4), .second, .val (.long v5), .second, .val (.ref b6), .val (.int y8), .val (.long w11), .second, .val (.int y12), .val (.long w15), .second, .val (.int y16), .unset, .unset, .unset, .unset] [(.int (1 : Int32)), (.int y16)])
                      exact J17 (1 : Int32) (Or.inl ⟨by decide, by omega⟩)
                  · have t31 := own_nltL hc31 (a := w11.toInt) (b := v5.toInt) rfl rfl
                    refine own_by (fun t k => XS.ifYes X16.here hx rfl (pc0 := 181) (pc' := 195) rfl (hb hby at_181) rfl (own_lcngt hc31).2 (by decide) (by decide) k) ?_
                    show ORun p e below s _ _ _ T16 (mkF m 195 #[.val (.long p1), .second, .val (.long p2), .second, .val (.long p3), .second, .val (.long p4), .second, .val (.int p5), .val (.long (4611686018427387903 : Int64)), .second, .val (.int w1), .val (.long w2), .second, .val (.long v3), .second, .val (.long v4), .second, .val (.long v5), .second, .val (.ref b6), .val (.int y8), .val (.long w11), .second, .val (.int y12), .val (.long w15), .second, .val (.int y16), .unset, .unset, .unset, .unset] [(.int y16)])
                    refine own_by (fun t k => XS.iconst X16.here hx rfl (hb hby at_195) k) ?_
                    show ORun p e below s _ _ _ T16 (mkF m 196 #[.val (.long p1), .second, .val (.long p2), .second, .val (.long p3), .second, .val (.long p4), .second, .val (.int p5), .val (.long (4611686018427387903 : Int64)), .second, .val (.int w1), .val (.long w2), .second, .val (.long v3), .second, .val (.long v4), .second, .val (.long v5), .second, .val (.ref b6), .val (.int y8), .val (.long w11), .second, .val (.int y12), .val (.long w15), .second, .val (.int y16), .unset, .unset, .unset, .unset] [(.int (1 : Int32)), (.int y16)])
                    refine own_by (fun t k => XS.goto X16.here hx rfl (pc0 := 196) (pc' := 200) rfl (hb hby at_196) (by decide) (by decide) k) ?_
                    show ORun p e below s _ _ _ T16 (mkF m 200 #[.val (.long p1), .second, .val (.long p2), .second, .val (.long p3), .second, .val (.long p4), .second, .val (.int p5), .val (.long (4611686018427387903 : Int64)), .second, .val (.int w1), .val (.long w2), .second, .val (.long v3), .second, .val (.long v4), .second, .val (.long v5), .second, .val (.ref b6), .val (.int y8), .val (.long w11), .second, .val (.int y12), .val (.long w15), .second, .val (.int y16), .unset, .unset, .unset, .unset] [(.int (1 : Int32)), (.int y16)])
                    exact J17 (1 : Int32) (Or.inl ⟨by decide, by omega⟩)
                refine own_by (fun t k => XS.iload X12.here hx rfl (hb hby at_150) rfl k) ?_
                show ORun p e below s _ _ _ T12 (mkF m 152 #[.val (.long p1), .second, .val (.long p2), .second, .val (.long p3), .second, .val (.long p4), .second, .val (.int p5), .val (.long (4611686018427387903 : Int64)), .second, .val (.int w1), .val (.long w2), .second, .val (.long v3), .second, .val (.long v4), .second, .val (.long v5), .second, .val (.ref b6), .val (.int y8), .val (.long w11), .second, .val (.int y12), .unset, .unset, .unset, .unset, .unset, .unset, .unset] [(.int y12)])
                by_cases hc34 : y12 = (0 : Int32)
                · have t34 := own_eq hc34 (a := y12.toInt) (b := 0) rfl (by decide)
                  refine own_by (fun t k => XS.ifYes X12.here hx rfl (pc0 := 152) (pc' := 160) rfl (hb hby at_152) rfl ((if0 _ _).trans (teq hc34).1) (by decide) (by decide) k) ?_
                  show ORun p e below s _ _ _ T12 (mkF m 160 #[.val (.long p1), .second, .val (.long p2), .second, .val (.long p3), .second, .val (.long p4), .second, .val (.int p5), .val (.long (4611686018427387903 : Int64)), .second, .val (.int w1), .val (.long w2), .second, .val (.long v3), .second, .val (.long v4), .second, .val (.long v5), .second, .val (.ref b6), .val (.int y8), .val (.long w11), .second, .val (.int y12), .unset, .unset, .unset, .unset, .unset, .unset, .unset] [])
                  refine own_by (fun t k => XS.lconst X12.here hx rfl (hb hby at_160) k) ?_
                  show ORun p e below s _ _ _ T12 (mkF m 161 #[.val (.long p1), .second, .val (.long p2), .second, .val (.long p3), .second, .val (.long p4), .second, .val (.int p5), .val (.long (4611686018427387903 : Int64)), .second, .val (.int w1), .val (.long w2), .second, .val (.long v3), .second, .val (.long v4), .second, .val (.long v5), .second, .val (.ref b6), .val (.int y8), .val (.long w11), .second, .val (.int y12), .unset, .unset, .unset, .unset, .unset, .unset, .unset] [(.long (0 : Int64))])
                  exact J15 (0 : Int64) (Or.inr ⟨by omega, by decide⟩)
                · have t34 := own_ne hc34 (a := y12.toInt) (b := 0) rfl (by decide)
                  refine own_by (fun t k => XS.ifNo X12.here hx rfl (hb hby at_152) rfl ((if0 _ _).trans (feq hc34).1) k) ?_
                  show ORun p e below s _ _ _ T12 (mkF m 155 #[.val (.long p1), .second, .val (.long p2), .second, .val (.long p3), .second, .val (.long p4), .second, .val (.int p5), .val (.long (4611686018427387903 : Int64)), .second, .val (.int w1), .val (.long w2), .second, .val (.long v3), .second, .val (.long v4), .second, .val (.long v5), .second, .val (.ref b6), .val (.int y8), .val (.long w11), .second, .val (.int y12), .unset, .unset, .unset, .unset, .unset, .unset, .unset] [])
                  refine own_by (fun t k => XS.lload X12.here hx rfl (hb hby at_155) rfl k) ?_
                  show ORun p e below s _ _ _ T12 (mkF m 157 #[.val (.long p1), .second, .val (.long p2), .second, .val (.long p3), .second, .val (.long p4), .second, .val (.int p5), .val (.long (4611686018427387903 : Int64)), .second, .val (.int w1), .val (.long w2), .second, .val (.long v3), .second, .val (.long v4), .second, .val (.long v5), .second, .val (.ref b6), .val (.int y8), .val (.long w11), .second, .val (.int y12), .unset, .unset, .unset, .unset, .unset, .unset, .unset] [(.long v4)])
                  refine own_by (fun t k => XS.goto X12.here hx rfl (pc0 := 157) (pc' := 161) rfl (hb hby at_157) (by decide) (by decide) k) ?_
                  show ORun p e below s _ _ _ T12 (mkF m 161 #[.val (.long p1), .second, .val (.long p2), .second, .val (.long p3), .second, .val (.long p4), .second, .val (.int p5), .val (.long (4611686018427387903 : Int64)), .second, .val (.int w1), .val (.long w2), .second, .val (.long v3), .second, .val (.long v4), .second, .val (.long v5), .second, .val (.ref b6), .val (.int y8), .val (.long w11), .second, .val (.int y12), .unset, .unset, .unset, .unset, .unset, .unset, .unset] [(.long v4)])
                  exact J15 v4 (Or.inl ⟨by omega, rfl⟩)
              · have t14 := own_ne hc14 (a := y12.toInt) (b := w13.toInt) rfl rfl
                refine own_by (fun t k => XS.icmpNo X12.here hx rfl (hb hby at_145) rfl (feq hc14).1 k) ?_
                show ORun p e below s _ _ _ T12 (mkF m 148 #[.val (.long p1), .second, .val (.long p2), .second, .val (.long p3), .second, .val (.long p4), .second, .val (.int p5), .val (.long (4611686018427387903 : Int64)), .second, .val (.int w1), .val (.long w2), .second, .val (.long v3), .second, .val (.long v4), .second, .val (.long v5), .second, .val (.ref b6), .val (.int y8), .val (.long w11), .second, .val (.int y12), .unset, .unset, .unset, .unset, .unset, .unset, .unset] [])
                refine own_by (fun t k => XS.iconst X12.here hx rfl (hb hby at_148) k) ?_
                show ORun p e below s _ _ _ T12 (mkF m 149 #[.val (.long p1), .second, .val (.long p2), .second, .val (.long p3), .second, .val (.long p4), .second, .val (.int p5), .val (.long (4611686018427387903 : Int64)), .second, .val (.int w1), .val (.long w2), .second, .val (.long v3), .second, .val (.long v4), .second, .val (.long v5), .second, .val (.ref b6), .val (.int y8), .val (.long w11), .second, .val (.int y12), .unset, .unset, .unset, .unset, .unset, .unset, .unset] [(.int (0 : Int32))])
                refine own_retN X12 hx (t := .boolean) hret (by simp) hlk (hb hby at_149) (by decide) (by decide) ?_
                exfalso
                omega
            refine own_by (fun t k => XS.lload X12.here hx rfl (hb hby at_122) rfl k) ?_
            show ORun p e below s _ _ _ T12 (mkF m 124 #[.val (.long p1), .second, .val (.long p2), .second, .val (.long p3), .second, .val (.long p4), .second, .val (.int p5), .val (.long (4611686018427387903 : Int64)), .second, .val (.int w1), .val (.long w2), .second, .val (.long v3), .second, .val (.long v4), .second, .val (.long v5), .second, .val (.ref b6), .val (.int y8), .val (.long w11), .second, .val (.int y12), .unset, .unset, .unset, .unset, .unset, .unset, .unset] [(.long v4), (.int y12)])
            refine own_by (fun t k => XS.lconst X12.here hx rfl (hb hby at_124) k) ?_
            show ORun p e below s _ _ _ T12 (mkF m 125 #[.val (.long p1), .second, .val (.long p2), .second, .val (.long p3), .second, .val (.long p4), .second, .val (.int p5), .val (.long (4611686018427387903 : Int64)), .second, .val (.int w1), .val (.long w2), .second, .val (.long v3), .second, .val (.long v4), .second, .val (.long v5), .second, .val (.ref b6), .val (.int y8), .val (.long w11), .second, .val (.int y12), .unset, .unset, .unset, .unset, .unset, .unset, .unset] [(.long (0 : Int64)), (.long v4), (.int y12)])
            refine own_by (fun t k => XS.lcmp X12.here hx rfl (hb hby at_125) rfl k) ?_
            show ORun p e below s _ _ _ T12 (mkF m 126 #[.val (.long p1), .second, .val (.long p2), .second, .val (.long p3), .second, .val (.long p4), .second, .val (.int p5), .val (.long (4611686018427387903 : Int64)), .second, .val (.int w1), .val (.long w2), .second, .val (.long v3), .second, .val (.long v4), .second, .val (.long v5), .second, .val (.ref b6), .val (.int y8), .val (.long w11), .second, .val (.int y12), .unset, .unset, .unset, .unset, .unset, .unset, .unset] [(.int (lcmpW v4 (0 : Int64))), (.int y12)])
            by_cases hc35 : v4 = (0 : Int64)
            · have t35 := own_eqL hc35 (a := v4.toInt) (b := 0) rfl (by decide)
              refine own_by (fun t k => XS.ifYes X12.here hx rfl (pc0 := 126) (pc' := 140) rfl (hb hby at_126) rfl (own_lceq hc35).1 (by decide) (by decide) k) ?_
              show ORun p e below s _ _ _ T12 (mkF m 140 #[.val (.long p1), .second, .val (.long p2), .second, .val (.long p3), .second, .val (.long p4), .second, .val (.int p5), .val (.long (4611686018427387903 : Int64)), .second, .val (.int w1), .val (.long w2), .second, .val (.long v3), .second, .val (.long v4), .second, .val (.long v5), .second, .val (.ref b6), .val (.int y8), .val (.long w11), .second, .val (.int y12), .unset, .unset, .unset, .unset, .unset, .unset, .unset] [(.int y12)])
              refine own_by (fun t k => XS.iconst X12.here hx rfl (hb hby at_140) k) ?_
              show ORun p e below s _ _ _ T12 (mkF m 141 #[.val (.long p1), .second, .val (.long p2), .second, .val (.long p3), .second, .val (.long p4), .second, .val (.int p5), .val (.long (4611686018427387903 : Int64)), .second, .val (.int w1), .val (.long w2), .second, .val (.long v3), .second, .val (.long v4), .second, .val (.long v5), .second, .val (.ref b6), .val (.int y8), .val (.long w11), .second, .val (.int y12), .unset, .unset, .unset, .unset, .unset, .unset, .unset] [(.int (1 : Int32)), (.int y12)])
              refine own_by (fun t k => XS.goto X12.here hx rfl (pc0 := 141) (pc' := 145) rfl (hb hby at_141) (by decide) (by decide) k) ?_
              show ORun p e below s _ _ _ T12 (mkF m 145 #[.val (.long p1), .second, .val (.long p2), .second, .val (.long p3), .second, .val (.long p4), .second, .val (.int p5), .val (.long (4611686018427387903 : Int64)), .second, .val (.int w1), .val (.long w2), .second, .val (.long v3), .second, .val (.long v4), .second, .val (.long v5), .second, .val (.ref b6), .val (.int y8), .val (.long w11), .second, .val (.int y12), .unset, .unset, .unset, .unset, .unset, .unset, .unset] [(.int (1 : Int32)), (.int y12)])
              exact J13 (1 : Int32) (Or.inl ⟨by decide, by omega⟩)
            · have t35 := own_neL hc35 (a := v4.toInt) (b := 0) rfl (by decide)
              refine own_by (fun t k => XS.ifNo X12.here hx rfl (hb hby at_126) rfl (own_lcne hc35).1 k) ?_
              show ORun p e below s _ _ _ T12 (mkF m 129 #[.val (.long p1), .second, .val (.long p2), .second, .val (.long p3), .second, .val (.long p4), .second, .val (.int p5), .val (.long (4611686018427387903 : Int64)), .second, .val (.int w1), .val (.long w2), .second, .val (.long v3), .second, .val (.long v4), .second, .val (.long v5), .second, .val (.ref b6), .val (.int y8), .val (.long w11), .second, .val (.int y12), .unset, .unset, .unset, .unset, .unset, .unset, .unset] [(.int y12)])
              refine own_by (fun t k => XS.lload X12.here hx rfl (hb hby at_129) rfl k) ?_
              show ORun p e below s _ _ _ T12 (mkF m 131 #[.val (.long p1), .second, .val (.long p2), .second, .val (.long p3), .second, .val (.long p4), .second, .val (.int p5), .val (.long (4611686018427387903 : Int64)), .second, .val (.int w1), .val (.long w2), .second, .val (.long v3), .second, .val (.long v4), .second, .val (.long v5), .second, .val (.ref b6), .val (.int y8), .val (.long w11), .second, .val (.int y12), .unset, .unset, .unset, .unset, .unset, .unset, .unset] [(.long w11), (.int y12)])
              refine own_by (fun t k => XS.lload X12.here hx rfl (hb hby at_131) rfl k) ?_
              show ORun p e below s _ _ _ T12 (mkF m 133 #[.val (.long p1), .second, .val (.long p2), .second, .val (.long p3), .second, .val (.long p4), .second, .val (.int p5), .val (.long (4611686018427387903 : Int64)), .second, .val (.int w1), .val (.long w2), .second, .val (.long v3), .second, .val (.long v4), .second, .val (.long v5), .second, .val (.ref b6), .val (.int y8), .val (.long w11), .second, .val (.int y12), .unset, .unset, .unset, .unset, .unset, .unset, .unset] [(.long v4), (.long w11), (.int y12)])
              refine own_by (fun t k => XS.ladd X12.here hx rfl (hb hby at_133) rfl k) (own_letJ (f := (fun z => (mkF m 134 #[.val (.long p1), .second, .val (.long p2), .second, .val (.long p3), .second, .val (.long p4), .second, .val (.int p5), .val (.long (4611686018427387903 : Int64)), .second, .val (.int w1), .val (.long w2), .second, .val (.long v3), .second, .val (.long v4), .second, .val (.long v5), .second, .val (.ref b6), .val (.int y8), .val (.long w11), .second, .val (.int y12), .unset, .unset, .unset, .unset, .unset, .unset, .unset] [(.long z), (.int y12)]))) (w11 + v4) fun v36 hv36 => ?_)
              show ORun p e below s _ _ _ T12 (mkF m 134 #[.val (.long p1), .second, .val (.long p2), .second, .val (.long p3), .second, .val (.long p4), .second, .val (.int p5), .val (.long (4611686018427387903 : Int64)), .second, .val (.int w1), .val (.long w2), .second, .val (.long v3), .second, .val (.long v4), .second, .val (.long v5), .second, .val (.ref b6), .val (.int y8), .val (.long w11), .second, .val (.int y12), .unset, .unset, .unset, .unset, .unset, .unset, .unset] [(.long v36), (.int y12)])
              have r36 := rng64 v36
              have a36 : v36.toInt = w11.toInt + v4.toInt := by
                have q : (v36.toInt - (w11.toInt + v4.toInt)) % 18446744073709551616 = 0 := by rw [hv36]; exact c_ladd w11 v4
                omega
              refine own_by (fun t k => XS.lload X12.here hx rfl (hb hby at_134) rfl k) ?_
              show ORun p e below s _ _ _ T12 (mkF m 136 #[.val (.long p1), .second, .val (.long p2), .second, .val (.long p3), .second, .val (.long p4), .second, .val (.int p5), .val (.long (4611686018427387903 : Int64)), .second, .val (.int w1), .val (.long w2), .second, .val (.long v3), .second, .val (.long v4), .second, .val (.long v5), .second, .val (.ref b6), .val (.int y8), .val (.long w11), .second, .val (.int y12), .unset, .unset, .unset, .unset, .unset, .unset, .unset] [(.long w2), (.long v36), (.int y12)])
              refine own_by (fun t k => XS.lcmp X12.here hx rfl (hb hby at_136) rfl k) ?_
              show ORun p e below s _ _ _ T12 (mkF m 137 #[.val (.long p1), .second, .val (.long p2), .second, .val (.long p3), .second, .val (.long p4), .second, .val (.int p5), .val (.long (4611686018427387903 : Int64)), .second, .val (.int w1), .val (.long w2), .second, .val (.long v3), .second, .val (.long v4), .second, .val (.long v5), .second, .val (.ref b6), .val (.int y8), .val (.long w11), .second, .val (.int y12), .unset, .unset, .unset, .unset, .unset, .unset, .unset] [(.int (lcmpW v36 w2)), (.int y12)])
              by_cases hc37 : w2 < v36
              · have t37 := own_ltL hc37 (a := w2.toInt) (b := v36.toInt) rfl rfl
                refine own_by (fun t k => XS.ifYes X12.here hx rfl (pc0 := 137) (pc' := 144) rfl (hb hby at_137) rfl (own_lcgt hc37).1 (by decide) (by decide) k) ?_
                show ORun p e below s _ _ _ T12 (mkF m 144 #[.val (.long p1), .second, .val (.long p2), .second, .val (.long p3), .second, .val (.long p4), .second, .val (.int p5), .val (.long (4611686018427387903 : Int64)), .second, .val (.int w1), .val (.long w2), .second, .val (.long v3), .second, .val (.long v4), .second, .val (.long v5), .second, .val (.ref b6), .val (.int y8), .val (.long w11), .second, .val (.int y12), .unset, .unset, .unset, .unset, .unset, .unset, .unset] [(.int y12)])
                refine own_by (fun t k => XS.iconst X12.here hx rfl (hb hby at_144) k) ?_
                show ORun p e below s _ _ _ T12 (mkF m 145 #[.val (.long p1), .second, .val (.long p2), .second, .val (.long p3), .second, .val (.long p4), .second, .val (.int p5), .val (.long (4611686018427387903 : Int64)), .second, .val (.int w1), .val (.long w2), .second, .val (.long v3), .second, .val (.long v4), .second, .val (.long v5), .second, .val (.ref b6), .val (.int y8), .val (.long w11), .second, .val (.int y12), .unset, .unset, .unset, .unset, .unset, .unset, .unset] [(.int (0 : Int32)), (.int y12)])
                exact J13 (0 : Int32) (Or.inr ⟨by decide, by omega⟩)
              · have t37 := own_nltL hc37 (a := w2.toInt) (b := v36.toInt) rfl rfl
                refine own_by (fun t k => XS.ifNo X12.here hx rfl (hb hby at_137) rfl (own_lcngt hc37).1 k) ?_
                show ORun p e below s _ _ _ T12 (mkF m 140 #[.val (.long p1), .second, .val (.long p2), .second, .val (.long p3), .second, .val (.long p4), .second, .val (.int p5), .val (.long (4611686018427387903 : Int64)), .second, .val (.int w1), .val (.long w2), .second, .val (.long v3), .second, .val (.long v4), .second, .val (.long v5), .second, .val (.ref b6), .val (.int y8), .val (.long w11), .second, .val (.int y12), .unset, .unset, .unset, .unset, .unset, .unset, .unset] [(.int y12)])
                refine own_by (fun t k => XS.iconst X12.here hx rfl (hb hby at_140) k) ?_
                show ORun p e below s _ _ _ T12 (mkF m 141 #[.val (.long p1), .second, .val (.long p2), .second, .val (.long p3), .second, .val (.long p4), .second, .val (.int p5), .val (.long (4611686018427387903 : Int64)), .second, .val (.int w1), .val (.long w2), .second, .val (.long v3), .second, .val (.long v4), .second, .val (.long v5), .second, .val (.ref b6), .val (.int y8), .val (.long w11), .second, .val (.int y12), .unset, .unset, .unset, .unset, .unset, .unset, .unset] [(.int (1 : Int32)), (.int y12)])
                refine own_by (fun t k => XS.goto X12.here hx rfl (pc0 := 141) (pc' := 145) rfl (hb hby at_141) (by decide) (by decide) k) ?_
                show ORun p e below s _ _ _ T12 (mkF m 145 #[.val (.long p1), .second, .val (.long p2), .second, .val (.long p3), .second, .val (.long p4), .second, .val (.int p5), .val (.long (4611686018427387903 : Int64)), .second, .val (.int w1), .val (.long w2), .second, .val (.long v3), .second, .val (.long v4), .second, .val (.long v5), .second, .val (.ref b6), .val (.int y8), .val (.long w11), .second, .val (.int y12), .unset, .unset, .unset, .unset, .unset, .unset, .unset] [(.int (1 : Int32)), (.int y12)])
                exact J13 (1 : Int32) (Or.inl ⟨by decide, by omega⟩)
          refine own_by (fun t k => XS.iload X8.here hx rfl (hb hby at_97) rfl k) ?_
          show ORun p e below s _ _ _ T8 (mkF m 99 #[.val (.long p1), .second, .val (.long p2), .second, .val (.long p3), .second, .val (.long p4), .second, .val (.int p5), .val (.long (4611686018427387903 : Int64)), .second, .val (.int w1), .val (.long w2), .second, .val (.long v3), .second, .val (.long v4), .second, .val (.long v5), .second, .val (.ref b6), .val (.int y8), .unset, .unset, .unset, .unset, .unset, .unset, .unset, .unset, .unset, .unset] [(.int y8)])
          by_cases hc38 : y8 = (0 : Int32)
          · have t38 := own_eq hc38 (a := y8.toInt) (b := 0) rfl (by decide)
            refine own_by (fun t k => XS.ifYes X8.here hx rfl (pc0 := 99) (pc' := 107) rfl (hb hby at_99) rfl ((if0 _ _).trans (teq hc38).1) (by decide) (by decide) k) ?_
            show ORun p e below s _ _ _ T8 (mkF m 107 #[.val (.long p1), .second, .val (.long p2), .second, .val (.long p3), .second, .val (.long p4), .second, .val (.int p5), .val (.long (4611686018427387903 : Int64)), .second, .val (.int w1), .val (.long w2), .second, .val (.long v3), .second, .val (.long v4), .second, .val (.long v5), .second, .val (.ref b6), .val (.int y8), .unset, .unset, .unset, .unset, .unset, .unset, .unset, .unset, .unset, .unset] [])
            refine own_by (fun t k => XS.lconst X8.here hx rfl (hb hby at_107) k) ?_
            show ORun p e below s _ _ _ T8 (mkF m 108 #[.val (.long p1), .second, .val (.long p2), .second, .val (.long p3), .second, .val (.long p4), .second, .val (.int p5), .val (.long (4611686018427387903 : Int64)), .second, .val (.int w1), .val (.long w2), .second, .val (.long v3), .second, .val (.long v4), .second, .val (.long v5), .second, .val (.ref b6), .val (.int y8), .unset, .unset, .unset, .unset, .unset, .unset, .unset, .unset, .unset, .unset] [(.long (0 : Int64))])
            exact J11 (0 : Int64) (Or.inr ⟨by omega, by decide⟩)
          · have t38 := own_ne hc38 (a := y8.toInt) (b := 0) rfl (by decide)
            refine own_by (fun t k => XS.ifNo X8.here hx rfl (hb hby at_99) rfl ((if0 _ _).trans (feq hc38).1) k) ?_
            show ORun p e below s _ _ _ T8 (mkF m 102 #[.val (.long p1), .second, .val (.long p2), .second, .val (.long p3), .second, .val (.long p4), .second, .val (.int p5), .val (.long (4611686018427387903 : Int64)), .second, .val (.int w1), .val (.long w2), .second, .val (.long v3), .second, .val (.long v4), .second, .val (.long v5), .second, .val (.ref b6), .val (.int y8), .unset, .unset, .unset, .unset, .unset, .unset, .unset, .unset, .unset, .unset] [])
            refine own_by (fun t k => XS.lload X8.here hx rfl (hb hby at_102) rfl k) ?_
            show ORun p e below s _ _ _ T8 (mkF m 104 #[.val (.long p1), .second, .val (.long p2), .second, .val (.long p3), .second, .val (.long p4), .second, .val (.int p5), .val (.long (4611686018427387903 : Int64)), .second, .val (.int w1), .val (.long w2), .second, .val (.long v3), .second, .val (.long v4), .second, .val (.long v5), .second, .val (.ref b6), .val (.int y8), .unset, .unset, .unset, .unset, .unset, .unset, .unset, .unset, .unset, .unset] [(.long v3)])
            refine own_by (fun t k => XS.goto X8.here hx rfl (pc0 := 104) (pc' := 108) rfl (hb hby at_104) (by decide) (by decide) k) ?_
            show ORun p e below s _ _ _ T8 (mkF m 108 #[.val (.long p1), .second, .val (.long p2), .second, .val (.long p3), .second, .val (.long p4), .second, .val (.int p5), .val (.long (4611686018427387903 : Int64)), .second, .val (.int w1), .val (.long w2), .second, .val (.long v3), .second, .val (.long v4), .second, .val (.long v5), .second, .val (.ref b6), .val (.int y8), .unset, .unset, .unset, .unset, .unset, .unset, .unset, .unset, .unset, .unset] [(.long v3)])
            exact J11 v3 (Or.inl ⟨by omega, rfl⟩)
        · have t10 := own_ne hc10 (a := y8.toInt) (b := w9.toInt) rfl rfl
          refine own_by (fun t k => XS.icmpNo X8.here hx rfl (hb hby at_92) rfl (feq hc10).1 k) ?_
          show ORun p e below s _ _ _ T8 (mkF m 95 #[.val (.long p1), .second, .val (.long p2), .second, .val (.long p3), .second, .val (.long p4), .second, .val (.int p5), .val (.long (4611686018427387903 : Int64)), .second, .val (.int w1), .val (.long w2), .second, .val (.long v3), .second, .val (.long v4), .second, .val (.long v5), .second, .val (.ref b6), .val (.int y8), .unset, .unset, .unset, .unset, .unset, .unset, .unset, .unset, .unset, .unset] [])
          refine own_by (fun t k => XS.iconst X8.here hx rfl (hb hby at_95) k) ?_
          show ORun p e below s _ _ _ T8 (mkF m 96 #[.val (.long p1), .second, .val (.long p2), .second, .val (.long p3), .second, .val (.long p4), .second, .val (.int p5), .val (.long (4611686018427387903 : Int64)), .second, .val (.int w1), .val (.long w2), .second, .val (.long v3), .second, .val (.long v4), .second, .val (.long v5), .second, .val (.ref b6), .val (.int y8), .unset, .unset, .unset, .unset, .unset, .unset, .unset, .unset, .unset, .unset] [(.int (0 : Int32))])
          refine own_retN X8 hx (t := .boolean) hret (by simp) hlk (hb hby at_96) (by decide) (by decide) ?_
          exfalso
          omega
      refine own_by (fun t k => XS.lload X8.here hx rfl (hb hby at_79) rfl k) ?_
      show ORun p e below s _ _ _ T8 (mkF m 81 #[.val (.long p1), .second, .val (.long p2), .second, .val (.long p3), .second, .val (.long p4), .second, .val (.int p5), .val (.long (4611686018427387903 : Int64)), .second, .val (.int w1), .val (.long w2), .second, .val (.long v3), .second, .val (.long v4), .second, .val (.long v5), .second, .val (.ref b6), .val (.int y8), .unset, .unset, .unset, .unset, .unset, .unset, .unset, .unset, .unset, .unset] [(.long v3), (.int y8)])
      refine own_by (fun t k => XS.lload X8.here hx rfl (hb hby at_81) rfl k) ?_
      show ORun p e below s _ _ _ T8 (mkF m 83 #[.val (.long p1), .second, .val (.long p2), .second, .val (.long p3), .second, .val (.long p4), .second, .val (.int p5), .val (.long (4611686018427387903 : Int64)), .second, .val (.int w1), .val (.long w2), .second, .val (.long v3), .second, .val (.long v4), .second, .val (.long v5), .second, .val (.ref b6), .val (.int y8), .unset, .unset, .unset, .unset, .unset, .unset, .unset, .unset, .unset, .unset] [(.long w2), (.long v3), (.int y8)])
      refine own_by (fun t k => XS.lcmp X8.here hx rfl (hb hby at_83) rfl k) ?_
      show ORun p e below s _ _ _ T8 (mkF m 84 #[.val (.long p1), .second, .val (.long p2), .second, .val (.long p3), .second, .val (.long p4), .second, .val (.int p5), .val (.long (4611686018427387903 : Int64)), .second, .val (.int w1), .val (.long w2), .second, .val (.long v3), .second, .val (.long v4), .second, .val (.long v5), .second, .val (.ref b6), .val (.int y8), .unset, .unset, .unset, .unset, .unset, .unset, .unset, .unset, .unset, .unset] [(.int (lcmpW v3 w2)), (.int y8)])
      by_cases hc39 : w2 < v3
      · have t39 := own_ltL hc39 (a := w2.toInt) (b := v3.toInt) rfl rfl
        refine own_by (fun t k => XS.ifYes X8.here hx rfl (pc0 := 84) (pc' := 91) rfl (hb hby at_84) rfl (own_lcgt hc39).1 (by decide) (by decide) k) ?_
        show ORun p e below s _ _ _ T8 (mkF m 91 #[.val (.long p1), .second, .val (.long p2), .second, .val (.long p3), .second, .val (.long p4), .second, .val (.int p5), .val (.long (4611686018427387903 : Int64)), .second, .val (.int w1), .val (.long w2), .second, .val (.long v3), .second, .val (.long v4), .second, .val (.long v5), .second, .val (.ref b6), .val (.int y8), .unset, .unset, .unset, .unset, .unset, .unset, .unset, .unset, .unset, .unset] [(.int y8)])
        refine own_by (fun t k => XS.iconst X8.here hx rfl (hb hby at_91) k) ?_
        show ORun p e below s _ _ _ T8 (mkF m 92 #[.val (.long p1), .second, .val (.long p2), .second, .val (.long p3), .second, .val (.long p4), .second, .val (.int p5), .val (.long (4611686018427387903 : Int64)), .second, .val (.int w1), .val (.long w2), .second, .val (.long v3), .second, .val (.long v4), .second, .val (.long v5), .second, .val (.ref b6), .val (.int y8), .unset, .unset, .unset, .unset, .unset, .unset, .unset, .unset, .unset, .unset] [(.int (0 : Int32)), (.int y8)])
        exact J9 (0 : Int32) (Or.inr ⟨by decide, by omega⟩)
      · have t39 := own_nltL hc39 (a := w2.toInt) (b := v3.toInt) rfl rfl
        refine own_by (fun t k => XS.ifNo X8.here hx rfl (hb hby at_84) rfl (own_lcngt hc39).1 k) ?_
        show ORun p e below s _ _ _ T8 (mkF m 87 #[.val (.long p1), .second, .val (.long p2), .second, .val (.long p3), .second, .val (.long p4), .second, .val (.int p5), .val (.long (4611686018427387903 : Int64)), .second, .val (.int w1), .val (.long w2), .second, .val (.long v3), .second, .val (.long v4), .second, .val (.long v5), .second, .val (.ref b6), .val (.int y8), .unset, .unset, .unset, .unset, .unset, .unset, .unset, .unset, .unset, .unset] [(.int y8)])
        refine own_by (fun t k => XS.iconst X8.here hx rfl (hb hby at_87) k) ?_
        show ORun p e below s _ _ _ T8 (mkF m 88 #[.val (.long p1), .second, .val (.long p2), .second, .val (.long p3), .second, .val (.long p4), .second, .val (.int p5), .val (.long (4611686018427387903 : Int64)), .second, .val (.int w1), .val (.long w2), .second, .val (.long v3), .second, .val (.long v4), .second, .val (.long v5), .second, .val (.ref b6), .val (.int y8), .unset, .unset, .unset, .unset, .unset, .unset, .unset, .unset, .unset, .unset] [(.int (1 : Int32)), (.int y8)])
        refine own_by (fun t k => XS.goto X8.here hx rfl (pc0 := 88) (pc' := 92) rfl (hb hby at_88) (by decide) (by decide) k) ?_
        show ORun p e below s _ _ _ T8 (mkF m 92 #[.val (.long p1), .second, .val (.long p2), .second, .val (.long p3), .second, .val (.long p4), .second, .val (.int p5), .val (.long (4611686018427387903 : Int64)), .second, .val (.int w1), .val (.long w2), .second, .val (.long v3), .second, .val (.long v4), .second, .val (.long v5), .second, .val (.ref b6), .val (.int y8), .unset, .unset, .unset, .unset, .unset, .unset, .unset, .unset, .unset, .unset] [(.int (1 : Int32)), (.int y8)])
        exact J9 (1 : Int32) (Or.inl ⟨by decide, by omega⟩)
    refine own_by (fun t k => XS.iload X0.here hx rfl (hb hby at_19) rfl k) ?_
    show ORun p e below s _ _ _ s₁ (mkF m 21 #[.val (.long p1), .second, .val (.long p2), .second, .val (.long p3), .second, .val (.long p4), .second, .val (.int p5), .val (.long (4611686018427387903 : Int64)), .second, .val (.int w1), .unset, .unset, .unset, .unset, .unset, .unset, .unset, .unset, .unset, .unset, .unset, .unset, .unset, .unset, .unset, .unset, .unset, .unset, .unset, .unset] [(.int w1)])
    by_cases hc40 : w1 = (0 : Int32)
    · have t40 := own_eq hc40 (a := w1.toInt) (b := 0) rfl (by decide)
      refine own_by (fun t k => XS.ifYes X0.here hx rfl (pc0 := 21) (pc' := 30) rfl (hb hby at_21) rfl ((if0 _ _).trans (teq hc40).1) (by decide) (by decide) k) ?_
      show ORun p e below s _ _ _ s₁ (mkF m 30 #[.val (.long p1), .second, .val (.long p2), .second, .val (.long p3), .second, .val (.long p4), .second, .val (.int p5), .val (.long (4611686018427387903 : Int64)), .second, .val (.int w1), .unset, .unset, .unset, .unset, .unset, .unset, .unset, .unset, .unset, .unset, .unset, .unset, .unset, .unset, .unset, .unset, .unset, .unset, .unset, .unset] [])
      refine own_by (fun t k => XS.lloadN X0.here hx rfl (hb hby at_30) rfl k) ?_
      show ORun p e below s _ _ _ s₁ (mkF m 31 #[.val (.long p1), .second, .val (.long p2), .second, .val (.long p3), .second, .val (.long p4), .second, .val (.int p5), .val (.long (4611686018427387903 : Int64)), .second, .val (.int w1), .unset, .unset, .unset, .unset, .unset, .unset, .unset, .unset, .unset, .unset, .unset, .unset, .unset, .unset, .unset, .unset, .unset, .unset, .unset, .unset] [(.long p1)])
      refine own_by (fun t k => XS.lload X0.here hx rfl (hb hby at_31) rfl k) ?_
      show ORun p e below s _ _ _ s₁ (mkF m 33 #[.val (.long p1), .second, .val (.long p2), .second, .val (.long p3), .second, .val (.long p4), .second, .val (.int p5), .val (.long (4611686018427387903 : Int64)), .second, .val (.int w1), .unset, .unset, .unset, .unset, .unset, .unset, .unset, .unset, .unset, .unset, .unset, .unset, .unset, .unset, .unset, .unset, .unset, .unset, .unset, .unset] [(.long (4611686018427387903 : Int64)), (.long p1)])
      refine own_by (fun t k => XS.land X0.here hx rfl (hb hby at_33) rfl k) (own_letJ (f := (fun z => (mkF m 34 #[.val (.long p1), .second, .val (.long p2), .second, .val (.long p3), .second, .val (.long p4), .second, .val (.int p5), .val (.long (4611686018427387903 : Int64)), .second, .val (.int w1), .unset, .unset, .unset, .unset, .unset, .unset, .unset, .unset, .unset, .unset, .unset, .unset, .unset, .unset, .unset, .unset, .unset, .unset, .unset, .unset] [(.long z)]))) (p1 &&& (4611686018427387903 : Int64)) fun v41 hv41 => ?_)
      show ORun p e below s _ _ _ s₁ (mkF m 34 #[.val (.long p1), .second, .val (.long p2), .second, .val (.long p3), .second, .val (.long p4), .second, .val (.int p5), .val (.long (4611686018427387903 : Int64)), .second, .val (.int w1), .unset, .unset, .unset, .unset, .unset, .unset, .unset, .unset, .unset, .unset, .unset, .unset, .unset, .unset, .unset, .unset, .unset, .unset, .unset, .unset] [(.long v41)])
      have a41a : v41.toInt = p1.toInt % 4611686018427387904 := by rw [hv41]; exact c_maskL p1 (4611686018427387903 : Int64) 62 (by decide) (by decide)
      have r41 := rng64 v41
      exact J2 v41 (by omega)
    · have t40 := own_ne hc40 (a := w1.toInt) (b := 0) rfl (by decide)
      refine own_by (fun t k => XS.ifNo X0.here hx rfl (hb hby at_21) rfl ((if0 _ _).trans (feq hc40).1) k) ?_
      show ORun p e below s _ _ _ s₁ (mkF m 24 #[.val (.long p1), .second, .val (.long p2), .second, .val (.long p3), .second, .val (.long p4), .second, .val (.int p5), .val (.long (4611686018427387903 : Int64)), .second, .val (.int w1), .unset, .unset, .unset, .unset, .unset, .unset, .unset, .unset, .unset, .unset, .unset, .unset, .unset, .unset, .unset, .unset, .unset, .unset, .unset, .unset] [])
      refine own_by (fun t k => X0.ldc2Long hx hown (mvT hZ (hw _ (List.mem_of_getElem? (i := 1) rfl))) (g := (mkF m 24 #[.val (.long p1), .second, .val (.long p2), .second, .val (.long p3), .second, .val (.long p4), .second, .val (.int p5), .val (.long (4611686018427387903 : Int64)), .second, .val (.int w1), .unset, .unset, .unset, .unset, .unset, .unset, .unset, .unset, .unset, .unset, .unset, .unset, .unset, .unset, .unset, .unset, .unset, .unset, .unset, .unset] [])) rfl (hb hby at_24) _ k) ?_
      show ORun p e below s _ _ _ s₁ (mkF m 27 #[.val (.long p1), .second, .val (.long p2), .second, .val (.long p3), .second, .val (.long p4), .second, .val (.int p5), .val (.long (4611686018427387903 : Int64)), .second, .val (.int w1), .unset, .unset, .unset, .unset, .unset, .unset, .unset, .unset, .unset, .unset, .unset, .unset, .unset, .unset, .unset, .unset, .unset, .unset, .unset, .unset] [(.long (9223372036854775807 : Int64))])
      refine own_by (fun t k => XS.goto X0.here hx rfl (pc0 := 27) (pc' := 34) rfl (hb hby at_27) (by decide) (by decide) k) ?_
      show ORun p e below s _ _ _ s₁ (mkF m 34 #[.val (.long p1), .second, .val (.long p2), .second, .val (.long p3), .second, .val (.long p4), .second, .val (.int p5), .val (.long (4611686018427387903 : Int64)), .second, .val (.int w1), .unset, .unset, .unset, .unset, .unset, .unset, .unset, .unset, .unset, .unset, .unset, .unset, .unset, .unset, .unset, .unset, .unset, .unset, .unset, .unset] [(.long (9223372036854775807 : Int64))])
      exact J2 (9223372036854775807 : Int64) (Or.inl ⟨by omega, by decide⟩)
  refine own_by (fun t k => XS.iload X0.here hx rfl (hb hby at_5) rfl k) ?_
  show ORun p e below s _ _ _ s₁ (mkF m 7 #[.val (.long p1), .second, .val (.long p2), .second, .val (.long p3), .second, .val (.long p4), .second, .val (.int p5), .val (.long (4611686018427387903 : Int64)), .second, .unset, .unset, .unset, .unset, .unset, .unset, .unset, .unset, .unset, .unset, .unset, .unset, .unset, .unset, .unset, .unset, .unset, .unset, .unset, .unset, .unset] [(.int p5)])
  refine own_by (fun t k => XS.iconst X0.here hx rfl (hb hby at_7) k) ?_
  show ORun p e below s _ _ _ s₁ (mkF m 8 #[.val (.long p1), .second, .val (.long p2), .second, .val (.long p3), .second, .val (.long p4), .second, .val (.int p5), .val (.long (4611686018427387903 : Int64)), .second, .unset, .unset, .unset, .unset, .unset, .unset, .unset, .unset, .unset, .unset, .unset, .unset, .unset, .unset, .unset, .unset, .unset, .unset, .unset, .unset, .unset] [(.int (1 : Int32)), (.int p5)])
  refine own_by (fun t k => XS.iand X0.here hx rfl (hb hby at_8) rfl k) (own_letI (f := (fun z => (mkF m 9 #[.val (.long p1), .second, .val (.long p2), .second, .val (.long p3), .second, .val (.long p4), .second, .val (.int p5), .val (.long (4611686018427387903 : Int64)), .second, .unset, .unset, .unset, .unset, .unset, .unset, .unset, .unset, .unset, .unset, .unset, .unset, .unset, .unset, .unset, .unset, .unset, .unset, .unset, .unset, .unset] [(.int z)]))) (p5 &&& (1 : Int32)) fun v42 hv42 => ?_)
  show ORun p e below s _ _ _ s₁ (mkF m 9 #[.val (.long p1), .second, .val (.long p2), .second, .val (.long p3), .second, .val (.long p4), .second, .val (.int p5), .val (.long (4611686018427387903 : Int64)), .second, .unset, .unset, .unset, .unset, .unset, .unset, .unset, .unset, .unset, .unset, .unset, .unset, .unset, .unset, .unset, .unset, .unset, .unset, .unset, .unset, .unset] [(.int v42)])
  have a42a : v42.toInt = p5.toInt % 2 := by rw [hv42]; exact c_mask p5 (1 : Int32) 1 (by decide) (by decide)
  have r42 := rng32 v42
  by_cases hc43 : v42 = (0 : Int32)
  · have t43 := own_eq hc43 (a := v42.toInt) (b := 0) rfl (by decide)
    refine own_by (fun t k => XS.ifYes X0.here hx rfl (pc0 := 9) (pc' := 16) rfl (hb hby at_9) rfl ((if0 _ _).trans (teq hc43).1) (by decide) (by decide) k) ?_
    show ORun p e below s _ _ _ s₁ (mkF m 16 #[.val (.long p1), .second, .val (.long p2), .second, .val (.long p3), .second, .val (.long p4), .second, .val (.int p5), .val (.long (4611686018427387903 : Int64)), .second, .unset, .unset, .unset, .unset, .unset, .unset, .unset, .unset, .unset, .unset, .unset, .unset, .unset, .unset, .unset, .unset, .unset, .unset, .unset, .unset, .unset] [])
    refine own_by (fun t k => XS.iconst X0.here hx rfl (hb hby at_16) k) ?_
    show ORun p e below s _ _ _ s₁ (mkF m 17 #[.val (.long p1), .second, .val (.long p2), .second, .val (.long p3), .second, .val (.long p4), .second, .val (.int p5), .val (.long (4611686018427387903 : Int64)), .second, .unset, .unset, .unset, .unset, .unset, .unset, .unset, .unset, .unset, .unset, .unset, .unset, .unset, .unset, .unset, .unset, .unset, .unset, .unset, .unset, .unset] [(.int (0 : Int32))])
    exact J1 (0 : Int32) (by decide)
  · have t43 := own_ne hc43 (a := v42.toInt) (b := 0) rfl (by decide)
    refine own_by (fun t k => XS.ifNo X0.here hx rfl (hb hby at_9) rfl ((if0 _ _).trans (feq hc43).1) k) ?_
    show ORun p e below s _ _ _ s₁ (mkF m 12 #[.val (.long p1), .second, .val (.long p2), .second, .val (.long p3), .second, .val (.long p4), .second, .val (.int p5), .val (.long (4611686018427387903 : Int64)), .second, .unset, .unset, .unset, .unset, .unset, .unset, .unset, .unset, .unset, .unset, .unset, .unset, .unset, .unset, .unset, .unset, .unset, .unset, .unset, .unset, .unset] [])
    refine own_by (fun t k => XS.iconst X0.here hx rfl (hb hby at_12) k) ?_
    show ORun p e below s _ _ _ s₁ (mkF m 13 #[.val (.long p1), .second, .val (.long p2), .second, .val (.long p3), .second, .val (.long p4), .second, .val (.int p5), .val (.long (4611686018427387903 : Int64)), .second, .unset, .unset, .unset, .unset, .unset, .unset, .unset, .unset, .unset, .unset, .unset, .unset, .unset, .unset, .unset, .unset, .unset, .unset, .unset, .unset, .unset] [(.int (1 : Int32))])
    refine own_by (fun t k => XS.goto X0.here hx rfl (pc0 := 13) (pc' := 17) rfl (hb hby at_13) (by decide) (by decide) k) ?_
    show ORun p e below s _ _ _ s₁ (mkF m 17 #[.val (.long p1), .second, .val (.long p2), .second, .val (.long p3), .second, .val (.long p4), .second, .val (.int p5), .val (.long (4611686018427387903 : Int64)), .second, .unset, .unset, .unset, .unset, .unset, .unset, .unset, .unset, .unset, .unset, .unset, .unset, .unset, .unset, .unset, .unset, .unset, .unset, .unset, .unset, .unset] [(.int (1 : Int32))])
    exact J1 (1 : Int32) (by decide)
set_option maxRecDepth 65536 in
set_option maxHeartbeats 40000000 in
theorem comes_1 {Post : Tables → Env → Array Value → State → Outcome → State → Prop} (hpost : ∀ tb e args s v u, (limb_1_1.after args s (.returned v) u = true ∧ limb_1_2.after args s (.returned v) u = true ∧ True) → FrameEnd s (.returned v) u (Jvm.fieldLocs frame_1_writes args s ++ Jvm.arrayLocs frame_1_arrays args s ++ Jvm.staticLocs frame_1_statics s) 16 128 → Post tb e args s (.returned v) u) :
    ArmFor flags0 classFile x code maxLocals ret World_1 tables_1 room_1 Calls_1 rest_1 Pre_1 Post := by
  intro l hfl _ _ p e ha hc hk s m args below hf hA hF happ hP
  obtain ⟨hcalls, hrest, hpre⟩ := hP
  obtain ⟨-, -, -, hnamed, -, -, -, hat⟩ := (Spec.applies_iff hf).mp happ
  obtain ⟨hg, hn⟩ := and_e (Cond.before_iff.mp (show (Jvm.Cond.and given_1 narrow_1).before args s = true from hpre))
  obtain ⟨hcnt, g0⟩ := and_e hg
  obtain ⟨k0, g1⟩ := and_e g0
  obtain ⟨k1, g2⟩ := and_e g1
  obtain ⟨k2, g3⟩ := and_e g2
  obtain ⟨k3, g4⟩ := and_e g3
  have k4 := g4
  obtain ⟨w0, w1, w2, w3, w4, rfl⟩ : ∃ w0 w1 w2 w3 w4 : Value, args = #[w0, w1, w2, w3, w4] := by
    have hs : args.size = 5 := by simpa [Cond.value, given_1] using hcnt
    obtain ⟨L⟩ := args
    match L, hs with
    | [w0, w1, w2, w3, w4], _ => exact ⟨w0, w1, w2, w3, w4, rfl⟩
  have hw := fun d (hd : d ∈ tables_1) => atoms_spec (ws := Jvm.Cond.code x code maxLocals ret :: tables_1) hat d (List.mem_cons_of_mem _ hd)
  have hfit : Fit s := fun {y c} hc i hi => by
    obtain ⟨ha, rfl⟩ := Array.getElem?_eq_some_iff.mp hc
    have q := List.all_eq_true.mp ((Array.all_eq_true_iff_forall_mem.mp hF) _ (Array.getElem_mem ha)) i (List.mem_range.mpr hi)
    simpa [Array.getElem?_eq_getElem hi] using q
  obtain ⟨i0, e0⟩ := isL_v k0
  obtain rfl : w0 = (.long i0) := Option.some.inj e0
  obtain ⟨i1, e1⟩ := isL_v k1
  obtain rfl : w1 = (.long i1) := Option.some.inj e1
  obtain ⟨i2, e2⟩ := isL_v k2
  obtain rfl : w2 = (.long i2) := Option.some.inj e2
  obtain ⟨i3, e3⟩ := isL_v k3
  obtain rfl : w3 = (.long i3) := Option.some.inj e3
  obtain ⟨i4, e4⟩ := is_v k4
  obtain rfl : w4 = (.int i4) := Option.some.inj e4
  obtain ⟨n, o, h1, h2, h3, _, L, rfl, ⟨rfl, N⟩, hq⟩ := rm0 l s _ hw tables_1 s.heap s.heap.size (Nat.le_refl _) i0 i1 i2 i3 i4  p e ha hc hk s m _ below hf ((Spec.applies_iff_loose hf).mp happ).1 ⟨rfl, State.Warmed39.refl s, rfl⟩ trivial
  refine ⟨n, _, h1, h2, h3, hpost _ _ _ _ _ _ ⟨Cond.after_iff.mpr rfl, Cond.after_iff.mpr (eq_i res_at (Term.int_eval (1)) rfl), trivial⟩ ⟨hq.1, hq.2.1, (hq.2.2.sift fun y hy => Or.inr (N y hy)).mono (by decide) (by decide)⟩⟩
theorem main_1_1 : Claimed_1_1 := comes_1 fun _ _ _ _ _ _ h hF => ⟨h.1, hF⟩
theorem main_1_2 : Claimed_1_2 := comes_1 fun _ _ _ _ _ _ h hF => ⟨h.2.1, hF⟩
end Jvm.Pilot.@@N@@
namespace Jvm.Pilot.@@N@@
open Jvm Jvm.ClassFile Sem Op Lib Jvm.Free Jvm.Stand Jvm.Pilot.@@N@@.Jvm.D
/-! MADE BY PROGRAM (witnessworld.py) out of the Statement's table words and the real class files: 9 classes; the members and pool entries that the words name. The judged class is class 1, her method 1. -/
namespace start1
open Jvm.ClassFile
def u (s : String) : CpInfo := .utf8 (stringToUtf16 s)
/-- a pool by its gaps: so many unusable entries, then the entry; so many at the end -/
def gap : Nat → List CpInfo → List CpInfo
  | 0, r => r
  | n + 1, r => .unusable :: gap n r
def poolList (es : List (Nat × CpInfo)) (last : Nat) : List CpInfo := es.foldr (fun e r => gap e.1 (e.2 :: r)) (gap last [])
def pool (es : List (Nat × CpInfo)) (last : Nat) : Array CpInfo := ⟨poolList es last⟩
def fileOf (pool : Array CpInfo) (this : Nat) (attrs : Array Attribute := #[]) (ms : Array MethodInfo := #[]) (fl : Nat := 33) (sup : Nat := 0) (ifs : Array Nat := #[]) (fds : Array FieldInfo := #[]) : ClassFile where
  minorVersion := 0
  majorVersion := 65
  constantPool := pool
  accessFlags := fl
  thisClass := this
  superClass := sup
  interfaces := ifs
  fields := fds
  methods := ms
  attributes := attrs
def plain (name : String) (sup : Option ClassId) : Class where
  name := name
  kind := .ordinary
  loader := none
  accessFlags := 33
  super := sup
  interfaces := #[]
  cf := none
  fields := #[]
  methods := #[]
  instanceTypes := #[]
  staticTypes := #[]
  resolved := #[]
  callSites := []
  init := .initialized
  statics := none
  mirror := none

def pool0 : Array CpInfo := pool [(5, u "<init>"), (0, u "()V"), (1, .class_ 10), (1, u "java/lang/Object")] 113

def k0c0 : Code := { maxStack := 0, maxLocals := 1, code := object_method_1_code, exceptionTable := #[], attributes := #[] }
def k0m0 : Method := { name := "<init>", desc := "()V", sig := { parameters := [], returnType := none }, accessFlags := 1, code := some k0c0 }
/-- java/lang/Object -/
def k0 : Class := { plain "java/lang/Object" none with
  accessFlags := 33
  interfaces := #[]
  cf := some (fileOf pool0 8 #[] #[{ accessFlags := 1, nameIndex := 5, descriptorIndex := 6, attributes := #[] }] 33 0 #[] #[])
  fields := #[]
  methods := #[k0m0]
  instanceTypes := #[]
  staticTypes := #[]
  resolved := Array.replicate 124 none
  statics := none }

def pool1 : Array CpInfo := pool [(2, .class_ 4), (1, u "java/lang/Object"), (0, u "<init>"), (0, u "()V"), (0, .long 4611686018427387903), (3, .long 9223372036854775807), (1, .class_ 14), (0, u "com/example/diligent_bench/diligentbench/StreamBudget"), (0, .methodref 13 16), (0, .nameAndType 5 17), (0, u "(J)V"), (0, .methodref 13 19), (0, .nameAndType 20 21), (0, u "resize"), (0, u "(JJ)Z"), (0, .class_ 23), (0, u "com/example/diligent_bench/diligentbench/StreamBudgetResizePinLaw"), (2, u "law"), (0, u "(JJJJI)Z")] 3

def k1m0 : Method := { name := "<init>", desc := "()V", sig := { parameters := [], returnType := none }, accessFlags := 1, code := none }
def k1c1 : Code := { maxStack := 7, maxLocals := 32, code := code, exceptionTable := #[], attributes := #[] }
def k1m1 : Method := { name := "law", desc := "(JJJJI)Z", sig := { parameters := [.long, .long, .long, .long, .int], returnType := some .boolean }, accessFlags := 9, code := some k1c1 }
/-- com/example/diligent_bench/diligentbench/StreamBudgetResizePinLaw -/
def k1 : Class := { plain "com/example/diligent_bench/diligentbench/StreamBudgetResizePinLaw" (some 0) with
  accessFlags := 49
  interfaces := #[]
  cf := some (fileOf pool1 22 #[] #[{ accessFlags := 1, nameIndex := 5, descriptorIndex := 6, attributes := #[] }, { accessFlags := 9, nameIndex := 26, descriptorIndex := 27, attributes := #[] }] 49 2 #[] #[])
  fields := #[]
  methods := #[k1m0, k1m1]
  instanceTypes := #[]
  staticTypes := #[]
  resolved := Array.replicate 31 none
  statics := none }

def pool2 : Array CpInfo := pool [(1, .methodref 2 3), (0, .class_ 4), (0, .nameAndType 5 6), (0, u "java/lang/Object"), (0, u "<init>"), (0, u "()V"), (0, .fieldref 8 9), (0, .class_ 10), (0, .nameAndType 11 12), (0, u "com/example/diligent_bench/diligentbench/StreamBudget"), (0, u "maxBytes"), (0, u "J"), (0, .fieldref 8 14), (0, .nameAndType 15 12), (0, u "bytes"), (0, u "(J)V"), (2, u "resize"), (0, u "(JJ)Z")] 3

def k2c0 : Code := { maxStack := 3, maxLocals := 3, code := prog_21_method_1_code, exceptionTable := #[], attributes := #[] }
def k2m0 : Method := { name := "<init>", desc := "(J)V", sig := { parameters := [.long], returnType := none }, accessFlags := 0, code := some k2c0 }
def k2c1 : Code := { maxStack := 7, maxLocals := 6, code := prog_21_method_2_code, exceptionTable := #[], attributes := #[] }
def k2m1 : Method := { name := "resize", desc := "(JJ)Z", sig := { parameters := [.long, .long], returnType := some .boolean }, accessFlags := 0, code := some k2c1 }
/-- com/example/diligent_bench/diligentbench/StreamBudget -/
def k2 : Class := { plain "com/example/diligent_bench/diligentbench/StreamBudget" (some 0) with
  accessFlags := 48
  interfaces := #[]
  cf := some (fileOf pool2 8 #[] #[{ accessFlags := 0, nameIndex := 5, descriptorIndex := 16, attributes := #[] }, { accessFlags := 0, nameIndex := 19, descriptorIndex := 20, attributes := #[] }] 48 2 #[] #[{ accessFlags := 18, nameIndex := 11, descriptorIndex := 12, attributes := #[] }, { accessFlags := 2, nameIndex := 15, descriptorIndex := 12, attributes := #[] }])
  fields := #[{ name := "maxBytes", type := .long, accessFlags := 18, slot := 0, constantValue := 0 }, { name := "bytes", type := .long, accessFlags := 2, slot := 1, constantValue := 0 }]
  methods := #[k2m0, k2m1]
  instanceTypes := #[.long, .long]
  staticTypes := #[]
  resolved := Array.replicate 24 none
  statics := none }

def pool3 : Array CpInfo := pool [(1, u "java/lang/Cloneable"), (0, .class_ 1), (0, u "java/lang/Object"), (0, .class_ 3)] 3

/-- java/lang/Cloneable -/
def k3 : Class := { plain "java/lang/Cloneable" (some 0) with
  accessFlags := 1537
  interfaces := #[]
  cf := some (fileOf pool3 2 #[] #[] 1537 4 #[] #[])
  fields := #[]
  methods := #[]
  instanceTypes := #[]
  staticTypes := #[]
  resolved := Array.replicate 8 none
  statics := none }

def pool4 : Array CpInfo := pool [(1, u "java/io/Serializable"), (0, .class_ 1), (0, u "java/lang/Object"), (0, .class_ 3)] 3

/-- java/io/Serializable -/
def k4 : Class := { plain "java/io/Serializable" (some 0) with
  accessFlags := 1537
  interfaces := #[]
  cf := some (fileOf pool4 2 #[] #[] 1537 4 #[] #[])
  fields := #[]
  methods := #[]
  instanceTypes := #[]
  staticTypes := #[]
  resolved := Array.replicate 8 none
  statics := none }

/-- the primitive byte -/
def k5 : Class := { plain "byte" none with kind := .primitive 'B', accessFlags := 0x411 }
/-- [B -/
def k6 : Class := { plain "[B" (some 0) with kind := .array 5 .byte, interfaces := #[3, 4], accessFlags := 1041 }

/-- the primitive int -/
def k7 : Class := { plain "int" none with kind := .primitive 'I', accessFlags := 0x411 }
/-- [I -/
def k8 : Class := { plain "[I" (some 0) with kind := .array 7 .int, interfaces := #[3, 4], accessFlags := 1041 }

def heap : Heap := #[]
def classes : Array Class := #[k0, k1, k2, k3, k4, k5, k6, k7, k8]
def interned : List (Array UInt16 × Addr) := []
def slotsUsed : Nat := 0
def theMethod : MethodId := ⟨1, 1⟩
def args0 : Array Value := #[.long 100, .long 50, .long 20, .long 30, .int 0]
def aboutOver (below : List Frame) : State where
  vm := { classes := classes, interned := interned.toArray }
  heap := heap
  slotsUsed := slotsUsed
  threads := #[{ frames := .invoking theMethod args0 :: below }]
def below0 : List Frame := [.native { method := ⟨0, 0⟩, args := #[] }]
def about1 : State := aboutOver below0
def p0 : Program := .bare "" "" ""
def e0 : Env := launch0.env 0 0 0
theorem w_frames : about1.frames = Frame.invoking theMethod args0 :: below0 := rfl
set_option maxRecDepth 65536 in
theorem w_args : argsFit about1.vm theMethod args0 = true := by decide +kernel
set_option maxRecDepth 65536 in
theorem w_heap : heapFits about1 = true := by decide +kernel
set_option maxRecDepth 65536 in
theorem w_runnable : about1.curStatus? = some .runnable := by decide +kernel
set_option maxRecDepth 65536 in
theorem w_alone : about1.alone = true := by decide +kernel
set_option maxRecDepth 65536 in
theorem w_named : about1.methodNamed? x = some theMethod := by decide +kernel
set_option maxRecDepth 65536 in
theorem w_hears : about1.hears theMethod below0 = true := by decide +kernel
set_option maxRecDepth 65536 in
theorem w_ripe : about1.ripe theMethod args0 below0 = true := by decide +kernel
theorem w_running : about1.status = .running := rfl
set_option maxRecDepth 65536 in
theorem w_room : about1.hasRoom e0.platform room_1 = true :=
  launch0.hasRoom_least _ room_1 (by decide +kernel) (by decide +kernel) (by decide +kernel) (by decide +kernel) (by decide +kernel) (by decide +kernel)
theorem allAtoms_all (ts : List Jvm.Cond) (a : Array Jvm.Value) (st : Jvm.State) : (allAtoms ts).before a st = ts.all (fun c => c.before a st) := by
  induction ts with
  | nil => rfl
  | cons c t ih =>
    show (Jvm.Cond.and c (allAtoms t)).before a st = _
    rw [Jvm.Cond.before_and, ih, List.all_cons]
def words1 : List Jvm.Cond := Jvm.Cond.code x code maxLocals ret :: tables_1
/-- a 'code' word, met by the world's own term for the bytes: nothing is compared byte by byte -/
theorem code_word {y : MethodName} {bytes : ByteArray} {mx : Nat} {rt : Option FieldType} {a : Array Value} {s : State} {m : MethodId} {meth : Method} {c : Code} (h1 : s.methodNamed? y = some m) (h2 : s.vm.method? m = some meth) (h3 : meth.code = some c) (h4 : c.code = bytes)
    (h5 : (c.maxLocals == mx && c.exceptionTable.isEmpty && decide (c.maxStack ≤ mostOperands) && decide (meth.sig.returnType = rt) && !meth.locks && decide (parseMethodDescriptor y.desc = some meth.sig)) = true) : (Jvm.Cond.code y bytes mx rt).before a s = true := by
  simp only [Bool.and_eq_true, beq_iff_eq, Bool.not_eq_true', decide_eq_true_eq] at h5
  obtain ⟨⟨⟨⟨⟨g1, g2⟩, g3⟩, g4⟩, g5⟩, g6⟩ := h5
  simp [Cond.before, Cond.holds, Cond.value, h1, h2, h3, h4, g1, g2, g3, g4, g5, g6]
def isCode : Jvm.Cond → Bool
  | .code _ _ _ _ => true
  | _ => false
theorem all_split {L : List Jvm.Cond} {P : Jvm.Cond → Bool} (h1 : L.all (fun c => isCode c || P c) = true) (h2 : ∀ c ∈ L.filter isCode, P c = true) : L.all P = true := by
  refine List.all_eq_true.mpr fun c hc => ?_
  have h := List.all_eq_true.mp h1 c hc
  rcases Bool.eq_false_or_eq_true (isCode c) with hi | hi
  · exact h2 c (List.mem_filter.mpr ⟨hc, hi⟩)
  · simpa [hi] using h
set_option maxRecDepth 65536 in
theorem w_c0 : (Jvm.Cond.code x code maxLocals ret).before args0 about1 = true := code_word (m := ⟨1, 1⟩) (meth := k1m1) (c := k1c1) (by decide +kernel) rfl rfl rfl (by decide +kernel)
set_option maxRecDepth 65536 in
theorem w_c1 : (Jvm.Cond.code ({ cls := "com/example/diligent_bench/diligentbench/StreamBudget", name := "<init>", desc := "(J)V" } : Jvm.MethodName) prog_21_method_1_code (3 : Nat) (Option.none : Option Jvm.ClassFile.FieldType)).before args0 about1 = true := code_word (m := ⟨2, 0⟩) (meth := k2m0) (c := k2c0) (by decide +kernel) rfl rfl rfl (by decide +kernel)
set_option maxRecDepth 65536 in
theorem w_c2 : (Jvm.Cond.code ({ cls := "java/lang/Object", name := "<init>", desc := "()V" } : Jvm.MethodName) object_method_1_code (1 : Nat) (Option.none : Option Jvm.ClassFile.FieldType)).before args0 about1 = true := code_word (m := ⟨0, 0⟩) (meth := k0m0) (c := k0c0) (by decide +kernel) rfl rfl rfl (by decide +kernel)
set_option maxRecDepth 65536 in
theorem w_c3 : (Jvm.Cond.code ({ cls := "com/example/diligent_bench/diligentbench/StreamBudget", name := "resize", desc := "(JJ)Z" } : Jvm.MethodName) prog_21_method_2_code (6 : Nat) (Option.some Jvm.ClassFile.FieldType.boolean)).before args0 about1 = true := code_word (m := ⟨2, 1⟩) (meth := k2m1) (c := k2c1) (by decide +kernel) rfl rfl rfl (by decide +kernel)
def codes1 : List Jvm.Cond := [Jvm.Cond.code x code maxLocals ret, Jvm.Cond.code ({ cls := "com/example/diligent_bench/diligentbench/StreamBudget", name := "<init>", desc := "(J)V" } : Jvm.MethodName) prog_21_method_1_code (3 : Nat) (Option.none : Option Jvm.ClassFile.FieldType), Jvm.Cond.code ({ cls := "java/lang/Object", name := "<init>", desc := "()V" } : Jvm.MethodName) object_method_1_code (1 : Nat) (Option.none : Option Jvm.ClassFile.FieldType), Jvm.Cond.code ({ cls := "com/example/diligent_bench/diligentbench/StreamBudget", name := "resize", desc := "(JJ)Z" } : Jvm.MethodName) prog_21_method_2_code (6 : Nat) (Option.some Jvm.ClassFile.FieldType.boolean)]
set_option maxRecDepth 65536 in
theorem codes_eq : words1.filter isCode = codes1 := rfl
theorem w_codes : ∀ c ∈ words1.filter isCode, c.before args0 about1 = true := by
  rw [codes_eq]
  intro c hc
  simp only [codes1, List.mem_cons, List.not_mem_nil, or_false] at hc
  rcases hc with rfl | rfl | rfl | rfl
  · exact w_c0
  · exact w_c1
  · exact w_c2
  · exact w_c3
set_option maxRecDepth 65536 in
theorem w_t1 : words1.all (fun c => isCode c || c.before args0 about1) = true := by decide +kernel
theorem w_tables : (allAtoms (Jvm.Cond.code x code maxLocals ret :: tables_1)).before args0 about1 = true := by
  rw [allAtoms_all]
  show words1.all (fun c => c.before args0 about1) = true
  refine all_split ?_ w_codes
  rw [w_t1]
set_option maxRecDepth 65536 in
theorem w_case : (Jvm.Cond.and given_1 narrow_1).before args0 about1 = true := by decide +kernel
theorem w_applies : (headSpec (Jvm.Cond.code x code maxLocals ret :: tables_1) room_1).applies x e0.platform about1 = true :=
  (Spec.applies_iff w_frames).mpr ⟨w_running, w_runnable, w_alone, w_named, w_hears, w_ripe, w_room, w_tables⟩
theorem atStart : AtStart classFile x code maxLocals ret World_1 tables_1 room_1 Calls_1 rest_1 Pre_1 launch0 p0 e0 about1 theMethod args0 below0 :=
  ⟨lists_1, trivial, launch0.admits_env _ _ _, launch0.least_env, fairChoices_fair.cas, fairChoices_fair.clock, w_frames, w_args, w_heap, w_applies, trivial, trivial, w_case⟩
end start1
theorem witness_1 : WitnessClaimed_1 := ⟨start1.p0, start1.e0, start1.about1, start1.theMethod, start1.args0, start1.below0, start1.atStart⟩
end Jvm.Pilot.@@N@@
