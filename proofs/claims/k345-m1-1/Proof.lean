import JvmDerived
import JvmDerived.Pilot.@@N@@Statement
import JvmDerived.Pilot.@@N@@Code
set_option linter.unusedVariables false
set_option linter.unusedSimpArgs false
namespace Jvm.RoadKit
open Sem ClassFile Op Lib Jvm.Stand Jvm.Free Jvm.LawKit
section New
variable {p : Program} {l : Launch} {e : Env} {R : Room} {s : State} {m : MethodId} {args : Array Value} {below : List Frame} {meth : Method} {c : Code} {T : State} {locs : List Loc} {cells slots : Nat}
theorem retI (X : Stand p l e R s m args below meth c T locs cells slots) (hx : p.tables.exec = Jvm.exec) {pc : Nat} {Ls : Array Slot} {z : Int32} {rest : List Value} (hret : meth.sig.returnType = some .int) (hd : decode c.code pc = .ok (.ireturn, 1)) {fs : List Frame}
    (hl : ∀ (f : JFrame) (acts : List Action), f.method = m → f.locked = none → f.entered = [] → (doReturn e (T.setTop f) acts (some (.int z))).1 = T.setFrames fs) : Steps p.tables e below (T.setTop (mkF m pc Ls (.int z :: rest))) (T.setFrames fs) := by
  have hm' : T.vm.method? m = some meth := X.method'
  have hn : narrow .int (.int z) = .int z := rfl
  show Steps p.tables e below (T.setTop { method := m, pc := pc, locals := Ls, stack := _ :: rest, locked := none }) _
  jvm_step X.here [X.here.top, hx, hd, hm', hret, hn]
  first | (intro acts; rw [hl _ acts rfl rfl rfl]) | rw [hl _ _ rfl rfl rfl]
  exact Steps.refl _
end New
end Jvm.RoadKit
namespace Jvm.Pilot.@@N@@
open Jvm Jvm.ClassFile Sem Op Lib Jvm.Free Jvm.Stand Jvm.LawKit Jvm.RoadKit Bundle Jvm.Pilot.@@N@@.Jvm.D
section OwnRun
variable {p : Program} {l : Launch} {e : Env} {R : Room} {s : State} {m : MethodId} {args : Array Value} {below : List Frame} {meth : Method} {c : Code} {T T' : State} {locs : List Loc} {cells slots : Nat} {Q : Option Value → Heap → List Loc → Prop} {C S : Nat}
/-- from T with the frame g on top the body comes to its end, and what it leaves is as Q says -/
def ORun (p : Program) (e : Env) (below : List Frame) (s : State) (Q : Option Value → Heap → List Loc → Prop) (C S : Nat) (T : State) (g : JFrame) : Prop :=
  ∃ s₂ o, Steps p.tables e below (T.setTop g) s₂ ∧ s₂.status = .running ∧ Ended s₂ below o ∧ ∃ v L, o = .returned v ∧ Q v s₂.heap L ∧ FrameEnd s o s₂ L C S
theorem own_by {g g' : JFrame} (st : ∀ t, Steps p.tables e below (T'.setTop g') t → Steps p.tables e below (T.setTop g) t) (h : ORun p e below s Q C S T' g') : ORun p e below s Q C S T g := by
  obtain ⟨s₂, o, h1, h2⟩ := h
  exact ⟨s₂, o, st _ h1, h2⟩
theorem own_tr {g g' : JFrame} (st : Steps p.tables e below (T.setTop g) (T'.setTop g')) (h : ORun p e below s Q C S T' g') : ORun p e below s Q C S T g := own_by (fun _ k => st.trans k) h
theorem own_letI (x : Int32) {f : Int32 → JFrame} (h : ∀ v, v = x → ORun p e below s Q C S T (f v)) : ORun p e below s Q C S T (f x) := h x rfl
theorem own_letJ (x : Int64) {f : Int64 → JFrame} (h : ∀ v, v = x → ORun p e below s Q C S T (f v)) : ORun p e below s Q C S T (f x) := h x rfl
theorem own_retI (X : Stand p l e R s m args below meth c T locs cells slots) (hx : p.tables.exec = Jvm.exec) {pc : Nat} {Ls : Array Slot} {z : Int32} {rest : List Value} (hret : meth.sig.returnType = some .int) (hlk : meth.locks = false) (hd : decode c.code pc = .ok (.ireturn, 1)) (hc : cells ≤ C) (hs : slots ≤ S) (hQ : Q (some (.int z)) T.heap locs) :
    ORun p e below s Q C S T (mkF m pc Ls (.int z :: rest)) := by
  obtain ⟨fs, hr, hrun, hended, hW, hsame⟩ := X.leave (v := some (.int z)) (fun h => by rw [hret] at h; cases h) hlk
  exact ⟨_, _, retI X hx hret hd hr, hrun, hended, _, _, rfl, hQ, ⟨_, rfl⟩, hW, hsame.mono hc hs⟩
theorem own_retN (X : Stand p l e R s m args below meth c T locs cells slots) (hx : p.tables.exec = Jvm.exec) {pc : Nat} {Ls : Array Slot} {z : Int32} {t : FieldType} {rest : List Value} (hret : meth.sig.returnType = some t) (ht : t = .boolean ∨ t = .byte ∨ t = .char ∨ t = .short) (hlk : meth.locks = false) (hd : decode c.code pc = .ok (.ireturn, 1)) (hc : cells ≤ C) (hs : slots ≤ S) (hQ : Q (some (.int (nar t z))) T.heap locs) :
    ORun p e below s Q C S T (mkF m pc Ls (.int z :: rest)) := by
  obtain ⟨fs, hr, hrun, hended, hW, hsame⟩ := X.leave (v := some (.int (nar t z))) (fun h => by rw [hret] at h; cases h) hlk
  exact ⟨_, _, retN X hx hret ht hd hr, hrun, hended, _, _, rfl, hQ, ⟨_, rfl⟩, hW, hsame.mono hc hs⟩
theorem own_retJ (X : Stand p l e R s m args below meth c T locs cells slots) (hx : p.tables.exec = Jvm.exec) {pc : Nat} {Ls : Array Slot} {z : Int64} (hret : meth.sig.returnType = some .long) (hlk : meth.locks = false) (hd : decode c.code pc = .ok (.lreturn, 1)) (hc : cells ≤ C) (hs : slots ≤ S) (hQ : Q (some (.long z)) T.heap locs) :
    ORun p e below s Q C S T (mkF m pc Ls [.long z]) := by
  obtain ⟨fs, hr, hrun, hended, hW, hsame⟩ := X.leave (v := some (.long z)) (fun h => by rw [hret] at h; cases h) hlk
  exact ⟨_, _, X.lreturnOut hx hret hd hr, hrun, hended, _, _, rfl, hQ, ⟨_, rfl⟩, hW, hsame.mono hc hs⟩
theorem own_retA (X : Stand p l e R s m args below meth c T locs cells slots) (hx : p.tables.exec = Jvm.exec) {pc : Nat} {Ls : Array Slot} {z : Value} {t : FieldType} {rest : List Value} (hret : meth.sig.returnType = some t) (ht : t.isReference = true) (hz : z.isRef = true) (hn : narrow t z = z) (hlk : meth.locks = false) (hd : decode c.code pc = .ok (.areturn, 1)) (hc : cells ≤ C) (hs : slots ≤ S) (hQ : Q (some z) T.heap locs) :
    ORun p e below s Q C S T (mkF m pc Ls (z :: rest)) := by
  obtain ⟨fs, hr, hrun, hended, hW, hsame⟩ := X.leave (v := some z) (fun h => by rw [hret] at h; cases h) hlk
  exact ⟨_, _, retOut X hx hret hn (Or.inr (Or.inr (Or.inr (Or.inr ⟨rfl, ht, hz⟩)))) hd hr, hrun, hended, _, _, rfl, hQ, ⟨_, rfl⟩, hW, hsame.mono hc hs⟩
theorem own_retV (X : Stand p l e R s m args below meth c T locs cells slots) (hx : p.tables.exec = Jvm.exec) {pc : Nat} {Ls : Array Slot} (hret : meth.sig.returnType = none) (hlk : meth.locks = false) (hd : decode c.code pc = .ok (.return_, 1)) (hc : cells ≤ C) (hs : slots ≤ S) (hQ : Q none T.heap locs) :
    ORun p e below s Q C S T (mkF m pc Ls []) := by
  obtain ⟨fs, hr, hrun, hended, hW, hsame⟩ := X.leave (v := none) (fun _ => rfl) hlk
  exact ⟨_, _, X.returnOut hx hret hd hr, hrun, hended, _, _, rfl, hQ, ⟨_, rfl⟩, hW, hsame.mono hc hs⟩
/-- a body's contract: called with as at the heap h (tables as at Z) it returns, and what it leaves is as Q says -/
abbrev OMet (l : Launch) (y : MethodName) (bytes : ByteArray) (maxL : Nat) (ret : Option FieldType) (ws : List Jvm.Cond) (rm : Room) (as' : Array Value) (Z : State) (h : Heap) (Q : Option Value → Heap → List Loc → Prop) : Prop :=
  MetFree l y (head1 (Jvm.Cond.code y bytes maxL ret :: ws) rm) (fun a U => a = as' ∧ Z.Warmed39 U.vm ∧ U.heap = h) (fun _ _ _ _ _ => True) (fun _ U o U' => ∃ v L, o = .returned v ∧ Q v U'.heap L ∧ FrameEnd U o U' L rm.cells rm.slots)
theorem own_met {y : MethodName} {bytes : ByteArray} {maxL : Nat} {ret : Option FieldType} {ws : List Jvm.Cond} {rm : Room} {as' : Array Value} {Z : State} {h : Heap} {Q : Option Value → Heap → List Loc → Prop} (hpn : plainFor y = true)
    (body : ∀ p e s m below meth c s₁, Stand p l e rm s m as' below meth c s₁ [] 0 0 → p.tables.exec = Jvm.exec → c.code = bytes → c.maxLocals = maxL → s.vm.findClass y.cls = some m.cls → meth.name = y.name → meth.sig.returnType = ret → meth.locks = false → Z.Warmed39 s.vm → s₁.heap = h →
      ORun p e below s Q rm.cells rm.slots s₁ (entryFrame m as' maxL)) : OMet l y bytes maxL ret ws rm as' Z h Q := by
  refine MetFree.of_bodySF hpn hisR ?_
  intro p e s m args below meth c s₁ Bd hml0 hP hK
  obtain ⟨rfl, hZ, hh⟩ := hP
  exact body p e s m below meth c s₁ (Stand.of_body Bd) Bd.exec Bd.bytes hml0 (findClass_of_methodNamed Bd.named) (name_of_methodNamed Bd.named Bd.method).1 Bd.returns Bd.notSynchronized hZ (by rw [← hh, Bd.state]; rfl)
section Calls
variable {Z : State} {a0 : Array Value} {h : Heap} {own : String} {index : Nat} {y z : MethodName} {bytes : ByteArray} {maxL : Nat} {ret : Option FieldType} {rm : Room} {as' : Array Value} {Qc : Option Value → Heap → List Loc → Prop} {W pc : Nat} {Ls : Array Slot} {st argsL rest : List Value}
theorem own_callS (X : Stand p l e R s m args below meth c T locs cells slots) (hx : p.tables.exec = Jvm.exec) (hZ : Z.Warmed39 s.vm) (hown : s.vm.findClass own = some m.cls) (w1 : (Jvm.Cond.methodLink own index y).before a0 Z = true) (w2 : (Jvm.Cond.static y).before a0 Z = true) (w3 : (Jvm.Cond.initialized y.cls).before a0 Z = true) (w4 : (Jvm.Cond.code y bytes maxL ret).before a0 Z = true)
    (hy : y.cls ≠ "java/lang/invoke/MethodHandle" ∧ y.cls ≠ "java/lang/invoke/VarHandle") (M : OMet l y bytes maxL ret [] rm as' Z h Qc) (eT : T.heap = h) (hf : rm.frames + 1 ≤ R.frames) (hl : W + (maxL + 11) + rm.locals ≤ R.locals) (hc : cells + rm.cells ≤ R.cells) (hs : slots + rm.slots ≤ R.slots)
    (hsz : Ls.size = c.maxLocals) (hlen : ∀ sig, parseMethodDescriptor y.desc = some sig → argsL.length = sig.parameters.length) (hst : st = argsL.reverse ++ rest) (has : argsL.toArray = as') (hW : 2 * 0 + (rest.map fun v => v.category).sum ≤ W) (hd : decode c.code pc = .ok (.invokestatic index, 3))
    (K : ∀ T' L v, Stand p l e R s m args below meth c T' (locs ++ L) (cells + rm.cells) (slots + rm.slots) → Qc v T'.heap L → ORun p e below s Q C S T' (mkF m (pc + 3) Ls (v.toList ++ rest))) : ORun p e below s Q C S T (mkF m pc Ls st) := by
  obtain ⟨v, _, ⟨T', L', k', n'⟩, -, X', ⟨Lc, hQ, e1, e2, e3⟩, stp⟩ := Jvm.LawKit.callS X hx (y := y) hown (mvT hZ w1) (mvT hZ w2) (mvT hZ w3) (mvT hZ w4) hy (backOf (W := W) M hZ w4 w3 hf hl) (g := mkF m pc Ls st) rfl hsz (argsL := argsL) (rest := rest) hlen hst hW hd (fun _ _ => ⟨has, eT, hc, hs⟩)
  dsimp only [Pt.U, Pt.locs, Pt.cells, Pt.slots] at X' e1 e2 e3 stp hQ
  subst e1 e2 e3
  exact own_by stp (K T' Lc v X' hQ)
theorem own_callC (X : Stand p l e R s m args below meth c T locs cells slots) (hx : p.tables.exec = Jvm.exec) (hZ : Z.Warmed39 s.vm) (hown : s.vm.findClass own = some m.cls) (hn : y.name = "<init>") (w1 : (Jvm.Cond.methodLink own index y).before a0 Z = true) (w2 : (Jvm.Cond.instanceMethod y).before a0 Z = true) (w3 : (Jvm.Cond.initialized y.cls).before a0 Z = true) (w4 : (Jvm.Cond.code y bytes maxL none).before a0 Z = true)
    (hy : y.cls ≠ "java/lang/invoke/MethodHandle" ∧ y.cls ≠ "java/lang/invoke/VarHandle") (M : OMet l y bytes maxL none [] rm as' Z h Qc) (eT : T.heap = h) (hf : rm.frames + 1 ≤ R.frames) (hl : W + (maxL + 11) + rm.locals ≤ R.locals) (hc : cells + rm.cells ≤ R.cells) (hs : slots + rm.slots ≤ R.slots)
    {b : Addr} (hsz : Ls.size = c.maxLocals) (hlen : ∀ sig, parseMethodDescriptor y.desc = some sig → argsL.length = sig.parameters.length) (hst : st = argsL.reverse ++ .ref b :: rest) (has : (.ref b :: argsL).toArray = as') (hW : 2 * 0 + (rest.map fun v => v.category).sum ≤ W) (hd : decode c.code pc = .ok (.invokespecial index, 3))
    (K : ∀ T' L v, Stand p l e R s m args below meth c T' (locs ++ L) (cells + rm.cells) (slots + rm.slots) → Qc v T'.heap L → ORun p e below s Q C S T' (mkF m (pc + 3) Ls (v.toList ++ rest))) : ORun p e below s Q C S T (mkF m pc Ls st) := by
  obtain ⟨v, _, ⟨T', L', k', n'⟩, -, X', ⟨Lc, hQ, e1, e2, e3⟩, stp⟩ := X.specialBack hx (y := y) hn hown (mvT hZ w1) (mvT hZ w2) (mvT hZ w4) hy (backOf (W := W) M hZ w4 w3 hf hl) (g := mkF m pc Ls st) rfl hsz (Steps.refl _) (a := b) (argsL := argsL) (rest := rest) hlen hst hW hd (fun _ _ => ⟨has, eT, hc, hs⟩)
  dsimp only [Pt.U, Pt.locs, Pt.cells, Pt.slots] at X' e1 e2 e3 stp hQ
  subst e1 e2 e3
  exact own_tr stp (K T' Lc v X' hQ)
theorem own_callV (X : Stand p l e R s m args below meth c T locs cells slots) (hx : p.tables.exec = Jvm.exec) (hZ : Z.Warmed39 s.vm) (hown : s.vm.findClass own = some m.cls) {Cn : String} {b : Addr} (E : Exa Z h b Cn) (w1 : (Jvm.Cond.methodLink own index y).before a0 Z = true) (wd : (Jvm.Cond.declares y).before a0 Z = true) (nf : NotFace s y) (ws : (Jvm.Cond.selects Cn y z).before a0 Z = true) (w2 : (Jvm.Cond.instanceMethod z).before a0 Z = true) (w3 : (Jvm.Cond.initialized z.cls).before a0 Z = true) (w4 : (Jvm.Cond.code z bytes maxL ret).before a0 Z = true)
    (hy : y.cls ≠ "java/lang/invoke/MethodHandle" ∧ y.cls ≠ "java/lang/invoke/VarHandle") (M : OMet l z bytes maxL ret [] rm as' Z h Qc) (eT : T.heap = h) (hf : rm.frames + 1 ≤ R.frames) (hl : W + (maxL + 11) + rm.locals ≤ R.locals) (hc : cells + rm.cells ≤ R.cells) (hs : slots + rm.slots ≤ R.slots)
    (hsz : Ls.size = c.maxLocals) (hlen : ∀ sig, parseMethodDescriptor y.desc = some sig → argsL.length = sig.parameters.length) (hst : st = argsL.reverse ++ .ref b :: rest) (has : (.ref b :: argsL).toArray = as') (hW : 2 * 0 + (rest.map fun v => v.category).sum ≤ W) (hd : decode c.code pc = .ok (.invokevirtual index, 3))
    (K : ∀ T' L v, Stand p l e R s m args below meth c T' (locs ++ L) (cells + rm.cells) (slots + rm.slots) → Qc v T'.heap L → ORun p e below s Q C S T' (mkF m (pc + 3) Ls (v.toList ++ rest))) : ORun p e below s Q C S T (mkF m pc Ls st) := by
  obtain ⟨cq, kq, qa, qb, qc⟩ := isOf hZ eT E
  obtain ⟨v, _, ⟨T', L', k', n'⟩, -, X', ⟨Lc, hQ, e1, e2, e3⟩, stp⟩ := X.virtualBack hx (y := y) (z := z) hown (mvT hZ w1) (mvT hZ wd) nf (mvT hZ ws) (mvT hZ w2) hy (backOf (W := W) M hZ w4 w3 hf hl) qa qc (g := mkF m pc Ls st) rfl hsz (Steps.refl _) (argsL := argsL) (rest := rest) hlen hst hW hd (fun _ _ => ⟨has, eT, hc, hs⟩)
  dsimp only [Pt.U, Pt.locs, Pt.cells, Pt.slots] at X' e1 e2 e3 stp hQ
  subst e1 e2 e3
  exact own_tr stp (K T' Lc v X' hQ)
end Calls
end OwnRun
theorem own_lt {x y : Int32} {a b : Int} (h : x < y) (ha : x.toInt = a) (hb : y.toInt = b) : a < b := by subst ha hb; exact Int32.lt_iff_toInt_lt.mp h
theorem own_nlt {x y : Int32} {a b : Int} (h : ¬ x < y) (ha : x.toInt = a) (hb : y.toInt = b) : b ≤ a := by subst ha hb; exact Int.not_lt.mp fun q => h (Int32.lt_iff_toInt_lt.mpr q)
theorem own_eq {x y : Int32} {a b : Int} (h : x = y) (ha : x.toInt = a) (hb : y.toInt = b) : a = b := by subst ha hb h; rfl
theorem own_ne {x y : Int32} {a b : Int} (h : ¬ x = y) (ha : x.toInt = a) (hb : y.toInt = b) : a ≠ b := by subst ha hb; exact fun q => h (Int32.toInt_inj.mp q)
theorem own_ltL {x y : Int64} {a b : Int} (h : x < y) (ha : x.toInt = a) (hb : y.toInt = b) : a < b := by subst ha hb; exact Int64.lt_iff_toInt_lt.mp h
theorem own_nltL {x y : Int64} {a b : Int} (h : ¬ x < y) (ha : x.toInt = a) (hb : y.toInt = b) : b ≤ a := by subst ha hb; exact Int.not_lt.mp fun q => h (Int64.lt_iff_toInt_lt.mpr q)
theorem own_eqL {x y : Int64} {a b : Int} (h : x = y) (ha : x.toInt = a) (hb : y.toInt = b) : a = b := by subst ha hb h; rfl
theorem own_neL {x y : Int64} {a b : Int} (h : ¬ x = y) (ha : x.toInt = a) (hb : y.toInt = b) : a ≠ b := by subst ha hb; exact fun q => h (Int64.toInt_inj.mp q)
theorem own_lc {cd : ClassFile.Cond} {x y : Int64} {b : Bool} (h : if_icmp.holds cd (lcmpW x y) 0 = b) : ifCond.holds cd (lcmpW x y) = b := (if0 _ _).trans h
theorem own_lclt {x y : Int64} (h : x < y) : ifCond.holds .lt (lcmpW x y) = true ∧ ifCond.holds .ge (lcmpW x y) = false := ⟨own_lc (tlt ((lw_lt x y).mpr h)).1, own_lc (tlt ((lw_lt x y).mpr h)).2.1⟩
theorem own_lcnlt {x y : Int64} (h : ¬ x < y) : ifCond.holds .lt (lcmpW x y) = false ∧ ifCond.holds .ge (lcmpW x y) = true := have q : ¬ lcmpW x y < 0 := fun z => h ((lw_lt x y).mp z); ⟨own_lc (flt q).1, own_lc (flt q).2.1⟩
theorem own_lcgt {x y : Int64} (h : y < x) : ifCond.holds .gt (lcmpW x y) = true ∧ ifCond.holds .le (lcmpW x y) = false := ⟨own_lc (tlt ((lw_gt x y).mpr h)).2.2.1, own_lc (tlt ((lw_gt x y).mpr h)).2.2.2⟩
theorem own_lcngt {x y : Int64} (h : ¬ y < x) : ifCond.holds .gt (lcmpW x y) = false ∧ ifCond.holds .le (lcmpW x y) = true := have q : ¬ 0 < lcmpW x y := fun z => h ((lw_gt x y).mp z); ⟨own_lc (flt q).2.2.1, own_lc (flt q).2.2.2⟩
theorem own_lceq {x y : Int64} (h : x = y) : ifCond.holds .eq (lcmpW x y) = true ∧ ifCond.holds .ne (lcmpW x y) = false := ⟨own_lc (teq ((lw_eq x y).mpr h)).1, own_lc (teq ((lw_eq x y).mpr h)).2⟩
theorem own_lcne {x y : Int64} (h : ¬ x = y) : ifCond.holds .eq (lcmpW x y) = false ∧ ifCond.holds .ne (lcmpW x y) = true := have q : ¬ lcmpW x y = 0 := fun z => h ((lw_eq x y).mp z); ⟨own_lc (feq q).1, own_lc (feq q).2⟩
theorem own_kext {h0 h : Heap} (K : Keep h0 h []) : Ext h0 h := ⟨K.1, fun a c q => K.2.1 a c q nin0⟩
theorem pd_0 : parseMethodDescriptor "(I)V" = some ⟨[.int], none⟩ := by decide +kernel
theorem pd_1 : parseMethodDescriptor "()I" = some ⟨[], some .int⟩ := by decide +kernel
theorem pd_2 : parseMethodDescriptor "(I)Z" = some ⟨[.int], some .boolean⟩ := by decide +kernel
theorem d1_0 : decode prog_24_method_1_code 0 = .ok (.aload_n 0, 1) := by decide +kernel
theorem d1_1 : decode prog_24_method_1_code 1 = .ok (.invokespecial 1, 3) := by decide +kernel
theorem d1_4 : decode prog_24_method_1_code 4 = .ok (.aload_n 0, 1) := by decide +kernel
theorem d1_5 : decode prog_24_method_1_code 5 = .ok (.iload_n 1, 1) := by decide +kernel
theorem d1_6 : decode prog_24_method_1_code 6 = .ok (.putfield 7, 3) := by decide +kernel
theorem d1_9 : decode prog_24_method_1_code 9 = .ok (.return_, 1) := by decide +kernel
theorem pn_rm1 : plainName "com/example/fondsworks/fondsworks/Part" = true := by first | (simp [plainName, overriddenIn]; done) | decide +kernel
theorem ef_rm1 (m : MethodId) (x0 : Addr) (x1 : Int32) : entryFrame m #[(.ref x0), (.int x1)] 2 = mkF m 0 #[.val (.ref x0), .val (.int x1)] [] := by first | (simp [entryFrame, mkF, argsToLocals, Value.category]; done) | rfl
set_option maxRecDepth 65536 in
set_option maxHeartbeats 40000000 in
theorem rm1 (l : Launch) (Z : State) (a0 : Array Value) (hw : ∀ d ∈ tables_1, d.before a0 Z = true) (ws : List Jvm.Cond) (h0 : Heap) (n0 : Nat) (Z0 : n0 ≤ h0.size) (a1 : Addr) (p2 : Int32) (E_a1 : Exa Z h0 a1 "com/example/fondsworks/fondsworks/Part") (g_a1 : n0 ≤ a1) (F_most_a1 : Fld Z h0 a1 "com/example/fondsworks/fondsworks/Part" "most" "I" (.int (0 : Int32))) (F_taken_a1 : Fld Z h0 a1 "com/example/fondsworks/fondsworks/Part" "taken" "I" (.int (0 : Int32))) (F_characters_a1 : Fld Z h0 a1 "com/example/fondsworks/fondsworks/Part" "characters" "J" (.long (0 : Int64))) :
    OMet l (⟨"com/example/fondsworks/fondsworks/Part", "<init>", "(I)V"⟩ : MethodName) prog_24_method_1_code 2 none ws ({ frames := 1, cells := 0, slots := 0, locals := 12 } : Room) #[(.ref a1), (.int p2)] Z h0 (fun v h L => v = none ∧ Fr n0 L ∧ Keep h0 h [a1] ∧ Exa Z h a1 "com/example/fondsworks/fondsworks/Part" ∧ Fld Z h a1 "com/example/fondsworks/fondsworks/Part" "most" "I" (.int p2) ∧ Fld Z h a1 "com/example/fondsworks/fondsworks/Part" "taken" "I" (.int (0 : Int32)) ∧ Fld Z h a1 "com/example/fondsworks/fondsworks/Part" "characters" "J" (.long (0 : Int64))) := by
  refine own_met (plainFor_of_name pn_rm1) ?_
  intro p e s m below meth c s₁ X0 hx hby hml hown hnm hret hlk hZ e0
  rw [ef_rm1]
  have N0 := Fr.nil n0
  have rg_p2 := rng32 p2
  show ORun p e below s _ _ _ s₁ (mkF m 0 #[.val (.ref a1), .val (.int p2)] [])
  refine own_by (fun t k => XS.aloadN X0.here hx rfl (hb hby d1_0) rfl rfl k) ?_
  show ORun p e below s _ _ _ s₁ (mkF m 1 #[.val (.ref a1), .val (.int p2)] [(.ref a1)])
  obtain ⟨T1, X1, e1, st1⟩ := initO X0 hx hZ hown (hw _ (List.mem_of_getElem? (i := 7) rfl)) (hw _ (List.mem_of_getElem? (i := 8) rfl)) (hw _ (List.mem_of_getElem? (i := 9) rfl)) e0 (g := (mkF m 1 #[.val (.ref a1), .val (.int p2)] [(.ref a1)])) rfl (by rw [hml]; rfl) rfl (hb hby d1_1) (by decide) (W := 0) (by show 2 * 0 + _ ≤ _; exact Nat.le_of_eq rfl) (by decide)
  refine own_by st1 ?_
  show ORun p e below s _ _ _ T1 (mkF m 4 #[.val (.ref a1), .val (.int p2)] [])
  refine own_by (fun t k => XS.aloadN X1.here hx rfl (hb hby d1_4) rfl rfl k) ?_
  show ORun p e below s _ _ _ T1 (mkF m 5 #[.val (.ref a1), .val (.int p2)] [(.ref a1)])
  refine own_by (fun t k => XS.iloadN X1.here hx rfl (hb hby d1_5) rfl k) ?_
  show ORun p e below s _ _ _ T1 (mkF m 6 #[.val (.ref a1), .val (.int p2)] [(.int p2), (.ref a1)])
  obtain ⟨T2, h2, X2, e2, W2, st2⟩ := putF X1 hx hZ hown (host := "") (Or.inl (hw _ (List.mem_of_getElem? (i := 10) rfl))) Via.refl e1 F_most_a1 E_a1 (Or.inr ⟨(hw _ (List.mem_of_getElem? (i := 11) rfl)), rfl, hnm⟩) (hw _ (List.mem_of_getElem? (i := 2) rfl)) (ty := .int) (by decide) rfl rfl (g := (mkF m 6 #[.val (.ref a1), .val (.int p2)] [(.int p2), (.ref a1)])) rfl rfl (hb hby d1_6)
  have Fw2 := Fld.same W2 F_most_a1
  have N2 := Fr.snoc X2 N0 g_a1
  refine own_by st2 ?_
  show ORun p e below s _ _ _ T2 (mkF m 9 #[.val (.ref a1), .val (.int p2)] [])
  refine own_retV X2 hx hret hlk (hb hby d1_9) (by decide) (by decide) ?_
  rw [e2]
  exact ⟨rfl, N2, ((Keep.refl h0 [a1]).wr W2 (Or.inl (List.mem_of_getElem? (i := 0) rfl))), (E_a1.wr W2), Fw2, (F_taken_a1.other W2 (Or.inr (slot_ne (Or.inl (hw _ (List.mem_of_getElem? (i := 18) rfl))) (Or.inr (hw _ (List.mem_of_getElem? (i := 11) rfl))) (by decide) (t := .int) (t' := .int) (by decide) (by decide)))), (F_characters_a1.other W2 (Or.inr (slot_ne (Or.inl (hw _ (List.mem_of_getElem? (i := 25) rfl))) (Or.inr (hw _ (List.mem_of_getElem? (i := 11) rfl))) (by decide) (t := .long) (t' := .int) (by decide) (by decide))))⟩
theorem d3_0 : decode prog_24_method_3_code 0 = .ok (.aload_n 0, 1) := by decide +kernel
theorem d3_1 : decode prog_24_method_3_code 1 = .ok (.getfield 13, 3) := by decide +kernel
theorem d3_4 : decode prog_24_method_3_code 4 = .ok (.ireturn, 1) := by decide +kernel
theorem pn_rm3 : plainName "com/example/fondsworks/fondsworks/Part" = true := by first | (simp [plainName, overriddenIn]; done) | decide +kernel
theorem ef_rm3 (m : MethodId) (x0 : Addr) : entryFrame m #[(.ref x0)] 1 = mkF m 0 #[.val (.ref x0)] [] := by first | (simp [entryFrame, mkF, argsToLocals, Value.category]; done) | rfl
set_option maxRecDepth 65536 in
set_option maxHeartbeats 40000000 in
theorem rm3 (l : Launch) (Z : State) (a0 : Array Value) (hw : ∀ d ∈ tables_1, d.before a0 Z = true) (ws : List Jvm.Cond) (h0 : Heap) (n0 : Nat) (Z0 : n0 ≤ h0.size) (a1 : Addr) (M N : Int32) (H : Int64) (E_a1 : Exa Z h0 a1 "com/example/fondsworks/fondsworks/Part") (g_a1 : n0 ≤ a1) (F_most_a1 : Fld Z h0 a1 "com/example/fondsworks/fondsworks/Part" "most" "I" (.int M)) (F_taken_a1 : Fld Z h0 a1 "com/example/fondsworks/fondsworks/Part" "taken" "I" (.int N)) (F_characters_a1 : Fld Z h0 a1 "com/example/fondsworks/fondsworks/Part" "characters" "J" (.long H)) :
    OMet l (⟨"com/example/fondsworks/fondsworks/Part", "size", "()I"⟩ : MethodName) prog_24_method_3_code 1 (some .int) ws ({ frames := 0, cells := 0, slots := 0, locals := 0 } : Room) #[(.ref a1)] Z h0 (fun v h L => v = some (.int N) ∧ Fr n0 L ∧ h = h0) := by
  refine own_met (plainFor_of_name pn_rm3) ?_
  intro p e s m below meth c s₁ X0 hx hby hml hown hnm hret hlk hZ e0
  rw [ef_rm3]
  have N0 := Fr.nil n0
  show ORun p e below s _ _ _ s₁ (mkF m 0 #[.val (.ref a1)] [])
  refine own_by (fun t k => XS.aloadN X0.here hx rfl (hb hby d3_0) rfl rfl k) ?_
  show ORun p e below s _ _ _ s₁ (mkF m 1 #[.val (.ref a1)] [(.ref a1)])
  obtain ⟨T1, X1, e1, st1⟩ := getF X0 hx hZ hown (host := "") (Or.inl (hw _ (List.mem_of_getElem? (i := 17) rfl))) Via.refl e0 F_taken_a1 (g := (mkF m 1 #[.val (.ref a1)] [(.ref a1)])) rfl rfl (hb hby d3_1)
  refine own_by st1 ?_
  show ORun p e below s _ _ _ T1 (mkF m 4 #[.val (.ref a1)] [(.int N)])
  refine own_retI X1 hx hret hlk (hb hby d3_4) (by decide) (by decide) ?_
  exact ⟨rfl, N0, e1⟩
theorem d4_0 : decode prog_24_method_2_code 0 = .ok (.aload_n 0, 1) := by decide +kernel
theorem d4_1 : decode prog_24_method_2_code 1 = .ok (.getfield 13, 3) := by decide +kernel
theorem d4_4 : decode prog_24_method_2_code 4 = .ok (.aload_n 0, 1) := by decide +kernel
theorem d4_5 : decode prog_24_method_2_code 5 = .ok (.getfield 7, 3) := by decide +kernel
theorem d4_8 : decode prog_24_method_2_code 8 = .ok (.if_icmp .ge 28, 3) := by decide +kernel
theorem d4_11 : decode prog_24_method_2_code 11 = .ok (.aload_n 0, 1) := by decide +kernel
theorem d4_12 : decode prog_24_method_2_code 12 = .ok (.getfield 13, 3) := by decide +kernel
theorem d4_15 : decode prog_24_method_2_code 15 = .ok (.ifCond .eq 17, 3) := by decide +kernel
theorem d4_18 : decode prog_24_method_2_code 18 = .ok (.aload_n 0, 1) := by decide +kernel
theorem d4_19 : decode prog_24_method_2_code 19 = .ok (.getfield 16, 3) := by decide +kernel
theorem d4_22 : decode prog_24_method_2_code 22 = .ok (.iload_n 1, 1) := by decide +kernel
theorem d4_23 : decode prog_24_method_2_code 23 = .ok (.i2l, 1) := by decide +kernel
theorem d4_24 : decode prog_24_method_2_code 24 = .ok (.ladd, 1) := by decide +kernel
theorem d4_25 : decode prog_24_method_2_code 25 = .ok (.ldc2_w 20, 3) := by decide +kernel
theorem d4_28 : decode prog_24_method_2_code 28 = .ok (.lcmp, 1) := by decide +kernel
theorem d4_29 : decode prog_24_method_2_code 29 = .ok (.ifCond .gt 7, 3) := by decide +kernel
theorem d4_32 : decode prog_24_method_2_code 32 = .ok (.iconst 1, 1) := by decide +kernel
theorem d4_33 : decode prog_24_method_2_code 33 = .ok (.goto 4, 3) := by decide +kernel
theorem d4_36 : decode prog_24_method_2_code 36 = .ok (.iconst 0, 1) := by decide +kernel
theorem d4_37 : decode prog_24_method_2_code 37 = .ok (.istore_n 2, 1) := by decide +kernel
theorem d4_38 : decode prog_24_method_2_code 38 = .ok (.iload_n 2, 1) := by decide +kernel
theorem d4_39 : decode prog_24_method_2_code 39 = .ok (.ifCond .eq 24, 3) := by decide +kernel
theorem d4_42 : decode prog_24_method_2_code 42 = .ok (.aload_n 0, 1) := by decide +kernel
theorem d4_43 : decode prog_24_method_2_code 43 = .ok (.dup, 1) := by decide +kernel
theorem d4_44 : decode prog_24_method_2_code 44 = .ok (.getfield 13, 3) := by decide +kernel
theorem d4_47 : decode prog_24_method_2_code 47 = .ok (.iconst 1, 1) := by decide +kernel
theorem d4_48 : decode prog_24_method_2_code 48 = .ok (.iadd, 1) := by decide +kernel
theorem d4_49 : decode prog_24_method_2_code 49 = .ok (.putfield 13, 3) := by decide +kernel
theorem d4_52 : decode prog_24_method_2_code 52 = .ok (.aload_n 0, 1) := by decide +kernel
theorem d4_53 : decode prog_24_method_2_code 53 = .ok (.dup, 1) := by decide +kernel
theorem d4_54 : decode prog_24_method_2_code 54 = .ok (.getfield 16, 3) := by decide +kernel
theorem d4_57 : decode prog_24_method_2_code 57 = .ok (.iload_n 1, 1) := by decide +kernel
theorem d4_58 : decode prog_24_method_2_code 58 = .ok (.i2l, 1) := by decide +kernel
theorem d4_59 : decode prog_24_method_2_code 59 = .ok (.ladd, 1) := by decide +kernel
theorem d4_60 : decode prog_24_method_2_code 60 = .ok (.putfield 16, 3) := by decide +kernel
theorem d4_63 : decode prog_24_method_2_code 63 = .ok (.iload_n 2, 1) := by decide +kernel
theorem d4_64 : decode prog_24_method_2_code 64 = .ok (.ireturn, 1) := by decide +kernel
theorem pn_rm4 : plainName "com/example/fondsworks/fondsworks/Part" = true := by first | (simp [plainName, overriddenIn]; done) | decide +kernel
theorem ef_rm4 (m : MethodId) (x0 : Addr) (x1 : Int32) : entryFrame m #[(.ref x0), (.int x1)] 3 = mkF m 0 #[.val (.ref x0), .val (.int x1), .unset] [] := by first | (simp [entryFrame, mkF, argsToLocals, Value.category]; done) | rfl
set_option maxRecDepth 65536 in
set_option maxHeartbeats 40000000 in
theorem rm4 (l : Launch) (Z : State) (a0 : Array Value) (hw : ∀ d ∈ tables_1, d.before a0 Z = true) (ws : List Jvm.Cond) (h0 : Heap) (n0 : Nat) (Z0 : n0 ≤ h0.size) (a1 : Addr) (p2 M N : Int32) (H : Int64) (E_a1 : Exa Z h0 a1 "com/example/fondsworks/fondsworks/Part") (g_a1 : n0 ≤ a1) (F_most_a1 : Fld Z h0 a1 "com/example/fondsworks/fondsworks/Part" "most" "I" (.int M)) (F_taken_a1 : Fld Z h0 a1 "com/example/fondsworks/fondsworks/Part" "taken" "I" (.int N)) (F_characters_a1 : Fld Z h0 a1 "com/example/fondsworks/fondsworks/Part" "characters" "J" (.long H)) (b1 : 0 ≤ p2.toInt ∧ 0 ≤ N.toInt ∧ N.toInt < 1000 ∧ 0 ≤ H.toInt ∧ H.toInt < 1000000000000) :
    OMet l (⟨"com/example/fondsworks/fondsworks/Part", "takes", "(I)Z"⟩ : MethodName) prog_24_method_2_code 3 (some .boolean) ws ({ frames := 0, cells := 0, slots := 0, locals := 0 } : Room) #[(.ref a1), (.int p2)] Z h0 (fun v h L => ∃ (r N' : Int32) (H' : Int64), v = some (.int r) ∧ Fr n0 L ∧ Keep h0 h [a1] ∧ Exa Z h a1 "com/example/fondsworks/fondsworks/Part" ∧ Fld Z h a1 "com/example/fondsworks/fondsworks/Part" "most" "I" (.int M) ∧ Fld Z h a1 "com/example/fondsworks/fondsworks/Part" "taken" "I" (.int N') ∧ Fld Z h a1 "com/example/fondsworks/fondsworks/Part" "characters" "J" (.long H') ∧ ((r.toInt = 1 ∧ (N.toInt < M.toInt ∧ (N.toInt = 0 ∨ H.toInt + p2.toInt ≤ 1000000)) ∧ N'.toInt = N.toInt + 1 ∧ H'.toInt = H.toInt + p2.toInt) ∨ (r.toInt = 0 ∧ ¬ (N.toInt < M.toInt ∧ (N.toInt = 0 ∨ H.toInt + p2.toInt ≤ 1000000)) ∧ N'.toInt = N.toInt ∧ H'.toInt = H.toInt))) := by
  refine own_met (plainFor_of_name pn_rm4) ?_
  intro p e s m below meth c s₁ X0 hx hby hml hown hnm hret hlk hZ e0
  rw [ef_rm4]
  have N0 := Fr.nil n0
  have rg_p2 := rng32 p2
  show ORun p e below s _ _ _ s₁ (mkF m 0 #[.val (.ref a1), .val (.int p2), .unset] [])
  refine own_by (fun t k => XS.aloadN X0.here hx rfl (hb hby d4_0) rfl rfl k) ?_
  show ORun p e below s _ _ _ s₁ (mkF m 1 #[.val (.ref a1), .val (.int p2), .unset] [(.ref a1)])
  obtain ⟨T1, X1, e1, st1⟩ := getF X0 hx hZ hown (host := "") (Or.inl (hw _ (List.mem_of_getElem? (i := 17) rfl))) Via.refl e0 F_taken_a1 (g := (mkF m 1 #[.val (.ref a1), .val (.int p2), .unset] [(.ref a1)])) rfl rfl (hb hby d4_1)
  refine own_by st1 ?_
  show ORun p e below s _ _ _ T1 (mkF m 4 #[.val (.ref a1), .val (.int p2), .unset] [(.int N)])
  refine own_by (fun t k => XS.aloadN X1.here hx rfl (hb hby d4_4) rfl rfl k) ?_
  show ORun p e below s _ _ _ T1 (mkF m 5 #[.val (.ref a1), .val (.int p2), .unset] [(.ref a1), (.int N)])
  obtain ⟨T2, X2, e2, st2⟩ := getF X1 hx hZ hown (host := "") (Or.inl (hw _ (List.mem_of_getElem? (i := 10) rfl))) Via.refl e1 F_most_a1 (g := (mkF m 5 #[.val (.ref a1), .val (.int p2), .unset] [(.ref a1), (.int N)])) rfl rfl (hb hby d4_5)
  refine own_by st2 ?_
  show ORun p e below s _ _ _ T2 (mkF m 8 #[.val (.ref a1), .val (.int p2), .unset] [(.int M), (.int N)])
  by_cases hc3 : N < M
  · have t3 := own_lt hc3 (a := N.toInt) (b := M.toInt) rfl rfl
    refine own_by (fun t k => XS.icmpNo X2.here hx rfl (hb hby d4_8) rfl (tlt hc3).2.1 k) ?_
    show ORun p e below s _ _ _ T2 (mkF m 11 #[.val (.ref a1), .val (.int p2), .unset] [])
    refine own_by (fun t k => XS.aloadN X2.here hx rfl (hb hby d4_11) rfl rfl k) ?_
    show ORun p e below s _ _ _ T2 (mkF m 12 #[.val (.ref a1), .val (.int p2), .unset] [(.ref a1)])
    obtain ⟨T4, X4, e4, st4⟩ := getF X2 hx hZ hown (host := "") (Or.inl (hw _ (List.mem_of_getElem? (i := 17) rfl))) Via.refl e2 F_taken_a1 (g := (mkF m 12 #[.val (.ref a1), .val (.int p2), .unset] [(.ref a1)])) rfl rfl (hb hby d4_12)
    refine own_by st4 ?_
    show ORun p e below s _ _ _ T4 (mkF m 15 #[.val (.ref a1), .val (.int p2), .unset] [(.int N)])
    by_cases hc5 : N = (0 : Int32)
    · have t5 := own_eq hc5 (a := N.toInt) (b := 0) rfl (by decide)
      refine own_by (fun t k => XS.ifYes X4.here hx rfl (pc0 := 15) (pc' := 32) rfl (hb hby d4_15) rfl ((if0 _ _).trans (teq hc5).1) (by decide) (by decide) k) ?_
      show ORun p e below s _ _ _ T4 (mkF m 32 #[.val (.ref a1), .val (.int p2), .unset] [])
      refine own_by (fun t k => XS.iconst X4.here hx rfl (hb hby d4_32) k) ?_
      show ORun p e below s _ _ _ T4 (mkF m 33 #[.val (.ref a1), .val (.int p2), .unset] [(.int (1 : Int32))])
      refine own_by (fun t k => XS.goto X4.here hx rfl (pc0 := 33) (pc' := 37) rfl (hb hby d4_33) (by decide) (by decide) k) ?_
      show ORun p e below s _ _ _ T4 (mkF m 37 #[.val (.ref a1), .val (.int p2), .unset] [(.int (1 : Int32))])
      refine own_by (fun t k => XS.istoreN X4.here hx rfl (hb hby d4_37) rfl (l' := #[.val (.ref a1), .val (.int p2), .val (.int (1 : Int32))]) rfl k) ?_
      show ORun p e below s _ _ _ T4 (mkF m 38 #[.val (.ref a1), .val (.int p2), .val (.int (1 : Int32))] [])
      refine own_by (fun t k => XS.iloadN X4.here hx rfl (hb hby d4_38) rfl k) ?_
      show ORun p e below s _ _ _ T4 (mkF m 39 #[.val (.ref a1), .val (.int p2), .val (.int (1 : Int32))] [(.int (1 : Int32))])
      refine own_by (fun t k => XS.ifNo X4.here hx rfl (hb hby d4_39) rfl ((if0 _ _).trans (feq (by decide)).1) k) ?_
      show ORun p e below s _ _ _ T4 (mkF m 42 #[.val (.ref a1), .val (.int p2), .val (.int (1 : Int32))] [])
      refine own_by (fun t k => XS.aloadN X4.here hx rfl (hb hby d4_42) rfl rfl k) ?_
      show ORun p e below s _ _ _ T4 (mkF m 43 #[.val (.ref a1), .val (.int p2), .val (.int (1 : Int32))] [(.ref a1)])
      refine own_by (fun t k => XS.dup X4.here hx rfl (hb hby d4_43) rfl rfl k) ?_
      show ORun p e below s _ _ _ T4 (mkF m 44 #[.val (.ref a1), .val (.int p2), .val (.int (1 : Int32))] [(.ref a1), (.ref a1)])
      obtain ⟨T6, X6, e6, st6⟩ := getF X4 hx hZ hown (host := "") (Or.inl (hw _ (List.mem_of_getElem? (i := 17) rfl))) Via.refl e4 F_taken_a1 (g := (mkF m 44 #[.val (.ref a1), .val (.int p2), .val (.int (1 : Int32))] [(.ref a1), (.ref a1)])) rfl rfl (hb hby d4_44)
      refine own_by st6 ?_
      show ORun p e below s _ _ _ T6 (mkF m 47 #[.val (.ref a1), .val (.int p2), .val (.int (1 : Int32))] [(.int N), (.ref a1)])
      refine own_by (fun t k => XS.iconst X6.here hx rfl (hb hby d4_47) k) ?_
      show ORun p e below s _ _ _ T6 (mkF m 48 #[.val (.ref a1), .val (.int p2), .val (.int (1 : Int32))] [(.int (1 : Int32)), (.int N), (.ref a1)])
      refine own_by (fun t k => XS.iadd X6.here hx rfl (hb hby d4_48) rfl k) (own_letI (f := (fun z => (mkF m 49 #[.val (.ref a1), .val (.int p2), .val (.int (1 : Int32))] [(.int z), (.ref a1)]))) (N + (1 : Int32)) fun v7 hv7 => ?_)
      show ORun p e below s _ _ _ T6 (mkF m 49 #[.val (.ref a1), .val (.int p2), .val (.int (1 : Int32))] [(.int v7), (.ref a1)])
      have r7 := rng32 v7
      have a7 : v7.toInt = N.toInt + 1 := by
        have q : (v7.toInt - (N.toInt + 1)) % 4294967296 = 0 := by rw [hv7]; exact c_iadd N (1 : Int32)
        omega
      obtain ⟨T8, h8, X8, e8, W8, st8⟩ := putF X6 hx hZ hown (host := "") (Or.inl (hw _ (List.mem_of_getElem? (i := 17) rfl))) Via.refl e6 F_taken_a1 E_a1 (Or.inl (hw _ (List.mem_of_getElem? (i := 18) rfl))) (hw _ (List.mem_of_getElem? (i := 2) rfl)) (ty := .int) (by decide) rfl rfl (g := (mkF m 49 #[.val (.ref a1), .val (.int p2), .val (.int (1 : Int32))] [(.int v7), (.ref a1)])) rfl rfl (hb hby d4_49)
      have Fw8 := Fld.same W8 F_taken_a1
      have N8 := Fr.snoc X8 N0 g_a1
      refine own_by st8 ?_
      show ORun p e below s _ _ _ T8 (mkF m 52 #[.val (.ref a1), .val (.int p2), .val (.int (1 : Int32))] [])
      refine own_by (fun t k => XS.aloadN X8.here hx rfl (hb hby d4_52) rfl rfl k) ?_
      show ORun p e below s _ _ _ T8 (mkF m 53 #[.val (.ref a1), .val (.int p2), .val (.int (1 : Int32))] [(.ref a1)])
      refine own_by (fun t k => XS.dup X8.here hx rfl (hb hby d4_53) rfl rfl k) ?_
      show ORun p e below s _ _ _ T8 (mkF m 54 #[.val (.ref a1), .val (.int p2), .val (.int (1 : Int32))] [(.ref a1), (.ref a1)])
      obtain ⟨T9, X9, e9, st9⟩ := getF X8 hx hZ hown (host := "") (Or.inl (hw _ (List.mem_of_getElem? (i := 24) rfl))) Via.refl e8 (F_characters_a1.other W8 (Or.inr (slot_ne (Or.inl (hw _ (List.mem_of_getElem? (i := 25) rfl))) (Or.inl (hw _ (List.mem_of_getElem? (i := 18) rfl))) (by decide) (t := .long) (t' := .int) (by decide) (by decide)))) (g := (mkF m 54 #[.val (.ref a1), .val (.int p2), .val (.int (1 : Int32))] [(.ref a1), (.ref a1)])) rfl rfl (hb hby d4_54)
      refine own_by st9 ?_
      show ORun p e below s _ _ _ T9 (mkF m 57 #[.val (.ref a1), .val (.int p2), .val (.int (1 : Int32))] [(.long H), (.ref a1)])
      refine own_by (fun t k => XS.iloadN X9.here hx rfl (hb hby d4_57) rfl k) ?_
      show ORun p e below s _ _ _ T9 (mkF m 58 #[.val (.ref a1), .val (.int p2), .val (.int (1 : Int32))] [(.int p2), (.long H), (.ref a1)])
      refine own_by (fun t k => XS.i2l X9.here hx rfl (hb hby d4_58) rfl k) (own_letJ (f := (fun z => (mkF m 59 #[.val (.ref a1), .val (.int p2), .val (.int (1 : Int32))] [(.long z), (.long H), (.ref a1)]))) (p2.toInt64) fun v10 hv10 => ?_)
      show ORun p e below s _ _ _ T9 (mkF m 59 #[.val (.ref a1), .val (.int p2), .val (.int (1 : Int32))] [(.long v10), (.long H), (.ref a1)])
      have a10a : v10.toInt = p2.toInt := by rw [hv10]; exact c_i2l p2
      have r10 := rng64 v10
      refine own_by (fun t k => XS.ladd X9.here hx rfl (hb hby d4_59) rfl k) (own_letJ (f := (fun z => (mkF m 60 #[.val (.ref a1), .val (.int p2), .val (.int (1 : Int32))] [(.long z), (.ref a1)]))) (H + v10) fun v11 hv11 => ?_)
      show ORun p e below s _ _ _ T9 (mkF m 60 #[.val (.ref a1), .val (.int p2), .val (.int (1 : Int32))] [(.long v11), (.ref a1)])
      have r11 := rng64 v11
      have a11 : v11.toInt = H.toInt + v10.toInt := by
        have q : (v11.toInt - (H.toInt + v10.toInt)) % 18446744073709551616 = 0 := by rw [hv11]; exact c_ladd H v10
        omega
      obtain ⟨T12, h12, X12, e12, W12, st12⟩ := putF X9 hx hZ hown (host := "") (Or.inl (hw _ (List.mem_of_getElem? (i := 24) rfl))) Via.refl e9 (F_characters_a1.other W8 (Or.inr (slot_ne (Or.inl (hw _ (List.mem_of_getElem? (i := 25) rfl))) (Or.inl (hw _ (List.mem_of_getElem? (i := 18) rfl))) (by decide) (t := .long) (t' := .int) (by decide) (by decide)))) (E_a1.wr W8) (Or.inl (hw _ (List.mem_of_getElem? (i := 25) rfl))) (hw _ (List.mem_of_getElem? (i := 2) rfl)) (ty := .long) (by decide) rfl rfl (g := (mkF m 60 #[.val (.ref a1), .val (.int p2), .val (.int (1 : Int32))] [(.long v11), (.ref a1)])) rfl rfl (hb hby d4_60)
      have Fw12 := Fld.same W12 (F_characters_a1.other W8 (Or.inr (slot_ne (Or.inl (hw _ (List.mem_of_getElem? (i := 25) rfl))) (Or.inl (hw _ (List.mem_of_getElem? (i := 18) rfl))) (by decide) (t := .long) (t' := .int) (by decide) (by decide))))
      have N12 := Fr.snoc X12 N8 g_a1
      refine own_by st12 ?_
      show ORun p e below s _ _ _ T12 (mkF m 63 #[.val (.ref a1), .val (.int p2), .val (.int (1 : Int32))] [])
      refine own_by (fun t k => XS.iloadN X12.here hx rfl (hb hby d4_63) rfl k) ?_
      show ORun p e below s _ _ _ T12 (mkF m 64 #[.val (.ref a1), .val (.int p2), .val (.int (1 : Int32))] [(.int (1 : Int32))])
      refine own_retN X12 hx (t := .boolean) hret (by simp) hlk (hb hby d4_64) (by decide) (by decide) ?_
      rw [e12]
      exact ⟨1, v7, v11, rfl, N12, (((Keep.refl h0 [a1]).wr W8 (Or.inl (List.mem_of_getElem? (i := 0) rfl))).wr W12 (Or.inl (List.mem_of_getElem? (i := 0) rfl))), ((E_a1.wr W8).wr W12), ((F_most_a1.other W8 (Or.inr (slot_ne (Or.inr (hw _ (List.mem_of_getElem? (i := 11) rfl))) (Or.inl (hw _ (List.mem_of_getElem? (i := 18) rfl))) (by decide) (t := .int) (t' := .int) (by decide) (by decide)))).other W12 (Or.inr (slot_ne (Or.inr (hw _ (List.mem_of_getElem? (i := 11) rfl))) (Or.inl (hw _ (List.mem_of_getElem? (i := 25) rfl))) (by decide) (t := .int) (t' := .long) (by decide) (by decide)))), (Fw8.other W12 (Or.inr (slot_ne (Or.inl (hw _ (List.mem_of_getElem? (i := 18) rfl))) (Or.inl (hw _ (List.mem_of_getElem? (i := 25) rfl))) (by decide) (t := .int) (t' := .long) (by decide) (by decide)))), Fw12, Or.inl ⟨by decide, by omega, by omega, by omega⟩⟩
    · have t5 := own_ne hc5 (a := N.toInt) (b := 0) rfl (by decide)
      refine own_by (fun t k => XS.ifNo X4.here hx rfl (hb hby d4_15) rfl ((if0 _ _).trans (feq hc5).1) k) ?_
      show ORun p e below s _ _ _ T4 (mkF m 18 #[.val (.ref a1), .val (.int p2), .unset] [])
      refine own_by (fun t k => XS.aloadN X4.here hx rfl (hb hby d4_18) rfl rfl k) ?_
      show ORun p e below s _ _ _ T4 (mkF m 19 #[.val (.ref a1), .val (.int p2), .unset] [(.ref a1)])
      obtain ⟨T13, X13, e13, st13⟩ := getF X4 hx hZ hown (host := "") (Or.inl (hw _ (List.mem_of_getElem? (i := 24) rfl))) Via.refl e4 F_characters_a1 (g := (mkF m 19 #[.val (.ref a1), .val (.int p2), .unset] [(.ref a1)])) rfl rfl (hb hby d4_19)
      refine own_by st13 ?_
      show ORun p e below s _ _ _ T13 (mkF m 22 #[.val (.ref a1), .val (.int p2), .unset] [(.long H)])
      refine own_by (fun t k => XS.iloadN X13.here hx rfl (hb hby d4_22) rfl k) ?_
      show ORun p e below s _ _ _ T13 (mkF m 23 #[.val (.ref a1), .val (.int p2), .unset] [(.int p2), (.long H)])
      refine own_by (fun t k => XS.i2l X13.here hx rfl (hb hby d4_23) rfl k) (own_letJ (f := (fun z => (mkF m 24 #[.val (.ref a1), .val (.int p2), .unset] [(.long z), (.long H)]))) (p2.toInt64) fun v14 hv14 => ?_)
      show ORun p e below s _ _ _ T13 (mkF m 24 #[.val (.ref a1), .val (.int p2), .unset] [(.long v14), (.long H)])
      have a14a : v14.toInt = p2.toInt := by rw [hv14]; exact c_i2l p2
      have r14 := rng64 v14
      refine own_by (fun t k => XS.ladd X13.here hx rfl (hb hby d4_24) rfl k) (own_letJ (f := (fun z => (mkF m 25 #[.val (.ref a1), .val (.int p2), .unset] [(.long z)]))) (H + v14) fun v15 hv15 => ?_)
      show ORun p e below s _ _ _ T13 (mkF m 25 #[.val (.ref a1), .val (.int p2), .unset] [(.long v15)])
      have r15 := rng64 v15
      have a15 : v15.toInt = H.toInt + v14.toInt := by
        have q : (v15.toInt - (H.toInt + v14.toInt)) % 18446744073709551616 = 0 := by rw [hv15]; exact c_ladd H v14
        omega
      refine own_by (fun t k => X13.ldc2Long hx hown (mvT hZ (hw _ (List.mem_of_getElem? (i := 27) rfl))) (g := (mkF m 25 #[.val (.ref a1), .val (.int p2), .unset] [(.long v15)])) rfl (hb hby d4_25) _ k) ?_
      show ORun p e below s _ _ _ T13 (mkF m 28 #[.val (.ref a1), .val (.int p2), .unset] [(.long (1000000 : Int64)), (.long v15)])
      refine own_by (fun t k => XS.lcmp X13.here hx rfl (hb hby d4_28) rfl k) ?_
      show ORun p e below s _ _ _ T13 (mkF m 29 #[.val (.ref a1), .val (.int p2), .unset] [(.int (lcmpW v15 (1000000 : Int64)))])
      by_cases hc16 : (1000000 : Int64) < v15
      · have t16 := own_ltL hc16 (a := 1000000) (b := v15.toInt) (by decide) rfl
        refine own_by (fun t k => XS.ifYes X13.here hx rfl (pc0 := 29) (pc' := 36) rfl (hb hby d4_29) rfl (own_lcgt hc16).1 (by decide) (by decide) k) ?_
        show ORun p e below s _ _ _ T13 (mkF m 36 #[.val (.ref a1), .val (.int p2), .unset] [])
        refine own_by (fun t k => XS.iconst X13.here hx rfl (hb hby d4_36) k) ?_
        show ORun p e below s _ _ _ T13 (mkF m 37 #[.val (.ref a1), .val (.int p2), .unset] [(.int (0 : Int32))])
        refine own_by (fun t k => XS.istoreN X13.here hx rfl (hb hby d4_37) rfl (l' := #[.val (.ref a1), .val (.int p2), .val (.int (0 : Int32))]) rfl k) ?_
        show ORun p e below s _ _ _ T13 (mkF m 38 #[.val (.ref a1), .val (.int p2), .val (.int (0 : Int32))] [])
        refine own_by (fun t k => XS.iloadN X13.here hx rfl (hb hby d4_38) rfl k) ?_
        show ORun p e below s _ _ _ T13 (mkF m 39 #[.val (.ref a1), .val (.int p2), .val (.int (0 : Int32))] [(.int (0 : Int32))])
        refine own_by (fun t k => XS.ifYes X13.here hx rfl (pc0 := 39) (pc' := 63) rfl (hb hby d4_39) rfl ((if0 _ _).trans (teq (by decide)).1) (by decide) (by decide) k) ?_
        show ORun p e below s _ _ _ T13 (mkF m 63 #[.val (.ref a1), .val (.int p2), .val (.int (0 : Int32))] [])
        refine own_by (fun t k => XS.iloadN X13.here hx rfl (hb hby d4_63) rfl k) ?_
        show ORun p e below s _ _ _ T13 (mkF m 64 #[.val (.ref a1), .val (.int p2), .val (.int (0 : Int32))] [(.int (0 : Int32))])
        refine own_retN X13 hx (t := .boolean) hret (by simp) hlk (hb hby d4_64) (by decide) (by decide) ?_
        rw [e13]
        exact ⟨0, N, H, rfl, N0, (Keep.refl h0 [a1]), E_a1, F_most_a1, F_taken_a1, F_characters_a1, Or.inr ⟨by decide, by omega, by omega, by omega⟩⟩
      · have t16 := own_nltL hc16 (a := 1000000) (b := v15.toInt) (by decide) rfl
        refine own_by (fun t k => XS.ifNo X13.here hx rfl (hb hby d4_29) rfl (own_lcngt hc16).1 k) ?_
        show ORun p e below s _ _ _ T13 (mkF m 32 #[.val (.ref a1), .val (.int p2), .unset] [])
        refine own_by (fun t k => XS.iconst X13.here hx rfl (hb hby d4_32) k) ?_
        show ORun p e below s _ _ _ T13 (mkF m 33 #[.val (.ref a1), .val (.int p2), .unset] [(.int (1 : Int32))])
        refine own_by (fun t k => XS.goto X13.here hx rfl (pc0 := 33) (pc' := 37) rfl (hb hby d4_33) (by decide) (by decide) k) ?_
        show ORun p e below s _ _ _ T13 (mkF m 37 #[.val (.ref a1), .val (.int p2), .unset] [(.int (1 : Int32))])
        refine own_by (fun t k => XS.istoreN X13.here hx rfl (hb hby d4_37) rfl (l' := #[.val (.ref a1), .val (.int p2), .val (.int (1 : Int32))]) rfl k) ?_
        show ORun p e below s _ _ _ T13 (mkF m 38 #[.val (.ref a1), .val (.int p2), .val (.int (1 : Int32))] [])
        refine own_by (fun t k => XS.iloadN X13.here hx rfl (hb hby d4_38) rfl k) ?_
        show ORun p e below s _ _ _ T13 (mkF m 39 #[.val (.ref a1), .val (.int p2), .val (.int (1 : Int32))] [(.int (1 : Int32))])
        refine own_by (fun t k => XS.ifNo X13.here hx rfl (hb hby d4_39) rfl ((if0 _ _).trans (feq (by decide)).1) k) ?_
        show ORun p e below s _ _ _ T13 (mkF m 42 #[.val (.ref a1), .val (.int p2), .val (.int (1 : Int32))] [])
        refine own_by (fun t k => XS.aloadN X13.here hx rfl (hb hby d4_42) rfl rfl k) ?_
        show ORun p e below s _ _ _ T13 (mkF m 43 #[.val (.ref a1), .val (.int p2), .val (.int (1 : Int32))] [(.ref a1)])
        refine own_by (fun t k => XS.dup X13.here hx rfl (hb hby d4_43) rfl rfl k) ?_
        show ORun p e below s _ _ _ T13 (mkF m 44 #[.val (.ref a1), .val (.int p2), .val (.int (1 : Int32))] [(.ref a1), (.ref a1)])
        obtain ⟨T17, X17, e17, st17⟩ := getF X13 hx hZ hown (host := "") (Or.inl (hw _ (List.mem_of_getElem? (i := 17) rfl))) Via.refl e13 F_taken_a1 (g := (mkF m 44 #[.val (.ref a1), .val (.int p2), .val (.int (1 : Int32))] [(.ref a1), (.ref a1)])) rfl rfl (hb hby d4_44)
        refine own_by st17 ?_
        show ORun p e below s _ _ _ T17 (mkF m 47 #[.val (.ref a1), .val (.int p2), .val (.int (1 : Int32))] [(.int N), (.ref a1)])
        refine own_by (fun t k => XS.iconst X17.here hx rfl (hb hby d4_47) k) ?_
        show ORun p e below s _ _ _ T17 (mkF m 48 #[.val (.ref a1), .val (.int p2), .val (.int (1 : Int32))] [(.int (1 : Int32)), (.int N), (.ref a1)])
        refine own_by (fun t k => XS.iadd X17.here hx rfl (hb hby d4_48) rfl k) (own_letI (f := (fun z => (mkF m 49 #[.val (.ref a1), .val (.int p2), .val (.int (1 : Int32))] [(.int z), (.ref a1)]))) (N + (1 : Int32)) fun v18 hv18 => ?_)
        show ORun p e below s _ _ _ T17 (mkF m 49 #[.val (.ref a1), .val (.int p2), .val (.int (1 : Int32))] [(.int v18), (.ref a1)])
        have r18 := rng32 v18
        have a18 : v18.toInt = N.toInt + 1 := by
          have q : (v18.toInt - (N.toInt + 1)) % 4294967296 = 0 := by rw [hv18]; exact c_iadd N (1 : Int32)
          omega
        obtain ⟨T19, h19, X19, e19, W19, st19⟩ := putF X17 hx hZ hown (host := "") (Or.inl (hw _ (List.mem_of_getElem? (i := 17) rfl))) Via.refl e17 F_taken_a1 E_a1 (Or.inl (hw _ (List.mem_of_getElem? (i := 18) rfl))) (hw _ (List.mem_of_getElem? (i := 2) rfl)) (ty := .int) (by decide) rfl rfl (g := (mkF m 49 #[.val (.ref a1), .val (.int p2), .val (.int (1 : Int32))] [(.int v18), (.ref a1)])) rfl rfl (hb hby d4_49)
        have Fw19 := Fld.same W19 F_taken_a1
        have N19 := Fr.snoc X19 N0 g_a1
        refine own_by st19 ?_
        show ORun p e below s _ _ _ T19 (mkF m 52 #[.val (.ref a1), .val (.int p2), .val (.int (1 : Int32))] [])
        refine own_by (fun t k => XS.aloadN X19.here hx rfl (hb hby d4_52) rfl rfl k) ?_
        show ORun p e below s _ _ _ T19 (mkF m 53 #[.val (.ref a1), .val (.int p2), .val (.int (1 : Int32))] [(.ref a1)])
        refine own_by (fun t k => XS.dup X19.here hx rfl (hb hby d4_53) rfl rfl k) ?_
        show ORun p e below s _ _ _ T19 (mkF m 54 #[.val (.ref a1), .val (.int p2), .val (.int (1 : Int32))] [(.ref a1), (.ref a1)])
        obtain ⟨T20, X20, e20, st20⟩ := getF X19 hx hZ hown (host := "") (Or.inl (hw _ (List.mem_of_getElem? (i := 24) rfl))) Via.refl e19 (F_characters_a1.other W19 (Or.inr (slot_ne (Or.inl (hw _ (List.mem_of_getElem? (i := 25) rfl))) (Or.inl (hw _ (List.mem_of_getElem? (i := 18) rfl))) (by decide) (t := .long) (t' := .int) (by decide) (by decide)))) (g := (mkF m 54 #[.val (.ref a1), .val (.int p2), .val (.int (1 : Int32))] [(.ref a1), (.ref a1)])) rfl rfl (hb hby d4_54)
        refine own_by st20 ?_
        show ORun p e below s _ _ _ T20 (mkF m 57 #[.val (.ref a1), .val (.int p2), .val (.int (1 : Int32))] [(.long H), (.ref a1)])
        refine own_by (fun t k => XS.iloadN X20.here hx rfl (hb hby d4_57) rfl k) ?_
        show ORun p e below s _ _ _ T20 (mkF m 58 #[.val (.ref a1), .val (.int p2), .val (.int (1 : Int32))] [(.int p2), (.long H), (.ref a1)])
        refine own_by (fun t k => XS.i2l X20.here hx rfl (hb hby d4_58) rfl k) (own_letJ (f := (fun z => (mkF m 59 #[.val (.ref a1), .val (.int p2), .val (.int (1 : Int32))] [(.long z), (.long H), (.ref a1)]))) (p2.toInt64) fun v21 hv21 => ?_)
        show ORun p e below s _ _ _ T20 (mkF m 59 #[.val (.ref a1), .val (.int p2), .val (.int (1 : Int32))] [(.long v21), (.long H), (.ref a1)])
        have a21a : v21.toInt = p2.toInt := by rw [hv21]; exact c_i2l p2
        have r21 := rng64 v21
        refine own_by (fun t k => XS.ladd X20.here hx rfl (hb hby d4_59) rfl k) (own_letJ (f := (fun z => (mkF m 60 #[.val (.ref a1), .val (.int p2), .val (.int (1 : Int32))] [(.long z), (.ref a1)]))) (H + v21) fun v22 hv22 => ?_)
        show ORun p e below s _ _ _ T20 (mkF m 60 #[.val (.ref a1), .val (.int p2), .val (.int (1 : Int32))] [(.long v22), (.ref a1)])
        have r22 := rng64 v22
        have a22 : v22.toInt = H.toInt + v21.toInt := by
          have q : (v22.toInt - (H.toInt + v21.toInt)) % 18446744073709551616 = 0 := by rw [hv22]; exact c_ladd H v21
          omega
        obtain ⟨T23, h23, X23, e23, W23, st23⟩ := putF X20 hx hZ hown (host := "") (Or.inl (hw _ (List.mem_of_getElem? (i := 24) rfl))) Via.refl e20 (F_characters_a1.other W19 (Or.inr (slot_ne (Or.inl (hw _ (List.mem_of_getElem? (i := 25) rfl))) (Or.inl (hw _ (List.mem_of_getElem? (i := 18) rfl))) (by decide) (t := .long) (t' := .int) (by decide) (by decide)))) (E_a1.wr W19) (Or.inl (hw _ (List.mem_of_getElem? (i := 25) rfl))) (hw _ (List.mem_of_getElem? (i := 2) rfl)) (ty := .long) (by decide) rfl rfl (g := (mkF m 60 #[.val (.ref a1), .val (.int p2), .val (.int (1 : Int32))] [(.long v22), (.ref a1)])) rfl rfl (hb hby d4_60)
        have Fw23 := Fld.same W23 (F_characters_a1.other W19 (Or.inr (slot_ne (Or.inl (hw _ (List.mem_of_getElem? (i := 25) rfl))) (Or.inl (hw _ (List.mem_of_getElem? (i := 18) rfl))) (by decide) (t := .long) (t' := .int) (by decide) (by decide))))
        have N23 := Fr.snoc X23 N19 g_a1
        refine own_by st23 ?_
        show ORun p e below s _ _ _ T23 (mkF m 63 #[.val (.ref a1), .val (.int p2), .val (.int (1 : Int32))] [])
        refine own_by (fun t k => XS.iloadN X23.here hx rfl (hb hby d4_63) rfl k) ?_
        show ORun p e below s _ _ _ T23 (mkF m 64 #[.val (.ref a1), .val (.int p2), .val (.int (1 : Int32))] [(.int (1 : Int32))])
        refine own_retN X23 hx (t := .boolean) hret (by simp) hlk (hb hby d4_64) (by decide) (by decide) ?_
        rw [e23]
        exact ⟨1, v18, v22, rfl, N23, (((Keep.refl h0 [a1]).wr W19 (Or.inl (List.mem_of_getElem? (i := 0) rfl))).wr W23 (Or.inl (List.mem_of_getElem? (i := 0) rfl))), ((E_a1.wr W19).wr W23), ((F_most_a1.other W19 (Or.inr (slot_ne (Or.inr (hw _ (List.mem_of_getElem? (i := 11) rfl))) (Or.inl (hw _ (List.mem_of_getElem? (i := 18) rfl))) (by decide) (t := .int) (t' := .int) (by decide) (by decide)))).other W23 (Or.inr (slot_ne (Or.inr (hw _ (List.mem_of_getElem? (i := 11) rfl))) (Or.inl (hw _ (List.mem_of_getElem? (i := 25) rfl))) (by decide) (t := .int) (t' := .long) (by decide) (by decide)))), (Fw19.other W23 (Or.inr (slot_ne (Or.inl (hw _ (List.mem_of_getElem? (i := 18) rfl))) (Or.inl (hw _ (List.mem_of_getElem? (i := 25) rfl))) (by decide) (t := .int) (t' := .long) (by decide) (by decide)))), Fw23, Or.inl ⟨by decide, by omega, by omega, by omega⟩⟩
  · have t3 := own_nlt hc3 (a := N.toInt) (b := M.toInt) rfl rfl
    refine own_by (fun t k => XS.icmpYes X2.here hx rfl (pc0 := 8) (pc' := 36) rfl (hb hby d4_8) rfl (flt hc3).2.1 (by decide) (by decide) k) ?_
    show ORun p e below s _ _ _ T2 (mkF m 36 #[.val (.ref a1), .val (.int p2), .unset] [])
    refine own_by (fun t k => XS.iconst X2.here hx rfl (hb hby d4_36) k) ?_
    show ORun p e below s _ _ _ T2 (mkF m 37 #[.val (.ref a1), .val (.int p2), .unset] [(.int (0 : Int32))])
    refine own_by (fun t k => XS.istoreN X2.here hx rfl (hb hby d4_37) rfl (l' := #[.val (.ref a1), .val (.int p2), .val (.int (0 : Int32))]) rfl k) ?_
    show ORun p e below s _ _ _ T2 (mkF m 38 #[.val (.ref a1), .val (.int p2), .val (.int (0 : Int32))] [])
    refine own_by (fun t k => XS.iloadN X2.here hx rfl (hb hby d4_38) rfl k) ?_
    show ORun p e below s _ _ _ T2 (mkF m 39 #[.val (.ref a1), .val (.int p2), .val (.int (0 : Int32))] [(.int (0 : Int32))])
    refine own_by (fun t k => XS.ifYes X2.here hx rfl (pc0 := 39) (pc' := 63) rfl (hb hby d4_39) rfl ((if0 _ _).trans (teq (by decide)).1) (by decide) (by decide) k) ?_
    show ORun p e below s _ _ _ T2 (mkF m 63 #[.val (.ref a1), .val (.int p2), .val (.int (0 : Int32))] [])
    refine own_by (fun t k => XS.iloadN X2.here hx rfl (hb hby d4_63) rfl k) ?_
    show ORun p e below s _ _ _ T2 (mkF m 64 #[.val (.ref a1), .val (.int p2), .val (.int (0 : Int32))] [(.int (0 : Int32))])
    refine own_retN X2 hx (t := .boolean) hret (by simp) hlk (hb hby d4_64) (by decide) (by decide) ?_
    rw [e2]
    exact ⟨0, N, H, rfl, N0, (Keep.refl h0 [a1]), E_a1, F_most_a1, F_taken_a1, F_characters_a1, Or.inr ⟨by decide, by omega, by omega, by omega⟩⟩
theorem pn_rm0 : plainName "com/example/fondsworks/fondsworks/PartTakesPinLaw" = true := by first | (simp [plainName, overriddenIn]; done) | decide +kernel
theorem ef_rm0 (m : MethodId) (x0 : Int32) (x1 : Int32) (x2 : Int32) (x3 : Int32) : entryFrame m #[(.int x0), (.int x1), (.int x2), (.int x3)] maxLocals = mkF m 0 #[.val (.int x0), .val (.int x1), .val (.int x2), .val (.int x3), .unset, .unset, .unset, .unset, .unset, .unset, .unset, .unset, .unset, .unset, .unset, .unset, .unset, .unset, .unset] [] := by first | (simp [entryFrame, mkF, argsToLocals, Value.category, maxLocals]; done) | rfl
set_option maxRecDepth 65536 in
set_option maxHeartbeats 40000000 in
theorem rm0 (l : Launch) (Z : State) (a0 : Array Value) (hw : ∀ d ∈ tables_1, d.before a0 Z = true) (ws : List Jvm.Cond) (h0 : Heap) (n0 : Nat) (Z0 : n0 ≤ h0.size) (p1 p2 p3 p4 : Int32) :
    OMet l x code maxLocals ret ws room_1 #[(.int p1), (.int p2), (.int p3), (.int p4)] Z h0 (fun v h L => v = some (.int 1) ∧ Fr n0 L) := by
  refine own_met (plainFor_of_name pn_rm0) ?_
  intro p e s m below meth c s₁ X0 hx hby hml hown hnm hret hlk hZ e0
  rw [ef_rm0]
  have N0 := Fr.nil n0
  have rg_p1 := rng32 p1
  have rg_p2 := rng32 p2
  have rg_p3 := rng32 p3
  have rg_p4 := rng32 p4
  show ORun p e below s _ _ _ s₁ (mkF m 0 #[.val (.int p1), .val (.int p2), .val (.int p3), .val (.int p4), .unset, .unset, .unset, .unset, .unset, .unset, .unset, .unset, .unset, .unset, .unset, .unset, .unset, .unset, .unset] [])
  refine own_by (fun t k => XS.iloadN X0.here hx rfl (hb hby at_0) rfl k) ?_
  show ORun p e below s _ _ _ s₁ (mkF m 1 #[.val (.int p1), .val (.int p2), .val (.int p3), .val (.int p4), .unset, .unset, .unset, .unset, .unset, .unset, .unset, .unset, .unset, .unset, .unset, .unset, .unset, .unset, .unset] [(.int p1)])
  refine own_by (fun t k => XS.iconst X0.here hx rfl (hb hby at_1) k) ?_
  show ORun p e below s _ _ _ s₁ (mkF m 2 #[.val (.int p1), .val (.int p2), .val (.int p3), .val (.int p4), .unset, .unset, .unset, .unset, .unset, .unset, .unset, .unset, .unset, .unset, .unset, .unset, .unset, .unset, .unset] [(.int (3 : Int32)), (.int p1)])
  refine own_by (fun t k => XS.iand X0.here hx rfl (hb hby at_2) rfl k) (own_letI (f := (fun z => (mkF m 3 #[.val (.int p1), .val (.int p2), .val (.int p3), .val (.int p4), .unset, .unset, .unset, .unset, .unset, .unset, .unset, .unset, .unset, .unset, .unset, .unset, .unset, .unset, .unset] [(.int z)]))) (p1 &&& (3 : Int32)) fun v1 hv1 => ?_)
  show ORun p e below s _ _ _ s₁ (mkF m 3 #[.val (.int p1), .val (.int p2), .val (.int p3), .val (.int p4), .unset, .unset, .unset, .unset, .unset, .unset, .unset, .unset, .unset, .unset, .unset, .unset, .unset, .unset, .unset] [(.int v1)])
  have a1a : v1.toInt = p1.toInt % 4 := by rw [hv1]; exact c_mask p1 (3 : Int32) 2 (by decide) (by decide)
  have r1 := rng32 v1
  refine own_by (fun t k => XS.istore X0.here hx rfl (hb hby at_3) rfl (l' := #[.val (.int p1), .val (.int p2), .val (.int p3), .val (.int p4), .val (.int v1), .unset, .unset, .unset, .unset, .unset, .unset, .unset, .unset, .unset, .unset, .unset, .unset, .unset, .unset]) rfl k) ?_
  show ORun p e below s _ _ _ s₁ (mkF m 5 #[.val (.int p1), .val (.int p2), .val (.int p3), .val (.int p4), .val (.int v1), .unset, .unset, .unset, .unset, .unset, .unset, .unset, .unset, .unset, .unset, .unset, .unset, .unset, .unset] [])
  refine own_by (fun t k => XS.iloadN X0.here hx rfl (hb hby at_5) rfl k) ?_
  show ORun p e below s _ _ _ s₁ (mkF m 6 #[.val (.int p1), .val (.int p2), .val (.int p3), .val (.int p4), .val (.int v1), .unset, .unset, .unset, .unset, .unset, .unset, .unset, .unset, .unset, .unset, .unset, .unset, .unset, .unset] [(.int p2)])
  refine own_by (fun t k => X0.ldcInt hx hown (mvT hZ (hw _ (List.mem_of_getElem? (i := 0) rfl))) (g := (mkF m 6 #[.val (.int p1), .val (.int p2), .val (.int p3), .val (.int p4), .val (.int v1), .unset, .unset, .unset, .unset, .unset, .unset, .unset, .unset, .unset, .unset, .unset, .unset, .unset, .unset] [(.int p2)])) rfl (hb hby at_6) _ k) ?_
  show ORun p e below s _ _ _ s₁ (mkF m 8 #[.val (.int p1), .val (.int p2), .val (.int p3), .val (.int p4), .val (.int v1), .unset, .unset, .unset, .unset, .unset, .unset, .unset, .unset, .unset, .unset, .unset, .unset, .unset, .unset] [(.int (2147483647 : Int32)), (.int p2)])
  refine own_by (fun t k => XS.iand X0.here hx rfl (hb hby at_8) rfl k) (own_letI (f := (fun z => (mkF m 9 #[.val (.int p1), .val (.int p2), .val (.int p3), .val (.int p4), .val (.int v1), .unset, .unset, .unset, .unset, .unset, .unset, .unset, .unset, .unset, .unset, .unset, .unset, .unset, .unset] [(.int z)]))) (p2 &&& (2147483647 : Int32)) fun v2 hv2 => ?_)
  show ORun p e below s _ _ _ s₁ (mkF m 9 #[.val (.int p1), .val (.int p2), .val (.int p3), .val (.int p4), .val (.int v1), .unset, .unset, .unset, .unset, .unset, .unset, .unset, .unset, .unset, .unset, .unset, .unset, .unset, .unset] [(.int v2)])
  have a2a : v2.toInt = p2.toInt % 2147483648 := by rw [hv2]; exact c_mask p2 (2147483647 : Int32) 31 (by decide) (by decide)
  have r2 := rng32 v2
  refine own_by (fun t k => XS.istore X0.here hx rfl (hb hby at_9) rfl (l' := #[.val (.int p1), .val (.int p2), .val (.int p3), .val (.int p4), .val (.int v1), .val (.int v2), .unset, .unset, .unset, .unset, .unset, .unset, .unset, .unset, .unset, .unset, .unset, .unset, .unset]) rfl k) ?_
  show ORun p e below s _ _ _ s₁ (mkF m 11 #[.val (.int p1), .val (.int p2), .val (.int p3), .val (.int p4), .val (.int v1), .val (.int v2), .unset, .unset, .unset, .unset, .unset, .unset, .unset, .unset, .unset, .unset, .unset, .unset, .unset] [])
  refine own_by (fun t k => XS.iloadN X0.here hx rfl (hb hby at_11) rfl k) ?_
  show ORun p e below s _ _ _ s₁ (mkF m 12 #[.val (.int p1), .val (.int p2), .val (.int p3), .val (.int p4), .val (.int v1), .val (.int v2), .unset, .unset, .unset, .unset, .unset, .unset, .unset, .unset, .unset, .unset, .unset, .unset, .unset] [(.int p3)])
  refine own_by (fun t k => X0.ldcInt hx hown (mvT hZ (hw _ (List.mem_of_getElem? (i := 0) rfl))) (g := (mkF m 12 #[.val (.int p1), .val (.int p2), .val (.int p3), .val (.int p4), .val (.int v1), .val (.int v2), .unset, .unset, .unset, .unset, .unset, .unset, .unset, .unset, .unset, .unset, .unset, .unset, .unset] [(.int p3)])) rfl (hb hby at_12) _ k) ?_
  show ORun p e below s _ _ _ s₁ (mkF m 14 #[.val (.int p1), .val (.int p2), .val (.int p3), .val (.int p4), .val (.int v1), .val (.int v2), .unset, .unset, .unset, .unset, .unset, .unset, .unset, .unset, .unset, .unset, .unset, .unset, .unset] [(.int (2147483647 : Int32)), (.int p3)])
  refine own_by (fun t k => XS.iand X0.here hx rfl (hb hby at_14) rfl k) (own_letI (f := (fun z => (mkF m 15 #[.val (.int p1), .val (.int p2), .val (.int p3), .val (.int p4), .val (.int v1), .val (.int v2), .unset, .unset, .unset, .unset, .unset, .unset, .unset, .unset, .unset, .unset, .unset, .unset, .unset] [(.int z)]))) (p3 &&& (2147483647 : Int32)) fun v3 hv3 => ?_)
  show ORun p e below s _ _ _ s₁ (mkF m 15 #[.val (.int p1), .val (.int p2), .val (.int p3), .val (.int p4), .val (.int v1), .val (.int v2), .unset, .unset, .unset, .unset, .unset, .unset, .unset, .unset, .unset, .unset, .unset, .unset, .unset] [(.int v3)])
  have a3a : v3.toInt = p3.toInt % 2147483648 := by rw [hv3]; exact c_mask p3 (2147483647 : Int32) 31 (by decide) (by decide)
  have r3 := rng32 v3
  refine own_by (fun t k => XS.istore X0.here hx rfl (hb hby at_15) rfl (l' := #[.val (.int p1), .val (.int p2), .val (.int p3), .val (.int p4), .val (.int v1), .val (.int v2), .val (.int v3), .unset, .unset, .unset, .unset, .unset, .unset, .unset, .unset, .unset, .unset, .unset, .unset]) rfl k) ?_
  show ORun p e below s _ _ _ s₁ (mkF m 17 #[.val (.int p1), .val (.int p2), .val (.int p3), .val (.int p4), .val (.int v1), .val (.int v2), .val (.int v3), .unset, .unset, .unset, .unset, .unset, .unset, .unset, .unset, .unset, .unset, .unset, .unset] [])
  refine own_by (fun t k => XS.iloadN X0.here hx rfl (hb hby at_17) rfl k) ?_
  show ORun p e below s _ _ _ s₁ (mkF m 18 #[.val (.int p1), .val (.int p2), .val (.int p3), .val (.int p4), .val (.int v1), .val (.int v2), .val (.int v3), .unset, .unset, .unset, .unset, .unset, .unset, .unset, .unset, .unset, .unset, .unset, .unset] [(.int p4)])
  refine own_by (fun t k => X0.ldcInt hx hown (mvT hZ (hw _ (List.mem_of_getElem? (i := 0) rfl))) (g := (mkF m 18 #[.val (.int p1), .val (.int p2), .val (.int p3), .val (.int p4), .val (.int v1), .val (.int v2), .val (.int v3), .unset, .unset, .unset, .unset, .unset, .unset, .unset, .unset, .unset, .unset, .unset, .unset] [(.int p4)])) rfl (hb hby at_18) _ k) ?_
  show ORun p e below s _ _ _ s₁ (mkF m 20 #[.val (.int p1), .val (.int p2), .val (.int p3), .val (.int p4), .val (.int v1), .val (.int v2), .val (.int v3), .unset, .unset, .unset, .unset, .unset, .unset, .unset, .unset, .unset, .unset, .unset, .unset] [(.int (2147483647 : Int32)), (.int p4)])
  refine own_by (fun t k => XS.iand X0.here hx rfl (hb hby at_20) rfl k) (own_letI (f := (fun z => (mkF m 21 #[.val (.int p1), .val (.int p2), .val (.int p3), .val (.int p4), .val (.int v1), .val (.int v2), .val (.int v3), .unset, .unset, .unset, .unset, .unset, .unset, .unset, .unset, .unset, .unset, .unset, .unset] [(.int z)]))) (p4 &&& (2147483647 : Int32)) fun v4 hv4 => ?_)
  show ORun p e below s _ _ _ s₁ (mkF m 21 #[.val (.int p1), .val (.int p2), .val (.int p3), .val (.int p4), .val (.int v1), .val (.int v2), .val (.int v3), .unset, .unset, .unset, .unset, .unset, .unset, .unset, .unset, .unset, .unset, .unset, .unset] [(.int v4)])
  have a4a : v4.toInt = p4.toInt % 2147483648 := by rw [hv4]; exact c_mask p4 (2147483647 : Int32) 31 (by decide) (by decide)
  have r4 := rng32 v4
  refine own_by (fun t k => XS.istore X0.here hx rfl (hb hby at_21) rfl (l' := #[.val (.int p1), .val (.int p2), .val (.int p3), .val (.int p4), .val (.int v1), .val (.int v2), .val (.int v3), .val (.int v4), .unset, .unset, .unset, .unset, .unset, .unset, .unset, .unset, .unset, .unset, .unset]) rfl k) ?_
  show ORun p e below s _ _ _ s₁ (mkF m 23 #[.val (.int p1), .val (.int p2), .val (.int p3), .val (.int p4), .val (.int v1), .val (.int v2), .val (.int v3), .val (.int v4), .unset, .unset, .unset, .unset, .unset, .unset, .unset, .unset, .unset, .unset, .unset] [])
  refine own_by (fun t k => XS.iload X0.here hx rfl (hb hby at_23) rfl k) ?_
  show ORun p e below s _ _ _ s₁ (mkF m 25 #[.val (.int p1), .val (.int p2), .val (.int p3), .val (.int p4), .val (.int v1), .val (.int v2), .val (.int v3), .val (.int v4), .unset, .unset, .unset, .unset, .unset, .unset, .unset, .unset, .unset, .unset, .unset] [(.int v2)])
  refine own_by (fun t k => XS.i2l X0.here hx rfl (hb hby at_25) rfl k) (own_letJ (f := (fun z => (mkF m 26 #[.val (.int p1), .val (.int p2), .val (.int p3), .val (.int p4), .val (.int v1), .val (.int v2), .val (.int v3), .val (.int v4), .unset, .unset, .unset, .unset, .unset, .unset, .unset, .unset, .unset, .unset, .unset] [(.long z)]))) (v2.toInt64) fun v5 hv5 => ?_)
  show ORun p e below s _ _ _ s₁ (mkF m 26 #[.val (.int p1), .val (.int p2), .val (.int p3), .val (.int p4), .val (.int v1), .val (.int v2), .val (.int v3), .val (.int v4), .unset, .unset, .unset, .unset, .unset, .unset, .unset, .unset, .unset, .unset, .unset] [(.long v5)])
  have a5a : v5.toInt = v2.toInt := by rw [hv5]; exact c_i2l v2
  have r5 := rng64 v5
  refine own_by (fun t k => XS.iload X0.here hx rfl (hb hby at_26) rfl k) ?_
  show ORun p e below s _ _ _ s₁ (mkF m 28 #[.val (.int p1), .val (.int p2), .val (.int p3), .val (.int p4), .val (.int v1), .val (.int v2), .val (.int v3), .val (.int v4), .unset, .unset, .unset, .unset, .unset, .unset, .unset, .unset, .unset, .unset, .unset] [(.int v3), (.long v5)])
  refine own_by (fun t k => XS.i2l X0.here hx rfl (hb hby at_28) rfl k) (own_letJ (f := (fun z => (mkF m 29 #[.val (.int p1), .val (.int p2), .val (.int p3), .val (.int p4), .val (.int v1), .val (.int v2), .val (.int v3), .val (.int v4), .unset, .unset, .unset, .unset, .unset, .unset, .unset, .unset, .unset, .unset, .unset] [(.long z), (.long v5)]))) (v3.toInt64) fun v6 hv6 => ?_)
  show ORun p e below s _ _ _ s₁ (mkF m 29 #[.val (.int p1), .val (.int p2), .val (.int p3), .val (.int p4), .val (.int v1), .val (.int v2), .val (.int v3), .val (.int v4), .unset, .unset, .unset, .unset, .unset, .unset, .unset, .unset, .unset, .unset, .unset] [(.long v6), (.long v5)])
  have a6a : v6.toInt = v3.toInt := by rw [hv6]; exact c_i2l v3
  have r6 := rng64 v6
  refine own_by (fun t k => XS.ladd X0.here hx rfl (hb hby at_29) rfl k) (own_letJ (f := (fun z => (mkF m 30 #[.val (.int p1), .val (.int p2), .val (.int p3), .val (.int p4), .val (.int v1), .val (.int v2), .val (.int v3), .val (.int v4), .unset, .unset, .unset, .unset, .unset, .unset, .unset, .unset, .unset, .unset, .unset] [(.long z)]))) (v5 + v6) fun v7 hv7 => ?_)
  show ORun p e below s _ _ _ s₁ (mkF m 30 #[.val (.int p1), .val (.int p2), .val (.int p3), .val (.int p4), .val (.int v1), .val (.int v2), .val (.int v3), .val (.int v4), .unset, .unset, .unset, .unset, .unset, .unset, .unset, .unset, .unset, .unset, .unset] [(.long v7)])
  have r7 := rng64 v7
  have a7 : v7.toInt = v5.toInt + v6.toInt := by
    have q : (v7.toInt - (v5.toInt + v6.toInt)) % 18446744073709551616 = 0 := by rw [hv7]; exact c_ladd v5 v6
    omega
  refine own_by (fun t k => XS.lstore X0.here hx rfl (hb hby at_30) rfl (l' := #[.val (.int p1), .val (.int p2), .val (.int p3), .val (.int p4), .val (.int v1), .val (.int v2), .val (.int v3), .val (.int v4), .val (.long v7), .second, .unset, .unset, .unset, .unset, .unset, .unset, .unset, .unset, .unset]) rfl k) ?_
  show ORun p e below s _ _ _ s₁ (mkF m 32 #[.val (.int p1), .val (.int p2), .val (.int p3), .val (.int p4), .val (.int v1), .val (.int v2), .val (.int v3), .val (.int v4), .val (.long v7), .second, .unset, .unset, .unset, .unset, .unset, .unset, .unset, .unset, .unset] [])
  refine own_by (fun t k => XS.lload X0.here hx rfl (hb hby at_32) rfl k) ?_
  show ORun p e below s _ _ _ s₁ (mkF m 34 #[.val (.int p1), .val (.int p2), .val (.int p3), .val (.int p4), .val (.int v1), .val (.int v2), .val (.int v3), .val (.int v4), .val (.long v7), .second, .unset, .unset, .unset, .unset, .unset, .unset, .unset, .unset, .unset] [(.long v7)])
  refine own_by (fun t k => XS.iload X0.here hx rfl (hb hby at_34) rfl k) ?_
  show ORun p e below s _ _ _ s₁ (mkF m 36 #[.val (.int p1), .val (.int p2), .val (.int p3), .val (.int p4), .val (.int v1), .val (.int v2), .val (.int v3), .val (.int v4), .val (.long v7), .second, .unset, .unset, .unset, .unset, .unset, .unset, .unset, .unset, .unset] [(.int v4), (.long v7)])
  refine own_by (fun t k => XS.i2l X0.here hx rfl (hb hby at_36) rfl k) (own_letJ (f := (fun z => (mkF m 37 #[.val (.int p1), .val (.int p2), .val (.int p3), .val (.int p4), .val (.int v1), .val (.int v2), .val (.int v3), .val (.int v4), .val (.long v7), .second, .unset, .unset, .unset, .unset, .unset, .unset, .unset, .unset, .unset] [(.long z), (.long v7)]))) (v4.toInt64) fun v8 hv8 => ?_)
  show ORun p e below s _ _ _ s₁ (mkF m 37 #[.val (.int p1), .val (.int p2), .val (.int p3), .val (.int p4), .val (.int v1), .val (.int v2), .val (.int v3), .val (.int v4), .val (.long v7), .second, .unset, .unset, .unset, .unset, .unset, .unset, .unset, .unset, .unset] [(.long v8), (.long v7)])
  have a8a : v8.toInt = v4.toInt := by rw [hv8]; exact c_i2l v4
  have r8 := rng64 v8
  refine own_by (fun t k => XS.ladd X0.here hx rfl (hb hby at_37) rfl k) (own_letJ (f := (fun z => (mkF m 38 #[.val (.int p1), .val (.int p2), .val (.int p3), .val (.int p4), .val (.int v1), .val (.int v2), .val (.int v3), .val (.int v4), .val (.long v7), .second, .unset, .unset, .unset, .unset, .unset, .unset, .unset, .unset, .unset] [(.long z)]))) (v7 + v8) fun v9 hv9 => ?_)
  show ORun p e below s _ _ _ s₁ (mkF m 38 #[.val (.int p1), .val (.int p2), .val (.int p3), .val (.int p4), .val (.int v1), .val (.int v2), .val (.int v3), .val (.int v4), .val (.long v7), .second, .unset, .unset, .unset, .unset, .unset, .unset, .unset, .unset, .unset] [(.long v9)])
  have r9 := rng64 v9
  have a9 : v9.toInt = v7.toInt + v8.toInt := by
    have q : (v9.toInt - (v7.toInt + v8.toInt)) % 18446744073709551616 = 0 := by rw [hv9]; exact c_ladd v7 v8
    omega
  refine own_by (fun t k => XS.lstore X0.here hx rfl (hb hby at_38) rfl (l' := #[.val (.int p1), .val (.int p2), .val (.int p3), .val (.int p4), .val (.int v1), .val (.int v2), .val (.int v3), .val (.int v4), .val (.long v7), .second, .val (.long v9), .second, .unset, .unset, .unset, .unset, .unset, .unset, .unset]) rfl k) ?_
  show ORun p e below s _ _ _ s₁ (mkF m 40 #[.val (.int p1), .val (.int p2), .val (.int p3), .val (.int p4), .val (.int v1), .val (.int v2), .val (.int v3), .val (.int v4), .val (.long v7), .second, .val (.long v9), .second, .unset, .unset, .unset, .unset, .unset, .unset, .unset] [])
  obtain ⟨T10, h10, X10, e10, E10, A10, D10, -, st10⟩ := newO X0 hx hZ hown (hw _ (List.mem_of_getElem? (i := 1) rfl)) (hw _ (List.mem_of_getElem? (i := 2) rfl)) (hw _ (List.mem_of_getElem? (i := 3) rfl)) e0 (g := (mkF m 40 #[.val (.int p1), .val (.int p2), .val (.int p3), .val (.int p4), .val (.int v1), .val (.int v2), .val (.int v3), .val (.int v4), .val (.long v7), .second, .val (.long v9), .second, .unset, .unset, .unset, .unset, .unset, .unset, .unset] [])) rfl (hb hby at_40) (by decide) (by decide)
  obtain ⟨b10, g10⟩ : ∃ z, z = h0.size := ⟨_, rfl⟩
  rw [← g10] at A10 D10 st10
  have old_b10 : n0 ≤ b10 := Nat.le_trans Z0 (Nat.le_of_eq g10.symm)
  have sz_b10 : h0.size ≤ b10 := Nat.le_trans (Nat.le_refl h0.size) (Nat.le_of_eq g10.symm)
  have F10_11 : Fld Z h10 b10 "com/example/fondsworks/fondsworks/Part" "most" "I" (.int (0 : Int32)) := D10 (Or.inr (hw _ (List.mem_of_getElem? (i := 11) rfl))) (ty := .int) (by decide)
  have F10_18 : Fld Z h10 b10 "com/example/fondsworks/fondsworks/Part" "taken" "I" (.int (0 : Int32)) := D10 (Or.inl (hw _ (List.mem_of_getElem? (i := 18) rfl))) (ty := .int) (by decide)
  have F10_25 : Fld Z h10 b10 "com/example/fondsworks/fondsworks/Part" "characters" "J" (.long (0 : Int64)) := D10 (Or.inl (hw _ (List.mem_of_getElem? (i := 25) rfl))) (ty := .long) (by decide)
  refine own_by st10 ?_
  show ORun p e below s _ _ _ T10 (mkF m 43 #[.val (.int p1), .val (.int p2), .val (.int p3), .val (.int p4), .val (.int v1), .val (.int v2), .val (.int v3), .val (.int v4), .val (.long v7), .second, .val (.long v9), .second, .unset, .unset, .unset, .unset, .unset, .unset, .unset] [(.ref b10)])
  refine own_by (fun t k => XS.dup X10.here hx rfl (hb hby at_43) rfl rfl k) ?_
  show ORun p e below s _ _ _ T10 (mkF m 44 #[.val (.int p1), .val (.int p2), .val (.int p3), .val (.int p4), .val (.int v1), .val (.int v2), .val (.int v3), .val (.int v4), .val (.long v7), .second, .val (.long v9), .second, .unset, .unset, .unset, .unset, .unset, .unset, .unset] [(.ref b10), (.ref b10)])
  refine own_by (fun t k => XS.iload X10.here hx rfl (hb hby at_44) rfl k) ?_
  show ORun p e below s _ _ _ T10 (mkF m 46 #[.val (.int p1), .val (.int p2), .val (.int p3), .val (.int p4), .val (.int v1), .val (.int v2), .val (.int v3), .val (.int v4), .val (.long v7), .second, .val (.long v9), .second, .unset, .unset, .unset, .unset, .unset, .unset, .unset] [(.int v1), (.ref b10), (.ref b10)])
  refine own_callC X10 hx hZ hown rfl (hw _ (List.mem_of_getElem? (i := 4) rfl)) (hw _ (List.mem_of_getElem? (i := 5) rfl)) (hw _ (List.mem_of_getElem? (i := 3) rfl)) (hw _ (List.mem_of_getElem? (i := 6) rfl)) (by decide) (rm1 l Z a0 hw [] h10 n0 (Nat.le_trans Z0 E10.1) b10 v1 A10 old_b10 F10_11 F10_18 F10_25) e10 (by decide) (W := 1) (by decide) (by decide) (by decide) (b := b10) (argsL := [(.int v1)]) (rest := [(.ref b10)]) (by rw [hml]; rfl) (lenOf pd_0 rfl) rfl rfl (Nat.le_of_eq rfl) (hb hby at_46) ?_
  intro T11 L11 u11 X11 hQ11
  obtain ⟨rfl, Nq11, K11, En11_b10, Fn11_most_b10, Fn11_taken_b10, Fn11_characters_b10⟩ := hQ11
  have N11 := Fr.app N0 Nq11
  show ORun p e below s _ _ _ T11 (mkF m 49 #[.val (.int p1), .val (.int p2), .val (.int p3), .val (.int p4), .val (.int v1), .val (.int v2), .val (.int v3), .val (.int v4), .val (.long v7), .second, .val (.long v9), .second, .unset, .unset, .unset, .unset, .unset, .unset, .unset] [(.ref b10)])
  refine own_by (fun t k => XS.astore X11.here hx rfl (hb hby at_49) rfl rfl (l' := #[.val (.int p1), .val (.int p2), .val (.int p3), .val (.int p4), .val (.int v1), .val (.int v2), .val (.int v3), .val (.int v4), .val (.long v7), .second, .val (.long v9), .second, .val (.ref b10), .unset, .unset, .unset, .unset, .unset, .unset]) rfl k) ?_
  show ORun p e below s _ _ _ T11 (mkF m 51 #[.val (.int p1), .val (.int p2), .val (.int p3), .val (.int p4), .val (.int v1), .val (.int v2), .val (.int v3), .val (.int v4), .val (.long v7), .second, .val (.long v9), .second, .val (.ref b10), .unset, .unset, .unset, .unset, .unset, .unset] [])
  refine own_by (fun t k => XS.aload X11.here hx rfl (hb hby at_51) rfl rfl k) ?_
  show ORun p e below s _ _ _ T11 (mkF m 53 #[.val (.int p1), .val (.int p2), .val (.int p3), .val (.int p4), .val (.int v1), .val (.int v2), .val (.int v3), .val (.int v4), .val (.long v7), .second, .val (.long v9), .second, .val (.ref b10), .unset, .unset, .unset, .unset, .unset, .unset] [(.ref b10)])
  refine own_callV X11 hx hZ hown En11_b10 (hw _ (List.mem_of_getElem? (i := 12) rfl)) (hw _ (List.mem_of_getElem? (i := 13) rfl)) (notFace_of_selects (args := #[]) (mvT hZ (hw _ (List.mem_of_getElem? (i := 15) rfl)))) (hw _ (List.mem_of_getElem? (i := 15) rfl)) (hw _ (List.mem_of_getElem? (i := 14) rfl)) (hw _ (List.mem_of_getElem? (i := 3) rfl)) (hw _ (List.mem_of_getElem? (i := 16) rfl)) (by decide) (rm3 l Z a0 hw [] T11.heap n0 (Nat.le_trans (Nat.le_trans Z0 E10.1) K11.1) b10 v1 (0 : Int32) (0 : Int64) En11_b10 old_b10 Fn11_most_b10 Fn11_taken_b10 Fn11_characters_b10) rfl (by decide) (W := 0) (by decide) (by decide) (by decide) (argsL := []) (rest := []) (by rw [hml]; rfl) (lenOf pd_1 rfl) rfl rfl (Nat.le_of_eq rfl) (hb hby at_53) ?_
  intro T12 L12 u12 X12 hQ12
  obtain ⟨rfl, Nq12, e12⟩ := hQ12
  have N12 := Fr.app N11 Nq12
  show ORun p e below s _ _ _ T12 (mkF m 56 #[.val (.int p1), .val (.int p2), .val (.int p3), .val (.int p4), .val (.int v1), .val (.int v2), .val (.int v3), .val (.int v4), .val (.long v7), .second, .val (.long v9), .second, .val (.ref b10), .unset, .unset, .unset, .unset, .unset, .unset] [(.int (0 : Int32))])
  refine own_by (fun t k => XS.ifYes X12.here hx rfl (pc0 := 56) (pc' := 61) rfl (hb hby at_56) rfl ((if0 _ _).trans (teq (by decide)).1) (by decide) (by decide) k) ?_
  show ORun p e below s _ _ _ T12 (mkF m 61 #[.val (.int p1), .val (.int p2), .val (.int p3), .val (.int p4), .val (.int v1), .val (.int v2), .val (.int v3), .val (.int v4), .val (.long v7), .second, .val (.long v9), .second, .val (.ref b10), .unset, .unset, .unset, .unset, .unset, .unset] [])
  have J13 : ∀ w13 : Int32, ((w13.toInt = 1 ∧ (1 ≤ v1.toInt)) ∨ (w13.toInt = 0 ∧ ¬ (1 ≤ v1.toInt))) → ORun p e below s (fun v h L => v = some (.int 1) ∧ Fr n0 L) room_1.cells room_1.slots T12 (mkF m 72 #[.val (.int p1), .val (.int p2), .val (.int p3), .val (.int p4), .val (.int v1), .val (.int v2), .val (.int v3), .val (.int v4), .val (.long v7), .second, .val (.long v9), .second, .val (.ref b10), .unset, .unset, .unset, .unset, .unset, .unset] [(.int w13)]) := by
    intro w13 hJ13
    refine own_by (fun t k => XS.istore X12.here hx rfl (hb hby at_72) rfl (l' := #[.val (.int p1), .val (.int p2), .val (.int p3), .val (.int p4), .val (.int v1), .val (.int v2), .val (.int v3), .val (.int v4), .val (.long v7), .second, .val (.long v9), .second, .val (.ref b10), .val (.int w13), .unset, .unset, .unset, .unset, .unset]) rfl k) ?_
    show ORun p e below s _ _ _ T12 (mkF m 74 #[.val (.int p1), .val (.int p2), .val (.int p3), .val (.int p4), .val (.int v1), .val (.int v2), .val (.int v3), .val (.int v4), .val (.long v7), .second, .val (.long v9), .second, .val (.ref b10), .val (.int w13), .unset, .unset, .unset, .unset, .unset] [])
    refine own_by (fun t k => XS.aload X12.here hx rfl (hb hby at_74) rfl rfl k) ?_
    show ORun p e below s _ _ _ T12 (mkF m 76 #[.val (.int p1), .val (.int p2), .val (.int p3), .val (.int p4), .val (.int v1), .val (.int v2), .val (.int v3), .val (.int v4), .val (.long v7), .second, .val (.long v9), .second, .val (.ref b10), .val (.int w13), .unset, .unset, .unset, .unset, .unset] [(.ref b10)])
    refine own_by (fun t k => XS.iload X12.here hx rfl (hb hby at_76) rfl k) ?_
    show ORun p e below s _ _ _ T12 (mkF m 78 #[.val (.int p1), .val (.int p2), .val (.int p3), .val (.int p4), .val (.int v1), .val (.int v2), .val (.int v3), .val (.int v4), .val (.long v7), .second, .val (.long v9), .second, .val (.ref b10), .val (.int w13), .unset, .unset, .unset, .unset, .unset] [(.int v2), (.ref b10)])
    refine own_callV X12 hx hZ hown En11_b10 (hw _ (List.mem_of_getElem? (i := 19) rfl)) (hw _ (List.mem_of_getElem? (i := 20) rfl)) (notFace_of_selects (args := #[]) (mvT hZ (hw _ (List.mem_of_getElem? (i := 22) rfl)))) (hw _ (List.mem_of_getElem? (i := 22) rfl)) (hw _ (List.mem_of_getElem? (i := 21) rfl)) (hw _ (List.mem_of_getElem? (i := 3) rfl)) (hw _ (List.mem_of_getElem? (i := 23) rfl)) (by decide) (rm4 l Z a0 hw [] T11.heap n0 (Nat.le_trans (Nat.le_trans Z0 E10.1) K11.1) b10 v2 v1 (0 : Int32) (0 : Int64) En11_b10 old_b10 Fn11_most_b10 Fn11_taken_b10 Fn11_characters_b10 (by show 0 ≤ v2.toInt ∧ 0 ≤ 0 ∧ 0 < 1000 ∧ 0 ≤ 0 ∧ 0 < 1000000000000; omega)) e12 (by decide) (W := 0) (by decide) (by decide) (by decide) (argsL := [(.int v2)]) (rest := []) (by rw [hml]; rfl) (lenOf pd_2 rfl) rfl rfl (Nat.le_of_eq rfl) (hb hby at_78) ?_
    intro T14 L14 u14 X14 hQ14
    obtain ⟨y14, c14, d14, rfl, Nq14, K14, En14_b10, Fn14_most_b10, Fn14_taken_b10, Fn14_characters_b10, hy14⟩ := hQ14
    have N14 := Fr.app N12 Nq14
    have tz14_1 : ((0 : Int32)).toInt = 0 := by decide
    have tz14_2 : ((0 : Int64)).toInt = 0 := by decide
    have rc14 := rng32 c14
    show ORun p e below s _ _ _ T14 (mkF m 81 #[.val (.int p1), .val (.int p2), .val (.int p3), .val (.int p4), .val (.int v1), .val (.int v2), .val (.int v3), .val (.int v4), .val (.long v7), .second, .val (.long v9), .second, .val (.ref b10), .val (.int w13), .unset, .unset, .unset, .unset, .unset] [(.int y14)])
    refine own_by (fun t k => XS.istore X14.here hx rfl (hb hby at_81) rfl (l' := #[.val (.int p1), .val (.int p2), .val (.int p3), .val (.int p4), .val (.int v1), .val (.int v2), .val (.int v3), .val (.int v4), .val (.long v7), .second, .val (.long v9), .second, .val (.ref b10), .val (.int w13), .val (.int y14), .unset, .unset, .unset, .unset]) rfl k) ?_
    show ORun p e below s _ _ _ T14 (mkF m 83 #[.val (.int p1), .val (.int p2), .val (.int p3), .val (.int p4), .val (.int v1), .val (.int v2), .val (.int v3), .val (.int v4), .val (.long v7), .second, .val (.long v9), .second, .val (.ref b10), .val (.int w13), .val (.int y14), .unset, .unset, .unset, .unset] [])
    refine own_by (fun t k => XS.iload X14.here hx rfl (hb hby at_83) rfl k) ?_
    show ORun p e below s _ _ _ T14 (mkF m 85 #[.val (.int p1), .val (.int p2), .val (.int p3), .val (.int p4), .val (.int v1), .val (.int v2), .val (.int v3), .val (.int v4), .val (.long v7), .second, .val (.long v9), .second, .val (.ref b10), .val (.int w13), .val (.int y14), .unset, .unset, .unset, .unset] [(.int y14)])
    refine own_by (fun t k => XS.iload X14.here hx rfl (hb hby at_85) rfl k) ?_
    show ORun p e below s _ _ _ T14 (mkF m 87 #[.val (.int p1), .val (.int p2), .val (.int p3), .val (.int p4), .val (.int v1), .val (.int v2), .val (.int v3), .val (.int v4), .val (.long v7), .second, .val (.long v9), .second, .val (.ref b10), .val (.int w13), .val (.int y14), .unset, .unset, .unset, .unset] [(.int w13), (.int y14)])
    by_cases hc15 : y14 = w13
    · have t15 := own_eq hc15 (a := y14.toInt) (b := w13.toInt) rfl rfl
      refine own_by (fun t k => XS.icmpYes X14.here hx rfl (pc0 := 87) (pc' := 92) rfl (hb hby at_87) rfl (teq hc15).1 (by decide) (by decide) k) ?_
      show ORun p e below s _ _ _ T14 (mkF m 92 #[.val (.int p1), .val (.int p2), .val (.int p3), .val (.int p4), .val (.int v1), .val (.int v2), .val (.int v3), .val (.int v4), .val (.long v7), .second, .val (.long v9), .second, .val (.ref b10), .val (.int w13), .val (.int y14), .unset, .unset, .unset, .unset] [])
      refine own_by (fun t k => XS.aload X14.here hx rfl (hb hby at_92) rfl rfl k) ?_
      show ORun p e below s _ _ _ T14 (mkF m 94 #[.val (.int p1), .val (.int p2), .val (.int p3), .val (.int p4), .val (.int v1), .val (.int v2), .val (.int v3), .val (.int v4), .val (.long v7), .second, .val (.long v9), .second, .val (.ref b10), .val (.int w13), .val (.int y14), .unset, .unset, .unset, .unset] [(.ref b10)])
      refine own_callV X14 hx hZ hown En14_b10 (hw _ (List.mem_of_getElem? (i := 12) rfl)) (hw _ (List.mem_of_getElem? (i := 13) rfl)) (notFace_of_selects (args := #[]) (mvT hZ (hw _ (List.mem_of_getElem? (i := 15) rfl)))) (hw _ (List.mem_of_getElem? (i := 15) rfl)) (hw _ (List.mem_of_getElem? (i := 14) rfl)) (hw _ (List.mem_of_getElem? (i := 3) rfl)) (hw _ (List.mem_of_getElem? (i := 16) rfl)) (by decide) (rm3 l Z a0 hw [] T14.heap n0 (Nat.le_trans (Nat.le_trans (Nat.le_trans Z0 E10.1) K11.1) K14.1) b10 v1 c14 d14 En14_b10 old_b10 Fn14_most_b10 Fn14_taken_b10 Fn14_characters_b10) rfl (by decide) (W := 0) (by decide) (by decide) (by decide) (argsL := []) (rest := []) (by rw [hml]; rfl) (lenOf pd_1 rfl) rfl rfl (Nat.le_of_eq rfl) (hb hby at_94) ?_
      intro T16 L16 u16 X16 hQ16
      obtain ⟨rfl, Nq16, e16⟩ := hQ16
      have N16 := Fr.app N14 Nq16
      show ORun p e below s _ _ _ T16 (mkF m 97 #[.val (.int p1), .val (.int p2), .val (.int p3), .val (.int p4), .val (.int v1), .val (.int v2), .val (.int v3), .val (.int v4), .val (.long v7), .second, .val (.long v9), .second, .val (.ref b10), .val (.int w13), .val (.int y14), .unset, .unset, .unset, .unset] [(.int c14)])
      have J17 : ∀ w17 : Int32, (w17.toInt = w13.toInt) → ORun p e below s (fun v h L => v = some (.int 1) ∧ Fr n0 L) room_1.cells room_1.slots T16 (mkF m 107 #[.val (.int p1), .val (.int p2), .val (.int p3), .val (.int p4), .val (.int v1), .val (.int v2), .val (.int v3), .val (.int v4), .val (.long v7), .second, .val (.long v9), .second, .val (.ref b10), .val (.int w13), .val (.int y14), .unset, .unset, .unset, .unset] [(.int w17), (.int c14)]) := by
        intro w17 hJ17
        by_cases hc18 : c14 = w17
        · have t18 := own_eq hc18 (a := c14.toInt) (b := w17.toInt) rfl rfl
          refine own_by (fun t k => XS.icmpYes X16.here hx rfl (pc0 := 107) (pc' := 112) rfl (hb hby at_107) rfl (teq hc18).1 (by decide) (by decide) k) ?_
          show ORun p e below s _ _ _ T16 (mkF m 112 #[.val (.int p1), .val (.int p2), .val (.int p3), .val (.int p4), .val (.int v1), .val (.int v2), .val (.int v3), .val (.int v4), .val (.long v7), .second, .val (.long v9), .second, .val (.ref b10), .val (.int w13), .val (.int y14), .unset, .unset, .unset, .unset] [])
          refine own_by (fun t k => XS.iload X16.here hx rfl (hb hby at_112) rfl k) ?_
          show ORun p e below s _ _ _ T16 (mkF m 114 #[.val (.int p1), .val (.int p2), .val (.int p3), .val (.int p4), .val (.int v1), .val (.int v2), .val (.int v3), .val (.int v4), .val (.long v7), .second, .val (.long v9), .second, .val (.ref b10), .val (.int w13), .val (.int y14), .unset, .unset, .unset, .unset] [(.int y14)])
          by_cases hc19 : y14 = (0 : Int32)
          · have t19 := own_eq hc19 (a := y14.toInt) (b := 0) rfl (by decide)
            refine own_by (fun t k => XS.ifNo X16.here hx rfl (hb hby at_114) rfl ((if0 _ _).trans (teq hc19).2) k) ?_
            show ORun p e below s _ _ _ T16 (mkF m 117 #[.val (.int p1), .val (.int p2), .val (.int p3), .val (.int p4), .val (.int v1), .val (.int v2), .val (.int v3), .val (.int v4), .val (.long v7), .second, .val (.long v9), .second, .val (.ref b10), .val (.int w13), .val (.int y14), .unset, .unset, .unset, .unset] [])
            refine own_by (fun t k => XS.iconst X16.here hx rfl (hb hby at_117) k) ?_
            show ORun p e below s _ _ _ T16 (mkF m 118 #[.val (.int p1), .val (.int p2), .val (.int p3), .val (.int p4), .val (.int v1), .val (.int v2), .val (.int v3), .val (.int v4), .val (.long v7), .second, .val (.long v9), .second, .val (.ref b10), .val (.int w13), .val (.int y14), .unset, .unset, .unset, .unset] [(.int (1 : Int32))])
            refine own_retN X16 hx (t := .boolean) hret (by simp) hlk (hb hby at_118) (by decide) (by decide) ?_
            exact ⟨rfl, N16⟩
          · have t19 := own_ne hc19 (a := y14.toInt) (b := 0) rfl (by decide)
            refine own_by (fun t k => XS.ifYes X16.here hx rfl (pc0 := 114) (pc' := 119) rfl (hb hby at_114) rfl ((if0 _ _).trans (feq hc19).2) (by decide) (by decide) k) ?_
            show ORun p e below s _ _ _ T16 (mkF m 119 #[.val (.int p1), .val (.int p2), .val (.int p3), .val (.int p4), .val (.int v1), .val (.int v2), .val (.int v3), .val (.int v4), .val (.long v7), .second, .val (.long v9), .second, .val (.ref b10), .val (.int w13), .val (.int y14), .unset, .unset, .unset, .unset] [])
            have J20 : ∀ w20 : Int32, ((w20.toInt = 1 ∧ (2 ≤ v1.toInt ∧ v7.toInt ≤ 1000000)) ∨ (w20.toInt = 0 ∧ ¬ (2 ≤ v1.toInt ∧ v7.toInt ≤ 1000000))) → ORun p e below s (fun v h L => v = some (.int 1) ∧ Fr n0 L) room_1.cells room_1.slots T16 (mkF m 139 #[.val (.int p1), .val (.int p2), .val (.int p3), .val (.int p4), .val (.int v1), .val (.int v2), .val (.int v3), .val (.int v4), .val (.long v7), .second, .val (.long v9), .second, .val (.ref b10), .val (.int w13), .val (.int y14), .unset, .unset, .unset, .unset] [(.int w20)]) := by
              intro w20 hJ20
              refine own_by (fun t k => XS.istore X16.here hx rfl (hb hby at_139) rfl (l' := #[.val (.int p1), .val (.int p2), .val (.int p3), .val (.int p4), .val (.int v1), .val (.int v2), .val (.int v3), .val (.int v4), .val (.long v7), .second, .val (.long v9), .second, .val (.ref b10), .val (.int w13), .val (.int y14), .val (.int w20), .unset, .unset, .unset]) rfl k) ?_
              show ORun p e below s _ _ _ T16 (mkF m 141 #[.val (.int p1), .val (.int p2), .val (.int p3), .val (.int p4), .val (.int v1), .val (.int v2), .val (.int v3), .val (.int v4), .val (.long v7), .second, .val (.long v9), .second, .val (.ref b10), .val (.int w13), .val (.int y14), .val (.int w20), .unset, .unset, .unset] [])
              refine own_by (fun t k => XS.aload X16.here hx rfl (hb hby at_141) rfl rfl k) ?_
              show ORun p e below s _ _ _ T16 (mkF m 143 #[.val (.int p1), .val (.int p2), .val (.int p3), .val (.int p4), .val (.int v1), .val (.int v2), .val (.int v3), .val (.int v4), .val (.long v7), .second, .val (.long v9), .second, .val (.ref b10), .val (.int w13), .val (.int y14), .val (.int w20), .unset, .unset, .unset] [(.ref b10)])
              refine own_by (fun t k => XS.iload X16.here hx rfl (hb hby at_143) rfl k) ?_
              show ORun p e below s _ _ _ T16 (mkF m 145 #[.val (.int p1), .val (.int p2), .val (.int p3), .val (.int p4), .val (.int v1), .val (.int v2), .val (.int v3), .val (.int v4), .val (.long v7), .second, .val (.long v9), .second, .val (.ref b10), .val (.int w13), .val (.int y14), .val (.int w20), .unset, .unset, .unset] [(.int v3), (.ref b10)])
              refine own_callV X16 hx hZ hown En14_b10 (hw _ (List.mem_of_getElem? (i := 19) rfl)) (hw _ (List.mem_of_getElem? (i := 20) rfl)) (notFace_of_selects (args := #[]) (mvT hZ (hw _ (List.mem_of_getElem? (i := 22) rfl)))) (hw _ (List.mem_of_getElem? (i := 22) rfl)) (hw _ (List.mem_of_getElem? (i := 21) rfl)) (hw _ (List.mem_of_getElem? (i := 3) rfl)) (hw _ (List.mem_of_getElem? (i := 23) rfl)) (by decide) (rm4 l Z a0 hw [] T14.heap n0 (Nat.le_trans (Nat.le_trans (Nat.le_trans Z0 E10.1) K11.1) K14.1) b10 v3 v1 c14 d14 En14_b10 old_b10 Fn14_most_b10 Fn14_taken_b10 Fn14_characters_b10 (by show 0 ≤ v3.toInt ∧ 0 ≤ c14.toInt ∧ c14.toInt < 1000 ∧ 0 ≤ d14.toInt ∧ d14.toInt < 1000000000000; omega)) e16 (by decide) (W := 0) (by decide) (by decide) (by decide) (argsL := [(.int v3)]) (rest := []) (by rw [hml]; rfl) (lenOf pd_2 rfl) rfl rfl (Nat.le_of_eq rfl) (hb hby at_145) ?_
              intro T21 L21 u21 X21 hQ21
              obtain ⟨y21, c21, d21, rfl, Nq21, K21, En21_b10, Fn21_most_b10, Fn21_taken_b10, Fn21_characters_b10, hy21⟩ := hQ21
              have N21 := Fr.app N16 Nq21
              have rc21 := rng32 c21
              show ORun p e below s _ _ _ T21 (mkF m 148 #[.val (.int p1), .val (.int p2), .val (.int p3), .val (.int p4), .val (.int v1), .val (.int v2), .val (.int v3), .val (.int v4), .val (.long v7), .second, .val (.long v9), .second, .val (.ref b10), .val (.int w13), .val (.int y14), .val (.int w20), .unset, .unset, .unset] [(.int y21)])
              refine own_by (fun t k => XS.istore X21.here hx rfl (hb hby at_148) rfl (l' := #[.val (.int p1), .val (.int p2), .val (.int p3), .val (.int p4), .val (.int v1), .val (.int v2), .val (.int v3), .val (.int v4), .val (.long v7), .second, .val (.long v9), .second, .val (.ref b10), .val (.int w13), .val (.int y14), .val (.int w20), .val (.int y21), .unset, .unset]) rfl k) ?_
              show ORun p e below s _ _ _ T21 (mkF m 150 #[.val (.int p1), .val (.int p2), .val (.int p3), .val (.int p4), .val (.int v1), .val (.int v2), .val (.int v3), .val (.int v4), .val (.long v7), .second, .val (.long v9), .second, .val (.ref b10), .val (.int w13), .val (.int y14), .val (.int w20), .val (.int y21), .unset, .unset] [])
              refine own_by (fun t k => XS.iload X21.here hx rfl (hb hby at_150) rfl k) ?_
              show ORun p e below s _ _ _ T21 (mkF m 152 #[.val (.int p1), .val (.int p2), .val (.int p3), .val (.int p4), .val (.int v1), .val (.int v2), .val (.int v3), .val (.int v4), .val (.long v7), .second, .val (.long v9), .second, .val (.ref b10), .val (.int w13), .val (.int y14), .val (.int w20), .val (.int y21), .unset, .unset] [(.int y21)])
              refine own_by (fun t k => XS.iload X21.here hx rfl (hb hby at_152) rfl k) ?_
              show ORun p e below s _ _ _ T21 (mkF m 154 #[.val (.int p1), .val (.int p2), .val (.int p3), .val (.int p4), .val (.int v1), .val (.int v2), .val (.int v3), .val (.int v4), .val (.long v7), .second, .val (.long v9), .second, .val (.ref b10), .val (.int w13), .val (.int y14), .val (.int w20), .val (.int y21), .unset, .unset] [(.int w20), (.int y21)])
              by_cases hc22 : y21 = w20
              · have t22 := own_eq hc22 (a := y21.toInt) (b := w20.toInt) rfl rfl
                refine own_by (fun t k => XS.icmpYes X21.here hx rfl (pc0 := 154) (pc' := 159) rfl (hb hby at_154) rfl (teq hc22).1 (by decide) (by decide) k) ?_
                show ORun p e below s _ _ _ T21 (mkF m 159 #[.val (.int p1), .val (.int p2), .val (.int p3), .val (.int p4), .val (.int v1), .val (.int v2), .val (.int v3), .val (.int v4), .val (.long v7), .second, .val (.long v9), .second, .val (.ref b10), .val (.int w13), .val (.int y14), .val (.int w20), .val (.int y21), .unset, .unset] [])
                refine own_by (fun t k => XS.aload X21.here hx rfl (hb hby at_159) rfl rfl k) ?_
                show ORun p e below s _ _ _ T21 (mkF m 161 #[.val (.int p1), .val (.int p2), .val (.int p3), .val (.int p4), .val (.int v1), .val (.int v2), .val (.int v3), .val (.int v4), .val (.long v7), .second, .val (.long v9), .second, .val (.ref b10), .val (.int w13), .val (.int y14), .val (.int w20), .val (.int y21), .unset, .unset] [(.ref b10)])
                refine own_callV X21 hx hZ hown En21_b10 (hw _ (List.mem_of_getElem? (i := 12) rfl)) (hw _ (List.mem_of_getElem? (i := 13) rfl)) (notFace_of_selects (args := #[]) (mvT hZ (hw _ (List.mem_of_getElem? (i := 15) rfl)))) (hw _ (List.mem_of_getElem? (i := 15) rfl)) (hw _ (List.mem_of_getElem? (i := 14) rfl)) (hw _ (List.mem_of_getElem? (i := 3) rfl)) (hw _ (List.mem_of_getElem? (i := 16) rfl)) (by decide) (rm3 l Z a0 hw [] T21.heap n0 (Nat.le_trans (Nat.le_trans (Nat.le_trans (Nat.le_trans Z0 E10.1) K11.1) K14.1) K21.1) b10 v1 c21 d21 En21_b10 old_b10 Fn21_most_b10 Fn21_taken_b10 Fn21_characters_b10) rfl (by decide) (W := 0) (by decide) (by decide) (by decide) (argsL := []) (rest := []) (by rw [hml]; rfl) (lenOf pd_1 rfl) rfl rfl (Nat.le_of_eq rfl) (hb hby at_161) ?_
                intro T23 L23 u23 X23 hQ23
                obtain ⟨rfl, Nq23, e23⟩ := hQ23
                have N23 := Fr.app N21 Nq23
                show ORun p e below s _ _ _ T23 (mkF m 164 #[.val (.int p1), .val (.int p2), .val (.int p3), .val (.int p4), .val (.int v1), .val (.int v2), .val (.int v3), .val (.int v4), .val (.long v7), .second, .val (.long v9), .second, .val (.ref b10), .val (.int w13), .val (.int y14), .val (.int w20), .val (.int y21), .unset, .unset] [(.int c21)])
                have J24 : ∀ w24 : Int32, (w24.toInt = w20.toInt + 1) → ORun p e below s (fun v h L => v = some (.int 1) ∧ Fr n0 L) room_1.cells room_1.slots T23 (mkF m 174 #[.val (.int p1), .val (.int p2), .val (.int p3), .val (.int p4), .val (.int v1), .val (.int v2), .val (.int v3), .val (.int v4), .val (.long v7), .second, .val (.long v9), .second, .val (.ref b10), .val (.int w13), .val (.int y14), .val (.int w20), .val (.int y21), .unset, .unset] [(.int w24), (.int c21)]) := by
                  intro w24 hJ24
                  by_cases hc25 : c21 = w24
                  · have t25 := own_eq hc25 (a := c21.toInt) (b := w24.toInt) rfl rfl
                    refine own_by (fun t k => XS.icmpYes X23.here hx rfl (pc0 := 174) (pc' := 179) rfl (hb hby at_174) rfl (teq hc25).1 (by decide) (by decide) k) ?_
                    show ORun p e below s _ _ _ T23 (mkF m 179 #[.val (.int p1), .val (.int p2), .val (.int p3), .val (.int p4), .val (.int v1), .val (.int v2), .val (.int v3), .val (.int v4), .val (.long v7), .second, .val (.long v9), .second, .val (.ref b10), .val (.int w13), .val (.int y14), .val (.int w20), .val (.int y21), .unset, .unset] [])
                    refine own_by (fun t k => XS.iload X23.here hx rfl (hb hby at_179) rfl k) ?_
                    show ORun p e below s _ _ _ T23 (mkF m 181 #[.val (.int p1), .val (.int p2), .val (.int p3), .val (.int p4), .val (.int v1), .val (.int v2), .val (.int v3), .val (.int v4), .val (.long v7), .second, .val (.long v9), .second, .val (.ref b10), .val (.int w13), .val (.int y14), .val (.int w20), .val (.int y21), .unset, .unset] [(.int y21)])
                    by_cases hc26 : y21 = (0 : Int32)
                    · have t26 := own_eq hc26 (a := y21.toInt) (b := 0) rfl (by decide)
                      refine own_by (fun t k => XS.ifNo X23.here hx rfl (hb hby at_181) rfl ((if0 _ _).trans (teq hc26).2) k) ?_
                      show ORun p e below s _ _ _ T23 (mkF m 184 #[.val (.int p1), .val (.int p2), .val (.int p3), .val (.int p4), .val (.int v1), .val (.int v2), .val (.int v3), .val (.int v4), .val (.long v7), .second, .val (.long v9), .second, .val (.ref b10), .val (.int w13), .val (.int y14), .val (.int w20), .val (.int y21), .unset, .unset] [])
                      refine own_by (fun t k => XS.iconst X23.here hx rfl (hb hby at_184) k) ?_
                      show ORun p e below s _ _ _ T23 (mkF m 185 #[.val (.int p1), .val (.int p2), .val (.int p3), .val (.int p4), .val (.int v1), .val (.int v2), .val (.int v3), .val (.int v4), .val (.long v7), .second, .val (.long v9), .second, .val (.ref b10), .val (.int w13), .val (.int y14), .val (.int w20), .val (.int y21), .unset, .unset] [(.int (1 : Int32))])
                      refine own_retN X23 hx (t := .boolean) hret (by simp) hlk (hb hby at_185) (by decide) (by decide) ?_
                      exact ⟨rfl, N23⟩
                    · have t26 := own_ne hc26 (a := y21.toInt) (b := 0) rfl (by decide)
                      refine own_by (fun t k => XS.ifYes X23.here hx rfl (pc0 := 181) (pc' := 186) rfl (hb hby at_181) rfl ((if0 _ _).trans (feq hc26).2) (by decide) (by decide) k) ?_
                      show ORun p e below s _ _ _ T23 (mkF m 186 #[.val (.int p1), .val (.int p2), .val (.int p3), .val (.int p4), .val (.int v1), .val (.int v2), .val (.int v3), .val (.int v4), .val (.long v7), .second, .val (.long v9), .second, .val (.ref b10), .val (.int w13), .val (.int y14), .val (.int w20), .val (.int y21), .unset, .unset] [])
                      have J27 : ∀ w27 : Int32, ((w27.toInt = 1 ∧ (3 ≤ v1.toInt ∧ v9.toInt ≤ 1000000)) ∨ (w27.toInt = 0 ∧ ¬ (3 ≤ v1.toInt ∧ v9.toInt ≤ 1000000))) → ORun p e below s (fun v h L => v = some (.int 1) ∧ Fr n0 L) room_1.cells room_1.slots T23 (mkF m 206 #[.val (.int p1), .val (.int p2), .val (.int p3), .val (.int p4), .val (.int v1), .val (.int v2), .val (.int v3), .val (.int v4), .val (.long v7), .second, .val (.long v9), .second, .val (.ref b10), .val (.int w13), .val (.int y14), .val (.int w20), .val (.int y21), .unset, .unset] [(.int w27)]) := by
                        intro w27 hJ27
                        refine own_by (fun t k => XS.istore X23.here hx rfl (hb hby at_206) rfl (l' := #[.val (.int p1), .val (.int p2), .val (.int p3), .val (.int p4), .val (.int v1), .val (.int v2), .val (.int v3), .val (.int v4), .val (.long v7), .second, .val (.long v9), .second, .val (.ref b10), .val (.int w13), .val (.int y14), .val (.int w20), .val (.int y21), .val (.int w27), .unset]) rfl k) ?_
                        show ORun p e below s _ _ _ T23 (mkF m 208 #[.val (.int p1), .val (.int p2), .val (.int p3), .val (.int p4), .val (.int v1), .val (.int v2), .val (.int v3), .val (.int v4), .val (.long v7), .second, .val (.long v9), .second, .val (.ref b10), .val (.int w13), .val (.int y14), .val (.int w20), .val (.int y21), .val (.int w27), .unset] [])
                        refine own_by (fun t k => XS.aload X23.here hx rfl (hb hby at_208) rfl rfl k) ?_
                        show ORun p e below s _ _ _ T23 (mkF m 210 #[.val (.int p1), .val (.int p2), .val (.int p3), .val (.int p4), .val (.int v1), .val (.int v2), .val (.int v3), .val (.int v4), .val (.long v7), .second, .val (.long v9), .second, .val (.ref b10), .val (.int w13), .val (.int y14), .val (.int w20), .val (.int y21), .val (.int w27), .unset] [(.ref b10)])
                        refine own_by (fun t k => XS.iload X23.here hx rfl (hb hby at_210) rfl k) ?_
                        show ORun p e below s _ _ _ T23 (mkF m 212 #[.val (.int p1), .val (.int p2), .val (.int p3), .val (.int p4), .val (.int v1), .val (.int v2), .val (.int v3), .val (.int v4), .val (.long v7), .second, .val (.long v9), .second, .val (.ref b10), .val (.int w13), .val (.int y14), .val (.int w20), .val (.int y21), .val (.int w27), .unset] [(.int v4), (.ref b10)])
                        refine own_callV X23 hx hZ hown En21_b10 (hw _ (List.mem_of_getElem? (i := 19) rfl)) (hw _ (List.mem_of_getElem? (i := 20) rfl)) (notFace_of_selects (args := #[]) (mvT hZ (hw _ (List.mem_of_getElem? (i := 22) rfl)))) (hw _ (List.mem_of_getElem? (i := 22) rfl)) (hw _ (List.mem_of_getElem? (i := 21) rfl)) (hw _ (List.mem_of_getElem? (i := 3) rfl)) (hw _ (List.mem_of_getElem? (i := 23) rfl)) (by decide) (rm4 l Z a0 hw [] T21.heap n0 (Nat.le_trans (Nat.le_trans (Nat.le_trans (Nat.le_trans Z0 E10.1) K11.1) K14.1) K21.1) b10 v4 v1 c21 d21 En21_b10 old_b10 Fn21_most_b10 Fn21_taken_b10 Fn21_characters_b10 (by show 0 ≤ v4.toInt ∧ 0 ≤ c21.toInt ∧ c21.toInt < 1000 ∧ 0 ≤ d21.toInt ∧ d21.toInt < 1000000000000; omega)) e23 (by decide) (W := 0) (by decide) (by decide) (by decide) (argsL := [(.int v4)]) (rest := []) (by rw [hml]; rfl) (lenOf pd_2 rfl) rfl rfl (Nat.le_of_eq rfl) (hb hby at_212) ?_
                        intro T28 L28 u28 X28 hQ28
                        obtain ⟨y28, c28, d28, rfl, Nq28, K28, En28_b10, Fn28_most_b10, Fn28_taken_b10, Fn28_characters_b10, hy28⟩ := hQ28
                        have N28 := Fr.app N23 Nq28
                        have rc28 := rng32 c28
                        show ORun p e below s _ _ _ T28 (mkF m 215 #[.val (.int p1), .val (.int p2), .val (.int p3), .val (.int p4), .val (.int v1), .val (.int v2), .val (.int v3), .val (.int v4), .val (.long v7), .second, .val (.long v9), .second, .val (.ref b10), .val (.int w13), .val (.int y14), .val (.int w20), .val (.int y21), .val (.int w27), .unset] [(.int y28)])
                        refine own_by (fun t k => XS.istore X28.here hx rfl (hb hby at_215) rfl (l' := #[.val (.int p1), .val (.int p2), .val (.int p3), .val (.int p4), .val (.int v1), .val (.int v2), .val (.int v3), .val (.int v4), .val (.long v7), .second, .val (.long v9), .second, .val (.ref b10), .val (.int w13), .val (.int y14), .val (.int w20), .val (.int y21), .val (.int w27), .val (.int y28)]) rfl k) ?_
                        show ORun p e below s _ _ _ T28 (mkF m 217 #[.val (.int p1), .val (.int p2), .val (.int p3), .val (.int p4), .val (.int v1), .val (.int v2), .val (.int v3), .val (.int v4), .val (.long v7), .second, .val (.long v9), .second, .val (.ref b10), .val (.int w13), .val (.int y14), .val (.int w20), .val (.int y21), .val (.int w27), .val (.int y28)] [])
                        refine own_by (fun t k => XS.iload X28.here hx rfl (hb hby at_217) rfl k) ?_
                        show ORun p e below s _ _ _ T28 (mkF m 219 #[.val (.int p1), .val (.int p2), .val (.int p3), .val (.int p4), .val (.int v1), .val (.int v2), .val (.int v3), .val (.int v4), .val (.long v7), .second, .val (.long v9), .second, .val (.ref b10), .val (.int w13), .val (.int y14), .val (.int w20), .val (.int y21), .val (.int w27), .val (.int y28)] [(.int y28)])
                        refine own_by (fun t k => XS.iload X28.here hx rfl (hb hby at_219) rfl k) ?_
                        show ORun p e below s _ _ _ T28 (mkF m 221 #[.val (.int p1), .val (.int p2), .val (.int p3), .val (.int p4), .val (.int v1), .val (.int v2), .val (.int v3), .val (.int v4), .val (.long v7), .second, .val (.long v9), .second, .val (.ref b10), .val (.int w13), .val (.int y14), .val (.int w20), .val (.int y21), .val (.int w27), .val (.int y28)] [(.int w27), (.int y28)])
                        by_cases hc29 : y28 = w27
                        · have t29 := own_eq hc29 (a := y28.toInt) (b := w27.toInt) rfl rfl
                          refine own_by (fun t k => XS.icmpYes X28.here hx rfl (pc0 := 221) (pc' := 226) rfl (hb hby at_221) rfl (teq hc29).1 (by decide) (by decide) k) ?_
                          show ORun p e below s _ _ _ T28 (mkF m 226 #[.val (.int p1), .val (.int p2), .val (.int p3), .val (.int p4), .val (.int v1), .val (.int v2), .val (.int v3), .val (.int v4), .val (.long v7), .second, .val (.long v9), .second, .val (.ref b10), .val (.int w13), .val (.int y14), .val (.int w20), .val (.int y21), .val (.int w27), .val (.int y28)] [])
                          refine own_by (fun t k => XS.aload X28.here hx rfl (hb hby at_226) rfl rfl k) ?_
                          show ORun p e below s _ _ _ T28 (mkF m 228 #[.val (.int p1), .val (.int p2), .val (.int p3), .val (.int p4), .val (.int v1), .val (.int v2), .val (.int v3), .val (.int v4), .val (.long v7), .second, .val (.long v9), .second, .val (.ref b10), .val (.int w13), .val (.int y14), .val (.int w20), .val (.int y21), .val (.int w27), .val (.int y28)] [(.ref b10)])
                          refine own_callV X28 hx hZ hown En28_b10 (hw _ (List.mem_of_getElem? (i := 12) rfl)) (hw _ (List.mem_of_getElem? (i := 13) rfl)) (notFace_of_selects (args := #[]) (mvT hZ (hw _ (List.mem_of_getElem? (i := 15) rfl)))) (hw _ (List.mem_of_getElem? (i := 15) rfl)) (hw _ (List.mem_of_getElem? (i := 14) rfl)) (hw _ (List.mem_of_getElem? (i := 3) rfl)) (hw _ (List.mem_of_getElem? (i := 16) rfl)) (by decide) (rm3 l Z a0 hw [] T28.heap n0 (Nat.le_trans (Nat.le_trans (Nat.le_trans (Nat.le_trans (Nat.le_trans Z0 E10.1) K11.1) K14.1) K21.1) K28.1) b10 v1 c28 d28 En28_b10 old_b10 Fn28_most_b10 Fn28_taken_b10 Fn28_characters_b10) rfl (by decide) (W := 0) (by decide) (by decide) (by decide) (argsL := []) (rest := []) (by rw [hml]; rfl) (lenOf pd_1 rfl) rfl rfl (Nat.le_of_eq rfl) (hb hby at_228) ?_
                          intro T30 L30 u30 X30 hQ30
                          obtain ⟨rfl, Nq30, e30⟩ := hQ30
                          have N30 := Fr.app N28 Nq30
                          show ORun p e below s _ _ _ T30 (mkF m 231 #[.val (.int p1), .val (.int p2), .val (.int p3), .val (.int p4), .val (.int v1), .val (.int v2), .val (.int v3), .val (.int v4), .val (.long v7), .second, .val (.long v9), .second, .val (.ref b10), .val (.int w13), .val (.int y14), .val (.int w20), .val (.int y21), .val (.int w27), .val (.int y28)] [(.int c28)])
                          have J31 : ∀ w31 : Int32, (w31.toInt = w27.toInt + 2) → ORun p e below s (fun v h L => v = some (.int 1) ∧ Fr n0 L) room_1.cells room_1.slots T30 (mkF m 241 #[.val (.int p1), .val (.int p2), .val (.int p3), .val (.int p4), .val (.int v1), .val (.int v2), .val (.int v3), .val (.int v4), .val (.long v7), .second, .val (.long v9), .second, .val (.ref b10), .val (.int w13), .val (.int y14), .val (.int w20), .val (.int y21), .val (.int w27), .val (.int y28)] [(.int w31), (.int c28)]) := by
                            intro w31 hJ31
                            by_cases hc32 : c28 = w31
                            · have t32 := own_eq hc32 (a := c28.toInt) (b := w31.toInt) rfl rfl
                              refine own_by (fun t k => XS.icmpYes X30.here hx rfl (pc0 := 241) (pc' := 246) rfl (hb hby at_241) rfl (teq hc32).1 (by decide) (by decide) k) ?_
                              show ORun p e below s _ _ _ T30 (mkF m 246 #[.val (.int p1), .val (.int p2), .val (.int p3), .val (.int p4), .val (.int v1), .val (.int v2), .val (.int v3), .val (.int v4), .val (.long v7), .second, .val (.long v9), .second, .val (.ref b10), .val (.int w13), .val (.int y14), .val (.int w20), .val (.int y21), .val (.int w27), .val (.int y28)] [])
                              refine own_by (fun t k => XS.iconst X30.here hx rfl (hb hby at_246) k) ?_
                              show ORun p e below s _ _ _ T30 (mkF m 247 #[.val (.int p1), .val (.int p2), .val (.int p3), .val (.int p4), .val (.int v1), .val (.int v2), .val (.int v3), .val (.int v4), .val (.long v7), .second, .val (.long v9), .second, .val (.ref b10), .val (.int w13), .val (.int y14), .val (.int w20), .val (.int y21), .val (.int w27), .val (.int y28)] [(.int (1 : Int32))])
                              refine own_retN X30 hx (t := .boolean) hret (by simp) hlk (hb hby at_247) (by decide) (by decide) ?_
                              exact ⟨rfl, N30⟩
                            · have t32 := own_ne hc32 (a := c28.toInt) (b := w31.toInt) rfl rfl
                              refine own_by (fun t k => XS.icmpNo X30.here hx rfl (hb hby at_241) rfl (feq hc32).1 k) ?_
                              show ORun p e below s _ _ _ T30 (mkF m 244 #[.val (.int p1), .val (.int p2), .val (.int p3), .val (.int p4), .val (.int v1), .val (.int v2), .val (.int v3), .val (.int v4), .val (.long v7), .second, .val (.long v9), .second, .val (.ref b10), .val (.int w13), .val (.int y14), .val (.int w20), .val (.int y21), .val (.int w27), .val (.int y28)] [])
                              refine own_by (fun t k => XS.iconst X30.here hx rfl (hb hby at_244) k) ?_
                              show ORun p e below s _ _ _ T30 (mkF m 245 #[.val (.int p1), .val (.int p2), .val (.int p3), .val (.int p4), .val (.int v1), .val (.int v2), .val (.int v3), .val (.int v4), .val (.long v7), .second, .val (.long v9), .second, .val (.ref b10), .val (.int w13), .val (.int y14), .val (.int w20), .val (.int y21), .val (.int w27), .val (.int y28)] [(.int (0 : Int32))])
                              refine own_retN X30 hx (t := .boolean) hret (by simp) hlk (hb hby at_245) (by decide) (by decide) ?_
                              exfalso
                              omega
                          refine own_by (fun t k => XS.iload X30.here hx rfl (hb hby at_231) rfl k) ?_
                          show ORun p e below s _ _ _ T30 (mkF m 233 #[.val (.int p1), .val (.int p2), .val (.int p3), .val (.int p4), .val (.int v1), .val (.int v2), .val (.int v3), .val (.int v4), .val (.long v7), .second, .val (.long v9), .second, .val (.ref b10), .val (.int w13), .val (.int y14), .val (.int w20), .val (.int y21), .val (.int w27), .val (.int y28)] [(.int w27), (.int c28)])
                          by_cases hc33 : w27 = (0 : Int32)
                          · have t33 := own_eq hc33 (a := w27.toInt) (b := 0) rfl (by decide)
                            refine own_by (fun t k => XS.ifYes X30.here hx rfl (pc0 := 233) (pc' := 240) rfl (hb hby at_233) rfl ((if0 _ _).trans (teq hc33).1) (by decide) (by decide) k) ?_
                            show ORun p e below s _ _ _ T30 (mkF m 240 #[.val (.int p1), .val (.int p2), .val (.int p3), .val (.int p4), .val (.int v1), .val (.int v2), .val (.int v3), .val (.int v4), .val (.long v7), .second, .val (.long v9), .second, .val (.ref b10), .val (.int w13), .val (.int y14), .val (.int w20), .val (.int y21), .val (.int w27), .val (.int y28)] [(.int c28)])
                            refine own_by (fun t k => XS.iconst X30.here hx rfl (hb hby at_240) k) ?_
                            show ORun p e below s _ _ _ T30 (mkF m 241 #[.val (.int p1), .val (.int p2), .val (.int p3), .val (.int p4), .val (.int v1), .val (.int v2), .val (.int v3), .val (.int v4), .val (.long v7), .second, .val (.long v9), .second, .val (.ref b10), .val (.int w13), .val (.int y14), .val (.int w20), .val (.int y21), .val (.int w27), .val (.int y28)] [(.int (2 : Int32)), (.int c28)])
                            exact J31 (2 : Int32) (by show 2 = w27.toInt + 2; omega)
                          · have t33 := own_ne hc33 (a := w27.toInt) (b := 0) rfl (by decide)
                            refine own_by (fun t k => XS.ifNo X30.here hx rfl (hb hby at_233) rfl ((if0 _ _).trans (feq hc33).1) k) ?_
                            show ORun p e below s _ _ _ T30 (mkF m 236 #[.val (.int p1), .val (.int p2), .val (.int p3), .val (.int p4), .val (.int v1), .val (.int v2), .val (.int v3), .val (.int v4), .val (.long v7), .second, .val (.long v9), .second, .val (.ref b10), .val (.int w13), .val (.int y14), .val (.int w20), .val (.int y21), .val (.int w27), .val (.int y28)] [(.int c28)])
                            refine own_by (fun t k => XS.iconst X30.here hx rfl (hb hby at_236) k) ?_
                            show ORun p e below s _ _ _ T30 (mkF m 237 #[.val (.int p1), .val (.int p2), .val (.int p3), .val (.int p4), .val (.int v1), .val (.int v2), .val (.int v3), .val (.int v4), .val (.long v7), .second, .val (.long v9), .second, .val (.ref b10), .val (.int w13), .val (.int y14), .val (.int w20), .val (.int y21), .val (.int w27), .val (.int y28)] [(.int (3 : Int32)), (.int c28)])
                            refine own_by (fun t k => XS.goto X30.here hx rfl (pc0 := 237) (pc' := 241) rfl (hb hby at_237) (by decide) (by decide) k) ?_
                            show ORun p e below s _ _ _ T30 (mkF m 241 #[.val (.int p1), .val (.int p2), .val (.int p3), .val (.int p4), .val (.int v1), .val (.int v2), .val (.int v3), .val (.int v4), .val (.long v7), .second, .val (.long v9), .second, .val (.ref b10), .val (.int w13), .val (.int y14), .val (.int w20), .val (.int y21), .val (.int w27), .val (.int y28)] [(.int (3 : Int32)), (.int c28)])
                            exact J31 (3 : Int32) (by show 3 = w27.toInt + 2; omega)
                        · have t29 := own_ne hc29 (a := y28.toInt) (b := w27.toInt) rfl rfl
                          refine own_by (fun t k => XS.icmpNo X28.here hx rfl (hb hby at_221) rfl (feq hc29).1 k) ?_
                          show ORun p e below s _ _ _ T28 (mkF m 224 #[.val (.int p1), .val (.int p2), .val (.int p3), .val (.int p4), .val (.int v1), .val (.int v2), .val (.int v3), .val (.int v4), .val (.long v7), .second, .val (.long v9), .second, .val (.ref b10), .val (.int w13), .val (.int y14), .val (.int w20), .val (.int y21), .val (.int w27), .val (.int y28)] [])
                          refine own_by (fun t k => XS.iconst X28.here hx rfl (hb hby at_224) k) ?_
                          show ORun p e below s _ _ _ T28 (mkF m 225 #[.val (.int p1), .val (.int p2), .val (.int p3), .val (.int p4), .val (.int v1), .val (.int v2), .val (.int v3), .val (.int v4), .val (.long v7), .second, .val (.long v9), .second, .val (.ref b10), .val (.int w13), .val (.int y14), .val (.int w20), .val (.int y21), .val (.int w27), .val (.int y28)] [(.int (0 : Int32))])
                          refine own_retN X28 hx (t := .boolean) hret (by simp) hlk (hb hby at_225) (by decide) (by decide) ?_
                          exfalso
                          omega
                      refine own_by (fun t k => XS.iload X23.here hx rfl (hb hby at_186) rfl k) ?_
                      show ORun p e below s _ _ _ T23 (mkF m 188 #[.val (.int p1), .val (.int p2), .val (.int p3), .val (.int p4), .val (.int v1), .val (.int v2), .val (.int v3), .val (.int v4), .val (.long v7), .second, .val (.long v9), .second, .val (.ref b10), .val (.int w13), .val (.int y14), .val (.int w20), .val (.int y21), .unset, .unset] [(.int v1)])
                      refine own_by (fun t k => XS.iconst X23.here hx rfl (hb hby at_188) k) ?_
                      show ORun p e below s _ _ _ T23 (mkF m 189 #[.val (.int p1), .val (.int p2), .val (.int p3), .val (.int p4), .val (.int v1), .val (.int v2), .val (.int v3), .val (.int v4), .val (.long v7), .second, .val (.long v9), .second, .val (.ref b10), .val (.int w13), .val (.int y14), .val (.int w20), .val (.int y21), .unset, .unset] [(.int (3 : Int32)), (.int v1)])
                      by_cases hc34 : v1 < (3 : Int32)
                      · have t34 := own_lt hc34 (a := v1.toInt) (b := 3) rfl (by decide)
                        refine own_by (fun t k => XS.icmpYes X23.here hx rfl (pc0 := 189) (pc' := 205) rfl (hb hby at_189) rfl (tlt hc34).1 (by decide) (by decide) k) ?_
                        show ORun p e below s _ _ _ T23 (mkF m 205 #[.val (.int p1), .val (.int p2), .val (.int p3), .val (.int p4), .val (.int v1), .val (.int v2), .val (.int v3), .val (.int v4), .val (.long v7), .second, .val (.long v9), .second, .val (.ref b10), .val (.int w13), .val (.int y14), .val (.int w20), .val (.int y21), .unset, .unset] [])
                        refine own_by (fun t k => XS.iconst X23.here hx rfl (hb hby at_205) k) ?_
                        show ORun p e below s _ _ _ T23 (mkF m 206 #[.val (.int p1), .val (.int p2), .val (.int p3), .val (.int p4), .val (.int v1), .val (.int v2), .val (.int v3), .val (.int v4), .val (.long v7), .second, .val (.long v9), .second, .val (.ref b10), .val (.int w13), .val (.int y14), .val (.int w20), .val (.int y21), .unset, .unset] [(.int (0 : Int32))])
                        exact J27 (0 : Int32) (Or.inr ⟨by decide, by omega⟩)
                      · have t34 := own_nlt hc34 (a := v1.toInt) (b := 3) rfl (by decide)
                        refine own_by (fun t k => XS.icmpNo X23.here hx rfl (hb hby at_189) rfl (flt hc34).1 k) ?_
                        show ORun p e below s _ _ _ T23 (mkF m 192 #[.val (.int p1), .val (.int p2), .val (.int p3), .val (.int p4), .val (.int v1), .val (.int v2), .val (.int v3), .val (.int v4), .val (.long v7), .second, .val (.long v9), .second, .val (.ref b10), .val (.int w13), .val (.int y14), .val (.int w20), .val (.int y21), .unset, .unset] [])
                        refine own_by (fun t k => XS.lload X23.here hx rfl (hb hby at_192) rfl k) ?_
                        show ORun p e below s _ _ _ T23 (mkF m 194 #[.val (.int p1), .val (.int p2), .val (.int p3), .val (.int p4), .val (.int v1), .val (.int v2), .val (.int v3), .val (.int v4), .val (.long v7), .second, .val (.long v9), .second, .val (.ref b10), .val (.int w13), .val (.int y14), .val (.int w20), .val (.int y21), .unset, .unset] [(.long v9)])
                        refine own_by (fun t k => X23.ldc2Long hx hown (mvT hZ (hw _ (List.mem_of_getElem? (i := 26) rfl))) (g := (mkF m 194 #[.val (.int p1), .val (.int p2), .val (.int p3), .val (.int p4), .val (.int v1), .val (.int v2), .val (.int v3), .val (.int v4), .val (.long v7), .second, .val (.long v9), .second, .val (.ref b10), .val (.int w13), .val (.int y14), .val (.int w20), .val (.int y21), .unset, .unset] [(.long v9)])) rfl (hb hby at_194) _ k) ?_
                        show ORun p e below s _ _ _ T23 (mkF m 197 #[.val (.int p1), .val (.int p2), .val (.int p3), .val (.int p4), .val (.int v1), .val (.int v2), .val (.int v3), .val (.int v4), .val (.long v7), .second, .val (.long v9), .second, .val (.ref b10), .val (.int w13), .val (.int y14), .val (.int w20), .val (.int y21), .unset, .unset] [(.long (1000000 : Int64)), (.long v9)])
                        refine own_by (fun t k => XS.lcmp X23.here hx rfl (hb hby at_197) rfl k) ?_
                        show ORun p e below s _ _ _ T23 (mkF m 198 #[.val (.int p1), .val (.int p2), .val (.int p3), .val (.int p4), .val (.int v1), .val (.int v2), .val (.int v3), .val (.int v4), .val (.long v7), .second, .val (.long v9), .second, .val (.ref b10), .val (.int w13), .val (.int y14), .val (.int w20), .val (.int y21), .unset, .unset] [(.int (lcmpW v9 (1000000 : Int64)))])
                        by_cases hc35 : (1000000 : Int64) < v9
                        · have t35 := own_ltL hc35 (a := 1000000) (b := v9.toInt) (by decide) rfl
                          refine own_by (fun t k => XS.ifYes X23.here hx rfl (pc0 := 198) (pc' := 205) rfl (hb hby at_198) rfl (own_lcgt hc35).1 (by decide) (by decide) k) ?_
                          show ORun p e below s _ _ _ T23 (mkF m 205 #[.val (.int p1), .val (.int p2), .val (.int p3), .val (.int p4), .val (.int v1), .val (.int v2), .val (.int v3), .val (.int v4), .val (.long v7), .second, .val (.long v9), .second, .val (.ref b10), .val (.int w13), .val (.int y14), .val (.int w20), .val (.int y21), .unset, .unset] [])
                          refine own_by (fun t k => XS.iconst X23.here hx rfl (hb hby at_205) k) ?_
                          show ORun p e below s _ _ _ T23 (mkF m 206 #[.val (.int p1), .val (.int p2), .val (.int p3), .val (.int p4), .val (.int v1), .val (.int v2), .val (.int v3), .val (.int v4), .val (.long v7), .second, .val (.long v9), .second, .val (.ref b10), .val (.int w13), .val (.int y14), .val (.int w20), .val (.int y21), .unset, .unset] [(.int (0 : Int32))])
                          exact J27 (0 : Int32) (Or.inr ⟨by decide, by omega⟩)
                        · have t35 := own_nltL hc35 (a := 1000000) (b := v9.toInt) (by decide) rfl
                          refine own_by (fun t k => XS.ifNo X23.here hx rfl (hb hby at_198) rfl (own_lcngt hc35).1 k) ?_
                          show ORun p e below s _ _ _ T23 (mkF m 201 #[.val (.int p1), .val (.int p2), .val (.int p3), .val (.int p4), .val (.int v1), .val (.int v2), .val (.int v3), .val (.int v4), .val (.long v7), .second, .val (.long v9), .second, .val (.ref b10), .val (.int w13), .val (.int y14), .val (.int w20), .val (.int y21), .unset, .unset] [])
                          refine own_by (fun t k => XS.iconst X23.here hx rfl (hb hby at_201) k) ?_
                          show ORun p e below s _ _ _ T23 (mkF m 202 #[.val (.int p1), .val (.int p2), .val (.int p3), .val (.int p4), .val (.int v1), .val (.int v2), .val (.int v3), .val (.int v4), .val (.long v7), .second, .val (.long v9), .second, .val (.ref b10), .val (.int w13), .val (.int y14), .val (.int w20), .val (.int y21), .unset, .unset] [(.int (1 : Int32))])
                          refine own_by (fun t k => XS.goto X23.here hx rfl (pc0 := 202) (pc' := 206) rfl (hb hby at_202) (by decide) (by decide) k) ?_
                          show ORun p e below s _ _ _ T23 (mkF m 206 #[.val (.int p1), .val (.int p2), .val (.int p3), .val (.int p4), .val (.int v1), .val (.int v2), .val (.int v3), .val (.int v4), .val (.long v7), .second, .val (.long v9), .second, .val (.ref b10), .val (.int w13), .val (.int y14), .val (.int w20), .val (.int y21), .unset, .unset] [(.int (1 : Int32))])
                          exact J27 (1 : Int32) (Or.inl ⟨by decide, by omega⟩)
                  · have t25 := own_ne hc25 (a := c21.toInt) (b := w24.toInt) rfl rfl
                    refine own_by (fun t k => XS.icmpNo X23.here hx rfl (hb hby at_174) rfl (feq hc25).1 k) ?_
                    show ORun p e below s _ _ _ T23 (mkF m 177 #[.val (.int p1), .val (.int p2), .val (.int p3), .val (.int p4), .val (.int v1), .val (.int v2), .val (.int v3), .val (.int v4), .val (.long v7), .second, .val (.long v9), .second, .val (.ref b10), .val (.int w13), .val (.int y14), .val (.int w20), .val (.int y21), .unset, .unset] [])
                    refine own_by (fun t k => XS.iconst X23.here hx rfl (hb hby at_177) k) ?_
                    show ORun p e below s _ _ _ T23 (mkF m 178 #[.val (.int p1), .val (.int p2), .val (.int p3), .val (.int p4), .val (.int v1), .val (.int v2), .val (.int v3), .val (.int v4), .val (.long v7), .second, .val (.long v9), .second, .val (.ref b10), .val (.int w13), .val (.int y14), .val (.int w20), .val (.int y21), .unset, .unset] [(.int (0 : Int32))])
                    refine own_retN X23 hx (t := .boolean) hret (by simp) hlk (hb hby at_178) (by decide) (by decide) ?_
                    exfalso
                    omega
                refine own_by (fun t k => XS.iload X23.here hx rfl (hb hby at_164) rfl k) ?_
                show ORun p e below s _ _ _ T23 (mkF m 166 #[.val (.int p1), .val (.int p2), .val (.int p3), .val (.int p4), .val (.int v1), .val (.int v2), .val (.int v3), .val (.int v4), .val (.long v7), .second, .val (.long v9), .second, .val (.ref b10), .val (.int w13), .val (.int y14), .val (.int w20), .val (.int y21), .unset, .unset] [(.int w20), (.int c21)])
                by_cases hc36 : w20 = (0 : Int32)
                · have t36 := own_eq hc36 (a := w20.toInt) (b := 0) rfl (by decide)
                  refine own_by (fun t k => XS.ifYes X23.here hx rfl (pc0 := 166) (pc' := 173) rfl (hb hby at_166) rfl ((if0 _ _).trans (teq hc36).1) (by decide) (by decide) k) ?_
                  show ORun p e below s _ _ _ T23 (mkF m 173 #[.val (.int p1), .val (.int p2), .val (.int p3), .val (.int p4), .val (.int v1), .val (.int v2), .val (.int v3), .val (.int v4), .val (.long v7), .second, .val (.long v9), .second, .val (.ref b10), .val (.int w13), .val (.int y14), .val (.int w20), .val (.int y21), .unset, .unset] [(.int c21)])
                  refine own_by (fun t k => XS.iconst X23.here hx rfl (hb hby at_173) k) ?_
                  show ORun p e below s _ _ _ T23 (mkF m 174 #[.val (.int p1), .val (.int p2), .val (.int p3), .val (.int p4), .val (.int v1), .val (.int v2), .val (.int v3), .val (.int v4), .val (.long v7), .second, .val (.long v9), .second, .val (.ref b10), .val (.int w13), .val (.int y14), .val (.int w20), .val (.int y21), .unset, .unset] [(.int (1 : Int32)), (.int c21)])
                  exact J24 (1 : Int32) (by show 1 = w20.toInt + 1; omega)
                · have t36 := own_ne hc36 (a := w20.toInt) (b := 0) rfl (by decide)
                  refine own_by (fun t k => XS.ifNo X23.here hx rfl (hb hby at_166) rfl ((if0 _ _).trans (feq hc36).1) k) ?_
                  show ORun p e below s _ _ _ T23 (mkF m 169 #[.val (.int p1), .val (.int p2), .val (.int p3), .val (.int p4), .val (.int v1), .val (.int v2), .val (.int v3), .val (.int v4), .val (.long v7), .second, .val (.long v9), .second, .val (.ref b10), .val (.int w13), .val (.int y14), .val (.int w20), .val (.int y21), .unset, .unset] [(.int c21)])
                  refine own_by (fun t k => XS.iconst X23.here hx rfl (hb hby at_169) k) ?_
                  show ORun p e below s _ _ _ T23 (mkF m 170 #[.val (.int p1), .val (.int p2), .val (.int p3), .val (.int p4), .val (.int v1), .val (.int v2), .val (.int v3), .val (.int v4), .val (.long v7), .second, .val (.long v9), .second, .val (.ref b10), .val (.int w13), .val (.int y14), .val (.int w20), .val (.int y21), .unset, .unset] [(.int (2 : Int32)), (.int c21)])
                  refine own_by (fun t k => XS.goto X23.here hx rfl (pc0 := 170) (pc' := 174) rfl (hb hby at_170) (by decide) (by decide) k) ?_
                  show ORun p e below s _ _ _ T23 (mkF m 174 #[.val (.int p1), .val (.int p2), .val (.int p3), .val (.int p4), .val (.int v1), .val (.int v2), .val (.int v3), .val (.int v4), .val (.long v7), .second, .val (.long v9), .second, .val (.ref b10), .val (.int w13), .val (.int y14), .val (.int w20), .val (.int y21), .unset, .unset] [(.int (2 : Int32)), (.int c21)])
                  exact J24 (2 : Int32) (by show 2 = w20.toInt + 1; omega)
              · have t22 := own_ne hc22 (a := y21.toInt) (b := w20.toInt) rfl rfl
                refine own_by (fun t k => XS.icmpNo X21.here hx rfl (hb hby at_154) rfl (feq hc22).1 k) ?_
                show ORun p e below s _ _ _ T21 (mkF m 157 #[.val (.int p1), .val (.int p2), .val (.int p3), .val (.int p4), .val (.int v1), .val (.int v2), .val (.int v3), .val (.int v4), .val (.long v7), .second, .val (.long v9), .second, .val (.ref b10), .val (.int w13), .val (.int y14), .val (.int w20), .val (.int y21), .unset, .unset] [])
                refine own_by (fun t k => XS.iconst X21.here hx rfl (hb hby at_157) k) ?_
                show ORun p e below s _ _ _ T21 (mkF m 158 #[.val (.int p1), .val (.int p2), .val (.int p3), .val (.int p4), .val (.int v1), .val (.int v2), .val (.int v3), .val (.int v4), .val (.long v7), .second, .val (.long v9), .second, .val (.ref b10), .val (.int w13), .val (.int y14), .val (.int w20), .val (.int y21), .unset, .unset] [(.int (0 : Int32))])
                refine own_retN X21 hx (t := .boolean) hret (by simp) hlk (hb hby at_158) (by decide) (by decide) ?_
                exfalso
                omega
            refine own_by (fun t k => XS.iload X16.here hx rfl (hb hby at_119) rfl k) ?_
            show ORun p e below s _ _ _ T16 (mkF m 121 #[.val (.int p1), .val (.int p2), .val (.int p3), .val (.int p4), .val (.int v1), .val (.int v2), .val (.int v3), .val (.int v4), .val (.long v7), .second, .val (.long v9), .second, .val (.ref b10), .val (.int w13), .val (.int y14), .unset, .unset, .unset, .unset] [(.int v1)])
            refine own_by (fun t k => XS.iconst X16.here hx rfl (hb hby at_121) k) ?_
            show ORun p e below s _ _ _ T16 (mkF m 122 #[.val (.int p1), .val (.int p2), .val (.int p3), .val (.int p4), .val (.int v1), .val (.int v2), .val (.int v3), .val (.int v4), .val (.long v7), .second, .val (.long v9), .second, .val (.ref b10), .val (.int w13), .val (.int y14), .unset, .unset, .unset, .unset] [(.int (2 : Int32)), (.int v1)])
            by_cases hc37 : v1 < (2 : Int32)
            · have t37 := own_lt hc37 (a := v1.toInt) (b := 2) rfl (by decide)
              refine own_by (fun t k => XS.icmpYes X16.here hx rfl (pc0 := 122) (pc' := 138) rfl (hb hby at_122) rfl (tlt hc37).1 (by decide) (by decide) k) ?_
              show ORun p e below s _ _ _ T16 (mkF m 138 #[.val (.int p1), .val (.int p2), .val (.int p3), .val (.int p4), .val (.int v1), .val (.int v2), .val (.int v3), .val (.int v4), .val (.long v7), .second, .val (.long v9), .second, .val (.ref b10), .val (.int w13), .val (.int y14), .unset, .unset, .unset, .unset] [])
              refine own_by (fun t k => XS.iconst X16.here hx rfl (hb hby at_138) k) ?_
              show ORun p e below s _ _ _ T16 (mkF m 139 #[.val (.int p1), .val (.int p2), .val (.int p3), .val (.int p4), .val (.int v1), .val (.int v2), .val (.int v3), .val (.int v4), .val (.long v7), .second, .val (.long v9), .second, .val (.ref b10), .val (.int w13), .val (.int y14), .unset, .unset, .unset, .unset] [(.int (0 : Int32))])
              exact J20 (0 : Int32) (Or.inr ⟨by decide, by omega⟩)
            · have t37 := own_nlt hc37 (a := v1.toInt) (b := 2) rfl (by decide)
              refine own_by (fun t k => XS.icmpNo X16.here hx rfl (hb hby at_122) rfl (flt hc37).1 k) ?_
              show ORun p e below s _ _ _ T16 (mkF m 125 #[.val (.int p1), .val (.int p2), .val (.int p3), .val (.int p4), .val (.int v1), .val (.int v2), .val (.int v3), .val (.int v4), .val (.long v7), .second, .val (.long v9), .second, .val (.ref b10), .val (.int w13), .val (.int y14), .unset, .unset, .unset, .unset] [])
              refine own_by (fun t k => XS.lload X16.here hx rfl (hb hby at_125) rfl k) ?_
              show ORun p e below s _ _ _ T16 (mkF m 127 #[.val (.int p1), .val (.int p2), .val (.int p3), .val (.int p4), .val (.int v1), .val (.int v2), .val (.int v3), .val (.int v4), .val (.long v7), .second, .val (.long v9), .second, .val (.ref b10), .val (.int w13), .val (.int y14), .unset, .unset, .unset, .unset] [(.long v7)])
              refine own_by (fun t k => X16.ldc2Long hx hown (mvT hZ (hw _ (List.mem_of_getElem? (i := 26) rfl))) (g := (mkF m 127 #[.val (.int p1), .val (.int p2), .val (.int p3), .val (.int p4), .val (.int v1), .val (.int v2), .val (.int v3), .val (.int v4), .val (.long v7), .second, .val (.long v9), .second, .val (.ref b10), .val (.int w13), .val (.int y14), .unset, .unset, .unset, .unset] [(.long v7)])) rfl (hb hby at_127) _ k) ?_
              show ORun p e below s _ _ _ T16 (mkF m 130 #[.val (.int p1), .val (.int p2), .val (.int p3), .val (.int p4), .val (.int v1), .val (.int v2), .val (.int v3), .val (.int v4), .val (.long v7), .second, .val (.long v9), .second, .val (.ref b10), .val (.int w13), .val (.int y14), .unset, .unset, .unset, .unset] [(.long (1000000 : Int64)), (.long v7)])
              refine own_by (fun t k => XS.lcmp X16.here hx rfl (hb hby at_130) rfl k) ?_
              show ORun p e below s _ _ _ T16 (mkF m 131 #[.val (.int p1), .val (.int p2), .val (.int p3), .val (.int p4), .val (.int v1), .val (.int v2), .val (.int v3), .val (.int v4), .val (.long v7), .second, .val (.long v9), .second, .val (.ref b10), .val (.int w13), .val (.int y14), .unset, .unset, .unset, .unset] [(.int (lcmpW v7 (1000000 : Int64)))])
              by_cases hc38 : (1000000 : Int64) < v7
              · have t38 := own_ltL hc38 (a := 1000000) (b := v7.toInt) (by decide) rfl
                refine own_by (fun t k => XS.ifYes X16.here hx rfl (pc0 := 131) (pc' := 138) rfl (hb hby at_131) rfl (own_lcgt hc38).1 (by decide) (by decide) k) ?_
                show ORun p e below s _ _ _ T16 (mkF m 138 #[.val (.int p1), .val (.int p2), .val (.int p3), .val (.int p4), .val (.int v1), .val (.int v2), .val (.int v3), .val (.int v4), .val (.long v7), .second, .val (.long v9), .second, .val (.ref b10), .val (.int w13), .val (.int y14), .unset, .unset, .unset, .unset] [])
                refine own_by (fun t k => XS.iconst X16.here hx rfl (hb hby at_138) k) ?_
                show ORun p e below s _ _ _ T16 (mkF m 139 #[.val (.int p1), .val (.int p2), .val (.int p3), .val (.int p4), .val (.int v1), .val (.int v2), .val (.int v3), .val (.int v4), .val (.long v7), .second, .val (.long v9), .second, .val (.ref b10), .val (.int w13), .val (.int y14), .unset, .unset, .unset, .unset] [(.int (0 : Int32))])
                exact J20 (0 : Int32) (Or.inr ⟨by decide, by omega⟩)
              · have t38 := own_nltL hc38 (a := 1000000) (b := v7.toInt) (by decide) rfl
                refine own_by (fun t k => XS.ifNo X16.here hx rfl (hb hby at_131) rfl (own_lcngt hc38).1 k) ?_
                show ORun p e below s _ _ _ T16 (mkF m 134 #[.val (.int p1), .val (.int p2), .val (.int p3), .val (.int p4), .val (.int v1), .val (.int v2), .val (.int v3), .val (.int v4), .val (.long v7), .second, .val (.long v9), .second, .val (.ref b10), .val (.int w13), .val (.int y14), .unset, .unset, .unset, .unset] [])
                refine own_by (fun t k => XS.iconst X16.here hx rfl (hb hby at_134) k) ?_
                show ORun p e below s _ _ _ T16 (mkF m 135 #[.val (.int p1), .val (.int p2), .val (.int p3), .val (.int p4), .val (.int v1), .val (.int v2), .val (.int v3), .val (.int v4), .val (.long v7), .second, .val (.long v9), .second, .val (.ref b10), .val (.int w13), .val (.int y14), .unset, .unset, .unset, .unset] [(.int (1 : Int32))])
                refine own_by (fun t k => XS.goto X16.here hx rfl (pc0 := 135) (pc' := 139) rfl (hb hby at_135) (by decide) (by decide) k) ?_
                show ORun p e below s _ _ _ T16 (mkF m 139 #[.val (.int p1), .val (.int p2), .val (.int p3), .val (.int p4), .val (.int v1), .val (.int v2), .val (.int v3), .val (.int v4), .val (.long v7), .second, .val (.long v9), .second, .val (.ref b10), .val (.int w13), .val (.int y14), .unset, .unset, .unset, .unset] [(.int (1 : Int32))])
                exact J20 (1 : Int32) (Or.inl ⟨by decide, by omega⟩)
        · have t18 := own_ne hc18 (a := c14.toInt) (b := w17.toInt) rfl rfl
          refine own_by (fun t k => XS.icmpNo X16.here hx rfl (hb hby at_107) rfl (feq hc18).1 k) ?_
          show ORun p e below s _ _ _ T16 (mkF m 110 #[.val (.int p1), .val (.int p2), .val (.int p3), .val (.int p4), .val (.int v1), .val (.int v2), .val (.int v3), .val (.int v4), .val (.long v7), .second, .val (.long v9), .second, .val (.ref b10), .val (.int w13), .val (.int y14), .unset, .unset, .unset, .unset] [])
          refine own_by (fun t k => XS.iconst X16.here hx rfl (hb hby at_110) k) ?_
          show ORun p e below s _ _ _ T16 (mkF m 111 #[.val (.int p1), .val (.int p2), .val (.int p3), .val (.int p4), .val (.int v1), .val (.int v2), .val (.int v3), .val (.int v4), .val (.long v7), .second, .val (.long v9), .second, .val (.ref b10), .val (.int w13), .val (.int y14), .unset, .unset, .unset, .unset] [(.int (0 : Int32))])
          refine own_retN X16 hx (t := .boolean) hret (by simp) hlk (hb hby at_111) (by decide) (by decide) ?_
          exfalso
          omega
      refine own_by (fun t k => XS.iload X16.here hx rfl (hb hby at_97) rfl k) ?_
      show ORun p e below s _ _ _ T16 (mkF m 99 #[.val (.int p1), .val (.int p2), .val (.int p3), .val (.int p4), .val (.int v1), .val (.int v2), .val (.int v3), .val (.int v4), .val (.long v7), .second, .val (.long v9), .second, .val (.ref b10), .val (.int w13), .val (.int y14), .unset, .unset, .unset, .unset] [(.int w13), (.int c14)])
      by_cases hc39 : w13 = (0 : Int32)
      · have t39 := own_eq hc39 (a := w13.toInt) (b := 0) rfl (by decide)
        refine own_by (fun t k => XS.ifYes X16.here hx rfl (pc0 := 99) (pc' := 106) rfl (hb hby at_99) rfl ((if0 _ _).trans (teq hc39).1) (by decide) (by decide) k) ?_
        show ORun p e below s _ _ _ T16 (mkF m 106 #[.val (.int p1), .val (.int p2), .val (.int p3), .val (.int p4), .val (.int v1), .val (.int v2), .val (.int v3), .val (.int v4), .val (.long v7), .second, .val (.long v9), .second, .val (.ref b10), .val (.int w13), .val (.int y14), .unset, .unset, .unset, .unset] [(.int c14)])
        refine own_by (fun t k => XS.iconst X16.here hx rfl (hb hby at_106) k) ?_
        show ORun p e below s _ _ _ T16 (mkF m 107 #[.val (.int p1), .val (.int p2), .val (.int p3), .val (.int p4), .val (.int v1), .val (.int v2), .val (.int v3), .val (.int v4), .val (.long v7), .second, .val (.long v9), .second, .val (.ref b10), .val (.int w13), .val (.int y14), .unset, .unset, .unset, .unset] [(.int (0 : Int32)), (.int c14)])
        exact J17 (0 : Int32) (by show 0 = w13.toInt; omega)
      · have t39 := own_ne hc39 (a := w13.toInt) (b := 0) rfl (by decide)
        refine own_by (fun t k => XS.ifNo X16.here hx rfl (hb hby at_99) rfl ((if0 _ _).trans (feq hc39).1) k) ?_
        show ORun p e below s _ _ _ T16 (mkF m 102 #[.val (.int p1), .val (.int p2), .val (.int p3), .val (.int p4), .val (.int v1), .val (.int v2), .val (.int v3), .val (.int v4), .val (.long v7), .second, .val (.long v9), .second, .val (.ref b10), .val (.int w13), .val (.int y14), .unset, .unset, .unset, .unset] [(.int c14)])
        refine own_by (fun t k => XS.iconst X16.here hx rfl (hb hby at_102) k) ?_
        show ORun p e below s _ _ _ T16 (mkF m 103 #[.val (.int p1), .val (.int p2), .val (.int p3), .val (.int p4), .val (.int v1), .val (.int v2), .val (.int v3), .val (.int v4), .val (.long v7), .second, .val (.long v9), .second, .val (.ref b10), .val (.int w13), .val (.int y14), .unset, .unset, .unset, .unset] [(.int (1 : Int32)), (.int c14)])
        refine own_by (fun t k => XS.goto X16.here hx rfl (pc0 := 103) (pc' := 107) rfl (hb hby at_103) (by decide) (by decide) k) ?_
        show ORun p e below s _ _ _ T16 (mkF m 107 #[.val (.int p1), .val (.int p2), .val (.int p3), .val (.int p4), .val (.int v1), .val (.int v2), .val (.int v3), .val (.int v4), .val (.long v7), .second, .val (.long v9), .second, .val (.ref b10), .val (.int w13), .val (.int y14), .unset, .unset, .unset, .unset] [(.int (1 : Int32)), (.int c14)])
        exact J17 (1 : Int32) (by show 1 = w13.toInt; omega)
    · have t15 := own_ne hc15 (a := y14.toInt) (b := w13.toInt) rfl rfl
      refine own_by (fun t k => XS.icmpNo X14.here hx rfl (hb hby at_87) rfl (feq hc15).1 k) ?_
      show ORun p e below s _ _ _ T14 (mkF m 90 #[.val (.int p1), .val (.int p2), .val (.int p3), .val (.int p4), .val (.int v1), .val (.int v2), .val (.int v3), .val (.int v4), .val (.long v7), .second, .val (.long v9), .second, .val (.ref b10), .val (.int w13), .val (.int y14), .unset, .unset, .unset, .unset] [])
      refine own_by (fun t k => XS.iconst X14.here hx rfl (hb hby at_90) k) ?_
      show ORun p e below s _ _ _ T14 (mkF m 91 #[.val (.int p1), .val (.int p2), .val (.int p3), .val (.int p4), .val (.int v1), .val (.int v2), .val (.int v3), .val (.int v4), .val (.long v7), .second, .val (.long v9), .second, .val (.ref b10), .val (.int w13), .val (.int y14), .unset, .unset, .unset, .unset] [(.int (0 : Int32))])
      refine own_retN X14 hx (t := .boolean) hret (by simp) hlk (hb hby at_91) (by decide) (by decide) ?_
      exfalso
      omega
  refine own_by (fun t k => XS.iload X12.here hx rfl (hb hby at_61) rfl k) ?_
  show ORun p e below s _ _ _ T12 (mkF m 63 #[.val (.int p1), .val (.int p2), .val (.int p3), .val (.int p4), .val (.int v1), .val (.int v2), .val (.int v3), .val (.int v4), .val (.long v7), .second, .val (.long v9), .second, .val (.ref b10), .unset, .unset, .unset, .unset, .unset, .unset] [(.int v1)])
  refine own_by (fun t k => XS.iconst X12.here hx rfl (hb hby at_63) k) ?_
  show ORun p e below s _ _ _ T12 (mkF m 64 #[.val (.int p1), .val (.int p2), .val (.int p3), .val (.int p4), .val (.int v1), .val (.int v2), .val (.int v3), .val (.int v4), .val (.long v7), .second, .val (.long v9), .second, .val (.ref b10), .unset, .unset, .unset, .unset, .unset, .unset] [(.int (1 : Int32)), (.int v1)])
  by_cases hc40 : v1 < (1 : Int32)
  · have t40 := own_lt hc40 (a := v1.toInt) (b := 1) rfl (by decide)
    refine own_by (fun t k => XS.icmpYes X12.here hx rfl (pc0 := 64) (pc' := 71) rfl (hb hby at_64) rfl (tlt hc40).1 (by decide) (by decide) k) ?_
    show ORun p e below s _ _ _ T12 (mkF m 71 #[.val (.int p1), .val (.int p2), .val (.int p3), .val (.int p4), .val (.int v1), .val (.int v2), .val (.int v3), .val (.int v4), .val (.long v7), .second, .val (.long v9), .second, .val (.ref b10), .unset, .unset, .unset, .unset, .unset, .unset] [])
    refine own_by (fun t k => XS.iconst X12.here hx rfl (hb hby at_71) k) ?_
    show ORun p e below s _ _ _ T12 (mkF m 72 #[.val (.int p1), .val (.int p2), .val (.int p3), .val (.int p4), .val (.int v1), .val (.int v2), .val (.int v3), .val (.int v4), .val (.long v7), .second, .val (.long v9), .second, .val (.ref b10), .unset, .unset, .unset, .unset, .unset, .unset] [(.int (0 : Int32))])
    exact J13 (0 : Int32) (Or.inr ⟨by decide, by omega⟩)
  · have t40 := own_nlt hc40 (a := v1.toInt) (b := 1) rfl (by decide)
    refine own_by (fun t k => XS.icmpNo X12.here hx rfl (hb hby at_64) rfl (flt hc40).1 k) ?_
    show ORun p e below s _ _ _ T12 (mkF m 67 #[.val (.int p1), .val (.int p2), .val (.int p3), .val (.int p4), .val (.int v1), .val (.int v2), .val (.int v3), .val (.int v4), .val (.long v7), .second, .val (.long v9), .second, .val (.ref b10), .unset, .unset, .unset, .unset, .unset, .unset] [])
    refine own_by (fun t k => XS.iconst X12.here hx rfl (hb hby at_67) k) ?_
    show ORun p e below s _ _ _ T12 (mkF m 68 #[.val (.int p1), .val (.int p2), .val (.int p3), .val (.int p4), .val (.int v1), .val (.int v2), .val (.int v3), .val (.int v4), .val (.long v7), .second, .val (.long v9), .second, .val (.ref b10), .unset, .unset, .unset, .unset, .unset, .unset] [(.int (1 : Int32))])
    refine own_by (fun t k => XS.goto X12.here hx rfl (pc0 := 68) (pc' := 72) rfl (hb hby at_68) (by decide) (by decide) k) ?_
    show ORun p e below s _ _ _ T12 (mkF m 72 #[.val (.int p1), .val (.int p2), .val (.int p3), .val (.int p4), .val (.int v1), .val (.int v2), .val (.int v3), .val (.int v4), .val (.long v7), .second, .val (.long v9), .second, .val (.ref b10), .unset, .unset, .unset, .unset, .unset, .unset] [(.int (1 : Int32))])
    exact J13 (1 : Int32) (Or.inl ⟨by decide, by omega⟩)
set_option maxRecDepth 65536 in
set_option maxHeartbeats 40000000 in
theorem comes_1 {Post : Tables → Env → Array Value → State → Outcome → State → Prop} (hpost : ∀ tb e args s v u, (limb_1_1.after args s (.returned v) u = true ∧ limb_1_2.after args s (.returned v) u = true ∧ True) → FrameEnd s (.returned v) u (Jvm.fieldLocs frame_1_writes args s ++ Jvm.arrayLocs frame_1_arrays args s ++ Jvm.staticLocs frame_1_statics s) 16 128 → Post tb e args s (.returned v) u) :
    ArmFor flags0 classFile x code maxLocals ret World_1 tables_1 room_1 Calls_1 rest_1 Pre_1 Post := by
  intro l hfl _ _ p e ha hc hk s m args below hf hA hF happ hP
  obtain ⟨hcalls, hrest, hpre⟩ := hP
  obtain ⟨-, -, -, hnamed, -, -, -, hat⟩ := (Spec.applies_iff hf).mp happ
  obtain ⟨hg, hn⟩ := and_e (Cond.before_iff.mp (show (Jvm.Cond.and given_1 narrow_1).before args s = true from hpre))
  obtain ⟨hcnt, g0⟩ := and_e hg
  obtain ⟨k0, g1⟩ := and_e g0
  obtain ⟨k1, g2⟩ := and_e g1
  obtain ⟨k2, g3⟩ := and_e g2
  have k3 := g3
  obtain ⟨w0, w1, w2, w3, rfl⟩ : ∃ w0 w1 w2 w3 : Value, args = #[w0, w1, w2, w3] := by
    have hs : args.size = 4 := by simpa [Cond.value, given_1] using hcnt
    obtain ⟨L⟩ := args
    match L, hs with
    | [w0, w1, w2, w3], _ => exact ⟨w0, w1, w2, w3, rfl⟩
  have hw := fun d (hd : d ∈ tables_1) => atoms_spec (ws := Jvm.Cond.code x code maxLocals ret :: tables_1) hat d (List.mem_cons_of_mem _ hd)
  have hfit : Fit s := fun {y c} hc i hi => by
    obtain ⟨ha, rfl⟩ := Array.getElem?_eq_some_iff.mp hc
    have q := List.all_eq_true.mp ((Array.all_eq_true_iff_forall_mem.mp hF) _ (Array.getElem_mem ha)) i (List.mem_range.mpr hi)
    simpa [Array.getElem?_eq_getElem hi] using q
  obtain ⟨i0, e0⟩ := is_v k0
  obtain rfl : w0 = (.int i0) := Option.some.inj e0
  obtain ⟨i1, e1⟩ := is_v k1
  obtain rfl : w1 = (.int i1) := Option.some.inj e1
  obtain ⟨i2, e2⟩ := is_v k2
  obtain rfl : w2 = (.int i2) := Option.some.inj e2
  obtain ⟨i3, e3⟩ := is_v k3
  obtain rfl : w3 = (.int i3) := Option.some.inj e3
  obtain ⟨n, o, h1, h2, h3, _, L, rfl, ⟨rfl, N⟩, hq⟩ := rm0 l s _ hw tables_1 s.heap s.heap.size (Nat.le_refl _) i0 i1 i2 i3  p e ha hc hk s m _ below hf ((Spec.applies_iff_loose hf).mp happ).1 ⟨rfl, State.Warmed39.refl s, rfl⟩ trivial
  refine ⟨n, _, h1, h2, h3, hpost _ _ _ _ _ _ ⟨Cond.after_iff.mpr rfl, Cond.after_iff.mpr (eq_i res_at (Term.int_eval (1)) rfl), trivial⟩ ⟨hq.1, hq.2.1, (hq.2.2.sift fun y hy => Or.inr (N y hy)).mono (by decide) (by decide)⟩⟩
theorem main_1_1 : Claimed_1_1 := comes_1 fun _ _ _ _ _ _ h hF => ⟨h.1, hF⟩
theorem main_1_2 : Claimed_1_2 := comes_1 fun _ _ _ _ _ _ h hF => ⟨h.2.1, hF⟩
end Jvm.Pilot.@@N@@
namespace Jvm.Pilot.@@N@@
open Jvm Jvm.ClassFile Sem Op Lib Jvm.Free Jvm.Stand Jvm.Pilot.@@N@@.Jvm.D
/-! MADE BY PROGRAM (witnessworld.py) out of the Statement's table words and the real class files: 9 classes; the members and pool entries that the words name. The judged class is class 1, her method 1. -/
namespace start1
open Jvm.ClassFile
def u (s : String) : CpInfo := .utf8 (stringToUtf16 s)
/-- a pool by its gaps: so many unusable entries, then the entry; so many at the end -/
def gap : Nat → List CpInfo → List CpInfo
  | 0, r => r
  | n + 1, r => .unusable :: gap n r
def poolList (es : List (Nat × CpInfo)) (last : Nat) : List CpInfo := es.foldr (fun e r => gap e.1 (e.2 :: r)) (gap last [])
def pool (es : List (Nat × CpInfo)) (last : Nat) : Array CpInfo := ⟨poolList es last⟩
def fileOf (pool : Array CpInfo) (this : Nat) (attrs : Array Attribute := #[]) (ms : Array MethodInfo := #[]) (fl : Nat := 33) (sup : Nat := 0) (ifs : Array Nat := #[]) (fds : Array FieldInfo := #[]) : ClassFile where
  minorVersion := 0
  majorVersion := 65
  constantPool := pool
  accessFlags := fl
  thisClass := this
  superClass := sup
  interfaces := ifs
  fields := fds
  methods := ms
  attributes := attrs
def plain (name : String) (sup : Option ClassId) : Class where
  name := name
  kind := .ordinary
  loader := none
  accessFlags := 33
  super := sup
  interfaces := #[]
  cf := none
  fields := #[]
  methods := #[]
  instanceTypes := #[]
  staticTypes := #[]
  resolved := #[]
  callSites := []
  init := .initialized
  statics := none
  mirror := none

def pool0 : Array CpInfo := pool [(5, u "<init>"), (0, u "()V"), (1, .class_ 10), (1, u "java/lang/Object")] 113

def k0c0 : Code := { maxStack := 0, maxLocals := 1, code := object_method_1_code, exceptionTable := #[], attributes := #[] }
def k0m0 : Method := { name := "<init>", desc := "()V", sig := { parameters := [], returnType := none }, accessFlags := 1, code := some k0c0 }
/-- java/lang/Object -/
def k0 : Class := { plain "java/lang/Object" none with
  accessFlags := 33
  interfaces := #[]
  cf := some (fileOf pool0 8 #[] #[{ accessFlags := 1, nameIndex := 5, descriptorIndex := 6, attributes := #[] }] 33 0 #[] #[])
  fields := #[]
  methods := #[k0m0]
  instanceTypes := #[]
  staticTypes := #[]
  resolved := Array.replicate 124 none
  statics := none }

def pool1 : Array CpInfo := pool [(2, .class_ 4), (1, u "java/lang/Object"), (0, u "<init>"), (0, u "()V"), (0, .integer 2147483647), (0, .class_ 9), (0, u "com/example/fondsworks/fondsworks/Part"), (0, .methodref 8 11), (0, .nameAndType 5 12), (0, u "(I)V"), (0, .methodref 8 14), (0, .nameAndType 15 16), (0, u "size"), (0, u "()I"), (0, .methodref 8 18), (0, .nameAndType 19 20), (0, u "takes"), (0, u "(I)Z"), (0, .long 1000000), (1, .class_ 24), (0, u "com/example/fondsworks/fondsworks/PartTakesPinLaw"), (2, u "law"), (0, u "(IIII)Z")] 3

def k1m0 : Method := { name := "<init>", desc := "()V", sig := { parameters := [], returnType := none }, accessFlags := 1, code := none }
def k1c1 : Code := { maxStack := 4, maxLocals := 19, code := code, exceptionTable := #[], attributes := #[] }
def k1m1 : Method := { name := "law", desc := "(IIII)Z", sig := { parameters := [.int, .int, .int, .int], returnType := some .boolean }, accessFlags := 9, code := some k1c1 }
/-- com/example/fondsworks/fondsworks/PartTakesPinLaw -/
def k1 : Class := { plain "com/example/fondsworks/fondsworks/PartTakesPinLaw" (some 0) with
  accessFlags := 49
  interfaces := #[]
  cf := some (fileOf pool1 23 #[] #[{ accessFlags := 1, nameIndex := 5, descriptorIndex := 6, attributes := #[] }, { accessFlags := 9, nameIndex := 27, descriptorIndex := 28, attributes := #[] }] 49 2 #[] #[])
  fields := #[]
  methods := #[k1m0, k1m1]
  instanceTypes := #[]
  staticTypes := #[]
  resolved := Array.replicate 32 none
  statics := none }

def pool2 : Array CpInfo := pool [(1, .methodref 2 3), (0, .class_ 4), (0, .nameAndType 5 6), (0, u "java/lang/Object"), (0, u "<init>"), (0, u "()V"), (0, .fieldref 8 9), (0, .class_ 10), (0, .nameAndType 11 12), (0, u "com/example/fondsworks/fondsworks/Part"), (0, u "most"), (0, u "I"), (0, .fieldref 8 14), (0, .nameAndType 15 12), (0, u "taken"), (0, .fieldref 8 17), (0, .nameAndType 18 19), (0, u "characters"), (0, u "J"), (0, .long 1000000), (1, u "KEY_CHARACTERS"), (1, u "(I)V"), (2, u "takes"), (0, u "(I)Z"), (1, u "size"), (0, u "()I")] 2

def k2c0 : Code := { maxStack := 2, maxLocals := 2, code := prog_24_method_1_code, exceptionTable := #[], attributes := #[] }
def k2m0 : Method := { name := "<init>", desc := "(I)V", sig := { parameters := [.int], returnType := none }, accessFlags := 0, code := some k2c0 }
def k2c1 : Code := { maxStack := 5, maxLocals := 3, code := prog_24_method_2_code, exceptionTable := #[], attributes := #[] }
def k2m1 : Method := { name := "takes", desc := "(I)Z", sig := { parameters := [.int], returnType := some .boolean }, accessFlags := 0, code := some k2c1 }
def k2c2 : Code := { maxStack := 1, maxLocals := 1, code := prog_24_method_3_code, exceptionTable := #[], attributes := #[] }
def k2m2 : Method := { name := "size", desc := "()I", sig := { parameters := [], returnType := some .int }, accessFlags := 0, code := some k2c2 }
/-- com/example/fondsworks/fondsworks/Part -/
def k2 : Class := { plain "com/example/fondsworks/fondsworks/Part" (some 0) with
  accessFlags := 48
  interfaces := #[]
  cf := some (fileOf pool2 8 #[] #[{ accessFlags := 0, nameIndex := 5, descriptorIndex := 24, attributes := #[] }, { accessFlags := 0, nameIndex := 27, descriptorIndex := 28, attributes := #[] }, { accessFlags := 0, nameIndex := 30, descriptorIndex := 31, attributes := #[] }] 48 2 #[] #[{ accessFlags := 24, nameIndex := 22, descriptorIndex := 19, attributes := #[] }, { accessFlags := 18, nameIndex := 11, descriptorIndex := 12, attributes := #[] }, { accessFlags := 2, nameIndex := 15, descriptorIndex := 12, attributes := #[] }, { accessFlags := 2, nameIndex := 18, descriptorIndex := 19, attributes := #[] }])
  fields := #[{ name := "KEY_CHARACTERS", type := .long, accessFlags := 24, slot := 0, constantValue := 0 }, { name := "most", type := .int, accessFlags := 18, slot := 0, constantValue := 0 }, { name := "taken", type := .int, accessFlags := 2, slot := 1, constantValue := 0 }, { name := "characters", type := .long, accessFlags := 2, slot := 2, constantValue := 0 }]
  methods := #[k2m0, k2m1, k2m2]
  instanceTypes := #[.int, .int, .long]
  staticTypes := #[.long]
  resolved := Array.replicate 34 none
  statics := none }

def pool3 : Array CpInfo := pool [(1, u "java/lang/Cloneable"), (0, .class_ 1), (0, u "java/lang/Object"), (0, .class_ 3)] 3

/-- java/lang/Cloneable -/
def k3 : Class := { plain "java/lang/Cloneable" (some 0) with
  accessFlags := 1537
  interfaces := #[]
  cf := some (fileOf pool3 2 #[] #[] 1537 4 #[] #[])
  fields := #[]
  methods := #[]
  instanceTypes := #[]
  staticTypes := #[]
  resolved := Array.replicate 8 none
  statics := none }

def pool4 : Array CpInfo := pool [(1, u "java/io/Serializable"), (0, .class_ 1), (0, u "java/lang/Object"), (0, .class_ 3)] 3

/-- java/io/Serializable -/
def k4 : Class := { plain "java/io/Serializable" (some 0) with
  accessFlags := 1537
  interfaces := #[]
  cf := some (fileOf pool4 2 #[] #[] 1537 4 #[] #[])
  fields := #[]
  methods := #[]
  instanceTypes := #[]
  staticTypes := #[]
  resolved := Array.replicate 8 none
  statics := none }

/-- the primitive byte -/
def k5 : Class := { plain "byte" none with kind := .primitive 'B', accessFlags := 0x411 }
/-- [B -/
def k6 : Class := { plain "[B" (some 0) with kind := .array 5 .byte, interfaces := #[3, 4], accessFlags := 1041 }

/-- the primitive int -/
def k7 : Class := { plain "int" none with kind := .primitive 'I', accessFlags := 0x411 }
/-- [I -/
def k8 : Class := { plain "[I" (some 0) with kind := .array 7 .int, interfaces := #[3, 4], accessFlags := 1041 }

def heap : Heap := #[]
def classes : Array Class := #[k0, k1, k2, k3, k4, k5, k6, k7, k8]
def interned : List (Array UInt16 × Addr) := []
def slotsUsed : Nat := 0
def theMethod : MethodId := ⟨1, 1⟩
def args0 : Array Value := #[.int 3, .int 10, .int 20, .int 30]
def aboutOver (below : List Frame) : State where
  vm := { classes := classes, interned := interned.toArray }
  heap := heap
  slotsUsed := slotsUsed
  threads := #[{ frames := .invoking theMethod args0 :: below }]
def below0 : List Frame := [.native { method := ⟨0, 0⟩, args := #[] }]
def about1 : State := aboutOver below0
def p0 : Program := .bare "" "" ""
def e0 : Env := launch0.env 0 0 0
theorem w_frames : about1.frames = Frame.invoking theMethod args0 :: below0 := rfl
set_option maxRecDepth 65536 in
theorem w_args : argsFit about1.vm theMethod args0 = true := by decide +kernel
set_option maxRecDepth 65536 in
theorem w_heap : heapFits about1 = true := by decide +kernel
set_option maxRecDepth 65536 in
theorem w_runnable : about1.curStatus? = some .runnable := by decide +kernel
set_option maxRecDepth 65536 in
theorem w_alone : about1.alone = true := by decide +kernel
set_option maxRecDepth 65536 in
theorem w_named : about1.methodNamed? x = some theMethod := by decide +kernel
set_option maxRecDepth 65536 in
theorem w_hears : about1.hears theMethod below0 = true := by decide +kernel
set_option maxRecDepth 65536 in
theorem w_ripe : about1.ripe theMethod args0 below0 = true := by decide +kernel
theorem w_running : about1.status = .running := rfl
set_option maxRecDepth 65536 in
theorem w_room : about1.hasRoom e0.platform room_1 = true :=
  launch0.hasRoom_least _ room_1 (by decide +kernel) (by decide +kernel) (by decide +kernel) (by decide +kernel) (by decide +kernel) (by decide +kernel)
theorem allAtoms_all (ts : List Jvm.Cond) (a : Array Jvm.Value) (st : Jvm.State) : (allAtoms ts).before a st = ts.all (fun c => c.before a st) := by
  induction ts with
  | nil => rfl
  | cons c t ih =>
    show (Jvm.Cond.and c (allAtoms t)).before a st = _
    rw [Jvm.Cond.before_and, ih, List.all_cons]
def words1 : List Jvm.Cond := Jvm.Cond.code x code maxLocals ret :: tables_1
/-- a 'code' word, met by the world's own term for the bytes: nothing is compared byte by byte -/
theorem code_word {y : MethodName} {bytes : ByteArray} {mx : Nat} {rt : Option FieldType} {a : Array Value} {s : State} {m : MethodId} {meth : Method} {c : Code} (h1 : s.methodNamed? y = some m) (h2 : s.vm.method? m = some meth) (h3 : meth.code = some c) (h4 : c.code = bytes)
    (h5 : (c.maxLocals == mx && c.exceptionTable.isEmpty && decide (c.maxStack ≤ mostOperands) && decide (meth.sig.returnType = rt) && !meth.locks && decide (parseMethodDescriptor y.desc = some meth.sig)) = true) : (Jvm.Cond.code y bytes mx rt).before a s = true := by
  simp only [Bool.and_eq_true, beq_iff_eq, Bool.not_eq_true', decide_eq_true_eq] at h5
  obtain ⟨⟨⟨⟨⟨g1, g2⟩, g3⟩, g4⟩, g5⟩, g6⟩ := h5
  simp [Cond.before, Cond.holds, Cond.value, h1, h2, h3, h4, g1, g2, g3, g4, g5, g6]
def isCode : Jvm.Cond → Bool
  | .code _ _ _ _ => true
  | _ => false
theorem all_split {L : List Jvm.Cond} {P : Jvm.Cond → Bool} (h1 : L.all (fun c => isCode c || P c) = true) (h2 : ∀ c ∈ L.filter isCode, P c = true) : L.all P = true := by
  refine List.all_eq_true.mpr fun c hc => ?_
  have h := List.all_eq_true.mp h1 c hc
  rcases Bool.eq_false_or_eq_true (isCode c) with hi | hi
  · exact h2 c (List.mem_filter.mpr ⟨hc, hi⟩)
  · simpa [hi] using h
set_option maxRecDepth 65536 in
theorem w_c0 : (Jvm.Cond.code x code maxLocals ret).before args0 about1 = true := code_word (m := ⟨1, 1⟩) (meth := k1m1) (c := k1c1) (by decide +kernel) rfl rfl rfl (by decide +kernel)
set_option maxRecDepth 65536 in
theorem w_c1 : (Jvm.Cond.code ({ cls := "com/example/fondsworks/fondsworks/Part", name := "<init>", desc := "(I)V" } : Jvm.MethodName) prog_24_method_1_code (2 : Nat) (Option.none : Option Jvm.ClassFile.FieldType)).before args0 about1 = true := code_word (m := ⟨2, 0⟩) (meth := k2m0) (c := k2c0) (by decide +kernel) rfl rfl rfl (by decide +kernel)
set_option maxRecDepth 65536 in
theorem w_c2 : (Jvm.Cond.code ({ cls := "java/lang/Object", name := "<init>", desc := "()V" } : Jvm.MethodName) object_method_1_code (1 : Nat) (Option.none : Option Jvm.ClassFile.FieldType)).before args0 about1 = true := code_word (m := ⟨0, 0⟩) (meth := k0m0) (c := k0c0) (by decide +kernel) rfl rfl rfl (by decide +kernel)
set_option maxRecDepth 65536 in
theorem w_c3 : (Jvm.Cond.code ({ cls := "com/example/fondsworks/fondsworks/Part", name := "size", desc := "()I" } : Jvm.MethodName) prog_24_method_3_code (1 : Nat) (Option.some Jvm.ClassFile.FieldType.int)).before args0 about1 = true := code_word (m := ⟨2, 2⟩) (meth := k2m2) (c := k2c2) (by decide +kernel) rfl rfl rfl (by decide +kernel)
set_option maxRecDepth 65536 in
theorem w_c4 : (Jvm.Cond.code ({ cls := "com/example/fondsworks/fondsworks/Part", name := "takes", desc := "(I)Z" } : Jvm.MethodName) prog_24_method_2_code (3 : Nat) (Option.some Jvm.ClassFile.FieldType.boolean)).before args0 about1 = true := code_word (m := ⟨2, 1⟩) (meth := k2m1) (c := k2c1) (by decide +kernel) rfl rfl rfl (by decide +kernel)
def codes1 : List Jvm.Cond := [Jvm.Cond.code x code maxLocals ret, Jvm.Cond.code ({ cls := "com/example/fondsworks/fondsworks/Part", name := "<init>", desc := "(I)V" } : Jvm.MethodName) prog_24_method_1_code (2 : Nat) (Option.none : Option Jvm.ClassFile.FieldType), Jvm.Cond.code ({ cls := "java/lang/Object", name := "<init>", desc := "()V" } : Jvm.MethodName) object_method_1_code (1 : Nat) (Option.none : Option Jvm.ClassFile.FieldType), Jvm.Cond.code ({ cls := "com/example/fondsworks/fondsworks/Part", name := "size", desc := "()I" } : Jvm.MethodName) prog_24_method_3_code (1 : Nat) (Option.some Jvm.ClassFile.FieldType.int), Jvm.Cond.code ({ cls := "com/example/fondsworks/fondsworks/Part", name := "takes", desc := "(I)Z" } : Jvm.MethodName) prog_24_method_2_code (3 : Nat) (Option.some Jvm.ClassFile.FieldType.boolean)]
set_option maxRecDepth 65536 in
theorem codes_eq : words1.filter isCode = codes1 := rfl
theorem w_codes : ∀ c ∈ words1.filter isCode, c.before args0 about1 = true := by
  rw [codes_eq]
  intro c hc
  simp only [codes1, List.mem_cons, List.not_mem_nil, or_false] at hc
  rcases hc with rfl | rfl | rfl | rfl | rfl
  · exact w_c0
  · exact w_c1
  · exact w_c2
  · exact w_c3
  · exact w_c4
set_option maxRecDepth 65536 in
theorem w_t1 : (words1.take 24).all (fun c => isCode c || c.before args0 about1) = true := by decide +kernel
set_option maxRecDepth 65536 in
theorem w_t2 : (words1.drop 24).all (fun c => isCode c || c.before args0 about1) = true := by decide +kernel
theorem w_tables : (allAtoms (Jvm.Cond.code x code maxLocals ret :: tables_1)).before args0 about1 = true := by
  rw [allAtoms_all]
  show words1.all (fun c => c.before args0 about1) = true
  refine all_split ?_ w_codes
  rw [← List.take_append_drop 24 words1, List.all_append, w_t1, w_t2]
  rfl
set_option maxRecDepth 65536 in
theorem w_case : (Jvm.Cond.and given_1 narrow_1).before args0 about1 = true := by decide +kernel
theorem w_applies : (headSpec (Jvm.Cond.code x code maxLocals ret :: tables_1) room_1).applies x e0.platform about1 = true :=
  (Spec.applies_iff w_frames).mpr ⟨w_running, w_runnable, w_alone, w_named, w_hears, w_ripe, w_room, w_tables⟩
theorem atStart : AtStart classFile x code maxLocals ret World_1 tables_1 room_1 Calls_1 rest_1 Pre_1 launch0 p0 e0 about1 theMethod args0 below0 :=
  ⟨lists_1, trivial, launch0.admits_env _ _ _, launch0.least_env, fairChoices_fair.cas, fairChoices_fair.clock, w_frames, w_args, w_heap, w_applies, trivial, trivial, w_case⟩
end start1
theorem witness_1 : WitnessClaimed_1 := ⟨start1.p0, start1.e0, start1.about1, start1.theMethod, start1.args0, start1.below0, start1.atStart⟩
end Jvm.Pilot.@@N@@
