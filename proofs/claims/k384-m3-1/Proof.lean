import JvmDerived
import JvmDerived.Pilot.@@N@@Statement
import JvmDerived.Pilot.@@N@@Code
set_option linter.unusedVariables false
set_option linter.unusedSimpArgs false
namespace Jvm.RoadKit
open Sem ClassFile Op Lib Jvm.Stand Jvm.Free Jvm.LawKit
section New
variable {p : Program} {l : Launch} {e : Env} {R : Room} {s : State} {m : MethodId} {args : Array Value} {below : List Frame} {meth : Method} {c : Code} {T : State} {locs : List Loc} {cells slots : Nat}
theorem retI (X : Stand p l e R s m args below meth c T locs cells slots) (hx : p.tables.exec = Jvm.exec) {pc : Nat} {Ls : Array Slot} {z : Int32} {rest : List Value} (hret : meth.sig.returnType = some .int) (hd : decode c.code pc = .ok (.ireturn, 1)) {fs : List Frame}
    (hl : ∀ (f : JFrame) (acts : List Action), f.method = m → f.locked = none → f.entered = [] → (doReturn e (T.setTop f) acts (some (.int z))).1 = T.setFrames fs) : Steps p.tables e below (T.setTop (mkF m pc Ls (.int z :: rest))) (T.setFrames fs) := by
  have hm' : T.vm.method? m = some meth := X.method'
  have hn : narrow .int (.int z) = .int z := rfl
  show Steps p.tables e below (T.setTop { method := m, pc := pc, locals := Ls, stack := _ :: rest, locked := none }) _
  jvm_step X.here [X.here.top, hx, hd, hm', hret, hn]
  first | (intro acts; rw [hl _ acts rfl rfl rfl]) | rw [hl _ _ rfl rfl rfl]
  exact Steps.refl _
end New
end Jvm.RoadKit
namespace Jvm.Pilot.@@N@@
open Jvm Jvm.ClassFile Sem Op Lib Jvm.Free Jvm.Stand Jvm.LawKit Jvm.RoadKit Bundle Jvm.Pilot.@@N@@.Jvm.D
section OwnRun
variable {p : Program} {l : Launch} {e : Env} {R : Room} {s : State} {m : MethodId} {args : Array Value} {below : List Frame} {meth : Method} {c : Code} {T T' : State} {locs : List Loc} {cells slots : Nat} {Q : Option Value → Heap → List Loc → Prop} {C S : Nat}
/-- from T with the frame g on top the body comes to its end, and what it leaves is as Q says -/
def ORun (p : Program) (e : Env) (below : List Frame) (s : State) (Q : Option Value → Heap → List Loc → Prop) (C S : Nat) (T : State) (g : JFrame) : Prop :=
  ∃ s₂ o, Steps p.tables e below (T.setTop g) s₂ ∧ s₂.status = .running ∧ Ended s₂ below o ∧ ∃ v L, o = .returned v ∧ Q v s₂.heap L ∧ FrameEnd s o s₂ L C S
theorem own_by {g g' : JFrame} (st : ∀ t, Steps p.tables e below (T'.setTop g') t → Steps p.tables e below (T.setTop g) t) (h : ORun p e below s Q C S T' g') : ORun p e below s Q C S T g := by
  obtain ⟨s₂, o, h1, h2⟩ := h
  exact ⟨s₂, o, st _ h1, h2⟩
theorem own_tr {g g' : JFrame} (st : Steps p.tables e below (T.setTop g) (T'.setTop g')) (h : ORun p e below s Q C S T' g') : ORun p e below s Q C S T g := own_by (fun _ k => st.trans k) h
theorem own_letI (x : Int32) {f : Int32 → JFrame} (h : ∀ v, v = x → ORun p e below s Q C S T (f v)) : ORun p e below s Q C S T (f x) := h x rfl
theorem own_letJ (x : Int64) {f : Int64 → JFrame} (h : ∀ v, v = x → ORun p e below s Q C S T (f v)) : ORun p e below s Q C S T (f x) := h x rfl
theorem own_retI (X : Stand p l e R s m args below meth c T locs cells slots) (hx : p.tables.exec = Jvm.exec) {pc : Nat} {Ls : Array Slot} {z : Int32} {rest : List Value} (hret : meth.sig.returnType = some .int) (hlk : meth.locks = false) (hd : decode c.code pc = .ok (.ireturn, 1)) (hc : cells ≤ C) (hs : slots ≤ S) (hQ : Q (some (.int z)) T.heap locs) :
    ORun p e below s Q C S T (mkF m pc Ls (.int z :: rest)) := by
  obtain ⟨fs, hr, hrun, hended, hW, hsame⟩ := X.leave (v := some (.int z)) (fun h => by rw [hret] at h; cases h) hlk
  exact ⟨_, _, retI X hx hret hd hr, hrun, hended, _, _, rfl, hQ, ⟨_, rfl⟩, hW, hsame.mono hc hs⟩
theorem own_retN (X : Stand p l e R s m args below meth c T locs cells slots) (hx : p.tables.exec = Jvm.exec) {pc : Nat} {Ls : Array Slot} {z : Int32} {t : FieldType} {rest : List Value} (hret : meth.sig.returnType = some t) (ht : t = .boolean ∨ t = .byte ∨ t = .char ∨ t = .short) (hlk : meth.locks = false) (hd : decode c.code pc = .ok (.ireturn, 1)) (hc : cells ≤ C) (hs : slots ≤ S) (hQ : Q (some (.int (nar t z))) T.heap locs) :
    ORun p e below s Q C S T (mkF m pc Ls (.int z :: rest)) := by
  obtain ⟨fs, hr, hrun, hended, hW, hsame⟩ := X.leave (v := some (.int (nar t z))) (fun h => by rw [hret] at h; cases h) hlk
  exact ⟨_, _, retN X hx hret ht hd hr, hrun, hended, _, _, rfl, hQ, ⟨_, rfl⟩, hW, hsame.mono hc hs⟩
theorem own_retJ (X : Stand p l e R s m args below meth c T locs cells slots) (hx : p.tables.exec = Jvm.exec) {pc : Nat} {Ls : Array Slot} {z : Int64} (hret : meth.sig.returnType = some .long) (hlk : meth.locks = false) (hd : decode c.code pc = .ok (.lreturn, 1)) (hc : cells ≤ C) (hs : slots ≤ S) (hQ : Q (some (.long z)) T.heap locs) :
    ORun p e below s Q C S T (mkF m pc Ls [.long z]) := by
  obtain ⟨fs, hr, hrun, hended, hW, hsame⟩ := X.leave (v := some (.long z)) (fun h => by rw [hret] at h; cases h) hlk
  exact ⟨_, _, X.lreturnOut hx hret hd hr, hrun, hended, _, _, rfl, hQ, ⟨_, rfl⟩, hW, hsame.mono hc hs⟩
theorem own_retA (X : Stand p l e R s m args below meth c T locs cells slots) (hx : p.tables.exec = Jvm.exec) {pc : Nat} {Ls : Array Slot} {z : Value} {t : FieldType} {rest : List Value} (hret : meth.sig.returnType = some t) (ht : t.isReference = true) (hz : z.isRef = true) (hn : narrow t z = z) (hlk : meth.locks = false) (hd : decode c.code pc = .ok (.areturn, 1)) (hc : cells ≤ C) (hs : slots ≤ S) (hQ : Q (some z) T.heap locs) :
    ORun p e below s Q C S T (mkF m pc Ls (z :: rest)) := by
  obtain ⟨fs, hr, hrun, hended, hW, hsame⟩ := X.leave (v := some z) (fun h => by rw [hret] at h; cases h) hlk
  exact ⟨_, _, retOut X hx hret hn (Or.inr (Or.inr (Or.inr (Or.inr ⟨rfl, ht, hz⟩)))) hd hr, hrun, hended, _, _, rfl, hQ, ⟨_, rfl⟩, hW, hsame.mono hc hs⟩
theorem own_retV (X : Stand p l e R s m args below meth c T locs cells slots) (hx : p.tables.exec = Jvm.exec) {pc : Nat} {Ls : Array Slot} (hret : meth.sig.returnType = none) (hlk : meth.locks = false) (hd : decode c.code pc = .ok (.return_, 1)) (hc : cells ≤ C) (hs : slots ≤ S) (hQ : Q none T.heap locs) :
    ORun p e below s Q C S T (mkF m pc Ls []) := by
  obtain ⟨fs, hr, hrun, hended, hW, hsame⟩ := X.leave (v := none) (fun _ => rfl) hlk
  exact ⟨_, _, X.returnOut hx hret hd hr, hrun, hended, _, _, rfl, hQ, ⟨_, rfl⟩, hW, hsame.mono hc hs⟩
/-- a body's contract: called with as at the heap h (tables as at Z) it returns, and what it leaves is as Q says -/
abbrev OMet (l : Launch) (y : MethodName) (bytes : ByteArray) (maxL : Nat) (ret : Option FieldType) (ws : List Jvm.Cond) (rm : Room) (as' : Array Value) (Z : State) (h : Heap) (Q : Option Value → Heap → List Loc → Prop) : Prop :=
  MetFree l y (head1 (Jvm.Cond.code y bytes maxL ret :: ws) rm) (fun a U => a = as' ∧ Z.Warmed39 U.vm ∧ U.heap = h) (fun _ _ _ _ _ => True) (fun _ U o U' => ∃ v L, o = .returned v ∧ Q v U'.heap L ∧ FrameEnd U o U' L rm.cells rm.slots)
theorem own_met {y : MethodName} {bytes : ByteArray} {maxL : Nat} {ret : Option FieldType} {ws : List Jvm.Cond} {rm : Room} {as' : Array Value} {Z : State} {h : Heap} {Q : Option Value → Heap → List Loc → Prop} (hpn : plainFor y = true)
    (body : ∀ p e s m below meth c s₁, Stand p l e rm s m as' below meth c s₁ [] 0 0 → p.tables.exec = Jvm.exec → c.code = bytes → c.maxLocals = maxL → s.vm.findClass y.cls = some m.cls → meth.name = y.name → meth.sig.returnType = ret → meth.locks = false → Z.Warmed39 s.vm → s₁.heap = h →
      ORun p e below s Q rm.cells rm.slots s₁ (entryFrame m as' maxL)) : OMet l y bytes maxL ret ws rm as' Z h Q := by
  refine MetFree.of_bodySF hpn hisR ?_
  intro p e s m args below meth c s₁ Bd hml0 hP hK
  obtain ⟨rfl, hZ, hh⟩ := hP
  exact body p e s m below meth c s₁ (Stand.of_body Bd) Bd.exec Bd.bytes hml0 (findClass_of_methodNamed Bd.named) (name_of_methodNamed Bd.named Bd.method).1 Bd.returns Bd.notSynchronized hZ (by rw [← hh, Bd.state]; rfl)
section Calls
variable {Z : State} {a0 : Array Value} {h : Heap} {own : String} {index : Nat} {y z : MethodName} {bytes : ByteArray} {maxL : Nat} {ret : Option FieldType} {rm : Room} {as' : Array Value} {Qc : Option Value → Heap → List Loc → Prop} {W pc : Nat} {Ls : Array Slot} {st argsL rest : List Value}
theorem own_callS (X : Stand p l e R s m args below meth c T locs cells slots) (hx : p.tables.exec = Jvm.exec) (hZ : Z.Warmed39 s.vm) (hown : s.vm.findClass own = some m.cls) (w1 : (Jvm.Cond.methodLink own index y).before a0 Z = true) (w2 : (Jvm.Cond.static y).before a0 Z = true) (w3 : (Jvm.Cond.initialized y.cls).before a0 Z = true) (w4 : (Jvm.Cond.code y bytes maxL ret).before a0 Z = true)
    (hy : y.cls ≠ "java/lang/invoke/MethodHandle" ∧ y.cls ≠ "java/lang/invoke/VarHandle") (M : OMet l y bytes maxL ret [] rm as' Z h Qc) (eT : T.heap = h) (hf : rm.frames + 1 ≤ R.frames) (hl : W + (maxL + 11) + rm.locals ≤ R.locals) (hc : cells + rm.cells ≤ R.cells) (hs : slots + rm.slots ≤ R.slots)
    (hsz : Ls.size = c.maxLocals) (hlen : ∀ sig, parseMethodDescriptor y.desc = some sig → argsL.length = sig.parameters.length) (hst : st = argsL.reverse ++ rest) (has : argsL.toArray = as') (hW : 2 * 0 + (rest.map fun v => v.category).sum ≤ W) (hd : decode c.code pc = .ok (.invokestatic index, 3))
    (K : ∀ T' L v, Stand p l e R s m args below meth c T' (locs ++ L) (cells + rm.cells) (slots + rm.slots) → Qc v T'.heap L → ORun p e below s Q C S T' (mkF m (pc + 3) Ls (v.toList ++ rest))) : ORun p e below s Q C S T (mkF m pc Ls st) := by
  obtain ⟨v, _, ⟨T', L', k', n'⟩, -, X', ⟨Lc, hQ, e1, e2, e3⟩, stp⟩ := Jvm.LawKit.callS X hx (y := y) hown (mvT hZ w1) (mvT hZ w2) (mvT hZ w3) (mvT hZ w4) hy (backOf (W := W) M hZ w4 w3 hf hl) (g := mkF m pc Ls st) rfl hsz (argsL := argsL) (rest := rest) hlen hst hW hd (fun _ _ => ⟨has, eT, hc, hs⟩)
  dsimp only [Pt.U, Pt.locs, Pt.cells, Pt.slots] at X' e1 e2 e3 stp hQ
  subst e1 e2 e3
  exact own_by stp (K T' Lc v X' hQ)
theorem own_callC (X : Stand p l e R s m args below meth c T locs cells slots) (hx : p.tables.exec = Jvm.exec) (hZ : Z.Warmed39 s.vm) (hown : s.vm.findClass own = some m.cls) (hn : y.name = "<init>") (w1 : (Jvm.Cond.methodLink own index y).before a0 Z = true) (w2 : (Jvm.Cond.instanceMethod y).before a0 Z = true) (w3 : (Jvm.Cond.initialized y.cls).before a0 Z = true) (w4 : (Jvm.Cond.code y bytes maxL none).before a0 Z = true)
    (hy : y.cls ≠ "java/lang/invoke/MethodHandle" ∧ y.cls ≠ "java/lang/invoke/VarHandle") (M : OMet l y bytes maxL none [] rm as' Z h Qc) (eT : T.heap = h) (hf : rm.frames + 1 ≤ R.frames) (hl : W + (maxL + 11) + rm.locals ≤ R.locals) (hc : cells + rm.cells ≤ R.cells) (hs : slots + rm.slots ≤ R.slots)
    {b : Addr} (hsz : Ls.size = c.maxLocals) (hlen : ∀ sig, parseMethodDescriptor y.desc = some sig → argsL.length = sig.parameters.length) (hst : st = argsL.reverse ++ .ref b :: rest) (has : (.ref b :: argsL).toArray = as') (hW : 2 * 0 + (rest.map fun v => v.category).sum ≤ W) (hd : decode c.code pc = .ok (.invokespecial index, 3))
    (K : ∀ T' L v, Stand p l e R s m args below meth c T' (locs ++ L) (cells + rm.cells) (slots + rm.slots) → Qc v T'.heap L → ORun p e below s Q C S T' (mkF m (pc + 3) Ls (v.toList ++ rest))) : ORun p e below s Q C S T (mkF m pc Ls st) := by
  obtain ⟨v, _, ⟨T', L', k', n'⟩, -, X', ⟨Lc, hQ, e1, e2, e3⟩, stp⟩ := X.specialBack hx (y := y) hn hown (mvT hZ w1) (mvT hZ w2) (mvT hZ w4) hy (backOf (W := W) M hZ w4 w3 hf hl) (g := mkF m pc Ls st) rfl hsz (Steps.refl _) (a := b) (argsL := argsL) (rest := rest) hlen hst hW hd (fun _ _ => ⟨has, eT, hc, hs⟩)
  dsimp only [Pt.U, Pt.locs, Pt.cells, Pt.slots] at X' e1 e2 e3 stp hQ
  subst e1 e2 e3
  exact own_tr stp (K T' Lc v X' hQ)
theorem own_callV (X : Stand p l e R s m args below meth c T locs cells slots) (hx : p.tables.exec = Jvm.exec) (hZ : Z.Warmed39 s.vm) (hown : s.vm.findClass own = some m.cls) {Cn : String} {b : Addr} (E : Exa Z h b Cn) (w1 : (Jvm.Cond.methodLink own index y).before a0 Z = true) (wd : (Jvm.Cond.declares y).before a0 Z = true) (nf : NotFace s y) (ws : (Jvm.Cond.selects Cn y z).before a0 Z = true) (w2 : (Jvm.Cond.instanceMethod z).before a0 Z = true) (w3 : (Jvm.Cond.initialized z.cls).before a0 Z = true) (w4 : (Jvm.Cond.code z bytes maxL ret).before a0 Z = true)
    (hy : y.cls ≠ "java/lang/invoke/MethodHandle" ∧ y.cls ≠ "java/lang/invoke/VarHandle") (M : OMet l z bytes maxL ret [] rm as' Z h Qc) (eT : T.heap = h) (hf : rm.frames + 1 ≤ R.frames) (hl : W + (maxL + 11) + rm.locals ≤ R.locals) (hc : cells + rm.cells ≤ R.cells) (hs : slots + rm.slots ≤ R.slots)
    (hsz : Ls.size = c.maxLocals) (hlen : ∀ sig, parseMethodDescriptor y.desc = some sig → argsL.length = sig.parameters.length) (hst : st = argsL.reverse ++ .ref b :: rest) (has : (.ref b :: argsL).toArray = as') (hW : 2 * 0 + (rest.map fun v => v.category).sum ≤ W) (hd : decode c.code pc = .ok (.invokevirtual index, 3))
    (K : ∀ T' L v, Stand p l e R s m args below meth c T' (locs ++ L) (cells + rm.cells) (slots + rm.slots) → Qc v T'.heap L → ORun p e below s Q C S T' (mkF m (pc + 3) Ls (v.toList ++ rest))) : ORun p e below s Q C S T (mkF m pc Ls st) := by
  obtain ⟨cq, kq, qa, qb, qc⟩ := isOf hZ eT E
  obtain ⟨v, _, ⟨T', L', k', n'⟩, -, X', ⟨Lc, hQ, e1, e2, e3⟩, stp⟩ := X.virtualBack hx (y := y) (z := z) hown (mvT hZ w1) (mvT hZ wd) nf (mvT hZ ws) (mvT hZ w2) hy (backOf (W := W) M hZ w4 w3 hf hl) qa qc (g := mkF m pc Ls st) rfl hsz (Steps.refl _) (argsL := argsL) (rest := rest) hlen hst hW hd (fun _ _ => ⟨has, eT, hc, hs⟩)
  dsimp only [Pt.U, Pt.locs, Pt.cells, Pt.slots] at X' e1 e2 e3 stp hQ
  subst e1 e2 e3
  exact own_tr stp (K T' Lc v X' hQ)
end Calls
end OwnRun
theorem own_lt {x y : Int32} {a b : Int} (h : x < y) (ha : x.toInt = a) (hb : y.toInt = b) : a < b := by subst ha hb; exact Int32.lt_iff_toInt_lt.mp h
theorem own_nlt {x y : Int32} {a b : Int} (h : ¬ x < y) (ha : x.toInt = a) (hb : y.toInt = b) : b ≤ a := by subst ha hb; exact Int.not_lt.mp fun q => h (Int32.lt_iff_toInt_lt.mpr q)
theorem own_eq {x y : Int32} {a b : Int} (h : x = y) (ha : x.toInt = a) (hb : y.toInt = b) : a = b := by subst ha hb h; rfl
theorem own_ne {x y : Int32} {a b : Int} (h : ¬ x = y) (ha : x.toInt = a) (hb : y.toInt = b) : a ≠ b := by subst ha hb; exact fun q => h (Int32.toInt_inj.mp q)
theorem own_ltL {x y : Int64} {a b : Int} (h : x < y) (ha : x.toInt = a) (hb : y.toInt = b) : a < b := by subst ha hb; exact Int64.lt_iff_toInt_lt.mp h
theorem own_nltL {x y : Int64} {a b : Int} (h : ¬ x < y) (ha : x.toInt = a) (hb : y.toInt = b) : b ≤ a := by subst ha hb; exact Int.not_lt.mp fun q => h (Int64.lt_iff_toInt_lt.mpr q)
theorem own_eqL {x y : Int64} {a b : Int} (h : x = y) (ha : x.toInt = a) (hb : y.toInt = b) : a = b := by subst ha hb h; rfl
theorem own_neL {x y : Int64} {a b : Int} (h : ¬ x = y) (ha : x.toInt = a) (hb : y.toInt = b) : a ≠ b := by subst ha hb; exact fun q => h (Int64.toInt_inj.mp q)
theorem own_lc {cd : ClassFile.Cond} {x y : Int64} {b : Bool} (h : if_icmp.holds cd (lcmpW x y) 0 = b) : ifCond.holds cd (lcmpW x y) = b := (if0 _ _).trans h
theorem own_lclt {x y : Int64} (h : x < y) : ifCond.holds .lt (lcmpW x y) = true ∧ ifCond.holds .ge (lcmpW x y) = false := ⟨own_lc (tlt ((lw_lt x y).mpr h)).1, own_lc (tlt ((lw_lt x y).mpr h)).2.1⟩
theorem own_lcnlt {x y : Int64} (h : ¬ x < y) : ifCond.holds .lt (lcmpW x y) = false ∧ ifCond.holds .ge (lcmpW x y) = true := have q : ¬ lcmpW x y < 0 := fun z => h ((lw_lt x y).mp z); ⟨own_lc (flt q).1, own_lc (flt q).2.1⟩
theorem own_lcgt {x y : Int64} (h : y < x) : ifCond.holds .gt (lcmpW x y) = true ∧ ifCond.holds .le (lcmpW x y) = false := ⟨own_lc (tlt ((lw_gt x y).mpr h)).2.2.1, own_lc (tlt ((lw_gt x y).mpr h)).2.2.2⟩
theorem own_lcngt {x y : Int64} (h : ¬ y < x) : ifCond.holds .gt (lcmpW x y) = false ∧ ifCond.holds .le (lcmpW x y) = true := have q : ¬ 0 < lcmpW x y := fun z => h ((lw_gt x y).mp z); ⟨own_lc (flt q).2.2.1, own_lc (flt q).2.2.2⟩
theorem own_lceq {x y : Int64} (h : x = y) : ifCond.holds .eq (lcmpW x y) = true ∧ ifCond.holds .ne (lcmpW x y) = false := ⟨own_lc (teq ((lw_eq x y).mpr h)).1, own_lc (teq ((lw_eq x y).mpr h)).2⟩
theorem own_lcne {x y : Int64} (h : ¬ x = y) : ifCond.holds .eq (lcmpW x y) = false ∧ ifCond.holds .ne (lcmpW x y) = true := have q : ¬ lcmpW x y = 0 := fun z => h ((lw_eq x y).mp z); ⟨own_lc (feq q).1, own_lc (feq q).2⟩
theorem own_kext {h0 h : Heap} (K : Keep h0 h []) : Ext h0 h := ⟨K.1, fun a c q => K.2.1 a c q nin0⟩
/-- what a case's word on an array's length says -/
theorem own_arrlen {args : Array Value} {s : State} {t : Term} {a : Addr} {cl : Cell} {ty : FieldType} {n : Int32} (ht : t.eval args s none [] s = some (.ref a)) (A : Arr s s.heap a cl ty) (h : (Jvm.Cond.eq (Term.length t) (Term.int n)).value args s none s [] = some true) : (cl.slots.size : Int) = n.toInt := by
  obtain ⟨x, y, ex, ey, k1, k2⟩ := cmp_v (Or.inl h)
  obtain rfl : y = .int n := (Option.some.inj ((Term.int_eval n).symm.trans ey)).symm
  obtain ⟨a', cell, ha', hat, hv, hs⟩ := Jvm.Free.SB.Term.length_small ex
  cases ht.symm.trans ha'
  cases A.1.symm.trans (State.arrayAt?_spec hat).1
  subst hv
  have q : cl.slots.size.toInt32 = n := gotT (Cond.eq_ints ex ey) h
  rw [← q, len_toInt hs]
theorem pd_0 : parseMethodDescriptor "()[Lcom/example/diligent_bench/diligentbench/Version;" = some ⟨[], some (.array (.object "com/example/diligent_bench/diligentbench/Version"))⟩ := by decide +kernel
theorem pd_1 : parseMethodDescriptor "()J" = some ⟨[], some .long⟩ := by decide +kernel
theorem pd_2 : parseMethodDescriptor "(J)Lcom/example/diligent_bench/diligentbench/Version;" = some ⟨[.long], some (.object "com/example/diligent_bench/diligentbench/Version")⟩ := by decide +kernel
theorem d1_0 : decode prog_26_method_4_code 0 = .ok (.aload_n 0, 1) := by decide +kernel
theorem d1_1 : decode prog_26_method_4_code 1 = .ok (.getfield 26, 3) := by decide +kernel
theorem d1_4 : decode prog_26_method_4_code 4 = .ok (.lreturn, 1) := by decide +kernel
theorem pn_rm1 : plainName "com/example/diligent_bench/diligentbench/Version" = true := by first | (simp [plainName, overriddenIn]; done) | decide +kernel
theorem ef_rm1 (m : MethodId) (x0 : Addr) : entryFrame m #[(.ref x0)] 1 = mkF m 0 #[.val (.ref x0)] [] := by first | (simp [entryFrame, mkF, argsToLocals, Value.category]; done) | rfl
set_option maxRecDepth 65536 in
set_option maxHeartbeats 40000000 in
theorem rm1 (l : Launch) (Z : State) (a0 : Array Value) (hw : ∀ d ∈ tables_1, d.before a0 Z = true) (ws : List Jvm.Cond) (h0 : Heap) (n0 : Nat) (Z0 : n0 ≤ h0.size) (d1 : Addr) (Fn : Fld Z h0 d1 "com/example/diligent_bench/diligentbench/Version" "number" "J" (.long (4278190094 : Int64))) :
    OMet l (⟨"com/example/diligent_bench/diligentbench/Version", "number", "()J"⟩ : MethodName) prog_26_method_4_code 1 (some .long) ws ({ frames := 0, cells := 0, slots := 0, locals := 0 } : Room) #[(.ref d1)] Z h0 (fun v h L => v = some (.long (4278190094 : Int64)) ∧ Fr n0 L ∧ h = h0) := by
  refine own_met (plainFor_of_name pn_rm1) ?_
  intro p e s m below meth c s₁ X0 hx hby hml hown hnm hret hlk hZ e0
  rw [ef_rm1]
  have N0 := Fr.nil n0
  show ORun p e below s _ _ _ s₁ (mkF m 0 #[.val (.ref d1)] [])
  refine own_by (fun t k => XS.aloadN X0.here hx rfl (hb hby d1_0) rfl rfl k) ?_
  show ORun p e below s _ _ _ s₁ (mkF m 1 #[.val (.ref d1)] [(.ref d1)])
  obtain ⟨T1, X1, e1, st1⟩ := getF X0 hx hZ hown (host := "") (Or.inl (hw _ (List.mem_of_getElem? (i := 8) rfl))) Via.refl e0 Fn (g := (mkF m 1 #[.val (.ref d1)] [(.ref d1)])) rfl rfl (hb hby d1_1)
  refine own_by st1 ?_
  show ORun p e below s _ _ _ T1 (mkF m 4 #[.val (.ref d1)] [(.long (4278190094 : Int64))])
  refine own_retJ X1 hx hret hlk (hb hby d1_4) (by decide) (by decide) ?_
  exact ⟨rfl, N0, e1⟩
theorem d3_0 : decode prog_26_method_1_code 0 = .ok (.getstatic 7, 3) := by decide +kernel
theorem d3_3 : decode prog_26_method_1_code 3 = .ok (.invokevirtual 11, 3) := by decide +kernel
theorem d3_6 : decode prog_26_method_1_code 6 = .ok (.checkcast 12, 3) := by decide +kernel
theorem d3_9 : decode prog_26_method_1_code 9 = .ok (.areturn, 1) := by decide +kernel
theorem pn_rm3 : plainName "com/example/diligent_bench/diligentbench/Version" = true := by first | (simp [plainName, overriddenIn]; done) | decide +kernel
theorem ef_rm3 (m : MethodId)  : entryFrame m #[] 0 = mkF m 0 #[] [] := by first | (simp [entryFrame, mkF, argsToLocals, Value.category]; done) | rfl
set_option maxRecDepth 65536 in
set_option maxHeartbeats 40000000 in
theorem rm3 (l : Launch) (Z : State) (a0 : Array Value) (hw : ∀ d ∈ tables_1, d.before a0 Z = true) (ws : List Jvm.Cond) (h0 : Heap) (n0 : Nat) (Z0 : n0 ≤ h0.size) (d1 d2 : Addr) (cl : Cell) (Sv : Sta Z h0 "com/example/diligent_bench/diligentbench/Version" "$VALUES" "[Lcom/example/diligent_bench/diligentbench/Version;" (.ref d2)) (Av : Arr Z h0 d2 cl (.object "com/example/diligent_bench/diligentbench/Version")) (Ev : Exa Z h0 d2 "[Lcom/example/diligent_bench/diligentbench/Version;") (Fc : FitC Z cl) (hsl : cl.slots = #[.ref d1]) :
    OMet l (⟨"com/example/diligent_bench/diligentbench/Version", "values", "()[Lcom/example/diligent_bench/diligentbench/Version;"⟩ : MethodName) prog_26_method_1_code 0 (some (.array (.object "com/example/diligent_bench/diligentbench/Version"))) ws ({ frames := 1, cells := 1, slots := 1, locals := 14 } : Room) #[] Z h0 (fun v h L => ∃ (b : Addr) (cb : Cell), v = some (.ref b) ∧ Fr n0 L ∧ Ext h0 h ∧ Arr Z h b cb (.object "com/example/diligent_bench/diligentbench/Version") ∧ cb.slots = #[.ref d1]) := by
  refine own_met (plainFor_of_name pn_rm3) ?_
  intro p e s m below meth c s₁ X0 hx hby hml hown hnm hret hlk hZ e0
  rw [ef_rm3]
  have N0 := Fr.nil n0
  show ORun p e below s _ _ _ s₁ (mkF m 0 #[] [])
  obtain ⟨T1, X1, e1, st1⟩ := getS2 X0 hx hZ hown (host := "") (Or.inl (hw _ (List.mem_of_getElem? (i := 17) rfl))) Via.refl e0 Sv (g := (mkF m 0 #[] [])) rfl (hb hby d3_0)
  refine own_by st1 ?_
  show ORun p e below s _ _ _ T1 (mkF m 3 #[] [(.ref d2)])
  obtain ⟨T2, h2, X2, e2, E2, A2, Ex2, st2⟩ := cloneA X1 hx hZ hown (hw _ (List.mem_of_getElem? (i := 19) rfl)) (hw _ (List.mem_of_getElem? (i := 20) rfl)) (hw _ (List.mem_of_getElem? (i := 24) rfl)) (hw _ (List.mem_of_getElem? (i := 22) rfl)) (hw _ (List.mem_of_getElem? (i := 23) rfl)) (hw _ (List.mem_of_getElem? (i := 25) rfl)) e1 Av Ev Fc (g := (mkF m 3 #[] [(.ref d2)])) rfl (by rw [hml]; rfl) rfl (hb hby d3_3) (by decide) (W := 0) (cap := 1) (Nat.le_of_eq rfl) (by decide) (by rw [hsl]; exact Nat.le_refl _) (by decide) (by decide)
  obtain ⟨b2, g2⟩ : ∃ z, z = h0.size := ⟨_, rfl⟩
  rw [← g2] at A2 Ex2 st2
  refine own_by st2 ?_
  show ORun p e below s _ _ _ T2 (mkF m 6 #[] [(.ref b2)])
  obtain ⟨T3, X3, e3, st3⟩ := castY X2 hx hZ hown (hw _ (List.mem_of_getElem? (i := 27) rfl)) e2 (Ins.self Ex2) (g := (mkF m 6 #[] [(.ref b2)])) rfl rfl (hb hby d3_6)
  refine own_by st3 ?_
  show ORun p e below s _ _ _ T3 (mkF m 9 #[] [(.ref b2)])
  refine own_retA X3 hx hret rfl rfl rfl hlk (hb hby d3_9) (by decide) (by decide) ?_
  rw [e3]
  exact ⟨b2, _, rfl, N0, E2, A2, hsl⟩
theorem d2_0 : decode prog_26_method_7_code 0 = .ok (.invokestatic 47, 3) := by decide +kernel
theorem d2_3 : decode prog_26_method_7_code 3 = .ok (.astore_n 2, 1) := by decide +kernel
theorem d2_4 : decode prog_26_method_7_code 4 = .ok (.aload_n 2, 1) := by decide +kernel
theorem d2_5 : decode prog_26_method_7_code 5 = .ok (.arraylength, 1) := by decide +kernel
theorem d2_6 : decode prog_26_method_7_code 6 = .ok (.istore_n 3, 1) := by decide +kernel
theorem d2_7 : decode prog_26_method_7_code 7 = .ok (.iconst 0, 1) := by decide +kernel
theorem d2_8 : decode prog_26_method_7_code 8 = .ok (.istore 4, 2) := by decide +kernel
theorem d2_10 : decode prog_26_method_7_code 10 = .ok (.iload 4, 2) := by decide +kernel
theorem d2_12 : decode prog_26_method_7_code 12 = .ok (.iload_n 3, 1) := by decide +kernel
theorem d2_13 : decode prog_26_method_7_code 13 = .ok (.if_icmp .ge 28, 3) := by decide +kernel
theorem d2_16 : decode prog_26_method_7_code 16 = .ok (.aload_n 2, 1) := by decide +kernel
theorem d2_17 : decode prog_26_method_7_code 17 = .ok (.iload 4, 2) := by decide +kernel
theorem d2_19 : decode prog_26_method_7_code 19 = .ok (.aaload, 1) := by decide +kernel
theorem d2_20 : decode prog_26_method_7_code 20 = .ok (.astore 5, 2) := by decide +kernel
theorem d2_22 : decode prog_26_method_7_code 22 = .ok (.aload 5, 2) := by decide +kernel
theorem d2_24 : decode prog_26_method_7_code 24 = .ok (.getfield 26, 3) := by decide +kernel
theorem d2_27 : decode prog_26_method_7_code 27 = .ok (.lload_n 0, 1) := by decide +kernel
theorem d2_28 : decode prog_26_method_7_code 28 = .ok (.lcmp, 1) := by decide +kernel
theorem d2_29 : decode prog_26_method_7_code 29 = .ok (.ifCond .ne 6, 3) := by decide +kernel
theorem d2_32 : decode prog_26_method_7_code 32 = .ok (.aload 5, 2) := by decide +kernel
theorem d2_34 : decode prog_26_method_7_code 34 = .ok (.areturn, 1) := by decide +kernel
theorem d2_35 : decode prog_26_method_7_code 35 = .ok (.iinc 4 1, 3) := by decide +kernel
theorem d2_38 : decode prog_26_method_7_code 38 = .ok (.goto (-28), 3) := by decide +kernel
theorem d2_41 : decode prog_26_method_7_code 41 = .ok (.aconst_null, 1) := by decide +kernel
theorem d2_42 : decode prog_26_method_7_code 42 = .ok (.areturn, 1) := by decide +kernel
theorem pn_rm2 : plainName "com/example/diligent_bench/diligentbench/Version" = true := by first | (simp [plainName, overriddenIn]; done) | decide +kernel
theorem ef_rm2 (m : MethodId) (x0 : Int64) : entryFrame m #[(.long x0)] 6 = mkF m 0 #[.val (.long x0), .second, .unset, .unset, .unset, .unset] [] := by first | (simp [entryFrame, mkF, argsToLocals, Value.category]; done) | rfl
set_option maxRecDepth 65536 in
set_option maxHeartbeats 40000000 in
theorem rm2 (l : Launch) (Z : State) (a0 : Array Value) (hw : ∀ d ∈ tables_1, d.before a0 Z = true) (ws : List Jvm.Cond) (h0 : Heap) (n0 : Nat) (Z0 : n0 ≤ h0.size) (q1 : Int64) (d1 d2 : Addr) (cl : Cell) (Fn : Fld Z h0 d1 "com/example/diligent_bench/diligentbench/Version" "number" "J" (.long (4278190094 : Int64))) (Sv : Sta Z h0 "com/example/diligent_bench/diligentbench/Version" "$VALUES" "[Lcom/example/diligent_bench/diligentbench/Version;" (.ref d2)) (Av : Arr Z h0 d2 cl (.object "com/example/diligent_bench/diligentbench/Version")) (Ev : Exa Z h0 d2 "[Lcom/example/diligent_bench/diligentbench/Version;") (Fc : FitC Z cl) (hsl : cl.slots = #[.ref d1]) :
    OMet l (⟨"com/example/diligent_bench/diligentbench/Version", "of", "(J)Lcom/example/diligent_bench/diligentbench/Version;"⟩ : MethodName) prog_26_method_7_code 6 (some (.object "com/example/diligent_bench/diligentbench/Version")) ws ({ frames := 2, cells := 1, slots := 1, locals := 26 } : Room) #[(.long q1)] Z h0 (fun v h L => Fr n0 L ∧ Ext h0 h ∧ ((v = some (.ref d1) ∧ q1.toInt = 4278190094) ∨ (v = some .null ∧ q1.toInt ≠ 4278190094))) := by
  refine own_met (plainFor_of_name pn_rm2) ?_
  intro p e s m below meth c s₁ X0 hx hby hml hown hnm hret hlk hZ e0
  rw [ef_rm2]
  have N0 := Fr.nil n0
  have rg_q1 := rng64 q1
  show ORun p e below s _ _ _ s₁ (mkF m 0 #[.val (.long q1), .second, .unset, .unset, .unset, .unset] [])
  refine own_callS X0 hx hZ hown (hw _ (List.mem_of_getElem? (i := 14) rfl)) (hw _ (List.mem_of_getElem? (i := 15) rfl)) (hw _ (List.mem_of_getElem? (i := 1) rfl)) (hw _ (List.mem_of_getElem? (i := 16) rfl)) (by decide) (rm3 l Z a0 hw [] h0 n0 Z0 d1 d2 cl Sv Av Ev Fc hsl) e0 (by decide) (W := 0) (by decide) (by decide) (by decide) (argsL := []) (rest := []) (by rw [hml]; rfl) (lenOf pd_0 rfl) rfl rfl (Nat.le_of_eq rfl) (hb hby d2_0) ?_
  intro T1 L1 u1 X1 hQ1
  obtain ⟨b1, cb, rfl, Nq1, E1, Ab, hcb⟩ := hQ1
  have N1 := Fr.app N0 Nq1
  show ORun p e below s _ _ _ T1 (mkF m 3 #[.val (.long q1), .second, .unset, .unset, .unset, .unset] [(.ref b1)])
  refine own_by (fun t k => XS.astoreN X1.here hx rfl (hb hby d2_3) rfl rfl (l' := #[.val (.long q1), .second, .val (.ref b1), .unset, .unset, .unset]) rfl k) ?_
  show ORun p e below s _ _ _ T1 (mkF m 4 #[.val (.long q1), .second, .val (.ref b1), .unset, .unset, .unset] [])
  refine own_by (fun t k => XS.aloadN X1.here hx rfl (hb hby d2_4) rfl rfl k) ?_
  show ORun p e below s _ _ _ T1 (mkF m 5 #[.val (.long q1), .second, .val (.ref b1), .unset, .unset, .unset] [(.ref b1)])
  refine own_by (fun t k => X1.arraylength hx (by exact Ab.1) (State.isArrayOf_alike hZ.alike Ab.2.1) (g := (mkF m 5 #[.val (.long q1), .second, .val (.ref b1), .unset, .unset, .unset] [(.ref b1)])) rfl rfl (hb hby d2_5) _ k) ?_
  rw [hcb]
  show ORun p e below s _ _ _ T1 (mkF m 6 #[.val (.long q1), .second, .val (.ref b1), .unset, .unset, .unset] [(.int (1 : Int32))])
  refine own_by (fun t k => XS.istoreN X1.here hx rfl (hb hby d2_6) rfl (l' := #[.val (.long q1), .second, .val (.ref b1), .val (.int (1 : Int32)), .unset, .unset]) rfl k) ?_
  show ORun p e below s _ _ _ T1 (mkF m 7 #[.val (.long q1), .second, .val (.ref b1), .val (.int (1 : Int32)), .unset, .unset] [])
  refine own_by (fun t k => XS.iconst X1.here hx rfl (hb hby d2_7) k) ?_
  show ORun p e below s _ _ _ T1 (mkF m 8 #[.val (.long q1), .second, .val (.ref b1), .val (.int (1 : Int32)), .unset, .unset] [(.int (0 : Int32))])
  refine own_by (fun t k => XS.istore X1.here hx rfl (hb hby d2_8) rfl (l' := #[.val (.long q1), .second, .val (.ref b1), .val (.int (1 : Int32)), .val (.int (0 : Int32)), .unset]) rfl k) ?_
  show ORun p e below s _ _ _ T1 (mkF m 10 #[.val (.long q1), .second, .val (.ref b1), .val (.int (1 : Int32)), .val (.int (0 : Int32)), .unset] [])
  refine own_by (fun t k => XS.iload X1.here hx rfl (hb hby d2_10) rfl k) ?_
  show ORun p e below s _ _ _ T1 (mkF m 12 #[.val (.long q1), .second, .val (.ref b1), .val (.int (1 : Int32)), .val (.int (0 : Int32)), .unset] [(.int (0 : Int32))])
  refine own_by (fun t k => XS.iloadN X1.here hx rfl (hb hby d2_12) rfl k) ?_
  show ORun p e below s _ _ _ T1 (mkF m 13 #[.val (.long q1), .second, .val (.ref b1), .val (.int (1 : Int32)), .val (.int (0 : Int32)), .unset] [(.int (1 : Int32)), (.int (0 : Int32))])
  refine own_by (fun t k => XS.icmpNo X1.here hx rfl (hb hby d2_13) rfl (tlt (by decide)).2.1 k) ?_
  show ORun p e below s _ _ _ T1 (mkF m 16 #[.val (.long q1), .second, .val (.ref b1), .val (.int (1 : Int32)), .val (.int (0 : Int32)), .unset] [])
  refine own_by (fun t k => XS.aloadN X1.here hx rfl (hb hby d2_16) rfl rfl k) ?_
  show ORun p e below s _ _ _ T1 (mkF m 17 #[.val (.long q1), .second, .val (.ref b1), .val (.int (1 : Int32)), .val (.int (0 : Int32)), .unset] [(.ref b1)])
  refine own_by (fun t k => XS.iload X1.here hx rfl (hb hby d2_17) rfl k) ?_
  show ORun p e below s _ _ _ T1 (mkF m 19 #[.val (.long q1), .second, .val (.ref b1), .val (.int (1 : Int32)), .val (.int (0 : Int32)), .unset] [(.int (0 : Int32)), (.ref b1)])
  refine own_by (fun t k => X1.aaload hx (j := (0 : Int32)) (v := .ref d1) (by exact Ab.1) (State.isArrayOf_alike hZ.alike Ab.2.1) rfl Ab.2.2 (by rw [hcb]; show ¬ ((0 : Int32) < 0 ∨ 1 ≤ 0); decide) (by rw [hcb]; rfl) (g := (mkF m 19 #[.val (.long q1), .second, .val (.ref b1), .val (.int (1 : Int32)), .val (.int (0 : Int32)), .unset] [(.int (0 : Int32)), (.ref b1)])) rfl rfl (hb hby d2_19) _ k) ?_
  show ORun p e below s _ _ _ T1 (mkF m 20 #[.val (.long q1), .second, .val (.ref b1), .val (.int (1 : Int32)), .val (.int (0 : Int32)), .unset] [(.ref d1)])
  refine own_by (fun t k => XS.astore X1.here hx rfl (hb hby d2_20) rfl rfl (l' := #[.val (.long q1), .second, .val (.ref b1), .val (.int (1 : Int32)), .val (.int (0 : Int32)), .val (.ref d1)]) rfl k) ?_
  show ORun p e below s _ _ _ T1 (mkF m 22 #[.val (.long q1), .second, .val (.ref b1), .val (.int (1 : Int32)), .val (.int (0 : Int32)), .val (.ref d1)] [])
  refine own_by (fun t k => XS.aload X1.here hx rfl (hb hby d2_22) rfl rfl k) ?_
  show ORun p e below s _ _ _ T1 (mkF m 24 #[.val (.long q1), .second, .val (.ref b1), .val (.int (1 : Int32)), .val (.int (0 : Int32)), .val (.ref d1)] [(.ref d1)])
  obtain ⟨T2, X2, e2, st2⟩ := getF X1 hx hZ hown (host := "") (Or.inl (hw _ (List.mem_of_getElem? (i := 8) rfl))) Via.refl rfl (Fn.ext E1) (g := (mkF m 24 #[.val (.long q1), .second, .val (.ref b1), .val (.int (1 : Int32)), .val (.int (0 : Int32)), .val (.ref d1)] [(.ref d1)])) rfl rfl (hb hby d2_24)
  refine own_by st2 ?_
  show ORun p e below s _ _ _ T2 (mkF m 27 #[.val (.long q1), .second, .val (.ref b1), .val (.int (1 : Int32)), .val (.int (0 : Int32)), .val (.ref d1)] [(.long (4278190094 : Int64))])
  refine own_by (fun t k => XS.lloadN X2.here hx rfl (hb hby d2_27) rfl k) ?_
  show ORun p e below s _ _ _ T2 (mkF m 28 #[.val (.long q1), .second, .val (.ref b1), .val (.int (1 : Int32)), .val (.int (0 : Int32)), .val (.ref d1)] [(.long q1), (.long (4278190094 : Int64))])
  refine own_by (fun t k => XS.lcmp X2.here hx rfl (hb hby d2_28) rfl k) ?_
  show ORun p e below s _ _ _ T2 (mkF m 29 #[.val (.long q1), .second, .val (.ref b1), .val (.int (1 : Int32)), .val (.int (0 : Int32)), .val (.ref d1)] [(.int (lcmpW (4278190094 : Int64) q1))])
  by_cases hc3 : (4278190094 : Int64) = q1
  · have t3 := own_eqL hc3 (a := 4278190094) (b := q1.toInt) (by decide) rfl
    refine own_by (fun t k => XS.ifNo X2.here hx rfl (hb hby d2_29) rfl (own_lceq hc3).2 k) ?_
    show ORun p e below s _ _ _ T2 (mkF m 32 #[.val (.long q1), .second, .val (.ref b1), .val (.int (1 : Int32)), .val (.int (0 : Int32)), .val (.ref d1)] [])
    refine own_by (fun t k => XS.aload X2.here hx rfl (hb hby d2_32) rfl rfl k) ?_
    show ORun p e below s _ _ _ T2 (mkF m 34 #[.val (.long q1), .second, .val (.ref b1), .val (.int (1 : Int32)), .val (.int (0 : Int32)), .val (.ref d1)] [(.ref d1)])
    refine own_retA X2 hx hret rfl rfl rfl hlk (hb hby d2_34) (by decide) (by decide) ?_
    rw [e2]
    exact ⟨N1, E1, Or.inl ⟨rfl, by omega⟩⟩
  · have t3 := own_neL hc3 (a := 4278190094) (b := q1.toInt) (by decide) rfl
    refine own_by (fun t k => XS.ifYes X2.here hx rfl (pc0 := 29) (pc' := 35) rfl (hb hby d2_29) rfl (own_lcne hc3).2 (by decide) (by decide) k) ?_
    show ORun p e below s _ _ _ T2 (mkF m 35 #[.val (.long q1), .second, .val (.ref b1), .val (.int (1 : Int32)), .val (.int (0 : Int32)), .val (.ref d1)] [])
    refine own_by (fun t k => XS.iinc X2.here hx rfl (hb hby d2_35) rfl (l' := #[.val (.long q1), .second, .val (.ref b1), .val (.int (1 : Int32)), .val (.int (1 : Int32)), .val (.ref d1)]) rfl k) ?_
    show ORun p e below s _ _ _ T2 (mkF m 38 #[.val (.long q1), .second, .val (.ref b1), .val (.int (1 : Int32)), .val (.int (1 : Int32)), .val (.ref d1)] [])
    refine own_by (fun t k => XS.goto X2.here hx rfl (pc0 := 38) (pc' := 10) rfl (hb hby d2_38) (by decide) (by decide) k) ?_
    show ORun p e below s _ _ _ T2 (mkF m 10 #[.val (.long q1), .second, .val (.ref b1), .val (.int (1 : Int32)), .val (.int (1 : Int32)), .val (.ref d1)] [])
    refine own_by (fun t k => XS.iload X2.here hx rfl (hb hby d2_10) rfl k) ?_
    show ORun p e below s _ _ _ T2 (mkF m 12 #[.val (.long q1), .second, .val (.ref b1), .val (.int (1 : Int32)), .val (.int (1 : Int32)), .val (.ref d1)] [(.int (1 : Int32))])
    refine own_by (fun t k => XS.iloadN X2.here hx rfl (hb hby d2_12) rfl k) ?_
    show ORun p e below s _ _ _ T2 (mkF m 13 #[.val (.long q1), .second, .val (.ref b1), .val (.int (1 : Int32)), .val (.int (1 : Int32)), .val (.ref d1)] [(.int (1 : Int32)), (.int (1 : Int32))])
    refine own_by (fun t k => XS.icmpYes X2.here hx rfl (pc0 := 13) (pc' := 41) rfl (hb hby d2_13) rfl (flt (by decide)).2.1 (by decide) (by decide) k) ?_
    show ORun p e below s _ _ _ T2 (mkF m 41 #[.val (.long q1), .second, .val (.ref b1), .val (.int (1 : Int32)), .val (.int (1 : Int32)), .val (.ref d1)] [])
    refine own_by (fun t k => XS.aconstNull X2.here hx rfl (hb hby d2_41) k) ?_
    show ORun p e below s _ _ _ T2 (mkF m 42 #[.val (.long q1), .second, .val (.ref b1), .val (.int (1 : Int32)), .val (.int (1 : Int32)), .val (.ref d1)] [.null])
    refine own_retA X2 hx hret rfl rfl rfl hlk (hb hby d2_42) (by decide) (by decide) ?_
    rw [e2]
    exact ⟨N1, E1, Or.inr ⟨rfl, by omega⟩⟩
theorem pn_rm0 : plainName "com/example/diligent_bench/diligentbench/VersionOfPinLaw" = true := by first | (simp [plainName, overriddenIn]; done) | decide +kernel
theorem ef_rm0 (m : MethodId) (x0 : Int64) (x1 : Int32) : entryFrame m #[(.long x0), (.int x1)] maxLocals = mkF m 0 #[.val (.long x0), .second, .val (.int x1), .unset, .unset, .unset, .unset, .unset, .unset, .unset] [] := by first | (simp [entryFrame, mkF, argsToLocals, Value.category, maxLocals]; done) | rfl
set_option maxRecDepth 65536 in
set_option maxHeartbeats 40000000 in
theorem rm0 (l : Launch) (Z : State) (a0 : Array Value) (hw : ∀ d ∈ tables_1, d.before a0 Z = true) (ws : List Jvm.Cond) (h0 : Heap) (n0 : Nat) (Z0 : n0 ≤ h0.size) (p1 : Int64) (p2 : Int32) (d1 d2 : Addr) (cl : Cell) (Ed : Exa Z h0 d1 "com/example/diligent_bench/diligentbench/Version") (Fn : Fld Z h0 d1 "com/example/diligent_bench/diligentbench/Version" "number" "J" (.long (4278190094 : Int64))) (Sd : Sta Z h0 "com/example/diligent_bench/diligentbench/Version" "DRAFT_14" "Lcom/example/diligent_bench/diligentbench/Version;" (.ref d1)) (Sv : Sta Z h0 "com/example/diligent_bench/diligentbench/Version" "$VALUES" "[Lcom/example/diligent_bench/diligentbench/Version;" (.ref d2)) (Av : Arr Z h0 d2 cl (.object "com/example/diligent_bench/diligentbench/Version")) (Ev : Exa Z h0 d2 "[Lcom/example/diligent_bench/diligentbench/Version;") (Fc : FitC Z cl) (hsl : cl.slots = #[.ref d1]) :
    OMet l x code maxLocals ret ws room_1 #[(.long p1), (.int p2)] Z h0 (fun v h L => v = some (.int 1) ∧ Fr n0 L) := by
  refine own_met (plainFor_of_name pn_rm0) ?_
  intro p e s m below meth c s₁ X0 hx hby hml hown hnm hret hlk hZ e0
  rw [ef_rm0]
  have N0 := Fr.nil n0
  have rg_p1 := rng64 p1
  have rg_p2 := rng32 p2
  show ORun p e below s _ _ _ s₁ (mkF m 0 #[.val (.long p1), .second, .val (.int p2), .unset, .unset, .unset, .unset, .unset, .unset, .unset] [])
  obtain ⟨T1, X1, e1, st1⟩ := getS2 X0 hx hZ hown (host := "") (Or.inl (hw _ (List.mem_of_getElem? (i := 0) rfl))) Via.refl e0 Sd (g := (mkF m 0 #[.val (.long p1), .second, .val (.int p2), .unset, .unset, .unset, .unset, .unset, .unset, .unset] [])) rfl (hb hby at_0)
  refine own_by st1 ?_
  show ORun p e below s _ _ _ T1 (mkF m 3 #[.val (.long p1), .second, .val (.int p2), .unset, .unset, .unset, .unset, .unset, .unset, .unset] [(.ref d1)])
  refine own_callV X1 hx hZ hown Ed (hw _ (List.mem_of_getElem? (i := 3) rfl)) (hw _ (List.mem_of_getElem? (i := 4) rfl)) (notFace_of_selects (args := #[]) (mvT hZ (hw _ (List.mem_of_getElem? (i := 6) rfl)))) (hw _ (List.mem_of_getElem? (i := 6) rfl)) (hw _ (List.mem_of_getElem? (i := 5) rfl)) (hw _ (List.mem_of_getElem? (i := 1) rfl)) (hw _ (List.mem_of_getElem? (i := 7) rfl)) (by decide) (rm1 l Z a0 hw [] h0 n0 Z0 d1 Fn) e1 (by decide) (W := 0) (by decide) (by decide) (by decide) (argsL := []) (rest := []) (by rw [hml]; rfl) (lenOf pd_1 rfl) rfl rfl (Nat.le_of_eq rfl) (hb hby at_3) ?_
  intro T2 L2 u2 X2 hQ2
  obtain ⟨rfl, Nq2, e2⟩ := hQ2
  have N2 := Fr.app N0 Nq2
  show ORun p e below s _ _ _ T2 (mkF m 6 #[.val (.long p1), .second, .val (.int p2), .unset, .unset, .unset, .unset, .unset, .unset, .unset] [(.long (4278190094 : Int64))])
  refine own_by (fun t k => XS.lstoreN X2.here hx rfl (hb hby at_6) rfl (l' := #[.val (.long p1), .second, .val (.int p2), .val (.long (4278190094 : Int64)), .second, .unset, .unset, .unset, .unset, .unset]) rfl k) ?_
  show ORun p e below s _ _ _ T2 (mkF m 7 #[.val (.long p1), .second, .val (.int p2), .val (.long (4278190094 : Int64)), .second, .unset, .unset, .unset, .unset, .unset] [])
  refine own_by (fun t k => XS.iloadN X2.here hx rfl (hb hby at_7) rfl k) ?_
  show ORun p e below s _ _ _ T2 (mkF m 8 #[.val (.long p1), .second, .val (.int p2), .val (.long (4278190094 : Int64)), .second, .unset, .unset, .unset, .unset, .unset] [(.int p2)])
  refine own_by (fun t k => XS.iconst X2.here hx rfl (hb hby at_8) k) ?_
  show ORun p e below s _ _ _ T2 (mkF m 9 #[.val (.long p1), .second, .val (.int p2), .val (.long (4278190094 : Int64)), .second, .unset, .unset, .unset, .unset, .unset] [(.int (3 : Int32)), (.int p2)])
  refine own_by (fun t k => XS.iand X2.here hx rfl (hb hby at_9) rfl k) (own_letI (f := (fun z => (mkF m 10 #[.val (.long p1), .second, .val (.int p2), .val (.long (4278190094 : Int64)), .second, .unset, .unset, .unset, .unset, .unset] [(.int z)]))) (p2 &&& (3 : Int32)) fun v3 hv3 => ?_)
  show ORun p e below s _ _ _ T2 (mkF m 10 #[.val (.long p1), .second, .val (.int p2), .val (.long (4278190094 : Int64)), .second, .unset, .unset, .unset, .unset, .unset] [(.int v3)])
  have a3a : v3.toInt = p2.toInt % 4 := by rw [hv3]; exact c_mask p2 (3 : Int32) 2 (by decide) (by decide)
  have r3 := rng32 v3
  refine own_by (fun t k => XS.istore X2.here hx rfl (hb hby at_10) rfl (l' := #[.val (.long p1), .second, .val (.int p2), .val (.long (4278190094 : Int64)), .second, .val (.int v3), .unset, .unset, .unset, .unset]) rfl k) ?_
  show ORun p e below s _ _ _ T2 (mkF m 12 #[.val (.long p1), .second, .val (.int p2), .val (.long (4278190094 : Int64)), .second, .val (.int v3), .unset, .unset, .unset, .unset] [])
  have J4 : ∀ w4 : Int64, (w4 = w4) → ORun p e below s (fun v h L => v = some (.int 1) ∧ Fr n0 L) room_1.cells room_1.slots T2 (mkF m 62 #[.val (.long p1), .second, .val (.int p2), .val (.long (4278190094 : Int64)), .second, .val (.int v3), .val (.long w4), .second, .unset, .unset] []) := by
    intro w4 hJ4
    refine own_by (fun t k => XS.lload X2.here hx rfl (hb hby at_62) rfl k) ?_
    show ORun p e below s _ _ _ T2 (mkF m 64 #[.val (.long p1), .second, .val (.int p2), .val (.long (4278190094 : Int64)), .second, .val (.int v3), .val (.long w4), .second, .unset, .unset] [(.long w4)])
    refine own_callS X2 hx hZ hown (hw _ (List.mem_of_getElem? (i := 11) rfl)) (hw _ (List.mem_of_getElem? (i := 12) rfl)) (hw _ (List.mem_of_getElem? (i := 1) rfl)) (hw _ (List.mem_of_getElem? (i := 13) rfl)) (by decide) (rm2 l Z a0 hw [] h0 n0 Z0 w4 d1 d2 cl Fn Sv Av Ev Fc hsl) e2 (by decide) (W := 0) (by decide) (by decide) (by decide) (argsL := [(.long w4)]) (rest := []) (by rw [hml]; rfl) (lenOf pd_2 rfl) rfl rfl (Nat.le_of_eq rfl) (hb hby at_64) ?_
    intro T5 L5 u5 X5 hQ5
    obtain ⟨Nq5, E5, hv5⟩ := hQ5
    have N5 := Fr.app N2 Nq5
    rcases hv5 with ⟨rfl, hn5⟩ | ⟨rfl, hn5⟩
    · show ORun p e below s _ _ _ T5 (mkF m 67 #[.val (.long p1), .second, .val (.int p2), .val (.long (4278190094 : Int64)), .second, .val (.int v3), .val (.long w4), .second, .unset, .unset] [(.ref d1)])
      refine own_by (fun t k => XS.astore X5.here hx rfl (hb hby at_67) rfl rfl (l' := #[.val (.long p1), .second, .val (.int p2), .val (.long (4278190094 : Int64)), .second, .val (.int v3), .val (.long w4), .second, .val (.ref d1), .unset]) rfl k) ?_
      show ORun p e below s _ _ _ T5 (mkF m 69 #[.val (.long p1), .second, .val (.int p2), .val (.long (4278190094 : Int64)), .second, .val (.int v3), .val (.long w4), .second, .val (.ref d1), .unset] [])
      refine own_by (fun t k => XS.lload X5.here hx rfl (hb hby at_69) rfl k) ?_
      show ORun p e below s _ _ _ T5 (mkF m 71 #[.val (.long p1), .second, .val (.int p2), .val (.long (4278190094 : Int64)), .second, .val (.int v3), .val (.long w4), .second, .val (.ref d1), .unset] [(.long w4)])
      refine own_by (fun t k => X5.ldc2Long hx hown (mvT hZ (hw _ (List.mem_of_getElem? (i := 29) rfl))) (g := (mkF m 71 #[.val (.long p1), .second, .val (.int p2), .val (.long (4278190094 : Int64)), .second, .val (.int v3), .val (.long w4), .second, .val (.ref d1), .unset] [(.long w4)])) rfl (hb hby at_71) _ k) ?_
      show ORun p e below s _ _ _ T5 (mkF m 74 #[.val (.long p1), .second, .val (.int p2), .val (.long (4278190094 : Int64)), .second, .val (.int v3), .val (.long w4), .second, .val (.ref d1), .unset] [(.long (4278190094 : Int64)), (.long w4)])
      refine own_by (fun t k => XS.lcmp X5.here hx rfl (hb hby at_74) rfl k) ?_
      show ORun p e below s _ _ _ T5 (mkF m 75 #[.val (.long p1), .second, .val (.int p2), .val (.long (4278190094 : Int64)), .second, .val (.int v3), .val (.long w4), .second, .val (.ref d1), .unset] [(.int (lcmpW w4 (4278190094 : Int64)))])
      by_cases hc6 : w4 = (4278190094 : Int64)
      · have t6 := own_eqL hc6 (a := w4.toInt) (b := 4278190094) rfl (by decide)
        refine own_by (fun t k => XS.ifNo X5.here hx rfl (hb hby at_75) rfl (own_lceq hc6).2 k) ?_
        show ORun p e below s _ _ _ T5 (mkF m 78 #[.val (.long p1), .second, .val (.int p2), .val (.long (4278190094 : Int64)), .second, .val (.int v3), .val (.long w4), .second, .val (.ref d1), .unset] [])
        obtain ⟨T7, X7, e7, st7⟩ := getS2 X5 hx hZ hown (host := "") (Or.inl (hw _ (List.mem_of_getElem? (i := 0) rfl))) Via.refl rfl (Sd.ext E5) (g := (mkF m 78 #[.val (.long p1), .second, .val (.int p2), .val (.long (4278190094 : Int64)), .second, .val (.int v3), .val (.long w4), .second, .val (.ref d1), .unset] [])) rfl (hb hby at_78)
        refine own_by st7 ?_
        show ORun p e below s _ _ _ T7 (mkF m 81 #[.val (.long p1), .second, .val (.int p2), .val (.long (4278190094 : Int64)), .second, .val (.int v3), .val (.long w4), .second, .val (.ref d1), .unset] [(.ref d1)])
        refine own_by (fun t k => XS.astore X7.here hx rfl (hb hby at_81) rfl rfl (l' := #[.val (.long p1), .second, .val (.int p2), .val (.long (4278190094 : Int64)), .second, .val (.int v3), .val (.long w4), .second, .val (.ref d1), .val (.ref d1)]) rfl k) ?_
        show ORun p e below s _ _ _ T7 (mkF m 83 #[.val (.long p1), .second, .val (.int p2), .val (.long (4278190094 : Int64)), .second, .val (.int v3), .val (.long w4), .second, .val (.ref d1), .val (.ref d1)] [])
        refine own_by (fun t k => XS.goto X7.here hx rfl (pc0 := 83) (pc' := 89) rfl (hb hby at_83) (by decide) (by decide) k) ?_
        show ORun p e below s _ _ _ T7 (mkF m 89 #[.val (.long p1), .second, .val (.int p2), .val (.long (4278190094 : Int64)), .second, .val (.int v3), .val (.long w4), .second, .val (.ref d1), .val (.ref d1)] [])
        refine own_by (fun t k => XS.aload X7.here hx rfl (hb hby at_89) rfl rfl k) ?_
        show ORun p e below s _ _ _ T7 (mkF m 91 #[.val (.long p1), .second, .val (.int p2), .val (.long (4278190094 : Int64)), .second, .val (.int v3), .val (.long w4), .second, .val (.ref d1), .val (.ref d1)] [(.ref d1)])
        refine own_by (fun t k => XS.aload X7.here hx rfl (hb hby at_91) rfl rfl k) ?_
        show ORun p e below s _ _ _ T7 (mkF m 93 #[.val (.long p1), .second, .val (.int p2), .val (.long (4278190094 : Int64)), .second, .val (.int v3), .val (.long w4), .second, .val (.ref d1), .val (.ref d1)] [(.ref d1), (.ref d1)])
        refine own_by (fun t k => Jvm.RoadKit.acmp (g := (mkF m 93 #[.val (.long p1), .second, .val (.int p2), .val (.long (4278190094 : Int64)), .second, .val (.int v3), .val (.long w4), .second, .val (.ref d1), .val (.ref d1)] [(.ref d1), (.ref d1)])) X7 hx rfl rfl rfl (pc0 := 93) (pc' := 96) (same := true) rfl (hb hby at_93) rfl (decide_eq_true rfl) (by decide) (by decide) k) ?_
        show ORun p e below s _ _ _ T7 (mkF m 96 #[.val (.long p1), .second, .val (.int p2), .val (.long (4278190094 : Int64)), .second, .val (.int v3), .val (.long w4), .second, .val (.ref d1), .val (.ref d1)] [])
        refine own_by (fun t k => XS.lloadN X7.here hx rfl (hb hby at_96) rfl k) ?_
        show ORun p e below s _ _ _ T7 (mkF m 97 #[.val (.long p1), .second, .val (.int p2), .val (.long (4278190094 : Int64)), .second, .val (.int v3), .val (.long w4), .second, .val (.ref d1), .val (.ref d1)] [(.long (4278190094 : Int64))])
        refine own_by (fun t k => X7.ldc2Long hx hown (mvT hZ (hw _ (List.mem_of_getElem? (i := 29) rfl))) (g := (mkF m 97 #[.val (.long p1), .second, .val (.int p2), .val (.long (4278190094 : Int64)), .second, .val (.int v3), .val (.long w4), .second, .val (.ref d1), .val (.ref d1)] [(.long (4278190094 : Int64))])) rfl (hb hby at_97) _ k) ?_
        show ORun p e below s _ _ _ T7 (mkF m 100 #[.val (.long p1), .second, .val (.int p2), .val (.long (4278190094 : Int64)), .second, .val (.int v3), .val (.long w4), .second, .val (.ref d1), .val (.ref d1)] [(.long (4278190094 : Int64)), (.long (4278190094 : Int64))])
        refine own_by (fun t k => XS.lcmp X7.here hx rfl (hb hby at_100) rfl k) ?_
        show ORun p e below s _ _ _ T7 (mkF m 101 #[.val (.long p1), .second, .val (.int p2), .val (.long (4278190094 : Int64)), .second, .val (.int v3), .val (.long w4), .second, .val (.ref d1), .val (.ref d1)] [(.int (lcmpW (4278190094 : Int64) (4278190094 : Int64)))])
        refine own_by (fun t k => XS.ifNo X7.here hx rfl (hb hby at_101) rfl (own_lceq (by decide)).2 k) ?_
        show ORun p e below s _ _ _ T7 (mkF m 104 #[.val (.long p1), .second, .val (.int p2), .val (.long (4278190094 : Int64)), .second, .val (.int v3), .val (.long w4), .second, .val (.ref d1), .val (.ref d1)] [])
        refine own_by (fun t k => XS.iconst X7.here hx rfl (hb hby at_104) k) ?_
        show ORun p e below s _ _ _ T7 (mkF m 105 #[.val (.long p1), .second, .val (.int p2), .val (.long (4278190094 : Int64)), .second, .val (.int v3), .val (.long w4), .second, .val (.ref d1), .val (.ref d1)] [(.int (1 : Int32))])
        refine own_by (fun t k => XS.goto X7.here hx rfl (pc0 := 105) (pc' := 109) rfl (hb hby at_105) (by decide) (by decide) k) ?_
        show ORun p e below s _ _ _ T7 (mkF m 109 #[.val (.long p1), .second, .val (.int p2), .val (.long (4278190094 : Int64)), .second, .val (.int v3), .val (.long w4), .second, .val (.ref d1), .val (.ref d1)] [(.int (1 : Int32))])
        refine own_retN X7 hx (t := .boolean) hret (by simp) hlk (hb hby at_109) (by decide) (by decide) ?_
        exact ⟨rfl, N5⟩
      · have t6 := own_neL hc6 (a := w4.toInt) (b := 4278190094) rfl (by decide)
        refine own_by (fun t k => XS.ifYes X5.here hx rfl (pc0 := 75) (pc' := 86) rfl (hb hby at_75) rfl (own_lcne hc6).2 (by decide) (by decide) k) ?_
        show ORun p e below s _ _ _ T5 (mkF m 86 #[.val (.long p1), .second, .val (.int p2), .val (.long (4278190094 : Int64)), .second, .val (.int v3), .val (.long w4), .second, .val (.ref d1), .unset] [])
        refine own_by (fun t k => XS.aconstNull X5.here hx rfl (hb hby at_86) k) ?_
        show ORun p e below s _ _ _ T5 (mkF m 87 #[.val (.long p1), .second, .val (.int p2), .val (.long (4278190094 : Int64)), .second, .val (.int v3), .val (.long w4), .second, .val (.ref d1), .unset] [.null])
        refine own_by (fun t k => XS.astore X5.here hx rfl (hb hby at_87) rfl rfl (l' := #[.val (.long p1), .second, .val (.int p2), .val (.long (4278190094 : Int64)), .second, .val (.int v3), .val (.long w4), .second, .val (.ref d1), .val .null]) rfl k) ?_
        show ORun p e below s _ _ _ T5 (mkF m 89 #[.val (.long p1), .second, .val (.int p2), .val (.long (4278190094 : Int64)), .second, .val (.int v3), .val (.long w4), .second, .val (.ref d1), .val .null] [])
        refine own_by (fun t k => XS.aload X5.here hx rfl (hb hby at_89) rfl rfl k) ?_
        show ORun p e below s _ _ _ T5 (mkF m 91 #[.val (.long p1), .second, .val (.int p2), .val (.long (4278190094 : Int64)), .second, .val (.int v3), .val (.long w4), .second, .val (.ref d1), .val .null] [(.ref d1)])
        refine own_by (fun t k => XS.aload X5.here hx rfl (hb hby at_91) rfl rfl k) ?_
        show ORun p e below s _ _ _ T5 (mkF m 93 #[.val (.long p1), .second, .val (.int p2), .val (.long (4278190094 : Int64)), .second, .val (.int v3), .val (.long w4), .second, .val (.ref d1), .val .null] [.null, (.ref d1)])
        exfalso
        omega
    · show ORun p e below s _ _ _ T5 (mkF m 67 #[.val (.long p1), .second, .val (.int p2), .val (.long (4278190094 : Int64)), .second, .val (.int v3), .val (.long w4), .second, .unset, .unset] [.null])
      refine own_by (fun t k => XS.astore X5.here hx rfl (hb hby at_67) rfl rfl (l' := #[.val (.long p1), .second, .val (.int p2), .val (.long (4278190094 : Int64)), .second, .val (.int v3), .val (.long w4), .second, .val .null, .unset]) rfl k) ?_
      show ORun p e below s _ _ _ T5 (mkF m 69 #[.val (.long p1), .second, .val (.int p2), .val (.long (4278190094 : Int64)), .second, .val (.int v3), .val (.long w4), .second, .val .null, .unset] [])
      refine own_by (fun t k => XS.lload X5.here hx rfl (hb hby at_69) rfl k) ?_
      show ORun p e below s _ _ _ T5 (mkF m 71 #[.val (.long p1), .second, .val (.int p2), .val (.long (4278190094 : Int64)), .second, .val (.int v3), .val (.long w4), .second, .val .null, .unset] [(.long w4)])
      refine own_by (fun t k => X5.ldc2Long hx hown (mvT hZ (hw _ (List.mem_of_getElem? (i := 29) rfl))) (g := (mkF m 71 #[.val (.long p1), .second, .val (.int p2), .val (.long (4278190094 : Int64)), .second, .val (.int v3), .val (.long w4), .second, .val .null, .unset] [(.long w4)])) rfl (hb hby at_71) _ k) ?_
      show ORun p e below s _ _ _ T5 (mkF m 74 #[.val (.long p1), .second, .val (.int p2), .val (.long (4278190094 : Int64)), .second, .val (.int v3), .val (.long w4), .second, .val .null, .unset] [(.long (4278190094 : Int64)), (.long w4)])
      refine own_by (fun t k => XS.lcmp X5.here hx rfl (hb hby at_74) rfl k) ?_
      show ORun p e below s _ _ _ T5 (mkF m 75 #[.val (.long p1), .second, .val (.int p2), .val (.long (4278190094 : Int64)), .second, .val (.int v3), .val (.long w4), .second, .val .null, .unset] [(.int (lcmpW w4 (4278190094 : Int64)))])
      by_cases hc8 : w4 = (4278190094 : Int64)
      · have t8 := own_eqL hc8 (a := w4.toInt) (b := 4278190094) rfl (by decide)
        refine own_by (fun t k => XS.ifNo X5.here hx rfl (hb hby at_75) rfl (own_lceq hc8).2 k) ?_
        show ORun p e below s _ _ _ T5 (mkF m 78 #[.val (.long p1), .second, .val (.int p2), .val (.long (4278190094 : Int64)), .second, .val (.int v3), .val (.long w4), .second, .val .null, .unset] [])
        obtain ⟨T9, X9, e9, st9⟩ := getS2 X5 hx hZ hown (host := "") (Or.inl (hw _ (List.mem_of_getElem? (i := 0) rfl))) Via.refl rfl (Sd.ext E5) (g := (mkF m 78 #[.val (.long p1), .second, .val (.int p2), .val (.long (4278190094 : Int64)), .second, .val (.int v3), .val (.long w4), .second, .val .null, .unset] [])) rfl (hb hby at_78)
        refine own_by st9 ?_
        show ORun p e below s _ _ _ T9 (mkF m 81 #[.val (.long p1), .second, .val (.int p2), .val (.long (4278190094 : Int64)), .second, .val (.int v3), .val (.long w4), .second, .val .null, .unset] [(.ref d1)])
        refine own_by (fun t k => XS.astore X9.here hx rfl (hb hby at_81) rfl rfl (l' := #[.val (.long p1), .second, .val (.int p2), .val (.long (4278190094 : Int64)), .second, .val (.int v3), .val (.long w4), .second, .val .null, .val (.ref d1)]) rfl k) ?_
        show ORun p e below s _ _ _ T9 (mkF m 83 #[.val (.long p1), .second, .val (.int p2), .val (.long (4278190094 : Int64)), .second, .val (.int v3), .val (.long w4), .second, .val .null, .val (.ref d1)] [])
        refine own_by (fun t k => XS.goto X9.here hx rfl (pc0 := 83) (pc' := 89) rfl (hb hby at_83) (by decide) (by decide) k) ?_
        show ORun p e below s _ _ _ T9 (mkF m 89 #[.val (.long p1), .second, .val (.int p2), .val (.long (4278190094 : Int64)), .second, .val (.int v3), .val (.long w4), .second, .val .null, .val (.ref d1)] [])
        refine own_by (fun t k => XS.aload X9.here hx rfl (hb hby at_89) rfl rfl k) ?_
        show ORun p e below s _ _ _ T9 (mkF m 91 #[.val (.long p1), .second, .val (.int p2), .val (.long (4278190094 : Int64)), .second, .val (.int v3), .val (.long w4), .second, .val .null, .val (.ref d1)] [.null])
        refine own_by (fun t k => XS.aload X9.here hx rfl (hb hby at_91) rfl rfl k) ?_
        show ORun p e below s _ _ _ T9 (mkF m 93 #[.val (.long p1), .second, .val (.int p2), .val (.long (4278190094 : Int64)), .second, .val (.int v3), .val (.long w4), .second, .val .null, .val (.ref d1)] [(.ref d1), .null])
        exfalso
        omega
      · have t8 := own_neL hc8 (a := w4.toInt) (b := 4278190094) rfl (by decide)
        refine own_by (fun t k => XS.ifYes X5.here hx rfl (pc0 := 75) (pc' := 86) rfl (hb hby at_75) rfl (own_lcne hc8).2 (by decide) (by decide) k) ?_
        show ORun p e below s _ _ _ T5 (mkF m 86 #[.val (.long p1), .second, .val (.int p2), .val (.long (4278190094 : Int64)), .second, .val (.int v3), .val (.long w4), .second, .val .null, .unset] [])
        refine own_by (fun t k => XS.aconstNull X5.here hx rfl (hb hby at_86) k) ?_
        show ORun p e below s _ _ _ T5 (mkF m 87 #[.val (.long p1), .second, .val (.int p2), .val (.long (4278190094 : Int64)), .second, .val (.int v3), .val (.long w4), .second, .val .null, .unset] [.null])
        refine own_by (fun t k => XS.astore X5.here hx rfl (hb hby at_87) rfl rfl (l' := #[.val (.long p1), .second, .val (.int p2), .val (.long (4278190094 : Int64)), .second, .val (.int v3), .val (.long w4), .second, .val .null, .val .null]) rfl k) ?_
        show ORun p e below s _ _ _ T5 (mkF m 89 #[.val (.long p1), .second, .val (.int p2), .val (.long (4278190094 : Int64)), .second, .val (.int v3), .val (.long w4), .second, .val .null, .val .null] [])
        refine own_by (fun t k => XS.aload X5.here hx rfl (hb hby at_89) rfl rfl k) ?_
        show ORun p e below s _ _ _ T5 (mkF m 91 #[.val (.long p1), .second, .val (.int p2), .val (.long (4278190094 : Int64)), .second, .val (.int v3), .val (.long w4), .second, .val .null, .val .null] [.null])
        refine own_by (fun t k => XS.aload X5.here hx rfl (hb hby at_91) rfl rfl k) ?_
        show ORun p e below s _ _ _ T5 (mkF m 93 #[.val (.long p1), .second, .val (.int p2), .val (.long (4278190094 : Int64)), .second, .val (.int v3), .val (.long w4), .second, .val .null, .val .null] [.null, .null])
        refine own_by (fun t k => Jvm.RoadKit.acmp (g := (mkF m 93 #[.val (.long p1), .second, .val (.int p2), .val (.long (4278190094 : Int64)), .second, .val (.int v3), .val (.long w4), .second, .val .null, .val .null] [.null, .null])) X5 hx rfl rfl rfl (pc0 := 93) (pc' := 96) (same := true) rfl (hb hby at_93) rfl (decide_eq_true rfl) (by decide) (by decide) k) ?_
        show ORun p e below s _ _ _ T5 (mkF m 96 #[.val (.long p1), .second, .val (.int p2), .val (.long (4278190094 : Int64)), .second, .val (.int v3), .val (.long w4), .second, .val .null, .val .null] [])
        refine own_by (fun t k => XS.lloadN X5.here hx rfl (hb hby at_96) rfl k) ?_
        show ORun p e below s _ _ _ T5 (mkF m 97 #[.val (.long p1), .second, .val (.int p2), .val (.long (4278190094 : Int64)), .second, .val (.int v3), .val (.long w4), .second, .val .null, .val .null] [(.long (4278190094 : Int64))])
        refine own_by (fun t k => X5.ldc2Long hx hown (mvT hZ (hw _ (List.mem_of_getElem? (i := 29) rfl))) (g := (mkF m 97 #[.val (.long p1), .second, .val (.int p2), .val (.long (4278190094 : Int64)), .second, .val (.int v3), .val (.long w4), .second, .val .null, .val .null] [(.long (4278190094 : Int64))])) rfl (hb hby at_97) _ k) ?_
        show ORun p e below s _ _ _ T5 (mkF m 100 #[.val (.long p1), .second, .val (.int p2), .val (.long (4278190094 : Int64)), .second, .val (.int v3), .val (.long w4), .second, .val .null, .val .null] [(.long (4278190094 : Int64)), (.long (4278190094 : Int64))])
        refine own_by (fun t k => XS.lcmp X5.here hx rfl (hb hby at_100) rfl k) ?_
        show ORun p e below s _ _ _ T5 (mkF m 101 #[.val (.long p1), .second, .val (.int p2), .val (.long (4278190094 : Int64)), .second, .val (.int v3), .val (.long w4), .second, .val .null, .val .null] [(.int (lcmpW (4278190094 : Int64) (4278190094 : Int64)))])
        refine own_by (fun t k => XS.ifNo X5.here hx rfl (hb hby at_101) rfl (own_lceq (by decide)).2 k) ?_
        show ORun p e below s _ _ _ T5 (mkF m 104 #[.val (.long p1), .second, .val (.int p2), .val (.long (4278190094 : Int64)), .second, .val (.int v3), .val (.long w4), .second, .val .null, .val .null] [])
        refine own_by (fun t k => XS.iconst X5.here hx rfl (hb hby at_104) k) ?_
        show ORun p e below s _ _ _ T5 (mkF m 105 #[.val (.long p1), .second, .val (.int p2), .val (.long (4278190094 : Int64)), .second, .val (.int v3), .val (.long w4), .second, .val .null, .val .null] [(.int (1 : Int32))])
        refine own_by (fun t k => XS.goto X5.here hx rfl (pc0 := 105) (pc' := 109) rfl (hb hby at_105) (by decide) (by decide) k) ?_
        show ORun p e below s _ _ _ T5 (mkF m 109 #[.val (.long p1), .second, .val (.int p2), .val (.long (4278190094 : Int64)), .second, .val (.int v3), .val (.long w4), .second, .val .null, .val .null] [(.int (1 : Int32))])
        refine own_retN X5 hx (t := .boolean) hret (by simp) hlk (hb hby at_109) (by decide) (by decide) ?_
        exact ⟨rfl, N5⟩
  refine own_by (fun t k => XS.iload X2.here hx rfl (hb hby at_12) rfl k) ?_
  show ORun p e below s _ _ _ T2 (mkF m 14 #[.val (.long p1), .second, .val (.int p2), .val (.long (4278190094 : Int64)), .second, .val (.int v3), .unset, .unset, .unset, .unset] [(.int v3)])
  by_cases hc10 : v3 = (0 : Int32)
  · have t10 := own_eq hc10 (a := v3.toInt) (b := 0) rfl (by decide)
    refine own_by (fun t k => XS.ifNo X2.here hx rfl (hb hby at_14) rfl ((if0 _ _).trans (teq hc10).2) k) ?_
    show ORun p e below s _ _ _ T2 (mkF m 17 #[.val (.long p1), .second, .val (.int p2), .val (.long (4278190094 : Int64)), .second, .val (.int v3), .unset, .unset, .unset, .unset] [])
    refine own_by (fun t k => XS.lloadN X2.here hx rfl (hb hby at_17) rfl k) ?_
    show ORun p e below s _ _ _ T2 (mkF m 18 #[.val (.long p1), .second, .val (.int p2), .val (.long (4278190094 : Int64)), .second, .val (.int v3), .unset, .unset, .unset, .unset] [(.long p1)])
    refine own_by (fun t k => XS.lstore X2.here hx rfl (hb hby at_18) rfl (l' := #[.val (.long p1), .second, .val (.int p2), .val (.long (4278190094 : Int64)), .second, .val (.int v3), .val (.long p1), .second, .unset, .unset]) rfl k) ?_
    show ORun p e below s _ _ _ T2 (mkF m 20 #[.val (.long p1), .second, .val (.int p2), .val (.long (4278190094 : Int64)), .second, .val (.int v3), .val (.long p1), .second, .unset, .unset] [])
    refine own_by (fun t k => XS.goto X2.here hx rfl (pc0 := 20) (pc' := 62) rfl (hb hby at_20) (by decide) (by decide) k) ?_
    show ORun p e below s _ _ _ T2 (mkF m 62 #[.val (.long p1), .second, .val (.int p2), .val (.long (4278190094 : Int64)), .second, .val (.int v3), .val (.long p1), .second, .unset, .unset] [])
    exact J4 p1 (rfl)
  · have t10 := own_ne hc10 (a := v3.toInt) (b := 0) rfl (by decide)
    refine own_by (fun t k => XS.ifYes X2.here hx rfl (pc0 := 14) (pc' := 23) rfl (hb hby at_14) rfl ((if0 _ _).trans (feq hc10).2) (by decide) (by decide) k) ?_
    show ORun p e below s _ _ _ T2 (mkF m 23 #[.val (.long p1), .second, .val (.int p2), .val (.long (4278190094 : Int64)), .second, .val (.int v3), .unset, .unset, .unset, .unset] [])
    refine own_by (fun t k => XS.iload X2.here hx rfl (hb hby at_23) rfl k) ?_
    show ORun p e below s _ _ _ T2 (mkF m 25 #[.val (.long p1), .second, .val (.int p2), .val (.long (4278190094 : Int64)), .second, .val (.int v3), .unset, .unset, .unset, .unset] [(.int v3)])
    refine own_by (fun t k => XS.iconst X2.here hx rfl (hb hby at_25) k) ?_
    show ORun p e below s _ _ _ T2 (mkF m 26 #[.val (.long p1), .second, .val (.int p2), .val (.long (4278190094 : Int64)), .second, .val (.int v3), .unset, .unset, .unset, .unset] [(.int (1 : Int32)), (.int v3)])
    by_cases hc11 : v3 = (1 : Int32)
    · have t11 := own_eq hc11 (a := v3.toInt) (b := 1) rfl (by decide)
      refine own_by (fun t k => XS.icmpNo X2.here hx rfl (hb hby at_26) rfl (teq hc11).2 k) ?_
      show ORun p e below s _ _ _ T2 (mkF m 29 #[.val (.long p1), .second, .val (.int p2), .val (.long (4278190094 : Int64)), .second, .val (.int v3), .unset, .unset, .unset, .unset] [])
      refine own_by (fun t k => XS.lloadN X2.here hx rfl (hb hby at_29) rfl k) ?_
      show ORun p e below s _ _ _ T2 (mkF m 30 #[.val (.long p1), .second, .val (.int p2), .val (.long (4278190094 : Int64)), .second, .val (.int v3), .unset, .unset, .unset, .unset] [(.long (4278190094 : Int64))])
      refine own_by (fun t k => XS.lstore X2.here hx rfl (hb hby at_30) rfl (l' := #[.val (.long p1), .second, .val (.int p2), .val (.long (4278190094 : Int64)), .second, .val (.int v3), .val (.long (4278190094 : Int64)), .second, .unset, .unset]) rfl k) ?_
      show ORun p e below s _ _ _ T2 (mkF m 32 #[.val (.long p1), .second, .val (.int p2), .val (.long (4278190094 : Int64)), .second, .val (.int v3), .val (.long (4278190094 : Int64)), .second, .unset, .unset] [])
      refine own_by (fun t k => XS.goto X2.here hx rfl (pc0 := 32) (pc' := 62) rfl (hb hby at_32) (by decide) (by decide) k) ?_
      show ORun p e below s _ _ _ T2 (mkF m 62 #[.val (.long p1), .second, .val (.int p2), .val (.long (4278190094 : Int64)), .second, .val (.int v3), .val (.long (4278190094 : Int64)), .second, .unset, .unset] [])
      exact J4 (4278190094 : Int64) (rfl)
    · have t11 := own_ne hc11 (a := v3.toInt) (b := 1) rfl (by decide)
      refine own_by (fun t k => XS.icmpYes X2.here hx rfl (pc0 := 26) (pc' := 35) rfl (hb hby at_26) rfl (feq hc11).2 (by decide) (by decide) k) ?_
      show ORun p e below s _ _ _ T2 (mkF m 35 #[.val (.long p1), .second, .val (.int p2), .val (.long (4278190094 : Int64)), .second, .val (.int v3), .unset, .unset, .unset, .unset] [])
      refine own_by (fun t k => XS.iload X2.here hx rfl (hb hby at_35) rfl k) ?_
      show ORun p e below s _ _ _ T2 (mkF m 37 #[.val (.long p1), .second, .val (.int p2), .val (.long (4278190094 : Int64)), .second, .val (.int v3), .unset, .unset, .unset, .unset] [(.int v3)])
      refine own_by (fun t k => XS.iconst X2.here hx rfl (hb hby at_37) k) ?_
      show ORun p e below s _ _ _ T2 (mkF m 38 #[.val (.long p1), .second, .val (.int p2), .val (.long (4278190094 : Int64)), .second, .val (.int v3), .unset, .unset, .unset, .unset] [(.int (2 : Int32)), (.int v3)])
      by_cases hc12 : v3 = (2 : Int32)
      · have t12 := own_eq hc12 (a := v3.toInt) (b := 2) rfl (by decide)
        refine own_by (fun t k => XS.icmpNo X2.here hx rfl (hb hby at_38) rfl (teq hc12).2 k) ?_
        show ORun p e below s _ _ _ T2 (mkF m 41 #[.val (.long p1), .second, .val (.int p2), .val (.long (4278190094 : Int64)), .second, .val (.int v3), .unset, .unset, .unset, .unset] [])
        refine own_by (fun t k => XS.lloadN X2.here hx rfl (hb hby at_41) rfl k) ?_
        show ORun p e below s _ _ _ T2 (mkF m 42 #[.val (.long p1), .second, .val (.int p2), .val (.long (4278190094 : Int64)), .second, .val (.int v3), .unset, .unset, .unset, .unset] [(.long (4278190094 : Int64))])
        refine own_by (fun t k => XS.lloadN X2.here hx rfl (hb hby at_42) rfl k) ?_
        show ORun p e below s _ _ _ T2 (mkF m 43 #[.val (.long p1), .second, .val (.int p2), .val (.long (4278190094 : Int64)), .second, .val (.int v3), .unset, .unset, .unset, .unset] [(.long p1), (.long (4278190094 : Int64))])
        refine own_by (fun t k => X2.ldc2Long hx hown (mvT hZ (hw _ (List.mem_of_getElem? (i := 10) rfl))) (g := (mkF m 43 #[.val (.long p1), .second, .val (.int p2), .val (.long (4278190094 : Int64)), .second, .val (.int v3), .unset, .unset, .unset, .unset] [(.long p1), (.long (4278190094 : Int64))])) rfl (hb hby at_43) _ k) ?_
        show ORun p e below s _ _ _ T2 (mkF m 46 #[.val (.long p1), .second, .val (.int p2), .val (.long (4278190094 : Int64)), .second, .val (.int v3), .unset, .unset, .unset, .unset] [(.long (4294967295 : Int64)), (.long p1), (.long (4278190094 : Int64))])
        refine own_by (fun t k => XS.land X2.here hx rfl (hb hby at_46) rfl k) (own_letJ (f := (fun z => (mkF m 47 #[.val (.long p1), .second, .val (.int p2), .val (.long (4278190094 : Int64)), .second, .val (.int v3), .unset, .unset, .unset, .unset] [(.long z), (.long (4278190094 : Int64))]))) (p1 &&& (4294967295 : Int64)) fun v13 hv13 => ?_)
        show ORun p e below s _ _ _ T2 (mkF m 47 #[.val (.long p1), .second, .val (.int p2), .val (.long (4278190094 : Int64)), .second, .val (.int v3), .unset, .unset, .unset, .unset] [(.long v13), (.long (4278190094 : Int64))])
        have a13a : v13.toInt = p1.toInt % 4294967296 := by rw [hv13]; exact c_maskL p1 (4294967295 : Int64) 32 (by decide) (by decide)
        have r13 := rng64 v13
        refine own_by (fun t k => XS.lxor X2.here hx rfl (hb hby at_47) rfl k) (own_letJ (f := (fun z => (mkF m 48 #[.val (.long p1), .second, .val (.int p2), .val (.long (4278190094 : Int64)), .second, .val (.int v3), .unset, .unset, .unset, .unset] [(.long z)]))) ((4278190094 : Int64) ^^^ v13) fun v14 hv14 => ?_)
        show ORun p e below s _ _ _ T2 (mkF m 48 #[.val (.long p1), .second, .val (.int p2), .val (.long (4278190094 : Int64)), .second, .val (.int v3), .unset, .unset, .unset, .unset] [(.long v14)])
        refine own_by (fun t k => XS.lstore X2.here hx rfl (hb hby at_48) rfl (l' := #[.val (.long p1), .second, .val (.int p2), .val (.long (4278190094 : Int64)), .second, .val (.int v3), .val (.long v14), .second, .unset, .unset]) rfl k) ?_
        show ORun p e below s _ _ _ T2 (mkF m 50 #[.val (.long p1), .second, .val (.int p2), .val (.long (4278190094 : Int64)), .second, .val (.int v3), .val (.long v14), .second, .unset, .unset] [])
        refine own_by (fun t k => XS.goto X2.here hx rfl (pc0 := 50) (pc' := 62) rfl (hb hby at_50) (by decide) (by decide) k) ?_
        show ORun p e below s _ _ _ T2 (mkF m 62 #[.val (.long p1), .second, .val (.int p2), .val (.long (4278190094 : Int64)), .second, .val (.int v3), .val (.long v14), .second, .unset, .unset] [])
        exact J4 v14 (rfl)
      · have t12 := own_ne hc12 (a := v3.toInt) (b := 2) rfl (by decide)
        refine own_by (fun t k => XS.icmpYes X2.here hx rfl (pc0 := 38) (pc' := 53) rfl (hb hby at_38) rfl (feq hc12).2 (by decide) (by decide) k) ?_
        show ORun p e below s _ _ _ T2 (mkF m 53 #[.val (.long p1), .second, .val (.int p2), .val (.long (4278190094 : Int64)), .second, .val (.int v3), .unset, .unset, .unset, .unset] [])
        refine own_by (fun t k => XS.lloadN X2.here hx rfl (hb hby at_53) rfl k) ?_
        show ORun p e below s _ _ _ T2 (mkF m 54 #[.val (.long p1), .second, .val (.int p2), .val (.long (4278190094 : Int64)), .second, .val (.int v3), .unset, .unset, .unset, .unset] [(.long (4278190094 : Int64))])
        refine own_by (fun t k => XS.lloadN X2.here hx rfl (hb hby at_54) rfl k) ?_
        show ORun p e below s _ _ _ T2 (mkF m 55 #[.val (.long p1), .second, .val (.int p2), .val (.long (4278190094 : Int64)), .second, .val (.int v3), .unset, .unset, .unset, .unset] [(.long p1), (.long (4278190094 : Int64))])
        refine own_by (fun t k => X2.ldc2Long hx hown (mvT hZ (hw _ (List.mem_of_getElem? (i := 30) rfl))) (g := (mkF m 55 #[.val (.long p1), .second, .val (.int p2), .val (.long (4278190094 : Int64)), .second, .val (.int v3), .unset, .unset, .unset, .unset] [(.long p1), (.long (4278190094 : Int64))])) rfl (hb hby at_55) _ k) ?_
        show ORun p e below s _ _ _ T2 (mkF m 58 #[.val (.long p1), .second, .val (.int p2), .val (.long (4278190094 : Int64)), .second, .val (.int v3), .unset, .unset, .unset, .unset] [(.long (-4294967296 : Int64)), (.long p1), (.long (4278190094 : Int64))])
        refine own_by (fun t k => XS.land X2.here hx rfl (hb hby at_58) rfl k) (own_letJ (f := (fun z => (mkF m 59 #[.val (.long p1), .second, .val (.int p2), .val (.long (4278190094 : Int64)), .second, .val (.int v3), .unset, .unset, .unset, .unset] [(.long z), (.long (4278190094 : Int64))]))) (p1 &&& (-4294967296 : Int64)) fun v15 hv15 => ?_)
        show ORun p e below s _ _ _ T2 (mkF m 59 #[.val (.long p1), .second, .val (.int p2), .val (.long (4278190094 : Int64)), .second, .val (.int v3), .unset, .unset, .unset, .unset] [(.long v15), (.long (4278190094 : Int64))])
        refine own_by (fun t k => XS.lxor X2.here hx rfl (hb hby at_59) rfl k) (own_letJ (f := (fun z => (mkF m 60 #[.val (.long p1), .second, .val (.int p2), .val (.long (4278190094 : Int64)), .second, .val (.int v3), .unset, .unset, .unset, .unset] [(.long z)]))) ((4278190094 : Int64) ^^^ v15) fun v16 hv16 => ?_)
        show ORun p e below s _ _ _ T2 (mkF m 60 #[.val (.long p1), .second, .val (.int p2), .val (.long (4278190094 : Int64)), .second, .val (.int v3), .unset, .unset, .unset, .unset] [(.long v16)])
        refine own_by (fun t k => XS.lstore X2.here hx rfl (hb hby at_60) rfl (l' := #[.val (.long p1), .second, .val (.int p2), .val (.long (4278190094 : Int64)), .second, .val (.int v3), .val (.long v16), .second, .unset, .unset]) rfl k) ?_
        show ORun p e below s _ _ _ T2 (mkF m 62 #[.val (.long p1), .second, .val (.int p2), .val (.long (4278190094 : Int64)), .second, .val (.int v3), .val (.long v16), .second, .unset, .unset] [])
        exact J4 v16 (rfl)
set_option maxRecDepth 65536 in
set_option maxHeartbeats 40000000 in
theorem comes_1 {Post : Tables → Env → Array Value → State → Outcome → State → Prop} (hpost : ∀ tb e args s v u, (limb_1_1.after args s (.returned v) u = true ∧ limb_1_2.after args s (.returned v) u = true ∧ True) → FrameEnd s (.returned v) u (Jvm.fieldLocs frame_1_writes args s ++ Jvm.arrayLocs frame_1_arrays args s ++ Jvm.staticLocs frame_1_statics s) 16 128 → Post tb e args s (.returned v) u) :
    ArmFor flags0 classFile x code maxLocals ret World_1 tables_1 room_1 Calls_1 rest_1 Pre_1 Post := by
  intro l hfl _ _ p e ha hc hk s m args below hf hA hF happ hP
  obtain ⟨hcalls, hrest, hpre⟩ := hP
  obtain ⟨-, -, -, hnamed, -, -, -, hat⟩ := (Spec.applies_iff hf).mp happ
  obtain ⟨hg, hn⟩ := and_e (Cond.before_iff.mp (show (Jvm.Cond.and given_1 narrow_1).before args s = true from hpre))
  obtain ⟨hcnt, g0⟩ := and_e hg
  obtain ⟨k0, g1⟩ := and_e g0
  have k1 := g1
  obtain ⟨w0, w1, rfl⟩ : ∃ w0 w1 : Value, args = #[w0, w1] := by
    have hs : args.size = 2 := by simpa [Cond.value, given_1] using hcnt
    obtain ⟨L⟩ := args
    match L, hs with
    | [w0, w1], _ => exact ⟨w0, w1, rfl⟩
  have hw := fun d (hd : d ∈ tables_1) => atoms_spec (ws := Jvm.Cond.code x code maxLocals ret :: tables_1) hat d (List.mem_cons_of_mem _ hd)
  have hfit : Fit s := fun {y c} hc i hi => by
    obtain ⟨ha, rfl⟩ := Array.getElem?_eq_some_iff.mp hc
    have q := List.all_eq_true.mp ((Array.all_eq_true_iff_forall_mem.mp hF) _ (Array.getElem_mem ha)) i (List.mem_range.mpr hi)
    simpa [Array.getElem?_eq_getElem hi] using q
  obtain ⟨i0, e0⟩ := isL_v k0
  obtain rfl : w0 = (.long i0) := Option.some.inj e0
  obtain ⟨i1, e1⟩ := is_v k1
  obtain rfl : w1 = (.int i1) := Option.some.inj e1
  obtain ⟨n1, hn1⟩ := and_e hn
  obtain ⟨n2, hn2⟩ := and_e hn1
  obtain ⟨n3, hn3⟩ := and_e hn2
  obtain ⟨n4, hn4⟩ := and_e hn3
  obtain ⟨n5, n6⟩ := and_e hn4
  obtain ⟨d1, ed1⟩ := exa_v n1
  obtain ⟨d2, ed2⟩ := exa_v n4
  have Sd := Sta.start ed1 (Or.inr ⟨(hw _ (List.mem_of_getElem? (i := 1) rfl)), (hw _ (List.mem_of_getElem? (i := 2) rfl))⟩)
  have Sv := Sta.start ed2 (Or.inr ⟨(hw _ (List.mem_of_getElem? (i := 1) rfl)), (hw _ (List.mem_of_getElem? (i := 18) rfl))⟩)
  have Ed := Exa.start ed1 n1
  have Ev := Exa.start ed2 n4
  obtain ⟨x2, y2, ex2, ey2, k2, k2'⟩ := cmp_v (Or.inl n2)
  obtain rfl : y2 = .long 4278190094 := (Option.some.inj ey2).symm
  obtain ⟨z2, rfl⟩ : ∃ z, x2 = .long z := k2'
  have q2 : z2 = 4278190094 := gotT (eq_L ex2 ey2) n2
  subst q2
  have Fn := Fld.start ((fld_at ed1).symm.trans ex2)
  obtain ⟨cl, Av⟩ := Arr.start ed2 n3
  have Fc := FitC.start hfit Av
  obtain ⟨x6, y6, ex6, ey6, k6, k6'⟩ := cmp_v (Or.inl n6)
  obtain rfl : y6 = .ref d1 := Option.some.inj (ey6.symm.trans ed1)
  have r6 : x6.isRef = true := k6'.2
  have q6 : x6 = .ref d1 := gotT (eq_R ex6 ed1 r6 rfl) n6
  subst q6
  have el := (elem_in ex6 ed2 (Term.int_eval 0) Av.1).2
  have q5 : cl.slots.size = 1 := by have q := own_arrlen ed2 Av n5; have z : (1 : Int32).toInt = 1 := rfl; omega
  have hsl : cl.slots = #[.ref d1] := by
    have z : (0 : Int32).toNatClampNeg = 0 := rfl
    rw [z] at el
    apply Array.ext_getElem?
    intro i
    rcases i with _ | i
    · exact el
    · rw [Array.getElem?_eq_none (by omega), Array.getElem?_eq_none (by simp)]
  obtain ⟨n, o, h1, h2, h3, _, L, rfl, ⟨rfl, N⟩, hq⟩ := rm0 l s _ hw tables_1 s.heap s.heap.size (Nat.le_refl _) i0 i1 d1 d2 cl Ed Fn Sd Sv Av Ev Fc hsl p e ha hc hk s m _ below hf ((Spec.applies_iff_loose hf).mp happ).1 ⟨rfl, State.Warmed39.refl s, rfl⟩ trivial
  refine ⟨n, _, h1, h2, h3, hpost _ _ _ _ _ _ ⟨Cond.after_iff.mpr rfl, Cond.after_iff.mpr (eq_i res_at (Term.int_eval (1)) rfl), trivial⟩ ⟨hq.1, hq.2.1, (hq.2.2.sift fun y hy => Or.inr (N y hy)).mono (by decide) (by decide)⟩⟩
theorem main_1_1 : Claimed_1_1 := comes_1 fun _ _ _ _ _ _ h hF => ⟨h.1, hF⟩
theorem main_1_2 : Claimed_1_2 := comes_1 fun _ _ _ _ _ _ h hF => ⟨h.2.1, hF⟩
end Jvm.Pilot.@@N@@
namespace Jvm.Pilot.@@N@@
open Jvm Jvm.ClassFile Sem Op Lib Jvm.Free Jvm.Stand Jvm.Pilot.@@N@@.Jvm.D
/-! MADE BY PROGRAM (witnessworld.py) out of the Statement's table words and the real class files: 13 classes; the members and pool entries that the words name. The judged class is class 1, her method 1. -/
namespace start1
open Jvm.ClassFile
def u (s : String) : CpInfo := .utf8 (stringToUtf16 s)
/-- a pool by its gaps: so many unusable entries, then the entry; so many at the end -/
def gap : Nat → List CpInfo → List CpInfo
  | 0, r => r
  | n + 1, r => .unusable :: gap n r
def poolList (es : List (Nat × CpInfo)) (last : Nat) : List CpInfo := es.foldr (fun e r => gap e.1 (e.2 :: r)) (gap last [])
def pool (es : List (Nat × CpInfo)) (last : Nat) : Array CpInfo := ⟨poolList es last⟩
def fileOf (pool : Array CpInfo) (this : Nat) (attrs : Array Attribute := #[]) (ms : Array MethodInfo := #[]) (fl : Nat := 33) (sup : Nat := 0) (ifs : Array Nat := #[]) (fds : Array FieldInfo := #[]) : ClassFile where
  minorVersion := 0
  majorVersion := 65
  constantPool := pool
  accessFlags := fl
  thisClass := this
  superClass := sup
  interfaces := ifs
  fields := fds
  methods := ms
  attributes := attrs
def plain (name : String) (sup : Option ClassId) : Class where
  name := name
  kind := .ordinary
  loader := none
  accessFlags := 33
  super := sup
  interfaces := #[]
  cf := none
  fields := #[]
  methods := #[]
  instanceTypes := #[]
  staticTypes := #[]
  resolved := #[]
  callSites := []
  init := .initialized
  statics := none
  mirror := none

def pool0 : Array CpInfo := pool [(5, u "<init>"), (0, u "()V"), (1, .class_ 10), (1, u "java/lang/Object"), (85, u "clone"), (0, u "()Ljava/lang/Object;")] 26

def k0m0 : Method := { name := "<init>", desc := "()V", sig := { parameters := [], returnType := none }, accessFlags := 1, code := none }
def k0m1 : Method := { name := "clone", desc := "()Ljava/lang/Object;", sig := { parameters := [], returnType := some (.object "java/lang/Object") }, accessFlags := 260, code := none }
/-- java/lang/Object -/
def k0 : Class := { plain "java/lang/Object" none with
  accessFlags := 33
  interfaces := #[]
  cf := some (fileOf pool0 8 #[] #[{ accessFlags := 1, nameIndex := 5, descriptorIndex := 6, attributes := #[] }, { accessFlags := 260, nameIndex := 96, descriptorIndex := 97, attributes := #[] }] 33 0 #[] #[])
  fields := #[]
  methods := #[k0m0, k0m1]
  instanceTypes := #[]
  staticTypes := #[]
  resolved := Array.replicate 124 none
  statics := none }

def pool1 : Array CpInfo := pool [(2, .class_ 4), (1, u "java/lang/Object"), (0, u "<init>"), (0, u "()V"), (0, .fieldref 8 9), (0, .class_ 10), (0, .nameAndType 11 12), (0, u "com/example/diligent_bench/diligentbench/Version"), (0, u "DRAFT_14"), (0, u "Lcom/example/diligent_bench/diligentbench/Version;"), (0, .methodref 8 14), (0, .nameAndType 15 16), (0, u "number"), (0, u "()J"), (0, .long 4294967295), (1, .long 18446744069414584320), (1, .methodref 8 22), (0, .nameAndType 23 24), (0, u "of"), (0, u "(J)Lcom/example/diligent_bench/diligentbench/Version;"), (0, .long 4278190094), (1, .class_ 28), (0, u "com/example/diligent_bench/diligentbench/VersionOfPinLaw"), (2, u "law"), (0, u "(JI)Z")] 3

def k1m0 : Method := { name := "<init>", desc := "()V", sig := { parameters := [], returnType := none }, accessFlags := 1, code := none }
def k1c1 : Code := { maxStack := 6, maxLocals := 10, code := code, exceptionTable := #[], attributes := #[] }
def k1m1 : Method := { name := "law", desc := "(JI)Z", sig := { parameters := [.long, .int], returnType := some .boolean }, accessFlags := 9, code := some k1c1 }
/-- com/example/diligent_bench/diligentbench/VersionOfPinLaw -/
def k1 : Class := { plain "com/example/diligent_bench/diligentbench/VersionOfPinLaw" (some 0) with
  accessFlags := 49
  interfaces := #[]
  cf := some (fileOf pool1 27 #[] #[{ accessFlags := 1, nameIndex := 5, descriptorIndex := 6, attributes := #[] }, { accessFlags := 9, nameIndex := 31, descriptorIndex := 32, attributes := #[] }] 49 2 #[] #[])
  fields := #[]
  methods := #[k1m0, k1m1]
  instanceTypes := #[]
  staticTypes := #[]
  resolved := Array.replicate 36 none
  statics := none }

def pool2 : Array CpInfo := pool [(1, .class_ 2), (0, u "java/lang/constant/Constable"), (0, .class_ 4), (0, u "java/lang/Object")] 6

/-- java/lang/constant/Constable -/
def k2 : Class := { plain "java/lang/constant/Constable" (some 0) with
  accessFlags := 1537
  interfaces := #[]
  cf := some (fileOf pool2 1 #[] #[] 1537 3 #[] #[])
  fields := #[]
  methods := #[]
  instanceTypes := #[]
  staticTypes := #[]
  resolved := Array.replicate 11 none
  statics := none }

def pool3 : Array CpInfo := pool [(1, .class_ 2), (0, u "java/lang/Comparable"), (0, .class_ 4), (0, u "java/lang/Object")] 7

/-- java/lang/Comparable -/
def k3 : Class := { plain "java/lang/Comparable" (some 0) with
  accessFlags := 1537
  interfaces := #[]
  cf := some (fileOf pool3 1 #[] #[] 1537 3 #[] #[])
  fields := #[]
  methods := #[]
  instanceTypes := #[]
  staticTypes := #[]
  resolved := Array.replicate 12 none
  statics := none }

def pool4 : Array CpInfo := pool [(1, .class_ 2), (0, u "java/io/Serializable"), (0, .class_ 4), (0, u "java/lang/Object")] 2

/-- java/io/Serializable -/
def k4 : Class := { plain "java/io/Serializable" (some 0) with
  accessFlags := 1537
  interfaces := #[]
  cf := some (fileOf pool4 1 #[] #[] 1537 3 #[] #[])
  fields := #[]
  methods := #[]
  instanceTypes := #[]
  staticTypes := #[]
  resolved := Array.replicate 7 none
  statics := none }

def pool5 : Array CpInfo := pool [(2, .class_ 4), (1, u "java/lang/Enum"), (0, u "name"), (0, u "Ljava/lang/String;"), (2, u "ordinal"), (0, u "I"), (1, .class_ 14), (1, u "java/lang/Object"), (4, u "hash"), (86, .class_ 108), (1, u "java/lang/Enum$EnumDesc"), (2, .class_ 112), (0, u "java/lang/constant/Constable"), (0, .class_ 114), (0, u "java/lang/Comparable"), (0, .class_ 116), (0, u "java/io/Serializable")] 87

/-- java/lang/Enum -/
def k5 : Class := { plain "java/lang/Enum" (some 0) with
  accessFlags := 1057
  interfaces := #[2, 3, 4]
  cf := some (fileOf pool5 2 #[.nestMembers #[106]] #[] 1057 12 #[111, 113, 115] #[{ accessFlags := 18, nameIndex := 5, descriptorIndex := 6, attributes := #[] }, { accessFlags := 18, nameIndex := 9, descriptorIndex := 10, attributes := #[] }, { accessFlags := 2, nameIndex := 19, descriptorIndex := 10, attributes := #[] }])
  fields := #[{ name := "name", type := (.object "java/lang/String"), accessFlags := 18, slot := 0, constantValue := 0 }, { name := "ordinal", type := .int, accessFlags := 18, slot := 1, constantValue := 0 }, { name := "hash", type := .int, accessFlags := 2, slot := 2, constantValue := 0 }]
  methods := #[]
  instanceTypes := #[(.object "java/lang/String"), .int, .int]
  staticTypes := #[]
  resolved := Array.replicate 204 none
  statics := none }

def pool6 : Array CpInfo := pool [(1, .class_ 2), (0, u "com/example/diligent_bench/diligentbench/Version"), (2, u "DRAFT_14"), (0, u "Lcom/example/diligent_bench/diligentbench/Version;"), (0, .fieldref 1 8), (0, .nameAndType 9 10), (0, u "$VALUES"), (0, u "[Lcom/example/diligent_bench/diligentbench/Version;"), (0, .methodref 12 13), (0, .class_ 10), (0, .nameAndType 14 15), (0, u "clone"), (0, u "()Ljava/lang/Object;"), (1, .class_ 19), (1, u "java/lang/Enum"), (6, .fieldref 1 27), (0, .nameAndType 28 29), (0, u "number"), (0, u "J"), (2, u "label"), (0, u "Ljava/lang/String;"), (2, u "alpn"), (10, .methodref 1 48), (0, .nameAndType 49 50), (0, u "values"), (0, u "()[Lcom/example/diligent_bench/diligentbench/Version;"), (51, u "()J"), (2, u "of"), (0, u "(J)Lcom/example/diligent_bench/diligentbench/Version;")] 25

def k6c0 : Code := { maxStack := 1, maxLocals := 0, code := prog_26_method_1_code, exceptionTable := #[], attributes := #[] }
def k6m0 : Method := { name := "values", desc := "()[Lcom/example/diligent_bench/diligentbench/Version;", sig := { parameters := [], returnType := some (.array (.object "com/example/diligent_bench/diligentbench/Version")) }, accessFlags := 9, code := some k6c0 }
def k6c1 : Code := { maxStack := 2, maxLocals := 1, code := prog_26_method_4_code, exceptionTable := #[], attributes := #[] }
def k6m1 : Method := { name := "number", desc := "()J", sig := { parameters := [], returnType := some .long }, accessFlags := 0, code := some k6c1 }
def k6c2 : Code := { maxStack := 4, maxLocals := 6, code := prog_26_method_7_code, exceptionTable := #[], attributes := #[] }
def k6m2 : Method := { name := "of", desc := "(J)Lcom/example/diligent_bench/diligentbench/Version;", sig := { parameters := [.long], returnType := some (.object "com/example/diligent_bench/diligentbench/Version") }, accessFlags := 8, code := some k6c2 }
/-- com/example/diligent_bench/diligentbench/Version -/
def k6 : Class := { plain "com/example/diligent_bench/diligentbench/Version" (some 5) with
  accessFlags := 16432
  interfaces := #[]
  cf := some (fileOf pool6 1 #[] #[{ accessFlags := 9, nameIndex := 49, descriptorIndex := 50, attributes := #[] }, { accessFlags := 0, nameIndex := 28, descriptorIndex := 102, attributes := #[] }, { accessFlags := 8, nameIndex := 105, descriptorIndex := 106, attributes := #[] }] 16432 17 #[] #[{ accessFlags := 16409, nameIndex := 5, descriptorIndex := 6, attributes := #[] }, { accessFlags := 18, nameIndex := 28, descriptorIndex := 29, attributes := #[] }, { accessFlags := 18, nameIndex := 32, descriptorIndex := 33, attributes := #[] }, { accessFlags := 18, nameIndex := 36, descriptorIndex := 33, attributes := #[] }, { accessFlags := 4122, nameIndex := 9, descriptorIndex := 10, attributes := #[] }])
  fields := #[{ name := "DRAFT_14", type := (.object "com/example/diligent_bench/diligentbench/Version"), accessFlags := 16409, slot := 0, constantValue := 0 }, { name := "number", type := .long, accessFlags := 18, slot := 3, constantValue := 0 }, { name := "label", type := (.object "java/lang/String"), accessFlags := 18, slot := 4, constantValue := 0 }, { name := "alpn", type := (.object "java/lang/String"), accessFlags := 18, slot := 5, constantValue := 0 }, { name := "$VALUES", type := (.array (.object "com/example/diligent_bench/diligentbench/Version")), accessFlags := 4122, slot := 1, constantValue := 0 }]
  methods := #[k6m0, k6m1, k6m2]
  instanceTypes := #[(.object "java/lang/String"), .int, .int, .long, (.object "java/lang/String"), (.object "java/lang/String")]
  staticTypes := #[(.object "com/example/diligent_bench/diligentbench/Version"), (.array (.object "com/example/diligent_bench/diligentbench/Version"))]
  resolved := Array.replicate 132 none
  statics := some 0 }

def pool7 : Array CpInfo := pool [(1, .class_ 2), (0, u "java/lang/Cloneable"), (0, .class_ 4), (0, u "java/lang/Object")] 2

/-- java/lang/Cloneable -/
def k7 : Class := { plain "java/lang/Cloneable" (some 0) with
  accessFlags := 1537
  interfaces := #[]
  cf := some (fileOf pool7 1 #[] #[] 1537 3 #[] #[])
  fields := #[]
  methods := #[]
  instanceTypes := #[]
  staticTypes := #[]
  resolved := Array.replicate 7 none
  statics := none }

/-- the primitive byte -/
def k8 : Class := { plain "byte" none with kind := .primitive 'B', accessFlags := 0x411 }
/-- [B -/
def k9 : Class := { plain "[B" (some 0) with kind := .array 8 .byte, interfaces := #[7, 4], accessFlags := 1041 }

/-- the primitive int -/
def k10 : Class := { plain "int" none with kind := .primitive 'I', accessFlags := 0x411 }
/-- [I -/
def k11 : Class := { plain "[I" (some 0) with kind := .array 10 .int, interfaces := #[7, 4], accessFlags := 1041 }

/-- [Lcom/example/diligent_bench/diligentbench/Version; -/
def k12 : Class := { plain "[Lcom/example/diligent_bench/diligentbench/Version;" (some 0) with kind := .array 6 (.object "com/example/diligent_bench/diligentbench/Version"), interfaces := #[7, 4], accessFlags := 1041 }

def heap : Heap := #[{ cls := 6, slots := #[.ref 2, .ref 1], vm := .statics 6 },
  { cls := 12, slots := #[.ref 2], vm := .none },
  { cls := 6, slots := #[.null, .int 0, .int 0, .long 4278190094, .null, .null], vm := .none }]
def classes : Array Class := #[k0, k1, k2, k3, k4, k5, k6, k7, k8, k9, k10, k11, k12]
def interned : List (Array UInt16 × Addr) := []
def slotsUsed : Nat := 9
def theMethod : MethodId := ⟨1, 1⟩
def args0 : Array Value := #[.long 5, .int 1]
def aboutOver (below : List Frame) : State where
  vm := { classes := classes, interned := interned.toArray }
  heap := heap
  slotsUsed := slotsUsed
  threads := #[{ frames := .invoking theMethod args0 :: below }]
def below0 : List Frame := [.native { method := ⟨0, 0⟩, args := #[] }]
def about1 : State := aboutOver below0
def p0 : Program := .bare "" "" ""
def e0 : Env := launch0.env 0 0 0
theorem w_frames : about1.frames = Frame.invoking theMethod args0 :: below0 := rfl
set_option maxRecDepth 65536 in
theorem w_args : argsFit about1.vm theMethod args0 = true := by decide +kernel
set_option maxRecDepth 65536 in
theorem w_heap : heapFits about1 = true := by decide +kernel
set_option maxRecDepth 65536 in
theorem w_runnable : about1.curStatus? = some .runnable := by decide +kernel
set_option maxRecDepth 65536 in
theorem w_alone : about1.alone = true := by decide +kernel
set_option maxRecDepth 65536 in
theorem w_named : about1.methodNamed? x = some theMethod := by decide +kernel
set_option maxRecDepth 65536 in
theorem w_hears : about1.hears theMethod below0 = true := by decide +kernel
set_option maxRecDepth 65536 in
theorem w_ripe : about1.ripe theMethod args0 below0 = true := by decide +kernel
theorem w_running : about1.status = .running := rfl
set_option maxRecDepth 65536 in
theorem w_room : about1.hasRoom e0.platform room_1 = true :=
  launch0.hasRoom_least _ room_1 (by decide +kernel) (by decide +kernel) (by decide +kernel) (by decide +kernel) (by decide +kernel) (by decide +kernel)
theorem allAtoms_all (ts : List Jvm.Cond) (a : Array Jvm.Value) (st : Jvm.State) : (allAtoms ts).before a st = ts.all (fun c => c.before a st) := by
  induction ts with
  | nil => rfl
  | cons c t ih =>
    show (Jvm.Cond.and c (allAtoms t)).before a st = _
    rw [Jvm.Cond.before_and, ih, List.all_cons]
def words1 : List Jvm.Cond := Jvm.Cond.code x code maxLocals ret :: tables_1
/-- a 'code' word, met by the world's own term for the bytes: nothing is compared byte by byte -/
theorem code_word {y : MethodName} {bytes : ByteArray} {mx : Nat} {rt : Option FieldType} {a : Array Value} {s : State} {m : MethodId} {meth : Method} {c : Code} (h1 : s.methodNamed? y = some m) (h2 : s.vm.method? m = some meth) (h3 : meth.code = some c) (h4 : c.code = bytes)
    (h5 : (c.maxLocals == mx && c.exceptionTable.isEmpty && decide (c.maxStack ≤ mostOperands) && decide (meth.sig.returnType = rt) && !meth.locks && decide (parseMethodDescriptor y.desc = some meth.sig)) = true) : (Jvm.Cond.code y bytes mx rt).before a s = true := by
  simp only [Bool.and_eq_true, beq_iff_eq, Bool.not_eq_true', decide_eq_true_eq] at h5
  obtain ⟨⟨⟨⟨⟨g1, g2⟩, g3⟩, g4⟩, g5⟩, g6⟩ := h5
  simp [Cond.before, Cond.holds, Cond.value, h1, h2, h3, h4, g1, g2, g3, g4, g5, g6]
def isCode : Jvm.Cond → Bool
  | .code _ _ _ _ => true
  | _ => false
theorem all_split {L : List Jvm.Cond} {P : Jvm.Cond → Bool} (h1 : L.all (fun c => isCode c || P c) = true) (h2 : ∀ c ∈ L.filter isCode, P c = true) : L.all P = true := by
  refine List.all_eq_true.mpr fun c hc => ?_
  have h := List.all_eq_true.mp h1 c hc
  rcases Bool.eq_false_or_eq_true (isCode c) with hi | hi
  · exact h2 c (List.mem_filter.mpr ⟨hc, hi⟩)
  · simpa [hi] using h
set_option maxRecDepth 65536 in
theorem w_c0 : (Jvm.Cond.code x code maxLocals ret).before args0 about1 = true := code_word (m := ⟨1, 1⟩) (meth := k1m1) (c := k1c1) (by decide +kernel) rfl rfl rfl (by decide +kernel)
set_option maxRecDepth 65536 in
theorem w_c1 : (Jvm.Cond.code ({ cls := "com/example/diligent_bench/diligentbench/Version", name := "number", desc := "()J" } : Jvm.MethodName) prog_26_method_4_code (1 : Nat) (Option.some Jvm.ClassFile.FieldType.long)).before args0 about1 = true := code_word (m := ⟨6, 1⟩) (meth := k6m1) (c := k6c1) (by decide +kernel) rfl rfl rfl (by decide +kernel)
set_option maxRecDepth 65536 in
theorem w_c2 : (Jvm.Cond.code ({ cls := "com/example/diligent_bench/diligentbench/Version", name := "of", desc := "(J)Lcom/example/diligent_bench/diligentbench/Version;" } : Jvm.MethodName) prog_26_method_7_code (6 : Nat) (Option.some (Jvm.ClassFile.FieldType.object "com/example/diligent_bench/diligentbench/Version"))).before args0 about1 = true := code_word (m := ⟨6, 2⟩) (meth := k6m2) (c := k6c2) (by decide +kernel) rfl rfl rfl (by decide +kernel)
set_option maxRecDepth 65536 in
theorem w_c3 : (Jvm.Cond.code ({ cls := "com/example/diligent_bench/diligentbench/Version", name := "values", desc := "()[Lcom/example/diligent_bench/diligentbench/Version;" } : Jvm.MethodName) prog_26_method_1_code (0 : Nat) (Option.some (Jvm.ClassFile.FieldType.array (Jvm.ClassFile.FieldType.object "com/example/diligent_bench/diligentbench/Version")))).before args0 about1 = true := code_word (m := ⟨6, 0⟩) (meth := k6m0) (c := k6c0) (by decide +kernel) rfl rfl rfl (by decide +kernel)
def codes1 : List Jvm.Cond := [Jvm.Cond.code x code maxLocals ret, Jvm.Cond.code ({ cls := "com/example/diligent_bench/diligentbench/Version", name := "number", desc := "()J" } : Jvm.MethodName) prog_26_method_4_code (1 : Nat) (Option.some Jvm.ClassFile.FieldType.long), Jvm.Cond.code ({ cls := "com/example/diligent_bench/diligentbench/Version", name := "of", desc := "(J)Lcom/example/diligent_bench/diligentbench/Version;" } : Jvm.MethodName) prog_26_method_7_code (6 : Nat) (Option.some (Jvm.ClassFile.FieldType.object "com/example/diligent_bench/diligentbench/Version")), Jvm.Cond.code ({ cls := "com/example/diligent_bench/diligentbench/Version", name := "values", desc := "()[Lcom/example/diligent_bench/diligentbench/Version;" } : Jvm.MethodName) prog_26_method_1_code (0 : Nat) (Option.some (Jvm.ClassFile.FieldType.array (Jvm.ClassFile.FieldType.object "com/example/diligent_bench/diligentbench/Version")))]
set_option maxRecDepth 65536 in
theorem codes_eq : words1.filter isCode = codes1 := rfl
theorem w_codes : ∀ c ∈ words1.filter isCode, c.before args0 about1 = true := by
  rw [codes_eq]
  intro c hc
  simp only [codes1, List.mem_cons, List.not_mem_nil, or_false] at hc
  rcases hc with rfl | rfl | rfl | rfl
  · exact w_c0
  · exact w_c1
  · exact w_c2
  · exact w_c3
set_option maxRecDepth 65536 in
theorem w_t1 : (words1.take 24).all (fun c => isCode c || c.before args0 about1) = true := by decide +kernel
set_option maxRecDepth 65536 in
theorem w_t2 : (words1.drop 24).all (fun c => isCode c || c.before args0 about1) = true := by decide +kernel
theorem w_tables : (allAtoms (Jvm.Cond.code x code maxLocals ret :: tables_1)).before args0 about1 = true := by
  rw [allAtoms_all]
  show words1.all (fun c => c.before args0 about1) = true
  refine all_split ?_ w_codes
  rw [← List.take_append_drop 24 words1, List.all_append, w_t1, w_t2]
  rfl
set_option maxRecDepth 65536 in
theorem w_case : (Jvm.Cond.and given_1 narrow_1).before args0 about1 = true := by decide +kernel
theorem w_applies : (headSpec (Jvm.Cond.code x code maxLocals ret :: tables_1) room_1).applies x e0.platform about1 = true :=
  (Spec.applies_iff w_frames).mpr ⟨w_running, w_runnable, w_alone, w_named, w_hears, w_ripe, w_room, w_tables⟩
theorem atStart : AtStart classFile x code maxLocals ret World_1 tables_1 room_1 Calls_1 rest_1 Pre_1 launch0 p0 e0 about1 theMethod args0 below0 :=
  ⟨lists_1, trivial, launch0.admits_env _ _ _, launch0.least_env, fairChoices_fair.cas, fairChoices_fair.clock, w_frames, w_args, w_heap, w_applies, trivial, trivial, w_case⟩
end start1
theorem witness_1 : WitnessClaimed_1 := ⟨start1.p0, start1.e0, start1.about1, start1.theMethod, start1.args0, start1.below0, start1.atStart⟩
end Jvm.Pilot.@@N@@
