import JvmDerived
import JvmDerived.Pilot.@@N@@Statement
import JvmDerived.Pilot.@@N@@Code
set_option linter.unusedVariables false
set_option linter.unusedSimpArgs false
namespace Jvm.RoadKit
open Sem ClassFile Op Lib Jvm.Stand Jvm.Free Jvm.LawKit
section New
variable {p : Program} {l : Launch} {e : Env} {R : Room} {s : State} {m : MethodId} {args : Array Value} {below : List Frame} {meth : Method} {c : Code} {T : State} {locs : List Loc} {cells slots : Nat}
theorem retI (X : Stand p l e R s m args below meth c T locs cells slots) (hx : p.tables.exec = Jvm.exec) {pc : Nat} {Ls : Array Slot} {z : Int32} {rest : List Value} (hret : meth.sig.returnType = some .int) (hd : decode c.code pc = .ok (.ireturn, 1)) {fs : List Frame}
    (hl : ∀ (f : JFrame) (acts : List Action), f.method = m → f.locked = none → f.entered = [] → (doReturn e (T.setTop f) acts (some (.int z))).1 = T.setFrames fs) : Steps p.tables e below (T.setTop (mkF m pc Ls (.int z :: rest))) (T.setFrames fs) := by
  have hm' : T.vm.method? m = some meth := X.method'
  have hn : narrow .int (.int z) = .int z := rfl
  show Steps p.tables e below (T.setTop { method := m, pc := pc, locals := Ls, stack := _ :: rest, locked := none }) _
  jvm_step X.here [X.here.top, hx, hd, hm', hret, hn]
  first | (intro acts; rw [hl _ acts rfl rfl rfl]) | rw [hl _ _ rfl rfl rfl]
  exact Steps.refl _
end New
end Jvm.RoadKit
namespace Jvm.Pilot.@@N@@
open Jvm Jvm.ClassFile Sem Op Lib Jvm.Free Jvm.Stand Jvm.LawKit Jvm.RoadKit Bundle Jvm.Pilot.@@N@@.Jvm.D
section OwnRun
variable {p : Program} {l : Launch} {e : Env} {R : Room} {s : State} {m : MethodId} {args : Array Value} {below : List Frame} {meth : Method} {c : Code} {T T' : State} {locs : List Loc} {cells slots : Nat} {Q : Option Value → Heap → List Loc → Prop} {C S : Nat}
/-- from T with the frame g on top the body comes to its end, and what it leaves is as Q says -/
def ORun (p : Program) (e : Env) (below : List Frame) (s : State) (Q : Option Value → Heap → List Loc → Prop) (C S : Nat) (T : State) (g : JFrame) : Prop :=
  ∃ s₂ o, Steps p.tables e below (T.setTop g) s₂ ∧ s₂.status = .running ∧ Ended s₂ below o ∧ ∃ v L, o = .returned v ∧ Q v s₂.heap L ∧ FrameEnd s o s₂ L C S
theorem own_by {g g' : JFrame} (st : ∀ t, Steps p.tables e below (T'.setTop g') t → Steps p.tables e below (T.setTop g) t) (h : ORun p e below s Q C S T' g') : ORun p e below s Q C S T g := by
  obtain ⟨s₂, o, h1, h2⟩ := h
  exact ⟨s₂, o, st _ h1, h2⟩
theorem own_tr {g g' : JFrame} (st : Steps p.tables e below (T.setTop g) (T'.setTop g')) (h : ORun p e below s Q C S T' g') : ORun p e below s Q C S T g := own_by (fun _ k => st.trans k) h
theorem own_letI (x : Int32) {f : Int32 → JFrame} (h : ∀ v, v = x → ORun p e below s Q C S T (f v)) : ORun p e below s Q C S T (f x) := h x rfl
theorem own_letJ (x : Int64) {f : Int64 → JFrame} (h : ∀ v, v = x → ORun p e below s Q C S T (f v)) : ORun p e below s Q C S T (f x) := h x rfl
theorem own_retI (X : Stand p l e R s m args below meth c T locs cells slots) (hx : p.tables.exec = Jvm.exec) {pc : Nat} {Ls : Array Slot} {z : Int32} {rest : List Value} (hret : meth.sig.returnType = some .int) (hlk : meth.locks = false) (hd : decode c.code pc = .ok (.ireturn, 1)) (hc : cells ≤ C) (hs : slots ≤ S) (hQ : Q (some (.int z)) T.heap locs) :
    ORun p e below s Q C S T (mkF m pc Ls (.int z :: rest)) := by
  obtain ⟨fs, hr, hrun, hended, hW, hsame⟩ := X.leave (v := some (.int z)) (fun h => by rw [hret] at h; cases h) hlk
  exact ⟨_, _, retI X hx hret hd hr, hrun, hended, _, _, rfl, hQ, ⟨_, rfl⟩, hW, hsame.mono hc hs⟩
theorem own_retN (X : Stand p l e R s m args below meth c T locs cells slots) (hx : p.tables.exec = Jvm.exec) {pc : Nat} {Ls : Array Slot} {z : Int32} {t : FieldType} {rest : List Value} (hret : meth.sig.returnType = some t) (ht : t = .boolean ∨ t = .byte ∨ t = .char ∨ t = .short) (hlk : meth.locks = false) (hd : decode c.code pc = .ok (.ireturn, 1)) (hc : cells ≤ C) (hs : slots ≤ S) (hQ : Q (some (.int (nar t z))) T.heap locs) :
    ORun p e below s Q C S T (mkF m pc Ls (.int z :: rest)) := by
  obtain ⟨fs, hr, hrun, hended, hW, hsame⟩ := X.leave (v := some (.int (nar t z))) (fun h => by rw [hret] at h; cases h) hlk
  exact ⟨_, _, retN X hx hret ht hd hr, hrun, hended, _, _, rfl, hQ, ⟨_, rfl⟩, hW, hsame.mono hc hs⟩
theorem own_retJ (X : Stand p l e R s m args below meth c T locs cells slots) (hx : p.tables.exec = Jvm.exec) {pc : Nat} {Ls : Array Slot} {z : Int64} (hret : meth.sig.returnType = some .long) (hlk : meth.locks = false) (hd : decode c.code pc = .ok (.lreturn, 1)) (hc : cells ≤ C) (hs : slots ≤ S) (hQ : Q (some (.long z)) T.heap locs) :
    ORun p e below s Q C S T (mkF m pc Ls [.long z]) := by
  obtain ⟨fs, hr, hrun, hended, hW, hsame⟩ := X.leave (v := some (.long z)) (fun h => by rw [hret] at h; cases h) hlk
  exact ⟨_, _, X.lreturnOut hx hret hd hr, hrun, hended, _, _, rfl, hQ, ⟨_, rfl⟩, hW, hsame.mono hc hs⟩
theorem own_retA (X : Stand p l e R s m args below meth c T locs cells slots) (hx : p.tables.exec = Jvm.exec) {pc : Nat} {Ls : Array Slot} {z : Value} {t : FieldType} {rest : List Value} (hret : meth.sig.returnType = some t) (ht : t.isReference = true) (hz : z.isRef = true) (hn : narrow t z = z) (hlk : meth.locks = false) (hd : decode c.code pc = .ok (.areturn, 1)) (hc : cells ≤ C) (hs : slots ≤ S) (hQ : Q (some z) T.heap locs) :
    ORun p e below s Q C S T (mkF m pc Ls (z :: rest)) := by
  obtain ⟨fs, hr, hrun, hended, hW, hsame⟩ := X.leave (v := some z) (fun h => by rw [hret] at h; cases h) hlk
  exact ⟨_, _, retOut X hx hret hn (Or.inr (Or.inr (Or.inr (Or.inr ⟨rfl, ht, hz⟩)))) hd hr, hrun, hended, _, _, rfl, hQ, ⟨_, rfl⟩, hW, hsame.mono hc hs⟩
theorem own_retV (X : Stand p l e R s m args below meth c T locs cells slots) (hx : p.tables.exec = Jvm.exec) {pc : Nat} {Ls : Array Slot} (hret : meth.sig.returnType = none) (hlk : meth.locks = false) (hd : decode c.code pc = .ok (.return_, 1)) (hc : cells ≤ C) (hs : slots ≤ S) (hQ : Q none T.heap locs) :
    ORun p e below s Q C S T (mkF m pc Ls []) := by
  obtain ⟨fs, hr, hrun, hended, hW, hsame⟩ := X.leave (v := none) (fun _ => rfl) hlk
  exact ⟨_, _, X.returnOut hx hret hd hr, hrun, hended, _, _, rfl, hQ, ⟨_, rfl⟩, hW, hsame.mono hc hs⟩
/-- a body's contract: called with as at the heap h (tables as at Z) it returns, and what it leaves is as Q says -/
abbrev OMet (l : Launch) (y : MethodName) (bytes : ByteArray) (maxL : Nat) (ret : Option FieldType) (ws : List Jvm.Cond) (rm : Room) (as' : Array Value) (Z : State) (h : Heap) (Q : Option Value → Heap → List Loc → Prop) : Prop :=
  MetFree l y (head1 (Jvm.Cond.code y bytes maxL ret :: ws) rm) (fun a U => a = as' ∧ Z.Warmed39 U.vm ∧ U.heap = h) (fun _ _ _ _ _ => True) (fun _ U o U' => ∃ v L, o = .returned v ∧ Q v U'.heap L ∧ FrameEnd U o U' L rm.cells rm.slots)
theorem own_met {y : MethodName} {bytes : ByteArray} {maxL : Nat} {ret : Option FieldType} {ws : List Jvm.Cond} {rm : Room} {as' : Array Value} {Z : State} {h : Heap} {Q : Option Value → Heap → List Loc → Prop} (hpn : plainFor y = true)
    (body : ∀ p e s m below meth c s₁, Stand p l e rm s m as' below meth c s₁ [] 0 0 → p.tables.exec = Jvm.exec → c.code = bytes → c.maxLocals = maxL → s.vm.findClass y.cls = some m.cls → meth.name = y.name → meth.sig.returnType = ret → meth.locks = false → Z.Warmed39 s.vm → s₁.heap = h →
      ORun p e below s Q rm.cells rm.slots s₁ (entryFrame m as' maxL)) : OMet l y bytes maxL ret ws rm as' Z h Q := by
  refine MetFree.of_bodySF hpn hisR ?_
  intro p e s m args below meth c s₁ Bd hml0 hP hK
  obtain ⟨rfl, hZ, hh⟩ := hP
  exact body p e s m below meth c s₁ (Stand.of_body Bd) Bd.exec Bd.bytes hml0 (findClass_of_methodNamed Bd.named) (name_of_methodNamed Bd.named Bd.method).1 Bd.returns Bd.notSynchronized hZ (by rw [← hh, Bd.state]; rfl)
section Calls
variable {Z : State} {a0 : Array Value} {h : Heap} {own : String} {index : Nat} {y z : MethodName} {bytes : ByteArray} {maxL : Nat} {ret : Option FieldType} {rm : Room} {as' : Array Value} {Qc : Option Value → Heap → List Loc → Prop} {W pc : Nat} {Ls : Array Slot} {st argsL rest : List Value}
theorem own_callS (X : Stand p l e R s m args below meth c T locs cells slots) (hx : p.tables.exec = Jvm.exec) (hZ : Z.Warmed39 s.vm) (hown : s.vm.findClass own = some m.cls) (w1 : (Jvm.Cond.methodLink own index y).before a0 Z = true) (w2 : (Jvm.Cond.static y).before a0 Z = true) (w3 : (Jvm.Cond.initialized y.cls).before a0 Z = true) (w4 : (Jvm.Cond.code y bytes maxL ret).before a0 Z = true)
    (hy : y.cls ≠ "java/lang/invoke/MethodHandle" ∧ y.cls ≠ "java/lang/invoke/VarHandle") (M : OMet l y bytes maxL ret [] rm as' Z h Qc) (eT : T.heap = h) (hf : rm.frames + 1 ≤ R.frames) (hl : W + (maxL + 11) + rm.locals ≤ R.locals) (hc : cells + rm.cells ≤ R.cells) (hs : slots + rm.slots ≤ R.slots)
    (hsz : Ls.size = c.maxLocals) (hlen : ∀ sig, parseMethodDescriptor y.desc = some sig → argsL.length = sig.parameters.length) (hst : st = argsL.reverse ++ rest) (has : argsL.toArray = as') (hW : 2 * 0 + (rest.map fun v => v.category).sum ≤ W) (hd : decode c.code pc = .ok (.invokestatic index, 3))
    (K : ∀ T' L v, Stand p l e R s m args below meth c T' (locs ++ L) (cells + rm.cells) (slots + rm.slots) → Qc v T'.heap L → ORun p e below s Q C S T' (mkF m (pc + 3) Ls (v.toList ++ rest))) : ORun p e below s Q C S T (mkF m pc Ls st) := by
  obtain ⟨v, _, ⟨T', L', k', n'⟩, -, X', ⟨Lc, hQ, e1, e2, e3⟩, stp⟩ := Jvm.LawKit.callS X hx (y := y) hown (mvT hZ w1) (mvT hZ w2) (mvT hZ w3) (mvT hZ w4) hy (backOf (W := W) M hZ w4 w3 hf hl) (g := mkF m pc Ls st) rfl hsz (argsL := argsL) (rest := rest) hlen hst hW hd (fun _ _ => ⟨has, eT, hc, hs⟩)
  dsimp only [Pt.U, Pt.locs, Pt.cells, Pt.slots] at X' e1 e2 e3 stp hQ
  subst e1 e2 e3
  exact own_by stp (K T' Lc v X' hQ)
theorem own_callC (X : Stand p l e R s m args below meth c T locs cells slots) (hx : p.tables.exec = Jvm.exec) (hZ : Z.Warmed39 s.vm) (hown : s.vm.findClass own = some m.cls) (hn : y.name = "<init>") (w1 : (Jvm.Cond.methodLink own index y).before a0 Z = true) (w2 : (Jvm.Cond.instanceMethod y).before a0 Z = true) (w3 : (Jvm.Cond.initialized y.cls).before a0 Z = true) (w4 : (Jvm.Cond.code y bytes maxL none).before a0 Z = true)
    (hy : y.cls ≠ "java/lang/invoke/MethodHandle" ∧ y.cls ≠ "java/lang/invoke/VarHandle") (M : OMet l y bytes maxL none [] rm as' Z h Qc) (eT : T.heap = h) (hf : rm.frames + 1 ≤ R.frames) (hl : W + (maxL + 11) + rm.locals ≤ R.locals) (hc : cells + rm.cells ≤ R.cells) (hs : slots + rm.slots ≤ R.slots)
    {b : Addr} (hsz : Ls.size = c.maxLocals) (hlen : ∀ sig, parseMethodDescriptor y.desc = some sig → argsL.length = sig.parameters.length) (hst : st = argsL.reverse ++ .ref b :: rest) (has : (.ref b :: argsL).toArray = as') (hW : 2 * 0 + (rest.map fun v => v.category).sum ≤ W) (hd : decode c.code pc = .ok (.invokespecial index, 3))
    (K : ∀ T' L v, Stand p l e R s m args below meth c T' (locs ++ L) (cells + rm.cells) (slots + rm.slots) → Qc v T'.heap L → ORun p e below s Q C S T' (mkF m (pc + 3) Ls (v.toList ++ rest))) : ORun p e below s Q C S T (mkF m pc Ls st) := by
  obtain ⟨v, _, ⟨T', L', k', n'⟩, -, X', ⟨Lc, hQ, e1, e2, e3⟩, stp⟩ := X.specialBack hx (y := y) hn hown (mvT hZ w1) (mvT hZ w2) (mvT hZ w4) hy (backOf (W := W) M hZ w4 w3 hf hl) (g := mkF m pc Ls st) rfl hsz (Steps.refl _) (a := b) (argsL := argsL) (rest := rest) hlen hst hW hd (fun _ _ => ⟨has, eT, hc, hs⟩)
  dsimp only [Pt.U, Pt.locs, Pt.cells, Pt.slots] at X' e1 e2 e3 stp hQ
  subst e1 e2 e3
  exact own_tr stp (K T' Lc v X' hQ)
theorem own_callV (X : Stand p l e R s m args below meth c T locs cells slots) (hx : p.tables.exec = Jvm.exec) (hZ : Z.Warmed39 s.vm) (hown : s.vm.findClass own = some m.cls) {Cn : String} {b : Addr} (E : Exa Z h b Cn) (w1 : (Jvm.Cond.methodLink own index y).before a0 Z = true) (wd : (Jvm.Cond.declares y).before a0 Z = true) (nf : NotFace s y) (ws : (Jvm.Cond.selects Cn y z).before a0 Z = true) (w2 : (Jvm.Cond.instanceMethod z).before a0 Z = true) (w3 : (Jvm.Cond.initialized z.cls).before a0 Z = true) (w4 : (Jvm.Cond.code z bytes maxL ret).before a0 Z = true)
    (hy : y.cls ≠ "java/lang/invoke/MethodHandle" ∧ y.cls ≠ "java/lang/invoke/VarHandle") (M : OMet l z bytes maxL ret [] rm as' Z h Qc) (eT : T.heap = h) (hf : rm.frames + 1 ≤ R.frames) (hl : W + (maxL + 11) + rm.locals ≤ R.locals) (hc : cells + rm.cells ≤ R.cells) (hs : slots + rm.slots ≤ R.slots)
    (hsz : Ls.size = c.maxLocals) (hlen : ∀ sig, parseMethodDescriptor y.desc = some sig → argsL.length = sig.parameters.length) (hst : st = argsL.reverse ++ .ref b :: rest) (has : (.ref b :: argsL).toArray = as') (hW : 2 * 0 + (rest.map fun v => v.category).sum ≤ W) (hd : decode c.code pc = .ok (.invokevirtual index, 3))
    (K : ∀ T' L v, Stand p l e R s m args below meth c T' (locs ++ L) (cells + rm.cells) (slots + rm.slots) → Qc v T'.heap L → ORun p e below s Q C S T' (mkF m (pc + 3) Ls (v.toList ++ rest))) : ORun p e below s Q C S T (mkF m pc Ls st) := by
  obtain ⟨cq, kq, qa, qb, qc⟩ := isOf hZ eT E
  obtain ⟨v, _, ⟨T', L', k', n'⟩, -, X', ⟨Lc, hQ, e1, e2, e3⟩, stp⟩ := X.virtualBack hx (y := y) (z := z) hown (mvT hZ w1) (mvT hZ wd) nf (mvT hZ ws) (mvT hZ w2) hy (backOf (W := W) M hZ w4 w3 hf hl) qa qc (g := mkF m pc Ls st) rfl hsz (Steps.refl _) (argsL := argsL) (rest := rest) hlen hst hW hd (fun _ _ => ⟨has, eT, hc, hs⟩)
  dsimp only [Pt.U, Pt.locs, Pt.cells, Pt.slots] at X' e1 e2 e3 stp hQ
  subst e1 e2 e3
  exact own_tr stp (K T' Lc v X' hQ)
end Calls
end OwnRun
theorem own_lt {x y : Int32} {a b : Int} (h : x < y) (ha : x.toInt = a) (hb : y.toInt = b) : a < b := by subst ha hb; exact Int32.lt_iff_toInt_lt.mp h
theorem own_nlt {x y : Int32} {a b : Int} (h : ¬ x < y) (ha : x.toInt = a) (hb : y.toInt = b) : b ≤ a := by subst ha hb; exact Int.not_lt.mp fun q => h (Int32.lt_iff_toInt_lt.mpr q)
theorem own_eq {x y : Int32} {a b : Int} (h : x = y) (ha : x.toInt = a) (hb : y.toInt = b) : a = b := by subst ha hb h; rfl
theorem own_ne {x y : Int32} {a b : Int} (h : ¬ x = y) (ha : x.toInt = a) (hb : y.toInt = b) : a ≠ b := by subst ha hb; exact fun q => h (Int32.toInt_inj.mp q)
theorem own_ltL {x y : Int64} {a b : Int} (h : x < y) (ha : x.toInt = a) (hb : y.toInt = b) : a < b := by subst ha hb; exact Int64.lt_iff_toInt_lt.mp h
theorem own_nltL {x y : Int64} {a b : Int} (h : ¬ x < y) (ha : x.toInt = a) (hb : y.toInt = b) : b ≤ a := by subst ha hb; exact Int.not_lt.mp fun q => h (Int64.lt_iff_toInt_lt.mpr q)
theorem own_eqL {x y : Int64} {a b : Int} (h : x = y) (ha : x.toInt = a) (hb : y.toInt = b) : a = b := by subst ha hb h; rfl
theorem own_neL {x y : Int64} {a b : Int} (h : ¬ x = y) (ha : x.toInt = a) (hb : y.toInt = b) : a ≠ b := by subst ha hb; exact fun q => h (Int64.toInt_inj.mp q)
theorem own_lc {cd : ClassFile.Cond} {x y : Int64} {b : Bool} (h : if_icmp.holds cd (lcmpW x y) 0 = b) : ifCond.holds cd (lcmpW x y) = b := (if0 _ _).trans h
theorem own_lclt {x y : Int64} (h : x < y) : ifCond.holds .lt (lcmpW x y) = true ∧ ifCond.holds .ge (lcmpW x y) = false := ⟨own_lc (tlt ((lw_lt x y).mpr h)).1, own_lc (tlt ((lw_lt x y).mpr h)).2.1⟩
theorem own_lcnlt {x y : Int64} (h : ¬ x < y) : ifCond.holds .lt (lcmpW x y) = false ∧ ifCond.holds .ge (lcmpW x y) = true := have q : ¬ lcmpW x y < 0 := fun z => h ((lw_lt x y).mp z); ⟨own_lc (flt q).1, own_lc (flt q).2.1⟩
theorem own_lcgt {x y : Int64} (h : y < x) : ifCond.holds .gt (lcmpW x y) = true ∧ ifCond.holds .le (lcmpW x y) = false := ⟨own_lc (tlt ((lw_gt x y).mpr h)).2.2.1, own_lc (tlt ((lw_gt x y).mpr h)).2.2.2⟩
theorem own_lcngt {x y : Int64} (h : ¬ y < x) : ifCond.holds .gt (lcmpW x y) = false ∧ ifCond.holds .le (lcmpW x y) = true := have q : ¬ 0 < lcmpW x y := fun z => h ((lw_gt x y).mp z); ⟨own_lc (flt q).2.2.1, own_lc (flt q).2.2.2⟩
theorem own_lceq {x y : Int64} (h : x = y) : ifCond.holds .eq (lcmpW x y) = true ∧ ifCond.holds .ne (lcmpW x y) = false := ⟨own_lc (teq ((lw_eq x y).mpr h)).1, own_lc (teq ((lw_eq x y).mpr h)).2⟩
theorem own_lcne {x y : Int64} (h : ¬ x = y) : ifCond.holds .eq (lcmpW x y) = false ∧ ifCond.holds .ne (lcmpW x y) = true := have q : ¬ lcmpW x y = 0 := fun z => h ((lw_eq x y).mp z); ⟨own_lc (feq q).1, own_lc (feq q).2⟩
theorem own_kext {h0 h : Heap} (K : Keep h0 h []) : Ext h0 h := ⟨K.1, fun a c q => K.2.1 a c q nin0⟩
section OwnVec
variable {p : Program} {l : Launch} {e : Env} {R : Room} {s : State} {m : MethodId} {args : Array Value} {below : List Frame} {meth : Method} {c : Code} {T T' : State} {locs : List Loc} {cells slots : Nat} {Q : Option Value → Heap → List Loc → Prop} {C S : Nat} {Z : State} {a0 : Array Value} {h h' : Heap} {a b : Addr} {ty : FieldType} {L : List Int32} {pc : Nat} {Ls : Array Slot} {rest : List Value}
/-- the array at a holds the ints of L, and no more -/
def OVec (Z : State) (h : Heap) (a : Addr) (ty : FieldType) (L : List Int32) : Prop := ∃ c : Cell, Arr Z h a c ty ∧ c.slots = (L.map Value.int).toArray
theorem OVec.lt (V : OVec Z h a ty L) : a < h.size := by obtain ⟨c, A, -⟩ := V; exact A.lt
theorem OVec.ext (V : OVec Z h a ty L) (E : Ext h h') : OVec Z h' a ty L := by obtain ⟨c, A, r⟩ := V; exact ⟨c, A.ext E, r⟩
theorem OVec.other {sl : Nat} {v : Value} (V : OVec Z h b ty L) (W : Wr h h' a sl v) (q : b ≠ a) : OVec Z h' b ty L := by obtain ⟨c, A, r⟩ := V; exact ⟨c, A.other W q, r⟩
theorem OVec.keep {ws : List Addr} (V : OVec Z h a ty L) (K : Keep h h' ws) (q : a ∉ ws) : OVec Z h' a ty L := by obtain ⟨c, A, r⟩ := V; exact ⟨c, ⟨K.2.1 a c A.1 q, A.2⟩, r⟩
theorem OVec.set {j : Nat} {x : Int32} (V : OVec Z h a ty L) (W : Wr h h' a j (.int x)) : OVec Z h' a ty (L.set j x) := by
  obtain ⟨c, A, r⟩ := V
  refine ⟨c.setSlot j (.int x), A.same W, ?_⟩
  show c.slots.setIfInBounds j (.int x) = _
  rw [r, List.setIfInBounds_toArray, List.map_set]
theorem OVec.new {k : ClassId} {n : Int32} (A : Arr Z h a (newA k ty n) ty) (hd : defaultValue ty = .int 0) {N : Nat} (hn : n.toInt = N) : OVec Z h a ty (List.replicate N 0) := by
  refine ⟨_, A, ?_⟩
  have e : n.toNatClampNeg = N := by simp only [Int32.toNatClampNeg]; omega
  simp [newA, hd, e]
theorem own_ix {j : Int32} {i : Nat} (hj : j.toInt = i) : ¬ j < 0 ∧ j.toNatClampNeg = i := by
  refine ⟨fun q => ?_, ?_⟩
  · have := Int32.lt_iff_toInt_lt.mp q; have z : (0 : Int32).toInt = 0 := rfl; omega
  · simp only [Int32.toNatClampNeg]; omega
theorem own_in {c : Cell} {j : Int32} {i : Nat} (hj : j.toInt = i) (r : c.slots = (L.map Value.int).toArray) (hi : i < L.length) : ¬ (j < 0 ∨ c.slots.size ≤ j.toNatClampNeg) := by
  obtain ⟨q1, q2⟩ := own_ix hj
  rintro (q | q)
  · exact q1 q
  · rw [r, q2] at q; simp at q; omega
theorem own_iaload (X : Stand p l e R s m args below meth c T locs cells slots) (hx : p.tables.exec = Jvm.exec) (hZ : Z.Warmed39 s.vm) (eT : T.heap = h) (V : OVec Z h a .int L) {j : Int32} {i : Nat} (hj : j.toInt = i) (hi : i < L.length) (hd : decode c.code pc = .ok (.iaload, 1))
    (K : ∀ v, v = L.getD i 0 → ORun p e below s Q C S T (mkF m (pc + 1) Ls (.int v :: rest))) : ORun p e below s Q C S T (mkF m pc Ls (.int j :: .ref a :: rest)) := by
  obtain ⟨cl, A, r⟩ := V
  refine own_by (fun t k => X.iaload hx (j := j) (v := .int (L.getD i 0)) (by rw [eT]; exact A.1) (State.isArrayOf_alike hZ.alike A.2.1) A.2.2 (own_in hj r hi) ?_ (g := mkF m pc Ls (.int j :: .ref a :: rest)) rfl rfl hd _ k) (K _ rfl)
  rw [(own_ix hj).2, r]; simp [List.getD_eq_getElem?_getD, List.getElem?_eq_getElem hi]
theorem own_baload (X : Stand p l e R s m args below meth c T locs cells slots) (hx : p.tables.exec = Jvm.exec) (hZ : Z.Warmed39 s.vm) (eT : T.heap = h) (V : OVec Z h a .byte L) {j : Int32} {i : Nat} (hj : j.toInt = i) (hi : i < L.length) (hd : decode c.code pc = .ok (.baload, 1))
    (K : ∀ v, v = L.getD i 0 → ORun p e below s Q C S T (mkF m (pc + 1) Ls (.int v :: rest))) : ORun p e below s Q C S T (mkF m pc Ls (.int j :: .ref a :: rest)) := by
  obtain ⟨cl, A, r⟩ := V
  refine own_by (fun t k => X.baloadBytes hx (j := j) (v := .int (L.getD i 0)) (by rw [eT]; exact A.1) (State.isArrayOf_alike hZ.alike A.2.1) A.2.2 (own_in hj r hi) ?_ (g := mkF m pc Ls (.int j :: .ref a :: rest)) rfl rfl hd _ k) (K _ rfl)
  rw [(own_ix hj).2, r]; simp [List.getD_eq_getElem?_getD, List.getElem?_eq_getElem hi]
theorem own_len (X : Stand p l e R s m args below meth c T locs cells slots) (hx : p.tables.exec = Jvm.exec) (hZ : Z.Warmed39 s.vm) (eT : T.heap = h) (V : OVec Z h a ty L) {n : Nat} (hl : L.length = n) (hd : decode c.code pc = .ok (.arraylength, 1))
    (K : ORun p e below s Q C S T (mkF m (pc + 1) Ls (.int n.toInt32 :: rest))) : ORun p e below s Q C S T (mkF m pc Ls (.ref a :: rest)) := by
  obtain ⟨cl, A, r⟩ := V
  have hs : cl.slots.size = n := by rw [r]; simp [hl]
  refine own_by (fun t k => X.arraylength hx (by rw [eT]; exact A.1) (State.isArrayOf_alike hZ.alike A.2.1) (g := mkF m pc Ls (.ref a :: rest)) rfl rfl hd _ k) ?_
  rw [hs]; exact K
theorem own_iastore (X : Stand p l e R s m args below meth c T locs cells slots) (hx : p.tables.exec = Jvm.exec) (hZ : Z.Warmed39 s.vm) (eT : T.heap = h) (V : OVec Z h a .int L) {j x : Int32} {i : Nat} (hj : j.toInt = i) (hi : i < L.length) (hd : decode c.code pc = .ok (.iastore, 1))
    (K : ∀ T' h' L', Stand p l e R s m args below meth c T' (locs ++ [⟨a, i⟩]) cells slots → T'.heap = h' → Wr h h' a i (.int x) → L' = L.set i x → OVec Z h' a .int L' → ORun p e below s Q C S T' (mkF m (pc + 1) Ls rest)) : ORun p e below s Q C S T (mkF m pc Ls (.int x :: .int j :: .ref a :: rest)) := by
  obtain ⟨cl, A, r⟩ := id V
  obtain ⟨T', h', X', e', W, st⟩ := stI X hx hZ eT A (own_in hj r hi) (g := mkF m pc Ls (.int x :: .int j :: .ref a :: rest)) rfl rfl hd
  rw [(own_ix hj).2] at X' W
  exact own_by st (K T' h' _ X' e' W rfl (V.set W))
theorem own_bastore (X : Stand p l e R s m args below meth c T locs cells slots) (hx : p.tables.exec = Jvm.exec) (hZ : Z.Warmed39 s.vm) (eT : T.heap = h) (V : OVec Z h a .byte L) {j x : Int32} {i : Nat} (hj : j.toInt = i) (hi : i < L.length) (hd : decode c.code pc = .ok (.bastore, 1))
    (K : ∀ T' h' L', Stand p l e R s m args below meth c T' (locs ++ [⟨a, i⟩]) cells slots → T'.heap = h' → Wr h h' a i (.int (nar .byte x)) → L' = L.set i (nar .byte x) → OVec Z h' a .byte L' → ORun p e below s Q C S T' (mkF m (pc + 1) Ls rest)) : ORun p e below s Q C S T (mkF m pc Ls (.int x :: .int j :: .ref a :: rest)) := by
  obtain ⟨cl, A, r⟩ := id V
  obtain ⟨T', h', X', e', W, st⟩ := stB X hx hZ eT A (own_in hj r hi) (g := mkF m pc Ls (.int x :: .int j :: .ref a :: rest)) rfl rfl hd
  rw [(own_ix hj).2] at X' W
  exact own_by st (K T' h' _ X' e' W rfl (V.set W))
theorem own_newarray (X : Stand p l e R s m args below meth c T locs cells slots) (hx : p.tables.exec = Jvm.exec) (hZ : Z.Warmed39 s.vm) {aty : ArrayType} (w : (Jvm.Cond.arrayClass (newarray.typeOf aty)).before a0 Z = true) (eT : T.heap = h) (hdv : defaultValue (newarray.typeOf aty) = .int 0) {n : Int32} {N cap : Nat} (hn : n.toInt = N) (hcap : N ≤ cap) (hb : cap * 8 ≤ 536870912) (hc : cells + 1 ≤ R.cells) (hl : slots + cap ≤ R.slots) {ad : String} (had : "[" ++ (newarray.typeOf aty).toString = ad) (hd : decode c.code pc = .ok (.newarray aty, 2))
    (K : ∀ T' h' b L', b = h.size → Stand p l e R s m args below meth c T' locs (cells + 1) (slots + cap) → T'.heap = h' → Ext h h' → L' = List.replicate N (0 : Int32) → OVec Z h' b (newarray.typeOf aty) L' → Exa Z h' b ad → ORun p e below s Q C S T' (mkF m (pc + 2) Ls (.ref b :: rest))) : ORun p e below s Q C S T (mkF m pc Ls (.int n :: rest)) := by
  have q := own_ix hn
  obtain ⟨T', h', cA, X', e', E, A, Ex, st⟩ := newPE X hx hZ w eT (g := mkF m pc Ls (.int n :: rest)) rfl hd rfl q.1 (cap := cap) (by rw [q.2]; exact hcap) hb hc hl had
  exact own_by st (K T' h' _ _ rfl X' e' E rfl (OVec.new A hdv hn) Ex)
end OwnVec
section OwnVecJ
variable {p : Program} {l : Launch} {e : Env} {R : Room} {s : State} {m : MethodId} {args : Array Value} {below : List Frame} {meth : Method} {c : Code} {T T' : State} {locs : List Loc} {cells slots : Nat} {Q : Option Value → Heap → List Loc → Prop} {C S : Nat} {Z : State} {a0 : Array Value} {h h' : Heap} {a b : Addr} {L : List Int64} {pc : Nat} {Ls : Array Slot} {rest : List Value}
def OVecJ (Z : State) (h : Heap) (a : Addr) (L : List Int64) : Prop := ∃ c : Cell, Arr Z h a c .long ∧ c.slots = (L.map Value.long).toArray
theorem OVecJ.lt (V : OVecJ Z h a L) : a < h.size := by obtain ⟨c, A, -⟩ := V; exact A.lt
theorem OVecJ.ext (V : OVecJ Z h a L) (E : Ext h h') : OVecJ Z h' a L := by obtain ⟨c, A, r⟩ := V; exact ⟨c, A.ext E, r⟩
theorem OVecJ.other {sl : Nat} {v : Value} (V : OVecJ Z h b L) (W : Wr h h' a sl v) (q : b ≠ a) : OVecJ Z h' b L := by obtain ⟨c, A, r⟩ := V; exact ⟨c, A.other W q, r⟩
theorem OVecJ.keep {ws : List Addr} (V : OVecJ Z h a L) (K : Keep h h' ws) (q : a ∉ ws) : OVecJ Z h' a L := by obtain ⟨c, A, r⟩ := V; exact ⟨c, ⟨K.2.1 a c A.1 q, A.2⟩, r⟩
theorem OVecJ.set {j : Nat} {x : Int64} (V : OVecJ Z h a L) (W : Wr h h' a j (.long x)) : OVecJ Z h' a (L.set j x) := by
  obtain ⟨c, A, r⟩ := V
  refine ⟨c.setSlot j (.long x), A.same W, ?_⟩
  show c.slots.setIfInBounds j (.long x) = _
  rw [r, List.setIfInBounds_toArray, List.map_set]
theorem OVecJ.new {k : ClassId} {n : Int32} (A : Arr Z h a (newA k .long n) .long) {N : Nat} (hn : n.toInt = N) : OVecJ Z h a (List.replicate N 0) := by
  refine ⟨_, A, ?_⟩
  have e : n.toNatClampNeg = N := by simp only [Int32.toNatClampNeg]; omega
  have d : defaultValue .long = .long 0 := rfl
  simp [newA, e, d]
theorem own_inJ {c : Cell} {j : Int32} {i : Nat} (hj : j.toInt = i) (r : c.slots = (L.map Value.long).toArray) (hi : i < L.length) : ¬ (j < 0 ∨ c.slots.size ≤ j.toNatClampNeg) := by
  obtain ⟨q1, q2⟩ := own_ix hj
  rintro (q | q)
  · exact q1 q
  · rw [r, q2] at q; simp at q; omega
theorem own_laload (X : Stand p l e R s m args below meth c T locs cells slots) (hx : p.tables.exec = Jvm.exec) (hZ : Z.Warmed39 s.vm) (eT : T.heap = h) (V : OVecJ Z h a L) {j : Int32} {i : Nat} (hj : j.toInt = i) (hi : i < L.length) (hd : decode c.code pc = .ok (.laload, 1))
    (K : ∀ v, v = L.getD i 0 → ORun p e below s Q C S T (mkF m (pc + 1) Ls (.long v :: rest))) : ORun p e below s Q C S T (mkF m pc Ls (.int j :: .ref a :: rest)) := by
  obtain ⟨cl, A, r⟩ := V
  refine own_by (fun t k => X.laload hx (j := j) (v := .long (L.getD i 0)) (by rw [eT]; exact A.1) (State.isArrayOf_alike hZ.alike A.2.1) A.2.2 (own_inJ hj r hi) ?_ (g := mkF m pc Ls (.int j :: .ref a :: rest)) rfl rfl hd _ k) (K _ rfl)
  rw [(own_ix hj).2, r]; simp [List.getD_eq_getElem?_getD, List.getElem?_eq_getElem hi]
theorem own_lastore (X : Stand p l e R s m args below meth c T locs cells slots) (hx : p.tables.exec = Jvm.exec) (hZ : Z.Warmed39 s.vm) (eT : T.heap = h) (V : OVecJ Z h a L) {j : Int32} {x : Int64} {i : Nat} (hj : j.toInt = i) (hi : i < L.length) (hd : decode c.code pc = .ok (.lastore, 1))
    (K : ∀ T' h' L', Stand p l e R s m args below meth c T' (locs ++ [⟨a, i⟩]) cells slots → T'.heap = h' → Wr h h' a i (.long x) → L' = L.set i x → OVecJ Z h' a L' → ORun p e below s Q C S T' (mkF m (pc + 1) Ls rest)) : ORun p e below s Q C S T (mkF m pc Ls (.long x :: .int j :: .ref a :: rest)) := by
  obtain ⟨cl, A, r⟩ := id V
  obtain ⟨T', h', X', e', W, st⟩ := stJ X hx hZ eT A (own_inJ hj r hi) (g := mkF m pc Ls (.long x :: .int j :: .ref a :: rest)) rfl rfl hd
  rw [(own_ix hj).2] at X' W
  exact own_by st (K T' h' _ X' e' W rfl (V.set W))
theorem own_newJ (X : Stand p l e R s m args below meth c T locs cells slots) (hx : p.tables.exec = Jvm.exec) (hZ : Z.Warmed39 s.vm) (w : (Jvm.Cond.arrayClass .long).before a0 Z = true) (eT : T.heap = h) {n : Int32} {N cap : Nat} (hn : n.toInt = N) (hcap : N ≤ cap) (hb : cap * 8 ≤ 536870912) (hc : cells + 1 ≤ R.cells) (hl : slots + cap ≤ R.slots) (hd : decode c.code pc = .ok (.newarray .long, 2))
    (K : ∀ T' h' b L', b = h.size → Stand p l e R s m args below meth c T' locs (cells + 1) (slots + cap) → T'.heap = h' → Ext h h' → L' = List.replicate N (0 : Int64) → OVecJ Z h' b L' → ORun p e below s Q C S T' (mkF m (pc + 2) Ls (.ref b :: rest))) : ORun p e below s Q C S T (mkF m pc Ls (.int n :: rest)) := by
  have q := own_ix hn
  obtain ⟨T', h', cA, X', e', E, A, st⟩ := newP X hx hZ (aty := .long) w eT (g := mkF m pc Ls (.int n :: rest)) rfl hd rfl q.1 (cap := cap) (by rw [q.2]; exact hcap) hb hc hl
  exact own_by st (K T' h' _ _ rfl X' e' E rfl (OVecJ.new A hn))
end OwnVecJ
/-- what a case's word on an array's length says -/
theorem own_arrlen {args : Array Value} {s : State} {t : Term} {a : Addr} {cl : Cell} {ty : FieldType} {n : Int32} (ht : t.eval args s none [] s = some (.ref a)) (A : Arr s s.heap a cl ty) (h : (Jvm.Cond.eq (Term.length t) (Term.int n)).value args s none s [] = some true) : (cl.slots.size : Int) = n.toInt := by
  obtain ⟨x, y, ex, ey, k1, k2⟩ := cmp_v (Or.inl h)
  obtain rfl : y = .int n := (Option.some.inj ((Term.int_eval n).symm.trans ey)).symm
  obtain ⟨a', cell, ha', hat, hv, hs⟩ := Jvm.Free.SB.Term.length_small ex
  cases ht.symm.trans ha'
  cases A.1.symm.trans (State.arrayAt?_spec hat).1
  subst hv
  have q : cl.slots.size.toInt32 = n := gotT (Cond.eq_ints ex ey) h
  rw [← q, len_toInt hs]
section OwnTab
variable {args : Array Value} {s : State} {t : Term} {d : Addr} {cl : Cell} {j x : Int32} {c : Jvm.Cond}
theorem own_at (ht : t.eval args s none [] s = some (.ref d)) (hat : s.arrayAt? d = some cl) (hs : cl.slots.size = 100) (hall : (Jvm.Cond.all t c).value args s none s [] = some true) (h0 : 0 ≤ j.toInt) (h1 : j.toInt < 100) : c.value args s none s [j.toNatClampNeg] = some true :=
  Cond.all_elim ht hat hall _ (by simp only [Int32.toNatClampNeg]; omega)
theorem own_el (ht' : t.eval args s none [j.toNatClampNeg] s = some (.ref d)) (hat : s.arrayAt? d = some cl) (h0 : ¬ j < 0) (hv : cl.slots[j.toNatClampNeg]? = some (.int x)) : (Term.elem t (.index 0)).eval args s none [j.toNatClampNeg] s = some (.int x) :=
  (elem_f ht' (idx_at h0) hat h0).trans hv
theorem own_orN {A B : Jvm.Cond} {idx : List Nat} {P : Prop} [Decidable P] (h : (Jvm.Cond.or A B).value args s none s idx = some true) (hA : A.value args s none s idx = some (decide P)) (hP : ¬ P) : B.value args s none s idx = some true := by
  rw [Cond.or_of_right (nay hA hP)] at h; exact h
variable {idx : List Nat} {E N : Term} {a b k : Int32} {K : Int64} {B : Jvm.Cond}
theorem own_notlt (hN : N.eval args s none idx s = some (.int j)) (h : (Jvm.Cond.or (.lt N (.int a)) B).value args s none s idx = some true) (p : a.toInt ≤ j.toInt) : B.value args s none s idx = some true :=
  own_orN h (Cond.lt_ints hN (Term.int_eval a)) (fun q => by rw [Int32.lt_iff_toInt_lt] at q; omega)
theorem own_notle (hN : N.eval args s none idx s = some (.int j)) (h : (Jvm.Cond.or (.le (.int b) N) B).value args s none s idx = some true) (p : j.toInt < b.toInt) : B.value args s none s idx = some true :=
  own_orN h (Cond.le_ints (Term.int_eval b) hN) (fun q => by rw [Int32.le_iff_toInt_le] at q; omega)
theorem own_eqL' (hN : N.eval args s none idx s = some (.int j)) (hE : E.eval args s none idx s = some (.int x)) (h : (Jvm.Cond.eq (.op1 .i2l E) (.op2 .ladd (.op1 .i2l N) (.long K))).value args s none s idx = some true) : x.toInt64 = j.toInt64 + K :=
  gotT (eq_L ((op1_f hE).trans rfl) ((op2_f ((op1_f hN).trans rfl) rfl).trans rfl)) h
theorem own_eqI' (hN : N.eval args s none idx s = some (.int j)) (hE : E.eval args s none idx s = some (.int x)) (h : (Jvm.Cond.eq E (.sub N (.int k))).value args s none s idx = some true) : x = j - k :=
  gotT (Cond.eq_ints hE (by simp [Term.eval, hN])) h
theorem own_eqC' (hE : E.eval args s none idx s = some (.int x)) (h : (Jvm.Cond.eq E (.int k)).value args s none s idx = some true) : x = k :=
  gotT (Cond.eq_ints hE (Term.int_eval k)) h
/-- the table as a list -/
theorem own_tabvec (hf : Fit s) (A : Arr s s.heap d cl .byte) (hs : cl.slots.size = 100) : OVec s s.heap d .byte ((List.range 100).map fun i => atv cl (Int32.ofNat i)) ∧ ∀ j : Int32, 0 ≤ j.toInt → j.toInt < 100 → cl.slots[j.toNatClampNeg]? = some (.int (atv cl j)) := by
  have T := Tab.start (z := 100) hf A (Or.inr (Or.inr (Or.inl rfl))) (by omega) (by rw [hs]; rfl) (by decide)
  have g : ∀ j : Int32, 0 ≤ j.toInt → j.toInt < 100 → cl.slots[j.toNatClampNeg]? = some (.int (atv cl j)) := fun j h0 h1 => T.2.2.2 j (by
    rintro (q | q)
    · rw [Int32.lt_iff_toInt_lt] at q; have z : (0 : Int32).toInt = 0 := rfl; omega
    · simp only [Int32.toNatClampNeg] at q; omega)
  refine ⟨⟨cl, A, ?_⟩, g⟩
  apply Array.ext_getElem?
  intro i
  by_cases hi : i < 100
  · have e : (Int32.ofNat i).toInt = i := Int32.toInt_ofNat_of_lt (by omega)
    have q := g (Int32.ofNat i) (by omega) (by omega)
    have e2 : (Int32.ofNat i).toNatClampNeg = i := by simp only [Int32.toNatClampNeg]; omega
    rw [e2] at q
    rw [q]; simp [hi]
  · rw [Array.getElem?_eq_none (by omega), Array.getElem?_eq_none (by simp; omega)]
end OwnTab
/-- the digits of n, the last of them at place q - 1 -/
def own_put : Nat → Nat → List Int32 → List Int32
  | 0, _, L => L
  | q + 1, n, L => if n < 10 then L.set q (Int32.ofNat (48 + n)) else own_put q (n / 10) (L.set q (Int32.ofNat (48 + n % 10)))
theorem own_put_lt {q n : Nat} {L : List Int32} (h : n < 10) : own_put (q + 1) n L = L.set q (Int32.ofNat (48 + n)) := if_pos h
theorem own_put_ge {q n : Nat} {L : List Int32} (h : ¬ n < 10) : own_put (q + 1) n L = own_put q (n / 10) (L.set q (Int32.ofNat (48 + n % 10))) := if_neg h
theorem own_put_len : ∀ (q n : Nat) (L : List Int32), (own_put q n L).length = L.length
  | 0, _, _ => rfl
  | q + 1, n, L => by
    by_cases h : n < 10
    · rw [own_put_lt h, List.length_set]
    · rw [own_put_ge h, own_put_len, List.length_set]
theorem own_put_set : ∀ (q n j : Nat) (c : Int32) (L : List Int32), q ≤ j → own_put q n (L.set j c) = (own_put q n L).set j c
  | 0, _, _, _, _, _ => rfl
  | q + 1, n, j, c, L, hj => by
    by_cases h : n < 10
    · rw [own_put_lt h, own_put_lt h, List.set_comm _ _ (by omega)]
    · rw [own_put_ge h, own_put_ge h, List.set_comm _ _ (by omega), own_put_set q _ j c _ (by omega)]
theorem own_dig {x : Int32} {k : Nat} (hk : k < 10) (hx : x.toInt = 48 + (k : Int)) : x = Int32.ofNat (48 + k) := by
  apply Int32.toInt_inj.mp
  rw [hx, Int32.toInt_ofNat_of_lt (by omega)]
  omega
theorem own_pw (q : Nat) : (10 : Nat) ^ (q + 2) = 100 * 10 ^ q := by rw [Nat.pow_add]; omega
theorem own_pair {q w i j : Nat} {L L1 L2 : List Int32} {x y : Int32} (h : 100 ≤ w) (fit : w < 10 ^ q) (hi : i + 1 = q) (hj : j + 2 = q) (h1 : L1 = L.set i x) (h2 : L2 = L1.set j y) (hx : x.toInt = 48 + ((w % 10 : Nat) : Int)) (hy : y.toInt = 48 + (((w / 10) % 10 : Nat) : Int)) :
    own_put q w L = own_put j (w / 100) L2 ∧ w / 100 < 10 ^ j := by
  subst hj
  obtain rfl : i = j + 1 := by omega
  refine ⟨?_, ?_⟩
  · rw [own_put_ge (by omega), own_put_ge (by omega), ← own_dig (by omega) hx, ← own_dig (by omega) hy, h2, h1, Nat.div_div_eq_div_mul]
  · rw [own_pw] at fit
    exact Nat.div_lt_of_lt_mul fit
theorem own_fit2 {q w : Nat} (h : 10 ≤ w) (fit : w < 10 ^ q) : 2 ≤ q := by
  rcases q with _ | _ | q
  · simp at fit; omega
  · simp at fit; omega
  · omega
theorem own_fit3 {q w : Nat} (h : 100 ≤ w) (fit : w < 10 ^ q) : 3 ≤ q := by
  rcases q with _ | _ | _ | q
  · simp at fit; omega
  · simp at fit; omega
  · simp at fit; omega
  · omega
theorem own_fit1 {q w : Nat} (fit : w < 10 ^ q) (h : 10 ≤ w ∨ 1 ≤ q) : 1 ≤ q := by
  rcases h with h | h
  · have := own_fit2 h fit; omega
  · exact h
theorem own_last2 {q w i j : Nat} {L L1 L2 : List Int32} {x y : Int32} (h : 10 ≤ w) (h' : w < 100) (hi : i + 1 = q) (hj : j + 2 = q) (h1 : L1 = L.set i x) (h2 : L2 = L1.set j y) (hx : x.toInt = 48 + ((w % 10 : Nat) : Int)) (hy : y.toInt = 48 + ((w / 10 : Nat) : Int)) : own_put q w L = L2 := by
  subst hj
  obtain rfl : i = j + 1 := by omega
  rw [own_put_ge (by omega), own_put_lt (by omega), ← own_dig (by omega) hx, ← own_dig (by omega) hy, h2, h1]
theorem own_last1 {q w i : Nat} {L L1 : List Int32} {x : Int32} (h : w < 10) (hi : i + 1 = q) (h1 : L1 = L.set i x) (hx : x.toInt = 48 + (w : Int)) : own_put q w L = L1 := by
  subst hi
  rw [own_put_lt h, ← own_dig h hx, h1]
/-- the law: the digits of n are those of n / 10 and the last one -/
theorem own_law {e n : Nat} {Z A B B1 : List Int32} {x : Int32} (he : 1 ≤ e) (hA : A = own_put e n Z) (hB : (10 ≤ n ∧ B = own_put (e - 1) (n / 10) Z) ∨ (n < 10 ∧ B = Z)) (hB1 : B1 = B.set (e - 1) x) (hx : x.toInt = 48 + ((n % 10 : Nat) : Int)) : A = B1 := by
  obtain ⟨q, rfl⟩ : ∃ q, e = q + 1 := ⟨e - 1, by omega⟩
  simp only [Nat.add_sub_cancel] at hB hB1
  have hd := own_dig (by omega) hx
  rcases hB with ⟨h, rfl⟩ | ⟨h, rfl⟩
  · rw [hA, hB1, own_put_ge (by omega), own_put_set _ _ _ _ _ (Nat.le_refl _), hd]
  · have e1 : n % 10 = n := Nat.mod_eq_of_lt h
    rw [e1] at hd
    rw [hA, hB1, own_put_lt h, hd]
theorem own_ten : ∀ i : Fin 19, (([1, 10, 100, 1000, 10000, 100000, 1000000, 10000000, 100000000, 1000000000, 10000000000, 100000000000, 1000000000000, 10000000000000, 100000000000000, 1000000000000000, 10000000000000000, 100000000000000000, 1000000000000000000] : List Int64).getD i.1 0).toInt = ((10 ^ i.1 : Nat) : Int) := by decide +kernel
theorem own_emod {a : Int} {d w : Nat} (hd : 0 < d) (h : (w : Int) = a % (d : Int)) : w < d := by
  have := Int.emod_lt_of_pos a (show (0 : Int) < (d : Int) by omega)
  omega
theorem pd_0 : parseMethodDescriptor "(J[BI)V" = some ⟨[.long, (.array .byte), .int], none⟩ := by decide +kernel
theorem pd_1 : parseMethodDescriptor "([B[B)Z" = some ⟨[(.array .byte), (.array .byte)], some .boolean⟩ := by decide +kernel
theorem d1_0 : decode prog_68_method_14_code 0 = .ok (.iload_n 3, 1) := by decide +kernel
theorem d1_1 : decode prog_68_method_14_code 1 = .ok (.istore 4, 2) := by decide +kernel
theorem d1_3 : decode prog_68_method_14_code 3 = .ok (.lload_n 0, 1) := by decide +kernel
theorem d1_4 : decode prog_68_method_14_code 4 = .ok (.lstore 5, 2) := by decide +kernel
theorem d1_6 : decode prog_68_method_14_code 6 = .ok (.lload 5, 2) := by decide +kernel
theorem d1_8 : decode prog_68_method_14_code 8 = .ok (.ldc2_w 212, 3) := by decide +kernel
theorem d1_11 : decode prog_68_method_14_code 11 = .ok (.lcmp, 1) := by decide +kernel
theorem d1_12 : decode prog_68_method_14_code 12 = .ok (.ifCond .lt 92, 3) := by decide +kernel
theorem d1_15 : decode prog_68_method_14_code 15 = .ok (.lload 5, 2) := by decide +kernel
theorem d1_17 : decode prog_68_method_14_code 17 = .ok (.ldc2_w 212, 3) := by decide +kernel
theorem d1_20 : decode prog_68_method_14_code 20 = .ok (.ldiv, 1) := by decide +kernel
theorem d1_21 : decode prog_68_method_14_code 21 = .ok (.lstore 7, 2) := by decide +kernel
theorem d1_23 : decode prog_68_method_14_code 23 = .ok (.lload 5, 2) := by decide +kernel
theorem d1_25 : decode prog_68_method_14_code 25 = .ok (.ldc2_w 212, 3) := by decide +kernel
theorem d1_28 : decode prog_68_method_14_code 28 = .ok (.lload 7, 2) := by decide +kernel
theorem d1_30 : decode prog_68_method_14_code 30 = .ok (.lmul, 1) := by decide +kernel
theorem d1_31 : decode prog_68_method_14_code 31 = .ok (.lsub, 1) := by decide +kernel
theorem d1_32 : decode prog_68_method_14_code 32 = .ok (.l2i, 1) := by decide +kernel
theorem d1_33 : decode prog_68_method_14_code 33 = .ok (.istore 9, 2) := by decide +kernel
theorem d1_35 : decode prog_68_method_14_code 35 = .ok (.iconst 0, 1) := by decide +kernel
theorem d1_36 : decode prog_68_method_14_code 36 = .ok (.istore 10, 2) := by decide +kernel
theorem d1_38 : decode prog_68_method_14_code 38 = .ok (.iload 10, 2) := by decide +kernel
theorem d1_40 : decode prog_68_method_14_code 40 = .ok (.iconst 4, 1) := by decide +kernel
theorem d1_41 : decode prog_68_method_14_code 41 = .ok (.if_icmp .ge 56, 3) := by decide +kernel
theorem d1_44 : decode prog_68_method_14_code 44 = .ok (.iload 9, 2) := by decide +kernel
theorem d1_46 : decode prog_68_method_14_code 46 = .ok (.bipush 100, 2) := by decide +kernel
theorem d1_48 : decode prog_68_method_14_code 48 = .ok (.idiv, 1) := by decide +kernel
theorem d1_49 : decode prog_68_method_14_code 49 = .ok (.istore 11, 2) := by decide +kernel
theorem d1_51 : decode prog_68_method_14_code 51 = .ok (.iload 9, 2) := by decide +kernel
theorem d1_53 : decode prog_68_method_14_code 53 = .ok (.bipush 100, 2) := by decide +kernel
theorem d1_55 : decode prog_68_method_14_code 55 = .ok (.iload 11, 2) := by decide +kernel
theorem d1_57 : decode prog_68_method_14_code 57 = .ok (.imul, 1) := by decide +kernel
theorem d1_58 : decode prog_68_method_14_code 58 = .ok (.isub, 1) := by decide +kernel
theorem d1_59 : decode prog_68_method_14_code 59 = .ok (.istore 12, 2) := by decide +kernel
theorem d1_61 : decode prog_68_method_14_code 61 = .ok (.aload_n 2, 1) := by decide +kernel
theorem d1_62 : decode prog_68_method_14_code 62 = .ok (.iinc 4 (-1), 3) := by decide +kernel
theorem d1_65 : decode prog_68_method_14_code 65 = .ok (.iload 4, 2) := by decide +kernel
theorem d1_67 : decode prog_68_method_14_code 67 = .ok (.getstatic 222, 3) := by decide +kernel
theorem d1_70 : decode prog_68_method_14_code 70 = .ok (.iload 12, 2) := by decide +kernel
theorem d1_72 : decode prog_68_method_14_code 72 = .ok (.baload, 1) := by decide +kernel
theorem d1_73 : decode prog_68_method_14_code 73 = .ok (.bastore, 1) := by decide +kernel
theorem d1_74 : decode prog_68_method_14_code 74 = .ok (.aload_n 2, 1) := by decide +kernel
theorem d1_75 : decode prog_68_method_14_code 75 = .ok (.iinc 4 (-1), 3) := by decide +kernel
theorem d1_78 : decode prog_68_method_14_code 78 = .ok (.iload 4, 2) := by decide +kernel
theorem d1_80 : decode prog_68_method_14_code 80 = .ok (.getstatic 226, 3) := by decide +kernel
theorem d1_83 : decode prog_68_method_14_code 83 = .ok (.iload 12, 2) := by decide +kernel
theorem d1_85 : decode prog_68_method_14_code 85 = .ok (.baload, 1) := by decide +kernel
theorem d1_86 : decode prog_68_method_14_code 86 = .ok (.bastore, 1) := by decide +kernel
theorem d1_87 : decode prog_68_method_14_code 87 = .ok (.iload 11, 2) := by decide +kernel
theorem d1_89 : decode prog_68_method_14_code 89 = .ok (.istore 9, 2) := by decide +kernel
theorem d1_91 : decode prog_68_method_14_code 91 = .ok (.iinc 10 1, 3) := by decide +kernel
theorem d1_94 : decode prog_68_method_14_code 94 = .ok (.goto (-56), 3) := by decide +kernel
theorem d1_97 : decode prog_68_method_14_code 97 = .ok (.lload 7, 2) := by decide +kernel
theorem d1_99 : decode prog_68_method_14_code 99 = .ok (.lstore 5, 2) := by decide +kernel
theorem d1_101 : decode prog_68_method_14_code 101 = .ok (.goto (-95), 3) := by decide +kernel
theorem d1_104 : decode prog_68_method_14_code 104 = .ok (.lload 5, 2) := by decide +kernel
theorem d1_106 : decode prog_68_method_14_code 106 = .ok (.l2i, 1) := by decide +kernel
theorem d1_107 : decode prog_68_method_14_code 107 = .ok (.istore 7, 2) := by decide +kernel
theorem d1_109 : decode prog_68_method_14_code 109 = .ok (.iload 7, 2) := by decide +kernel
theorem d1_111 : decode prog_68_method_14_code 111 = .ok (.bipush 100, 2) := by decide +kernel
theorem d1_113 : decode prog_68_method_14_code 113 = .ok (.if_icmp .lt 53, 3) := by decide +kernel
theorem d1_116 : decode prog_68_method_14_code 116 = .ok (.iload 7, 2) := by decide +kernel
theorem d1_118 : decode prog_68_method_14_code 118 = .ok (.bipush 100, 2) := by decide +kernel
theorem d1_120 : decode prog_68_method_14_code 120 = .ok (.idiv, 1) := by decide +kernel
theorem d1_121 : decode prog_68_method_14_code 121 = .ok (.istore 8, 2) := by decide +kernel
theorem d1_123 : decode prog_68_method_14_code 123 = .ok (.iload 7, 2) := by decide +kernel
theorem d1_125 : decode prog_68_method_14_code 125 = .ok (.bipush 100, 2) := by decide +kernel
theorem d1_127 : decode prog_68_method_14_code 127 = .ok (.iload 8, 2) := by decide +kernel
theorem d1_129 : decode prog_68_method_14_code 129 = .ok (.imul, 1) := by decide +kernel
theorem d1_130 : decode prog_68_method_14_code 130 = .ok (.isub, 1) := by decide +kernel
theorem d1_131 : decode prog_68_method_14_code 131 = .ok (.istore 9, 2) := by decide +kernel
theorem d1_133 : decode prog_68_method_14_code 133 = .ok (.aload_n 2, 1) := by decide +kernel
theorem d1_134 : decode prog_68_method_14_code 134 = .ok (.iinc 4 (-1), 3) := by decide +kernel
theorem d1_137 : decode prog_68_method_14_code 137 = .ok (.iload 4, 2) := by decide +kernel
theorem d1_139 : decode prog_68_method_14_code 139 = .ok (.getstatic 222, 3) := by decide +kernel
theorem d1_142 : decode prog_68_method_14_code 142 = .ok (.iload 9, 2) := by decide +kernel
theorem d1_144 : decode prog_68_method_14_code 144 = .ok (.baload, 1) := by decide +kernel
theorem d1_145 : decode prog_68_method_14_code 145 = .ok (.bastore, 1) := by decide +kernel
theorem d1_146 : decode prog_68_method_14_code 146 = .ok (.aload_n 2, 1) := by decide +kernel
theorem d1_147 : decode prog_68_method_14_code 147 = .ok (.iinc 4 (-1), 3) := by decide +kernel
theorem d1_150 : decode prog_68_method_14_code 150 = .ok (.iload 4, 2) := by decide +kernel
theorem d1_152 : decode prog_68_method_14_code 152 = .ok (.getstatic 226, 3) := by decide +kernel
theorem d1_155 : decode prog_68_method_14_code 155 = .ok (.iload 9, 2) := by decide +kernel
theorem d1_157 : decode prog_68_method_14_code 157 = .ok (.baload, 1) := by decide +kernel
theorem d1_158 : decode prog_68_method_14_code 158 = .ok (.bastore, 1) := by decide +kernel
theorem d1_159 : decode prog_68_method_14_code 159 = .ok (.iload 8, 2) := by decide +kernel
theorem d1_161 : decode prog_68_method_14_code 161 = .ok (.istore 7, 2) := by decide +kernel
theorem d1_163 : decode prog_68_method_14_code 163 = .ok (.goto (-54), 3) := by decide +kernel
theorem d1_166 : decode prog_68_method_14_code 166 = .ok (.iload 7, 2) := by decide +kernel
theorem d1_168 : decode prog_68_method_14_code 168 = .ok (.bipush 10, 2) := by decide +kernel
theorem d1_170 : decode prog_68_method_14_code 170 = .ok (.if_icmp .lt 32, 3) := by decide +kernel
theorem d1_173 : decode prog_68_method_14_code 173 = .ok (.aload_n 2, 1) := by decide +kernel
theorem d1_174 : decode prog_68_method_14_code 174 = .ok (.iinc 4 (-1), 3) := by decide +kernel
theorem d1_177 : decode prog_68_method_14_code 177 = .ok (.iload 4, 2) := by decide +kernel
theorem d1_179 : decode prog_68_method_14_code 179 = .ok (.getstatic 222, 3) := by decide +kernel
theorem d1_182 : decode prog_68_method_14_code 182 = .ok (.iload 7, 2) := by decide +kernel
theorem d1_184 : decode prog_68_method_14_code 184 = .ok (.baload, 1) := by decide +kernel
theorem d1_185 : decode prog_68_method_14_code 185 = .ok (.bastore, 1) := by decide +kernel
theorem d1_186 : decode prog_68_method_14_code 186 = .ok (.aload_n 2, 1) := by decide +kernel
theorem d1_187 : decode prog_68_method_14_code 187 = .ok (.iinc 4 (-1), 3) := by decide +kernel
theorem d1_190 : decode prog_68_method_14_code 190 = .ok (.iload 4, 2) := by decide +kernel
theorem d1_192 : decode prog_68_method_14_code 192 = .ok (.getstatic 226, 3) := by decide +kernel
theorem d1_195 : decode prog_68_method_14_code 195 = .ok (.iload 7, 2) := by decide +kernel
theorem d1_197 : decode prog_68_method_14_code 197 = .ok (.baload, 1) := by decide +kernel
theorem d1_198 : decode prog_68_method_14_code 198 = .ok (.bastore, 1) := by decide +kernel
theorem d1_199 : decode prog_68_method_14_code 199 = .ok (.goto 16, 3) := by decide +kernel
theorem d1_202 : decode prog_68_method_14_code 202 = .ok (.aload_n 2, 1) := by decide +kernel
theorem d1_203 : decode prog_68_method_14_code 203 = .ok (.iinc 4 (-1), 3) := by decide +kernel
theorem d1_206 : decode prog_68_method_14_code 206 = .ok (.iload 4, 2) := by decide +kernel
theorem d1_208 : decode prog_68_method_14_code 208 = .ok (.bipush 48, 2) := by decide +kernel
theorem d1_210 : decode prog_68_method_14_code 210 = .ok (.iload 7, 2) := by decide +kernel
theorem d1_212 : decode prog_68_method_14_code 212 = .ok (.iadd, 1) := by decide +kernel
theorem d1_213 : decode prog_68_method_14_code 213 = .ok (.i2b, 1) := by decide +kernel
theorem d1_214 : decode prog_68_method_14_code 214 = .ok (.bastore, 1) := by decide +kernel
theorem d1_215 : decode prog_68_method_14_code 215 = .ok (.return_, 1) := by decide +kernel
theorem pn_rm1 : plainName "com/example/neat_maps/neatmaps/ShortestDecimal" = true := by first | (simp [plainName, overriddenIn]; done) | decide +kernel
theorem ef_rm1 (m : MethodId) (x0 : Int64) (x1 : Addr) (x2 : Int32) : entryFrame m #[(.long x0), (.ref x1), (.int x2)] 13 = mkF m 0 #[.val (.long x0), .second, .val (.ref x1), .val (.int x2), .unset, .unset, .unset, .unset, .unset, .unset, .unset, .unset, .unset] [] := by first | (simp [entryFrame, mkF, argsToLocals, Value.category]; done) | rfl
set_option maxRecDepth 65536 in
set_option maxHeartbeats 40000000 in
theorem rm1 (l : Launch) (Z : State) (a0 : Array Value) (hw : ∀ d ∈ tables_1, d.before a0 Z = true) (ws : List Jvm.Cond) (h0 : Heap) (n0 : Nat) (Z0 : n0 ≤ h0.size) (q1 : Int64) (a1 : Addr) (p3 : Int32) (L LO LT : List Int32) (d1 d2 : Addr) (E W : Nat) (V0 : OVec Z h0 a1 .byte L) (hlen : L.length = 21) (g1 : n0 ≤ a1) (S1 : Sta Z h0 "com/example/neat_maps/neatmaps/ShortestDecimal" "DIGIT_ONES" "[B" (.ref d1)) (S2 : Sta Z h0 "com/example/neat_maps/neatmaps/ShortestDecimal" "DIGIT_TENS" "[B" (.ref d2)) (V1 : OVec Z h0 d1 .byte LO) (l1 : LO.length = 100) (hO1 : ∀ i : Nat, i < 100 → (LO.getD i 0).toInt = 48 + ((i % 10 : Nat) : Int)) (V2 : OVec Z h0 d2 .byte LT) (l2 : LT.length = 100) (hT1 : ∀ i : Nat, i < 100 → (LT.getD i 0).toInt = 48 + ((i / 10 : Nat) : Int)) (ne_d1 : d1 ≠ a1) (ne_d2 : d2 ≠ a1) (hE : p3.toInt = (E : Int)) (hE1 : 1 ≤ E ∧ E ≤ 20) (hW : q1.toInt = (W : Int)) (fit : W < 10 ^ E) :
    OMet l (⟨"com/example/neat_maps/neatmaps/ShortestDecimal", "putDigits", "(J[BI)V"⟩ : MethodName) prog_68_method_14_code 13 none ws ({ frames := 0, cells := 0, slots := 0, locals := 0 } : Room) #[(.long q1), (.ref a1), (.int p3)] Z h0 (fun v h L' => v = none ∧ Fr n0 L' ∧ Keep h0 h [a1] ∧ OVec Z h a1 .byte (own_put E W L)) := by
  refine own_met (plainFor_of_name pn_rm1) ?_
  intro p e s m below meth c s₁ X0 hx hby hml hown hnm hret hlk hZ e0
  rw [ef_rm1]
  have N0 := Fr.nil n0
  have rg_q1 := rng64 q1
  have rg_p3 := rng32 p3
  have rq := rng64 q1
  show ORun p e below s _ _ _ s₁ (mkF m 0 #[.val (.long q1), .second, .val (.ref a1), .val (.int p3), .unset, .unset, .unset, .unset, .unset, .unset, .unset, .unset, .unset] [])
  refine own_by (fun t k => XS.iloadN X0.here hx rfl (hb hby d1_0) rfl k) ?_
  show ORun p e below s _ _ _ s₁ (mkF m 1 #[.val (.long q1), .second, .val (.ref a1), .val (.int p3), .unset, .unset, .unset, .unset, .unset, .unset, .unset, .unset, .unset] [(.int p3)])
  refine own_by (fun t k => XS.istore X0.here hx rfl (hb hby d1_1) rfl (l' := #[.val (.long q1), .second, .val (.ref a1), .val (.int p3), .val (.int p3), .unset, .unset, .unset, .unset, .unset, .unset, .unset, .unset]) rfl k) ?_
  show ORun p e below s _ _ _ s₁ (mkF m 3 #[.val (.long q1), .second, .val (.ref a1), .val (.int p3), .val (.int p3), .unset, .unset, .unset, .unset, .unset, .unset, .unset, .unset] [])
  refine own_by (fun t k => XS.lloadN X0.here hx rfl (hb hby d1_3) rfl k) ?_
  show ORun p e below s _ _ _ s₁ (mkF m 4 #[.val (.long q1), .second, .val (.ref a1), .val (.int p3), .val (.int p3), .unset, .unset, .unset, .unset, .unset, .unset, .unset, .unset] [(.long q1)])
  refine own_by (fun t k => XS.lstore X0.here hx rfl (hb hby d1_4) rfl (l' := #[.val (.long q1), .second, .val (.ref a1), .val (.int p3), .val (.int p3), .val (.long q1), .second, .unset, .unset, .unset, .unset, .unset, .unset]) rfl k) ?_
  show ORun p e below s _ _ _ s₁ (mkF m 6 #[.val (.long q1), .second, .val (.ref a1), .val (.int p3), .val (.int p3), .val (.long q1), .second, .unset, .unset, .unset, .unset, .unset, .unset] [])
  refine own_by (fun t k => XS.lload X0.here hx rfl (hb hby d1_6) rfl k) ?_
  show ORun p e below s _ _ _ s₁ (mkF m 8 #[.val (.long q1), .second, .val (.ref a1), .val (.int p3), .val (.int p3), .val (.long q1), .second, .unset, .unset, .unset, .unset, .unset, .unset] [(.long q1)])
  refine own_by (fun t k => X0.ldc2Long hx hown (mvT hZ (hw _ (List.mem_of_getElem? (i := 26) rfl))) (g := (mkF m 8 #[.val (.long q1), .second, .val (.ref a1), .val (.int p3), .val (.int p3), .val (.long q1), .second, .unset, .unset, .unset, .unset, .unset, .unset] [(.long q1)])) rfl (hb hby d1_8) _ k) ?_
  show ORun p e below s _ _ _ s₁ (mkF m 11 #[.val (.long q1), .second, .val (.ref a1), .val (.int p3), .val (.int p3), .val (.long q1), .second, .unset, .unset, .unset, .unset, .unset, .unset] [(.long (100000000 : Int64)), (.long q1)])
  refine own_by (fun t k => XS.lcmp X0.here hx rfl (hb hby d1_11) rfl k) ?_
  show ORun p e below s _ _ _ s₁ (mkF m 12 #[.val (.long q1), .second, .val (.ref a1), .val (.int p3), .val (.int p3), .val (.long q1), .second, .unset, .unset, .unset, .unset, .unset, .unset] [(.int (lcmpW q1 (100000000 : Int64)))])
  by_cases hc1 : q1 < (100000000 : Int64)
  · have t1 := own_ltL hc1 (a := q1.toInt) (b := 100000000) rfl (by decide)
    refine own_by (fun t k => XS.ifYes X0.here hx rfl (pc0 := 12) (pc' := 104) rfl (hb hby d1_12) rfl (own_lclt hc1).1 (by decide) (by decide) k) ?_
    show ORun p e below s _ _ _ s₁ (mkF m 104 #[.val (.long q1), .second, .val (.ref a1), .val (.int p3), .val (.int p3), .val (.long q1), .second, .unset, .unset, .unset, .unset, .unset, .unset] [])
    refine own_by (fun t k => XS.lload X0.here hx rfl (hb hby d1_104) rfl k) ?_
    show ORun p e below s _ _ _ s₁ (mkF m 106 #[.val (.long q1), .second, .val (.ref a1), .val (.int p3), .val (.int p3), .val (.long q1), .second, .unset, .unset, .unset, .unset, .unset, .unset] [(.long q1)])
    refine own_by (fun t k => XS.l2i X0.here hx rfl (hb hby d1_106) rfl k) (own_letI (f := (fun z => (mkF m 107 #[.val (.long q1), .second, .val (.ref a1), .val (.int p3), .val (.int p3), .val (.long q1), .second, .unset, .unset, .unset, .unset, .unset, .unset] [(.int z)]))) (q1.toInt32) fun v2 hv2 => ?_)
    show ORun p e below s _ _ _ s₁ (mkF m 107 #[.val (.long q1), .second, .val (.ref a1), .val (.int p3), .val (.int p3), .val (.long q1), .second, .unset, .unset, .unset, .unset, .unset, .unset] [(.int v2)])
    have r2 := rng32 v2
    have a2 : v2.toInt = q1.toInt := by
      have q : (v2.toInt - q1.toInt) % 4294967296 = 0 := by rw [hv2]; exact c_l2i q1
      omega
    have in3 : v2.toInt = (W : Int) := by omega
    have ib3 : W < 100000000 := by omega
    clear t1 a2 r2
    refine own_by (fun t k => XS.istore X0.here hx rfl (hb hby d1_107) rfl (l' := #[.val (.long q1), .second, .val (.ref a1), .val (.int p3), .val (.int p3), .val (.long q1), .second, .val (.int v2), .unset, .unset, .unset, .unset, .unset]) rfl k) ?_
    show ORun p e below s _ _ _ s₁ (mkF m 109 #[.val (.long q1), .second, .val (.ref a1), .val (.int p3), .val (.int p3), .val (.long q1), .second, .val (.int v2), .unset, .unset, .unset, .unset, .unset] [])
    refine own_by (fun t k => XS.iload X0.here hx rfl (hb hby d1_109) rfl k) ?_
    show ORun p e below s _ _ _ s₁ (mkF m 111 #[.val (.long q1), .second, .val (.ref a1), .val (.int p3), .val (.int p3), .val (.long q1), .second, .val (.int v2), .unset, .unset, .unset, .unset, .unset] [(.int v2)])
    refine own_by (fun t k => XS.bipush X0.here hx rfl (hb hby d1_111) k) ?_
    show ORun p e below s _ _ _ s₁ (mkF m 113 #[.val (.long q1), .second, .val (.ref a1), .val (.int p3), .val (.int p3), .val (.long q1), .second, .val (.int v2), .unset, .unset, .unset, .unset, .unset] [(.int (100 : Int32)), (.int v2)])
    by_cases hc4 : v2 < (100 : Int32)
    · have t4 := own_lt hc4 (a := v2.toInt) (b := 100) rfl (by decide)
      refine own_by (fun t k => XS.icmpYes X0.here hx rfl (pc0 := 113) (pc' := 166) rfl (hb hby d1_113) rfl (tlt hc4).1 (by decide) (by decide) k) ?_
      show ORun p e below s _ _ _ s₁ (mkF m 166 #[.val (.long q1), .second, .val (.ref a1), .val (.int p3), .val (.int p3), .val (.long q1), .second, .val (.int v2), .unset, .unset, .unset, .unset, .unset] [])
      refine own_by (fun t k => XS.iload X0.here hx rfl (hb hby d1_166) rfl k) ?_
      show ORun p e below s _ _ _ s₁ (mkF m 168 #[.val (.long q1), .second, .val (.ref a1), .val (.int p3), .val (.int p3), .val (.long q1), .second, .val (.int v2), .unset, .unset, .unset, .unset, .unset] [(.int v2)])
      refine own_by (fun t k => XS.bipush X0.here hx rfl (hb hby d1_168) k) ?_
      show ORun p e below s _ _ _ s₁ (mkF m 170 #[.val (.long q1), .second, .val (.ref a1), .val (.int p3), .val (.int p3), .val (.long q1), .second, .val (.int v2), .unset, .unset, .unset, .unset, .unset] [(.int (10 : Int32)), (.int v2)])
      by_cases hc5 : v2 < (10 : Int32)
      · have t5 := own_lt hc5 (a := v2.toInt) (b := 10) rfl (by decide)
        refine own_by (fun t k => XS.icmpYes X0.here hx rfl (pc0 := 170) (pc' := 202) rfl (hb hby d1_170) rfl (tlt hc5).1 (by decide) (by decide) k) ?_
        show ORun p e below s _ _ _ s₁ (mkF m 202 #[.val (.long q1), .second, .val (.ref a1), .val (.int p3), .val (.int p3), .val (.long q1), .second, .val (.int v2), .unset, .unset, .unset, .unset, .unset] [])
        have f1_6 : 1 ≤ E := by omega
        refine own_by (fun t k => XS.aloadN X0.here hx rfl (hb hby d1_202) rfl rfl k) ?_
        show ORun p e below s _ _ _ s₁ (mkF m 203 #[.val (.long q1), .second, .val (.ref a1), .val (.int p3), .val (.int p3), .val (.long q1), .second, .val (.int v2), .unset, .unset, .unset, .unset, .unset] [(.ref a1)])
        refine own_by (fun t k => XS.iinc X0.here hx rfl (hb hby d1_203) rfl (l' := #[.val (.long q1), .second, .val (.ref a1), .val (.int p3), .val (.int (p3 + (-1 : Int32))), .val (.long q1), .second, .val (.int v2), .unset, .unset, .unset, .unset, .unset]) rfl k) (own_letI (f := (fun z => (mkF m 206 #[.val (.long q1), .second, .val (.ref a1), .val (.int p3), .val (.int z), .val (.long q1), .second, .val (.int v2), .unset, .unset, .unset, .unset, .unset] [(.ref a1)]))) (p3 + (-1 : Int32)) fun v7 hv7 => ?_)
        show ORun p e below s _ _ _ s₁ (mkF m 206 #[.val (.long q1), .second, .val (.ref a1), .val (.int p3), .val (.int v7), .val (.long q1), .second, .val (.int v2), .unset, .unset, .unset, .unset, .unset] [(.ref a1)])
        have r7 := rng32 v7
        have a7 : v7.toInt = p3.toInt + (-1) := by have q : (v7.toInt - (p3.toInt + (-1))) % 4294967296 = 0 := (by rw [hv7]; exact c_iadd p3 (-1 : Int32)); omega
        refine own_by (fun t k => XS.iload X0.here hx rfl (hb hby d1_206) rfl k) ?_
        show ORun p e below s _ _ _ s₁ (mkF m 208 #[.val (.long q1), .second, .val (.ref a1), .val (.int p3), .val (.int v7), .val (.long q1), .second, .val (.int v2), .unset, .unset, .unset, .unset, .unset] [(.int v7), (.ref a1)])
        refine own_by (fun t k => XS.bipush X0.here hx rfl (hb hby d1_208) k) ?_
        show ORun p e below s _ _ _ s₁ (mkF m 210 #[.val (.long q1), .second, .val (.ref a1), .val (.int p3), .val (.int v7), .val (.long q1), .second, .val (.int v2), .unset, .unset, .unset, .unset, .unset] [(.int (48 : Int32)), (.int v7), (.ref a1)])
        refine own_by (fun t k => XS.iload X0.here hx rfl (hb hby d1_210) rfl k) ?_
        show ORun p e below s _ _ _ s₁ (mkF m 212 #[.val (.long q1), .second, .val (.ref a1), .val (.int p3), .val (.int v7), .val (.long q1), .second, .val (.int v2), .unset, .unset, .unset, .unset, .unset] [(.int v2), (.int (48 : Int32)), (.int v7), (.ref a1)])
        refine own_by (fun t k => XS.iadd X0.here hx rfl (hb hby d1_212) rfl k) (own_letI (f := (fun z => (mkF m 213 #[.val (.long q1), .second, .val (.ref a1), .val (.int p3), .val (.int v7), .val (.long q1), .second, .val (.int v2), .unset, .unset, .unset, .unset, .unset] [(.int z), (.int v7), (.ref a1)]))) ((48 : Int32) + v2) fun v8 hv8 => ?_)
        show ORun p e below s _ _ _ s₁ (mkF m 213 #[.val (.long q1), .second, .val (.ref a1), .val (.int p3), .val (.int v7), .val (.long q1), .second, .val (.int v2), .unset, .unset, .unset, .unset, .unset] [(.int v8), (.int v7), (.ref a1)])
        have r8 := rng32 v8
        have a8 : v8.toInt = 48 + v2.toInt := by
          have q : (v8.toInt - (48 + v2.toInt)) % 4294967296 = 0 := by rw [hv8]; exact c_iadd (48 : Int32) v2
          omega
        refine own_by (fun t k => XS.i2b X0.here hx rfl (hb hby d1_213) rfl k) (own_letI (f := (fun z => (mkF m 214 #[.val (.long q1), .second, .val (.ref a1), .val (.int p3), .val (.int v7), .val (.long q1), .second, .val (.int v2), .unset, .unset, .unset, .unset, .unset] [(.int z), (.int v7), (.ref a1)]))) (v8.toInt8.toInt32) fun v9 hv9 => ?_)
        show ORun p e below s _ _ _ s₁ (mkF m 214 #[.val (.long q1), .second, .val (.ref a1), .val (.int p3), .val (.int v7), .val (.long q1), .second, .val (.int v2), .unset, .unset, .unset, .unset, .unset] [(.int v9), (.int v7), (.ref a1)])
        have r9 := rng32 v9
        have a9 : v9.toInt = v8.toInt := by
          have q : (v9.toInt - v8.toInt) % 256 = 0 ∧ -128 ≤ v9.toInt ∧ v9.toInt < 128 := by rw [hv9]; exact c_i2b v8
          omega
        have nb10 : (nar .byte v9).toInt = v9.toInt := by have q := c_i2b v9; show v9.toInt8.toInt32.toInt = _; omega
        refine own_bastore X0 hx hZ e0 V0 (i := v7.toInt.toNat) (by omega) (by omega) (hb hby d1_214) ?_
        intro T11 h11 L11 X11 e11 W11 hL11 V11
        have len11 : L11.length = 21 := by rw [hL11, List.length_set]; exact hlen
        have N11 := Fr.snoc X11 N0 g1
        show ORun p e below s _ _ _ T11 (mkF m 215 #[.val (.long q1), .second, .val (.ref a1), .val (.int p3), .val (.int v7), .val (.long q1), .second, .val (.int v2), .unset, .unset, .unset, .unset, .unset] [])
        refine own_retV X11 hx hret hlk (hb hby d1_215) (by decide) (by decide) ?_
        have fin12 := Eq.trans (rfl : own_put E W L = own_put E W L) (own_last1 (q := E) (w := W) (i := v7.toInt.toNat) (by omega) (by omega) hL11 (by omega))
        rw [e11]
        refine ⟨rfl, N11, ((Keep.refl h0 [a1]).wr W11 (Or.inl (List.mem_of_getElem? (i := 0) rfl))), ?_⟩
        rw [fin12]
        exact V11
      · have t5 := own_nlt hc5 (a := v2.toInt) (b := 10) rfl (by decide)
        refine own_by (fun t k => XS.icmpNo X0.here hx rfl (hb hby d1_170) rfl (flt hc5).1 k) ?_
        show ORun p e below s _ _ _ s₁ (mkF m 173 #[.val (.long q1), .second, .val (.ref a1), .val (.int p3), .val (.int p3), .val (.long q1), .second, .val (.int v2), .unset, .unset, .unset, .unset, .unset] [])
        have f2_13 := own_fit2 (q := E) (w := W) (by omega) fit
        refine own_by (fun t k => XS.aloadN X0.here hx rfl (hb hby d1_173) rfl rfl k) ?_
        show ORun p e below s _ _ _ s₁ (mkF m 174 #[.val (.long q1), .second, .val (.ref a1), .val (.int p3), .val (.int p3), .val (.long q1), .second, .val (.int v2), .unset, .unset, .unset, .unset, .unset] [(.ref a1)])
        refine own_by (fun t k => XS.iinc X0.here hx rfl (hb hby d1_174) rfl (l' := #[.val (.long q1), .second, .val (.ref a1), .val (.int p3), .val (.int (p3 + (-1 : Int32))), .val (.long q1), .second, .val (.int v2), .unset, .unset, .unset, .unset, .unset]) rfl k) (own_letI (f := (fun z => (mkF m 177 #[.val (.long q1), .second, .val (.ref a1), .val (.int p3), .val (.int z), .val (.long q1), .second, .val (.int v2), .unset, .unset, .unset, .unset, .unset] [(.ref a1)]))) (p3 + (-1 : Int32)) fun v14 hv14 => ?_)
        show ORun p e below s _ _ _ s₁ (mkF m 177 #[.val (.long q1), .second, .val (.ref a1), .val (.int p3), .val (.int v14), .val (.long q1), .second, .val (.int v2), .unset, .unset, .unset, .unset, .unset] [(.ref a1)])
        have r14 := rng32 v14
        have a14 : v14.toInt = p3.toInt + (-1) := by have q : (v14.toInt - (p3.toInt + (-1))) % 4294967296 = 0 := (by rw [hv14]; exact c_iadd p3 (-1 : Int32)); omega
        refine own_by (fun t k => XS.iload X0.here hx rfl (hb hby d1_177) rfl k) ?_
        show ORun p e below s _ _ _ s₁ (mkF m 179 #[.val (.long q1), .second, .val (.ref a1), .val (.int p3), .val (.int v14), .val (.long q1), .second, .val (.int v2), .unset, .unset, .unset, .unset, .unset] [(.int v14), (.ref a1)])
        obtain ⟨T15, X15, e15, st15⟩ := getS2 X0 hx hZ hown (host := "") (Or.inl (hw _ (List.mem_of_getElem? (i := 31) rfl))) Via.refl e0 S1 (g := (mkF m 179 #[.val (.long q1), .second, .val (.ref a1), .val (.int p3), .val (.int v14), .val (.long q1), .second, .val (.int v2), .unset, .unset, .unset, .unset, .unset] [(.int v14), (.ref a1)])) rfl (hb hby d1_179)
        refine own_by st15 ?_
        show ORun p e below s _ _ _ T15 (mkF m 182 #[.val (.long q1), .second, .val (.ref a1), .val (.int p3), .val (.int v14), .val (.long q1), .second, .val (.int v2), .unset, .unset, .unset, .unset, .unset] [(.ref d1), (.int v14), (.ref a1)])
        refine own_by (fun t k => XS.iload X15.here hx rfl (hb hby d1_182) rfl k) ?_
        show ORun p e below s _ _ _ T15 (mkF m 184 #[.val (.long q1), .second, .val (.ref a1), .val (.int p3), .val (.int v14), .val (.long q1), .second, .val (.int v2), .unset, .unset, .unset, .unset, .unset] [(.int v2), (.ref d1), (.int v14), (.ref a1)])
        refine own_baload X15 hx hZ e15 V1 (i := v2.toInt.toNat) (by omega) (by omega) (hb hby d1_184) ?_
        intro v16 hv16
        have r16 := rng32 v16
        show ORun p e below s _ _ _ T15 (mkF m 185 #[.val (.long q1), .second, .val (.ref a1), .val (.int p3), .val (.int v14), .val (.long q1), .second, .val (.int v2), .unset, .unset, .unset, .unset, .unset] [(.int v16), (.int v14), (.ref a1)])
        have f17 := hO1 v2.toInt.toNat (by omega)
        rw [← hv16] at f17
        have nb17 : (nar .byte v16).toInt = v16.toInt := by have q := c_i2b v16; show v16.toInt8.toInt32.toInt = _; omega
        refine own_bastore X15 hx hZ e15 V0 (i := v14.toInt.toNat) (by omega) (by omega) (hb hby d1_185) ?_
        intro T18 h18 L18 X18 e18 W18 hL18 V18
        have len18 : L18.length = 21 := by rw [hL18, List.length_set]; exact hlen
        have N18 := Fr.snoc X18 N0 g1
        show ORun p e below s _ _ _ T18 (mkF m 186 #[.val (.long q1), .second, .val (.ref a1), .val (.int p3), .val (.int v14), .val (.long q1), .second, .val (.int v2), .unset, .unset, .unset, .unset, .unset] [])
        refine own_by (fun t k => XS.aloadN X18.here hx rfl (hb hby d1_186) rfl rfl k) ?_
        show ORun p e below s _ _ _ T18 (mkF m 187 #[.val (.long q1), .second, .val (.ref a1), .val (.int p3), .val (.int v14), .val (.long q1), .second, .val (.int v2), .unset, .unset, .unset, .unset, .unset] [(.ref a1)])
        refine own_by (fun t k => XS.iinc X18.here hx rfl (hb hby d1_187) rfl (l' := #[.val (.long q1), .second, .val (.ref a1), .val (.int p3), .val (.int (v14 + (-1 : Int32))), .val (.long q1), .second, .val (.int v2), .unset, .unset, .unset, .unset, .unset]) rfl k) (own_letI (f := (fun z => (mkF m 190 #[.val (.long q1), .second, .val (.ref a1), .val (.int p3), .val (.int z), .val (.long q1), .second, .val (.int v2), .unset, .unset, .unset, .unset, .unset] [(.ref a1)]))) (v14 + (-1 : Int32)) fun v19 hv19 => ?_)
        show ORun p e below s _ _ _ T18 (mkF m 190 #[.val (.long q1), .second, .val (.ref a1), .val (.int p3), .val (.int v19), .val (.long q1), .second, .val (.int v2), .unset, .unset, .unset, .unset, .unset] [(.ref a1)])
        have r19 := rng32 v19
        have a19 : v19.toInt = v14.toInt + (-1) := by have q : (v19.toInt - (v14.toInt + (-1))) % 4294967296 = 0 := (by rw [hv19]; exact c_iadd v14 (-1 : Int32)); omega
        refine own_by (fun t k => XS.iload X18.here hx rfl (hb hby d1_190) rfl k) ?_
        show ORun p e below s _ _ _ T18 (mkF m 192 #[.val (.long q1), .second, .val (.ref a1), .val (.int p3), .val (.int v19), .val (.long q1), .second, .val (.int v2), .unset, .unset, .unset, .unset, .unset] [(.int v19), (.ref a1)])
        obtain ⟨T20, X20, e20, st20⟩ := getS2 X18 hx hZ hown (host := "") (Or.inl (hw _ (List.mem_of_getElem? (i := 33) rfl))) Via.refl e18 (S2.wr W18) (g := (mkF m 192 #[.val (.long q1), .second, .val (.ref a1), .val (.int p3), .val (.int v19), .val (.long q1), .second, .val (.int v2), .unset, .unset, .unset, .unset, .unset] [(.int v19), (.ref a1)])) rfl (hb hby d1_192)
        refine own_by st20 ?_
        show ORun p e below s _ _ _ T20 (mkF m 195 #[.val (.long q1), .second, .val (.ref a1), .val (.int p3), .val (.int v19), .val (.long q1), .second, .val (.int v2), .unset, .unset, .unset, .unset, .unset] [(.ref d2), (.int v19), (.ref a1)])
        refine own_by (fun t k => XS.iload X20.here hx rfl (hb hby d1_195) rfl k) ?_
        show ORun p e below s _ _ _ T20 (mkF m 197 #[.val (.long q1), .second, .val (.ref a1), .val (.int p3), .val (.int v19), .val (.long q1), .second, .val (.int v2), .unset, .unset, .unset, .unset, .unset] [(.int v2), (.ref d2), (.int v19), (.ref a1)])
        refine own_baload X20 hx hZ e20 (V2.other W18 ne_d2) (i := v2.toInt.toNat) (by omega) (by omega) (hb hby d1_197) ?_
        intro v21 hv21
        have r21 := rng32 v21
        show ORun p e below s _ _ _ T20 (mkF m 198 #[.val (.long q1), .second, .val (.ref a1), .val (.int p3), .val (.int v19), .val (.long q1), .second, .val (.int v2), .unset, .unset, .unset, .unset, .unset] [(.int v21), (.int v19), (.ref a1)])
        have f22 := hT1 v2.toInt.toNat (by omega)
        rw [← hv21] at f22
        have nb22 : (nar .byte v21).toInt = v21.toInt := by have q := c_i2b v21; show v21.toInt8.toInt32.toInt = _; omega
        refine own_bastore X20 hx hZ e20 V18 (i := v19.toInt.toNat) (by omega) (by omega) (hb hby d1_198) ?_
        intro T23 h23 L23 X23 e23 W23 hL23 V23
        have len23 : L23.length = 21 := by rw [hL23, List.length_set]; exact len18
        have N23 := Fr.snoc X23 N18 g1
        show ORun p e below s _ _ _ T23 (mkF m 199 #[.val (.long q1), .second, .val (.ref a1), .val (.int p3), .val (.int v19), .val (.long q1), .second, .val (.int v2), .unset, .unset, .unset, .unset, .unset] [])
        refine own_by (fun t k => XS.goto X23.here hx rfl (pc0 := 199) (pc' := 215) rfl (hb hby d1_199) (by decide) (by decide) k) ?_
        show ORun p e below s _ _ _ T23 (mkF m 215 #[.val (.long q1), .second, .val (.ref a1), .val (.int p3), .val (.int v19), .val (.long q1), .second, .val (.int v2), .unset, .unset, .unset, .unset, .unset] [])
        refine own_retV X23 hx hret hlk (hb hby d1_215) (by decide) (by decide) ?_
        have fin24 := Eq.trans (rfl : own_put E W L = own_put E W L) (own_last2 (q := E) (w := W) (i := v14.toInt.toNat) (j := v19.toInt.toNat) (by omega) (by omega) (by omega) (by omega) hL18 hL23 (by omega) (by omega))
        rw [e23]
        refine ⟨rfl, N23, (((Keep.refl h0 [a1]).wr W18 (Or.inl (List.mem_of_getElem? (i := 0) rfl))).wr W23 (Or.inl (List.mem_of_getElem? (i := 0) rfl))), ?_⟩
        rw [fin24]
        exact V23
    · have t4 := own_nlt hc4 (a := v2.toInt) (b := 100) rfl (by decide)
      refine own_by (fun t k => XS.icmpNo X0.here hx rfl (hb hby d1_113) rfl (flt hc4).1 k) ?_
      show ORun p e below s _ _ _ s₁ (mkF m 116 #[.val (.long q1), .second, .val (.ref a1), .val (.int p3), .val (.int p3), .val (.long q1), .second, .val (.int v2), .unset, .unset, .unset, .unset, .unset] [])
      refine own_by (fun t k => XS.iload X0.here hx rfl (hb hby d1_116) rfl k) ?_
      show ORun p e below s _ _ _ s₁ (mkF m 118 #[.val (.long q1), .second, .val (.ref a1), .val (.int p3), .val (.int p3), .val (.long q1), .second, .val (.int v2), .unset, .unset, .unset, .unset, .unset] [(.int v2)])
      refine own_by (fun t k => XS.bipush X0.here hx rfl (hb hby d1_118) k) ?_
      show ORun p e below s _ _ _ s₁ (mkF m 120 #[.val (.long q1), .second, .val (.ref a1), .val (.int p3), .val (.int p3), .val (.long q1), .second, .val (.int v2), .unset, .unset, .unset, .unset, .unset] [(.int (100 : Int32)), (.int v2)])
      refine own_by (fun t k => XS.idiv X0.here hx rfl (hb hby d1_120) rfl (by decide) k) (own_letI (f := (fun z => (mkF m 121 #[.val (.long q1), .second, .val (.ref a1), .val (.int p3), .val (.int p3), .val (.long q1), .second, .val (.int v2), .unset, .unset, .unset, .unset, .unset] [(.int z)]))) (v2 / (100 : Int32)) fun v25 hv25 => ?_)
      show ORun p e below s _ _ _ s₁ (mkF m 121 #[.val (.long q1), .second, .val (.ref a1), .val (.int p3), .val (.int p3), .val (.long q1), .second, .val (.int v2), .unset, .unset, .unset, .unset, .unset] [(.int v25)])
      have r25 := rng32 v25
      have a25 : v25.toInt = v2.toInt / 100 := by
        have q : (0 ≤ v2.toInt → v25.toInt = v2.toInt / 100) ∧ (v2.toInt < 0 → v25.toInt = -((-v2.toInt) / 100)) := by rw [hv25]; exact c_idiv v2 (100 : Int32) 100 (by decide) (by decide)
        omega
      refine own_by (fun t k => XS.istore X0.here hx rfl (hb hby d1_121) rfl (l' := #[.val (.long q1), .second, .val (.ref a1), .val (.int p3), .val (.int p3), .val (.long q1), .second, .val (.int v2), .val (.int v25), .unset, .unset, .unset, .unset]) rfl k) ?_
      show ORun p e below s _ _ _ s₁ (mkF m 123 #[.val (.long q1), .second, .val (.ref a1), .val (.int p3), .val (.int p3), .val (.long q1), .second, .val (.int v2), .val (.int v25), .unset, .unset, .unset, .unset] [])
      refine own_by (fun t k => XS.iload X0.here hx rfl (hb hby d1_123) rfl k) ?_
      show ORun p e below s _ _ _ s₁ (mkF m 125 #[.val (.long q1), .second, .val (.ref a1), .val (.int p3), .val (.int p3), .val (.long q1), .second, .val (.int v2), .val (.int v25), .unset, .unset, .unset, .unset] [(.int v2)])
      refine own_by (fun t k => XS.bipush X0.here hx rfl (hb hby d1_125) k) ?_
      show ORun p e below s _ _ _ s₁ (mkF m 127 #[.val (.long q1), .second, .val (.ref a1), .val (.int p3), .val (.int p3), .val (.long q1), .second, .val (.int v2), .val (.int v25), .unset, .unset, .unset, .unset] [(.int (100 : Int32)), (.int v2)])
      refine own_by (fun t k => XS.iload X0.here hx rfl (hb hby d1_127) rfl k) ?_
      show ORun p e below s _ _ _ s₁ (mkF m 129 #[.val (.long q1), .second, .val (.ref a1), .val (.int p3), .val (.int p3), .val (.long q1), .second, .val (.int v2), .val (.int v25), .unset, .unset, .unset, .unset] [(.int v25), (.int (100 : Int32)), (.int v2)])
      refine own_by (fun t k => XS.imul X0.here hx rfl (hb hby d1_129) rfl k) (own_letI (f := (fun z => (mkF m 130 #[.val (.long q1), .second, .val (.ref a1), .val (.int p3), .val (.int p3), .val (.long q1), .second, .val (.int v2), .val (.int v25), .unset, .unset, .unset, .unset] [(.int z), (.int v2)]))) ((100 : Int32) * v25) fun v26 hv26 => ?_)
      show ORun p e below s _ _ _ s₁ (mkF m 130 #[.val (.long q1), .second, .val (.ref a1), .val (.int p3), .val (.int p3), .val (.long q1), .second, .val (.int v2), .val (.int v25), .unset, .unset, .unset, .unset] [(.int v26), (.int v2)])
      have r26 := rng32 v26
      have a26 : v26.toInt = 100 * v25.toInt := by
        have q : (v26.toInt - (100 * v25.toInt)) % 4294967296 = 0 := by rw [hv26]; exact c_imul (100 : Int32) v25
        omega
      refine own_by (fun t k => XS.isub X0.here hx rfl (hb hby d1_130) rfl k) (own_letI (f := (fun z => (mkF m 131 #[.val (.long q1), .second, .val (.ref a1), .val (.int p3), .val (.int p3), .val (.long q1), .second, .val (.int v2), .val (.int v25), .unset, .unset, .unset, .unset] [(.int z)]))) (v2 - v26) fun v27 hv27 => ?_)
      show ORun p e below s _ _ _ s₁ (mkF m 131 #[.val (.long q1), .second, .val (.ref a1), .val (.int p3), .val (.int p3), .val (.long q1), .second, .val (.int v2), .val (.int v25), .unset, .unset, .unset, .unset] [(.int v27)])
      have r27 := rng32 v27
      have a27 : v27.toInt = v2.toInt - v26.toInt := by
        have q : (v27.toInt - (v2.toInt - v26.toInt)) % 4294967296 = 0 := by rw [hv27]; exact c_isub v2 v26
        omega
      refine own_by (fun t k => XS.istore X0.here hx rfl (hb hby d1_131) rfl (l' := #[.val (.long q1), .second, .val (.ref a1), .val (.int p3), .val (.int p3), .val (.long q1), .second, .val (.int v2), .val (.int v25), .val (.int v27), .unset, .unset, .unset]) rfl k) ?_
      show ORun p e below s _ _ _ s₁ (mkF m 133 #[.val (.long q1), .second, .val (.ref a1), .val (.int p3), .val (.int p3), .val (.long q1), .second, .val (.int v2), .val (.int v25), .val (.int v27), .unset, .unset, .unset] [])
      have f3_28 := own_fit3 (q := E) (w := W) (by omega) fit
      refine own_by (fun t k => XS.aloadN X0.here hx rfl (hb hby d1_133) rfl rfl k) ?_
      show ORun p e below s _ _ _ s₁ (mkF m 134 #[.val (.long q1), .second, .val (.ref a1), .val (.int p3), .val (.int p3), .val (.long q1), .second, .val (.int v2), .val (.int v25), .val (.int v27), .unset, .unset, .unset] [(.ref a1)])
      refine own_by (fun t k => XS.iinc X0.here hx rfl (hb hby d1_134) rfl (l' := #[.val (.long q1), .second, .val (.ref a1), .val (.int p3), .val (.int (p3 + (-1 : Int32))), .val (.long q1), .second, .val (.int v2), .val (.int v25), .val (.int v27), .unset, .unset, .unset]) rfl k) (own_letI (f := (fun z => (mkF m 137 #[.val (.long q1), .second, .val (.ref a1), .val (.int p3), .val (.int z), .val (.long q1), .second, .val (.int v2), .val (.int v25), .val (.int v27), .unset, .unset, .unset] [(.ref a1)]))) (p3 + (-1 : Int32)) fun v29 hv29 => ?_)
      show ORun p e below s _ _ _ s₁ (mkF m 137 #[.val (.long q1), .second, .val (.ref a1), .val (.int p3), .val (.int v29), .val (.long q1), .second, .val (.int v2), .val (.int v25), .val (.int v27), .unset, .unset, .unset] [(.ref a1)])
      have r29 := rng32 v29
      have a29 : v29.toInt = p3.toInt + (-1) := by have q : (v29.toInt - (p3.toInt + (-1))) % 4294967296 = 0 := (by rw [hv29]; exact c_iadd p3 (-1 : Int32)); omega
      refine own_by (fun t k => XS.iload X0.here hx rfl (hb hby d1_137) rfl k) ?_
      show ORun p e below s _ _ _ s₁ (mkF m 139 #[.val (.long q1), .second, .val (.ref a1), .val (.int p3), .val (.int v29), .val (.long q1), .second, .val (.int v2), .val (.int v25), .val (.int v27), .unset, .unset, .unset] [(.int v29), (.ref a1)])
      obtain ⟨T30, X30, e30, st30⟩ := getS2 X0 hx hZ hown (host := "") (Or.inl (hw _ (List.mem_of_getElem? (i := 31) rfl))) Via.refl e0 S1 (g := (mkF m 139 #[.val (.long q1), .second, .val (.ref a1), .val (.int p3), .val (.int v29), .val (.long q1), .second, .val (.int v2), .val (.int v25), .val (.int v27), .unset, .unset, .unset] [(.int v29), (.ref a1)])) rfl (hb hby d1_139)
      refine own_by st30 ?_
      show ORun p e below s _ _ _ T30 (mkF m 142 #[.val (.long q1), .second, .val (.ref a1), .val (.int p3), .val (.int v29), .val (.long q1), .second, .val (.int v2), .val (.int v25), .val (.int v27), .unset, .unset, .unset] [(.ref d1), (.int v29), (.ref a1)])
      refine own_by (fun t k => XS.iload X30.here hx rfl (hb hby d1_142) rfl k) ?_
      show ORun p e below s _ _ _ T30 (mkF m 144 #[.val (.long q1), .second, .val (.ref a1), .val (.int p3), .val (.int v29), .val (.long q1), .second, .val (.int v2), .val (.int v25), .val (.int v27), .unset, .unset, .unset] [(.int v27), (.ref d1), (.int v29), (.ref a1)])
      refine own_baload X30 hx hZ e30 V1 (i := v27.toInt.toNat) (by omega) (by omega) (hb hby d1_144) ?_
      intro v31 hv31
      have r31 := rng32 v31
      show ORun p e below s _ _ _ T30 (mkF m 145 #[.val (.long q1), .second, .val (.ref a1), .val (.int p3), .val (.int v29), .val (.long q1), .second, .val (.int v2), .val (.int v25), .val (.int v27), .unset, .unset, .unset] [(.int v31), (.int v29), (.ref a1)])
      have f32 := hO1 v27.toInt.toNat (by omega)
      rw [← hv31] at f32
      have nb32 : (nar .byte v31).toInt = v31.toInt := by have q := c_i2b v31; show v31.toInt8.toInt32.toInt = _; omega
      refine own_bastore X30 hx hZ e30 V0 (i := v29.toInt.toNat) (by omega) (by omega) (hb hby d1_145) ?_
      intro T33 h33 L33 X33 e33 W33 hL33 V33
      have len33 : L33.length = 21 := by rw [hL33, List.length_set]; exact hlen
      have N33 := Fr.snoc X33 N0 g1
      show ORun p e below s _ _ _ T33 (mkF m 146 #[.val (.long q1), .second, .val (.ref a1), .val (.int p3), .val (.int v29), .val (.long q1), .second, .val (.int v2), .val (.int v25), .val (.int v27), .unset, .unset, .unset] [])
      refine own_by (fun t k => XS.aloadN X33.here hx rfl (hb hby d1_146) rfl rfl k) ?_
      show ORun p e below s _ _ _ T33 (mkF m 147 #[.val (.long q1), .second, .val (.ref a1), .val (.int p3), .val (.int v29), .val (.long q1), .second, .val (.int v2), .val (.int v25), .val (.int v27), .unset, .unset, .unset] [(.ref a1)])
      refine own_by (fun t k => XS.iinc X33.here hx rfl (hb hby d1_147) rfl (l' := #[.val (.long q1), .second, .val (.ref a1), .val (.int p3), .val (.int (v29 + (-1 : Int32))), .val (.long q1), .second, .val (.int v2), .val (.int v25), .val (.int v27), .unset, .unset, .unset]) rfl k) (own_letI (f := (fun z => (mkF m 150 #[.val (.long q1), .second, .val (.ref a1), .val (.int p3), .val (.int z), .val (.long q1), .second, .val (.int v2), .val (.int v25), .val (.int v27), .unset, .unset, .unset] [(.ref a1)]))) (v29 + (-1 : Int32)) fun v34 hv34 => ?_)
      show ORun p e below s _ _ _ T33 (mkF m 150 #[.val (.long q1), .second, .val (.ref a1), .val (.int p3), .val (.int v34), .val (.long q1), .second, .val (.int v2), .val (.int v25), .val (.int v27), .unset, .unset, .unset] [(.ref a1)])
      have r34 := rng32 v34
      have a34 : v34.toInt = v29.toInt + (-1) := by have q : (v34.toInt - (v29.toInt + (-1))) % 4294967296 = 0 := (by rw [hv34]; exact c_iadd v29 (-1 : Int32)); omega
      refine own_by (fun t k => XS.iload X33.here hx rfl (hb hby d1_150) rfl k) ?_
      show ORun p e below s _ _ _ T33 (mkF m 152 #[.val (.long q1), .second, .val (.ref a1), .val (.int p3), .val (.int v34), .val (.long q1), .second, .val (.int v2), .val (.int v25), .val (.int v27), .unset, .unset, .unset] [(.int v34), (.ref a1)])
      obtain ⟨T35, X35, e35, st35⟩ := getS2 X33 hx hZ hown (host := "") (Or.inl (hw _ (List.mem_of_getElem? (i := 33) rfl))) Via.refl e33 (S2.wr W33) (g := (mkF m 152 #[.val (.long q1), .second, .val (.ref a1), .val (.int p3), .val (.int v34), .val (.long q1), .second, .val (.int v2), .val (.int v25), .val (.int v27), .unset, .unset, .unset] [(.int v34), (.ref a1)])) rfl (hb hby d1_152)
      refine own_by st35 ?_
      show ORun p e below s _ _ _ T35 (mkF m 155 #[.val (.long q1), .second, .val (.ref a1), .val (.int p3), .val (.int v34), .val (.long q1), .second, .val (.int v2), .val (.int v25), .val (.int v27), .unset, .unset, .unset] [(.ref d2), (.int v34), (.ref a1)])
      refine own_by (fun t k => XS.iload X35.here hx rfl (hb hby d1_155) rfl k) ?_
      show ORun p e below s _ _ _ T35 (mkF m 157 #[.val (.long q1), .second, .val (.ref a1), .val (.int p3), .val (.int v34), .val (.long q1), .second, .val (.int v2), .val (.int v25), .val (.int v27), .unset, .unset, .unset] [(.int v27), (.ref d2), (.int v34), (.ref a1)])
      refine own_baload X35 hx hZ e35 (V2.other W33 ne_d2) (i := v27.toInt.toNat) (by omega) (by omega) (hb hby d1_157) ?_
      intro v36 hv36
      have r36 := rng32 v36
      show ORun p e below s _ _ _ T35 (mkF m 158 #[.val (.long q1), .second, .val (.ref a1), .val (.int p3), .val (.int v34), .val (.long q1), .second, .val (.int v2), .val (.int v25), .val (.int v27), .unset, .unset, .unset] [(.int v36), (.int v34), (.ref a1)])
      have f37 := hT1 v27.toInt.toNat (by omega)
      rw [← hv36] at f37
      have nb37 : (nar .byte v36).toInt = v36.toInt := by have q := c_i2b v36; show v36.toInt8.toInt32.toInt = _; omega
      refine own_bastore X35 hx hZ e35 V33 (i := v34.toInt.toNat) (by omega) (by omega) (hb hby d1_158) ?_
      intro T38 h38 L38 X38 e38 W38 hL38 V38
      have len38 : L38.length = 21 := by rw [hL38, List.length_set]; exact len33
      have N38 := Fr.snoc X38 N33 g1
      show ORun p e below s _ _ _ T38 (mkF m 159 #[.val (.long q1), .second, .val (.ref a1), .val (.int p3), .val (.int v34), .val (.long q1), .second, .val (.int v2), .val (.int v25), .val (.int v27), .unset, .unset, .unset] [])
      have pk39 := own_pair (q := E) (w := W) (i := v29.toInt.toNat) (j := v34.toInt.toNat) (by omega) fit (by omega) (by omega) hL33 hL38 (by omega) (by omega)
      obtain ⟨wk39, hwk39⟩ : ∃ w, w = W / 100 := ⟨_, rfl⟩
      obtain ⟨qk39, hqk39⟩ : ∃ q, q = v34.toInt.toNat := ⟨_, rfl⟩
      rw [← hwk39, ← hqk39] at pk39
      obtain ⟨pe39, fi39⟩ := pk39
      have ch39 := Eq.trans (rfl : own_put E W L = own_put E W L) pe39
      have at39 : v34.toInt = (qk39 : Int) := by omega
      have qb39 : 1 ≤ qk39 ∧ qk39 ≤ 20 := by omega
      have lo39 : v25.toInt = (wk39 : Int) := by omega
      have bw39 : wk39 < 1000000 := by omega
      clear t4 a25 r25 a26 r26 a27 r27 f3_28 a29 r29 r31 f32 nb32 a34 r34 r36 f37 nb37 in3 ib3 hlen len33 fit hE hE1 hwk39 hqk39
      refine own_by (fun t k => XS.iload X38.here hx rfl (hb hby d1_159) rfl k) ?_
      show ORun p e below s _ _ _ T38 (mkF m 161 #[.val (.long q1), .second, .val (.ref a1), .val (.int p3), .val (.int v34), .val (.long q1), .second, .val (.int v2), .val (.int v25), .val (.int v27), .unset, .unset, .unset] [(.int v25)])
      refine own_by (fun t k => XS.istore X38.here hx rfl (hb hby d1_161) rfl (l' := #[.val (.long q1), .second, .val (.ref a1), .val (.int p3), .val (.int v34), .val (.long q1), .second, .val (.int v25), .val (.int v25), .val (.int v27), .unset, .unset, .unset]) rfl k) ?_
      show ORun p e below s _ _ _ T38 (mkF m 163 #[.val (.long q1), .second, .val (.ref a1), .val (.int p3), .val (.int v34), .val (.long q1), .second, .val (.int v25), .val (.int v25), .val (.int v27), .unset, .unset, .unset] [])
      refine own_by (fun t k => XS.goto X38.here hx rfl (pc0 := 163) (pc' := 109) rfl (hb hby d1_163) (by decide) (by decide) k) ?_
      show ORun p e below s _ _ _ T38 (mkF m 109 #[.val (.long q1), .second, .val (.ref a1), .val (.int p3), .val (.int v34), .val (.long q1), .second, .val (.int v25), .val (.int v25), .val (.int v27), .unset, .unset, .unset] [])
      refine own_by (fun t k => XS.iload X38.here hx rfl (hb hby d1_109) rfl k) ?_
      show ORun p e below s _ _ _ T38 (mkF m 111 #[.val (.long q1), .second, .val (.ref a1), .val (.int p3), .val (.int v34), .val (.long q1), .second, .val (.int v25), .val (.int v25), .val (.int v27), .unset, .unset, .unset] [(.int v25)])
      refine own_by (fun t k => XS.bipush X38.here hx rfl (hb hby d1_111) k) ?_
      show ORun p e below s _ _ _ T38 (mkF m 113 #[.val (.long q1), .second, .val (.ref a1), .val (.int p3), .val (.int v34), .val (.long q1), .second, .val (.int v25), .val (.int v25), .val (.int v27), .unset, .unset, .unset] [(.int (100 : Int32)), (.int v25)])
      by_cases hc40 : v25 < (100 : Int32)
      · have t40 := own_lt hc40 (a := v25.toInt) (b := 100) rfl (by decide)
        refine own_by (fun t k => XS.icmpYes X38.here hx rfl (pc0 := 113) (pc' := 166) rfl (hb hby d1_113) rfl (tlt hc40).1 (by decide) (by decide) k) ?_
        show ORun p e below s _ _ _ T38 (mkF m 166 #[.val (.long q1), .second, .val (.ref a1), .val (.int p3), .val (.int v34), .val (.long q1), .second, .val (.int v25), .val (.int v25), .val (.int v27), .unset, .unset, .unset] [])
        refine own_by (fun t k => XS.iload X38.here hx rfl (hb hby d1_166) rfl k) ?_
        show ORun p e below s _ _ _ T38 (mkF m 168 #[.val (.long q1), .second, .val (.ref a1), .val (.int p3), .val (.int v34), .val (.long q1), .second, .val (.int v25), .val (.int v25), .val (.int v27), .unset, .unset, .unset] [(.int v25)])
        refine own_by (fun t k => XS.bipush X38.here hx rfl (hb hby d1_168) k) ?_
        show ORun p e below s _ _ _ T38 (mkF m 170 #[.val (.long q1), .second, .val (.ref a1), .val (.int p3), .val (.int v34), .val (.long q1), .second, .val (.int v25), .val (.int v25), .val (.int v27), .unset, .unset, .unset] [(.int (10 : Int32)), (.int v25)])
        by_cases hc41 : v25 < (10 : Int32)
        · have t41 := own_lt hc41 (a := v25.toInt) (b := 10) rfl (by decide)
          refine own_by (fun t k => XS.icmpYes X38.here hx rfl (pc0 := 170) (pc' := 202) rfl (hb hby d1_170) rfl (tlt hc41).1 (by decide) (by decide) k) ?_
          show ORun p e below s _ _ _ T38 (mkF m 202 #[.val (.long q1), .second, .val (.ref a1), .val (.int p3), .val (.int v34), .val (.long q1), .second, .val (.int v25), .val (.int v25), .val (.int v27), .unset, .unset, .unset] [])
          have f1_42 : 1 ≤ qk39 := by omega
          refine own_by (fun t k => XS.aloadN X38.here hx rfl (hb hby d1_202) rfl rfl k) ?_
          show ORun p e below s _ _ _ T38 (mkF m 203 #[.val (.long q1), .second, .val (.ref a1), .val (.int p3), .val (.int v34), .val (.long q1), .second, .val (.int v25), .val (.int v25), .val (.int v27), .unset, .unset, .unset] [(.ref a1)])
          refine own_by (fun t k => XS.iinc X38.here hx rfl (hb hby d1_203) rfl (l' := #[.val (.long q1), .second, .val (.ref a1), .val (.int p3), .val (.int (v34 + (-1 : Int32))), .val (.long q1), .second, .val (.int v25), .val (.int v25), .val (.int v27), .unset, .unset, .unset]) rfl k) (own_letI (f := (fun z => (mkF m 206 #[.val (.long q1), .second, .val (.ref a1), .val (.int p3), .val (.int z), .val (.long q1), .second, .val (.int v25), .val (.int v25), .val (.int v27), .unset, .unset, .unset] [(.ref a1)]))) (v34 + (-1 : Int32)) fun v43 hv43 => ?_)
          show ORun p e below s _ _ _ T38 (mkF m 206 #[.val (.long q1), .second, .val (.ref a1), .val (.int p3), .val (.int v43), .val (.long q1), .second, .val (.int v25), .val (.int v25), .val (.int v27), .unset, .unset, .unset] [(.ref a1)])
          have r43 := rng32 v43
          have a43 : v43.toInt = v34.toInt + (-1) := by have q : (v43.toInt - (v34.toInt + (-1))) % 4294967296 = 0 := (by rw [hv43]; exact c_iadd v34 (-1 : Int32)); omega
          refine own_by (fun t k => XS.iload X38.here hx rfl (hb hby d1_206) rfl k) ?_
          show ORun p e below s _ _ _ T38 (mkF m 208 #[.val (.long q1), .second, .val (.ref a1), .val (.int p3), .val (.int v43), .val (.long q1), .second, .val (.int v25), .val (.int v25), .val (.int v27), .unset, .unset, .unset] [(.int v43), (.ref a1)])
          refine own_by (fun t k => XS.bipush X38.here hx rfl (hb hby d1_208) k) ?_
          show ORun p e below s _ _ _ T38 (mkF m 210 #[.val (.long q1), .second, .val (.ref a1), .val (.int p3), .val (.int v43), .val (.long q1), .second, .val (.int v25), .val (.int v25), .val (.int v27), .unset, .unset, .unset] [(.int (48 : Int32)), (.int v43), (.ref a1)])
          refine own_by (fun t k => XS.iload X38.here hx rfl (hb hby d1_210) rfl k) ?_
          show ORun p e below s _ _ _ T38 (mkF m 212 #[.val (.long q1), .second, .val (.ref a1), .val (.int p3), .val (.int v43), .val (.long q1), .second, .val (.int v25), .val (.int v25), .val (.int v27), .unset, .unset, .unset] [(.int v25), (.int (48 : Int32)), (.int v43), (.ref a1)])
          refine own_by (fun t k => XS.iadd X38.here hx rfl (hb hby d1_212) rfl k) (own_letI (f := (fun z => (mkF m 213 #[.val (.long q1), .second, .val (.ref a1), .val (.int p3), .val (.int v43), .val (.long q1), .second, .val (.int v25), .val (.int v25), .val (.int v27), .unset, .unset, .unset] [(.int z), (.int v43), (.ref a1)]))) ((48 : Int32) + v25) fun v44 hv44 => ?_)
          show ORun p e below s _ _ _ T38 (mkF m 213 #[.val (.long q1), .second, .val (.ref a1), .val (.int p3), .val (.int v43), .val (.long q1), .second, .val (.int v25), .val (.int v25), .val (.int v27), .unset, .unset, .unset] [(.int v44), (.int v43), (.ref a1)])
          have r44 := rng32 v44
          have a44 : v44.toInt = 48 + v25.toInt := by
            have q : (v44.toInt - (48 + v25.toInt)) % 4294967296 = 0 := by rw [hv44]; exact c_iadd (48 : Int32) v25
            omega
          refine own_by (fun t k => XS.i2b X38.here hx rfl (hb hby d1_213) rfl k) (own_letI (f := (fun z => (mkF m 214 #[.val (.long q1), .second, .val (.ref a1), .val (.int p3), .val (.int v43), .val (.long q1), .second, .val (.int v25), .val (.int v25), .val (.int v27), .unset, .unset, .unset] [(.int z), (.int v43), (.ref a1)]))) (v44.toInt8.toInt32) fun v45 hv45 => ?_)
          show ORun p e below s _ _ _ T38 (mkF m 214 #[.val (.long q1), .second, .val (.ref a1), .val (.int p3), .val (.int v43), .val (.long q1), .second, .val (.int v25), .val (.int v25), .val (.int v27), .unset, .unset, .unset] [(.int v45), (.int v43), (.ref a1)])
          have r45 := rng32 v45
          have a45 : v45.toInt = v44.toInt := by
            have q : (v45.toInt - v44.toInt) % 256 = 0 ∧ -128 ≤ v45.toInt ∧ v45.toInt < 128 := by rw [hv45]; exact c_i2b v44
            omega
          have nb46 : (nar .byte v45).toInt = v45.toInt := by have q := c_i2b v45; show v45.toInt8.toInt32.toInt = _; omega
          refine own_bastore X38 hx hZ e38 V38 (i := v43.toInt.toNat) (by omega) (by omega) (hb hby d1_214) ?_
          intro T47 h47 L47 X47 e47 W47 hL47 V47
          have len47 : L47.length = 21 := by rw [hL47, List.length_set]; exact len38
          have N47 := Fr.snoc X47 N38 g1
          show ORun p e below s _ _ _ T47 (mkF m 215 #[.val (.long q1), .second, .val (.ref a1), .val (.int p3), .val (.int v43), .val (.long q1), .second, .val (.int v25), .val (.int v25), .val (.int v27), .unset, .unset, .unset] [])
          refine own_retV X47 hx hret hlk (hb hby d1_215) (by decide) (by decide) ?_
          have fin48 := Eq.trans ch39 (own_last1 (q := qk39) (w := wk39) (i := v43.toInt.toNat) (by omega) (by omega) hL47 (by omega))
          rw [e47]
          refine ⟨rfl, N47, ((((Keep.refl h0 [a1]).wr W33 (Or.inl (List.mem_of_getElem? (i := 0) rfl))).wr W38 (Or.inl (List.mem_of_getElem? (i := 0) rfl))).wr W47 (Or.inl (List.mem_of_getElem? (i := 0) rfl))), ?_⟩
          rw [fin48]
          exact V47
        · have t41 := own_nlt hc41 (a := v25.toInt) (b := 10) rfl (by decide)
          refine own_by (fun t k => XS.icmpNo X38.here hx rfl (hb hby d1_170) rfl (flt hc41).1 k) ?_
          show ORun p e below s _ _ _ T38 (mkF m 173 #[.val (.long q1), .second, .val (.ref a1), .val (.int p3), .val (.int v34), .val (.long q1), .second, .val (.int v25), .val (.int v25), .val (.int v27), .unset, .unset, .unset] [])
          have f2_49 := own_fit2 (q := qk39) (w := wk39) (by omega) fi39
          refine own_by (fun t k => XS.aloadN X38.here hx rfl (hb hby d1_173) rfl rfl k) ?_
          show ORun p e below s _ _ _ T38 (mkF m 174 #[.val (.long q1), .second, .val (.ref a1), .val (.int p3), .val (.int v34), .val (.long q1), .second, .val (.int v25), .val (.int v25), .val (.int v27), .unset, .unset, .unset] [(.ref a1)])
          refine own_by (fun t k => XS.iinc X38.here hx rfl (hb hby d1_174) rfl (l' := #[.val (.long q1), .second, .val (.ref a1), .val (.int p3), .val (.int (v34 + (-1 : Int32))), .val (.long q1), .second, .val (.int v25), .val (.int v25), .val (.int v27), .unset, .unset, .unset]) rfl k) (own_letI (f := (fun z => (mkF m 177 #[.val (.long q1), .second, .val (.ref a1), .val (.int p3), .val (.int z), .val (.long q1), .second, .val (.int v25), .val (.int v25), .val (.int v27), .unset, .unset, .unset] [(.ref a1)]))) (v34 + (-1 : Int32)) fun v50 hv50 => ?_)
          show ORun p e below s _ _ _ T38 (mkF m 177 #[.val (.long q1), .second, .val (.ref a1), .val (.int p3), .val (.int v50), .val (.long q1), .second, .val (.int v25), .val (.int v25), .val (.int v27), .unset, .unset, .unset] [(.ref a1)])
          have r50 := rng32 v50
          have a50 : v50.toInt = v34.toInt + (-1) := by have q : (v50.toInt - (v34.toInt + (-1))) % 4294967296 = 0 := (by rw [hv50]; exact c_iadd v34 (-1 : Int32)); omega
          refine own_by (fun t k => XS.iload X38.here hx rfl (hb hby d1_177) rfl k) ?_
          show ORun p e below s _ _ _ T38 (mkF m 179 #[.val (.long q1), .second, .val (.ref a1), .val (.int p3), .val (.int v50), .val (.long q1), .second, .val (.int v25), .val (.int v25), .val (.int v27), .unset, .unset, .unset] [(.int v50), (.ref a1)])
          obtain ⟨T51, X51, e51, st51⟩ := getS2 X38 hx hZ hown (host := "") (Or.inl (hw _ (List.mem_of_getElem? (i := 31) rfl))) Via.refl e38 ((S1.wr W33).wr W38) (g := (mkF m 179 #[.val (.long q1), .second, .val (.ref a1), .val (.int p3), .val (.int v50), .val (.long q1), .second, .val (.int v25), .val (.int v25), .val (.int v27), .unset, .unset, .unset] [(.int v50), (.ref a1)])) rfl (hb hby d1_179)
          refine own_by st51 ?_
          show ORun p e below s _ _ _ T51 (mkF m 182 #[.val (.long q1), .second, .val (.ref a1), .val (.int p3), .val (.int v50), .val (.long q1), .second, .val (.int v25), .val (.int v25), .val (.int v27), .unset, .unset, .unset] [(.ref d1), (.int v50), (.ref a1)])
          refine own_by (fun t k => XS.iload X51.here hx rfl (hb hby d1_182) rfl k) ?_
          show ORun p e below s _ _ _ T51 (mkF m 184 #[.val (.long q1), .second, .val (.ref a1), .val (.int p3), .val (.int v50), .val (.long q1), .second, .val (.int v25), .val (.int v25), .val (.int v27), .unset, .unset, .unset] [(.int v25), (.ref d1), (.int v50), (.ref a1)])
          refine own_baload X51 hx hZ e51 ((V1.other W33 ne_d1).other W38 ne_d1) (i := v25.toInt.toNat) (by omega) (by omega) (hb hby d1_184) ?_
          intro v52 hv52
          have r52 := rng32 v52
          show ORun p e below s _ _ _ T51 (mkF m 185 #[.val (.long q1), .second, .val (.ref a1), .val (.int p3), .val (.int v50), .val (.long q1), .second, .val (.int v25), .val (.int v25), .val (.int v27), .unset, .unset, .unset] [(.int v52), (.int v50), (.ref a1)])
          have f53 := hO1 v25.toInt.toNat (by omega)
          rw [← hv52] at f53
          have nb53 : (nar .byte v52).toInt = v52.toInt := by have q := c_i2b v52; show v52.toInt8.toInt32.toInt = _; omega
          refine own_bastore X51 hx hZ e51 V38 (i := v50.toInt.toNat) (by omega) (by omega) (hb hby d1_185) ?_
          intro T54 h54 L54 X54 e54 W54 hL54 V54
          have len54 : L54.length = 21 := by rw [hL54, List.length_set]; exact len38
          have N54 := Fr.snoc X54 N38 g1
          show ORun p e below s _ _ _ T54 (mkF m 186 #[.val (.long q1), .second, .val (.ref a1), .val (.int p3), .val (.int v50), .val (.long q1), .second, .val (.int v25), .val (.int v25), .val (.int v27), .unset, .unset, .unset] [])
          refine own_by (fun t k => XS.aloadN X54.here hx rfl (hb hby d1_186) rfl rfl k) ?_
          show ORun p e below s _ _ _ T54 (mkF m 187 #[.val (.long q1), .second, .val (.ref a1), .val (.int p3), .val (.int v50), .val (.long q1), .second, .val (.int v25), .val (.int v25), .val (.int v27), .unset, .unset, .unset] [(.ref a1)])
          refine own_by (fun t k => XS.iinc X54.here hx rfl (hb hby d1_187) rfl (l' := #[.val (.long q1), .second, .val (.ref a1), .val (.int p3), .val (.int (v50 + (-1 : Int32))), .val (.long q1), .second, .val (.int v25), .val (.int v25), .val (.int v27), .unset, .unset, .unset]) rfl k) (own_letI (f := (fun z => (mkF m 190 #[.val (.long q1), .second, .val (.ref a1), .val (.int p3), .val (.int z), .val (.long q1), .second, .val (.int v25), .val (.int v25), .val (.int v27), .unset, .unset, .unset] [(.ref a1)]))) (v50 + (-1 : Int32)) fun v55 hv55 => ?_)
          show ORun p e below s _ _ _ T54 (mkF m 190 #[.val (.long q1), .second, .val (.ref a1), .val (.int p3), .val (.int v55), .val (.long q1), .second, .val (.int v25), .val (.int v25), .val (.int v27), .unset, .unset, .unset] [(.ref a1)])
          have r55 := rng32 v55
          have a55 : v55.toInt = v50.toInt + (-1) := by have q : (v55.toInt - (v50.toInt + (-1))) % 4294967296 = 0 := (by rw [hv55]; exact c_iadd v50 (-1 : Int32)); omega
          refine own_by (fun t k => XS.iload X54.here hx rfl (hb hby d1_190) rfl k) ?_
          show ORun p e below s _ _ _ T54 (mkF m 192 #[.val (.long q1), .second, .val (.ref a1), .val (.int p3), .val (.int v55), .val (.long q1), .second, .val (.int v25), .val (.int v25), .val (.int v27), .unset, .unset, .unset] [(.int v55), (.ref a1)])
          obtain ⟨T56, X56, e56, st56⟩ := getS2 X54 hx hZ hown (host := "") (Or.inl (hw _ (List.mem_of_getElem? (i := 33) rfl))) Via.refl e54 (((S2.wr W33).wr W38).wr W54) (g := (mkF m 192 #[.val (.long q1), .second, .val (.ref a1), .val (.int p3), .val (.int v55), .val (.long q1), .second, .val (.int v25), .val (.int v25), .val (.int v27), .unset, .unset, .unset] [(.int v55), (.ref a1)])) rfl (hb hby d1_192)
          refine own_by st56 ?_
          show ORun p e below s _ _ _ T56 (mkF m 195 #[.val (.long q1), .second, .val (.ref a1), .val (.int p3), .val (.int v55), .val (.long q1), .second, .val (.int v25), .val (.int v25), .val (.int v27), .unset, .unset, .unset] [(.ref d2), (.int v55), (.ref a1)])
          refine own_by (fun t k => XS.iload X56.here hx rfl (hb hby d1_195) rfl k) ?_
          show ORun p e below s _ _ _ T56 (mkF m 197 #[.val (.long q1), .second, .val (.ref a1), .val (.int p3), .val (.int v55), .val (.long q1), .second, .val (.int v25), .val (.int v25), .val (.int v27), .unset, .unset, .unset] [(.int v25), (.ref d2), (.int v55), (.ref a1)])
          refine own_baload X56 hx hZ e56 (((V2.other W33 ne_d2).other W38 ne_d2).other W54 ne_d2) (i := v25.toInt.toNat) (by omega) (by omega) (hb hby d1_197) ?_
          intro v57 hv57
          have r57 := rng32 v57
          show ORun p e below s _ _ _ T56 (mkF m 198 #[.val (.long q1), .second, .val (.ref a1), .val (.int p3), .val (.int v55), .val (.long q1), .second, .val (.int v25), .val (.int v25), .val (.int v27), .unset, .unset, .unset] [(.int v57), (.int v55), (.ref a1)])
          have f58 := hT1 v25.toInt.toNat (by omega)
          rw [← hv57] at f58
          have nb58 : (nar .byte v57).toInt = v57.toInt := by have q := c_i2b v57; show v57.toInt8.toInt32.toInt = _; omega
          refine own_bastore X56 hx hZ e56 V54 (i := v55.toInt.toNat) (by omega) (by omega) (hb hby d1_198) ?_
          intro T59 h59 L59 X59 e59 W59 hL59 V59
          have len59 : L59.length = 21 := by rw [hL59, List.length_set]; exact len54
          have N59 := Fr.snoc X59 N54 g1
          show ORun p e below s _ _ _ T59 (mkF m 199 #[.val (.long q1), .second, .val (.ref a1), .val (.int p3), .val (.int v55), .val (.long q1), .second, .val (.int v25), .val (.int v25), .val (.int v27), .unset, .unset, .unset] [])
          refine own_by (fun t k => XS.goto X59.here hx rfl (pc0 := 199) (pc' := 215) rfl (hb hby d1_199) (by decide) (by decide) k) ?_
          show ORun p e below s _ _ _ T59 (mkF m 215 #[.val (.long q1), .second, .val (.ref a1), .val (.int p3), .val (.int v55), .val (.long q1), .second, .val (.int v25), .val (.int v25), .val (.int v27), .unset, .unset, .unset] [])
          refine own_retV X59 hx hret hlk (hb hby d1_215) (by decide) (by decide) ?_
          have fin60 := Eq.trans ch39 (own_last2 (q := qk39) (w := wk39) (i := v50.toInt.toNat) (j := v55.toInt.toNat) (by omega) (by omega) (by omega) (by omega) hL54 hL59 (by omega) (by omega))
          rw [e59]
          refine ⟨rfl, N59, (((((Keep.refl h0 [a1]).wr W33 (Or.inl (List.mem_of_getElem? (i := 0) rfl))).wr W38 (Or.inl (List.mem_of_getElem? (i := 0) rfl))).wr W54 (Or.inl (List.mem_of_getElem? (i := 0) rfl))).wr W59 (Or.inl (List.mem_of_getElem? (i := 0) rfl))), ?_⟩
          rw [fin60]
          exact V59
      · have t40 := own_nlt hc40 (a := v25.toInt) (b := 100) rfl (by decide)
        refine own_by (fun t k => XS.icmpNo X38.here hx rfl (hb hby d1_113) rfl (flt hc40).1 k) ?_
        show ORun p e below s _ _ _ T38 (mkF m 116 #[.val (.long q1), .second, .val (.ref a1), .val (.int p3), .val (.int v34), .val (.long q1), .second, .val (.int v25), .val (.int v25), .val (.int v27), .unset, .unset, .unset] [])
        refine own_by (fun t k => XS.iload X38.here hx rfl (hb hby d1_116) rfl k) ?_
        show ORun p e below s _ _ _ T38 (mkF m 118 #[.val (.long q1), .second, .val (.ref a1), .val (.int p3), .val (.int v34), .val (.long q1), .second, .val (.int v25), .val (.int v25), .val (.int v27), .unset, .unset, .unset] [(.int v25)])
        refine own_by (fun t k => XS.bipush X38.here hx rfl (hb hby d1_118) k) ?_
        show ORun p e below s _ _ _ T38 (mkF m 120 #[.val (.long q1), .second, .val (.ref a1), .val (.int p3), .val (.int v34), .val (.long q1), .second, .val (.int v25), .val (.int v25), .val (.int v27), .unset, .unset, .unset] [(.int (100 : Int32)), (.int v25)])
        refine own_by (fun t k => XS.idiv X38.here hx rfl (hb hby d1_120) rfl (by decide) k) (own_letI (f := (fun z => (mkF m 121 #[.val (.long q1), .second, .val (.ref a1), .val (.int p3), .val (.int v34), .val (.long q1), .second, .val (.int v25), .val (.int v25), .val (.int v27), .unset, .unset, .unset] [(.int z)]))) (v25 / (100 : Int32)) fun v61 hv61 => ?_)
        show ORun p e below s _ _ _ T38 (mkF m 121 #[.val (.long q1), .second, .val (.ref a1), .val (.int p3), .val (.int v34), .val (.long q1), .second, .val (.int v25), .val (.int v25), .val (.int v27), .unset, .unset, .unset] [(.int v61)])
        have r61 := rng32 v61
        have a61 : v61.toInt = v25.toInt / 100 := by
          have q : (0 ≤ v25.toInt → v61.toInt = v25.toInt / 100) ∧ (v25.toInt < 0 → v61.toInt = -((-v25.toInt) / 100)) := by rw [hv61]; exact c_idiv v25 (100 : Int32) 100 (by decide) (by decide)
          omega
        refine own_by (fun t k => XS.istore X38.here hx rfl (hb hby d1_121) rfl (l' := #[.val (.long q1), .second, .val (.ref a1), .val (.int p3), .val (.int v34), .val (.long q1), .second, .val (.int v25), .val (.int v61), .val (.int v27), .unset, .unset, .unset]) rfl k) ?_
        show ORun p e below s _ _ _ T38 (mkF m 123 #[.val (.long q1), .second, .val (.ref a1), .val (.int p3), .val (.int v34), .val (.long q1), .second, .val (.int v25), .val (.int v61), .val (.int v27), .unset, .unset, .unset] [])
        refine own_by (fun t k => XS.iload X38.here hx rfl (hb hby d1_123) rfl k) ?_
        show ORun p e below s _ _ _ T38 (mkF m 125 #[.val (.long q1), .second, .val (.ref a1), .val (.int p3), .val (.int v34), .val (.long q1), .second, .val (.int v25), .val (.int v61), .val (.int v27), .unset, .unset, .unset] [(.int v25)])
        refine own_by (fun t k => XS.bipush X38.here hx rfl (hb hby d1_125) k) ?_
        show ORun p e below s _ _ _ T38 (mkF m 127 #[.val (.long q1), .second, .val (.ref a1), .val (.int p3), .val (.int v34), .val (.long q1), .second, .val (.int v25), .val (.int v61), .val (.int v27), .unset, .unset, .unset] [(.int (100 : Int32)), (.int v25)])
        refine own_by (fun t k => XS.iload X38.here hx rfl (hb hby d1_127) rfl k) ?_
        show ORun p e below s _ _ _ T38 (mkF m 129 #[.val (.long q1), .second, .val (.ref a1), .val (.int p3), .val (.int v34), .val (.long q1), .second, .val (.int v25), .val (.int v61), .val (.int v27), .unset, .unset, .unset] [(.int v61), (.int (100 : Int32)), (.int v25)])
        refine own_by (fun t k => XS.imul X38.here hx rfl (hb hby d1_129) rfl k) (own_letI (f := (fun z => (mkF m 130 #[.val (.long q1), .second, .val (.ref a1), .val (.int p3), .val (.int v34), .val (.long q1), .second, .val (.int v25), .val (.int v61), .val (.int v27), .unset, .unset, .unset] [(.int z), (.int v25)]))) ((100 : Int32) * v61) fun v62 hv62 => ?_)
        show ORun p e below s _ _ _ T38 (mkF m 130 #[.val (.long q1), .second, .val (.ref a1), .val (.int p3), .val (.int v34), .val (.long q1), .second, .val (.int v25), .val (.int v61), .val (.int v27), .unset, .unset, .unset] [(.int v62), (.int v25)])
        have r62 := rng32 v62
        have a62 : v62.toInt = 100 * v61.toInt := by
          have q : (v62.toInt - (100 * v61.toInt)) % 4294967296 = 0 := by rw [hv62]; exact c_imul (100 : Int32) v61
          omega
        refine own_by (fun t k => XS.isub X38.here hx rfl (hb hby d1_130) rfl k) (own_letI (f := (fun z => (mkF m 131 #[.val (.long q1), .second, .val (.ref a1), .val (.int p3), .val (.int v34), .val (.long q1), .second, .val (.int v25), .val (.int v61), .val (.int v27), .unset, .unset, .unset] [(.int z)]))) (v25 - v62) fun v63 hv63 => ?_)
        show ORun p e below s _ _ _ T38 (mkF m 131 #[.val (.long q1), .second, .val (.ref a1), .val (.int p3), .val (.int v34), .val (.long q1), .second, .val (.int v25), .val (.int v61), .val (.int v27), .unset, .unset, .unset] [(.int v63)])
        have r63 := rng32 v63
        have a63 : v63.toInt = v25.toInt - v62.toInt := by
          have q : (v63.toInt - (v25.toInt - v62.toInt)) % 4294967296 = 0 := by rw [hv63]; exact c_isub v25 v62
          omega
        refine own_by (fun t k => XS.istore X38.here hx rfl (hb hby d1_131) rfl (l' := #[.val (.long q1), .second, .val (.ref a1), .val (.int p3), .val (.int v34), .val (.long q1), .second, .val (.int v25), .val (.int v61), .val (.int v63), .unset, .unset, .unset]) rfl k) ?_
        show ORun p e below s _ _ _ T38 (mkF m 133 #[.val (.long q1), .second, .val (.ref a1), .val (.int p3), .val (.int v34), .val (.long q1), .second, .val (.int v25), .val (.int v61), .val (.int v63), .unset, .unset, .unset] [])
        have f3_64 := own_fit3 (q := qk39) (w := wk39) (by omega) fi39
        refine own_by (fun t k => XS.aloadN X38.here hx rfl (hb hby d1_133) rfl rfl k) ?_
        show ORun p e below s _ _ _ T38 (mkF m 134 #[.val (.long q1), .second, .val (.ref a1), .val (.int p3), .val (.int v34), .val (.long q1), .second, .val (.int v25), .val (.int v61), .val (.int v63), .unset, .unset, .unset] [(.ref a1)])
        refine own_by (fun t k => XS.iinc X38.here hx rfl (hb hby d1_134) rfl (l' := #[.val (.long q1), .second, .val (.ref a1), .val (.int p3), .val (.int (v34 + (-1 : Int32))), .val (.long q1), .second, .val (.int v25), .val (.int v61), .val (.int v63), .unset, .unset, .unset]) rfl k) (own_letI (f := (fun z => (mkF m 137 #[.val (.long q1), .second, .val (.ref a1), .val (.int p3), .val (.int z), .val (.long q1), .second, .val (.int v25), .val (.int v61), .val (.int v63), .unset, .unset, .unset] [(.ref a1)]))) (v34 + (-1 : Int32)) fun v65 hv65 => ?_)
        show ORun p e below s _ _ _ T38 (mkF m 137 #[.val (.long q1), .second, .val (.ref a1), .val (.int p3), .val (.int v65), .val (.long q1), .second, .val (.int v25), .val (.int v61), .val (.int v63), .unset, .unset, .unset] [(.ref a1)])
        have r65 := rng32 v65
        have a65 : v65.toInt = v34.toInt + (-1) := by have q : (v65.toInt - (v34.toInt + (-1))) % 4294967296 = 0 := (by rw [hv65]; exact c_iadd v34 (-1 : Int32)); omega
        refine own_by (fun t k => XS.iload X38.here hx rfl (hb hby d1_137) rfl k) ?_
        show ORun p e below s _ _ _ T38 (mkF m 139 #[.val (.long q1), .second, .val (.ref a1), .val (.int p3), .val (.int v65), .val (.long q1), .second, .val (.int v25), .val (.int v61), .val (.int v63), .unset, .unset, .unset] [(.int v65), (.ref a1)])
        obtain ⟨T66, X66, e66, st66⟩ := getS2 X38 hx hZ hown (host := "") (Or.inl (hw _ (List.mem_of_getElem? (i := 31) rfl))) Via.refl e38 ((S1.wr W33).wr W38) (g := (mkF m 139 #[.val (.long q1), .second, .val (.ref a1), .val (.int p3), .val (.int v65), .val (.long q1), .second, .val (.int v25), .val (.int v61), .val (.int v63), .unset, .unset, .unset] [(.int v65), (.ref a1)])) rfl (hb hby d1_139)
        refine own_by st66 ?_
        show ORun p e below s _ _ _ T66 (mkF m 142 #[.val (.long q1), .second, .val (.ref a1), .val (.int p3), .val (.int v65), .val (.long q1), .second, .val (.int v25), .val (.int v61), .val (.int v63), .unset, .unset, .unset] [(.ref d1), (.int v65), (.ref a1)])
        refine own_by (fun t k => XS.iload X66.here hx rfl (hb hby d1_142) rfl k) ?_
        show ORun p e below s _ _ _ T66 (mkF m 144 #[.val (.long q1), .second, .val (.ref a1), .val (.int p3), .val (.int v65), .val (.long q1), .second, .val (.int v25), .val (.int v61), .val (.int v63), .unset, .unset, .unset] [(.int v63), (.ref d1), (.int v65), (.ref a1)])
        refine own_baload X66 hx hZ e66 ((V1.other W33 ne_d1).other W38 ne_d1) (i := v63.toInt.toNat) (by omega) (by omega) (hb hby d1_144) ?_
        intro v67 hv67
        have r67 := rng32 v67
        show ORun p e below s _ _ _ T66 (mkF m 145 #[.val (.long q1), .second, .val (.ref a1), .val (.int p3), .val (.int v65), .val (.long q1), .second, .val (.int v25), .val (.int v61), .val (.int v63), .unset, .unset, .unset] [(.int v67), (.int v65), (.ref a1)])
        have f68 := hO1 v63.toInt.toNat (by omega)
        rw [← hv67] at f68
        have nb68 : (nar .byte v67).toInt = v67.toInt := by have q := c_i2b v67; show v67.toInt8.toInt32.toInt = _; omega
        refine own_bastore X66 hx hZ e66 V38 (i := v65.toInt.toNat) (by omega) (by omega) (hb hby d1_145) ?_
        intro T69 h69 L69 X69 e69 W69 hL69 V69
        have len69 : L69.length = 21 := by rw [hL69, List.length_set]; exact len38
        have N69 := Fr.snoc X69 N38 g1
        show ORun p e below s _ _ _ T69 (mkF m 146 #[.val (.long q1), .second, .val (.ref a1), .val (.int p3), .val (.int v65), .val (.long q1), .second, .val (.int v25), .val (.int v61), .val (.int v63), .unset, .unset, .unset] [])
        refine own_by (fun t k => XS.aloadN X69.here hx rfl (hb hby d1_146) rfl rfl k) ?_
        show ORun p e below s _ _ _ T69 (mkF m 147 #[.val (.long q1), .second, .val (.ref a1), .val (.int p3), .val (.int v65), .val (.long q1), .second, .val (.int v25), .val (.int v61), .val (.int v63), .unset, .unset, .unset] [(.ref a1)])
        refine own_by (fun t k => XS.iinc X69.here hx rfl (hb hby d1_147) rfl (l' := #[.val (.long q1), .second, .val (.ref a1), .val (.int p3), .val (.int (v65 + (-1 : Int32))), .val (.long q1), .second, .val (.int v25), .val (.int v61), .val (.int v63), .unset, .unset, .unset]) rfl k) (own_letI (f := (fun z => (mkF m 150 #[.val (.long q1), .second, .val (.ref a1), .val (.int p3), .val (.int z), .val (.long q1), .second, .val (.int v25), .val (.int v61), .val (.int v63), .unset, .unset, .unset] [(.ref a1)]))) (v65 + (-1 : Int32)) fun v70 hv70 => ?_)
        show ORun p e below s _ _ _ T69 (mkF m 150 #[.val (.long q1), .second, .val (.ref a1), .val (.int p3), .val (.int v70), .val (.long q1), .second, .val (.int v25), .val (.int v61), .val (.int v63), .unset, .unset, .unset] [(.ref a1)])
        have r70 := rng32 v70
        have a70 : v70.toInt = v65.toInt + (-1) := by have q : (v70.toInt - (v65.toInt + (-1))) % 4294967296 = 0 := (by rw [hv70]; exact c_iadd v65 (-1 : Int32)); omega
        refine own_by (fun t k => XS.iload X69.here hx rfl (hb hby d1_150) rfl k) ?_
        show ORun p e below s _ _ _ T69 (mkF m 152 #[.val (.long q1), .second, .val (.ref a1), .val (.int p3), .val (.int v70), .val (.long q1), .second, .val (.int v25), .val (.int v61), .val (.int v63), .unset, .unset, .unset] [(.int v70), (.ref a1)])
        obtain ⟨T71, X71, e71, st71⟩ := getS2 X69 hx hZ hown (host := "") (Or.inl (hw _ (List.mem_of_getElem? (i := 33) rfl))) Via.refl e69 (((S2.wr W33).wr W38).wr W69) (g := (mkF m 152 #[.val (.long q1), .second, .val (.ref a1), .val (.int p3), .val (.int v70), .val (.long q1), .second, .val (.int v25), .val (.int v61), .val (.int v63), .unset, .unset, .unset] [(.int v70), (.ref a1)])) rfl (hb hby d1_152)
        refine own_by st71 ?_
        show ORun p e below s _ _ _ T71 (mkF m 155 #[.val (.long q1), .second, .val (.ref a1), .val (.int p3), .val (.int v70), .val (.long q1), .second, .val (.int v25), .val (.int v61), .val (.int v63), .unset, .unset, .unset] [(.ref d2), (.int v70), (.ref a1)])
        refine own_by (fun t k => XS.iload X71.here hx rfl (hb hby d1_155) rfl k) ?_
        show ORun p e below s _ _ _ T71 (mkF m 157 #[.val (.long q1), .second, .val (.ref a1), .val (.int p3), .val (.int v70), .val (.long q1), .second, .val (.int v25), .val (.int v61), .val (.int v63), .unset, .unset, .unset] [(.int v63), (.ref d2), (.int v70), (.ref a1)])
        refine own_baload X71 hx hZ e71 (((V2.other W33 ne_d2).other W38 ne_d2).other W69 ne_d2) (i := v63.toInt.toNat) (by omega) (by omega) (hb hby d1_157) ?_
        intro v72 hv72
        have r72 := rng32 v72
        show ORun p e below s _ _ _ T71 (mkF m 158 #[.val (.long q1), .second, .val (.ref a1), .val (.int p3), .val (.int v70), .val (.long q1), .second, .val (.int v25), .val (.int v61), .val (.int v63), .unset, .unset, .unset] [(.int v72), (.int v70), (.ref a1)])
        have f73 := hT1 v63.toInt.toNat (by omega)
        rw [← hv72] at f73
        have nb73 : (nar .byte v72).toInt = v72.toInt := by have q := c_i2b v72; show v72.toInt8.toInt32.toInt = _; omega
        refine own_bastore X71 hx hZ e71 V69 (i := v70.toInt.toNat) (by omega) (by omega) (hb hby d1_158) ?_
        intro T74 h74 L74 X74 e74 W74 hL74 V74
        have len74 : L74.length = 21 := by rw [hL74, List.length_set]; exact len69
        have N74 := Fr.snoc X74 N69 g1
        show ORun p e below s _ _ _ T74 (mkF m 159 #[.val (.long q1), .second, .val (.ref a1), .val (.int p3), .val (.int v70), .val (.long q1), .second, .val (.int v25), .val (.int v61), .val (.int v63), .unset, .unset, .unset] [])
        have pk75 := own_pair (q := qk39) (w := wk39) (i := v65.toInt.toNat) (j := v70.toInt.toNat) (by omega) fi39 (by omega) (by omega) hL69 hL74 (by omega) (by omega)
        obtain ⟨wk75, hwk75⟩ : ∃ w, w = wk39 / 100 := ⟨_, rfl⟩
        obtain ⟨qk75, hqk75⟩ : ∃ q, q = v70.toInt.toNat := ⟨_, rfl⟩
        rw [← hwk75, ← hqk75] at pk75
        obtain ⟨pe75, fi75⟩ := pk75
        have ch75 := Eq.trans ch39 pe75
        have at75 : v70.toInt = (qk75 : Int) := by omega
        have qb75 : 1 ≤ qk75 ∧ qk75 ≤ 20 := by omega
        have lo75 : v61.toInt = (wk75 : Int) := by omega
        have bw75 : wk75 < 10000 := by omega
        clear t40 a61 r61 a62 r62 a63 r63 f3_64 a65 r65 r67 f68 nb68 a70 r70 r72 f73 nb73 at39 qb39 lo39 bw39 len38 len69 fi39 hwk75 hqk75
        refine own_by (fun t k => XS.iload X74.here hx rfl (hb hby d1_159) rfl k) ?_
        show ORun p e below s _ _ _ T74 (mkF m 161 #[.val (.long q1), .second, .val (.ref a1), .val (.int p3), .val (.int v70), .val (.long q1), .second, .val (.int v25), .val (.int v61), .val (.int v63), .unset, .unset, .unset] [(.int v61)])
        refine own_by (fun t k => XS.istore X74.here hx rfl (hb hby d1_161) rfl (l' := #[.val (.long q1), .second, .val (.ref a1), .val (.int p3), .val (.int v70), .val (.long q1), .second, .val (.int v61), .val (.int v61), .val (.int v63), .unset, .unset, .unset]) rfl k) ?_
        show ORun p e below s _ _ _ T74 (mkF m 163 #[.val (.long q1), .second, .val (.ref a1), .val (.int p3), .val (.int v70), .val (.long q1), .second, .val (.int v61), .val (.int v61), .val (.int v63), .unset, .unset, .unset] [])
        refine own_by (fun t k => XS.goto X74.here hx rfl (pc0 := 163) (pc' := 109) rfl (hb hby d1_163) (by decide) (by decide) k) ?_
        show ORun p e below s _ _ _ T74 (mkF m 109 #[.val (.long q1), .second, .val (.ref a1), .val (.int p3), .val (.int v70), .val (.long q1), .second, .val (.int v61), .val (.int v61), .val (.int v63), .unset, .unset, .unset] [])
        refine own_by (fun t k => XS.iload X74.here hx rfl (hb hby d1_109) rfl k) ?_
        show ORun p e below s _ _ _ T74 (mkF m 111 #[.val (.long q1), .second, .val (.ref a1), .val (.int p3), .val (.int v70), .val (.long q1), .second, .val (.int v61), .val (.int v61), .val (.int v63), .unset, .unset, .unset] [(.int v61)])
        refine own_by (fun t k => XS.bipush X74.here hx rfl (hb hby d1_111) k) ?_
        show ORun p e below s _ _ _ T74 (mkF m 113 #[.val (.long q1), .second, .val (.ref a1), .val (.int p3), .val (.int v70), .val (.long q1), .second, .val (.int v61), .val (.int v61), .val (.int v63), .unset, .unset, .unset] [(.int (100 : Int32)), (.int v61)])
        by_cases hc76 : v61 < (100 : Int32)
        · have t76 := own_lt hc76 (a := v61.toInt) (b := 100) rfl (by decide)
          refine own_by (fun t k => XS.icmpYes X74.here hx rfl (pc0 := 113) (pc' := 166) rfl (hb hby d1_113) rfl (tlt hc76).1 (by decide) (by decide) k) ?_
          show ORun p e below s _ _ _ T74 (mkF m 166 #[.val (.long q1), .second, .val (.ref a1), .val (.int p3), .val (.int v70), .val (.long q1), .second, .val (.int v61), .val (.int v61), .val (.int v63), .unset, .unset, .unset] [])
          refine own_by (fun t k => XS.iload X74.here hx rfl (hb hby d1_166) rfl k) ?_
          show ORun p e below s _ _ _ T74 (mkF m 168 #[.val (.long q1), .second, .val (.ref a1), .val (.int p3), .val (.int v70), .val (.long q1), .second, .val (.int v61), .val (.int v61), .val (.int v63), .unset, .unset, .unset] [(.int v61)])
          refine own_by (fun t k => XS.bipush X74.here hx rfl (hb hby d1_168) k) ?_
          show ORun p e below s _ _ _ T74 (mkF m 170 #[.val (.long q1), .second, .val (.ref a1), .val (.int p3), .val (.int v70), .val (.long q1), .second, .val (.int v61), .val (.int v61), .val (.int v63), .unset, .unset, .unset] [(.int (10 : Int32)), (.int v61)])
          by_cases hc77 : v61 < (10 : Int32)
          · have t77 := own_lt hc77 (a := v61.toInt) (b := 10) rfl (by decide)
            refine own_by (fun t k => XS.icmpYes X74.here hx rfl (pc0 := 170) (pc' := 202) rfl (hb hby d1_170) rfl (tlt hc77).1 (by decide) (by decide) k) ?_
            show ORun p e below s _ _ _ T74 (mkF m 202 #[.val (.long q1), .second, .val (.ref a1), .val (.int p3), .val (.int v70), .val (.long q1), .second, .val (.int v61), .val (.int v61), .val (.int v63), .unset, .unset, .unset] [])
            have f1_78 : 1 ≤ qk75 := by omega
            refine own_by (fun t k => XS.aloadN X74.here hx rfl (hb hby d1_202) rfl rfl k) ?_
            show ORun p e below s _ _ _ T74 (mkF m 203 #[.val (.long q1), .second, .val (.ref a1), .val (.int p3), .val (.int v70), .val (.long q1), .second, .val (.int v61), .val (.int v61), .val (.int v63), .unset, .unset, .unset] [(.ref a1)])
            refine own_by (fun t k => XS.iinc X74.here hx rfl (hb hby d1_203) rfl (l' := #[.val (.long q1), .second, .val (.ref a1), .val (.int p3), .val (.int (v70 + (-1 : Int32))), .val (.long q1), .second, .val (.int v61), .val (.int v61), .val (.int v63), .unset, .unset, .unset]) rfl k) (own_letI (f := (fun z => (mkF m 206 #[.val (.long q1), .second, .val (.ref a1), .val (.int p3), .val (.int z), .val (.long q1), .second, .val (.int v61), .val (.int v61), .val (.int v63), .unset, .unset, .unset] [(.ref a1)]))) (v70 + (-1 : Int32)) fun v79 hv79 => ?_)
            show ORun p e below s _ _ _ T74 (mkF m 206 #[.val (.long q1), .second, .val (.ref a1), .val (.int p3), .val (.int v79), .val (.long q1), .second, .val (.int v61), .val (.int v61), .val (.int v63), .unset, .unset, .unset] [(.ref a1)])
            have r79 := rng32 v79
            have a79 : v79.toInt = v70.toInt + (-1) := by have q : (v79.toInt - (v70.toInt + (-1))) % 4294967296 = 0 := (by rw [hv79]; exact c_iadd v70 (-1 : Int32)); omega
            refine own_by (fun t k => XS.iload X74.here hx rfl (hb hby d1_206) rfl k) ?_
            show ORun p e below s _ _ _ T74 (mkF m 208 #[.val (.long q1), .second, .val (.ref a1), .val (.int p3), .val (.int v79), .val (.long q1), .second, .val (.int v61), .val (.int v61), .val (.int v63), .unset, .unset, .unset] [(.int v79), (.ref a1)])
            refine own_by (fun t k => XS.bipush X74.here hx rfl (hb hby d1_208) k) ?_
            show ORun p e below s _ _ _ T74 (mkF m 210 #[.val (.long q1), .second, .val (.ref a1), .val (.int p3), .val (.int v79), .val (.long q1), .second, .val (.int v61), .val (.int v61), .val (.int v63), .unset, .unset, .unset] [(.int (48 : Int32)), (.int v79), (.ref a1)])
            refine own_by (fun t k => XS.iload X74.here hx rfl (hb hby d1_210) rfl k) ?_
            show ORun p e below s _ _ _ T74 (mkF m 212 #[.val (.long q1), .second, .val (.ref a1), .val (.int p3), .val (.int v79), .val (.long q1), .second, .val (.int v61), .val (.int v61), .val (.int v63), .unset, .unset, .unset] [(.int v61), (.int (48 : Int32)), (.int v79), (.ref a1)])
            refine own_by (fun t k => XS.iadd X74.here hx rfl (hb hby d1_212) rfl k) (own_letI (f := (fun z => (mkF m 213 #[.val (.long q1), .second, .val (.ref a1), .val (.int p3), .val (.int v79), .val (.long q1), .second, .val (.int v61), .val (.int v61), .val (.int v63), .unset, .unset, .unset] [(.int z), (.int v79), (.ref a1)]))) ((48 : Int32) + v61) fun v80 hv80 => ?_)
            show ORun p e below s _ _ _ T74 (mkF m 213 #[.val (.long q1), .second, .val (.ref a1), .val (.int p3), .val (.int v79), .val (.long q1), .second, .val (.int v61), .val (.int v61), .val (.int v63), .unset, .unset, .unset] [(.int v80), (.int v79), (.ref a1)])
            have r80 := rng32 v80
            have a80 : v80.toInt = 48 + v61.toInt := by
              have q : (v80.toInt - (48 + v61.toInt)) % 4294967296 = 0 := by rw [hv80]; exact c_iadd (48 : Int32) v61
              omega
            refine own_by (fun t k => XS.i2b X74.here hx rfl (hb hby d1_213) rfl k) (own_letI (f := (fun z => (mkF m 214 #[.val (.long q1), .second, .val (.ref a1), .val (.int p3), .val (.int v79), .val (.long q1), .second, .val (.int v61), .val (.int v61), .val (.int v63), .unset, .unset, .unset] [(.int z), (.int v79), (.ref a1)]))) (v80.toInt8.toInt32) fun v81 hv81 => ?_)
            show ORun p e below s _ _ _ T74 (mkF m 214 #[.val (.long q1), .second, .val (.ref a1), .val (.int p3), .val (.int v79), .val (.long q1), .second, .val (.int v61), .val (.int v61), .val (.int v63), .unset, .unset, .unset] [(.int v81), (.int v79), (.ref a1)])
            have r81 := rng32 v81
            have a81 : v81.toInt = v80.toInt := by
              have q : (v81.toInt - v80.toInt) % 256 = 0 ∧ -128 ≤ v81.toInt ∧ v81.toInt < 128 := by rw [hv81]; exact c_i2b v80
              omega
            have nb82 : (nar .byte v81).toInt = v81.toInt := by have q := c_i2b v81; show v81.toInt8.toInt32.toInt = _; omega
            refine own_bastore X74 hx hZ e74 V74 (i := v79.toInt.toNat) (by omega) (by omega) (hb hby d1_214) ?_
            intro T83 h83 L83 X83 e83 W83 hL83 V83
            have len83 : L83.length = 21 := by rw [hL83, List.length_set]; exact len74
            have N83 := Fr.snoc X83 N74 g1
            show ORun p e below s _ _ _ T83 (mkF m 215 #[.val (.long q1), .second, .val (.ref a1), .val (.int p3), .val (.int v79), .val (.long q1), .second, .val (.int v61), .val (.int v61), .val (.int v63), .unset, .unset, .unset] [])
            refine own_retV X83 hx hret hlk (hb hby d1_215) (by decide) (by decide) ?_
            have fin84 := Eq.trans ch75 (own_last1 (q := qk75) (w := wk75) (i := v79.toInt.toNat) (by omega) (by omega) hL83 (by omega))
            rw [e83]
            refine ⟨rfl, N83, ((((((Keep.refl h0 [a1]).wr W33 (Or.inl (List.mem_of_getElem? (i := 0) rfl))).wr W38 (Or.inl (List.mem_of_getElem? (i := 0) rfl))).wr W69 (Or.inl (List.mem_of_getElem? (i := 0) rfl))).wr W74 (Or.inl (List.mem_of_getElem? (i := 0) rfl))).wr W83 (Or.inl (List.mem_of_getElem? (i := 0) rfl))), ?_⟩
            rw [fin84]
            exact V83
          · have t77 := own_nlt hc77 (a := v61.toInt) (b := 10) rfl (by decide)
            refine own_by (fun t k => XS.icmpNo X74.here hx rfl (hb hby d1_170) rfl (flt hc77).1 k) ?_
            show ORun p e below s _ _ _ T74 (mkF m 173 #[.val (.long q1), .second, .val (.ref a1), .val (.int p3), .val (.int v70), .val (.long q1), .second, .val (.int v61), .val (.int v61), .val (.int v63), .unset, .unset, .unset] [])
            have f2_85 := own_fit2 (q := qk75) (w := wk75) (by omega) fi75
            refine own_by (fun t k => XS.aloadN X74.here hx rfl (hb hby d1_173) rfl rfl k) ?_
            show ORun p e below s _ _ _ T74 (mkF m 174 #[.val (.long q1), .second, .val (.ref a1), .val (.int p3), .val (.int v70), .val (.long q1), .second, .val (.int v61), .val (.int v61), .val (.int v63), .unset, .unset, .unset] [(.ref a1)])
            refine own_by (fun t k => XS.iinc X74.here hx rfl (hb hby d1_174) rfl (l' := #[.val (.long q1), .second, .val (.ref a1), .val (.int p3), .val (.int (v70 + (-1 : Int32))), .val (.long q1), .second, .val (.int v61), .val (.int v61), .val (.int v63), .unset, .unset, .unset]) rfl k) (own_letI (f := (fun z => (mkF m 177 #[.val (.long q1), .second, .val (.ref a1), .val (.int p3), .val (.int z), .val (.long q1), .second, .val (.int v61), .val (.int v61), .val (.int v63), .unset, .unset, .unset] [(.ref a1)]))) (v70 + (-1 : Int32)) fun v86 hv86 => ?_)
            show ORun p e below s _ _ _ T74 (mkF m 177 #[.val (.long q1), .second, .val (.ref a1), .val (.int p3), .val (.int v86), .val (.long q1), .second, .val (.int v61), .val (.int v61), .val (.int v63), .unset, .unset, .unset] [(.ref a1)])
            have r86 := rng32 v86
            have a86 : v86.toInt = v70.toInt + (-1) := by have q : (v86.toInt - (v70.toInt + (-1))) % 4294967296 = 0 := (by rw [hv86]; exact c_iadd v70 (-1 : Int32)); omega
            refine own_by (fun t k => XS.iload X74.here hx rfl (hb hby d1_177) rfl k) ?_
            show ORun p e below s _ _ _ T74 (mkF m 179 #[.val (.long q1), .second, .val (.ref a1), .val (.int p3), .val (.int v86), .val (.long q1), .second, .val (.int v61), .val (.int v61), .val (.int v63), .unset, .unset, .unset] [(.int v86), (.ref a1)])
            obtain ⟨T87, X87, e87, st87⟩ := getS2 X74 hx hZ hown (host := "") (Or.inl (hw _ (List.mem_of_getElem? (i := 31) rfl))) Via.refl e74 ((((S1.wr W33).wr W38).wr W69).wr W74) (g := (mkF m 179 #[.val (.long q1), .second, .val (.ref a1), .val (.int p3), .val (.int v86), .val (.long q1), .second, .val (.int v61), .val (.int v61), .val (.int v63), .unset, .unset, .unset] [(.int v86), (.ref a1)])) rfl (hb hby d1_179)
            refine own_by st87 ?_
            show ORun p e below s _ _ _ T87 (mkF m 182 #[.val (.long q1), .second, .val (.ref a1), .val (.int p3), .val (.int v86), .val (.long q1), .second, .val (.int v61), .val (.int v61), .val (.int v63), .unset, .unset, .unset] [(.ref d1), (.int v86), (.ref a1)])
            refine own_by (fun t k => XS.iload X87.here hx rfl (hb hby d1_182) rfl k) ?_
            show ORun p e below s _ _ _ T87 (mkF m 184 #[.val (.long q1), .second, .val (.ref a1), .val (.int p3), .val (.int v86), .val (.long q1), .second, .val (.int v61), .val (.int v61), .val (.int v63), .unset, .unset, .unset] [(.int v61), (.ref d1), (.int v86), (.ref a1)])
            refine own_baload X87 hx hZ e87 ((((V1.other W33 ne_d1).other W38 ne_d1).other W69 ne_d1).other W74 ne_d1) (i := v61.toInt.toNat) (by omega) (by omega) (hb hby d1_184) ?_
            intro v88 hv88
            have r88 := rng32 v88
            show ORun p e below s _ _ _ T87 (mkF m 185 #[.val (.long q1), .second, .val (.ref a1), .val (.int p3), .val (.int v86), .val (.long q1), .second, .val (.int v61), .val (.int v61), .val (.int v63), .unset, .unset, .unset] [(.int v88), (.int v86), (.ref a1)])
            have f89 := hO1 v61.toInt.toNat (by omega)
            rw [← hv88] at f89
            have nb89 : (nar .byte v88).toInt = v88.toInt := by have q := c_i2b v88; show v88.toInt8.toInt32.toInt = _; omega
            refine own_bastore X87 hx hZ e87 V74 (i := v86.toInt.toNat) (by omega) (by omega) (hb hby d1_185) ?_
            intro T90 h90 L90 X90 e90 W90 hL90 V90
            have len90 : L90.length = 21 := by rw [hL90, List.length_set]; exact len74
            have N90 := Fr.snoc X90 N74 g1
            show ORun p e below s _ _ _ T90 (mkF m 186 #[.val (.long q1), .second, .val (.ref a1), .val (.int p3), .val (.int v86), .val (.long q1), .second, .val (.int v61), .val (.int v61), .val (.int v63), .unset, .unset, .unset] [])
            refine own_by (fun t k => XS.aloadN X90.here hx rfl (hb hby d1_186) rfl rfl k) ?_
            show ORun p e below s _ _ _ T90 (mkF m 187 #[.val (.long q1), .second, .val (.ref a1), .val (.int p3), .val (.int v86), .val (.long q1), .second, .val (.int v61), .val (.int v61), .val (.int v63), .unset, .unset, .unset] [(.ref a1)])
            refine own_by (fun t k => XS.iinc X90.here hx rfl (hb hby d1_187) rfl (l' := #[.val (.long q1), .second, .val (.ref a1), .val (.int p3), .val (.int (v86 + (-1 : Int32))), .val (.long q1), .second, .val (.int v61), .val (.int v61), .val (.int v63), .unset, .unset, .unset]) rfl k) (own_letI (f := (fun z => (mkF m 190 #[.val (.long q1), .second, .val (.ref a1), .val (.int p3), .val (.int z), .val (.long q1), .second, .val (.int v61), .val (.int v61), .val (.int v63), .unset, .unset, .unset] [(.ref a1)]))) (v86 + (-1 : Int32)) fun v91 hv91 => ?_)
            show ORun p e below s _ _ _ T90 (mkF m 190 #[.val (.long q1), .second, .val (.ref a1), .val (.int p3), .val (.int v91), .val (.long q1), .second, .val (.int v61), .val (.int v61), .val (.int v63), .unset, .unset, .unset] [(.ref a1)])
            have r91 := rng32 v91
            have a91 : v91.toInt = v86.toInt + (-1) := by have q : (v91.toInt - (v86.toInt + (-1))) % 4294967296 = 0 := (by rw [hv91]; exact c_iadd v86 (-1 : Int32)); omega
            refine own_by (fun t k => XS.iload X90.here hx rfl (hb hby d1_190) rfl k) ?_
            show ORun p e below s _ _ _ T90 (mkF m 192 #[.val (.long q1), .second, .val (.ref a1), .val (.int p3), .val (.int v91), .val (.long q1), .second, .val (.int v61), .val (.int v61), .val (.int v63), .unset, .unset, .unset] [(.int v91), (.ref a1)])
            obtain ⟨T92, X92, e92, st92⟩ := getS2 X90 hx hZ hown (host := "") (Or.inl (hw _ (List.mem_of_getElem? (i := 33) rfl))) Via.refl e90 (((((S2.wr W33).wr W38).wr W69).wr W74).wr W90) (g := (mkF m 192 #[.val (.long q1), .second, .val (.ref a1), .val (.int p3), .val (.int v91), .val (.long q1), .second, .val (.int v61), .val (.int v61), .val (.int v63), .unset, .unset, .unset] [(.int v91), (.ref a1)])) rfl (hb hby d1_192)
            refine own_by st92 ?_
            show ORun p e below s _ _ _ T92 (mkF m 195 #[.val (.long q1), .second, .val (.ref a1), .val (.int p3), .val (.int v91), .val (.long q1), .second, .val (.int v61), .val (.int v61), .val (.int v63), .unset, .unset, .unset] [(.ref d2), (.int v91), (.ref a1)])
            refine own_by (fun t k => XS.iload X92.here hx rfl (hb hby d1_195) rfl k) ?_
            show ORun p e below s _ _ _ T92 (mkF m 197 #[.val (.long q1), .second, .val (.ref a1), .val (.int p3), .val (.int v91), .val (.long q1), .second, .val (.int v61), .val (.int v61), .val (.int v63), .unset, .unset, .unset] [(.int v61), (.ref d2), (.int v91), (.ref a1)])
            refine own_baload X92 hx hZ e92 (((((V2.other W33 ne_d2).other W38 ne_d2).other W69 ne_d2).other W74 ne_d2).other W90 ne_d2) (i := v61.toInt.toNat) (by omega) (by omega) (hb hby d1_197) ?_
            intro v93 hv93
            have r93 := rng32 v93
            show ORun p e below s _ _ _ T92 (mkF m 198 #[.val (.long q1), .second, .val (.ref a1), .val (.int p3), .val (.int v91), .val (.long q1), .second, .val (.int v61), .val (.int v61), .val (.int v63), .unset, .unset, .unset] [(.int v93), (.int v91), (.ref a1)])
            have f94 := hT1 v61.toInt.toNat (by omega)
            rw [← hv93] at f94
            have nb94 : (nar .byte v93).toInt = v93.toInt := by have q := c_i2b v93; show v93.toInt8.toInt32.toInt = _; omega
            refine own_bastore X92 hx hZ e92 V90 (i := v91.toInt.toNat) (by omega) (by omega) (hb hby d1_198) ?_
            intro T95 h95 L95 X95 e95 W95 hL95 V95
            have len95 : L95.length = 21 := by rw [hL95, List.length_set]; exact len90
            have N95 := Fr.snoc X95 N90 g1
            show ORun p e below s _ _ _ T95 (mkF m 199 #[.val (.long q1), .second, .val (.ref a1), .val (.int p3), .val (.int v91), .val (.long q1), .second, .val (.int v61), .val (.int v61), .val (.int v63), .unset, .unset, .unset] [])
            refine own_by (fun t k => XS.goto X95.here hx rfl (pc0 := 199) (pc' := 215) rfl (hb hby d1_199) (by decide) (by decide) k) ?_
            show ORun p e below s _ _ _ T95 (mkF m 215 #[.val (.long q1), .second, .val (.ref a1), .val (.int p3), .val (.int v91), .val (.long q1), .second, .val (.int v61), .val (.int v61), .val (.int v63), .unset, .unset, .unset] [])
            refine own_retV X95 hx hret hlk (hb hby d1_215) (by decide) (by decide) ?_
            have fin96 := Eq.trans ch75 (own_last2 (q := qk75) (w := wk75) (i := v86.toInt.toNat) (j := v91.toInt.toNat) (by omega) (by omega) (by omega) (by omega) hL90 hL95 (by omega) (by omega))
            rw [e95]
            refine ⟨rfl, N95, (((((((Keep.refl h0 [a1]).wr W33 (Or.inl (List.mem_of_getElem? (i := 0) rfl))).wr W38 (Or.inl (List.mem_of_getElem? (i := 0) rfl))).wr W69 (Or.inl (List.mem_of_getElem? (i := 0) rfl))).wr W74 (Or.inl (List.mem_of_getElem? (i := 0) rfl))).wr W90 (Or.inl (List.mem_of_getElem? (i := 0) rfl))).wr W95 (Or.inl (List.mem_of_getElem? (i := 0) rfl))), ?_⟩
            rw [fin96]
            exact V95
        · have t76 := own_nlt hc76 (a := v61.toInt) (b := 100) rfl (by decide)
          refine own_by (fun t k => XS.icmpNo X74.here hx rfl (hb hby d1_113) rfl (flt hc76).1 k) ?_
          show ORun p e below s _ _ _ T74 (mkF m 116 #[.val (.long q1), .second, .val (.ref a1), .val (.int p3), .val (.int v70), .val (.long q1), .second, .val (.int v61), .val (.int v61), .val (.int v63), .unset, .unset, .unset] [])
          refine own_by (fun t k => XS.iload X74.here hx rfl (hb hby d1_116) rfl k) ?_
          show ORun p e below s _ _ _ T74 (mkF m 118 #[.val (.long q1), .second, .val (.ref a1), .val (.int p3), .val (.int v70), .val (.long q1), .second, .val (.int v61), .val (.int v61), .val (.int v63), .unset, .unset, .unset] [(.int v61)])
          refine own_by (fun t k => XS.bipush X74.here hx rfl (hb hby d1_118) k) ?_
          show ORun p e below s _ _ _ T74 (mkF m 120 #[.val (.long q1), .second, .val (.ref a1), .val (.int p3), .val (.int v70), .val (.long q1), .second, .val (.int v61), .val (.int v61), .val (.int v63), .unset, .unset, .unset] [(.int (100 : Int32)), (.int v61)])
          refine own_by (fun t k => XS.idiv X74.here hx rfl (hb hby d1_120) rfl (by decide) k) (own_letI (f := (fun z => (mkF m 121 #[.val (.long q1), .second, .val (.ref a1), .val (.int p3), .val (.int v70), .val (.long q1), .second, .val (.int v61), .val (.int v61), .val (.int v63), .unset, .unset, .unset] [(.int z)]))) (v61 / (100 : Int32)) fun v97 hv97 => ?_)
          show ORun p e below s _ _ _ T74 (mkF m 121 #[.val (.long q1), .second, .val (.ref a1), .val (.int p3), .val (.int v70), .val (.long q1), .second, .val (.int v61), .val (.int v61), .val (.int v63), .unset, .unset, .unset] [(.int v97)])
          have r97 := rng32 v97
          have a97 : v97.toInt = v61.toInt / 100 := by
            have q : (0 ≤ v61.toInt → v97.toInt = v61.toInt / 100) ∧ (v61.toInt < 0 → v97.toInt = -((-v61.toInt) / 100)) := by rw [hv97]; exact c_idiv v61 (100 : Int32) 100 (by decide) (by decide)
            omega
          refine own_by (fun t k => XS.istore X74.here hx rfl (hb hby d1_121) rfl (l' := #[.val (.long q1), .second, .val (.ref a1), .val (.int p3), .val (.int v70), .val (.long q1), .second, .val (.int v61), .val (.int v97), .val (.int v63), .unset, .unset, .unset]) rfl k) ?_
          show ORun p e below s _ _ _ T74 (mkF m 123 #[.val (.long q1), .second, .val (.ref a1), .val (.int p3), .val (.int v70), .val (.long q1), .second, .val (.int v61), .val (.int v97), .val (.int v63), .unset, .unset, .unset] [])
          refine own_by (fun t k => XS.iload X74.here hx rfl (hb hby d1_123) rfl k) ?_
          show ORun p e below s _ _ _ T74 (mkF m 125 #[.val (.long q1), .second, .val (.ref a1), .val (.int p3), .val (.int v70), .val (.long q1), .second, .val (.int v61), .val (.int v97), .val (.int v63), .unset, .unset, .unset] [(.int v61)])
          refine own_by (fun t k => XS.bipush X74.here hx rfl (hb hby d1_125) k) ?_
          show ORun p e below s _ _ _ T74 (mkF m 127 #[.val (.long q1), .second, .val (.ref a1), .val (.int p3), .val (.int v70), .val (.long q1), .second, .val (.int v61), .val (.int v97), .val (.int v63), .unset, .unset, .unset] [(.int (100 : Int32)), (.int v61)])
          refine own_by (fun t k => XS.iload X74.here hx rfl (hb hby d1_127) rfl k) ?_
          show ORun p e below s _ _ _ T74 (mkF m 129 #[.val (.long q1), .second, .val (.ref a1), .val (.int p3), .val (.int v70), .val (.long q1), .second, .val (.int v61), .val (.int v97), .val (.int v63), .unset, .unset, .unset] [(.int v97), (.int (100 : Int32)), (.int v61)])
          refine own_by (fun t k => XS.imul X74.here hx rfl (hb hby d1_129) rfl k) (own_letI (f := (fun z => (mkF m 130 #[.val (.long q1), .second, .val (.ref a1), .val (.int p3), .val (.int v70), .val (.long q1), .second, .val (.int v61), .val (.int v97), .val (.int v63), .unset, .unset, .unset] [(.int z), (.int v61)]))) ((100 : Int32) * v97) fun v98 hv98 => ?_)
          show ORun p e below s _ _ _ T74 (mkF m 130 #[.val (.long q1), .second, .val (.ref a1), .val (.int p3), .val (.int v70), .val (.long q1), .second, .val (.int v61), .val (.int v97), .val (.int v63), .unset, .unset, .unset] [(.int v98), (.int v61)])
          have r98 := rng32 v98
          have a98 : v98.toInt = 100 * v97.toInt := by
            have q : (v98.toInt - (100 * v97.toInt)) % 4294967296 = 0 := by rw [hv98]; exact c_imul (100 : Int32) v97
            omega
          refine own_by (fun t k => XS.isub X74.here hx rfl (hb hby d1_130) rfl k) (own_letI (f := (fun z => (mkF m 131 #[.val (.long q1), .second, .val (.ref a1), .val (.int p3), .val (.int v70), .val (.long q1), .second, .val (.int v61), .val (.int v97), .val (.int v63), .unset, .unset, .unset] [(.int z)]))) (v61 - v98) fun v99 hv99 => ?_)
          show ORun p e below s _ _ _ T74 (mkF m 131 #[.val (.long q1), .second, .val (.ref a1), .val (.int p3), .val (.int v70), .val (.long q1), .second, .val (.int v61), .val (.int v97), .val (.int v63), .unset, .unset, .unset] [(.int v99)])
          have r99 := rng32 v99
          have a99 : v99.toInt = v61.toInt - v98.toInt := by
            have q : (v99.toInt - (v61.toInt - v98.toInt)) % 4294967296 = 0 := by rw [hv99]; exact c_isub v61 v98
            omega
          refine own_by (fun t k => XS.istore X74.here hx rfl (hb hby d1_131) rfl (l' := #[.val (.long q1), .second, .val (.ref a1), .val (.int p3), .val (.int v70), .val (.long q1), .second, .val (.int v61), .val (.int v97), .val (.int v99), .unset, .unset, .unset]) rfl k) ?_
          show ORun p e below s _ _ _ T74 (mkF m 133 #[.val (.long q1), .second, .val (.ref a1), .val (.int p3), .val (.int v70), .val (.long q1), .second, .val (.int v61), .val (.int v97), .val (.int v99), .unset, .unset, .unset] [])
          have f3_100 := own_fit3 (q := qk75) (w := wk75) (by omega) fi75
          refine own_by (fun t k => XS.aloadN X74.here hx rfl (hb hby d1_133) rfl rfl k) ?_
          show ORun p e below s _ _ _ T74 (mkF m 134 #[.val (.long q1), .second, .val (.ref a1), .val (.int p3), .val (.int v70), .val (.long q1), .second, .val (.int v61), .val (.int v97), .val (.int v99), .unset, .unset, .unset] [(.ref a1)])
          refine own_by (fun t k => XS.iinc X74.here hx rfl (hb hby d1_134) rfl (l' := #[.val (.long q1), .second, .val (.ref a1), .val (.int p3), .val (.int (v70 + (-1 : Int32))), .val (.long q1), .second, .val (.int v61), .val (.int v97), .val (.int v99), .unset, .unset, .unset]) rfl k) (own_letI (f := (fun z => (mkF m 137 #[.val (.long q1), .second, .val (.ref a1), .val (.int p3), .val (.int z), .val (.long q1), .second, .val (.int v61), .val (.int v97), .val (.int v99), .unset, .unset, .unset] [(.ref a1)]))) (v70 + (-1 : Int32)) fun v101 hv101 => ?_)
          show ORun p e below s _ _ _ T74 (mkF m 137 #[.val (.long q1), .second, .val (.ref a1), .val (.int p3), .val (.int v101), .val (.long q1), .second, .val (.int v61), .val (.int v97), .val (.int v99), .unset, .unset, .unset] [(.ref a1)])
          have r101 := rng32 v101
          have a101 : v101.toInt = v70.toInt + (-1) := by have q : (v101.toInt - (v70.toInt + (-1))) % 4294967296 = 0 := (by rw [hv101]; exact c_iadd v70 (-1 : Int32)); omega
          refine own_by (fun t k => XS.iload X74.here hx rfl (hb hby d1_137) rfl k) ?_
          show ORun p e below s _ _ _ T74 (mkF m 139 #[.val (.long q1), .second, .val (.ref a1), .val (.int p3), .val (.int v101), .val (.long q1), .second, .val (.int v61), .val (.int v97), .val (.int v99), .unset, .unset, .unset] [(.int v101), (.ref a1)])
          obtain ⟨T102, X102, e102, st102⟩ := getS2 X74 hx hZ hown (host := "") (Or.inl (hw _ (List.mem_of_getElem? (i := 31) rfl))) Via.refl e74 ((((S1.wr W33).wr W38).wr W69).wr W74) (g := (mkF m 139 #[.val (.long q1), .second, .val (.ref a1), .val (.int p3), .val (.int v101), .val (.long q1), .second, .val (.int v61), .val (.int v97), .val (.int v99), .unset, .unset, .unset] [(.int v101), (.ref a1)])) rfl (hb hby d1_139)
          refine own_by st102 ?_
          show ORun p e below s _ _ _ T102 (mkF m 142 #[.val (.long q1), .second, .val (.ref a1), .val (.int p3), .val (.int v101), .val (.long q1), .second, .val (.int v61), .val (.int v97), .val (.int v99), .unset, .unset, .unset] [(.ref d1), (.int v101), (.ref a1)])
          refine own_by (fun t k => XS.iload X102.here hx rfl (hb hby d1_142) rfl k) ?_
          show ORun p e below s _ _ _ T102 (mkF m 144 #[.val (.long q1), .second, .val (.ref a1), .val (.int p3), .val (.int v101), .val (.long q1), .second, .val (.int v61), .val (.int v97), .val (.int v99), .unset, .unset, .unset] [(.int v99), (.ref d1), (.int v101), (.ref a1)])
          refine own_baload X102 hx hZ e102 ((((V1.other W33 ne_d1).other W38 ne_d1).other W69 ne_d1).other W74 ne_d1) (i := v99.toInt.toNat) (by omega) (by omega) (hb hby d1_144) ?_
          intro v103 hv103
          have r103 := rng32 v103
          show ORun p e below s _ _ _ T102 (mkF m 145 #[.val (.long q1), .second, .val (.ref a1), .val (.int p3), .val (.int v101), .val (.long q1), .second, .val (.int v61), .val (.int v97), .val (.int v99), .unset, .unset, .unset] [(.int v103), (.int v101), (.ref a1)])
          have f104 := hO1 v99.toInt.toNat (by omega)
          rw [← hv103] at f104
          have nb104 : (nar .byte v103).toInt = v103.toInt := by have q := c_i2b v103; show v103.toInt8.toInt32.toInt = _; omega
          refine own_bastore X102 hx hZ e102 V74 (i := v101.toInt.toNat) (by omega) (by omega) (hb hby d1_145) ?_
          intro T105 h105 L105 X105 e105 W105 hL105 V105
          have len105 : L105.length = 21 := by rw [hL105, List.length_set]; exact len74
          have N105 := Fr.snoc X105 N74 g1
          show ORun p e below s _ _ _ T105 (mkF m 146 #[.val (.long q1), .second, .val (.ref a1), .val (.int p3), .val (.int v101), .val (.long q1), .second, .val (.int v61), .val (.int v97), .val (.int v99), .unset, .unset, .unset] [])
          refine own_by (fun t k => XS.aloadN X105.here hx rfl (hb hby d1_146) rfl rfl k) ?_
          show ORun p e below s _ _ _ T105 (mkF m 147 #[.val (.long q1), .second, .val (.ref a1), .val (.int p3), .val (.int v101), .val (.long q1), .second, .val (.int v61), .val (.int v97), .val (.int v99), .unset, .unset, .unset] [(.ref a1)])
          refine own_by (fun t k => XS.iinc X105.here hx rfl (hb hby d1_147) rfl (l' := #[.val (.long q1), .second, .val (.ref a1), .val (.int p3), .val (.int (v101 + (-1 : Int32))), .val (.long q1), .second, .val (.int v61), .val (.int v97), .val (.int v99), .unset, .unset, .unset]) rfl k) (own_letI (f := (fun z => (mkF m 150 #[.val (.long q1), .second, .val (.ref a1), .val (.int p3), .val (.int z), .val (.long q1), .second, .val (.int v61), .val (.int v97), .val (.int v99), .unset, .unset, .unset] [(.ref a1)]))) (v101 + (-1 : Int32)) fun v106 hv106 => ?_)
          show ORun p e below s _ _ _ T105 (mkF m 150 #[.val (.long q1), .second, .val (.ref a1), .val (.int p3), .val (.int v106), .val (.long q1), .second, .val (.int v61), .val (.int v97), .val (.int v99), .unset, .unset, .unset] [(.ref a1)])
          have r106 := rng32 v106
          have a106 : v106.toInt = v101.toInt + (-1) := by have q : (v106.toInt - (v101.toInt + (-1))) % 4294967296 = 0 := (by rw [hv106]; exact c_iadd v101 (-1 : Int32)); omega
          refine own_by (fun t k => XS.iload X105.here hx rfl (hb hby d1_150) rfl k) ?_
          show ORun p e below s _ _ _ T105 (mkF m 152 #[.val (.long q1), .second, .val (.ref a1), .val (.int p3), .val (.int v106), .val (.long q1), .second, .val (.int v61), .val (.int v97), .val (.int v99), .unset, .unset, .unset] [(.int v106), (.ref a1)])
          obtain ⟨T107, X107, e107, st107⟩ := getS2 X105 hx hZ hown (host := "") (Or.inl (hw _ (List.mem_of_getElem? (i := 33) rfl))) Via.refl e105 (((((S2.wr W33).wr W38).wr W69).wr W74).wr W105) (g := (mkF m 152 #[.val (.long q1), .second, .val (.ref a1), .val (.int p3), .val (.int v106), .val (.long q1), .second, .val (.int v61), .val (.int v97), .val (.int v99), .unset, .unset, .unset] [(.int v106), (.ref a1)])) rfl (hb hby d1_152)
          refine own_by st107 ?_
          show ORun p e below s _ _ _ T107 (mkF m 155 #[.val (.long q1), .second, .val (.ref a1), .val (.int p3), .val (.int v106), .val (.long q1), .second, .val (.int v61), .val (.int v97), .val (.int v99), .unset, .unset, .unset] [(.ref d2), (.int v106), (.ref a1)])
          refine own_by (fun t k => XS.iload X107.here hx rfl (hb hby d1_155) rfl k) ?_
          show ORun p e below s _ _ _ T107 (mkF m 157 #[.val (.long q1), .second, .val (.ref a1), .val (.int p3), .val (.int v106), .val (.long q1), .second, .val (.int v61), .val (.int v97), .val (.int v99), .unset, .unset, .unset] [(.int v99), (.ref d2), (.int v106), (.ref a1)])
          refine own_baload X107 hx hZ e107 (((((V2.other W33 ne_d2).other W38 ne_d2).other W69 ne_d2).other W74 ne_d2).other W105 ne_d2) (i := v99.toInt.toNat) (by omega) (by omega) (hb hby d1_157) ?_
          intro v108 hv108
          have r108 := rng32 v108
          show ORun p e below s _ _ _ T107 (mkF m 158 #[.val (.long q1), .second, .val (.ref a1), .val (.int p3), .val (.int v106), .val (.long q1), .second, .val (.int v61), .val (.int v97), .val (.int v99), .unset, .unset, .unset] [(.int v108), (.int v106), (.ref a1)])
          have f109 := hT1 v99.toInt.toNat (by omega)
          rw [← hv108] at f109
          have nb109 : (nar .byte v108).toInt = v108.toInt := by have q := c_i2b v108; show v108.toInt8.toInt32.toInt = _; omega
          refine own_bastore X107 hx hZ e107 V105 (i := v106.toInt.toNat) (by omega) (by omega) (hb hby d1_158) ?_
          intro T110 h110 L110 X110 e110 W110 hL110 V110
          have len110 : L110.length = 21 := by rw [hL110, List.length_set]; exact len105
          have N110 := Fr.snoc X110 N105 g1
          show ORun p e below s _ _ _ T110 (mkF m 159 #[.val (.long q1), .second, .val (.ref a1), .val (.int p3), .val (.int v106), .val (.long q1), .second, .val (.int v61), .val (.int v97), .val (.int v99), .unset, .unset, .unset] [])
          have pk111 := own_pair (q := qk75) (w := wk75) (i := v101.toInt.toNat) (j := v106.toInt.toNat) (by omega) fi75 (by omega) (by omega) hL105 hL110 (by omega) (by omega)
          obtain ⟨wk111, hwk111⟩ : ∃ w, w = wk75 / 100 := ⟨_, rfl⟩
          obtain ⟨qk111, hqk111⟩ : ∃ q, q = v106.toInt.toNat := ⟨_, rfl⟩
          rw [← hwk111, ← hqk111] at pk111
          obtain ⟨pe111, fi111⟩ := pk111
          have ch111 := Eq.trans ch75 pe111
          have at111 : v106.toInt = (qk111 : Int) := by omega
          have qb111 : 1 ≤ qk111 ∧ qk111 ≤ 20 := by omega
          have lo111 : v97.toInt = (wk111 : Int) := by omega
          have bw111 : wk111 < 100 := by omega
          clear t76 a97 r97 a98 r98 a99 r99 f3_100 a101 r101 r103 f104 nb104 a106 r106 r108 f109 nb109 at75 qb75 lo75 bw75 len74 len105 fi75 hwk111 hqk111
          refine own_by (fun t k => XS.iload X110.here hx rfl (hb hby d1_159) rfl k) ?_
          show ORun p e below s _ _ _ T110 (mkF m 161 #[.val (.long q1), .second, .val (.ref a1), .val (.int p3), .val (.int v106), .val (.long q1), .second, .val (.int v61), .val (.int v97), .val (.int v99), .unset, .unset, .unset] [(.int v97)])
          refine own_by (fun t k => XS.istore X110.here hx rfl (hb hby d1_161) rfl (l' := #[.val (.long q1), .second, .val (.ref a1), .val (.int p3), .val (.int v106), .val (.long q1), .second, .val (.int v97), .val (.int v97), .val (.int v99), .unset, .unset, .unset]) rfl k) ?_
          show ORun p e below s _ _ _ T110 (mkF m 163 #[.val (.long q1), .second, .val (.ref a1), .val (.int p3), .val (.int v106), .val (.long q1), .second, .val (.int v97), .val (.int v97), .val (.int v99), .unset, .unset, .unset] [])
          refine own_by (fun t k => XS.goto X110.here hx rfl (pc0 := 163) (pc' := 109) rfl (hb hby d1_163) (by decide) (by decide) k) ?_
          show ORun p e below s _ _ _ T110 (mkF m 109 #[.val (.long q1), .second, .val (.ref a1), .val (.int p3), .val (.int v106), .val (.long q1), .second, .val (.int v97), .val (.int v97), .val (.int v99), .unset, .unset, .unset] [])
          refine own_by (fun t k => XS.iload X110.here hx rfl (hb hby d1_109) rfl k) ?_
          show ORun p e below s _ _ _ T110 (mkF m 111 #[.val (.long q1), .second, .val (.ref a1), .val (.int p3), .val (.int v106), .val (.long q1), .second, .val (.int v97), .val (.int v97), .val (.int v99), .unset, .unset, .unset] [(.int v97)])
          refine own_by (fun t k => XS.bipush X110.here hx rfl (hb hby d1_111) k) ?_
          show ORun p e below s _ _ _ T110 (mkF m 113 #[.val (.long q1), .second, .val (.ref a1), .val (.int p3), .val (.int v106), .val (.long q1), .second, .val (.int v97), .val (.int v97), .val (.int v99), .unset, .unset, .unset] [(.int (100 : Int32)), (.int v97)])
          by_cases hc112 : v97 < (100 : Int32)
          · have t112 := own_lt hc112 (a := v97.toInt) (b := 100) rfl (by decide)
            refine own_by (fun t k => XS.icmpYes X110.here hx rfl (pc0 := 113) (pc' := 166) rfl (hb hby d1_113) rfl (tlt hc112).1 (by decide) (by decide) k) ?_
            show ORun p e below s _ _ _ T110 (mkF m 166 #[.val (.long q1), .second, .val (.ref a1), .val (.int p3), .val (.int v106), .val (.long q1), .second, .val (.int v97), .val (.int v97), .val (.int v99), .unset, .unset, .unset] [])
            refine own_by (fun t k => XS.iload X110.here hx rfl (hb hby d1_166) rfl k) ?_
            show ORun p e below s _ _ _ T110 (mkF m 168 #[.val (.long q1), .second, .val (.ref a1), .val (.int p3), .val (.int v106), .val (.long q1), .second, .val (.int v97), .val (.int v97), .val (.int v99), .unset, .unset, .unset] [(.int v97)])
            refine own_by (fun t k => XS.bipush X110.here hx rfl (hb hby d1_168) k) ?_
            show ORun p e below s _ _ _ T110 (mkF m 170 #[.val (.long q1), .second, .val (.ref a1), .val (.int p3), .val (.int v106), .val (.long q1), .second, .val (.int v97), .val (.int v97), .val (.int v99), .unset, .unset, .unset] [(.int (10 : Int32)), (.int v97)])
            by_cases hc113 : v97 < (10 : Int32)
            · have t113 := own_lt hc113 (a := v97.toInt) (b := 10) rfl (by decide)
              refine own_by (fun t k => XS.icmpYes X110.here hx rfl (pc0 := 170) (pc' := 202) rfl (hb hby d1_170) rfl (tlt hc113).1 (by decide) (by decide) k) ?_
              show ORun p e below s _ _ _ T110 (mkF m 202 #[.val (.long q1), .second, .val (.ref a1), .val (.int p3), .val (.int v106), .val (.long q1), .second, .val (.int v97), .val (.int v97), .val (.int v99), .unset, .unset, .unset] [])
              have f1_114 : 1 ≤ qk111 := by omega
              refine own_by (fun t k => XS.aloadN X110.here hx rfl (hb hby d1_202) rfl rfl k) ?_
              show ORun p e below s _ _ _ T110 (mkF m 203 #[.val (.long q1), .second, .val (.ref a1), .val (.int p3), .val (.int v106), .val (.long q1), .second, .val (.int v97), .val (.int v97), .val (.int v99), .unset, .unset, .unset] [(.ref a1)])
              refine own_by (fun t k => XS.iinc X110.here hx rfl (hb hby d1_203) rfl (l' := #[.val (.long q1), .second, .val (.ref a1), .val (.int p3), .val (.int (v106 + (-1 : Int32))), .val (.long q1), .second, .val (.int v97), .val (.int v97), .val (.int v99), .unset, .unset, .unset]) rfl k) (own_letI (f := (fun z => (mkF m 206 #[.val (.long q1), .second, .val (.ref a1), .val (.int p3), .val (.int z), .val (.long q1), .second, .val (.int v97), .val (.int v97), .val (.int v99), .unset, .unset, .unset] [(.ref a1)]))) (v106 + (-1 : Int32)) fun v115 hv115 => ?_)
              show ORun p e below s _ _ _ T110 (mkF m 206 #[.val (.long q1), .second, .val (.ref a1), .val (.int p3), .val (.int v115), .val (.long q1), .second, .val (.int v97), .val (.int v97), .val (.int v99), .unset, .unset, .unset] [(.ref a1)])
              have r115 := rng32 v115
              have a115 : v115.toInt = v106.toInt + (-1) := by have q : (v115.toInt - (v106.toInt + (-1))) % 4294967296 = 0 := (by rw [hv115]; exact c_iadd v106 (-1 : Int32)); omega
              refine own_by (fun t k => XS.iload X110.here hx rfl (hb hby d1_206) rfl k) ?_
              show ORun p e below s _ _ _ T110 (mkF m 208 #[.val (.long q1), .second, .val (.ref a1), .val (.int p3), .val (.int v115), .val (.long q1), .second, .val (.int v97), .val (.int v97), .val (.int v99), .unset, .unset, .unset] [(.int v115), (.ref a1)])
              refine own_by (fun t k => XS.bipush X110.here hx rfl (hb hby d1_208) k) ?_
              show ORun p e below s _ _ _ T110 (mkF m 210 #[.val (.long q1), .second, .val (.ref a1), .val (.int p3), .val (.int v115), .val (.long q1), .second, .val (.int v97), .val (.int v97), .val (.int v99), .unset, .unset, .unset] [(.int (48 : Int32)), (.int v115), (.ref a1)])
              refine own_by (fun t k => XS.iload X110.here hx rfl (hb hby d1_210) rfl k) ?_
              show ORun p e below s _ _ _ T110 (mkF m 212 #[.val (.long q1), .second, .val (.ref a1), .val (.int p3), .val (.int v115), .val (.long q1), .second, .val (.int v97), .val (.int v97), .val (.int v99), .unset, .unset, .unset] [(.int v97), (.int (48 : Int32)), (.int v115), (.ref a1)])
              refine own_by (fun t k => XS.iadd X110.here hx rfl (hb hby d1_212) rfl k) (own_letI (f := (fun z => (mkF m 213 #[.val (.long q1), .second, .val (.ref a1), .val (.int p3), .val (.int v115), .val (.long q1), .second, .val (.int v97), .val (.int v97), .val (.int v99), .unset, .unset, .unset] [(.int z), (.int v115), (.ref a1)]))) ((48 : Int32) + v97) fun v116 hv116 => ?_)
              show ORun p e below s _ _ _ T110 (mkF m 213 #[.val (.long q1), .second, .val (.ref a1), .val (.int p3), .val (.int v115), .val (.long q1), .second, .val (.int v97), .val (.int v97), .val (.int v99), .unset, .unset, .unset] [(.int v116), (.int v115), (.ref a1)])
              have r116 := rng32 v116
              have a116 : v116.toInt = 48 + v97.toInt := by
                have q : (v116.toInt - (48 + v97.toInt)) % 4294967296 = 0 := by rw [hv116]; exact c_iadd (48 : Int32) v97
                omega
              refine own_by (fun t k => XS.i2b X110.here hx rfl (hb hby d1_213) rfl k) (own_letI (f := (fun z => (mkF m 214 #[.val (.long q1), .second, .val (.ref a1), .val (.int p3), .val (.int v115), .val (.long q1), .second, .val (.int v97), .val (.int v97), .val (.int v99), .unset, .unset, .unset] [(.int z), (.int v115), (.ref a1)]))) (v116.toInt8.toInt32) fun v117 hv117 => ?_)
              show ORun p e below s _ _ _ T110 (mkF m 214 #[.val (.long q1), .second, .val (.ref a1), .val (.int p3), .val (.int v115), .val (.long q1), .second, .val (.int v97), .val (.int v97), .val (.int v99), .unset, .unset, .unset] [(.int v117), (.int v115), (.ref a1)])
              have r117 := rng32 v117
              have a117 : v117.toInt = v116.toInt := by
                have q : (v117.toInt - v116.toInt) % 256 = 0 ∧ -128 ≤ v117.toInt ∧ v117.toInt < 128 := by rw [hv117]; exact c_i2b v116
                omega
              have nb118 : (nar .byte v117).toInt = v117.toInt := by have q := c_i2b v117; show v117.toInt8.toInt32.toInt = _; omega
              refine own_bastore X110 hx hZ e110 V110 (i := v115.toInt.toNat) (by omega) (by omega) (hb hby d1_214) ?_
              intro T119 h119 L119 X119 e119 W119 hL119 V119
              have len119 : L119.length = 21 := by rw [hL119, List.length_set]; exact len110
              have N119 := Fr.snoc X119 N110 g1
              show ORun p e below s _ _ _ T119 (mkF m 215 #[.val (.long q1), .second, .val (.ref a1), .val (.int p3), .val (.int v115), .val (.long q1), .second, .val (.int v97), .val (.int v97), .val (.int v99), .unset, .unset, .unset] [])
              refine own_retV X119 hx hret hlk (hb hby d1_215) (by decide) (by decide) ?_
              have fin120 := Eq.trans ch111 (own_last1 (q := qk111) (w := wk111) (i := v115.toInt.toNat) (by omega) (by omega) hL119 (by omega))
              rw [e119]
              refine ⟨rfl, N119, ((((((((Keep.refl h0 [a1]).wr W33 (Or.inl (List.mem_of_getElem? (i := 0) rfl))).wr W38 (Or.inl (List.mem_of_getElem? (i := 0) rfl))).wr W69 (Or.inl (List.mem_of_getElem? (i := 0) rfl))).wr W74 (Or.inl (List.mem_of_getElem? (i := 0) rfl))).wr W105 (Or.inl (List.mem_of_getElem? (i := 0) rfl))).wr W110 (Or.inl (List.mem_of_getElem? (i := 0) rfl))).wr W119 (Or.inl (List.mem_of_getElem? (i := 0) rfl))), ?_⟩
              rw [fin120]
              exact V119
            · have t113 := own_nlt hc113 (a := v97.toInt) (b := 10) rfl (by decide)
              refine own_by (fun t k => XS.icmpNo X110.here hx rfl (hb hby d1_170) rfl (flt hc113).1 k) ?_
              show ORun p e below s _ _ _ T110 (mkF m 173 #[.val (.long q1), .second, .val (.ref a1), .val (.int p3), .val (.int v106), .val (.long q1), .second, .val (.int v97), .val (.int v97), .val (.int v99), .unset, .unset, .unset] [])
              have f2_121 := own_fit2 (q := qk111) (w := wk111) (by omega) fi111
              refine own_by (fun t k => XS.aloadN X110.here hx rfl (hb hby d1_173) rfl rfl k) ?_
              show ORun p e below s _ _ _ T110 (mkF m 174 #[.val (.long q1), .second, .val (.ref a1), .val (.int p3), .val (.int v106), .val (.long q1), .second, .val (.int v97), .val (.int v97), .val (.int v99), .unset, .unset, .unset] [(.ref a1)])
              refine own_by (fun t k => XS.iinc X110.here hx rfl (hb hby d1_174) rfl (l' := #[.val (.long q1), .second, .val (.ref a1), .val (.int p3), .val (.int (v106 + (-1 : Int32))), .val (.long q1), .second, .val (.int v97), .val (.int v97), .val (.int v99), .unset, .unset, .unset]) rfl k) (own_letI (f := (fun z => (mkF m 177 #[.val (.long q1), .second, .val (.ref a1), .val (.int p3), .val (.int z), .val (.long q1), .second, .val (.int v97), .val (.int v97), .val (.int v99), .unset, .unset, .unset] [(.ref a1)]))) (v106 + (-1 : Int32)) fun v122 hv122 => ?_)
              show ORun p e below s _ _ _ T110 (mkF m 177 #[.val (.long q1), .second, .val (.ref a1), .val (.int p3), .val (.int v122), .val (.long q1), .second, .val (.int v97), .val (.int v97), .val (.int v99), .unset, .unset, .unset] [(.ref a1)])
              have r122 := rng32 v122
              have a122 : v122.toInt = v106.toInt + (-1) := by have q : (v122.toInt - (v106.toInt + (-1))) % 4294967296 = 0 := (by rw [hv122]; exact c_iadd v106 (-1 : Int32)); omega
              refine own_by (fun t k => XS.iload X110.here hx rfl (hb hby d1_177) rfl k) ?_
              show ORun p e below s _ _ _ T110 (mkF m 179 #[.val (.long q1), .second, .val (.ref a1), .val (.int p3), .val (.int v122), .val (.long q1), .second, .val (.int v97), .val (.int v97), .val (.int v99), .unset, .unset, .unset] [(.int v122), (.ref a1)])
              obtain ⟨T123, X123, e123, st123⟩ := getS2 X110 hx hZ hown (host := "") (Or.inl (hw _ (List.mem_of_getElem? (i := 31) rfl))) Via.refl e110 ((((((S1.wr W33).wr W38).wr W69).wr W74).wr W105).wr W110) (g := (mkF m 179 #[.val (.long q1), .second, .val (.ref a1), .val (.int p3), .val (.int v122), .val (.long q1), .second, .val (.int v97), .val (.int v97), .val (.int v99), .unset, .unset, .unset] [(.int v122), (.ref a1)])) rfl (hb hby d1_179)
              refine own_by st123 ?_
              show ORun p e below s _ _ _ T123 (mkF m 182 #[.val (.long q1), .second, .val (.ref a1), .val (.int p3), .val (.int v122), .val (.long q1), .second, .val (.int v97), .val (.int v97), .val (.int v99), .unset, .unset, .unset] [(.ref d1), (.int v122), (.ref a1)])
              refine own_by (fun t k => XS.iload X123.here hx rfl (hb hby d1_182) rfl k) ?_
              show ORun p e below s _ _ _ T123 (mkF m 184 #[.val (.long q1), .second, .val (.ref a1), .val (.int p3), .val (.int v122), .val (.long q1), .second, .val (.int v97), .val (.int v97), .val (.int v99), .unset, .unset, .unset] [(.int v97), (.ref d1), (.int v122), (.ref a1)])
              refine own_baload X123 hx hZ e123 ((((((V1.other W33 ne_d1).other W38 ne_d1).other W69 ne_d1).other W74 ne_d1).other W105 ne_d1).other W110 ne_d1) (i := v97.toInt.toNat) (by omega) (by omega) (hb hby d1_184) ?_
              intro v124 hv124
              have r124 := rng32 v124
              show ORun p e below s _ _ _ T123 (mkF m 185 #[.val (.long q1), .second, .val (.ref a1), .val (.int p3), .val (.int v122), .val (.long q1), .second, .val (.int v97), .val (.int v97), .val (.int v99), .unset, .unset, .unset] [(.int v124), (.int v122), (.ref a1)])
              have f125 := hO1 v97.toInt.toNat (by omega)
              rw [← hv124] at f125
              have nb125 : (nar .byte v124).toInt = v124.toInt := by have q := c_i2b v124; show v124.toInt8.toInt32.toInt = _; omega
              refine own_bastore X123 hx hZ e123 V110 (i := v122.toInt.toNat) (by omega) (by omega) (hb hby d1_185) ?_
              intro T126 h126 L126 X126 e126 W126 hL126 V126
              have len126 : L126.length = 21 := by rw [hL126, List.length_set]; exact len110
              have N126 := Fr.snoc X126 N110 g1
              show ORun p e below s _ _ _ T126 (mkF m 186 #[.val (.long q1), .second, .val (.ref a1), .val (.int p3), .val (.int v122), .val (.long q1), .second, .val (.int v97), .val (.int v97), .val (.int v99), .unset, .unset, .unset] [])
              refine own_by (fun t k => XS.aloadN X126.here hx rfl (hb hby d1_186) rfl rfl k) ?_
              show ORun p e below s _ _ _ T126 (mkF m 187 #[.val (.long q1), .second, .val (.ref a1), .val (.int p3), .val (.int v122), .val (.long q1), .second, .val (.int v97), .val (.int v97), .val (.int v99), .unset, .unset, .unset] [(.ref a1)])
              refine own_by (fun t k => XS.iinc X126.here hx rfl (hb hby d1_187) rfl (l' := #[.val (.long q1), .second, .val (.ref a1), .val (.int p3), .val (.int (v122 + (-1 : Int32))), .val (.long q1), .second, .val (.int v97), .val (.int v97), .val (.int v99), .unset, .unset, .unset]) rfl k) (own_letI (f := (fun z => (mkF m 190 #[.val (.long q1), .second, .val (.ref a1), .val (.int p3), .val (.int z), .val (.long q1), .second, .val (.int v97), .val (.int v97), .val (.int v99), .unset, .unset, .unset] [(.ref a1)]))) (v122 + (-1 : Int32)) fun v127 hv127 => ?_)
              show ORun p e below s _ _ _ T126 (mkF m 190 #[.val (.long q1), .second, .val (.ref a1), .val (.int p3), .val (.int v127), .val (.long q1), .second, .val (.int v97), .val (.int v97), .val (.int v99), .unset, .unset, .unset] [(.ref a1)])
              have r127 := rng32 v127
              have a127 : v127.toInt = v122.toInt + (-1) := by have q : (v127.toInt - (v122.toInt + (-1))) % 4294967296 = 0 := (by rw [hv127]; exact c_iadd v122 (-1 : Int32)); omega
              refine own_by (fun t k => XS.iload X126.here hx rfl (hb hby d1_190) rfl k) ?_
              show ORun p e below s _ _ _ T126 (mkF m 192 #[.val (.long q1), .second, .val (.ref a1), .val (.int p3), .val (.int v127), .val (.long q1), .second, .val (.int v97), .val (.int v97), .val (.int v99), .unset, .unset, .unset] [(.int v127), (.ref a1)])
              obtain ⟨T128, X128, e128, st128⟩ := getS2 X126 hx hZ hown (host := "") (Or.inl (hw _ (List.mem_of_getElem? (i := 33) rfl))) Via.refl e126 (((((((S2.wr W33).wr W38).wr W69).wr W74).wr W105).wr W110).wr W126) (g := (mkF m 192 #[.val (.long q1), .second, .val (.ref a1), .val (.int p3), .val (.int v127), .val (.long q1), .second, .val (.int v97), .val (.int v97), .val (.int v99), .unset, .unset, .unset] [(.int v127), (.ref a1)])) rfl (hb hby d1_192)
              refine own_by st128 ?_
              show ORun p e below s _ _ _ T128 (mkF m 195 #[.val (.long q1), .second, .val (.ref a1), .val (.int p3), .val (.int v127), .val (.long q1), .second, .val (.int v97), .val (.int v97), .val (.int v99), .unset, .unset, .unset] [(.ref d2), (.int v127), (.ref a1)])
              refine own_by (fun t k => XS.iload X128.here hx rfl (hb hby d1_195) rfl k) ?_
              show ORun p e below s _ _ _ T128 (mkF m 197 #[.val (.long q1), .second, .val (.ref a1), .val (.int p3), .val (.int v127), .val (.long q1), .second, .val (.int v97), .val (.int v97), .val (.int v99), .unset, .unset, .unset] [(.int v97), (.ref d2), (.int v127), (.ref a1)])
              refine own_baload X128 hx hZ e128 (((((((V2.other W33 ne_d2).other W38 ne_d2).other W69 ne_d2).other W74 ne_d2).other W105 ne_d2).other W110 ne_d2).other W126 ne_d2) (i := v97.toInt.toNat) (by omega) (by omega) (hb hby d1_197) ?_
              intro v129 hv129
              have r129 := rng32 v129
              show ORun p e below s _ _ _ T128 (mkF m 198 #[.val (.long q1), .second, .val (.ref a1), .val (.int p3), .val (.int v127), .val (.long q1), .second, .val (.int v97), .val (.int v97), .val (.int v99), .unset, .unset, .unset] [(.int v129), (.int v127), (.ref a1)])
              have f130 := hT1 v97.toInt.toNat (by omega)
              rw [← hv129] at f130
              have nb130 : (nar .byte v129).toInt = v129.toInt := by have q := c_i2b v129; show v129.toInt8.toInt32.toInt = _; omega
              refine own_bastore X128 hx hZ e128 V126 (i := v127.toInt.toNat) (by omega) (by omega) (hb hby d1_198) ?_
              intro T131 h131 L131 X131 e131 W131 hL131 V131
              have len131 : L131.length = 21 := by rw [hL131, List.length_set]; exact len126
              have N131 := Fr.snoc X131 N126 g1
              show ORun p e below s _ _ _ T131 (mkF m 199 #[.val (.long q1), .second, .val (.ref a1), .val (.int p3), .val (.int v127), .val (.long q1), .second, .val (.int v97), .val (.int v97), .val (.int v99), .unset, .unset, .unset] [])
              refine own_by (fun t k => XS.goto X131.here hx rfl (pc0 := 199) (pc' := 215) rfl (hb hby d1_199) (by decide) (by decide) k) ?_
              show ORun p e below s _ _ _ T131 (mkF m 215 #[.val (.long q1), .second, .val (.ref a1), .val (.int p3), .val (.int v127), .val (.long q1), .second, .val (.int v97), .val (.int v97), .val (.int v99), .unset, .unset, .unset] [])
              refine own_retV X131 hx hret hlk (hb hby d1_215) (by decide) (by decide) ?_
              have fin132 := Eq.trans ch111 (own_last2 (q := qk111) (w := wk111) (i := v122.toInt.toNat) (j := v127.toInt.toNat) (by omega) (by omega) (by omega) (by omega) hL126 hL131 (by omega) (by omega))
              rw [e131]
              refine ⟨rfl, N131, (((((((((Keep.refl h0 [a1]).wr W33 (Or.inl (List.mem_of_getElem? (i := 0) rfl))).wr W38 (Or.inl (List.mem_of_getElem? (i := 0) rfl))).wr W69 (Or.inl (List.mem_of_getElem? (i := 0) rfl))).wr W74 (Or.inl (List.mem_of_getElem? (i := 0) rfl))).wr W105 (Or.inl (List.mem_of_getElem? (i := 0) rfl))).wr W110 (Or.inl (List.mem_of_getElem? (i := 0) rfl))).wr W126 (Or.inl (List.mem_of_getElem? (i := 0) rfl))).wr W131 (Or.inl (List.mem_of_getElem? (i := 0) rfl))), ?_⟩
              rw [fin132]
              exact V131
          · have t112 := own_nlt hc112 (a := v97.toInt) (b := 100) rfl (by decide)
            exfalso
            omega
  · have t1 := own_nltL hc1 (a := q1.toInt) (b := 100000000) rfl (by decide)
    refine own_by (fun t k => XS.ifNo X0.here hx rfl (hb hby d1_12) rfl (own_lcnlt hc1).1 k) ?_
    show ORun p e below s _ _ _ s₁ (mkF m 15 #[.val (.long q1), .second, .val (.ref a1), .val (.int p3), .val (.int p3), .val (.long q1), .second, .unset, .unset, .unset, .unset, .unset, .unset] [])
    refine own_by (fun t k => XS.lload X0.here hx rfl (hb hby d1_15) rfl k) ?_
    show ORun p e below s _ _ _ s₁ (mkF m 17 #[.val (.long q1), .second, .val (.ref a1), .val (.int p3), .val (.int p3), .val (.long q1), .second, .unset, .unset, .unset, .unset, .unset, .unset] [(.long q1)])
    refine own_by (fun t k => X0.ldc2Long hx hown (mvT hZ (hw _ (List.mem_of_getElem? (i := 26) rfl))) (g := (mkF m 17 #[.val (.long q1), .second, .val (.ref a1), .val (.int p3), .val (.int p3), .val (.long q1), .second, .unset, .unset, .unset, .unset, .unset, .unset] [(.long q1)])) rfl (hb hby d1_17) _ k) ?_
    show ORun p e below s _ _ _ s₁ (mkF m 20 #[.val (.long q1), .second, .val (.ref a1), .val (.int p3), .val (.int p3), .val (.long q1), .second, .unset, .unset, .unset, .unset, .unset, .unset] [(.long (100000000 : Int64)), (.long q1)])
    refine own_by (fun t k => XS.ldiv X0.here hx rfl (hb hby d1_20) rfl (by decide) k) (own_letJ (f := (fun z => (mkF m 21 #[.val (.long q1), .second, .val (.ref a1), .val (.int p3), .val (.int p3), .val (.long q1), .second, .unset, .unset, .unset, .unset, .unset, .unset] [(.long z)]))) (q1 / (100000000 : Int64)) fun v133 hv133 => ?_)
    show ORun p e below s _ _ _ s₁ (mkF m 21 #[.val (.long q1), .second, .val (.ref a1), .val (.int p3), .val (.int p3), .val (.long q1), .second, .unset, .unset, .unset, .unset, .unset, .unset] [(.long v133)])
    have r133 := rng64 v133
    have a133 : v133.toInt = q1.toInt / 100000000 := by
      have q : (0 ≤ q1.toInt → v133.toInt = q1.toInt / 100000000) ∧ (q1.toInt < 0 → v133.toInt = -((-q1.toInt) / 100000000)) := by rw [hv133]; exact c_ldiv q1 (100000000 : Int64) 100000000 (by decide) (by decide)
      omega
    refine own_by (fun t k => XS.lstore X0.here hx rfl (hb hby d1_21) rfl (l' := #[.val (.long q1), .second, .val (.ref a1), .val (.int p3), .val (.int p3), .val (.long q1), .second, .val (.long v133), .second, .unset, .unset, .unset, .unset]) rfl k) ?_
    show ORun p e below s _ _ _ s₁ (mkF m 23 #[.val (.long q1), .second, .val (.ref a1), .val (.int p3), .val (.int p3), .val (.long q1), .second, .val (.long v133), .second, .unset, .unset, .unset, .unset] [])
    refine own_by (fun t k => XS.lload X0.here hx rfl (hb hby d1_23) rfl k) ?_
    show ORun p e below s _ _ _ s₁ (mkF m 25 #[.val (.long q1), .second, .val (.ref a1), .val (.int p3), .val (.int p3), .val (.long q1), .second, .val (.long v133), .second, .unset, .unset, .unset, .unset] [(.long q1)])
    refine own_by (fun t k => X0.ldc2Long hx hown (mvT hZ (hw _ (List.mem_of_getElem? (i := 26) rfl))) (g := (mkF m 25 #[.val (.long q1), .second, .val (.ref a1), .val (.int p3), .val (.int p3), .val (.long q1), .second, .val (.long v133), .second, .unset, .unset, .unset, .unset] [(.long q1)])) rfl (hb hby d1_25) _ k) ?_
    show ORun p e below s _ _ _ s₁ (mkF m 28 #[.val (.long q1), .second, .val (.ref a1), .val (.int p3), .val (.int p3), .val (.long q1), .second, .val (.long v133), .second, .unset, .unset, .unset, .unset] [(.long (100000000 : Int64)), (.long q1)])
    refine own_by (fun t k => XS.lload X0.here hx rfl (hb hby d1_28) rfl k) ?_
    show ORun p e below s _ _ _ s₁ (mkF m 30 #[.val (.long q1), .second, .val (.ref a1), .val (.int p3), .val (.int p3), .val (.long q1), .second, .val (.long v133), .second, .unset, .unset, .unset, .unset] [(.long v133), (.long (100000000 : Int64)), (.long q1)])
    refine own_by (fun t k => XS.lmul X0.here hx rfl (hb hby d1_30) rfl k) (own_letJ (f := (fun z => (mkF m 31 #[.val (.long q1), .second, .val (.ref a1), .val (.int p3), .val (.int p3), .val (.long q1), .second, .val (.long v133), .second, .unset, .unset, .unset, .unset] [(.long z), (.long q1)]))) ((100000000 : Int64) * v133) fun v134 hv134 => ?_)
    show ORun p e below s _ _ _ s₁ (mkF m 31 #[.val (.long q1), .second, .val (.ref a1), .val (.int p3), .val (.int p3), .val (.long q1), .second, .val (.long v133), .second, .unset, .unset, .unset, .unset] [(.long v134), (.long q1)])
    have r134 := rng64 v134
    have a134 : v134.toInt = 100000000 * v133.toInt := by
      have q : (v134.toInt - (100000000 * v133.toInt)) % 18446744073709551616 = 0 := by rw [hv134]; exact c_lmul (100000000 : Int64) v133
      omega
    refine own_by (fun t k => XS.lsub X0.here hx rfl (hb hby d1_31) rfl k) (own_letJ (f := (fun z => (mkF m 32 #[.val (.long q1), .second, .val (.ref a1), .val (.int p3), .val (.int p3), .val (.long q1), .second, .val (.long v133), .second, .unset, .unset, .unset, .unset] [(.long z)]))) (q1 - v134) fun v135 hv135 => ?_)
    show ORun p e below s _ _ _ s₁ (mkF m 32 #[.val (.long q1), .second, .val (.ref a1), .val (.int p3), .val (.int p3), .val (.long q1), .second, .val (.long v133), .second, .unset, .unset, .unset, .unset] [(.long v135)])
    have r135 := rng64 v135
    have a135 : v135.toInt = q1.toInt - v134.toInt := by
      have q : (v135.toInt - (q1.toInt - v134.toInt)) % 18446744073709551616 = 0 := by rw [hv135]; exact c_lsub q1 v134
      omega
    refine own_by (fun t k => XS.l2i X0.here hx rfl (hb hby d1_32) rfl k) (own_letI (f := (fun z => (mkF m 33 #[.val (.long q1), .second, .val (.ref a1), .val (.int p3), .val (.int p3), .val (.long q1), .second, .val (.long v133), .second, .unset, .unset, .unset, .unset] [(.int z)]))) (v135.toInt32) fun v136 hv136 => ?_)
    show ORun p e below s _ _ _ s₁ (mkF m 33 #[.val (.long q1), .second, .val (.ref a1), .val (.int p3), .val (.int p3), .val (.long q1), .second, .val (.long v133), .second, .unset, .unset, .unset, .unset] [(.int v136)])
    have r136 := rng32 v136
    have a136 : v136.toInt = v135.toInt := by
      have q : (v136.toInt - v135.toInt) % 4294967296 = 0 := by rw [hv136]; exact c_l2i v135
      omega
    have lo137 : v136.toInt = ((W % 100000000 : Nat) : Int) := by omega
    have hi137 : v133.toInt = ((W / 100000000 : Nat) : Int) := by omega
    have bw137 : 100000000 ≤ W := by omega
    have ub137 : W < 9223372036854775808 := by omega
    clear t1 a133 r133 a134 r134 a135 r135 a136 r136
    refine own_by (fun t k => XS.istore X0.here hx rfl (hb hby d1_33) rfl (l' := #[.val (.long q1), .second, .val (.ref a1), .val (.int p3), .val (.int p3), .val (.long q1), .second, .val (.long v133), .second, .val (.int v136), .unset, .unset, .unset]) rfl k) ?_
    show ORun p e below s _ _ _ s₁ (mkF m 35 #[.val (.long q1), .second, .val (.ref a1), .val (.int p3), .val (.int p3), .val (.long q1), .second, .val (.long v133), .second, .val (.int v136), .unset, .unset, .unset] [])
    refine own_by (fun t k => XS.iconst X0.here hx rfl (hb hby d1_35) k) ?_
    show ORun p e below s _ _ _ s₁ (mkF m 36 #[.val (.long q1), .second, .val (.ref a1), .val (.int p3), .val (.int p3), .val (.long q1), .second, .val (.long v133), .second, .val (.int v136), .unset, .unset, .unset] [(.int (0 : Int32))])
    refine own_by (fun t k => XS.istore X0.here hx rfl (hb hby d1_36) rfl (l' := #[.val (.long q1), .second, .val (.ref a1), .val (.int p3), .val (.int p3), .val (.long q1), .second, .val (.long v133), .second, .val (.int v136), .val (.int (0 : Int32)), .unset, .unset]) rfl k) ?_
    show ORun p e below s _ _ _ s₁ (mkF m 38 #[.val (.long q1), .second, .val (.ref a1), .val (.int p3), .val (.int p3), .val (.long q1), .second, .val (.long v133), .second, .val (.int v136), .val (.int (0 : Int32)), .unset, .unset] [])
    refine own_by (fun t k => XS.iload X0.here hx rfl (hb hby d1_38) rfl k) ?_
    show ORun p e below s _ _ _ s₁ (mkF m 40 #[.val (.long q1), .second, .val (.ref a1), .val (.int p3), .val (.int p3), .val (.long q1), .second, .val (.long v133), .second, .val (.int v136), .val (.int (0 : Int32)), .unset, .unset] [(.int (0 : Int32))])
    refine own_by (fun t k => XS.iconst X0.here hx rfl (hb hby d1_40) k) ?_
    show ORun p e below s _ _ _ s₁ (mkF m 41 #[.val (.long q1), .second, .val (.ref a1), .val (.int p3), .val (.int p3), .val (.long q1), .second, .val (.long v133), .second, .val (.int v136), .val (.int (0 : Int32)), .unset, .unset] [(.int (4 : Int32)), (.int (0 : Int32))])
    refine own_by (fun t k => XS.icmpNo X0.here hx rfl (hb hby d1_41) rfl (tlt (by decide)).2.1 k) ?_
    show ORun p e below s _ _ _ s₁ (mkF m 44 #[.val (.long q1), .second, .val (.ref a1), .val (.int p3), .val (.int p3), .val (.long q1), .second, .val (.long v133), .second, .val (.int v136), .val (.int (0 : Int32)), .unset, .unset] [])
    refine own_by (fun t k => XS.iload X0.here hx rfl (hb hby d1_44) rfl k) ?_
    show ORun p e below s _ _ _ s₁ (mkF m 46 #[.val (.long q1), .second, .val (.ref a1), .val (.int p3), .val (.int p3), .val (.long q1), .second, .val (.long v133), .second, .val (.int v136), .val (.int (0 : Int32)), .unset, .unset] [(.int v136)])
    refine own_by (fun t k => XS.bipush X0.here hx rfl (hb hby d1_46) k) ?_
    show ORun p e below s _ _ _ s₁ (mkF m 48 #[.val (.long q1), .second, .val (.ref a1), .val (.int p3), .val (.int p3), .val (.long q1), .second, .val (.long v133), .second, .val (.int v136), .val (.int (0 : Int32)), .unset, .unset] [(.int (100 : Int32)), (.int v136)])
    refine own_by (fun t k => XS.idiv X0.here hx rfl (hb hby d1_48) rfl (by decide) k) (own_letI (f := (fun z => (mkF m 49 #[.val (.long q1), .second, .val (.ref a1), .val (.int p3), .val (.int p3), .val (.long q1), .second, .val (.long v133), .second, .val (.int v136), .val (.int (0 : Int32)), .unset, .unset] [(.int z)]))) (v136 / (100 : Int32)) fun v138 hv138 => ?_)
    show ORun p e below s _ _ _ s₁ (mkF m 49 #[.val (.long q1), .second, .val (.ref a1), .val (.int p3), .val (.int p3), .val (.long q1), .second, .val (.long v133), .second, .val (.int v136), .val (.int (0 : Int32)), .unset, .unset] [(.int v138)])
    have r138 := rng32 v138
    have a138 : v138.toInt = v136.toInt / 100 := by
      have q : (0 ≤ v136.toInt → v138.toInt = v136.toInt / 100) ∧ (v136.toInt < 0 → v138.toInt = -((-v136.toInt) / 100)) := by rw [hv138]; exact c_idiv v136 (100 : Int32) 100 (by decide) (by decide)
      omega
    refine own_by (fun t k => XS.istore X0.here hx rfl (hb hby d1_49) rfl (l' := #[.val (.long q1), .second, .val (.ref a1), .val (.int p3), .val (.int p3), .val (.long q1), .second, .val (.long v133), .second, .val (.int v136), .val (.int (0 : Int32)), .val (.int v138), .unset]) rfl k) ?_
    show ORun p e below s _ _ _ s₁ (mkF m 51 #[.val (.long q1), .second, .val (.ref a1), .val (.int p3), .val (.int p3), .val (.long q1), .second, .val (.long v133), .second, .val (.int v136), .val (.int (0 : Int32)), .val (.int v138), .unset] [])
    refine own_by (fun t k => XS.iload X0.here hx rfl (hb hby d1_51) rfl k) ?_
    show ORun p e below s _ _ _ s₁ (mkF m 53 #[.val (.long q1), .second, .val (.ref a1), .val (.int p3), .val (.int p3), .val (.long q1), .second, .val (.long v133), .second, .val (.int v136), .val (.int (0 : Int32)), .val (.int v138), .unset] [(.int v136)])
    refine own_by (fun t k => XS.bipush X0.here hx rfl (hb hby d1_53) k) ?_
    show ORun p e below s _ _ _ s₁ (mkF m 55 #[.val (.long q1), .second, .val (.ref a1), .val (.int p3), .val (.int p3), .val (.long q1), .second, .val (.long v133), .second, .val (.int v136), .val (.int (0 : Int32)), .val (.int v138), .unset] [(.int (100 : Int32)), (.int v136)])
    refine own_by (fun t k => XS.iload X0.here hx rfl (hb hby d1_55) rfl k) ?_
    show ORun p e below s _ _ _ s₁ (mkF m 57 #[.val (.long q1), .second, .val (.ref a1), .val (.int p3), .val (.int p3), .val (.long q1), .second, .val (.long v133), .second, .val (.int v136), .val (.int (0 : Int32)), .val (.int v138), .unset] [(.int v138), (.int (100 : Int32)), (.int v136)])
    refine own_by (fun t k => XS.imul X0.here hx rfl (hb hby d1_57) rfl k) (own_letI (f := (fun z => (mkF m 58 #[.val (.long q1), .second, .val (.ref a1), .val (.int p3), .val (.int p3), .val (.long q1), .second, .val (.long v133), .second, .val (.int v136), .val (.int (0 : Int32)), .val (.int v138), .unset] [(.int z), (.int v136)]))) ((100 : Int32) * v138) fun v139 hv139 => ?_)
    show ORun p e below s _ _ _ s₁ (mkF m 58 #[.val (.long q1), .second, .val (.ref a1), .val (.int p3), .val (.int p3), .val (.long q1), .second, .val (.long v133), .second, .val (.int v136), .val (.int (0 : Int32)), .val (.int v138), .unset] [(.int v139), (.int v136)])
    have r139 := rng32 v139
    have a139 : v139.toInt = 100 * v138.toInt := by
      have q : (v139.toInt - (100 * v138.toInt)) % 4294967296 = 0 := by rw [hv139]; exact c_imul (100 : Int32) v138
      omega
    refine own_by (fun t k => XS.isub X0.here hx rfl (hb hby d1_58) rfl k) (own_letI (f := (fun z => (mkF m 59 #[.val (.long q1), .second, .val (.ref a1), .val (.int p3), .val (.int p3), .val (.long q1), .second, .val (.long v133), .second, .val (.int v136), .val (.int (0 : Int32)), .val (.int v138), .unset] [(.int z)]))) (v136 - v139) fun v140 hv140 => ?_)
    show ORun p e below s _ _ _ s₁ (mkF m 59 #[.val (.long q1), .second, .val (.ref a1), .val (.int p3), .val (.int p3), .val (.long q1), .second, .val (.long v133), .second, .val (.int v136), .val (.int (0 : Int32)), .val (.int v138), .unset] [(.int v140)])
    have r140 := rng32 v140
    have a140 : v140.toInt = v136.toInt - v139.toInt := by
      have q : (v140.toInt - (v136.toInt - v139.toInt)) % 4294967296 = 0 := by rw [hv140]; exact c_isub v136 v139
      omega
    refine own_by (fun t k => XS.istore X0.here hx rfl (hb hby d1_59) rfl (l' := #[.val (.long q1), .second, .val (.ref a1), .val (.int p3), .val (.int p3), .val (.long q1), .second, .val (.long v133), .second, .val (.int v136), .val (.int (0 : Int32)), .val (.int v138), .val (.int v140)]) rfl k) ?_
    show ORun p e below s _ _ _ s₁ (mkF m 61 #[.val (.long q1), .second, .val (.ref a1), .val (.int p3), .val (.int p3), .val (.long q1), .second, .val (.long v133), .second, .val (.int v136), .val (.int (0 : Int32)), .val (.int v138), .val (.int v140)] [])
    have f3_141 := own_fit3 (q := E) (w := W) (by omega) fit
    refine own_by (fun t k => XS.aloadN X0.here hx rfl (hb hby d1_61) rfl rfl k) ?_
    show ORun p e below s _ _ _ s₁ (mkF m 62 #[.val (.long q1), .second, .val (.ref a1), .val (.int p3), .val (.int p3), .val (.long q1), .second, .val (.long v133), .second, .val (.int v136), .val (.int (0 : Int32)), .val (.int v138), .val (.int v140)] [(.ref a1)])
    refine own_by (fun t k => XS.iinc X0.here hx rfl (hb hby d1_62) rfl (l' := #[.val (.long q1), .second, .val (.ref a1), .val (.int p3), .val (.int (p3 + (-1 : Int32))), .val (.long q1), .second, .val (.long v133), .second, .val (.int v136), .val (.int (0 : Int32)), .val (.int v138), .val (.int v140)]) rfl k) (own_letI (f := (fun z => (mkF m 65 #[.val (.long q1), .second, .val (.ref a1), .val (.int p3), .val (.int z), .val (.long q1), .second, .val (.long v133), .second, .val (.int v136), .val (.int (0 : Int32)), .val (.int v138), .val (.int v140)] [(.ref a1)]))) (p3 + (-1 : Int32)) fun v142 hv142 => ?_)
    show ORun p e below s _ _ _ s₁ (mkF m 65 #[.val (.long q1), .second, .val (.ref a1), .val (.int p3), .val (.int v142), .val (.long q1), .second, .val (.long v133), .second, .val (.int v136), .val (.int (0 : Int32)), .val (.int v138), .val (.int v140)] [(.ref a1)])
    have r142 := rng32 v142
    have a142 : v142.toInt = p3.toInt + (-1) := by have q : (v142.toInt - (p3.toInt + (-1))) % 4294967296 = 0 := (by rw [hv142]; exact c_iadd p3 (-1 : Int32)); omega
    refine own_by (fun t k => XS.iload X0.here hx rfl (hb hby d1_65) rfl k) ?_
    show ORun p e below s _ _ _ s₁ (mkF m 67 #[.val (.long q1), .second, .val (.ref a1), .val (.int p3), .val (.int v142), .val (.long q1), .second, .val (.long v133), .second, .val (.int v136), .val (.int (0 : Int32)), .val (.int v138), .val (.int v140)] [(.int v142), (.ref a1)])
    obtain ⟨T143, X143, e143, st143⟩ := getS2 X0 hx hZ hown (host := "") (Or.inl (hw _ (List.mem_of_getElem? (i := 31) rfl))) Via.refl e0 S1 (g := (mkF m 67 #[.val (.long q1), .second, .val (.ref a1), .val (.int p3), .val (.int v142), .val (.long q1), .second, .val (.long v133), .second, .val (.int v136), .val (.int (0 : Int32)), .val (.int v138), .val (.int v140)] [(.int v142), (.ref a1)])) rfl (hb hby d1_67)
    refine own_by st143 ?_
    show ORun p e below s _ _ _ T143 (mkF m 70 #[.val (.long q1), .second, .val (.ref a1), .val (.int p3), .val (.int v142), .val (.long q1), .second, .val (.long v133), .second, .val (.int v136), .val (.int (0 : Int32)), .val (.int v138), .val (.int v140)] [(.ref d1), (.int v142), (.ref a1)])
    refine own_by (fun t k => XS.iload X143.here hx rfl (hb hby d1_70) rfl k) ?_
    show ORun p e below s _ _ _ T143 (mkF m 72 #[.val (.long q1), .second, .val (.ref a1), .val (.int p3), .val (.int v142), .val (.long q1), .second, .val (.long v133), .second, .val (.int v136), .val (.int (0 : Int32)), .val (.int v138), .val (.int v140)] [(.int v140), (.ref d1), (.int v142), (.ref a1)])
    refine own_baload X143 hx hZ e143 V1 (i := v140.toInt.toNat) (by omega) (by omega) (hb hby d1_72) ?_
    intro v144 hv144
    have r144 := rng32 v144
    show ORun p e below s _ _ _ T143 (mkF m 73 #[.val (.long q1), .second, .val (.ref a1), .val (.int p3), .val (.int v142), .val (.long q1), .second, .val (.long v133), .second, .val (.int v136), .val (.int (0 : Int32)), .val (.int v138), .val (.int v140)] [(.int v144), (.int v142), (.ref a1)])
    have f145 := hO1 v140.toInt.toNat (by omega)
    rw [← hv144] at f145
    have nb145 : (nar .byte v144).toInt = v144.toInt := by have q := c_i2b v144; show v144.toInt8.toInt32.toInt = _; omega
    refine own_bastore X143 hx hZ e143 V0 (i := v142.toInt.toNat) (by omega) (by omega) (hb hby d1_73) ?_
    intro T146 h146 L146 X146 e146 W146 hL146 V146
    have len146 : L146.length = 21 := by rw [hL146, List.length_set]; exact hlen
    have N146 := Fr.snoc X146 N0 g1
    show ORun p e below s _ _ _ T146 (mkF m 74 #[.val (.long q1), .second, .val (.ref a1), .val (.int p3), .val (.int v142), .val (.long q1), .second, .val (.long v133), .second, .val (.int v136), .val (.int (0 : Int32)), .val (.int v138), .val (.int v140)] [])
    refine own_by (fun t k => XS.aloadN X146.here hx rfl (hb hby d1_74) rfl rfl k) ?_
    show ORun p e below s _ _ _ T146 (mkF m 75 #[.val (.long q1), .second, .val (.ref a1), .val (.int p3), .val (.int v142), .val (.long q1), .second, .val (.long v133), .second, .val (.int v136), .val (.int (0 : Int32)), .val (.int v138), .val (.int v140)] [(.ref a1)])
    refine own_by (fun t k => XS.iinc X146.here hx rfl (hb hby d1_75) rfl (l' := #[.val (.long q1), .second, .val (.ref a1), .val (.int p3), .val (.int (v142 + (-1 : Int32))), .val (.long q1), .second, .val (.long v133), .second, .val (.int v136), .val (.int (0 : Int32)), .val (.int v138), .val (.int v140)]) rfl k) (own_letI (f := (fun z => (mkF m 78 #[.val (.long q1), .second, .val (.ref a1), .val (.int p3), .val (.int z), .val (.long q1), .second, .val (.long v133), .second, .val (.int v136), .val (.int (0 : Int32)), .val (.int v138), .val (.int v140)] [(.ref a1)]))) (v142 + (-1 : Int32)) fun v147 hv147 => ?_)
    show ORun p e below s _ _ _ T146 (mkF m 78 #[.val (.long q1), .second, .val (.ref a1), .val (.int p3), .val (.int v147), .val (.long q1), .second, .val (.long v133), .second, .val (.int v136), .val (.int (0 : Int32)), .val (.int v138), .val (.int v140)] [(.ref a1)])
    have r147 := rng32 v147
    have a147 : v147.toInt = v142.toInt + (-1) := by have q : (v147.toInt - (v142.toInt + (-1))) % 4294967296 = 0 := (by rw [hv147]; exact c_iadd v142 (-1 : Int32)); omega
    refine own_by (fun t k => XS.iload X146.here hx rfl (hb hby d1_78) rfl k) ?_
    show ORun p e below s _ _ _ T146 (mkF m 80 #[.val (.long q1), .second, .val (.ref a1), .val (.int p3), .val (.int v147), .val (.long q1), .second, .val (.long v133), .second, .val (.int v136), .val (.int (0 : Int32)), .val (.int v138), .val (.int v140)] [(.int v147), (.ref a1)])
    obtain ⟨T148, X148, e148, st148⟩ := getS2 X146 hx hZ hown (host := "") (Or.inl (hw _ (List.mem_of_getElem? (i := 33) rfl))) Via.refl e146 (S2.wr W146) (g := (mkF m 80 #[.val (.long q1), .second, .val (.ref a1), .val (.int p3), .val (.int v147), .val (.long q1), .second, .val (.long v133), .second, .val (.int v136), .val (.int (0 : Int32)), .val (.int v138), .val (.int v140)] [(.int v147), (.ref a1)])) rfl (hb hby d1_80)
    refine own_by st148 ?_
    show ORun p e below s _ _ _ T148 (mkF m 83 #[.val (.long q1), .second, .val (.ref a1), .val (.int p3), .val (.int v147), .val (.long q1), .second, .val (.long v133), .second, .val (.int v136), .val (.int (0 : Int32)), .val (.int v138), .val (.int v140)] [(.ref d2), (.int v147), (.ref a1)])
    refine own_by (fun t k => XS.iload X148.here hx rfl (hb hby d1_83) rfl k) ?_
    show ORun p e below s _ _ _ T148 (mkF m 85 #[.val (.long q1), .second, .val (.ref a1), .val (.int p3), .val (.int v147), .val (.long q1), .second, .val (.long v133), .second, .val (.int v136), .val (.int (0 : Int32)), .val (.int v138), .val (.int v140)] [(.int v140), (.ref d2), (.int v147), (.ref a1)])
    refine own_baload X148 hx hZ e148 (V2.other W146 ne_d2) (i := v140.toInt.toNat) (by omega) (by omega) (hb hby d1_85) ?_
    intro v149 hv149
    have r149 := rng32 v149
    show ORun p e below s _ _ _ T148 (mkF m 86 #[.val (.long q1), .second, .val (.ref a1), .val (.int p3), .val (.int v147), .val (.long q1), .second, .val (.long v133), .second, .val (.int v136), .val (.int (0 : Int32)), .val (.int v138), .val (.int v140)] [(.int v149), (.int v147), (.ref a1)])
    have f150 := hT1 v140.toInt.toNat (by omega)
    rw [← hv149] at f150
    have nb150 : (nar .byte v149).toInt = v149.toInt := by have q := c_i2b v149; show v149.toInt8.toInt32.toInt = _; omega
    refine own_bastore X148 hx hZ e148 V146 (i := v147.toInt.toNat) (by omega) (by omega) (hb hby d1_86) ?_
    intro T151 h151 L151 X151 e151 W151 hL151 V151
    have len151 : L151.length = 21 := by rw [hL151, List.length_set]; exact len146
    have N151 := Fr.snoc X151 N146 g1
    show ORun p e below s _ _ _ T151 (mkF m 87 #[.val (.long q1), .second, .val (.ref a1), .val (.int p3), .val (.int v147), .val (.long q1), .second, .val (.long v133), .second, .val (.int v136), .val (.int (0 : Int32)), .val (.int v138), .val (.int v140)] [])
    have pk152 := own_pair (q := E) (w := W) (i := v142.toInt.toNat) (j := v147.toInt.toNat) (by omega) fit (by omega) (by omega) hL146 hL151 (by omega) (by omega)
    obtain ⟨wk152, hwk152⟩ : ∃ w, w = W / 100 := ⟨_, rfl⟩
    obtain ⟨qk152, hqk152⟩ : ∃ q, q = v147.toInt.toNat := ⟨_, rfl⟩
    rw [← hwk152, ← hqk152] at pk152
    obtain ⟨pe152, fi152⟩ := pk152
    have ch152 := Eq.trans (rfl : own_put E W L = own_put E W L) pe152
    have at152 : v147.toInt = (qk152 : Int) := by omega
    have qb152 : 1 ≤ qk152 ∧ qk152 ≤ 20 := by omega
    have lo152 : v138.toInt = ((wk152 % 1000000 : Nat) : Int) := by omega
    have bw152 : 1000000 ≤ wk152 := by omega
    clear a138 r138 a139 r139 a140 r140 f3_141 a142 r142 r144 f145 nb145 a147 r147 r149 f150 nb150 lo137 bw137 hlen len146 fit hE hE1 hqk152
    refine own_by (fun t k => XS.iload X151.here hx rfl (hb hby d1_87) rfl k) ?_
    show ORun p e below s _ _ _ T151 (mkF m 89 #[.val (.long q1), .second, .val (.ref a1), .val (.int p3), .val (.int v147), .val (.long q1), .second, .val (.long v133), .second, .val (.int v136), .val (.int (0 : Int32)), .val (.int v138), .val (.int v140)] [(.int v138)])
    refine own_by (fun t k => XS.istore X151.here hx rfl (hb hby d1_89) rfl (l' := #[.val (.long q1), .second, .val (.ref a1), .val (.int p3), .val (.int v147), .val (.long q1), .second, .val (.long v133), .second, .val (.int v138), .val (.int (0 : Int32)), .val (.int v138), .val (.int v140)]) rfl k) ?_
    show ORun p e below s _ _ _ T151 (mkF m 91 #[.val (.long q1), .second, .val (.ref a1), .val (.int p3), .val (.int v147), .val (.long q1), .second, .val (.long v133), .second, .val (.int v138), .val (.int (0 : Int32)), .val (.int v138), .val (.int v140)] [])
    refine own_by (fun t k => XS.iinc X151.here hx rfl (hb hby d1_91) rfl (l' := #[.val (.long q1), .second, .val (.ref a1), .val (.int p3), .val (.int v147), .val (.long q1), .second, .val (.long v133), .second, .val (.int v138), .val (.int (1 : Int32)), .val (.int v138), .val (.int v140)]) rfl k) ?_
    show ORun p e below s _ _ _ T151 (mkF m 94 #[.val (.long q1), .second, .val (.ref a1), .val (.int p3), .val (.int v147), .val (.long q1), .second, .val (.long v133), .second, .val (.int v138), .val (.int (1 : Int32)), .val (.int v138), .val (.int v140)] [])
    refine own_by (fun t k => XS.goto X151.here hx rfl (pc0 := 94) (pc' := 38) rfl (hb hby d1_94) (by decide) (by decide) k) ?_
    show ORun p e below s _ _ _ T151 (mkF m 38 #[.val (.long q1), .second, .val (.ref a1), .val (.int p3), .val (.int v147), .val (.long q1), .second, .val (.long v133), .second, .val (.int v138), .val (.int (1 : Int32)), .val (.int v138), .val (.int v140)] [])
    refine own_by (fun t k => XS.iload X151.here hx rfl (hb hby d1_38) rfl k) ?_
    show ORun p e below s _ _ _ T151 (mkF m 40 #[.val (.long q1), .second, .val (.ref a1), .val (.int p3), .val (.int v147), .val (.long q1), .second, .val (.long v133), .second, .val (.int v138), .val (.int (1 : Int32)), .val (.int v138), .val (.int v140)] [(.int (1 : Int32))])
    refine own_by (fun t k => XS.iconst X151.here hx rfl (hb hby d1_40) k) ?_
    show ORun p e below s _ _ _ T151 (mkF m 41 #[.val (.long q1), .second, .val (.ref a1), .val (.int p3), .val (.int v147), .val (.long q1), .second, .val (.long v133), .second, .val (.int v138), .val (.int (1 : Int32)), .val (.int v138), .val (.int v140)] [(.int (4 : Int32)), (.int (1 : Int32))])
    refine own_by (fun t k => XS.icmpNo X151.here hx rfl (hb hby d1_41) rfl (tlt (by decide)).2.1 k) ?_
    show ORun p e below s _ _ _ T151 (mkF m 44 #[.val (.long q1), .second, .val (.ref a1), .val (.int p3), .val (.int v147), .val (.long q1), .second, .val (.long v133), .second, .val (.int v138), .val (.int (1 : Int32)), .val (.int v138), .val (.int v140)] [])
    refine own_by (fun t k => XS.iload X151.here hx rfl (hb hby d1_44) rfl k) ?_
    show ORun p e below s _ _ _ T151 (mkF m 46 #[.val (.long q1), .second, .val (.ref a1), .val (.int p3), .val (.int v147), .val (.long q1), .second, .val (.long v133), .second, .val (.int v138), .val (.int (1 : Int32)), .val (.int v138), .val (.int v140)] [(.int v138)])
    refine own_by (fun t k => XS.bipush X151.here hx rfl (hb hby d1_46) k) ?_
    show ORun p e below s _ _ _ T151 (mkF m 48 #[.val (.long q1), .second, .val (.ref a1), .val (.int p3), .val (.int v147), .val (.long q1), .second, .val (.long v133), .second, .val (.int v138), .val (.int (1 : Int32)), .val (.int v138), .val (.int v140)] [(.int (100 : Int32)), (.int v138)])
    refine own_by (fun t k => XS.idiv X151.here hx rfl (hb hby d1_48) rfl (by decide) k) (own_letI (f := (fun z => (mkF m 49 #[.val (.long q1), .second, .val (.ref a1), .val (.int p3), .val (.int v147), .val (.long q1), .second, .val (.long v133), .second, .val (.int v138), .val (.int (1 : Int32)), .val (.int v138), .val (.int v140)] [(.int z)]))) (v138 / (100 : Int32)) fun v153 hv153 => ?_)
    show ORun p e below s _ _ _ T151 (mkF m 49 #[.val (.long q1), .second, .val (.ref a1), .val (.int p3), .val (.int v147), .val (.long q1), .second, .val (.long v133), .second, .val (.int v138), .val (.int (1 : Int32)), .val (.int v138), .val (.int v140)] [(.int v153)])
    have r153 := rng32 v153
    have a153 : v153.toInt = v138.toInt / 100 := by
      have q : (0 ≤ v138.toInt → v153.toInt = v138.toInt / 100) ∧ (v138.toInt < 0 → v153.toInt = -((-v138.toInt) / 100)) := by rw [hv153]; exact c_idiv v138 (100 : Int32) 100 (by decide) (by decide)
      omega
    refine own_by (fun t k => XS.istore X151.here hx rfl (hb hby d1_49) rfl (l' := #[.val (.long q1), .second, .val (.ref a1), .val (.int p3), .val (.int v147), .val (.long q1), .second, .val (.long v133), .second, .val (.int v138), .val (.int (1 : Int32)), .val (.int v153), .val (.int v140)]) rfl k) ?_
    show ORun p e below s _ _ _ T151 (mkF m 51 #[.val (.long q1), .second, .val (.ref a1), .val (.int p3), .val (.int v147), .val (.long q1), .second, .val (.long v133), .second, .val (.int v138), .val (.int (1 : Int32)), .val (.int v153), .val (.int v140)] [])
    refine own_by (fun t k => XS.iload X151.here hx rfl (hb hby d1_51) rfl k) ?_
    show ORun p e below s _ _ _ T151 (mkF m 53 #[.val (.long q1), .second, .val (.ref a1), .val (.int p3), .val (.int v147), .val (.long q1), .second, .val (.long v133), .second, .val (.int v138), .val (.int (1 : Int32)), .val (.int v153), .val (.int v140)] [(.int v138)])
    refine own_by (fun t k => XS.bipush X151.here hx rfl (hb hby d1_53) k) ?_
    show ORun p e below s _ _ _ T151 (mkF m 55 #[.val (.long q1), .second, .val (.ref a1), .val (.int p3), .val (.int v147), .val (.long q1), .second, .val (.long v133), .second, .val (.int v138), .val (.int (1 : Int32)), .val (.int v153), .val (.int v140)] [(.int (100 : Int32)), (.int v138)])
    refine own_by (fun t k => XS.iload X151.here hx rfl (hb hby d1_55) rfl k) ?_
    show ORun p e below s _ _ _ T151 (mkF m 57 #[.val (.long q1), .second, .val (.ref a1), .val (.int p3), .val (.int v147), .val (.long q1), .second, .val (.long v133), .second, .val (.int v138), .val (.int (1 : Int32)), .val (.int v153), .val (.int v140)] [(.int v153), (.int (100 : Int32)), (.int v138)])
    refine own_by (fun t k => XS.imul X151.here hx rfl (hb hby d1_57) rfl k) (own_letI (f := (fun z => (mkF m 58 #[.val (.long q1), .second, .val (.ref a1), .val (.int p3), .val (.int v147), .val (.long q1), .second, .val (.long v133), .second, .val (.int v138), .val (.int (1 : Int32)), .val (.int v153), .val (.int v140)] [(.int z), (.int v138)]))) ((100 : Int32) * v153) fun v154 hv154 => ?_)
    show ORun p e below s _ _ _ T151 (mkF m 58 #[.val (.long q1), .second, .val (.ref a1), .val (.int p3), .val (.int v147), .val (.long q1), .second, .val (.long v133), .second, .val (.int v138), .val (.int (1 : Int32)), .val (.int v153), .val (.int v140)] [(.int v154), (.int v138)])
    have r154 := rng32 v154
    have a154 : v154.toInt = 100 * v153.toInt := by
      have q : (v154.toInt - (100 * v153.toInt)) % 4294967296 = 0 := by rw [hv154]; exact c_imul (100 : Int32) v153
      omega
    refine own_by (fun t k => XS.isub X151.here hx rfl (hb hby d1_58) rfl k) (own_letI (f := (fun z => (mkF m 59 #[.val (.long q1), .second, .val (.ref a1), .val (.int p3), .val (.int v147), .val (.long q1), .second, .val (.long v133), .second, .val (.int v138), .val (.int (1 : Int32)), .val (.int v153), .val (.int v140)] [(.int z)]))) (v138 - v154) fun v155 hv155 => ?_)
    show ORun p e below s _ _ _ T151 (mkF m 59 #[.val (.long q1), .second, .val (.ref a1), .val (.int p3), .val (.int v147), .val (.long q1), .second, .val (.long v133), .second, .val (.int v138), .val (.int (1 : Int32)), .val (.int v153), .val (.int v140)] [(.int v155)])
    have r155 := rng32 v155
    have a155 : v155.toInt = v138.toInt - v154.toInt := by
      have q : (v155.toInt - (v138.toInt - v154.toInt)) % 4294967296 = 0 := by rw [hv155]; exact c_isub v138 v154
      omega
    refine own_by (fun t k => XS.istore X151.here hx rfl (hb hby d1_59) rfl (l' := #[.val (.long q1), .second, .val (.ref a1), .val (.int p3), .val (.int v147), .val (.long q1), .second, .val (.long v133), .second, .val (.int v138), .val (.int (1 : Int32)), .val (.int v153), .val (.int v155)]) rfl k) ?_
    show ORun p e below s _ _ _ T151 (mkF m 61 #[.val (.long q1), .second, .val (.ref a1), .val (.int p3), .val (.int v147), .val (.long q1), .second, .val (.long v133), .second, .val (.int v138), .val (.int (1 : Int32)), .val (.int v153), .val (.int v155)] [])
    have f3_156 := own_fit3 (q := qk152) (w := wk152) (by omega) fi152
    refine own_by (fun t k => XS.aloadN X151.here hx rfl (hb hby d1_61) rfl rfl k) ?_
    show ORun p e below s _ _ _ T151 (mkF m 62 #[.val (.long q1), .second, .val (.ref a1), .val (.int p3), .val (.int v147), .val (.long q1), .second, .val (.long v133), .second, .val (.int v138), .val (.int (1 : Int32)), .val (.int v153), .val (.int v155)] [(.ref a1)])
    refine own_by (fun t k => XS.iinc X151.here hx rfl (hb hby d1_62) rfl (l' := #[.val (.long q1), .second, .val (.ref a1), .val (.int p3), .val (.int (v147 + (-1 : Int32))), .val (.long q1), .second, .val (.long v133), .second, .val (.int v138), .val (.int (1 : Int32)), .val (.int v153), .val (.int v155)]) rfl k) (own_letI (f := (fun z => (mkF m 65 #[.val (.long q1), .second, .val (.ref a1), .val (.int p3), .val (.int z), .val (.long q1), .second, .val (.long v133), .second, .val (.int v138), .val (.int (1 : Int32)), .val (.int v153), .val (.int v155)] [(.ref a1)]))) (v147 + (-1 : Int32)) fun v157 hv157 => ?_)
    show ORun p e below s _ _ _ T151 (mkF m 65 #[.val (.long q1), .second, .val (.ref a1), .val (.int p3), .val (.int v157), .val (.long q1), .second, .val (.long v133), .second, .val (.int v138), .val (.int (1 : Int32)), .val (.int v153), .val (.int v155)] [(.ref a1)])
    have r157 := rng32 v157
    have a157 : v157.toInt = v147.toInt + (-1) := by have q : (v157.toInt - (v147.toInt + (-1))) % 4294967296 = 0 := (by rw [hv157]; exact c_iadd v147 (-1 : Int32)); omega
    refine own_by (fun t k => XS.iload X151.here hx rfl (hb hby d1_65) rfl k) ?_
    show ORun p e below s _ _ _ T151 (mkF m 67 #[.val (.long q1), .second, .val (.ref a1), .val (.int p3), .val (.int v157), .val (.long q1), .second, .val (.long v133), .second, .val (.int v138), .val (.int (1 : Int32)), .val (.int v153), .val (.int v155)] [(.int v157), (.ref a1)])
    obtain ⟨T158, X158, e158, st158⟩ := getS2 X151 hx hZ hown (host := "") (Or.inl (hw _ (List.mem_of_getElem? (i := 31) rfl))) Via.refl e151 ((S1.wr W146).wr W151) (g := (mkF m 67 #[.val (.long q1), .second, .val (.ref a1), .val (.int p3), .val (.int v157), .val (.long q1), .second, .val (.long v133), .second, .val (.int v138), .val (.int (1 : Int32)), .val (.int v153), .val (.int v155)] [(.int v157), (.ref a1)])) rfl (hb hby d1_67)
    refine own_by st158 ?_
    show ORun p e below s _ _ _ T158 (mkF m 70 #[.val (.long q1), .second, .val (.ref a1), .val (.int p3), .val (.int v157), .val (.long q1), .second, .val (.long v133), .second, .val (.int v138), .val (.int (1 : Int32)), .val (.int v153), .val (.int v155)] [(.ref d1), (.int v157), (.ref a1)])
    refine own_by (fun t k => XS.iload X158.here hx rfl (hb hby d1_70) rfl k) ?_
    show ORun p e below s _ _ _ T158 (mkF m 72 #[.val (.long q1), .second, .val (.ref a1), .val (.int p3), .val (.int v157), .val (.long q1), .second, .val (.long v133), .second, .val (.int v138), .val (.int (1 : Int32)), .val (.int v153), .val (.int v155)] [(.int v155), (.ref d1), (.int v157), (.ref a1)])
    refine own_baload X158 hx hZ e158 ((V1.other W146 ne_d1).other W151 ne_d1) (i := v155.toInt.toNat) (by omega) (by omega) (hb hby d1_72) ?_
    intro v159 hv159
    have r159 := rng32 v159
    show ORun p e below s _ _ _ T158 (mkF m 73 #[.val (.long q1), .second, .val (.ref a1), .val (.int p3), .val (.int v157), .val (.long q1), .second, .val (.long v133), .second, .val (.int v138), .val (.int (1 : Int32)), .val (.int v153), .val (.int v155)] [(.int v159), (.int v157), (.ref a1)])
    have f160 := hO1 v155.toInt.toNat (by omega)
    rw [← hv159] at f160
    have nb160 : (nar .byte v159).toInt = v159.toInt := by have q := c_i2b v159; show v159.toInt8.toInt32.toInt = _; omega
    refine own_bastore X158 hx hZ e158 V151 (i := v157.toInt.toNat) (by omega) (by omega) (hb hby d1_73) ?_
    intro T161 h161 L161 X161 e161 W161 hL161 V161
    have len161 : L161.length = 21 := by rw [hL161, List.length_set]; exact len151
    have N161 := Fr.snoc X161 N151 g1
    show ORun p e below s _ _ _ T161 (mkF m 74 #[.val (.long q1), .second, .val (.ref a1), .val (.int p3), .val (.int v157), .val (.long q1), .second, .val (.long v133), .second, .val (.int v138), .val (.int (1 : Int32)), .val (.int v153), .val (.int v155)] [])
    refine own_by (fun t k => XS.aloadN X161.here hx rfl (hb hby d1_74) rfl rfl k) ?_
    show ORun p e below s _ _ _ T161 (mkF m 75 #[.val (.long q1), .second, .val (.ref a1), .val (.int p3), .val (.int v157), .val (.long q1), .second, .val (.long v133), .second, .val (.int v138), .val (.int (1 : Int32)), .val (.int v153), .val (.int v155)] [(.ref a1)])
    refine own_by (fun t k => XS.iinc X161.here hx rfl (hb hby d1_75) rfl (l' := #[.val (.long q1), .second, .val (.ref a1), .val (.int p3), .val (.int (v157 + (-1 : Int32))), .val (.long q1), .second, .val (.long v133), .second, .val (.int v138), .val (.int (1 : Int32)), .val (.int v153), .val (.int v155)]) rfl k) (own_letI (f := (fun z => (mkF m 78 #[.val (.long q1), .second, .val (.ref a1), .val (.int p3), .val (.int z), .val (.long q1), .second, .val (.long v133), .second, .val (.int v138), .val (.int (1 : Int32)), .val (.int v153), .val (.int v155)] [(.ref a1)]))) (v157 + (-1 : Int32)) fun v162 hv162 => ?_)
    show ORun p e below s _ _ _ T161 (mkF m 78 #[.val (.long q1), .second, .val (.ref a1), .val (.int p3), .val (.int v162), .val (.long q1), .second, .val (.long v133), .second, .val (.int v138), .val (.int (1 : Int32)), .val (.int v153), .val (.int v155)] [(.ref a1)])
    have r162 := rng32 v162
    have a162 : v162.toInt = v157.toInt + (-1) := by have q : (v162.toInt - (v157.toInt + (-1))) % 4294967296 = 0 := (by rw [hv162]; exact c_iadd v157 (-1 : Int32)); omega
    refine own_by (fun t k => XS.iload X161.here hx rfl (hb hby d1_78) rfl k) ?_
    show ORun p e below s _ _ _ T161 (mkF m 80 #[.val (.long q1), .second, .val (.ref a1), .val (.int p3), .val (.int v162), .val (.long q1), .second, .val (.long v133), .second, .val (.int v138), .val (.int (1 : Int32)), .val (.int v153), .val (.int v155)] [(.int v162), (.ref a1)])
    obtain ⟨T163, X163, e163, st163⟩ := getS2 X161 hx hZ hown (host := "") (Or.inl (hw _ (List.mem_of_getElem? (i := 33) rfl))) Via.refl e161 (((S2.wr W146).wr W151).wr W161) (g := (mkF m 80 #[.val (.long q1), .second, .val (.ref a1), .val (.int p3), .val (.int v162), .val (.long q1), .second, .val (.long v133), .second, .val (.int v138), .val (.int (1 : Int32)), .val (.int v153), .val (.int v155)] [(.int v162), (.ref a1)])) rfl (hb hby d1_80)
    refine own_by st163 ?_
    show ORun p e below s _ _ _ T163 (mkF m 83 #[.val (.long q1), .second, .val (.ref a1), .val (.int p3), .val (.int v162), .val (.long q1), .second, .val (.long v133), .second, .val (.int v138), .val (.int (1 : Int32)), .val (.int v153), .val (.int v155)] [(.ref d2), (.int v162), (.ref a1)])
    refine own_by (fun t k => XS.iload X163.here hx rfl (hb hby d1_83) rfl k) ?_
    show ORun p e below s _ _ _ T163 (mkF m 85 #[.val (.long q1), .second, .val (.ref a1), .val (.int p3), .val (.int v162), .val (.long q1), .second, .val (.long v133), .second, .val (.int v138), .val (.int (1 : Int32)), .val (.int v153), .val (.int v155)] [(.int v155), (.ref d2), (.int v162), (.ref a1)])
    refine own_baload X163 hx hZ e163 (((V2.other W146 ne_d2).other W151 ne_d2).other W161 ne_d2) (i := v155.toInt.toNat) (by omega) (by omega) (hb hby d1_85) ?_
    intro v164 hv164
    have r164 := rng32 v164
    show ORun p e below s _ _ _ T163 (mkF m 86 #[.val (.long q1), .second, .val (.ref a1), .val (.int p3), .val (.int v162), .val (.long q1), .second, .val (.long v133), .second, .val (.int v138), .val (.int (1 : Int32)), .val (.int v153), .val (.int v155)] [(.int v164), (.int v162), (.ref a1)])
    have f165 := hT1 v155.toInt.toNat (by omega)
    rw [← hv164] at f165
    have nb165 : (nar .byte v164).toInt = v164.toInt := by have q := c_i2b v164; show v164.toInt8.toInt32.toInt = _; omega
    refine own_bastore X163 hx hZ e163 V161 (i := v162.toInt.toNat) (by omega) (by omega) (hb hby d1_86) ?_
    intro T166 h166 L166 X166 e166 W166 hL166 V166
    have len166 : L166.length = 21 := by rw [hL166, List.length_set]; exact len161
    have N166 := Fr.snoc X166 N161 g1
    show ORun p e below s _ _ _ T166 (mkF m 87 #[.val (.long q1), .second, .val (.ref a1), .val (.int p3), .val (.int v162), .val (.long q1), .second, .val (.long v133), .second, .val (.int v138), .val (.int (1 : Int32)), .val (.int v153), .val (.int v155)] [])
    have pk167 := own_pair (q := qk152) (w := wk152) (i := v157.toInt.toNat) (j := v162.toInt.toNat) (by omega) fi152 (by omega) (by omega) hL161 hL166 (by omega) (by omega)
    obtain ⟨wk167, hwk167⟩ : ∃ w, w = wk152 / 100 := ⟨_, rfl⟩
    obtain ⟨qk167, hqk167⟩ : ∃ q, q = v162.toInt.toNat := ⟨_, rfl⟩
    rw [← hwk167, ← hqk167] at pk167
    obtain ⟨pe167, fi167⟩ := pk167
    have ch167 := Eq.trans ch152 pe167
    have at167 : v162.toInt = (qk167 : Int) := by omega
    have qb167 : 1 ≤ qk167 ∧ qk167 ≤ 20 := by omega
    have lo167 : v153.toInt = ((wk167 % 10000 : Nat) : Int) := by omega
    have bw167 : 10000 ≤ wk167 := by omega
    clear a153 r153 a154 r154 a155 r155 f3_156 a157 r157 r159 f160 nb160 a162 r162 r164 f165 nb165 at152 qb152 lo152 bw152 len151 len161 fi152 hqk167
    refine own_by (fun t k => XS.iload X166.here hx rfl (hb hby d1_87) rfl k) ?_
    show ORun p e below s _ _ _ T166 (mkF m 89 #[.val (.long q1), .second, .val (.ref a1), .val (.int p3), .val (.int v162), .val (.long q1), .second, .val (.long v133), .second, .val (.int v138), .val (.int (1 : Int32)), .val (.int v153), .val (.int v155)] [(.int v153)])
    refine own_by (fun t k => XS.istore X166.here hx rfl (hb hby d1_89) rfl (l' := #[.val (.long q1), .second, .val (.ref a1), .val (.int p3), .val (.int v162), .val (.long q1), .second, .val (.long v133), .second, .val (.int v153), .val (.int (1 : Int32)), .val (.int v153), .val (.int v155)]) rfl k) ?_
    show ORun p e below s _ _ _ T166 (mkF m 91 #[.val (.long q1), .second, .val (.ref a1), .val (.int p3), .val (.int v162), .val (.long q1), .second, .val (.long v133), .second, .val (.int v153), .val (.int (1 : Int32)), .val (.int v153), .val (.int v155)] [])
    refine own_by (fun t k => XS.iinc X166.here hx rfl (hb hby d1_91) rfl (l' := #[.val (.long q1), .second, .val (.ref a1), .val (.int p3), .val (.int v162), .val (.long q1), .second, .val (.long v133), .second, .val (.int v153), .val (.int (2 : Int32)), .val (.int v153), .val (.int v155)]) rfl k) ?_
    show ORun p e below s _ _ _ T166 (mkF m 94 #[.val (.long q1), .second, .val (.ref a1), .val (.int p3), .val (.int v162), .val (.long q1), .second, .val (.long v133), .second, .val (.int v153), .val (.int (2 : Int32)), .val (.int v153), .val (.int v155)] [])
    refine own_by (fun t k => XS.goto X166.here hx rfl (pc0 := 94) (pc' := 38) rfl (hb hby d1_94) (by decide) (by decide) k) ?_
    show ORun p e below s _ _ _ T166 (mkF m 38 #[.val (.long q1), .second, .val (.ref a1), .val (.int p3), .val (.int v162), .val (.long q1), .second, .val (.long v133), .second, .val (.int v153), .val (.int (2 : Int32)), .val (.int v153), .val (.int v155)] [])
    refine own_by (fun t k => XS.iload X166.here hx rfl (hb hby d1_38) rfl k) ?_
    show ORun p e below s _ _ _ T166 (mkF m 40 #[.val (.long q1), .second, .val (.ref a1), .val (.int p3), .val (.int v162), .val (.long q1), .second, .val (.long v133), .second, .val (.int v153), .val (.int (2 : Int32)), .val (.int v153), .val (.int v155)] [(.int (2 : Int32))])
    refine own_by (fun t k => XS.iconst X166.here hx rfl (hb hby d1_40) k) ?_
    show ORun p e below s _ _ _ T166 (mkF m 41 #[.val (.long q1), .second, .val (.ref a1), .val (.int p3), .val (.int v162), .val (.long q1), .second, .val (.long v133), .second, .val (.int v153), .val (.int (2 : Int32)), .val (.int v153), .val (.int v155)] [(.int (4 : Int32)), (.int (2 : Int32))])
    refine own_by (fun t k => XS.icmpNo X166.here hx rfl (hb hby d1_41) rfl (tlt (by decide)).2.1 k) ?_
    show ORun p e below s _ _ _ T166 (mkF m 44 #[.val (.long q1), .second, .val (.ref a1), .val (.int p3), .val (.int v162), .val (.long q1), .second, .val (.long v133), .second, .val (.int v153), .val (.int (2 : Int32)), .val (.int v153), .val (.int v155)] [])
    refine own_by (fun t k => XS.iload X166.here hx rfl (hb hby d1_44) rfl k) ?_
    show ORun p e below s _ _ _ T166 (mkF m 46 #[.val (.long q1), .second, .val (.ref a1), .val (.int p3), .val (.int v162), .val (.long q1), .second, .val (.long v133), .second, .val (.int v153), .val (.int (2 : Int32)), .val (.int v153), .val (.int v155)] [(.int v153)])
    refine own_by (fun t k => XS.bipush X166.here hx rfl (hb hby d1_46) k) ?_
    show ORun p e below s _ _ _ T166 (mkF m 48 #[.val (.long q1), .second, .val (.ref a1), .val (.int p3), .val (.int v162), .val (.long q1), .second, .val (.long v133), .second, .val (.int v153), .val (.int (2 : Int32)), .val (.int v153), .val (.int v155)] [(.int (100 : Int32)), (.int v153)])
    refine own_by (fun t k => XS.idiv X166.here hx rfl (hb hby d1_48) rfl (by decide) k) (own_letI (f := (fun z => (mkF m 49 #[.val (.long q1), .second, .val (.ref a1), .val (.int p3), .val (.int v162), .val (.long q1), .second, .val (.long v133), .second, .val (.int v153), .val (.int (2 : Int32)), .val (.int v153), .val (.int v155)] [(.int z)]))) (v153 / (100 : Int32)) fun v168 hv168 => ?_)
    show ORun p e below s _ _ _ T166 (mkF m 49 #[.val (.long q1), .second, .val (.ref a1), .val (.int p3), .val (.int v162), .val (.long q1), .second, .val (.long v133), .second, .val (.int v153), .val (.int (2 : Int32)), .val (.int v153), .val (.int v155)] [(.int v168)])
    have r168 := rng32 v168
    have a168 : v168.toInt = v153.toInt / 100 := by
      have q : (0 ≤ v153.toInt → v168.toInt = v153.toInt / 100) ∧ (v153.toInt < 0 → v168.toInt = -((-v153.toInt) / 100)) := by rw [hv168]; exact c_idiv v153 (100 : Int32) 100 (by decide) (by decide)
      omega
    refine own_by (fun t k => XS.istore X166.here hx rfl (hb hby d1_49) rfl (l' := #[.val (.long q1), .second, .val (.ref a1), .val (.int p3), .val (.int v162), .val (.long q1), .second, .val (.long v133), .second, .val (.int v153), .val (.int (2 : Int32)), .val (.int v168), .val (.int v155)]) rfl k) ?_
    show ORun p e below s _ _ _ T166 (mkF m 51 #[.val (.long q1), .second, .val (.ref a1), .val (.int p3), .val (.int v162), .val (.long q1), .second, .val (.long v133), .second, .val (.int v153), .val (.int (2 : Int32)), .val (.int v168), .val (.int v155)] [])
    refine own_by (fun t k => XS.iload X166.here hx rfl (hb hby d1_51) rfl k) ?_
    show ORun p e below s _ _ _ T166 (mkF m 53 #[.val (.long q1), .second, .val (.ref a1), .val (.int p3), .val (.int v162), .val (.long q1), .second, .val (.long v133), .second, .val (.int v153), .val (.int (2 : Int32)), .val (.int v168), .val (.int v155)] [(.int v153)])
    refine own_by (fun t k => XS.bipush X166.here hx rfl (hb hby d1_53) k) ?_
    show ORun p e below s _ _ _ T166 (mkF m 55 #[.val (.long q1), .second, .val (.ref a1), .val (.int p3), .val (.int v162), .val (.long q1), .second, .val (.long v133), .second, .val (.int v153), .val (.int (2 : Int32)), .val (.int v168), .val (.int v155)] [(.int (100 : Int32)), (.int v153)])
    refine own_by (fun t k => XS.iload X166.here hx rfl (hb hby d1_55) rfl k) ?_
    show ORun p e below s _ _ _ T166 (mkF m 57 #[.val (.long q1), .second, .val (.ref a1), .val (.int p3), .val (.int v162), .val (.long q1), .second, .val (.long v133), .second, .val (.int v153), .val (.int (2 : Int32)), .val (.int v168), .val (.int v155)] [(.int v168), (.int (100 : Int32)), (.int v153)])
    refine own_by (fun t k => XS.imul X166.here hx rfl (hb hby d1_57) rfl k) (own_letI (f := (fun z => (mkF m 58 #[.val (.long q1), .second, .val (.ref a1), .val (.int p3), .val (.int v162), .val (.long q1), .second, .val (.long v133), .second, .val (.int v153), .val (.int (2 : Int32)), .val (.int v168), .val (.int v155)] [(.int z), (.int v153)]))) ((100 : Int32) * v168) fun v169 hv169 => ?_)
    show ORun p e below s _ _ _ T166 (mkF m 58 #[.val (.long q1), .second, .val (.ref a1), .val (.int p3), .val (.int v162), .val (.long q1), .second, .val (.long v133), .second, .val (.int v153), .val (.int (2 : Int32)), .val (.int v168), .val (.int v155)] [(.int v169), (.int v153)])
    have r169 := rng32 v169
    have a169 : v169.toInt = 100 * v168.toInt := by
      have q : (v169.toInt - (100 * v168.toInt)) % 4294967296 = 0 := by rw [hv169]; exact c_imul (100 : Int32) v168
      omega
    refine own_by (fun t k => XS.isub X166.here hx rfl (hb hby d1_58) rfl k) (own_letI (f := (fun z => (mkF m 59 #[.val (.long q1), .second, .val (.ref a1), .val (.int p3), .val (.int v162), .val (.long q1), .second, .val (.long v133), .second, .val (.int v153), .val (.int (2 : Int32)), .val (.int v168), .val (.int v155)] [(.int z)]))) (v153 - v169) fun v170 hv170 => ?_)
    show ORun p e below s _ _ _ T166 (mkF m 59 #[.val (.long q1), .second, .val (.ref a1), .val (.int p3), .val (.int v162), .val (.long q1), .second, .val (.long v133), .second, .val (.int v153), .val (.int (2 : Int32)), .val (.int v168), .val (.int v155)] [(.int v170)])
    have r170 := rng32 v170
    have a170 : v170.toInt = v153.toInt - v169.toInt := by
      have q : (v170.toInt - (v153.toInt - v169.toInt)) % 4294967296 = 0 := by rw [hv170]; exact c_isub v153 v169
      omega
    refine own_by (fun t k => XS.istore X166.here hx rfl (hb hby d1_59) rfl (l' := #[.val (.long q1), .second, .val (.ref a1), .val (.int p3), .val (.int v162), .val (.long q1), .second, .val (.long v133), .second, .val (.int v153), .val (.int (2 : Int32)), .val (.int v168), .val (.int v170)]) rfl k) ?_
    show ORun p e below s _ _ _ T166 (mkF m 61 #[.val (.long q1), .second, .val (.ref a1), .val (.int p3), .val (.int v162), .val (.long q1), .second, .val (.long v133), .second, .val (.int v153), .val (.int (2 : Int32)), .val (.int v168), .val (.int v170)] [])
    have f3_171 := own_fit3 (q := qk167) (w := wk167) (by omega) fi167
    refine own_by (fun t k => XS.aloadN X166.here hx rfl (hb hby d1_61) rfl rfl k) ?_
    show ORun p e below s _ _ _ T166 (mkF m 62 #[.val (.long q1), .second, .val (.ref a1), .val (.int p3), .val (.int v162), .val (.long q1), .second, .val (.long v133), .second, .val (.int v153), .val (.int (2 : Int32)), .val (.int v168), .val (.int v170)] [(.ref a1)])
    refine own_by (fun t k => XS.iinc X166.here hx rfl (hb hby d1_62) rfl (l' := #[.val (.long q1), .second, .val (.ref a1), .val (.int p3), .val (.int (v162 + (-1 : Int32))), .val (.long q1), .second, .val (.long v133), .second, .val (.int v153), .val (.int (2 : Int32)), .val (.int v168), .val (.int v170)]) rfl k) (own_letI (f := (fun z => (mkF m 65 #[.val (.long q1), .second, .val (.ref a1), .val (.int p3), .val (.int z), .val (.long q1), .second, .val (.long v133), .second, .val (.int v153), .val (.int (2 : Int32)), .val (.int v168), .val (.int v170)] [(.ref a1)]))) (v162 + (-1 : Int32)) fun v172 hv172 => ?_)
    show ORun p e below s _ _ _ T166 (mkF m 65 #[.val (.long q1), .second, .val (.ref a1), .val (.int p3), .val (.int v172), .val (.long q1), .second, .val (.long v133), .second, .val (.int v153), .val (.int (2 : Int32)), .val (.int v168), .val (.int v170)] [(.ref a1)])
    have r172 := rng32 v172
    have a172 : v172.toInt = v162.toInt + (-1) := by have q : (v172.toInt - (v162.toInt + (-1))) % 4294967296 = 0 := (by rw [hv172]; exact c_iadd v162 (-1 : Int32)); omega
    refine own_by (fun t k => XS.iload X166.here hx rfl (hb hby d1_65) rfl k) ?_
    show ORun p e below s _ _ _ T166 (mkF m 67 #[.val (.long q1), .second, .val (.ref a1), .val (.int p3), .val (.int v172), .val (.long q1), .second, .val (.long v133), .second, .val (.int v153), .val (.int (2 : Int32)), .val (.int v168), .val (.int v170)] [(.int v172), (.ref a1)])
    obtain ⟨T173, X173, e173, st173⟩ := getS2 X166 hx hZ hown (host := "") (Or.inl (hw _ (List.mem_of_getElem? (i := 31) rfl))) Via.refl e166 ((((S1.wr W146).wr W151).wr W161).wr W166) (g := (mkF m 67 #[.val (.long q1), .second, .val (.ref a1), .val (.int p3), .val (.int v172), .val (.long q1), .second, .val (.long v133), .second, .val (.int v153), .val (.int (2 : Int32)), .val (.int v168), .val (.int v170)] [(.int v172), (.ref a1)])) rfl (hb hby d1_67)
    refine own_by st173 ?_
    show ORun p e below s _ _ _ T173 (mkF m 70 #[.val (.long q1), .second, .val (.ref a1), .val (.int p3), .val (.int v172), .val (.long q1), .second, .val (.long v133), .second, .val (.int v153), .val (.int (2 : Int32)), .val (.int v168), .val (.int v170)] [(.ref d1), (.int v172), (.ref a1)])
    refine own_by (fun t k => XS.iload X173.here hx rfl (hb hby d1_70) rfl k) ?_
    show ORun p e below s _ _ _ T173 (mkF m 72 #[.val (.long q1), .second, .val (.ref a1), .val (.int p3), .val (.int v172), .val (.long q1), .second, .val (.long v133), .second, .val (.int v153), .val (.int (2 : Int32)), .val (.int v168), .val (.int v170)] [(.int v170), (.ref d1), (.int v172), (.ref a1)])
    refine own_baload X173 hx hZ e173 ((((V1.other W146 ne_d1).other W151 ne_d1).other W161 ne_d1).other W166 ne_d1) (i := v170.toInt.toNat) (by omega) (by omega) (hb hby d1_72) ?_
    intro v174 hv174
    have r174 := rng32 v174
    show ORun p e below s _ _ _ T173 (mkF m 73 #[.val (.long q1), .second, .val (.ref a1), .val (.int p3), .val (.int v172), .val (.long q1), .second, .val (.long v133), .second, .val (.int v153), .val (.int (2 : Int32)), .val (.int v168), .val (.int v170)] [(.int v174), (.int v172), (.ref a1)])
    have f175 := hO1 v170.toInt.toNat (by omega)
    rw [← hv174] at f175
    have nb175 : (nar .byte v174).toInt = v174.toInt := by have q := c_i2b v174; show v174.toInt8.toInt32.toInt = _; omega
    refine own_bastore X173 hx hZ e173 V166 (i := v172.toInt.toNat) (by omega) (by omega) (hb hby d1_73) ?_
    intro T176 h176 L176 X176 e176 W176 hL176 V176
    have len176 : L176.length = 21 := by rw [hL176, List.length_set]; exact len166
    have N176 := Fr.snoc X176 N166 g1
    show ORun p e below s _ _ _ T176 (mkF m 74 #[.val (.long q1), .second, .val (.ref a1), .val (.int p3), .val (.int v172), .val (.long q1), .second, .val (.long v133), .second, .val (.int v153), .val (.int (2 : Int32)), .val (.int v168), .val (.int v170)] [])
    refine own_by (fun t k => XS.aloadN X176.here hx rfl (hb hby d1_74) rfl rfl k) ?_
    show ORun p e below s _ _ _ T176 (mkF m 75 #[.val (.long q1), .second, .val (.ref a1), .val (.int p3), .val (.int v172), .val (.long q1), .second, .val (.long v133), .second, .val (.int v153), .val (.int (2 : Int32)), .val (.int v168), .val (.int v170)] [(.ref a1)])
    refine own_by (fun t k => XS.iinc X176.here hx rfl (hb hby d1_75) rfl (l' := #[.val (.long q1), .second, .val (.ref a1), .val (.int p3), .val (.int (v172 + (-1 : Int32))), .val (.long q1), .second, .val (.long v133), .second, .val (.int v153), .val (.int (2 : Int32)), .val (.int v168), .val (.int v170)]) rfl k) (own_letI (f := (fun z => (mkF m 78 #[.val (.long q1), .second, .val (.ref a1), .val (.int p3), .val (.int z), .val (.long q1), .second, .val (.long v133), .second, .val (.int v153), .val (.int (2 : Int32)), .val (.int v168), .val (.int v170)] [(.ref a1)]))) (v172 + (-1 : Int32)) fun v177 hv177 => ?_)
    show ORun p e below s _ _ _ T176 (mkF m 78 #[.val (.long q1), .second, .val (.ref a1), .val (.int p3), .val (.int v177), .val (.long q1), .second, .val (.long v133), .second, .val (.int v153), .val (.int (2 : Int32)), .val (.int v168), .val (.int v170)] [(.ref a1)])
    have r177 := rng32 v177
    have a177 : v177.toInt = v172.toInt + (-1) := by have q : (v177.toInt - (v172.toInt + (-1))) % 4294967296 = 0 := (by rw [hv177]; exact c_iadd v172 (-1 : Int32)); omega
    refine own_by (fun t k => XS.iload X176.here hx rfl (hb hby d1_78) rfl k) ?_
    show ORun p e below s _ _ _ T176 (mkF m 80 #[.val (.long q1), .second, .val (.ref a1), .val (.int p3), .val (.int v177), .val (.long q1), .second, .val (.long v133), .second, .val (.int v153), .val (.int (2 : Int32)), .val (.int v168), .val (.int v170)] [(.int v177), (.ref a1)])
    obtain ⟨T178, X178, e178, st178⟩ := getS2 X176 hx hZ hown (host := "") (Or.inl (hw _ (List.mem_of_getElem? (i := 33) rfl))) Via.refl e176 (((((S2.wr W146).wr W151).wr W161).wr W166).wr W176) (g := (mkF m 80 #[.val (.long q1), .second, .val (.ref a1), .val (.int p3), .val (.int v177), .val (.long q1), .second, .val (.long v133), .second, .val (.int v153), .val (.int (2 : Int32)), .val (.int v168), .val (.int v170)] [(.int v177), (.ref a1)])) rfl (hb hby d1_80)
    refine own_by st178 ?_
    show ORun p e below s _ _ _ T178 (mkF m 83 #[.val (.long q1), .second, .val (.ref a1), .val (.int p3), .val (.int v177), .val (.long q1), .second, .val (.long v133), .second, .val (.int v153), .val (.int (2 : Int32)), .val (.int v168), .val (.int v170)] [(.ref d2), (.int v177), (.ref a1)])
    refine own_by (fun t k => XS.iload X178.here hx rfl (hb hby d1_83) rfl k) ?_
    show ORun p e below s _ _ _ T178 (mkF m 85 #[.val (.long q1), .second, .val (.ref a1), .val (.int p3), .val (.int v177), .val (.long q1), .second, .val (.long v133), .second, .val (.int v153), .val (.int (2 : Int32)), .val (.int v168), .val (.int v170)] [(.int v170), (.ref d2), (.int v177), (.ref a1)])
    refine own_baload X178 hx hZ e178 (((((V2.other W146 ne_d2).other W151 ne_d2).other W161 ne_d2).other W166 ne_d2).other W176 ne_d2) (i := v170.toInt.toNat) (by omega) (by omega) (hb hby d1_85) ?_
    intro v179 hv179
    have r179 := rng32 v179
    show ORun p e below s _ _ _ T178 (mkF m 86 #[.val (.long q1), .second, .val (.ref a1), .val (.int p3), .val (.int v177), .val (.long q1), .second, .val (.long v133), .second, .val (.int v153), .val (.int (2 : Int32)), .val (.int v168), .val (.int v170)] [(.int v179), (.int v177), (.ref a1)])
    have f180 := hT1 v170.toInt.toNat (by omega)
    rw [← hv179] at f180
    have nb180 : (nar .byte v179).toInt = v179.toInt := by have q := c_i2b v179; show v179.toInt8.toInt32.toInt = _; omega
    refine own_bastore X178 hx hZ e178 V176 (i := v177.toInt.toNat) (by omega) (by omega) (hb hby d1_86) ?_
    intro T181 h181 L181 X181 e181 W181 hL181 V181
    have len181 : L181.length = 21 := by rw [hL181, List.length_set]; exact len176
    have N181 := Fr.snoc X181 N176 g1
    show ORun p e below s _ _ _ T181 (mkF m 87 #[.val (.long q1), .second, .val (.ref a1), .val (.int p3), .val (.int v177), .val (.long q1), .second, .val (.long v133), .second, .val (.int v153), .val (.int (2 : Int32)), .val (.int v168), .val (.int v170)] [])
    have pk182 := own_pair (q := qk167) (w := wk167) (i := v172.toInt.toNat) (j := v177.toInt.toNat) (by omega) fi167 (by omega) (by omega) hL176 hL181 (by omega) (by omega)
    obtain ⟨wk182, hwk182⟩ : ∃ w, w = wk167 / 100 := ⟨_, rfl⟩
    obtain ⟨qk182, hqk182⟩ : ∃ q, q = v177.toInt.toNat := ⟨_, rfl⟩
    rw [← hwk182, ← hqk182] at pk182
    obtain ⟨pe182, fi182⟩ := pk182
    have ch182 := Eq.trans ch167 pe182
    have at182 : v177.toInt = (qk182 : Int) := by omega
    have qb182 : 1 ≤ qk182 ∧ qk182 ≤ 20 := by omega
    have lo182 : v168.toInt = ((wk182 % 100 : Nat) : Int) := by omega
    have bw182 : 100 ≤ wk182 := by omega
    clear a168 r168 a169 r169 a170 r170 f3_171 a172 r172 r174 f175 nb175 a177 r177 r179 f180 nb180 at167 qb167 lo167 bw167 len166 len176 fi167 hqk182
    refine own_by (fun t k => XS.iload X181.here hx rfl (hb hby d1_87) rfl k) ?_
    show ORun p e below s _ _ _ T181 (mkF m 89 #[.val (.long q1), .second, .val (.ref a1), .val (.int p3), .val (.int v177), .val (.long q1), .second, .val (.long v133), .second, .val (.int v153), .val (.int (2 : Int32)), .val (.int v168), .val (.int v170)] [(.int v168)])
    refine own_by (fun t k => XS.istore X181.here hx rfl (hb hby d1_89) rfl (l' := #[.val (.long q1), .second, .val (.ref a1), .val (.int p3), .val (.int v177), .val (.long q1), .second, .val (.long v133), .second, .val (.int v168), .val (.int (2 : Int32)), .val (.int v168), .val (.int v170)]) rfl k) ?_
    show ORun p e below s _ _ _ T181 (mkF m 91 #[.val (.long q1), .second, .val (.ref a1), .val (.int p3), .val (.int v177), .val (.long q1), .second, .val (.long v133), .second, .val (.int v168), .val (.int (2 : Int32)), .val (.int v168), .val (.int v170)] [])
    refine own_by (fun t k => XS.iinc X181.here hx rfl (hb hby d1_91) rfl (l' := #[.val (.long q1), .second, .val (.ref a1), .val (.int p3), .val (.int v177), .val (.long q1), .second, .val (.long v133), .second, .val (.int v168), .val (.int (3 : Int32)), .val (.int v168), .val (.int v170)]) rfl k) ?_
    show ORun p e below s _ _ _ T181 (mkF m 94 #[.val (.long q1), .second, .val (.ref a1), .val (.int p3), .val (.int v177), .val (.long q1), .second, .val (.long v133), .second, .val (.int v168), .val (.int (3 : Int32)), .val (.int v168), .val (.int v170)] [])
    refine own_by (fun t k => XS.goto X181.here hx rfl (pc0 := 94) (pc' := 38) rfl (hb hby d1_94) (by decide) (by decide) k) ?_
    show ORun p e below s _ _ _ T181 (mkF m 38 #[.val (.long q1), .second, .val (.ref a1), .val (.int p3), .val (.int v177), .val (.long q1), .second, .val (.long v133), .second, .val (.int v168), .val (.int (3 : Int32)), .val (.int v168), .val (.int v170)] [])
    refine own_by (fun t k => XS.iload X181.here hx rfl (hb hby d1_38) rfl k) ?_
    show ORun p e below s _ _ _ T181 (mkF m 40 #[.val (.long q1), .second, .val (.ref a1), .val (.int p3), .val (.int v177), .val (.long q1), .second, .val (.long v133), .second, .val (.int v168), .val (.int (3 : Int32)), .val (.int v168), .val (.int v170)] [(.int (3 : Int32))])
    refine own_by (fun t k => XS.iconst X181.here hx rfl (hb hby d1_40) k) ?_
    show ORun p e below s _ _ _ T181 (mkF m 41 #[.val (.long q1), .second, .val (.ref a1), .val (.int p3), .val (.int v177), .val (.long q1), .second, .val (.long v133), .second, .val (.int v168), .val (.int (3 : Int32)), .val (.int v168), .val (.int v170)] [(.int (4 : Int32)), (.int (3 : Int32))])
    refine own_by (fun t k => XS.icmpNo X181.here hx rfl (hb hby d1_41) rfl (tlt (by decide)).2.1 k) ?_
    show ORun p e below s _ _ _ T181 (mkF m 44 #[.val (.long q1), .second, .val (.ref a1), .val (.int p3), .val (.int v177), .val (.long q1), .second, .val (.long v133), .second, .val (.int v168), .val (.int (3 : Int32)), .val (.int v168), .val (.int v170)] [])
    refine own_by (fun t k => XS.iload X181.here hx rfl (hb hby d1_44) rfl k) ?_
    show ORun p e below s _ _ _ T181 (mkF m 46 #[.val (.long q1), .second, .val (.ref a1), .val (.int p3), .val (.int v177), .val (.long q1), .second, .val (.long v133), .second, .val (.int v168), .val (.int (3 : Int32)), .val (.int v168), .val (.int v170)] [(.int v168)])
    refine own_by (fun t k => XS.bipush X181.here hx rfl (hb hby d1_46) k) ?_
    show ORun p e below s _ _ _ T181 (mkF m 48 #[.val (.long q1), .second, .val (.ref a1), .val (.int p3), .val (.int v177), .val (.long q1), .second, .val (.long v133), .second, .val (.int v168), .val (.int (3 : Int32)), .val (.int v168), .val (.int v170)] [(.int (100 : Int32)), (.int v168)])
    refine own_by (fun t k => XS.idiv X181.here hx rfl (hb hby d1_48) rfl (by decide) k) (own_letI (f := (fun z => (mkF m 49 #[.val (.long q1), .second, .val (.ref a1), .val (.int p3), .val (.int v177), .val (.long q1), .second, .val (.long v133), .second, .val (.int v168), .val (.int (3 : Int32)), .val (.int v168), .val (.int v170)] [(.int z)]))) (v168 / (100 : Int32)) fun v183 hv183 => ?_)
    show ORun p e below s _ _ _ T181 (mkF m 49 #[.val (.long q1), .second, .val (.ref a1), .val (.int p3), .val (.int v177), .val (.long q1), .second, .val (.long v133), .second, .val (.int v168), .val (.int (3 : Int32)), .val (.int v168), .val (.int v170)] [(.int v183)])
    have r183 := rng32 v183
    have a183 : v183.toInt = v168.toInt / 100 := by
      have q : (0 ≤ v168.toInt → v183.toInt = v168.toInt / 100) ∧ (v168.toInt < 0 → v183.toInt = -((-v168.toInt) / 100)) := by rw [hv183]; exact c_idiv v168 (100 : Int32) 100 (by decide) (by decide)
      omega
    refine own_by (fun t k => XS.istore X181.here hx rfl (hb hby d1_49) rfl (l' := #[.val (.long q1), .second, .val (.ref a1), .val (.int p3), .val (.int v177), .val (.long q1), .second, .val (.long v133), .second, .val (.int v168), .val (.int (3 : Int32)), .val (.int v183), .val (.int v170)]) rfl k) ?_
    show ORun p e below s _ _ _ T181 (mkF m 51 #[.val (.long q1), .second, .val (.ref a1), .val (.int p3), .val (.int v177), .val (.long q1), .second, .val (.long v133), .second, .val (.int v168), .val (.int (3 : Int32)), .val (.int v183), .val (.int v170)] [])
    refine own_by (fun t k => XS.iload X181.here hx rfl (hb hby d1_51) rfl k) ?_
    show ORun p e below s _ _ _ T181 (mkF m 53 #[.val (.long q1), .second, .val (.ref a1), .val (.int p3), .val (.int v177), .val (.long q1), .second, .val (.long v133), .second, .val (.int v168), .val (.int (3 : Int32)), .val (.int v183), .val (.int v170)] [(.int v168)])
    refine own_by (fun t k => XS.bipush X181.here hx rfl (hb hby d1_53) k) ?_
    show ORun p e below s _ _ _ T181 (mkF m 55 #[.val (.long q1), .second, .val (.ref a1), .val (.int p3), .val (.int v177), .val (.long q1), .second, .val (.long v133), .second, .val (.int v168), .val (.int (3 : Int32)), .val (.int v183), .val (.int v170)] [(.int (100 : Int32)), (.int v168)])
    refine own_by (fun t k => XS.iload X181.here hx rfl (hb hby d1_55) rfl k) ?_
    show ORun p e below s _ _ _ T181 (mkF m 57 #[.val (.long q1), .second, .val (.ref a1), .val (.int p3), .val (.int v177), .val (.long q1), .second, .val (.long v133), .second, .val (.int v168), .val (.int (3 : Int32)), .val (.int v183), .val (.int v170)] [(.int v183), (.int (100 : Int32)), (.int v168)])
    refine own_by (fun t k => XS.imul X181.here hx rfl (hb hby d1_57) rfl k) (own_letI (f := (fun z => (mkF m 58 #[.val (.long q1), .second, .val (.ref a1), .val (.int p3), .val (.int v177), .val (.long q1), .second, .val (.long v133), .second, .val (.int v168), .val (.int (3 : Int32)), .val (.int v183), .val (.int v170)] [(.int z), (.int v168)]))) ((100 : Int32) * v183) fun v184 hv184 => ?_)
    show ORun p e below s _ _ _ T181 (mkF m 58 #[.val (.long q1), .second, .val (.ref a1), .val (.int p3), .val (.int v177), .val (.long q1), .second, .val (.long v133), .second, .val (.int v168), .val (.int (3 : Int32)), .val (.int v183), .val (.int v170)] [(.int v184), (.int v168)])
    have r184 := rng32 v184
    have a184 : v184.toInt = 100 * v183.toInt := by
      have q : (v184.toInt - (100 * v183.toInt)) % 4294967296 = 0 := by rw [hv184]; exact c_imul (100 : Int32) v183
      omega
    refine own_by (fun t k => XS.isub X181.here hx rfl (hb hby d1_58) rfl k) (own_letI (f := (fun z => (mkF m 59 #[.val (.long q1), .second, .val (.ref a1), .val (.int p3), .val (.int v177), .val (.long q1), .second, .val (.long v133), .second, .val (.int v168), .val (.int (3 : Int32)), .val (.int v183), .val (.int v170)] [(.int z)]))) (v168 - v184) fun v185 hv185 => ?_)
    show ORun p e below s _ _ _ T181 (mkF m 59 #[.val (.long q1), .second, .val (.ref a1), .val (.int p3), .val (.int v177), .val (.long q1), .second, .val (.long v133), .second, .val (.int v168), .val (.int (3 : Int32)), .val (.int v183), .val (.int v170)] [(.int v185)])
    have r185 := rng32 v185
    have a185 : v185.toInt = v168.toInt - v184.toInt := by
      have q : (v185.toInt - (v168.toInt - v184.toInt)) % 4294967296 = 0 := by rw [hv185]; exact c_isub v168 v184
      omega
    refine own_by (fun t k => XS.istore X181.here hx rfl (hb hby d1_59) rfl (l' := #[.val (.long q1), .second, .val (.ref a1), .val (.int p3), .val (.int v177), .val (.long q1), .second, .val (.long v133), .second, .val (.int v168), .val (.int (3 : Int32)), .val (.int v183), .val (.int v185)]) rfl k) ?_
    show ORun p e below s _ _ _ T181 (mkF m 61 #[.val (.long q1), .second, .val (.ref a1), .val (.int p3), .val (.int v177), .val (.long q1), .second, .val (.long v133), .second, .val (.int v168), .val (.int (3 : Int32)), .val (.int v183), .val (.int v185)] [])
    have f3_186 := own_fit3 (q := qk182) (w := wk182) (by omega) fi182
    refine own_by (fun t k => XS.aloadN X181.here hx rfl (hb hby d1_61) rfl rfl k) ?_
    show ORun p e below s _ _ _ T181 (mkF m 62 #[.val (.long q1), .second, .val (.ref a1), .val (.int p3), .val (.int v177), .val (.long q1), .second, .val (.long v133), .second, .val (.int v168), .val (.int (3 : Int32)), .val (.int v183), .val (.int v185)] [(.ref a1)])
    refine own_by (fun t k => XS.iinc X181.here hx rfl (hb hby d1_62) rfl (l' := #[.val (.long q1), .second, .val (.ref a1), .val (.int p3), .val (.int (v177 + (-1 : Int32))), .val (.long q1), .second, .val (.long v133), .second, .val (.int v168), .val (.int (3 : Int32)), .val (.int v183), .val (.int v185)]) rfl k) (own_letI (f := (fun z => (mkF m 65 #[.val (.long q1), .second, .val (.ref a1), .val (.int p3), .val (.int z), .val (.long q1), .second, .val (.long v133), .second, .val (.int v168), .val (.int (3 : Int32)), .val (.int v183), .val (.int v185)] [(.ref a1)]))) (v177 + (-1 : Int32)) fun v187 hv187 => ?_)
    show ORun p e below s _ _ _ T181 (mkF m 65 #[.val (.long q1), .second, .val (.ref a1), .val (.int p3), .val (.int v187), .val (.long q1), .second, .val (.long v133), .second, .val (.int v168), .val (.int (3 : Int32)), .val (.int v183), .val (.int v185)] [(.ref a1)])
    have r187 := rng32 v187
    have a187 : v187.toInt = v177.toInt + (-1) := by have q : (v187.toInt - (v177.toInt + (-1))) % 4294967296 = 0 := (by rw [hv187]; exact c_iadd v177 (-1 : Int32)); omega
    refine own_by (fun t k => XS.iload X181.here hx rfl (hb hby d1_65) rfl k) ?_
    show ORun p e below s _ _ _ T181 (mkF m 67 #[.val (.long q1), .second, .val (.ref a1), .val (.int p3), .val (.int v187), .val (.long q1), .second, .val (.long v133), .second, .val (.int v168), .val (.int (3 : Int32)), .val (.int v183), .val (.int v185)] [(.int v187), (.ref a1)])
    obtain ⟨T188, X188, e188, st188⟩ := getS2 X181 hx hZ hown (host := "") (Or.inl (hw _ (List.mem_of_getElem? (i := 31) rfl))) Via.refl e181 ((((((S1.wr W146).wr W151).wr W161).wr W166).wr W176).wr W181) (g := (mkF m 67 #[.val (.long q1), .second, .val (.ref a1), .val (.int p3), .val (.int v187), .val (.long q1), .second, .val (.long v133), .second, .val (.int v168), .val (.int (3 : Int32)), .val (.int v183), .val (.int v185)] [(.int v187), (.ref a1)])) rfl (hb hby d1_67)
    refine own_by st188 ?_
    show ORun p e below s _ _ _ T188 (mkF m 70 #[.val (.long q1), .second, .val (.ref a1), .val (.int p3), .val (.int v187), .val (.long q1), .second, .val (.long v133), .second, .val (.int v168), .val (.int (3 : Int32)), .val (.int v183), .val (.int v185)] [(.ref d1), (.int v187), (.ref a1)])
    refine own_by (fun t k => XS.iload X188.here hx rfl (hb hby d1_70) rfl k) ?_
    show ORun p e below s _ _ _ T188 (mkF m 72 #[.val (.long q1), .second, .val (.ref a1), .val (.int p3), .val (.int v187), .val (.long q1), .second, .val (.long v133), .second, .val (.int v168), .val (.int (3 : Int32)), .val (.int v183), .val (.int v185)] [(.int v185), (.ref d1), (.int v187), (.ref a1)])
    refine own_baload X188 hx hZ e188 ((((((V1.other W146 ne_d1).other W151 ne_d1).other W161 ne_d1).other W166 ne_d1).other W176 ne_d1).other W181 ne_d1) (i := v185.toInt.toNat) (by omega) (by omega) (hb hby d1_72) ?_
    intro v189 hv189
    have r189 := rng32 v189
    show ORun p e below s _ _ _ T188 (mkF m 73 #[.val (.long q1), .second, .val (.ref a1), .val (.int p3), .val (.int v187), .val (.long q1), .second, .val (.long v133), .second, .val (.int v168), .val (.int (3 : Int32)), .val (.int v183), .val (.int v185)] [(.int v189), (.int v187), (.ref a1)])
    have f190 := hO1 v185.toInt.toNat (by omega)
    rw [← hv189] at f190
    have nb190 : (nar .byte v189).toInt = v189.toInt := by have q := c_i2b v189; show v189.toInt8.toInt32.toInt = _; omega
    refine own_bastore X188 hx hZ e188 V181 (i := v187.toInt.toNat) (by omega) (by omega) (hb hby d1_73) ?_
    intro T191 h191 L191 X191 e191 W191 hL191 V191
    have len191 : L191.length = 21 := by rw [hL191, List.length_set]; exact len181
    have N191 := Fr.snoc X191 N181 g1
    show ORun p e below s _ _ _ T191 (mkF m 74 #[.val (.long q1), .second, .val (.ref a1), .val (.int p3), .val (.int v187), .val (.long q1), .second, .val (.long v133), .second, .val (.int v168), .val (.int (3 : Int32)), .val (.int v183), .val (.int v185)] [])
    refine own_by (fun t k => XS.aloadN X191.here hx rfl (hb hby d1_74) rfl rfl k) ?_
    show ORun p e below s _ _ _ T191 (mkF m 75 #[.val (.long q1), .second, .val (.ref a1), .val (.int p3), .val (.int v187), .val (.long q1), .second, .val (.long v133), .second, .val (.int v168), .val (.int (3 : Int32)), .val (.int v183), .val (.int v185)] [(.ref a1)])
    refine own_by (fun t k => XS.iinc X191.here hx rfl (hb hby d1_75) rfl (l' := #[.val (.long q1), .second, .val (.ref a1), .val (.int p3), .val (.int (v187 + (-1 : Int32))), .val (.long q1), .second, .val (.long v133), .second, .val (.int v168), .val (.int (3 : Int32)), .val (.int v183), .val (.int v185)]) rfl k) (own_letI (f := (fun z => (mkF m 78 #[.val (.long q1), .second, .val (.ref a1), .val (.int p3), .val (.int z), .val (.long q1), .second, .val (.long v133), .second, .val (.int v168), .val (.int (3 : Int32)), .val (.int v183), .val (.int v185)] [(.ref a1)]))) (v187 + (-1 : Int32)) fun v192 hv192 => ?_)
    show ORun p e below s _ _ _ T191 (mkF m 78 #[.val (.long q1), .second, .val (.ref a1), .val (.int p3), .val (.int v192), .val (.long q1), .second, .val (.long v133), .second, .val (.int v168), .val (.int (3 : Int32)), .val (.int v183), .val (.int v185)] [(.ref a1)])
    have r192 := rng32 v192
    have a192 : v192.toInt = v187.toInt + (-1) := by have q : (v192.toInt - (v187.toInt + (-1))) % 4294967296 = 0 := (by rw [hv192]; exact c_iadd v187 (-1 : Int32)); omega
    refine own_by (fun t k => XS.iload X191.here hx rfl (hb hby d1_78) rfl k) ?_
    show ORun p e below s _ _ _ T191 (mkF m 80 #[.val (.long q1), .second, .val (.ref a1), .val (.int p3), .val (.int v192), .val (.long q1), .second, .val (.long v133), .second, .val (.int v168), .val (.int (3 : Int32)), .val (.int v183), .val (.int v185)] [(.int v192), (.ref a1)])
    obtain ⟨T193, X193, e193, st193⟩ := getS2 X191 hx hZ hown (host := "") (Or.inl (hw _ (List.mem_of_getElem? (i := 33) rfl))) Via.refl e191 (((((((S2.wr W146).wr W151).wr W161).wr W166).wr W176).wr W181).wr W191) (g := (mkF m 80 #[.val (.long q1), .second, .val (.ref a1), .val (.int p3), .val (.int v192), .val (.long q1), .second, .val (.long v133), .second, .val (.int v168), .val (.int (3 : Int32)), .val (.int v183), .val (.int v185)] [(.int v192), (.ref a1)])) rfl (hb hby d1_80)
    refine own_by st193 ?_
    show ORun p e below s _ _ _ T193 (mkF m 83 #[.val (.long q1), .second, .val (.ref a1), .val (.int p3), .val (.int v192), .val (.long q1), .second, .val (.long v133), .second, .val (.int v168), .val (.int (3 : Int32)), .val (.int v183), .val (.int v185)] [(.ref d2), (.int v192), (.ref a1)])
    refine own_by (fun t k => XS.iload X193.here hx rfl (hb hby d1_83) rfl k) ?_
    show ORun p e below s _ _ _ T193 (mkF m 85 #[.val (.long q1), .second, .val (.ref a1), .val (.int p3), .val (.int v192), .val (.long q1), .second, .val (.long v133), .second, .val (.int v168), .val (.int (3 : Int32)), .val (.int v183), .val (.int v185)] [(.int v185), (.ref d2), (.int v192), (.ref a1)])
    refine own_baload X193 hx hZ e193 (((((((V2.other W146 ne_d2).other W151 ne_d2).other W161 ne_d2).other W166 ne_d2).other W176 ne_d2).other W181 ne_d2).other W191 ne_d2) (i := v185.toInt.toNat) (by omega) (by omega) (hb hby d1_85) ?_
    intro v194 hv194
    have r194 := rng32 v194
    show ORun p e below s _ _ _ T193 (mkF m 86 #[.val (.long q1), .second, .val (.ref a1), .val (.int p3), .val (.int v192), .val (.long q1), .second, .val (.long v133), .second, .val (.int v168), .val (.int (3 : Int32)), .val (.int v183), .val (.int v185)] [(.int v194), (.int v192), (.ref a1)])
    have f195 := hT1 v185.toInt.toNat (by omega)
    rw [← hv194] at f195
    have nb195 : (nar .byte v194).toInt = v194.toInt := by have q := c_i2b v194; show v194.toInt8.toInt32.toInt = _; omega
    refine own_bastore X193 hx hZ e193 V191 (i := v192.toInt.toNat) (by omega) (by omega) (hb hby d1_86) ?_
    intro T196 h196 L196 X196 e196 W196 hL196 V196
    have len196 : L196.length = 21 := by rw [hL196, List.length_set]; exact len191
    have N196 := Fr.snoc X196 N191 g1
    show ORun p e below s _ _ _ T196 (mkF m 87 #[.val (.long q1), .second, .val (.ref a1), .val (.int p3), .val (.int v192), .val (.long q1), .second, .val (.long v133), .second, .val (.int v168), .val (.int (3 : Int32)), .val (.int v183), .val (.int v185)] [])
    have pk197 := own_pair (q := qk182) (w := wk182) (i := v187.toInt.toNat) (j := v192.toInt.toNat) (by omega) fi182 (by omega) (by omega) hL191 hL196 (by omega) (by omega)
    obtain ⟨wk197, hwk197⟩ : ∃ w, w = wk182 / 100 := ⟨_, rfl⟩
    obtain ⟨qk197, hqk197⟩ : ∃ q, q = v192.toInt.toNat := ⟨_, rfl⟩
    rw [← hwk197, ← hqk197] at pk197
    obtain ⟨pe197, fi197⟩ := pk197
    have ch197 := Eq.trans ch182 pe197
    have at197 : v192.toInt = (qk197 : Int) := by omega
    have qb197 : 1 ≤ qk197 ∧ qk197 ≤ 20 := by omega
    have lo197 : v183.toInt = ((wk197 % 1 : Nat) : Int) := by omega
    have bw197 : 1 ≤ wk197 := by omega
    clear a183 r183 a184 r184 a185 r185 f3_186 a187 r187 r189 f190 nb190 a192 r192 r194 f195 nb195 at182 qb182 lo182 bw182 len181 len191 fi182 hqk197
    refine own_by (fun t k => XS.iload X196.here hx rfl (hb hby d1_87) rfl k) ?_
    show ORun p e below s _ _ _ T196 (mkF m 89 #[.val (.long q1), .second, .val (.ref a1), .val (.int p3), .val (.int v192), .val (.long q1), .second, .val (.long v133), .second, .val (.int v168), .val (.int (3 : Int32)), .val (.int v183), .val (.int v185)] [(.int v183)])
    refine own_by (fun t k => XS.istore X196.here hx rfl (hb hby d1_89) rfl (l' := #[.val (.long q1), .second, .val (.ref a1), .val (.int p3), .val (.int v192), .val (.long q1), .second, .val (.long v133), .second, .val (.int v183), .val (.int (3 : Int32)), .val (.int v183), .val (.int v185)]) rfl k) ?_
    show ORun p e below s _ _ _ T196 (mkF m 91 #[.val (.long q1), .second, .val (.ref a1), .val (.int p3), .val (.int v192), .val (.long q1), .second, .val (.long v133), .second, .val (.int v183), .val (.int (3 : Int32)), .val (.int v183), .val (.int v185)] [])
    refine own_by (fun t k => XS.iinc X196.here hx rfl (hb hby d1_91) rfl (l' := #[.val (.long q1), .second, .val (.ref a1), .val (.int p3), .val (.int v192), .val (.long q1), .second, .val (.long v133), .second, .val (.int v183), .val (.int (4 : Int32)), .val (.int v183), .val (.int v185)]) rfl k) ?_
    show ORun p e below s _ _ _ T196 (mkF m 94 #[.val (.long q1), .second, .val (.ref a1), .val (.int p3), .val (.int v192), .val (.long q1), .second, .val (.long v133), .second, .val (.int v183), .val (.int (4 : Int32)), .val (.int v183), .val (.int v185)] [])
    refine own_by (fun t k => XS.goto X196.here hx rfl (pc0 := 94) (pc' := 38) rfl (hb hby d1_94) (by decide) (by decide) k) ?_
    show ORun p e below s _ _ _ T196 (mkF m 38 #[.val (.long q1), .second, .val (.ref a1), .val (.int p3), .val (.int v192), .val (.long q1), .second, .val (.long v133), .second, .val (.int v183), .val (.int (4 : Int32)), .val (.int v183), .val (.int v185)] [])
    refine own_by (fun t k => XS.iload X196.here hx rfl (hb hby d1_38) rfl k) ?_
    show ORun p e below s _ _ _ T196 (mkF m 40 #[.val (.long q1), .second, .val (.ref a1), .val (.int p3), .val (.int v192), .val (.long q1), .second, .val (.long v133), .second, .val (.int v183), .val (.int (4 : Int32)), .val (.int v183), .val (.int v185)] [(.int (4 : Int32))])
    refine own_by (fun t k => XS.iconst X196.here hx rfl (hb hby d1_40) k) ?_
    show ORun p e below s _ _ _ T196 (mkF m 41 #[.val (.long q1), .second, .val (.ref a1), .val (.int p3), .val (.int v192), .val (.long q1), .second, .val (.long v133), .second, .val (.int v183), .val (.int (4 : Int32)), .val (.int v183), .val (.int v185)] [(.int (4 : Int32)), (.int (4 : Int32))])
    refine own_by (fun t k => XS.icmpYes X196.here hx rfl (pc0 := 41) (pc' := 97) rfl (hb hby d1_41) rfl (flt (by decide)).2.1 (by decide) (by decide) k) ?_
    show ORun p e below s _ _ _ T196 (mkF m 97 #[.val (.long q1), .second, .val (.ref a1), .val (.int p3), .val (.int v192), .val (.long q1), .second, .val (.long v133), .second, .val (.int v183), .val (.int (4 : Int32)), .val (.int v183), .val (.int v185)] [])
    have hh198 : v133.toInt = (wk197 : Int) := by omega
    have hb198 : wk197 < 100000000000 := by omega
    clear hi137 ub137 hwk152 hwk167 hwk182 hwk197
    refine own_by (fun t k => XS.lload X196.here hx rfl (hb hby d1_97) rfl k) ?_
    show ORun p e below s _ _ _ T196 (mkF m 99 #[.val (.long q1), .second, .val (.ref a1), .val (.int p3), .val (.int v192), .val (.long q1), .second, .val (.long v133), .second, .val (.int v183), .val (.int (4 : Int32)), .val (.int v183), .val (.int v185)] [(.long v133)])
    refine own_by (fun t k => XS.lstore X196.here hx rfl (hb hby d1_99) rfl (l' := #[.val (.long q1), .second, .val (.ref a1), .val (.int p3), .val (.int v192), .val (.long v133), .second, .val (.long v133), .second, .val (.int v183), .val (.int (4 : Int32)), .val (.int v183), .val (.int v185)]) rfl k) ?_
    show ORun p e below s _ _ _ T196 (mkF m 101 #[.val (.long q1), .second, .val (.ref a1), .val (.int p3), .val (.int v192), .val (.long v133), .second, .val (.long v133), .second, .val (.int v183), .val (.int (4 : Int32)), .val (.int v183), .val (.int v185)] [])
    refine own_by (fun t k => XS.goto X196.here hx rfl (pc0 := 101) (pc' := 6) rfl (hb hby d1_101) (by decide) (by decide) k) ?_
    show ORun p e below s _ _ _ T196 (mkF m 6 #[.val (.long q1), .second, .val (.ref a1), .val (.int p3), .val (.int v192), .val (.long v133), .second, .val (.long v133), .second, .val (.int v183), .val (.int (4 : Int32)), .val (.int v183), .val (.int v185)] [])
    refine own_by (fun t k => XS.lload X196.here hx rfl (hb hby d1_6) rfl k) ?_
    show ORun p e below s _ _ _ T196 (mkF m 8 #[.val (.long q1), .second, .val (.ref a1), .val (.int p3), .val (.int v192), .val (.long v133), .second, .val (.long v133), .second, .val (.int v183), .val (.int (4 : Int32)), .val (.int v183), .val (.int v185)] [(.long v133)])
    refine own_by (fun t k => X196.ldc2Long hx hown (mvT hZ (hw _ (List.mem_of_getElem? (i := 26) rfl))) (g := (mkF m 8 #[.val (.long q1), .second, .val (.ref a1), .val (.int p3), .val (.int v192), .val (.long v133), .second, .val (.long v133), .second, .val (.int v183), .val (.int (4 : Int32)), .val (.int v183), .val (.int v185)] [(.long v133)])) rfl (hb hby d1_8) _ k) ?_
    show ORun p e below s _ _ _ T196 (mkF m 11 #[.val (.long q1), .second, .val (.ref a1), .val (.int p3), .val (.int v192), .val (.long v133), .second, .val (.long v133), .second, .val (.int v183), .val (.int (4 : Int32)), .val (.int v183), .val (.int v185)] [(.long (100000000 : Int64)), (.long v133)])
    refine own_by (fun t k => XS.lcmp X196.here hx rfl (hb hby d1_11) rfl k) ?_
    show ORun p e below s _ _ _ T196 (mkF m 12 #[.val (.long q1), .second, .val (.ref a1), .val (.int p3), .val (.int v192), .val (.long v133), .second, .val (.long v133), .second, .val (.int v183), .val (.int (4 : Int32)), .val (.int v183), .val (.int v185)] [(.int (lcmpW v133 (100000000 : Int64)))])
    by_cases hc199 : v133 < (100000000 : Int64)
    · have t199 := own_ltL hc199 (a := v133.toInt) (b := 100000000) rfl (by decide)
      refine own_by (fun t k => XS.ifYes X196.here hx rfl (pc0 := 12) (pc' := 104) rfl (hb hby d1_12) rfl (own_lclt hc199).1 (by decide) (by decide) k) ?_
      show ORun p e below s _ _ _ T196 (mkF m 104 #[.val (.long q1), .second, .val (.ref a1), .val (.int p3), .val (.int v192), .val (.long v133), .second, .val (.long v133), .second, .val (.int v183), .val (.int (4 : Int32)), .val (.int v183), .val (.int v185)] [])
      refine own_by (fun t k => XS.lload X196.here hx rfl (hb hby d1_104) rfl k) ?_
      show ORun p e below s _ _ _ T196 (mkF m 106 #[.val (.long q1), .second, .val (.ref a1), .val (.int p3), .val (.int v192), .val (.long v133), .second, .val (.long v133), .second, .val (.int v183), .val (.int (4 : Int32)), .val (.int v183), .val (.int v185)] [(.long v133)])
      refine own_by (fun t k => XS.l2i X196.here hx rfl (hb hby d1_106) rfl k) (own_letI (f := (fun z => (mkF m 107 #[.val (.long q1), .second, .val (.ref a1), .val (.int p3), .val (.int v192), .val (.long v133), .second, .val (.long v133), .second, .val (.int v183), .val (.int (4 : Int32)), .val (.int v183), .val (.int v185)] [(.int z)]))) (v133.toInt32) fun v200 hv200 => ?_)
      show ORun p e below s _ _ _ T196 (mkF m 107 #[.val (.long q1), .second, .val (.ref a1), .val (.int p3), .val (.int v192), .val (.long v133), .second, .val (.long v133), .second, .val (.int v183), .val (.int (4 : Int32)), .val (.int v183), .val (.int v185)] [(.int v200)])
      have r200 := rng32 v200
      have a200 : v200.toInt = v133.toInt := by
        have q : (v200.toInt - v133.toInt) % 4294967296 = 0 := by rw [hv200]; exact c_l2i v133
        omega
      have in201 : v200.toInt = (wk197 : Int) := by omega
      have ib201 : wk197 < 100000000 := by omega
      clear t199 a200 r200
      refine own_by (fun t k => XS.istore X196.here hx rfl (hb hby d1_107) rfl (l' := #[.val (.long q1), .second, .val (.ref a1), .val (.int p3), .val (.int v192), .val (.long v133), .second, .val (.int v200), .unset, .val (.int v183), .val (.int (4 : Int32)), .val (.int v183), .val (.int v185)]) rfl k) ?_
      show ORun p e below s _ _ _ T196 (mkF m 109 #[.val (.long q1), .second, .val (.ref a1), .val (.int p3), .val (.int v192), .val (.long v133), .second, .val (.int v200), .unset, .val (.int v183), .val (.int (4 : Int32)), .val (.int v183), .val (.int v185)] [])
      refine own_by (fun t k => XS.iload X196.here hx rfl (hb hby d1_109) rfl k) ?_
      show ORun p e below s _ _ _ T196 (mkF m 111 #[.val (.long q1), .second, .val (.ref a1), .val (.int p3), .val (.int v192), .val (.long v133), .second, .val (.int v200), .unset, .val (.int v183), .val (.int (4 : Int32)), .val (.int v183), .val (.int v185)] [(.int v200)])
      refine own_by (fun t k => XS.bipush X196.here hx rfl (hb hby d1_111) k) ?_
      show ORun p e below s _ _ _ T196 (mkF m 113 #[.val (.long q1), .second, .val (.ref a1), .val (.int p3), .val (.int v192), .val (.long v133), .second, .val (.int v200), .unset, .val (.int v183), .val (.int (4 : Int32)), .val (.int v183), .val (.int v185)] [(.int (100 : Int32)), (.int v200)])
      by_cases hc202 : v200 < (100 : Int32)
      · have t202 := own_lt hc202 (a := v200.toInt) (b := 100) rfl (by decide)
        refine own_by (fun t k => XS.icmpYes X196.here hx rfl (pc0 := 113) (pc' := 166) rfl (hb hby d1_113) rfl (tlt hc202).1 (by decide) (by decide) k) ?_
        show ORun p e below s _ _ _ T196 (mkF m 166 #[.val (.long q1), .second, .val (.ref a1), .val (.int p3), .val (.int v192), .val (.long v133), .second, .val (.int v200), .unset, .val (.int v183), .val (.int (4 : Int32)), .val (.int v183), .val (.int v185)] [])
        refine own_by (fun t k => XS.iload X196.here hx rfl (hb hby d1_166) rfl k) ?_
        show ORun p e below s _ _ _ T196 (mkF m 168 #[.val (.long q1), .second, .val (.ref a1), .val (.int p3), .val (.int v192), .val (.long v133), .second, .val (.int v200), .unset, .val (.int v183), .val (.int (4 : Int32)), .val (.int v183), .val (.int v185)] [(.int v200)])
        refine own_by (fun t k => XS.bipush X196.here hx rfl (hb hby d1_168) k) ?_
        show ORun p e below s _ _ _ T196 (mkF m 170 #[.val (.long q1), .second, .val (.ref a1), .val (.int p3), .val (.int v192), .val (.long v133), .second, .val (.int v200), .unset, .val (.int v183), .val (.int (4 : Int32)), .val (.int v183), .val (.int v185)] [(.int (10 : Int32)), (.int v200)])
        by_cases hc203 : v200 < (10 : Int32)
        · have t203 := own_lt hc203 (a := v200.toInt) (b := 10) rfl (by decide)
          refine own_by (fun t k => XS.icmpYes X196.here hx rfl (pc0 := 170) (pc' := 202) rfl (hb hby d1_170) rfl (tlt hc203).1 (by decide) (by decide) k) ?_
          show ORun p e below s _ _ _ T196 (mkF m 202 #[.val (.long q1), .second, .val (.ref a1), .val (.int p3), .val (.int v192), .val (.long v133), .second, .val (.int v200), .unset, .val (.int v183), .val (.int (4 : Int32)), .val (.int v183), .val (.int v185)] [])
          have f1_204 : 1 ≤ qk197 := by omega
          refine own_by (fun t k => XS.aloadN X196.here hx rfl (hb hby d1_202) rfl rfl k) ?_
          show ORun p e below s _ _ _ T196 (mkF m 203 #[.val (.long q1), .second, .val (.ref a1), .val (.int p3), .val (.int v192), .val (.long v133), .second, .val (.int v200), .unset, .val (.int v183), .val (.int (4 : Int32)), .val (.int v183), .val (.int v185)] [(.ref a1)])
          refine own_by (fun t k => XS.iinc X196.here hx rfl (hb hby d1_203) rfl (l' := #[.val (.long q1), .second, .val (.ref a1), .val (.int p3), .val (.int (v192 + (-1 : Int32))), .val (.long v133), .second, .val (.int v200), .unset, .val (.int v183), .val (.int (4 : Int32)), .val (.int v183), .val (.int v185)]) rfl k) (own_letI (f := (fun z => (mkF m 206 #[.val (.long q1), .second, .val (.ref a1), .val (.int p3), .val (.int z), .val (.long v133), .second, .val (.int v200), .unset, .val (.int v183), .val (.int (4 : Int32)), .val (.int v183), .val (.int v185)] [(.ref a1)]))) (v192 + (-1 : Int32)) fun v205 hv205 => ?_)
          show ORun p e below s _ _ _ T196 (mkF m 206 #[.val (.long q1), .second, .val (.ref a1), .val (.int p3), .val (.int v205), .val (.long v133), .second, .val (.int v200), .unset, .val (.int v183), .val (.int (4 : Int32)), .val (.int v183), .val (.int v185)] [(.ref a1)])
          have r205 := rng32 v205
          have a205 : v205.toInt = v192.toInt + (-1) := by have q : (v205.toInt - (v192.toInt + (-1))) % 4294967296 = 0 := (by rw [hv205]; exact c_iadd v192 (-1 : Int32)); omega
          refine own_by (fun t k => XS.iload X196.here hx rfl (hb hby d1_206) rfl k) ?_
          show ORun p e below s _ _ _ T196 (mkF m 208 #[.val (.long q1), .second, .val (.ref a1), .val (.int p3), .val (.int v205), .val (.long v133), .second, .val (.int v200), .unset, .val (.int v183), .val (.int (4 : Int32)), .val (.int v183), .val (.int v185)] [(.int v205), (.ref a1)])
          refine own_by (fun t k => XS.bipush X196.here hx rfl (hb hby d1_208) k) ?_
          show ORun p e below s _ _ _ T196 (mkF m 210 #[.val (.long q1), .second, .val (.ref a1), .val (.int p3), .val (.int v205), .val (.long v133), .second, .val (.int v200), .unset, .val (.int v183), .val (.int (4 : Int32)), .val (.int v183), .val (.int v185)] [(.int (48 : Int32)), (.int v205), (.ref a1)])
          refine own_by (fun t k => XS.iload X196.here hx rfl (hb hby d1_210) rfl k) ?_
          show ORun p e below s _ _ _ T196 (mkF m 212 #[.val (.long q1), .second, .val (.ref a1), .val (.int p3), .val (.int v205), .val (.long v133), .second, .val (.int v200), .unset, .val (.int v183), .val (.int (4 : Int32)), .val (.int v183), .val (.int v185)] [(.int v200), (.int (48 : Int32)), (.int v205), (.ref a1)])
          refine own_by (fun t k => XS.iadd X196.here hx rfl (hb hby d1_212) rfl k) (own_letI (f := (fun z => (mkF m 213 #[.val (.long q1), .second, .val (.ref a1), .val (.int p3), .val (.int v205), .val (.long v133), .second, .val (.int v200), .unset, .val (.int v183), .val (.int (4 : Int32)), .val (.int v183), .val (.int v185)] [(.int z), (.int v205), (.ref a1)]))) ((48 : Int32) + v200) fun v206 hv206 => ?_)
          show ORun p e below s _ _ _ T196 (mkF m 213 #[.val (.long q1), .second, .val (.ref a1), .val (.int p3), .val (.int v205), .val (.long v133), .second, .val (.int v200), .unset, .val (.int v183), .val (.int (4 : Int32)), .val (.int v183), .val (.int v185)] [(.int v206), (.int v205), (.ref a1)])
          have r206 := rng32 v206
          have a206 : v206.toInt = 48 + v200.toInt := by
            have q : (v206.toInt - (48 + v200.toInt)) % 4294967296 = 0 := by rw [hv206]; exact c_iadd (48 : Int32) v200
            omega
          refine own_by (fun t k => XS.i2b X196.here hx rfl (hb hby d1_213) rfl k) (own_letI (f := (fun z => (mkF m 214 #[.val (.long q1), .second, .val (.ref a1), .val (.int p3), .val (.int v205), .val (.long v133), .second, .val (.int v200), .unset, .val (.int v183), .val (.int (4 : Int32)), .val (.int v183), .val (.int v185)] [(.int z), (.int v205), (.ref a1)]))) (v206.toInt8.toInt32) fun v207 hv207 => ?_)
          show ORun p e below s _ _ _ T196 (mkF m 214 #[.val (.long q1), .second, .val (.ref a1), .val (.int p3), .val (.int v205), .val (.long v133), .second, .val (.int v200), .unset, .val (.int v183), .val (.int (4 : Int32)), .val (.int v183), .val (.int v185)] [(.int v207), (.int v205), (.ref a1)])
          have r207 := rng32 v207
          have a207 : v207.toInt = v206.toInt := by
            have q : (v207.toInt - v206.toInt) % 256 = 0 ∧ -128 ≤ v207.toInt ∧ v207.toInt < 128 := by rw [hv207]; exact c_i2b v206
            omega
          have nb208 : (nar .byte v207).toInt = v207.toInt := by have q := c_i2b v207; show v207.toInt8.toInt32.toInt = _; omega
          refine own_bastore X196 hx hZ e196 V196 (i := v205.toInt.toNat) (by omega) (by omega) (hb hby d1_214) ?_
          intro T209 h209 L209 X209 e209 W209 hL209 V209
          have len209 : L209.length = 21 := by rw [hL209, List.length_set]; exact len196
          have N209 := Fr.snoc X209 N196 g1
          show ORun p e below s _ _ _ T209 (mkF m 215 #[.val (.long q1), .second, .val (.ref a1), .val (.int p3), .val (.int v205), .val (.long v133), .second, .val (.int v200), .unset, .val (.int v183), .val (.int (4 : Int32)), .val (.int v183), .val (.int v185)] [])
          refine own_retV X209 hx hret hlk (hb hby d1_215) (by decide) (by decide) ?_
          have fin210 := Eq.trans ch197 (own_last1 (q := qk197) (w := wk197) (i := v205.toInt.toNat) (by omega) (by omega) hL209 (by omega))
          rw [e209]
          refine ⟨rfl, N209, ((((((((((Keep.refl h0 [a1]).wr W146 (Or.inl (List.mem_of_getElem? (i := 0) rfl))).wr W151 (Or.inl (List.mem_of_getElem? (i := 0) rfl))).wr W161 (Or.inl (List.mem_of_getElem? (i := 0) rfl))).wr W166 (Or.inl (List.mem_of_getElem? (i := 0) rfl))).wr W176 (Or.inl (List.mem_of_getElem? (i := 0) rfl))).wr W181 (Or.inl (List.mem_of_getElem? (i := 0) rfl))).wr W191 (Or.inl (List.mem_of_getElem? (i := 0) rfl))).wr W196 (Or.inl (List.mem_of_getElem? (i := 0) rfl))).wr W209 (Or.inl (List.mem_of_getElem? (i := 0) rfl))), ?_⟩
          rw [fin210]
          exact V209
        · have t203 := own_nlt hc203 (a := v200.toInt) (b := 10) rfl (by decide)
          refine own_by (fun t k => XS.icmpNo X196.here hx rfl (hb hby d1_170) rfl (flt hc203).1 k) ?_
          show ORun p e below s _ _ _ T196 (mkF m 173 #[.val (.long q1), .second, .val (.ref a1), .val (.int p3), .val (.int v192), .val (.long v133), .second, .val (.int v200), .unset, .val (.int v183), .val (.int (4 : Int32)), .val (.int v183), .val (.int v185)] [])
          have f2_211 := own_fit2 (q := qk197) (w := wk197) (by omega) fi197
          refine own_by (fun t k => XS.aloadN X196.here hx rfl (hb hby d1_173) rfl rfl k) ?_
          show ORun p e below s _ _ _ T196 (mkF m 174 #[.val (.long q1), .second, .val (.ref a1), .val (.int p3), .val (.int v192), .val (.long v133), .second, .val (.int v200), .unset, .val (.int v183), .val (.int (4 : Int32)), .val (.int v183), .val (.int v185)] [(.ref a1)])
          refine own_by (fun t k => XS.iinc X196.here hx rfl (hb hby d1_174) rfl (l' := #[.val (.long q1), .second, .val (.ref a1), .val (.int p3), .val (.int (v192 + (-1 : Int32))), .val (.long v133), .second, .val (.int v200), .unset, .val (.int v183), .val (.int (4 : Int32)), .val (.int v183), .val (.int v185)]) rfl k) (own_letI (f := (fun z => (mkF m 177 #[.val (.long q1), .second, .val (.ref a1), .val (.int p3), .val (.int z), .val (.long v133), .second, .val (.int v200), .unset, .val (.int v183), .val (.int (4 : Int32)), .val (.int v183), .val (.int v185)] [(.ref a1)]))) (v192 + (-1 : Int32)) fun v212 hv212 => ?_)
          show ORun p e below s _ _ _ T196 (mkF m 177 #[.val (.long q1), .second, .val (.ref a1), .val (.int p3), .val (.int v212), .val (.long v133), .second, .val (.int v200), .unset, .val (.int v183), .val (.int (4 : Int32)), .val (.int v183), .val (.int v185)] [(.ref a1)])
          have r212 := rng32 v212
          have a212 : v212.toInt = v192.toInt + (-1) := by have q : (v212.toInt - (v192.toInt + (-1))) % 4294967296 = 0 := (by rw [hv212]; exact c_iadd v192 (-1 : Int32)); omega
          refine own_by (fun t k => XS.iload X196.here hx rfl (hb hby d1_177) rfl k) ?_
          show ORun p e below s _ _ _ T196 (mkF m 179 #[.val (.long q1), .second, .val (.ref a1), .val (.int p3), .val (.int v212), .val (.long v133), .second, .val (.int v200), .unset, .val (.int v183), .val (.int (4 : Int32)), .val (.int v183), .val (.int v185)] [(.int v212), (.ref a1)])
          obtain ⟨T213, X213, e213, st213⟩ := getS2 X196 hx hZ hown (host := "") (Or.inl (hw _ (List.mem_of_getElem? (i := 31) rfl))) Via.refl e196 ((((((((S1.wr W146).wr W151).wr W161).wr W166).wr W176).wr W181).wr W191).wr W196) (g := (mkF m 179 #[.val (.long q1), .second, .val (.ref a1), .val (.int p3), .val (.int v212), .val (.long v133), .second, .val (.int v200), .unset, .val (.int v183), .val (.int (4 : Int32)), .val (.int v183), .val (.int v185)] [(.int v212), (.ref a1)])) rfl (hb hby d1_179)
          refine own_by st213 ?_
          show ORun p e below s _ _ _ T213 (mkF m 182 #[.val (.long q1), .second, .val (.ref a1), .val (.int p3), .val (.int v212), .val (.long v133), .second, .val (.int v200), .unset, .val (.int v183), .val (.int (4 : Int32)), .val (.int v183), .val (.int v185)] [(.ref d1), (.int v212), (.ref a1)])
          refine own_by (fun t k => XS.iload X213.here hx rfl (hb hby d1_182) rfl k) ?_
          show ORun p e below s _ _ _ T213 (mkF m 184 #[.val (.long q1), .second, .val (.ref a1), .val (.int p3), .val (.int v212), .val (.long v133), .second, .val (.int v200), .unset, .val (.int v183), .val (.int (4 : Int32)), .val (.int v183), .val (.int v185)] [(.int v200), (.ref d1), (.int v212), (.ref a1)])
          refine own_baload X213 hx hZ e213 ((((((((V1.other W146 ne_d1).other W151 ne_d1).other W161 ne_d1).other W166 ne_d1).other W176 ne_d1).other W181 ne_d1).other W191 ne_d1).other W196 ne_d1) (i := v200.toInt.toNat) (by omega) (by omega) (hb hby d1_184) ?_
          intro v214 hv214
          have r214 := rng32 v214
          show ORun p e below s _ _ _ T213 (mkF m 185 #[.val (.long q1), .second, .val (.ref a1), .val (.int p3), .val (.int v212), .val (.long v133), .second, .val (.int v200), .unset, .val (.int v183), .val (.int (4 : Int32)), .val (.int v183), .val (.int v185)] [(.int v214), (.int v212), (.ref a1)])
          have f215 := hO1 v200.toInt.toNat (by omega)
          rw [← hv214] at f215
          have nb215 : (nar .byte v214).toInt = v214.toInt := by have q := c_i2b v214; show v214.toInt8.toInt32.toInt = _; omega
          refine own_bastore X213 hx hZ e213 V196 (i := v212.toInt.toNat) (by omega) (by omega) (hb hby d1_185) ?_
          intro T216 h216 L216 X216 e216 W216 hL216 V216
          have len216 : L216.length = 21 := by rw [hL216, List.length_set]; exact len196
          have N216 := Fr.snoc X216 N196 g1
          show ORun p e below s _ _ _ T216 (mkF m 186 #[.val (.long q1), .second, .val (.ref a1), .val (.int p3), .val (.int v212), .val (.long v133), .second, .val (.int v200), .unset, .val (.int v183), .val (.int (4 : Int32)), .val (.int v183), .val (.int v185)] [])
          refine own_by (fun t k => XS.aloadN X216.here hx rfl (hb hby d1_186) rfl rfl k) ?_
          show ORun p e below s _ _ _ T216 (mkF m 187 #[.val (.long q1), .second, .val (.ref a1), .val (.int p3), .val (.int v212), .val (.long v133), .second, .val (.int v200), .unset, .val (.int v183), .val (.int (4 : Int32)), .val (.int v183), .val (.int v185)] [(.ref a1)])
          refine own_by (fun t k => XS.iinc X216.here hx rfl (hb hby d1_187) rfl (l' := #[.val (.long q1), .second, .val (.ref a1), .val (.int p3), .val (.int (v212 + (-1 : Int32))), .val (.long v133), .second, .val (.int v200), .unset, .val (.int v183), .val (.int (4 : Int32)), .val (.int v183), .val (.int v185)]) rfl k) (own_letI (f := (fun z => (mkF m 190 #[.val (.long q1), .second, .val (.ref a1), .val (.int p3), .val (.int z), .val (.long v133), .second, .val (.int v200), .unset, .val (.int v183), .val (.int (4 : Int32)), .val (.int v183), .val (.int v185)] [(.ref a1)]))) (v212 + (-1 : Int32)) fun v217 hv217 => ?_)
          show ORun p e below s _ _ _ T216 (mkF m 190 #[.val (.long q1), .second, .val (.ref a1), .val (.int p3), .val (.int v217), .val (.long v133), .second, .val (.int v200), .unset, .val (.int v183), .val (.int (4 : Int32)), .val (.int v183), .val (.int v185)] [(.ref a1)])
          have r217 := rng32 v217
          have a217 : v217.toInt = v212.toInt + (-1) := by have q : (v217.toInt - (v212.toInt + (-1))) % 4294967296 = 0 := (by rw [hv217]; exact c_iadd v212 (-1 : Int32)); omega
          refine own_by (fun t k => XS.iload X216.here hx rfl (hb hby d1_190) rfl k) ?_
          show ORun p e below s _ _ _ T216 (mkF m 192 #[.val (.long q1), .second, .val (.ref a1), .val (.int p3), .val (.int v217), .val (.long v133), .second, .val (.int v200), .unset, .val (.int v183), .val (.int (4 : Int32)), .val (.int v183), .val (.int v185)] [(.int v217), (.ref a1)])
          obtain ⟨T218, X218, e218, st218⟩ := getS2 X216 hx hZ hown (host := "") (Or.inl (hw _ (List.mem_of_getElem? (i := 33) rfl))) Via.refl e216 (((((((((S2.wr W146).wr W151).wr W161).wr W166).wr W176).wr W181).wr W191).wr W196).wr W216) (g := (mkF m 192 #[.val (.long q1), .second, .val (.ref a1), .val (.int p3), .val (.int v217), .val (.long v133), .second, .val (.int v200), .unset, .val (.int v183), .val (.int (4 : Int32)), .val (.int v183), .val (.int v185)] [(.int v217), (.ref a1)])) rfl (hb hby d1_192)
          refine own_by st218 ?_
          show ORun p e below s _ _ _ T218 (mkF m 195 #[.val (.long q1), .second, .val (.ref a1), .val (.int p3), .val (.int v217), .val (.long v133), .second, .val (.int v200), .unset, .val (.int v183), .val (.int (4 : Int32)), .val (.int v183), .val (.int v185)] [(.ref d2), (.int v217), (.ref a1)])
          refine own_by (fun t k => XS.iload X218.here hx rfl (hb hby d1_195) rfl k) ?_
          show ORun p e below s _ _ _ T218 (mkF m 197 #[.val (.long q1), .second, .val (.ref a1), .val (.int p3), .val (.int v217), .val (.long v133), .second, .val (.int v200), .unset, .val (.int v183), .val (.int (4 : Int32)), .val (.int v183), .val (.int v185)] [(.int v200), (.ref d2), (.int v217), (.ref a1)])
          refine own_baload X218 hx hZ e218 (((((((((V2.other W146 ne_d2).other W151 ne_d2).other W161 ne_d2).other W166 ne_d2).other W176 ne_d2).other W181 ne_d2).other W191 ne_d2).other W196 ne_d2).other W216 ne_d2) (i := v200.toInt.toNat) (by omega) (by omega) (hb hby d1_197) ?_
          intro v219 hv219
          have r219 := rng32 v219
          show ORun p e below s _ _ _ T218 (mkF m 198 #[.val (.long q1), .second, .val (.ref a1), .val (.int p3), .val (.int v217), .val (.long v133), .second, .val (.int v200), .unset, .val (.int v183), .val (.int (4 : Int32)), .val (.int v183), .val (.int v185)] [(.int v219), (.int v217), (.ref a1)])
          have f220 := hT1 v200.toInt.toNat (by omega)
          rw [← hv219] at f220
          have nb220 : (nar .byte v219).toInt = v219.toInt := by have q := c_i2b v219; show v219.toInt8.toInt32.toInt = _; omega
          refine own_bastore X218 hx hZ e218 V216 (i := v217.toInt.toNat) (by omega) (by omega) (hb hby d1_198) ?_
          intro T221 h221 L221 X221 e221 W221 hL221 V221
          have len221 : L221.length = 21 := by rw [hL221, List.length_set]; exact len216
          have N221 := Fr.snoc X221 N216 g1
          show ORun p e below s _ _ _ T221 (mkF m 199 #[.val (.long q1), .second, .val (.ref a1), .val (.int p3), .val (.int v217), .val (.long v133), .second, .val (.int v200), .unset, .val (.int v183), .val (.int (4 : Int32)), .val (.int v183), .val (.int v185)] [])
          refine own_by (fun t k => XS.goto X221.here hx rfl (pc0 := 199) (pc' := 215) rfl (hb hby d1_199) (by decide) (by decide) k) ?_
          show ORun p e below s _ _ _ T221 (mkF m 215 #[.val (.long q1), .second, .val (.ref a1), .val (.int p3), .val (.int v217), .val (.long v133), .second, .val (.int v200), .unset, .val (.int v183), .val (.int (4 : Int32)), .val (.int v183), .val (.int v185)] [])
          refine own_retV X221 hx hret hlk (hb hby d1_215) (by decide) (by decide) ?_
          have fin222 := Eq.trans ch197 (own_last2 (q := qk197) (w := wk197) (i := v212.toInt.toNat) (j := v217.toInt.toNat) (by omega) (by omega) (by omega) (by omega) hL216 hL221 (by omega) (by omega))
          rw [e221]
          refine ⟨rfl, N221, (((((((((((Keep.refl h0 [a1]).wr W146 (Or.inl (List.mem_of_getElem? (i := 0) rfl))).wr W151 (Or.inl (List.mem_of_getElem? (i := 0) rfl))).wr W161 (Or.inl (List.mem_of_getElem? (i := 0) rfl))).wr W166 (Or.inl (List.mem_of_getElem? (i := 0) rfl))).wr W176 (Or.inl (List.mem_of_getElem? (i := 0) rfl))).wr W181 (Or.inl (List.mem_of_getElem? (i := 0) rfl))).wr W191 (Or.inl (List.mem_of_getElem? (i := 0) rfl))).wr W196 (Or.inl (List.mem_of_getElem? (i := 0) rfl))).wr W216 (Or.inl (List.mem_of_getElem? (i := 0) rfl))).wr W221 (Or.inl (List.mem_of_getElem? (i := 0) rfl))), ?_⟩
          rw [fin222]
          exact V221
      · have t202 := own_nlt hc202 (a := v200.toInt) (b := 100) rfl (by decide)
        refine own_by (fun t k => XS.icmpNo X196.here hx rfl (hb hby d1_113) rfl (flt hc202).1 k) ?_
        show ORun p e below s _ _ _ T196 (mkF m 116 #[.val (.long q1), .second, .val (.ref a1), .val (.int p3), .val (.int v192), .val (.long v133), .second, .val (.int v200), .unset, .val (.int v183), .val (.int (4 : Int32)), .val (.int v183), .val (.int v185)] [])
        refine own_by (fun t k => XS.iload X196.here hx rfl (hb hby d1_116) rfl k) ?_
        show ORun p e below s _ _ _ T196 (mkF m 118 #[.val (.long q1), .second, .val (.ref a1), .val (.int p3), .val (.int v192), .val (.long v133), .second, .val (.int v200), .unset, .val (.int v183), .val (.int (4 : Int32)), .val (.int v183), .val (.int v185)] [(.int v200)])
        refine own_by (fun t k => XS.bipush X196.here hx rfl (hb hby d1_118) k) ?_
        show ORun p e below s _ _ _ T196 (mkF m 120 #[.val (.long q1), .second, .val (.ref a1), .val (.int p3), .val (.int v192), .val (.long v133), .second, .val (.int v200), .unset, .val (.int v183), .val (.int (4 : Int32)), .val (.int v183), .val (.int v185)] [(.int (100 : Int32)), (.int v200)])
        refine own_by (fun t k => XS.idiv X196.here hx rfl (hb hby d1_120) rfl (by decide) k) (own_letI (f := (fun z => (mkF m 121 #[.val (.long q1), .second, .val (.ref a1), .val (.int p3), .val (.int v192), .val (.long v133), .second, .val (.int v200), .unset, .val (.int v183), .val (.int (4 : Int32)), .val (.int v183), .val (.int v185)] [(.int z)]))) (v200 / (100 : Int32)) fun v223 hv223 => ?_)
        show ORun p e below s _ _ _ T196 (mkF m 121 #[.val (.long q1), .second, .val (.ref a1), .val (.int p3), .val (.int v192), .val (.long v133), .second, .val (.int v200), .unset, .val (.int v183), .val (.int (4 : Int32)), .val (.int v183), .val (.int v185)] [(.int v223)])
        have r223 := rng32 v223
        have a223 : v223.toInt = v200.toInt / 100 := by
          have q : (0 ≤ v200.toInt → v223.toInt = v200.toInt / 100) ∧ (v200.toInt < 0 → v223.toInt = -((-v200.toInt) / 100)) := by rw [hv223]; exact c_idiv v200 (100 : Int32) 100 (by decide) (by decide)
          omega
        refine own_by (fun t k => XS.istore X196.here hx rfl (hb hby d1_121) rfl (l' := #[.val (.long q1), .second, .val (.ref a1), .val (.int p3), .val (.int v192), .val (.long v133), .second, .val (.int v200), .val (.int v223), .val (.int v183), .val (.int (4 : Int32)), .val (.int v183), .val (.int v185)]) rfl k) ?_
        show ORun p e below s _ _ _ T196 (mkF m 123 #[.val (.long q1), .second, .val (.ref a1), .val (.int p3), .val (.int v192), .val (.long v133), .second, .val (.int v200), .val (.int v223), .val (.int v183), .val (.int (4 : Int32)), .val (.int v183), .val (.int v185)] [])
        refine own_by (fun t k => XS.iload X196.here hx rfl (hb hby d1_123) rfl k) ?_
        show ORun p e below s _ _ _ T196 (mkF m 125 #[.val (.long q1), .second, .val (.ref a1), .val (.int p3), .val (.int v192), .val (.long v133), .second, .val (.int v200), .val (.int v223), .val (.int v183), .val (.int (4 : Int32)), .val (.int v183), .val (.int v185)] [(.int v200)])
        refine own_by (fun t k => XS.bipush X196.here hx rfl (hb hby d1_125) k) ?_
        show ORun p e below s _ _ _ T196 (mkF m 127 #[.val (.long q1), .second, .val (.ref a1), .val (.int p3), .val (.int v192), .val (.long v133), .second, .val (.int v200), .val (.int v223), .val (.int v183), .val (.int (4 : Int32)), .val (.int v183), .val (.int v185)] [(.int (100 : Int32)), (.int v200)])
        refine own_by (fun t k => XS.iload X196.here hx rfl (hb hby d1_127) rfl k) ?_
        show ORun p e below s _ _ _ T196 (mkF m 129 #[.val (.long q1), .second, .val (.ref a1), .val (.int p3), .val (.int v192), .val (.long v133), .second, .val (.int v200), .val (.int v223), .val (.int v183), .val (.int (4 : Int32)), .val (.int v183), .val (.int v185)] [(.int v223), (.int (100 : Int32)), (.int v200)])
        refine own_by (fun t k => XS.imul X196.here hx rfl (hb hby d1_129) rfl k) (own_letI (f := (fun z => (mkF m 130 #[.val (.long q1), .second, .val (.ref a1), .val (.int p3), .val (.int v192), .val (.long v133), .second, .val (.int v200), .val (.int v223), .val (.int v183), .val (.int (4 : Int32)), .val (.int v183), .val (.int v185)] [(.int z), (.int v200)]))) ((100 : Int32) * v223) fun v224 hv224 => ?_)
        show ORun p e below s _ _ _ T196 (mkF m 130 #[.val (.long q1), .second, .val (.ref a1), .val (.int p3), .val (.int v192), .val (.long v133), .second, .val (.int v200), .val (.int v223), .val (.int v183), .val (.int (4 : Int32)), .val (.int v183), .val (.int v185)] [(.int v224), (.int v200)])
        have r224 := rng32 v224
        have a224 : v224.toInt = 100 * v223.toInt := by
          have q : (v224.toInt - (100 * v223.toInt)) % 4294967296 = 0 := by rw [hv224]; exact c_imul (100 : Int32) v223
          omega
        refine own_by (fun t k => XS.isub X196.here hx rfl (hb hby d1_130) rfl k) (own_letI (f := (fun z => (mkF m 131 #[.val (.long q1), .second, .val (.ref a1), .val (.int p3), .val (.int v192), .val (.long v133), .second, .val (.int v200), .val (.int v223), .val (.int v183), .val (.int (4 : Int32)), .val (.int v183), .val (.int v185)] [(.int z)]))) (v200 - v224) fun v225 hv225 => ?_)
        show ORun p e below s _ _ _ T196 (mkF m 131 #[.val (.long q1), .second, .val (.ref a1), .val (.int p3), .val (.int v192), .val (.long v133), .second, .val (.int v200), .val (.int v223), .val (.int v183), .val (.int (4 : Int32)), .val (.int v183), .val (.int v185)] [(.int v225)])
        have r225 := rng32 v225
        have a225 : v225.toInt = v200.toInt - v224.toInt := by
          have q : (v225.toInt - (v200.toInt - v224.toInt)) % 4294967296 = 0 := by rw [hv225]; exact c_isub v200 v224
          omega
        refine own_by (fun t k => XS.istore X196.here hx rfl (hb hby d1_131) rfl (l' := #[.val (.long q1), .second, .val (.ref a1), .val (.int p3), .val (.int v192), .val (.long v133), .second, .val (.int v200), .val (.int v223), .val (.int v225), .val (.int (4 : Int32)), .val (.int v183), .val (.int v185)]) rfl k) ?_
        show ORun p e below s _ _ _ T196 (mkF m 133 #[.val (.long q1), .second, .val (.ref a1), .val (.int p3), .val (.int v192), .val (.long v133), .second, .val (.int v200), .val (.int v223), .val (.int v225), .val (.int (4 : Int32)), .val (.int v183), .val (.int v185)] [])
        have f3_226 := own_fit3 (q := qk197) (w := wk197) (by omega) fi197
        refine own_by (fun t k => XS.aloadN X196.here hx rfl (hb hby d1_133) rfl rfl k) ?_
        show ORun p e below s _ _ _ T196 (mkF m 134 #[.val (.long q1), .second, .val (.ref a1), .val (.int p3), .val (.int v192), .val (.long v133), .second, .val (.int v200), .val (.int v223), .val (.int v225), .val (.int (4 : Int32)), .val (.int v183), .val (.int v185)] [(.ref a1)])
        refine own_by (fun t k => XS.iinc X196.here hx rfl (hb hby d1_134) rfl (l' := #[.val (.long q1), .second, .val (.ref a1), .val (.int p3), .val (.int (v192 + (-1 : Int32))), .val (.long v133), .second, .val (.int v200), .val (.int v223), .val (.int v225), .val (.int (4 : Int32)), .val (.int v183), .val (.int v185)]) rfl k) (own_letI (f := (fun z => (mkF m 137 #[.val (.long q1), .second, .val (.ref a1), .val (.int p3), .val (.int z), .val (.long v133), .second, .val (.int v200), .val (.int v223), .val (.int v225), .val (.int (4 : Int32)), .val (.int v183), .val (.int v185)] [(.ref a1)]))) (v192 + (-1 : Int32)) fun v227 hv227 => ?_)
        show ORun p e below s _ _ _ T196 (mkF m 137 #[.val (.long q1), .second, .val (.ref a1), .val (.int p3), .val (.int v227), .val (.long v133), .second, .val (.int v200), .val (.int v223), .val (.int v225), .val (.int (4 : Int32)), .val (.int v183), .val (.int v185)] [(.ref a1)])
        have r227 := rng32 v227
        have a227 : v227.toInt = v192.toInt + (-1) := by have q : (v227.toInt - (v192.toInt + (-1))) % 4294967296 = 0 := (by rw [hv227]; exact c_iadd v192 (-1 : Int32)); omega
        refine own_by (fun t k => XS.iload X196.here hx rfl (hb hby d1_137) rfl k) ?_
        show ORun p e below s _ _ _ T196 (mkF m 139 #[.val (.long q1), .second, .val (.ref a1), .val (.int p3), .val (.int v227), .val (.long v133), .second, .val (.int v200), .val (.int v223), .val (.int v225), .val (.int (4 : Int32)), .val (.int v183), .val (.int v185)] [(.int v227), (.ref a1)])
        obtain ⟨T228, X228, e228, st228⟩ := getS2 X196 hx hZ hown (host := "") (Or.inl (hw _ (List.mem_of_getElem? (i := 31) rfl))) Via.refl e196 ((((((((S1.wr W146).wr W151).wr W161).wr W166).wr W176).wr W181).wr W191).wr W196) (g := (mkF m 139 #[.val (.long q1), .second, .val (.ref a1), .val (.int p3), .val (.int v227), .val (.long v133), .second, .val (.int v200), .val (.int v223), .val (.int v225), .val (.int (4 : Int32)), .val (.int v183), .val (.int v185)] [(.int v227), (.ref a1)])) rfl (hb hby d1_139)
        refine own_by st228 ?_
        show ORun p e below s _ _ _ T228 (mkF m 142 #[.val (.long q1), .second, .val (.ref a1), .val (.int p3), .val (.int v227), .val (.long v133), .second, .val (.int v200), .val (.int v223), .val (.int v225), .val (.int (4 : Int32)), .val (.int v183), .val (.int v185)] [(.ref d1), (.int v227), (.ref a1)])
        refine own_by (fun t k => XS.iload X228.here hx rfl (hb hby d1_142) rfl k) ?_
        show ORun p e below s _ _ _ T228 (mkF m 144 #[.val (.long q1), .second, .val (.ref a1), .val (.int p3), .val (.int v227), .val (.long v133), .second, .val (.int v200), .val (.int v223), .val (.int v225), .val (.int (4 : Int32)), .val (.int v183), .val (.int v185)] [(.int v225), (.ref d1), (.int v227), (.ref a1)])
        refine own_baload X228 hx hZ e228 ((((((((V1.other W146 ne_d1).other W151 ne_d1).other W161 ne_d1).other W166 ne_d1).other W176 ne_d1).other W181 ne_d1).other W191 ne_d1).other W196 ne_d1) (i := v225.toInt.toNat) (by omega) (by omega) (hb hby d1_144) ?_
        intro v229 hv229
        have r229 := rng32 v229
        show ORun p e below s _ _ _ T228 (mkF m 145 #[.val (.long q1), .second, .val (.ref a1), .val (.int p3), .val (.int v227), .val (.long v133), .second, .val (.int v200), .val (.int v223), .val (.int v225), .val (.int (4 : Int32)), .val (.int v183), .val (.int v185)] [(.int v229), (.int v227), (.ref a1)])
        have f230 := hO1 v225.toInt.toNat (by omega)
        rw [← hv229] at f230
        have nb230 : (nar .byte v229).toInt = v229.toInt := by have q := c_i2b v229; show v229.toInt8.toInt32.toInt = _; omega
        refine own_bastore X228 hx hZ e228 V196 (i := v227.toInt.toNat) (by omega) (by omega) (hb hby d1_145) ?_
        intro T231 h231 L231 X231 e231 W231 hL231 V231
        have len231 : L231.length = 21 := by rw [hL231, List.length_set]; exact len196
        have N231 := Fr.snoc X231 N196 g1
        show ORun p e below s _ _ _ T231 (mkF m 146 #[.val (.long q1), .second, .val (.ref a1), .val (.int p3), .val (.int v227), .val (.long v133), .second, .val (.int v200), .val (.int v223), .val (.int v225), .val (.int (4 : Int32)), .val (.int v183), .val (.int v185)] [])
        refine own_by (fun t k => XS.aloadN X231.here hx rfl (hb hby d1_146) rfl rfl k) ?_
        show ORun p e below s _ _ _ T231 (mkF m 147 #[.val (.long q1), .second, .val (.ref a1), .val (.int p3), .val (.int v227), .val (.long v133), .second, .val (.int v200), .val (.int v223), .val (.int v225), .val (.int (4 : Int32)), .val (.int v183), .val (.int v185)] [(.ref a1)])
        refine own_by (fun t k => XS.iinc X231.here hx rfl (hb hby d1_147) rfl (l' := #[.val (.long q1), .second, .val (.ref a1), .val (.int p3), .val (.int (v227 + (-1 : Int32))), .val (.long v133), .second, .val (.int v200), .val (.int v223), .val (.int v225), .val (.int (4 : Int32)), .val (.int v183), .val (.int v185)]) rfl k) (own_letI (f := (fun z => (mkF m 150 #[.val (.long q1), .second, .val (.ref a1), .val (.int p3), .val (.int z), .val (.long v133), .second, .val (.int v200), .val (.int v223), .val (.int v225), .val (.int (4 : Int32)), .val (.int v183), .val (.int v185)] [(.ref a1)]))) (v227 + (-1 : Int32)) fun v232 hv232 => ?_)
        show ORun p e below s _ _ _ T231 (mkF m 150 #[.val (.long q1), .second, .val (.ref a1), .val (.int p3), .val (.int v232), .val (.long v133), .second, .val (.int v200), .val (.int v223), .val (.int v225), .val (.int (4 : Int32)), .val (.int v183), .val (.int v185)] [(.ref a1)])
        have r232 := rng32 v232
        have a232 : v232.toInt = v227.toInt + (-1) := by have q : (v232.toInt - (v227.toInt + (-1))) % 4294967296 = 0 := (by rw [hv232]; exact c_iadd v227 (-1 : Int32)); omega
        refine own_by (fun t k => XS.iload X231.here hx rfl (hb hby d1_150) rfl k) ?_
        show ORun p e below s _ _ _ T231 (mkF m 152 #[.val (.long q1), .second, .val (.ref a1), .val (.int p3), .val (.int v232), .val (.long v133), .second, .val (.int v200), .val (.int v223), .val (.int v225), .val (.int (4 : Int32)), .val (.int v183), .val (.int v185)] [(.int v232), (.ref a1)])
        obtain ⟨T233, X233, e233, st233⟩ := getS2 X231 hx hZ hown (host := "") (Or.inl (hw _ (List.mem_of_getElem? (i := 33) rfl))) Via.refl e231 (((((((((S2.wr W146).wr W151).wr W161).wr W166).wr W176).wr W181).wr W191).wr W196).wr W231) (g := (mkF m 152 #[.val (.long q1), .second, .val (.ref a1), .val (.int p3), .val (.int v232), .val (.long v133), .second, .val (.int v200), .val (.int v223), .val (.int v225), .val (.int (4 : Int32)), .val (.int v183), .val (.int v185)] [(.int v232), (.ref a1)])) rfl (hb hby d1_152)
        refine own_by st233 ?_
        show ORun p e below s _ _ _ T233 (mkF m 155 #[.val (.long q1), .second, .val (.ref a1), .val (.int p3), .val (.int v232), .val (.long v133), .second, .val (.int v200), .val (.int v223), .val (.int v225), .val (.int (4 : Int32)), .val (.int v183), .val (.int v185)] [(.ref d2), (.int v232), (.ref a1)])
        refine own_by (fun t k => XS.iload X233.here hx rfl (hb hby d1_155) rfl k) ?_
        show ORun p e below s _ _ _ T233 (mkF m 157 #[.val (.long q1), .second, .val (.ref a1), .val (.int p3), .val (.int v232), .val (.long v133), .second, .val (.int v200), .val (.int v223), .val (.int v225), .val (.int (4 : Int32)), .val (.int v183), .val (.int v185)] [(.int v225), (.ref d2), (.int v232), (.ref a1)])
        refine own_baload X233 hx hZ e233 (((((((((V2.other W146 ne_d2).other W151 ne_d2).other W161 ne_d2).other W166 ne_d2).other W176 ne_d2).other W181 ne_d2).other W191 ne_d2).other W196 ne_d2).other W231 ne_d2) (i := v225.toInt.toNat) (by omega) (by omega) (hb hby d1_157) ?_
        intro v234 hv234
        have r234 := rng32 v234
        show ORun p e below s _ _ _ T233 (mkF m 158 #[.val (.long q1), .second, .val (.ref a1), .val (.int p3), .val (.int v232), .val (.long v133), .second, .val (.int v200), .val (.int v223), .val (.int v225), .val (.int (4 : Int32)), .val (.int v183), .val (.int v185)] [(.int v234), (.int v232), (.ref a1)])
        have f235 := hT1 v225.toInt.toNat (by omega)
        rw [← hv234] at f235
        have nb235 : (nar .byte v234).toInt = v234.toInt := by have q := c_i2b v234; show v234.toInt8.toInt32.toInt = _; omega
        refine own_bastore X233 hx hZ e233 V231 (i := v232.toInt.toNat) (by omega) (by omega) (hb hby d1_158) ?_
        intro T236 h236 L236 X236 e236 W236 hL236 V236
        have len236 : L236.length = 21 := by rw [hL236, List.length_set]; exact len231
        have N236 := Fr.snoc X236 N231 g1
        show ORun p e below s _ _ _ T236 (mkF m 159 #[.val (.long q1), .second, .val (.ref a1), .val (.int p3), .val (.int v232), .val (.long v133), .second, .val (.int v200), .val (.int v223), .val (.int v225), .val (.int (4 : Int32)), .val (.int v183), .val (.int v185)] [])
        have pk237 := own_pair (q := qk197) (w := wk197) (i := v227.toInt.toNat) (j := v232.toInt.toNat) (by omega) fi197 (by omega) (by omega) hL231 hL236 (by omega) (by omega)
        obtain ⟨wk237, hwk237⟩ : ∃ w, w = wk197 / 100 := ⟨_, rfl⟩
        obtain ⟨qk237, hqk237⟩ : ∃ q, q = v232.toInt.toNat := ⟨_, rfl⟩
        rw [← hwk237, ← hqk237] at pk237
        obtain ⟨pe237, fi237⟩ := pk237
        have ch237 := Eq.trans ch197 pe237
        have at237 : v232.toInt = (qk237 : Int) := by omega
        have qb237 : 1 ≤ qk237 ∧ qk237 ≤ 20 := by omega
        have lo237 : v223.toInt = (wk237 : Int) := by omega
        have bw237 : wk237 < 1000000 := by omega
        clear t202 a223 r223 a224 r224 a225 r225 f3_226 a227 r227 r229 f230 nb230 a232 r232 r234 f235 nb235 at197 qb197 lo197 bw197 hh198 hb198 in201 ib201 len196 len231 fi197 hwk237 hqk237
        refine own_by (fun t k => XS.iload X236.here hx rfl (hb hby d1_159) rfl k) ?_
        show ORun p e below s _ _ _ T236 (mkF m 161 #[.val (.long q1), .second, .val (.ref a1), .val (.int p3), .val (.int v232), .val (.long v133), .second, .val (.int v200), .val (.int v223), .val (.int v225), .val (.int (4 : Int32)), .val (.int v183), .val (.int v185)] [(.int v223)])
        refine own_by (fun t k => XS.istore X236.here hx rfl (hb hby d1_161) rfl (l' := #[.val (.long q1), .second, .val (.ref a1), .val (.int p3), .val (.int v232), .val (.long v133), .second, .val (.int v223), .val (.int v223), .val (.int v225), .val (.int (4 : Int32)), .val (.int v183), .val (.int v185)]) rfl k) ?_
        show ORun p e below s _ _ _ T236 (mkF m 163 #[.val (.long q1), .second, .val (.ref a1), .val (.int p3), .val (.int v232), .val (.long v133), .second, .val (.int v223), .val (.int v223), .val (.int v225), .val (.int (4 : Int32)), .val (.int v183), .val (.int v185)] [])
        refine own_by (fun t k => XS.goto X236.here hx rfl (pc0 := 163) (pc' := 109) rfl (hb hby d1_163) (by decide) (by decide) k) ?_
        show ORun p e below s _ _ _ T236 (mkF m 109 #[.val (.long q1), .second, .val (.ref a1), .val (.int p3), .val (.int v232), .val (.long v133), .second, .val (.int v223), .val (.int v223), .val (.int v225), .val (.int (4 : Int32)), .val (.int v183), .val (.int v185)] [])
        refine own_by (fun t k => XS.iload X236.here hx rfl (hb hby d1_109) rfl k) ?_
        show ORun p e below s _ _ _ T236 (mkF m 111 #[.val (.long q1), .second, .val (.ref a1), .val (.int p3), .val (.int v232), .val (.long v133), .second, .val (.int v223), .val (.int v223), .val (.int v225), .val (.int (4 : Int32)), .val (.int v183), .val (.int v185)] [(.int v223)])
        refine own_by (fun t k => XS.bipush X236.here hx rfl (hb hby d1_111) k) ?_
        show ORun p e below s _ _ _ T236 (mkF m 113 #[.val (.long q1), .second, .val (.ref a1), .val (.int p3), .val (.int v232), .val (.long v133), .second, .val (.int v223), .val (.int v223), .val (.int v225), .val (.int (4 : Int32)), .val (.int v183), .val (.int v185)] [(.int (100 : Int32)), (.int v223)])
        by_cases hc238 : v223 < (100 : Int32)
        · have t238 := own_lt hc238 (a := v223.toInt) (b := 100) rfl (by decide)
          refine own_by (fun t k => XS.icmpYes X236.here hx rfl (pc0 := 113) (pc' := 166) rfl (hb hby d1_113) rfl (tlt hc238).1 (by decide) (by decide) k) ?_
          show ORun p e below s _ _ _ T236 (mkF m 166 #[.val (.long q1), .second, .val (.ref a1), .val (.int p3), .val (.int v232), .val (.long v133), .second, .val (.int v223), .val (.int v223), .val (.int v225), .val (.int (4 : Int32)), .val (.int v183), .val (.int v185)] [])
          refine own_by (fun t k => XS.iload X236.here hx rfl (hb hby d1_166) rfl k) ?_
          show ORun p e below s _ _ _ T236 (mkF m 168 #[.val (.long q1), .second, .val (.ref a1), .val (.int p3), .val (.int v232), .val (.long v133), .second, .val (.int v223), .val (.int v223), .val (.int v225), .val (.int (4 : Int32)), .val (.int v183), .val (.int v185)] [(.int v223)])
          refine own_by (fun t k => XS.bipush X236.here hx rfl (hb hby d1_168) k) ?_
          show ORun p e below s _ _ _ T236 (mkF m 170 #[.val (.long q1), .second, .val (.ref a1), .val (.int p3), .val (.int v232), .val (.long v133), .second, .val (.int v223), .val (.int v223), .val (.int v225), .val (.int (4 : Int32)), .val (.int v183), .val (.int v185)] [(.int (10 : Int32)), (.int v223)])
          by_cases hc239 : v223 < (10 : Int32)
          · have t239 := own_lt hc239 (a := v223.toInt) (b := 10) rfl (by decide)
            refine own_by (fun t k => XS.icmpYes X236.here hx rfl (pc0 := 170) (pc' := 202) rfl (hb hby d1_170) rfl (tlt hc239).1 (by decide) (by decide) k) ?_
            show ORun p e below s _ _ _ T236 (mkF m 202 #[.val (.long q1), .second, .val (.ref a1), .val (.int p3), .val (.int v232), .val (.long v133), .second, .val (.int v223), .val (.int v223), .val (.int v225), .val (.int (4 : Int32)), .val (.int v183), .val (.int v185)] [])
            have f1_240 : 1 ≤ qk237 := by omega
            refine own_by (fun t k => XS.aloadN X236.here hx rfl (hb hby d1_202) rfl rfl k) ?_
            show ORun p e below s _ _ _ T236 (mkF m 203 #[.val (.long q1), .second, .val (.ref a1), .val (.int p3), .val (.int v232), .val (.long v133), .second, .val (.int v223), .val (.int v223), .val (.int v225), .val (.int (4 : Int32)), .val (.int v183), .val (.int v185)] [(.ref a1)])
            refine own_by (fun t k => XS.iinc X236.here hx rfl (hb hby d1_203) rfl (l' := #[.val (.long q1), .second, .val (.ref a1), .val (.int p3), .val (.int (v232 + (-1 : Int32))), .val (.long v133), .second, .val (.int v223), .val (.int v223), .val (.int v225), .val (.int (4 : Int32)), .val (.int v183), .val (.int v185)]) rfl k) (own_letI (f := (fun z => (mkF m 206 #[.val (.long q1), .second, .val (.ref a1), .val (.int p3), .val (.int z), .val (.long v133), .second, .val (.int v223), .val (.int v223), .val (.int v225), .val (.int (4 : Int32)), .val (.int v183), .val (.int v185)] [(.ref a1)]))) (v232 + (-1 : Int32)) fun v241 hv241 => ?_)
            show ORun p e below s _ _ _ T236 (mkF m 206 #[.val (.long q1), .second, .val (.ref a1), .val (.int p3), .val (.int v241), .val (.long v133), .second, .val (.int v223), .val (.int v223), .val (.int v225), .val (.int (4 : Int32)), .val (.int v183), .val (.int v185)] [(.ref a1)])
            have r241 := rng32 v241
            have a241 : v241.toInt = v232.toInt + (-1) := by have q : (v241.toInt - (v232.toInt + (-1))) % 4294967296 = 0 := (by rw [hv241]; exact c_iadd v232 (-1 : Int32)); omega
            refine own_by (fun t k => XS.iload X236.here hx rfl (hb hby d1_206) rfl k) ?_
            show ORun p e below s _ _ _ T236 (mkF m 208 #[.val (.long q1), .second, .val (.ref a1), .val (.int p3), .val (.int v241), .val (.long v133), .second, .val (.int v223), .val (.int v223), .val (.int v225), .val (.int (4 : Int32)), .val (.int v183), .val (.int v185)] [(.int v241), (.ref a1)])
            refine own_by (fun t k => XS.bipush X236.here hx rfl (hb hby d1_208) k) ?_
            show ORun p e below s _ _ _ T236 (mkF m 210 #[.val (.long q1), .second, .val (.ref a1), .val (.int p3), .val (.int v241), .val (.long v133), .second, .val (.int v223), .val (.int v223), .val (.int v225), .val (.int (4 : Int32)), .val (.int v183), .val (.int v185)] [(.int (48 : Int32)), (.int v241), (.ref a1)])
            refine own_by (fun t k => XS.iload X236.here hx rfl (hb hby d1_210) rfl k) ?_
            show ORun p e below s _ _ _ T236 (mkF m 212 #[.val (.long q1), .second, .val (.ref a1), .val (.int p3), .val (.int v241), .val (.long v133), .second, .val (.int v223), .val (.int v223), .val (.int v225), .val (.int (4 : Int32)), .val (.int v183), .val (.int v185)] [(.int v223), (.int (48 : Int32)), (.int v241), (.ref a1)])
            refine own_by (fun t k => XS.iadd X236.here hx rfl (hb hby d1_212) rfl k) (own_letI (f := (fun z => (mkF m 213 #[.val (.long q1), .second, .val (.ref a1), .val (.int p3), .val (.int v241), .val (.long v133), .second, .val (.int v223), .val (.int v223), .val (.int v225), .val (.int (4 : Int32)), .val (.int v183), .val (.int v185)] [(.int z), (.int v241), (.ref a1)]))) ((48 : Int32) + v223) fun v242 hv242 => ?_)
            show ORun p e below s _ _ _ T236 (mkF m 213 #[.val (.long q1), .second, .val (.ref a1), .val (.int p3), .val (.int v241), .val (.long v133), .second, .val (.int v223), .val (.int v223), .val (.int v225), .val (.int (4 : Int32)), .val (.int v183), .val (.int v185)] [(.int v242), (.int v241), (.ref a1)])
            have r242 := rng32 v242
            have a242 : v242.toInt = 48 + v223.toInt := by
              have q : (v242.toInt - (48 + v223.toInt)) % 4294967296 = 0 := by rw [hv242]; exact c_iadd (48 : Int32) v223
              omega
            refine own_by (fun t k => XS.i2b X236.here hx rfl (hb hby d1_213) rfl k) (own_letI (f := (fun z => (mkF m 214 #[.val (.long q1), .second, .val (.ref a1), .val (.int p3), .val (.int v241), .val (.long v133), .second, .val (.int v223), .val (.int v223), .val (.int v225), .val (.int (4 : Int32)), .val (.int v183), .val (.int v185)] [(.int z), (.int v241), (.ref a1)]))) (v242.toInt8.toInt32) fun v243 hv243 => ?_)
            show ORun p e below s _ _ _ T236 (mkF m 214 #[.val (.long q1), .second, .val (.ref a1), .val (.int p3), .val (.int v241), .val (.long v133), .second, .val (.int v223), .val (.int v223), .val (.int v225), .val (.int (4 : Int32)), .val (.int v183), .val (.int v185)] [(.int v243), (.int v241), (.ref a1)])
            have r243 := rng32 v243
            have a243 : v243.toInt = v242.toInt := by
              have q : (v243.toInt - v242.toInt) % 256 = 0 ∧ -128 ≤ v243.toInt ∧ v243.toInt < 128 := by rw [hv243]; exact c_i2b v242
              omega
            have nb244 : (nar .byte v243).toInt = v243.toInt := by have q := c_i2b v243; show v243.toInt8.toInt32.toInt = _; omega
            refine own_bastore X236 hx hZ e236 V236 (i := v241.toInt.toNat) (by omega) (by omega) (hb hby d1_214) ?_
            intro T245 h245 L245 X245 e245 W245 hL245 V245
            have len245 : L245.length = 21 := by rw [hL245, List.length_set]; exact len236
            have N245 := Fr.snoc X245 N236 g1
            show ORun p e below s _ _ _ T245 (mkF m 215 #[.val (.long q1), .second, .val (.ref a1), .val (.int p3), .val (.int v241), .val (.long v133), .second, .val (.int v223), .val (.int v223), .val (.int v225), .val (.int (4 : Int32)), .val (.int v183), .val (.int v185)] [])
            refine own_retV X245 hx hret hlk (hb hby d1_215) (by decide) (by decide) ?_
            have fin246 := Eq.trans ch237 (own_last1 (q := qk237) (w := wk237) (i := v241.toInt.toNat) (by omega) (by omega) hL245 (by omega))
            rw [e245]
            refine ⟨rfl, N245, ((((((((((((Keep.refl h0 [a1]).wr W146 (Or.inl (List.mem_of_getElem? (i := 0) rfl))).wr W151 (Or.inl (List.mem_of_getElem? (i := 0) rfl))).wr W161 (Or.inl (List.mem_of_getElem? (i := 0) rfl))).wr W166 (Or.inl (List.mem_of_getElem? (i := 0) rfl))).wr W176 (Or.inl (List.mem_of_getElem? (i := 0) rfl))).wr W181 (Or.inl (List.mem_of_getElem? (i := 0) rfl))).wr W191 (Or.inl (List.mem_of_getElem? (i := 0) rfl))).wr W196 (Or.inl (List.mem_of_getElem? (i := 0) rfl))).wr W231 (Or.inl (List.mem_of_getElem? (i := 0) rfl))).wr W236 (Or.inl (List.mem_of_getElem? (i := 0) rfl))).wr W245 (Or.inl (List.mem_of_getElem? (i := 0) rfl))), ?_⟩
            rw [fin246]
            exact V245
          · have t239 := own_nlt hc239 (a := v223.toInt) (b := 10) rfl (by decide)
            refine own_by (fun t k => XS.icmpNo X236.here hx rfl (hb hby d1_170) rfl (flt hc239).1 k) ?_
            show ORun p e below s _ _ _ T236 (mkF m 173 #[.val (.long q1), .second, .val (.ref a1), .val (.int p3), .val (.int v232), .val (.long v133), .second, .val (.int v223), .val (.int v223), .val (.int v225), .val (.int (4 : Int32)), .val (.int v183), .val (.int v185)] [])
            have f2_247 := own_fit2 (q := qk237) (w := wk237) (by omega) fi237
            refine own_by (fun t k => XS.aloadN X236.here hx rfl (hb hby d1_173) rfl rfl k) ?_
            show ORun p e below s _ _ _ T236 (mkF m 174 #[.val (.long q1), .second, .val (.ref a1), .val (.int p3), .val (.int v232), .val (.long v133), .second, .val (.int v223), .val (.int v223), .val (.int v225), .val (.int (4 : Int32)), .val (.int v183), .val (.int v185)] [(.ref a1)])
            refine own_by (fun t k => XS.iinc X236.here hx rfl (hb hby d1_174) rfl (l' := #[.val (.long q1), .second, .val (.ref a1), .val (.int p3), .val (.int (v232 + (-1 : Int32))), .val (.long v133), .second, .val (.int v223), .val (.int v223), .val (.int v225), .val (.int (4 : Int32)), .val (.int v183), .val (.int v185)]) rfl k) (own_letI (f := (fun z => (mkF m 177 #[.val (.long q1), .second, .val (.ref a1), .val (.int p3), .val (.int z), .val (.long v133), .second, .val (.int v223), .val (.int v223), .val (.int v225), .val (.int (4 : Int32)), .val (.int v183), .val (.int v185)] [(.ref a1)]))) (v232 + (-1 : Int32)) fun v248 hv248 => ?_)
            show ORun p e below s _ _ _ T236 (mkF m 177 #[.val (.long q1), .second, .val (.ref a1), .val (.int p3), .val (.int v248), .val (.long v133), .second, .val (.int v223), .val (.int v223), .val (.int v225), .val (.int (4 : Int32)), .val (.int v183), .val (.int v185)] [(.ref a1)])
            have r248 := rng32 v248
            have a248 : v248.toInt = v232.toInt + (-1) := by have q : (v248.toInt - (v232.toInt + (-1))) % 4294967296 = 0 := (by rw [hv248]; exact c_iadd v232 (-1 : Int32)); omega
            refine own_by (fun t k => XS.iload X236.here hx rfl (hb hby d1_177) rfl k) ?_
            show ORun p e below s _ _ _ T236 (mkF m 179 #[.val (.long q1), .second, .val (.ref a1), .val (.int p3), .val (.int v248), .val (.long v133), .second, .val (.int v223), .val (.int v223), .val (.int v225), .val (.int (4 : Int32)), .val (.int v183), .val (.int v185)] [(.int v248), (.ref a1)])
            obtain ⟨T249, X249, e249, st249⟩ := getS2 X236 hx hZ hown (host := "") (Or.inl (hw _ (List.mem_of_getElem? (i := 31) rfl))) Via.refl e236 ((((((((((S1.wr W146).wr W151).wr W161).wr W166).wr W176).wr W181).wr W191).wr W196).wr W231).wr W236) (g := (mkF m 179 #[.val (.long q1), .second, .val (.ref a1), .val (.int p3), .val (.int v248), .val (.long v133), .second, .val (.int v223), .val (.int v223), .val (.int v225), .val (.int (4 : Int32)), .val (.int v183), .val (.int v185)] [(.int v248), (.ref a1)])) rfl (hb hby d1_179)
            refine own_by st249 ?_
            show ORun p e below s _ _ _ T249 (mkF m 182 #[.val (.long q1), .second, .val (.ref a1), .val (.int p3), .val (.int v248), .val (.long v133), .second, .val (.int v223), .val (.int v223), .val (.int v225), .val (.int (4 : Int32)), .val (.int v183), .val (.int v185)] [(.ref d1), (.int v248), (.ref a1)])
            refine own_by (fun t k => XS.iload X249.here hx rfl (hb hby d1_182) rfl k) ?_
            show ORun p e below s _ _ _ T249 (mkF m 184 #[.val (.long q1), .second, .val (.ref a1), .val (.int p3), .val (.int v248), .val (.long v133), .second, .val (.int v223), .val (.int v223), .val (.int v225), .val (.int (4 : Int32)), .val (.int v183), .val (.int v185)] [(.int v223), (.ref d1), (.int v248), (.ref a1)])
            refine own_baload X249 hx hZ e249 ((((((((((V1.other W146 ne_d1).other W151 ne_d1).other W161 ne_d1).other W166 ne_d1).other W176 ne_d1).other W181 ne_d1).other W191 ne_d1).other W196 ne_d1).other W231 ne_d1).other W236 ne_d1) (i := v223.toInt.toNat) (by omega) (by omega) (hb hby d1_184) ?_
            intro v250 hv250
            have r250 := rng32 v250
            show ORun p e below s _ _ _ T249 (mkF m 185 #[.val (.long q1), .second, .val (.ref a1), .val (.int p3), .val (.int v248), .val (.long v133), .second, .val (.int v223), .val (.int v223), .val (.int v225), .val (.int (4 : Int32)), .val (.int v183), .val (.int v185)] [(.int v250), (.int v248), (.ref a1)])
            have f251 := hO1 v223.toInt.toNat (by omega)
            rw [← hv250] at f251
            have nb251 : (nar .byte v250).toInt = v250.toInt := by have q := c_i2b v250; show v250.toInt8.toInt32.toInt = _; omega
            refine own_bastore X249 hx hZ e249 V236 (i := v248.toInt.toNat) (by omega) (by omega) (hb hby d1_185) ?_
            intro T252 h252 L252 X252 e252 W252 hL252 V252
            have len252 : L252.length = 21 := by rw [hL252, List.length_set]; exact len236
            have N252 := Fr.snoc X252 N236 g1
            show ORun p e below s _ _ _ T252 (mkF m 186 #[.val (.long q1), .second, .val (.ref a1), .val (.int p3), .val (.int v248), .val (.long v133), .second, .val (.int v223), .val (.int v223), .val (.int v225), .val (.int (4 : Int32)), .val (.int v183), .val (.int v185)] [])
            refine own_by (fun t k => XS.aloadN X252.here hx rfl (hb hby d1_186) rfl rfl k) ?_
            show ORun p e below s _ _ _ T252 (mkF m 187 #[.val (.long q1), .second, .val (.ref a1), .val (.int p3), .val (.int v248), .val (.long v133), .second, .val (.int v223), .val (.int v223), .val (.int v225), .val (.int (4 : Int32)), .val (.int v183), .val (.int v185)] [(.ref a1)])
            refine own_by (fun t k => XS.iinc X252.here hx rfl (hb hby d1_187) rfl (l' := #[.val (.long q1), .second, .val (.ref a1), .val (.int p3), .val (.int (v248 + (-1 : Int32))), .val (.long v133), .second, .val (.int v223), .val (.int v223), .val (.int v225), .val (.int (4 : Int32)), .val (.int v183), .val (.int v185)]) rfl k) (own_letI (f := (fun z => (mkF m 190 #[.val (.long q1), .second, .val (.ref a1), .val (.int p3), .val (.int z), .val (.long v133), .second, .val (.int v223), .val (.int v223), .val (.int v225), .val (.int (4 : Int32)), .val (.int v183), .val (.int v185)] [(.ref a1)]))) (v248 + (-1 : Int32)) fun v253 hv253 => ?_)
            show ORun p e below s _ _ _ T252 (mkF m 190 #[.val (.long q1), .second, .val (.ref a1), .val (.int p3), .val (.int v253), .val (.long v133), .second, .val (.int v223), .val (.int v223), .val (.int v225), .val (.int (4 : Int32)), .val (.int v183), .val (.int v185)] [(.ref a1)])
            have r253 := rng32 v253
            have a253 : v253.toInt = v248.toInt + (-1) := by have q : (v253.toInt - (v248.toInt + (-1))) % 4294967296 = 0 := (by rw [hv253]; exact c_iadd v248 (-1 : Int32)); omega
            refine own_by (fun t k => XS.iload X252.here hx rfl (hb hby d1_190) rfl k) ?_
            show ORun p e below s _ _ _ T252 (mkF m 192 #[.val (.long q1), .second, .val (.ref a1), .val (.int p3), .val (.int v253), .val (.long v133), .second, .val (.int v223), .val (.int v223), .val (.int v225), .val (.int (4 : Int32)), .val (.int v183), .val (.int v185)] [(.int v253), (.ref a1)])
            obtain ⟨T254, X254, e254, st254⟩ := getS2 X252 hx hZ hown (host := "") (Or.inl (hw _ (List.mem_of_getElem? (i := 33) rfl))) Via.refl e252 (((((((((((S2.wr W146).wr W151).wr W161).wr W166).wr W176).wr W181).wr W191).wr W196).wr W231).wr W236).wr W252) (g := (mkF m 192 #[.val (.long q1), .second, .val (.ref a1), .val (.int p3), .val (.int v253), .val (.long v133), .second, .val (.int v223), .val (.int v223), .val (.int v225), .val (.int (4 : Int32)), .val (.int v183), .val (.int v185)] [(.int v253), (.ref a1)])) rfl (hb hby d1_192)
            refine own_by st254 ?_
            show ORun p e below s _ _ _ T254 (mkF m 195 #[.val (.long q1), .second, .val (.ref a1), .val (.int p3), .val (.int v253), .val (.long v133), .second, .val (.int v223), .val (.int v223), .val (.int v225), .val (.int (4 : Int32)), .val (.int v183), .val (.int v185)] [(.ref d2), (.int v253), (.ref a1)])
            refine own_by (fun t k => XS.iload X254.here hx rfl (hb hby d1_195) rfl k) ?_
            show ORun p e below s _ _ _ T254 (mkF m 197 #[.val (.long q1), .second, .val (.ref a1), .val (.int p3), .val (.int v253), .val (.long v133), .second, .val (.int v223), .val (.int v223), .val (.int v225), .val (.int (4 : Int32)), .val (.int v183), .val (.int v185)] [(.int v223), (.ref d2), (.int v253), (.ref a1)])
            refine own_baload X254 hx hZ e254 (((((((((((V2.other W146 ne_d2).other W151 ne_d2).other W161 ne_d2).other W166 ne_d2).other W176 ne_d2).other W181 ne_d2).other W191 ne_d2).other W196 ne_d2).other W231 ne_d2).other W236 ne_d2).other W252 ne_d2) (i := v223.toInt.toNat) (by omega) (by omega) (hb hby d1_197) ?_
            intro v255 hv255
            have r255 := rng32 v255
            show ORun p e below s _ _ _ T254 (mkF m 198 #[.val (.long q1), .second, .val (.ref a1), .val (.int p3), .val (.int v253), .val (.long v133), .second, .val (.int v223), .val (.int v223), .val (.int v225), .val (.int (4 : Int32)), .val (.int v183), .val (.int v185)] [(.int v255), (.int v253), (.ref a1)])
            have f256 := hT1 v223.toInt.toNat (by omega)
            rw [← hv255] at f256
            have nb256 : (nar .byte v255).toInt = v255.toInt := by have q := c_i2b v255; show v255.toInt8.toInt32.toInt = _; omega
            refine own_bastore X254 hx hZ e254 V252 (i := v253.toInt.toNat) (by omega) (by omega) (hb hby d1_198) ?_
            intro T257 h257 L257 X257 e257 W257 hL257 V257
            have len257 : L257.length = 21 := by rw [hL257, List.length_set]; exact len252
            have N257 := Fr.snoc X257 N252 g1
            show ORun p e below s _ _ _ T257 (mkF m 199 #[.val (.long q1), .second, .val (.ref a1), .val (.int p3), .val (.int v253), .val (.long v133), .second, .val (.int v223), .val (.int v223), .val (.int v225), .val (.int (4 : Int32)), .val (.int v183), .val (.int v185)] [])
            refine own_by (fun t k => XS.goto X257.here hx rfl (pc0 := 199) (pc' := 215) rfl (hb hby d1_199) (by decide) (by decide) k) ?_
            show ORun p e below s _ _ _ T257 (mkF m 215 #[.val (.long q1), .second, .val (.ref a1), .val (.int p3), .val (.int v253), .val (.long v133), .second, .val (.int v223), .val (.int v223), .val (.int v225), .val (.int (4 : Int32)), .val (.int v183), .val (.int v185)] [])
            refine own_retV X257 hx hret hlk (hb hby d1_215) (by decide) (by decide) ?_
            have fin258 := Eq.trans ch237 (own_last2 (q := qk237) (w := wk237) (i := v248.toInt.toNat) (j := v253.toInt.toNat) (by omega) (by omega) (by omega) (by omega) hL252 hL257 (by omega) (by omega))
            rw [e257]
            refine ⟨rfl, N257, (((((((((((((Keep.refl h0 [a1]).wr W146 (Or.inl (List.mem_of_getElem? (i := 0) rfl))).wr W151 (Or.inl (List.mem_of_getElem? (i := 0) rfl))).wr W161 (Or.inl (List.mem_of_getElem? (i := 0) rfl))).wr W166 (Or.inl (List.mem_of_getElem? (i := 0) rfl))).wr W176 (Or.inl (List.mem_of_getElem? (i := 0) rfl))).wr W181 (Or.inl (List.mem_of_getElem? (i := 0) rfl))).wr W191 (Or.inl (List.mem_of_getElem? (i := 0) rfl))).wr W196 (Or.inl (List.mem_of_getElem? (i := 0) rfl))).wr W231 (Or.inl (List.mem_of_getElem? (i := 0) rfl))).wr W236 (Or.inl (List.mem_of_getElem? (i := 0) rfl))).wr W252 (Or.inl (List.mem_of_getElem? (i := 0) rfl))).wr W257 (Or.inl (List.mem_of_getElem? (i := 0) rfl))), ?_⟩
            rw [fin258]
            exact V257
        · have t238 := own_nlt hc238 (a := v223.toInt) (b := 100) rfl (by decide)
          refine own_by (fun t k => XS.icmpNo X236.here hx rfl (hb hby d1_113) rfl (flt hc238).1 k) ?_
          show ORun p e below s _ _ _ T236 (mkF m 116 #[.val (.long q1), .second, .val (.ref a1), .val (.int p3), .val (.int v232), .val (.long v133), .second, .val (.int v223), .val (.int v223), .val (.int v225), .val (.int (4 : Int32)), .val (.int v183), .val (.int v185)] [])
          refine own_by (fun t k => XS.iload X236.here hx rfl (hb hby d1_116) rfl k) ?_
          show ORun p e below s _ _ _ T236 (mkF m 118 #[.val (.long q1), .second, .val (.ref a1), .val (.int p3), .val (.int v232), .val (.long v133), .second, .val (.int v223), .val (.int v223), .val (.int v225), .val (.int (4 : Int32)), .val (.int v183), .val (.int v185)] [(.int v223)])
          refine own_by (fun t k => XS.bipush X236.here hx rfl (hb hby d1_118) k) ?_
          show ORun p e below s _ _ _ T236 (mkF m 120 #[.val (.long q1), .second, .val (.ref a1), .val (.int p3), .val (.int v232), .val (.long v133), .second, .val (.int v223), .val (.int v223), .val (.int v225), .val (.int (4 : Int32)), .val (.int v183), .val (.int v185)] [(.int (100 : Int32)), (.int v223)])
          refine own_by (fun t k => XS.idiv X236.here hx rfl (hb hby d1_120) rfl (by decide) k) (own_letI (f := (fun z => (mkF m 121 #[.val (.long q1), .second, .val (.ref a1), .val (.int p3), .val (.int v232), .val (.long v133), .second, .val (.int v223), .val (.int v223), .val (.int v225), .val (.int (4 : Int32)), .val (.int v183), .val (.int v185)] [(.int z)]))) (v223 / (100 : Int32)) fun v259 hv259 => ?_)
          show ORun p e below s _ _ _ T236 (mkF m 121 #[.val (.long q1), .second, .val (.ref a1), .val (.int p3), .val (.int v232), .val (.long v133), .second, .val (.int v223), .val (.int v223), .val (.int v225), .val (.int (4 : Int32)), .val (.int v183), .val (.int v185)] [(.int v259)])
          have r259 := rng32 v259
          have a259 : v259.toInt = v223.toInt / 100 := by
            have q : (0 ≤ v223.toInt → v259.toInt = v223.toInt / 100) ∧ (v223.toInt < 0 → v259.toInt = -((-v223.toInt) / 100)) := by rw [hv259]; exact c_idiv v223 (100 : Int32) 100 (by decide) (by decide)
            omega
          refine own_by (fun t k => XS.istore X236.here hx rfl (hb hby d1_121) rfl (l' := #[.val (.long q1), .second, .val (.ref a1), .val (.int p3), .val (.int v232), .val (.long v133), .second, .val (.int v223), .val (.int v259), .val (.int v225), .val (.int (4 : Int32)), .val (.int v183), .val (.int v185)]) rfl k) ?_
          show ORun p e below s _ _ _ T236 (mkF m 123 #[.val (.long q1), .second, .val (.ref a1), .val (.int p3), .val (.int v232), .val (.long v133), .second, .val (.int v223), .val (.int v259), .val (.int v225), .val (.int (4 : Int32)), .val (.int v183), .val (.int v185)] [])
          refine own_by (fun t k => XS.iload X236.here hx rfl (hb hby d1_123) rfl k) ?_
          show ORun p e below s _ _ _ T236 (mkF m 125 #[.val (.long q1), .second, .val (.ref a1), .val (.int p3), .val (.int v232), .val (.long v133), .second, .val (.int v223), .val (.int v259), .val (.int v225), .val (.int (4 : Int32)), .val (.int v183), .val (.int v185)] [(.int v223)])
          refine own_by (fun t k => XS.bipush X236.here hx rfl (hb hby d1_125) k) ?_
          show ORun p e below s _ _ _ T236 (mkF m 127 #[.val (.long q1), .second, .val (.ref a1), .val (.int p3), .val (.int v232), .val (.long v133), .second, .val (.int v223), .val (.int v259), .val (.int v225), .val (.int (4 : Int32)), .val (.int v183), .val (.int v185)] [(.int (100 : Int32)), (.int v223)])
          refine own_by (fun t k => XS.iload X236.here hx rfl (hb hby d1_127) rfl k) ?_
          show ORun p e below s _ _ _ T236 (mkF m 129 #[.val (.long q1), .second, .val (.ref a1), .val (.int p3), .val (.int v232), .val (.long v133), .second, .val (.int v223), .val (.int v259), .val (.int v225), .val (.int (4 : Int32)), .val (.int v183), .val (.int v185)] [(.int v259), (.int (100 : Int32)), (.int v223)])
          refine own_by (fun t k => XS.imul X236.here hx rfl (hb hby d1_129) rfl k) (own_letI (f := (fun z => (mkF m 130 #[.val (.long q1), .second, .val (.ref a1), .val (.int p3), .val (.int v232), .val (.long v133), .second, .val (.int v223), .val (.int v259), .val (.int v225), .val (.int (4 : Int32)), .val (.int v183), .val (.int v185)] [(.int z), (.int v223)]))) ((100 : Int32) * v259) fun v260 hv260 => ?_)
          show ORun p e below s _ _ _ T236 (mkF m 130 #[.val (.long q1), .second, .val (.ref a1), .val (.int p3), .val (.int v232), .val (.long v133), .second, .val (.int v223), .val (.int v259), .val (.int v225), .val (.int (4 : Int32)), .val (.int v183), .val (.int v185)] [(.int v260), (.int v223)])
          have r260 := rng32 v260
          have a260 : v260.toInt = 100 * v259.toInt := by
            have q : (v260.toInt - (100 * v259.toInt)) % 4294967296 = 0 := by rw [hv260]; exact c_imul (100 : Int32) v259
            omega
          refine own_by (fun t k => XS.isub X236.here hx rfl (hb hby d1_130) rfl k) (own_letI (f := (fun z => (mkF m 131 #[.val (.long q1), .second, .val (.ref a1), .val (.int p3), .val (.int v232), .val (.long v133), .second, .val (.int v223), .val (.int v259), .val (.int v225), .val (.int (4 : Int32)), .val (.int v183), .val (.int v185)] [(.int z)]))) (v223 - v260) fun v261 hv261 => ?_)
          show ORun p e below s _ _ _ T236 (mkF m 131 #[.val (.long q1), .second, .val (.ref a1), .val (.int p3), .val (.int v232), .val (.long v133), .second, .val (.int v223), .val (.int v259), .val (.int v225), .val (.int (4 : Int32)), .val (.int v183), .val (.int v185)] [(.int v261)])
          have r261 := rng32 v261
          have a261 : v261.toInt = v223.toInt - v260.toInt := by
            have q : (v261.toInt - (v223.toInt - v260.toInt)) % 4294967296 = 0 := by rw [hv261]; exact c_isub v223 v260
            omega
          refine own_by (fun t k => XS.istore X236.here hx rfl (hb hby d1_131) rfl (l' := #[.val (.long q1), .second, .val (.ref a1), .val (.int p3), .val (.int v232), .val (.long v133), .second, .val (.int v223), .val (.int v259), .val (.int v261), .val (.int (4 : Int32)), .val (.int v183), .val (.int v185)]) rfl k) ?_
          show ORun p e below s _ _ _ T236 (mkF m 133 #[.val (.long q1), .second, .val (.ref a1), .val (.int p3), .val (.int v232), .val (.long v133), .second, .val (.int v223), .val (.int v259), .val (.int v261), .val (.int (4 : Int32)), .val (.int v183), .val (.int v185)] [])
          have f3_262 := own_fit3 (q := qk237) (w := wk237) (by omega) fi237
          refine own_by (fun t k => XS.aloadN X236.here hx rfl (hb hby d1_133) rfl rfl k) ?_
          show ORun p e below s _ _ _ T236 (mkF m 134 #[.val (.long q1), .second, .val (.ref a1), .val (.int p3), .val (.int v232), .val (.long v133), .second, .val (.int v223), .val (.int v259), .val (.int v261), .val (.int (4 : Int32)), .val (.int v183), .val (.int v185)] [(.ref a1)])
          refine own_by (fun t k => XS.iinc X236.here hx rfl (hb hby d1_134) rfl (l' := #[.val (.long q1), .second, .val (.ref a1), .val (.int p3), .val (.int (v232 + (-1 : Int32))), .val (.long v133), .second, .val (.int v223), .val (.int v259), .val (.int v261), .val (.int (4 : Int32)), .val (.int v183), .val (.int v185)]) rfl k) (own_letI (f := (fun z => (mkF m 137 #[.val (.long q1), .second, .val (.ref a1), .val (.int p3), .val (.int z), .val (.long v133), .second, .val (.int v223), .val (.int v259), .val (.int v261), .val (.int (4 : Int32)), .val (.int v183), .val (.int v185)] [(.ref a1)]))) (v232 + (-1 : Int32)) fun v263 hv263 => ?_)
          show ORun p e below s _ _ _ T236 (mkF m 137 #[.val (.long q1), .second, .val (.ref a1), .val (.int p3), .val (.int v263), .val (.long v133), .second, .val (.int v223), .val (.int v259), .val (.int v261), .val (.int (4 : Int32)), .val (.int v183), .val (.int v185)] [(.ref a1)])
          have r263 := rng32 v263
          have a263 : v263.toInt = v232.toInt + (-1) := by have q : (v263.toInt - (v232.toInt + (-1))) % 4294967296 = 0 := (by rw [hv263]; exact c_iadd v232 (-1 : Int32)); omega
          refine own_by (fun t k => XS.iload X236.here hx rfl (hb hby d1_137) rfl k) ?_
          show ORun p e below s _ _ _ T236 (mkF m 139 #[.val (.long q1), .second, .val (.ref a1), .val (.int p3), .val (.int v263), .val (.long v133), .second, .val (.int v223), .val (.int v259), .val (.int v261), .val (.int (4 : Int32)), .val (.int v183), .val (.int v185)] [(.int v263), (.ref a1)])
          obtain ⟨T264, X264, e264, st264⟩ := getS2 X236 hx hZ hown (host := "") (Or.inl (hw _ (List.mem_of_getElem? (i := 31) rfl))) Via.refl e236 ((((((((((S1.wr W146).wr W151).wr W161).wr W166).wr W176).wr W181).wr W191).wr W196).wr W231).wr W236) (g := (mkF m 139 #[.val (.long q1), .second, .val (.ref a1), .val (.int p3), .val (.int v263), .val (.long v133), .second, .val (.int v223), .val (.int v259), .val (.int v261), .val (.int (4 : Int32)), .val (.int v183), .val (.int v185)] [(.int v263), (.ref a1)])) rfl (hb hby d1_139)
          refine own_by st264 ?_
          show ORun p e below s _ _ _ T264 (mkF m 142 #[.val (.long q1), .second, .val (.ref a1), .val (.int p3), .val (.int v263), .val (.long v133), .second, .val (.int v223), .val (.int v259), .val (.int v261), .val (.int (4 : Int32)), .val (.int v183), .val (.int v185)] [(.ref d1), (.int v263), (.ref a1)])
          refine own_by (fun t k => XS.iload X264.here hx rfl (hb hby d1_142) rfl k) ?_
          show ORun p e below s _ _ _ T264 (mkF m 144 #[.val (.long q1), .second, .val (.ref a1), .val (.int p3), .val (.int v263), .val (.long v133), .second, .val (.int v223), .val (.int v259), .val (.int v261), .val (.int (4 : Int32)), .val (.int v183), .val (.int v185)] [(.int v261), (.ref d1), (.int v263), (.ref a1)])
          refine own_baload X264 hx hZ e264 ((((((((((V1.other W146 ne_d1).other W151 ne_d1).other W161 ne_d1).other W166 ne_d1).other W176 ne_d1).other W181 ne_d1).other W191 ne_d1).other W196 ne_d1).other W231 ne_d1).other W236 ne_d1) (i := v261.toInt.toNat) (by omega) (by omega) (hb hby d1_144) ?_
          intro v265 hv265
          have r265 := rng32 v265
          show ORun p e below s _ _ _ T264 (mkF m 145 #[.val (.long q1), .second, .val (.ref a1), .val (.int p3), .val (.int v263), .val (.long v133), .second, .val (.int v223), .val (.int v259), .val (.int v261), .val (.int (4 : Int32)), .val (.int v183), .val (.int v185)] [(.int v265), (.int v263), (.ref a1)])
          have f266 := hO1 v261.toInt.toNat (by omega)
          rw [← hv265] at f266
          have nb266 : (nar .byte v265).toInt = v265.toInt := by have q := c_i2b v265; show v265.toInt8.toInt32.toInt = _; omega
          refine own_bastore X264 hx hZ e264 V236 (i := v263.toInt.toNat) (by omega) (by omega) (hb hby d1_145) ?_
          intro T267 h267 L267 X267 e267 W267 hL267 V267
          have len267 : L267.length = 21 := by rw [hL267, List.length_set]; exact len236
          have N267 := Fr.snoc X267 N236 g1
          show ORun p e below s _ _ _ T267 (mkF m 146 #[.val (.long q1), .second, .val (.ref a1), .val (.int p3), .val (.int v263), .val (.long v133), .second, .val (.int v223), .val (.int v259), .val (.int v261), .val (.int (4 : Int32)), .val (.int v183), .val (.int v185)] [])
          refine own_by (fun t k => XS.aloadN X267.here hx rfl (hb hby d1_146) rfl rfl k) ?_
          show ORun p e below s _ _ _ T267 (mkF m 147 #[.val (.long q1), .second, .val (.ref a1), .val (.int p3), .val (.int v263), .val (.long v133), .second, .val (.int v223), .val (.int v259), .val (.int v261), .val (.int (4 : Int32)), .val (.int v183), .val (.int v185)] [(.ref a1)])
          refine own_by (fun t k => XS.iinc X267.here hx rfl (hb hby d1_147) rfl (l' := #[.val (.long q1), .second, .val (.ref a1), .val (.int p3), .val (.int (v263 + (-1 : Int32))), .val (.long v133), .second, .val (.int v223), .val (.int v259), .val (.int v261), .val (.int (4 : Int32)), .val (.int v183), .val (.int v185)]) rfl k) (own_letI (f := (fun z => (mkF m 150 #[.val (.long q1), .second, .val (.ref a1), .val (.int p3), .val (.int z), .val (.long v133), .second, .val (.int v223), .val (.int v259), .val (.int v261), .val (.int (4 : Int32)), .val (.int v183), .val (.int v185)] [(.ref a1)]))) (v263 + (-1 : Int32)) fun v268 hv268 => ?_)
          show ORun p e below s _ _ _ T267 (mkF m 150 #[.val (.long q1), .second, .val (.ref a1), .val (.int p3), .val (.int v268), .val (.long v133), .second, .val (.int v223), .val (.int v259), .val (.int v261), .val (.int (4 : Int32)), .val (.int v183), .val (.int v185)] [(.ref a1)])
          have r268 := rng32 v268
          have a268 : v268.toInt = v263.toInt + (-1) := by have q : (v268.toInt - (v263.toInt + (-1))) % 4294967296 = 0 := (by rw [hv268]; exact c_iadd v263 (-1 : Int32)); omega
          refine own_by (fun t k => XS.iload X267.here hx rfl (hb hby d1_150) rfl k) ?_
          show ORun p e below s _ _ _ T267 (mkF m 152 #[.val (.long q1), .second, .val (.ref a1), .val (.int p3), .val (.int v268), .val (.long v133), .second, .val (.int v223), .val (.int v259), .val (.int v261), .val (.int (4 : Int32)), .val (.int v183), .val (.int v185)] [(.int v268), (.ref a1)])
          obtain ⟨T269, X269, e269, st269⟩ := getS2 X267 hx hZ hown (host := "") (Or.inl (hw _ (List.mem_of_getElem? (i := 33) rfl))) Via.refl e267 (((((((((((S2.wr W146).wr W151).wr W161).wr W166).wr W176).wr W181).wr W191).wr W196).wr W231).wr W236).wr W267) (g := (mkF m 152 #[.val (.long q1), .second, .val (.ref a1), .val (.int p3), .val (.int v268), .val (.long v133), .second, .val (.int v223), .val (.int v259), .val (.int v261), .val (.int (4 : Int32)), .val (.int v183), .val (.int v185)] [(.int v268), (.ref a1)])) rfl (hb hby d1_152)
          refine own_by st269 ?_
          show ORun p e below s _ _ _ T269 (mkF m 155 #[.val (.long q1), .second, .val (.ref a1), .val (.int p3), .val (.int v268), .val (.long v133), .second, .val (.int v223), .val (.int v259), .val (.int v261), .val (.int (4 : Int32)), .val (.int v183), .val (.int v185)] [(.ref d2), (.int v268), (.ref a1)])
          refine own_by (fun t k => XS.iload X269.here hx rfl (hb hby d1_155) rfl k) ?_
          show ORun p e below s _ _ _ T269 (mkF m 157 #[.val (.long q1), .second, .val (.ref a1), .val (.int p3), .val (.int v268), .val (.long v133), .second, .val (.int v223), .val (.int v259), .val (.int v261), .val (.int (4 : Int32)), .val (.int v183), .val (.int v185)] [(.int v261), (.ref d2), (.int v268), (.ref a1)])
          refine own_baload X269 hx hZ e269 (((((((((((V2.other W146 ne_d2).other W151 ne_d2).other W161 ne_d2).other W166 ne_d2).other W176 ne_d2).other W181 ne_d2).other W191 ne_d2).other W196 ne_d2).other W231 ne_d2).other W236 ne_d2).other W267 ne_d2) (i := v261.toInt.toNat) (by omega) (by omega) (hb hby d1_157) ?_
          intro v270 hv270
          have r270 := rng32 v270
          show ORun p e below s _ _ _ T269 (mkF m 158 #[.val (.long q1), .second, .val (.ref a1), .val (.int p3), .val (.int v268), .val (.long v133), .second, .val (.int v223), .val (.int v259), .val (.int v261), .val (.int (4 : Int32)), .val (.int v183), .val (.int v185)] [(.int v270), (.int v268), (.ref a1)])
          have f271 := hT1 v261.toInt.toNat (by omega)
          rw [← hv270] at f271
          have nb271 : (nar .byte v270).toInt = v270.toInt := by have q := c_i2b v270; show v270.toInt8.toInt32.toInt = _; omega
          refine own_bastore X269 hx hZ e269 V267 (i := v268.toInt.toNat) (by omega) (by omega) (hb hby d1_158) ?_
          intro T272 h272 L272 X272 e272 W272 hL272 V272
          have len272 : L272.length = 21 := by rw [hL272, List.length_set]; exact len267
          have N272 := Fr.snoc X272 N267 g1
          show ORun p e below s _ _ _ T272 (mkF m 159 #[.val (.long q1), .second, .val (.ref a1), .val (.int p3), .val (.int v268), .val (.long v133), .second, .val (.int v223), .val (.int v259), .val (.int v261), .val (.int (4 : Int32)), .val (.int v183), .val (.int v185)] [])
          have pk273 := own_pair (q := qk237) (w := wk237) (i := v263.toInt.toNat) (j := v268.toInt.toNat) (by omega) fi237 (by omega) (by omega) hL267 hL272 (by omega) (by omega)
          obtain ⟨wk273, hwk273⟩ : ∃ w, w = wk237 / 100 := ⟨_, rfl⟩
          obtain ⟨qk273, hqk273⟩ : ∃ q, q = v268.toInt.toNat := ⟨_, rfl⟩
          rw [← hwk273, ← hqk273] at pk273
          obtain ⟨pe273, fi273⟩ := pk273
          have ch273 := Eq.trans ch237 pe273
          have at273 : v268.toInt = (qk273 : Int) := by omega
          have qb273 : 1 ≤ qk273 ∧ qk273 ≤ 20 := by omega
          have lo273 : v259.toInt = (wk273 : Int) := by omega
          have bw273 : wk273 < 10000 := by omega
          clear t238 a259 r259 a260 r260 a261 r261 f3_262 a263 r263 r265 f266 nb266 a268 r268 r270 f271 nb271 at237 qb237 lo237 bw237 len236 len267 fi237 hwk273 hqk273
          refine own_by (fun t k => XS.iload X272.here hx rfl (hb hby d1_159) rfl k) ?_
          show ORun p e below s _ _ _ T272 (mkF m 161 #[.val (.long q1), .second, .val (.ref a1), .val (.int p3), .val (.int v268), .val (.long v133), .second, .val (.int v223), .val (.int v259), .val (.int v261), .val (.int (4 : Int32)), .val (.int v183), .val (.int v185)] [(.int v259)])
          refine own_by (fun t k => XS.istore X272.here hx rfl (hb hby d1_161) rfl (l' := #[.val (.long q1), .second, .val (.ref a1), .val (.int p3), .val (.int v268), .val (.long v133), .second, .val (.int v259), .val (.int v259), .val (.int v261), .val (.int (4 : Int32)), .val (.int v183), .val (.int v185)]) rfl k) ?_
          show ORun p e below s _ _ _ T272 (mkF m 163 #[.val (.long q1), .second, .val (.ref a1), .val (.int p3), .val (.int v268), .val (.long v133), .second, .val (.int v259), .val (.int v259), .val (.int v261), .val (.int (4 : Int32)), .val (.int v183), .val (.int v185)] [])
          refine own_by (fun t k => XS.goto X272.here hx rfl (pc0 := 163) (pc' := 109) rfl (hb hby d1_163) (by decide) (by decide) k) ?_
          show ORun p e below s _ _ _ T272 (mkF m 109 #[.val (.long q1), .second, .val (.ref a1), .val (.int p3), .val (.int v268), .val (.long v133), .second, .val (.int v259), .val (.int v259), .val (.int v261), .val (.int (4 : Int32)), .val (.int v183), .val (.int v185)] [])
          refine own_by (fun t k => XS.iload X272.here hx rfl (hb hby d1_109) rfl k) ?_
          show ORun p e below s _ _ _ T272 (mkF m 111 #[.val (.long q1), .second, .val (.ref a1), .val (.int p3), .val (.int v268), .val (.long v133), .second, .val (.int v259), .val (.int v259), .val (.int v261), .val (.int (4 : Int32)), .val (.int v183), .val (.int v185)] [(.int v259)])
          refine own_by (fun t k => XS.bipush X272.here hx rfl (hb hby d1_111) k) ?_
          show ORun p e below s _ _ _ T272 (mkF m 113 #[.val (.long q1), .second, .val (.ref a1), .val (.int p3), .val (.int v268), .val (.long v133), .second, .val (.int v259), .val (.int v259), .val (.int v261), .val (.int (4 : Int32)), .val (.int v183), .val (.int v185)] [(.int (100 : Int32)), (.int v259)])
          by_cases hc274 : v259 < (100 : Int32)
          · have t274 := own_lt hc274 (a := v259.toInt) (b := 100) rfl (by decide)
            refine own_by (fun t k => XS.icmpYes X272.here hx rfl (pc0 := 113) (pc' := 166) rfl (hb hby d1_113) rfl (tlt hc274).1 (by decide) (by decide) k) ?_
            show ORun p e below s _ _ _ T272 (mkF m 166 #[.val (.long q1), .second, .val (.ref a1), .val (.int p3), .val (.int v268), .val (.long v133), .second, .val (.int v259), .val (.int v259), .val (.int v261), .val (.int (4 : Int32)), .val (.int v183), .val (.int v185)] [])
            refine own_by (fun t k => XS.iload X272.here hx rfl (hb hby d1_166) rfl k) ?_
            show ORun p e below s _ _ _ T272 (mkF m 168 #[.val (.long q1), .second, .val (.ref a1), .val (.int p3), .val (.int v268), .val (.long v133), .second, .val (.int v259), .val (.int v259), .val (.int v261), .val (.int (4 : Int32)), .val (.int v183), .val (.int v185)] [(.int v259)])
            refine own_by (fun t k => XS.bipush X272.here hx rfl (hb hby d1_168) k) ?_
            show ORun p e below s _ _ _ T272 (mkF m 170 #[.val (.long q1), .second, .val (.ref a1), .val (.int p3), .val (.int v268), .val (.long v133), .second, .val (.int v259), .val (.int v259), .val (.int v261), .val (.int (4 : Int32)), .val (.int v183), .val (.int v185)] [(.int (10 : Int32)), (.int v259)])
            by_cases hc275 : v259 < (10 : Int32)
            · have t275 := own_lt hc275 (a := v259.toInt) (b := 10) rfl (by decide)
              refine own_by (fun t k => XS.icmpYes X272.here hx rfl (pc0 := 170) (pc' := 202) rfl (hb hby d1_170) rfl (tlt hc275).1 (by decide) (by decide) k) ?_
              show ORun p e below s _ _ _ T272 (mkF m 202 #[.val (.long q1), .second, .val (.ref a1), .val (.int p3), .val (.int v268), .val (.long v133), .second, .val (.int v259), .val (.int v259), .val (.int v261), .val (.int (4 : Int32)), .val (.int v183), .val (.int v185)] [])
              have f1_276 : 1 ≤ qk273 := by omega
              refine own_by (fun t k => XS.aloadN X272.here hx rfl (hb hby d1_202) rfl rfl k) ?_
              show ORun p e below s _ _ _ T272 (mkF m 203 #[.val (.long q1), .second, .val (.ref a1), .val (.int p3), .val (.int v268), .val (.long v133), .second, .val (.int v259), .val (.int v259), .val (.int v261), .val (.int (4 : Int32)), .val (.int v183), .val (.int v185)] [(.ref a1)])
              refine own_by (fun t k => XS.iinc X272.here hx rfl (hb hby d1_203) rfl (l' := #[.val (.long q1), .second, .val (.ref a1), .val (.int p3), .val (.int (v268 + (-1 : Int32))), .val (.long v133), .second, .val (.int v259), .val (.int v259), .val (.int v261), .val (.int (4 : Int32)), .val (.int v183), .val (.int v185)]) rfl k) (own_letI (f := (fun z => (mkF m 206 #[.val (.long q1), .second, .val (.ref a1), .val (.int p3), .val (.int z), .val (.long v133), .second, .val (.int v259), .val (.int v259), .val (.int v261), .val (.int (4 : Int32)), .val (.int v183), .val (.int v185)] [(.ref a1)]))) (v268 + (-1 : Int32)) fun v277 hv277 => ?_)
              show ORun p e below s _ _ _ T272 (mkF m 206 #[.val (.long q1), .second, .val (.ref a1), .val (.int p3), .val (.int v277), .val (.long v133), .second, .val (.int v259), .val (.int v259), .val (.int v261), .val (.int (4 : Int32)), .val (.int v183), .val (.int v185)] [(.ref a1)])
              have r277 := rng32 v277
              have a277 : v277.toInt = v268.toInt + (-1) := by have q : (v277.toInt - (v268.toInt + (-1))) % 4294967296 = 0 := (by rw [hv277]; exact c_iadd v268 (-1 : Int32)); omega
              refine own_by (fun t k => XS.iload X272.here hx rfl (hb hby d1_206) rfl k) ?_
              show ORun p e below s _ _ _ T272 (mkF m 208 #[.val (.long q1), .second, .val (.ref a1), .val (.int p3), .val (.int v277), .val (.long v133), .second, .val (.int v259), .val (.int v259), .val (.int v261), .val (.int (4 : Int32)), .val (.int v183), .val (.int v185)] [(.int v277), (.ref a1)])
              refine own_by (fun t k => XS.bipush X272.here hx rfl (hb hby d1_208) k) ?_
              show ORun p e below s _ _ _ T272 (mkF m 210 #[.val (.long q1), .second, .val (.ref a1), .val (.int p3), .val (.int v277), .val (.long v133), .second, .val (.int v259), .val (.int v259), .val (.int v261), .val (.int (4 : Int32)), .val (.int v183), .val (.int v185)] [(.int (48 : Int32)), (.int v277), (.ref a1)])
              refine own_by (fun t k => XS.iload X272.here hx rfl (hb hby d1_210) rfl k) ?_
              show ORun p e below s _ _ _ T272 (mkF m 212 #[.val (.long q1), .second, .val (.ref a1), .val (.int p3), .val (.int v277), .val (.long v133), .second, .val (.int v259), .val (.int v259), .val (.int v261), .val (.int (4 : Int32)), .val (.int v183), .val (.int v185)] [(.int v259), (.int (48 : Int32)), (.int v277), (.ref a1)])
              refine own_by (fun t k => XS.iadd X272.here hx rfl (hb hby d1_212) rfl k) (own_letI (f := (fun z => (mkF m 213 #[.val (.long q1), .second, .val (.ref a1), .val (.int p3), .val (.int v277), .val (.long v133), .second, .val (.int v259), .val (.int v259), .val (.int v261), .val (.int (4 : Int32)), .val (.int v183), .val (.int v185)] [(.int z), (.int v277), (.ref a1)]))) ((48 : Int32) + v259) fun v278 hv278 => ?_)
              show ORun p e below s _ _ _ T272 (mkF m 213 #[.val (.long q1), .second, .val (.ref a1), .val (.int p3), .val (.int v277), .val (.long v133), .second, .val (.int v259), .val (.int v259), .val (.int v261), .val (.int (4 : Int32)), .val (.int v183), .val (.int v185)] [(.int v278), (.int v277), (.ref a1)])
              have r278 := rng32 v278
              have a278 : v278.toInt = 48 + v259.toInt := by
                have q : (v278.toInt - (48 + v259.toInt)) % 4294967296 = 0 := by rw [hv278]; exact c_iadd (48 : Int32) v259
                omega
              refine own_by (fun t k => XS.i2b X272.here hx rfl (hb hby d1_213) rfl k) (own_letI (f := (fun z => (mkF m 214 #[.val (.long q1), .second, .val (.ref a1), .val (.int p3), .val (.int v277), .val (.long v133), .second, .val (.int v259), .val (.int v259), .val (.int v261), .val (.int (4 : Int32)), .val (.int v183), .val (.int v185)] [(.int z), (.int v277), (.ref a1)]))) (v278.toInt8.toInt32) fun v279 hv279 => ?_)
              show ORun p e below s _ _ _ T272 (mkF m 214 #[.val (.long q1), .second, .val (.ref a1), .val (.int p3), .val (.int v277), .val (.long v133), .second, .val (.int v259), .val (.int v259), .val (.int v261), .val (.int (4 : Int32)), .val (.int v183), .val (.int v185)] [(.int v279), (.int v277), (.ref a1)])
              have r279 := rng32 v279
              have a279 : v279.toInt = v278.toInt := by
                have q : (v279.toInt - v278.toInt) % 256 = 0 ∧ -128 ≤ v279.toInt ∧ v279.toInt < 128 := by rw [hv279]; exact c_i2b v278
                omega
              have nb280 : (nar .byte v279).toInt = v279.toInt := by have q := c_i2b v279; show v279.toInt8.toInt32.toInt = _; omega
              refine own_bastore X272 hx hZ e272 V272 (i := v277.toInt.toNat) (by omega) (by omega) (hb hby d1_214) ?_
              intro T281 h281 L281 X281 e281 W281 hL281 V281
              have len281 : L281.length = 21 := by rw [hL281, List.length_set]; exact len272
              have N281 := Fr.snoc X281 N272 g1
              show ORun p e below s _ _ _ T281 (mkF m 215 #[.val (.long q1), .second, .val (.ref a1), .val (.int p3), .val (.int v277), .val (.long v133), .second, .val (.int v259), .val (.int v259), .val (.int v261), .val (.int (4 : Int32)), .val (.int v183), .val (.int v185)] [])
              refine own_retV X281 hx hret hlk (hb hby d1_215) (by decide) (by decide) ?_
              have fin282 := Eq.trans ch273 (own_last1 (q := qk273) (w := wk273) (i := v277.toInt.toNat) (by omega) (by omega) hL281 (by omega))
              rw [e281]
              refine ⟨rfl, N281, ((((((((((((((Keep.refl h0 [a1]).wr W146 (Or.inl (List.mem_of_getElem? (i := 0) rfl))).wr W151 (Or.inl (List.mem_of_getElem? (i := 0) rfl))).wr W161 (Or.inl (List.mem_of_getElem? (i := 0) rfl))).wr W166 (Or.inl (List.mem_of_getElem? (i := 0) rfl))).wr W176 (Or.inl (List.mem_of_getElem? (i := 0) rfl))).wr W181 (Or.inl (List.mem_of_getElem? (i := 0) rfl))).wr W191 (Or.inl (List.mem_of_getElem? (i := 0) rfl))).wr W196 (Or.inl (List.mem_of_getElem? (i := 0) rfl))).wr W231 (Or.inl (List.mem_of_getElem? (i := 0) rfl))).wr W236 (Or.inl (List.mem_of_getElem? (i := 0) rfl))).wr W267 (Or.inl (List.mem_of_getElem? (i := 0) rfl))).wr W272 (Or.inl (List.mem_of_getElem? (i := 0) rfl))).wr W281 (Or.inl (List.mem_of_getElem? (i := 0) rfl))), ?_⟩
              rw [fin282]
              exact V281
            · have t275 := own_nlt hc275 (a := v259.toInt) (b := 10) rfl (by decide)
              refine own_by (fun t k => XS.icmpNo X272.here hx rfl (hb hby d1_170) rfl (flt hc275).1 k) ?_
              show ORun p e below s _ _ _ T272 (mkF m 173 #[.val (.long q1), .second, .val (.ref a1), .val (.int p3), .val (.int v268), .val (.long v133), .second, .val (.int v259), .val (.int v259), .val (.int v261), .val (.int (4 : Int32)), .val (.int v183), .val (.int v185)] [])
              have f2_283 := own_fit2 (q := qk273) (w := wk273) (by omega) fi273
              refine own_by (fun t k => XS.aloadN X272.here hx rfl (hb hby d1_173) rfl rfl k) ?_
              show ORun p e below s _ _ _ T272 (mkF m 174 #[.val (.long q1), .second, .val (.ref a1), .val (.int p3), .val (.int v268), .val (.long v133), .second, .val (.int v259), .val (.int v259), .val (.int v261), .val (.int (4 : Int32)), .val (.int v183), .val (.int v185)] [(.ref a1)])
              refine own_by (fun t k => XS.iinc X272.here hx rfl (hb hby d1_174) rfl (l' := #[.val (.long q1), .second, .val (.ref a1), .val (.int p3), .val (.int (v268 + (-1 : Int32))), .val (.long v133), .second, .val (.int v259), .val (.int v259), .val (.int v261), .val (.int (4 : Int32)), .val (.int v183), .val (.int v185)]) rfl k) (own_letI (f := (fun z => (mkF m 177 #[.val (.long q1), .second, .val (.ref a1), .val (.int p3), .val (.int z), .val (.long v133), .second, .val (.int v259), .val (.int v259), .val (.int v261), .val (.int (4 : Int32)), .val (.int v183), .val (.int v185)] [(.ref a1)]))) (v268 + (-1 : Int32)) fun v284 hv284 => ?_)
              show ORun p e below s _ _ _ T272 (mkF m 177 #[.val (.long q1), .second, .val (.ref a1), .val (.int p3), .val (.int v284), .val (.long v133), .second, .val (.int v259), .val (.int v259), .val (.int v261), .val (.int (4 : Int32)), .val (.int v183), .val (.int v185)] [(.ref a1)])
              have r284 := rng32 v284
              have a284 : v284.toInt = v268.toInt + (-1) := by have q : (v284.toInt - (v268.toInt + (-1))) % 4294967296 = 0 := (by rw [hv284]; exact c_iadd v268 (-1 : Int32)); omega
              refine own_by (fun t k => XS.iload X272.here hx rfl (hb hby d1_177) rfl k) ?_
              show ORun p e below s _ _ _ T272 (mkF m 179 #[.val (.long q1), .second, .val (.ref a1), .val (.int p3), .val (.int v284), .val (.long v133), .second, .val (.int v259), .val (.int v259), .val (.int v261), .val (.int (4 : Int32)), .val (.int v183), .val (.int v185)] [(.int v284), (.ref a1)])
              obtain ⟨T285, X285, e285, st285⟩ := getS2 X272 hx hZ hown (host := "") (Or.inl (hw _ (List.mem_of_getElem? (i := 31) rfl))) Via.refl e272 ((((((((((((S1.wr W146).wr W151).wr W161).wr W166).wr W176).wr W181).wr W191).wr W196).wr W231).wr W236).wr W267).wr W272) (g := (mkF m 179 #[.val (.long q1), .second, .val (.ref a1), .val (.int p3), .val (.int v284), .val (.long v133), .second, .val (.int v259), .val (.int v259), .val (.int v261), .val (.int (4 : Int32)), .val (.int v183), .val (.int v185)] [(.int v284), (.ref a1)])) rfl (hb hby d1_179)
              refine own_by st285 ?_
              show ORun p e below s _ _ _ T285 (mkF m 182 #[.val (.long q1), .second, .val (.ref a1), .val (.int p3), .val (.int v284), .val (.long v133), .second, .val (.int v259), .val (.int v259), .val (.int v261), .val (.int (4 : Int32)), .val (.int v183), .val (.int v185)] [(.ref d1), (.int v284), (.ref a1)])
              refine own_by (fun t k => XS.iload X285.here hx rfl (hb hby d1_182) rfl k) ?_
              show ORun p e below s _ _ _ T285 (mkF m 184 #[.val (.long q1), .second, .val (.ref a1), .val (.int p3), .val (.int v284), .val (.long v133), .second, .val (.int v259), .val (.int v259), .val (.int v261), .val (.int (4 : Int32)), .val (.int v183), .val (.int v185)] [(.int v259), (.ref d1), (.int v284), (.ref a1)])
              refine own_baload X285 hx hZ e285 ((((((((((((V1.other W146 ne_d1).other W151 ne_d1).other W161 ne_d1).other W166 ne_d1).other W176 ne_d1).other W181 ne_d1).other W191 ne_d1).other W196 ne_d1).other W231 ne_d1).other W236 ne_d1).other W267 ne_d1).other W272 ne_d1) (i := v259.toInt.toNat) (by omega) (by omega) (hb hby d1_184) ?_
              intro v286 hv286
              have r286 := rng32 v286
              show ORun p e below s _ _ _ T285 (mkF m 185 #[.val (.long q1), .second, .val (.ref a1), .val (.int p3), .val (.int v284), .val (.long v133), .second, .val (.int v259), .val (.int v259), .val (.int v261), .val (.int (4 : Int32)), .val (.int v183), .val (.int v185)] [(.int v286), (.int v284), (.ref a1)])
              have f287 := hO1 v259.toInt.toNat (by omega)
              rw [← hv286] at f287
              have nb287 : (nar .byte v286).toInt = v286.toInt := by have q := c_i2b v286; show v286.toInt8.toInt32.toInt = _; omega
              refine own_bastore X285 hx hZ e285 V272 (i := v284.toInt.toNat) (by omega) (by omega) (hb hby d1_185) ?_
              intro T288 h288 L288 X288 e288 W288 hL288 V288
              have len288 : L288.length = 21 := by rw [hL288, List.length_set]; exact len272
              have N288 := Fr.snoc X288 N272 g1
              show ORun p e below s _ _ _ T288 (mkF m 186 #[.val (.long q1), .second, .val (.ref a1), .val (.int p3), .val (.int v284), .val (.long v133), .second, .val (.int v259), .val (.int v259), .val (.int v261), .val (.int (4 : Int32)), .val (.int v183), .val (.int v185)] [])
              refine own_by (fun t k => XS.aloadN X288.here hx rfl (hb hby d1_186) rfl rfl k) ?_
              show ORun p e below s _ _ _ T288 (mkF m 187 #[.val (.long q1), .second, .val (.ref a1), .val (.int p3), .val (.int v284), .val (.long v133), .second, .val (.int v259), .val (.int v259), .val (.int v261), .val (.int (4 : Int32)), .val (.int v183), .val (.int v185)] [(.ref a1)])
              refine own_by (fun t k => XS.iinc X288.here hx rfl (hb hby d1_187) rfl (l' := #[.val (.long q1), .second, .val (.ref a1), .val (.int p3), .val (.int (v284 + (-1 : Int32))), .val (.long v133), .second, .val (.int v259), .val (.int v259), .val (.int v261), .val (.int (4 : Int32)), .val (.int v183), .val (.int v185)]) rfl k) (own_letI (f := (fun z => (mkF m 190 #[.val (.long q1), .second, .val (.ref a1), .val (.int p3), .val (.int z), .val (.long v133), .second, .val (.int v259), .val (.int v259), .val (.int v261), .val (.int (4 : Int32)), .val (.int v183), .val (.int v185)] [(.ref a1)]))) (v284 + (-1 : Int32)) fun v289 hv289 => ?_)
              show ORun p e below s _ _ _ T288 (mkF m 190 #[.val (.long q1), .second, .val (.ref a1), .val (.int p3), .val (.int v289), .val (.long v133), .second, .val (.int v259), .val (.int v259), .val (.int v261), .val (.int (4 : Int32)), .val (.int v183), .val (.int v185)] [(.ref a1)])
              have r289 := rng32 v289
              have a289 : v289.toInt = v284.toInt + (-1) := by have q : (v289.toInt - (v284.toInt + (-1))) % 4294967296 = 0 := (by rw [hv289]; exact c_iadd v284 (-1 : Int32)); omega
              refine own_by (fun t k => XS.iload X288.here hx rfl (hb hby d1_190) rfl k) ?_
              show ORun p e below s _ _ _ T288 (mkF m 192 #[.val (.long q1), .second, .val (.ref a1), .val (.int p3), .val (.int v289), .val (.long v133), .second, .val (.int v259), .val (.int v259), .val (.int v261), .val (.int (4 : Int32)), .val (.int v183), .val (.int v185)] [(.int v289), (.ref a1)])
              obtain ⟨T290, X290, e290, st290⟩ := getS2 X288 hx hZ hown (host := "") (Or.inl (hw _ (List.mem_of_getElem? (i := 33) rfl))) Via.refl e288 (((((((((((((S2.wr W146).wr W151).wr W161).wr W166).wr W176).wr W181).wr W191).wr W196).wr W231).wr W236).wr W267).wr W272).wr W288) (g := (mkF m 192 #[.val (.long q1), .second, .val (.ref a1), .val (.int p3), .val (.int v289), .val (.long v133), .second, .val (.int v259), .val (.int v259), .val (.int v261), .val (.int (4 : Int32)), .val (.int v183), .val (.int v185)] [(.int v289), (.ref a1)])) rfl (hb hby d1_192)
              refine own_by st290 ?_
              show ORun p e below s _ _ _ T290 (mkF m 195 #[.val (.long q1), .second, .val (.ref a1), .val (.int p3), .val (.int v289), .val (.long v133), .second, .val (.int v259), .val (.int v259), .val (.int v261), .val (.int (4 : Int32)), .val (.int v183), .val (.int v185)] [(.ref d2), (.int v289), (.ref a1)])
              refine own_by (fun t k => XS.iload X290.here hx rfl (hb hby d1_195) rfl k) ?_
              show ORun p e below s _ _ _ T290 (mkF m 197 #[.val (.long q1), .second, .val (.ref a1), .val (.int p3), .val (.int v289), .val (.long v133), .second, .val (.int v259), .val (.int v259), .val (.int v261), .val (.int (4 : Int32)), .val (.int v183), .val (.int v185)] [(.int v259), (.ref d2), (.int v289), (.ref a1)])
              refine own_baload X290 hx hZ e290 (((((((((((((V2.other W146 ne_d2).other W151 ne_d2).other W161 ne_d2).other W166 ne_d2).other W176 ne_d2).other W181 ne_d2).other W191 ne_d2).other W196 ne_d2).other W231 ne_d2).other W236 ne_d2).other W267 ne_d2).other W272 ne_d2).other W288 ne_d2) (i := v259.toInt.toNat) (by omega) (by omega) (hb hby d1_197) ?_
              intro v291 hv291
              have r291 := rng32 v291
              show ORun p e below s _ _ _ T290 (mkF m 198 #[.val (.long q1), .second, .val (.ref a1), .val (.int p3), .val (.int v289), .val (.long v133), .second, .val (.int v259), .val (.int v259), .val (.int v261), .val (.int (4 : Int32)), .val (.int v183), .val (.int v185)] [(.int v291), (.int v289), (.ref a1)])
              have f292 := hT1 v259.toInt.toNat (by omega)
              rw [← hv291] at f292
              have nb292 : (nar .byte v291).toInt = v291.toInt := by have q := c_i2b v291; show v291.toInt8.toInt32.toInt = _; omega
              refine own_bastore X290 hx hZ e290 V288 (i := v289.toInt.toNat) (by omega) (by omega) (hb hby d1_198) ?_
              intro T293 h293 L293 X293 e293 W293 hL293 V293
              have len293 : L293.length = 21 := by rw [hL293, List.length_set]; exact len288
              have N293 := Fr.snoc X293 N288 g1
              show ORun p e below s _ _ _ T293 (mkF m 199 #[.val (.long q1), .second, .val (.ref a1), .val (.int p3), .val (.int v289), .val (.long v133), .second, .val (.int v259), .val (.int v259), .val (.int v261), .val (.int (4 : Int32)), .val (.int v183), .val (.int v185)] [])
              refine own_by (fun t k => XS.goto X293.here hx rfl (pc0 := 199) (pc' := 215) rfl (hb hby d1_199) (by decide) (by decide) k) ?_
              show ORun p e below s _ _ _ T293 (mkF m 215 #[.val (.long q1), .second, .val (.ref a1), .val (.int p3), .val (.int v289), .val (.long v133), .second, .val (.int v259), .val (.int v259), .val (.int v261), .val (.int (4 : Int32)), .val (.int v183), .val (.int v185)] [])
              refine own_retV X293 hx hret hlk (hb hby d1_215) (by decide) (by decide) ?_
              have fin294 := Eq.trans ch273 (own_last2 (q := qk273) (w := wk273) (i := v284.toInt.toNat) (j := v289.toInt.toNat) (by omega) (by omega) (by omega) (by omega) hL288 hL293 (by omega) (by omega))
              rw [e293]
              refine ⟨rfl, N293, (((((((((((((((Keep.refl h0 [a1]).wr W146 (Or.inl (List.mem_of_getElem? (i := 0) rfl))).wr W151 (Or.inl (List.mem_of_getElem? (i := 0) rfl))).wr W161 (Or.inl (List.mem_of_getElem? (i := 0) rfl))).wr W166 (Or.inl (List.mem_of_getElem? (i := 0) rfl))).wr W176 (Or.inl (List.mem_of_getElem? (i := 0) rfl))).wr W181 (Or.inl (List.mem_of_getElem? (i := 0) rfl))).wr W191 (Or.inl (List.mem_of_getElem? (i := 0) rfl))).wr W196 (Or.inl (List.mem_of_getElem? (i := 0) rfl))).wr W231 (Or.inl (List.mem_of_getElem? (i := 0) rfl))).wr W236 (Or.inl (List.mem_of_getElem? (i := 0) rfl))).wr W267 (Or.inl (List.mem_of_getElem? (i := 0) rfl))).wr W272 (Or.inl (List.mem_of_getElem? (i := 0) rfl))).wr W288 (Or.inl (List.mem_of_getElem? (i := 0) rfl))).wr W293 (Or.inl (List.mem_of_getElem? (i := 0) rfl))), ?_⟩
              rw [fin294]
              exact V293
          · have t274 := own_nlt hc274 (a := v259.toInt) (b := 100) rfl (by decide)
            refine own_by (fun t k => XS.icmpNo X272.here hx rfl (hb hby d1_113) rfl (flt hc274).1 k) ?_
            show ORun p e below s _ _ _ T272 (mkF m 116 #[.val (.long q1), .second, .val (.ref a1), .val (.int p3), .val (.int v268), .val (.long v133), .second, .val (.int v259), .val (.int v259), .val (.int v261), .val (.int (4 : Int32)), .val (.int v183), .val (.int v185)] [])
            refine own_by (fun t k => XS.iload X272.here hx rfl (hb hby d1_116) rfl k) ?_
            show ORun p e below s _ _ _ T272 (mkF m 118 #[.val (.long q1), .second, .val (.ref a1), .val (.int p3), .val (.int v268), .val (.long v133), .second, .val (.int v259), .val (.int v259), .val (.int v261), .val (.int (4 : Int32)), .val (.int v183), .val (.int v185)] [(.int v259)])
            refine own_by (fun t k => XS.bipush X272.here hx rfl (hb hby d1_118) k) ?_
            show ORun p e below s _ _ _ T272 (mkF m 120 #[.val (.long q1), .second, .val (.ref a1), .val (.int p3), .val (.int v268), .val (.long v133), .second, .val (.int v259), .val (.int v259), .val (.int v261), .val (.int (4 : Int32)), .val (.int v183), .val (.int v185)] [(.int (100 : Int32)), (.int v259)])
            refine own_by (fun t k => XS.idiv X272.here hx rfl (hb hby d1_120) rfl (by decide) k) (own_letI (f := (fun z => (mkF m 121 #[.val (.long q1), .second, .val (.ref a1), .val (.int p3), .val (.int v268), .val (.long v133), .second, .val (.int v259), .val (.int v259), .val (.int v261), .val (.int (4 : Int32)), .val (.int v183), .val (.int v185)] [(.int z)]))) (v259 / (100 : Int32)) fun v295 hv295 => ?_)
            show ORun p e below s _ _ _ T272 (mkF m 121 #[.val (.long q1), .second, .val (.ref a1), .val (.int p3), .val (.int v268), .val (.long v133), .second, .val (.int v259), .val (.int v259), .val (.int v261), .val (.int (4 : Int32)), .val (.int v183), .val (.int v185)] [(.int v295)])
            have r295 := rng32 v295
            have a295 : v295.toInt = v259.toInt / 100 := by
              have q : (0 ≤ v259.toInt → v295.toInt = v259.toInt / 100) ∧ (v259.toInt < 0 → v295.toInt = -((-v259.toInt) / 100)) := by rw [hv295]; exact c_idiv v259 (100 : Int32) 100 (by decide) (by decide)
              omega
            refine own_by (fun t k => XS.istore X272.here hx rfl (hb hby d1_121) rfl (l' := #[.val (.long q1), .second, .val (.ref a1), .val (.int p3), .val (.int v268), .val (.long v133), .second, .val (.int v259), .val (.int v295), .val (.int v261), .val (.int (4 : Int32)), .val (.int v183), .val (.int v185)]) rfl k) ?_
            show ORun p e below s _ _ _ T272 (mkF m 123 #[.val (.long q1), .second, .val (.ref a1), .val (.int p3), .val (.int v268), .val (.long v133), .second, .val (.int v259), .val (.int v295), .val (.int v261), .val (.int (4 : Int32)), .val (.int v183), .val (.int v185)] [])
            refine own_by (fun t k => XS.iload X272.here hx rfl (hb hby d1_123) rfl k) ?_
            show ORun p e below s _ _ _ T272 (mkF m 125 #[.val (.long q1), .second, .val (.ref a1), .val (.int p3), .val (.int v268), .val (.long v133), .second, .val (.int v259), .val (.int v295), .val (.int v261), .val (.int (4 : Int32)), .val (.int v183), .val (.int v185)] [(.int v259)])
            refine own_by (fun t k => XS.bipush X272.here hx rfl (hb hby d1_125) k) ?_
            show ORun p e below s _ _ _ T272 (mkF m 127 #[.val (.long q1), .second, .val (.ref a1), .val (.int p3), .val (.int v268), .val (.long v133), .second, .val (.int v259), .val (.int v295), .val (.int v261), .val (.int (4 : Int32)), .val (.int v183), .val (.int v185)] [(.int (100 : Int32)), (.int v259)])
            refine own_by (fun t k => XS.iload X272.here hx rfl (hb hby d1_127) rfl k) ?_
            show ORun p e below s _ _ _ T272 (mkF m 129 #[.val (.long q1), .second, .val (.ref a1), .val (.int p3), .val (.int v268), .val (.long v133), .second, .val (.int v259), .val (.int v295), .val (.int v261), .val (.int (4 : Int32)), .val (.int v183), .val (.int v185)] [(.int v295), (.int (100 : Int32)), (.int v259)])
            refine own_by (fun t k => XS.imul X272.here hx rfl (hb hby d1_129) rfl k) (own_letI (f := (fun z => (mkF m 130 #[.val (.long q1), .second, .val (.ref a1), .val (.int p3), .val (.int v268), .val (.long v133), .second, .val (.int v259), .val (.int v295), .val (.int v261), .val (.int (4 : Int32)), .val (.int v183), .val (.int v185)] [(.int z), (.int v259)]))) ((100 : Int32) * v295) fun v296 hv296 => ?_)
            show ORun p e below s _ _ _ T272 (mkF m 130 #[.val (.long q1), .second, .val (.ref a1), .val (.int p3), .val (.int v268), .val (.long v133), .second, .val (.int v259), .val (.int v295), .val (.int v261), .val (.int (4 : Int32)), .val (.int v183), .val (.int v185)] [(.int v296), (.int v259)])
            have r296 := rng32 v296
            have a296 : v296.toInt = 100 * v295.toInt := by
              have q : (v296.toInt - (100 * v295.toInt)) % 4294967296 = 0 := by rw [hv296]; exact c_imul (100 : Int32) v295
              omega
            refine own_by (fun t k => XS.isub X272.here hx rfl (hb hby d1_130) rfl k) (own_letI (f := (fun z => (mkF m 131 #[.val (.long q1), .second, .val (.ref a1), .val (.int p3), .val (.int v268), .val (.long v133), .second, .val (.int v259), .val (.int v295), .val (.int v261), .val (.int (4 : Int32)), .val (.int v183), .val (.int v185)] [(.int z)]))) (v259 - v296) fun v297 hv297 => ?_)
            show ORun p e below s _ _ _ T272 (mkF m 131 #[.val (.long q1), .second, .val (.ref a1), .val (.int p3), .val (.int v268), .val (.long v133), .second, .val (.int v259), .val (.int v295), .val (.int v261), .val (.int (4 : Int32)), .val (.int v183), .val (.int v185)] [(.int v297)])
            have r297 := rng32 v297
            have a297 : v297.toInt = v259.toInt - v296.toInt := by
              have q : (v297.toInt - (v259.toInt - v296.toInt)) % 4294967296 = 0 := by rw [hv297]; exact c_isub v259 v296
              omega
            refine own_by (fun t k => XS.istore X272.here hx rfl (hb hby d1_131) rfl (l' := #[.val (.long q1), .second, .val (.ref a1), .val (.int p3), .val (.int v268), .val (.long v133), .second, .val (.int v259), .val (.int v295), .val (.int v297), .val (.int (4 : Int32)), .val (.int v183), .val (.int v185)]) rfl k) ?_
            show ORun p e below s _ _ _ T272 (mkF m 133 #[.val (.long q1), .second, .val (.ref a1), .val (.int p3), .val (.int v268), .val (.long v133), .second, .val (.int v259), .val (.int v295), .val (.int v297), .val (.int (4 : Int32)), .val (.int v183), .val (.int v185)] [])
            have f3_298 := own_fit3 (q := qk273) (w := wk273) (by omega) fi273
            refine own_by (fun t k => XS.aloadN X272.here hx rfl (hb hby d1_133) rfl rfl k) ?_
            show ORun p e below s _ _ _ T272 (mkF m 134 #[.val (.long q1), .second, .val (.ref a1), .val (.int p3), .val (.int v268), .val (.long v133), .second, .val (.int v259), .val (.int v295), .val (.int v297), .val (.int (4 : Int32)), .val (.int v183), .val (.int v185)] [(.ref a1)])
            refine own_by (fun t k => XS.iinc X272.here hx rfl (hb hby d1_134) rfl (l' := #[.val (.long q1), .second, .val (.ref a1), .val (.int p3), .val (.int (v268 + (-1 : Int32))), .val (.long v133), .second, .val (.int v259), .val (.int v295), .val (.int v297), .val (.int (4 : Int32)), .val (.int v183), .val (.int v185)]) rfl k) (own_letI (f := (fun z => (mkF m 137 #[.val (.long q1), .second, .val (.ref a1), .val (.int p3), .val (.int z), .val (.long v133), .second, .val (.int v259), .val (.int v295), .val (.int v297), .val (.int (4 : Int32)), .val (.int v183), .val (.int v185)] [(.ref a1)]))) (v268 + (-1 : Int32)) fun v299 hv299 => ?_)
            show ORun p e below s _ _ _ T272 (mkF m 137 #[.val (.long q1), .second, .val (.ref a1), .val (.int p3), .val (.int v299), .val (.long v133), .second, .val (.int v259), .val (.int v295), .val (.int v297), .val (.int (4 : Int32)), .val (.int v183), .val (.int v185)] [(.ref a1)])
            have r299 := rng32 v299
            have a299 : v299.toInt = v268.toInt + (-1) := by have q : (v299.toInt - (v268.toInt + (-1))) % 4294967296 = 0 := (by rw [hv299]; exact c_iadd v268 (-1 : Int32)); omega
            refine own_by (fun t k => XS.iload X272.here hx rfl (hb hby d1_137) rfl k) ?_
            show ORun p e below s _ _ _ T272 (mkF m 139 #[.val (.long q1), .second, .val (.ref a1), .val (.int p3), .val (.int v299), .val (.long v133), .second, .val (.int v259), .val (.int v295), .val (.int v297), .val (.int (4 : Int32)), .val (.int v183), .val (.int v185)] [(.int v299), (.ref a1)])
            obtain ⟨T300, X300, e300, st300⟩ := getS2 X272 hx hZ hown (host := "") (Or.inl (hw _ (List.mem_of_getElem? (i := 31) rfl))) Via.refl e272 ((((((((((((S1.wr W146).wr W151).wr W161).wr W166).wr W176).wr W181).wr W191).wr W196).wr W231).wr W236).wr W267).wr W272) (g := (mkF m 139 #[.val (.long q1), .second, .val (.ref a1), .val (.int p3), .val (.int v299), .val (.long v133), .second, .val (.int v259), .val (.int v295), .val (.int v297), .val (.int (4 : Int32)), .val (.int v183), .val (.int v185)] [(.int v299), (.ref a1)])) rfl (hb hby d1_139)
            refine own_by st300 ?_
            show ORun p e below s _ _ _ T300 (mkF m 142 #[.val (.long q1), .second, .val (.ref a1), .val (.int p3), .val (.int v299), .val (.long v133), .second, .val (.int v259), .val (.int v295), .val (.int v297), .val (.int (4 : Int32)), .val (.int v183), .val (.int v185)] [(.ref d1), (.int v299), (.ref a1)])
            refine own_by (fun t k => XS.iload X300.here hx rfl (hb hby d1_142) rfl k) ?_
            show ORun p e below s _ _ _ T300 (mkF m 144 #[.val (.long q1), .second, .val (.ref a1), .val (.int p3), .val (.int v299), .val (.long v133), .second, .val (.int v259), .val (.int v295), .val (.int v297), .val (.int (4 : Int32)), .val (.int v183), .val (.int v185)] [(.int v297), (.ref d1), (.int v299), (.ref a1)])
            refine own_baload X300 hx hZ e300 ((((((((((((V1.other W146 ne_d1).other W151 ne_d1).other W161 ne_d1).other W166 ne_d1).other W176 ne_d1).other W181 ne_d1).other W191 ne_d1).other W196 ne_d1).other W231 ne_d1).other W236 ne_d1).other W267 ne_d1).other W272 ne_d1) (i := v297.toInt.toNat) (by omega) (by omega) (hb hby d1_144) ?_
            intro v301 hv301
            have r301 := rng32 v301
            show ORun p e below s _ _ _ T300 (mkF m 145 #[.val (.long q1), .second, .val (.ref a1), .val (.int p3), .val (.int v299), .val (.long v133), .second, .val (.int v259), .val (.int v295), .val (.int v297), .val (.int (4 : Int32)), .val (.int v183), .val (.int v185)] [(.int v301), (.int v299), (.ref a1)])
            have f302 := hO1 v297.toInt.toNat (by omega)
            rw [← hv301] at f302
            have nb302 : (nar .byte v301).toInt = v301.toInt := by have q := c_i2b v301; show v301.toInt8.toInt32.toInt = _; omega
            refine own_bastore X300 hx hZ e300 V272 (i := v299.toInt.toNat) (by omega) (by omega) (hb hby d1_145) ?_
            intro T303 h303 L303 X303 e303 W303 hL303 V303
            have len303 : L303.length = 21 := by rw [hL303, List.length_set]; exact len272
            have N303 := Fr.snoc X303 N272 g1
            show ORun p e below s _ _ _ T303 (mkF m 146 #[.val (.long q1), .second, .val (.ref a1), .val (.int p3), .val (.int v299), .val (.long v133), .second, .val (.int v259), .val (.int v295), .val (.int v297), .val (.int (4 : Int32)), .val (.int v183), .val (.int v185)] [])
            refine own_by (fun t k => XS.aloadN X303.here hx rfl (hb hby d1_146) rfl rfl k) ?_
            show ORun p e below s _ _ _ T303 (mkF m 147 #[.val (.long q1), .second, .val (.ref a1), .val (.int p3), .val (.int v299), .val (.long v133), .second, .val (.int v259), .val (.int v295), .val (.int v297), .val (.int (4 : Int32)), .val (.int v183), .val (.int v185)] [(.ref a1)])
            refine own_by (fun t k => XS.iinc X303.here hx rfl (hb hby d1_147) rfl (l' := #[.val (.long q1), .second, .val (.ref a1), .val (.int p3), .val (.int (v299 + (-1 : Int32))), .val (.long v133), .second, .val (.int v259), .val (.int v295), .val (.int v297), .val (.int (4 : Int32)), .val (.int v183), .val (.int v185)]) rfl k) (own_letI (f := (fun z => (mkF m 150 #[.val (.long q1), .second, .val (.ref a1), .val (.int p3), .val (.int z), .val (.long v133), .second, .val (.int v259), .val (.int v295), .val (.int v297), .val (.int (4 : Int32)), .val (.int v183), .val (.int v185)] [(.ref a1)]))) (v299 + (-1 : Int32)) fun v304 hv304 => ?_)
            show ORun p e below s _ _ _ T303 (mkF m 150 #[.val (.long q1), .second, .val (.ref a1), .val (.int p3), .val (.int v304), .val (.long v133), .second, .val (.int v259), .val (.int v295), .val (.int v297), .val (.int (4 : Int32)), .val (.int v183), .val (.int v185)] [(.ref a1)])
            have r304 := rng32 v304
            have a304 : v304.toInt = v299.toInt + (-1) := by have q : (v304.toInt - (v299.toInt + (-1))) % 4294967296 = 0 := (by rw [hv304]; exact c_iadd v299 (-1 : Int32)); omega
            refine own_by (fun t k => XS.iload X303.here hx rfl (hb hby d1_150) rfl k) ?_
            show ORun p e below s _ _ _ T303 (mkF m 152 #[.val (.long q1), .second, .val (.ref a1), .val (.int p3), .val (.int v304), .val (.long v133), .second, .val (.int v259), .val (.int v295), .val (.int v297), .val (.int (4 : Int32)), .val (.int v183), .val (.int v185)] [(.int v304), (.ref a1)])
            obtain ⟨T305, X305, e305, st305⟩ := getS2 X303 hx hZ hown (host := "") (Or.inl (hw _ (List.mem_of_getElem? (i := 33) rfl))) Via.refl e303 (((((((((((((S2.wr W146).wr W151).wr W161).wr W166).wr W176).wr W181).wr W191).wr W196).wr W231).wr W236).wr W267).wr W272).wr W303) (g := (mkF m 152 #[.val (.long q1), .second, .val (.ref a1), .val (.int p3), .val (.int v304), .val (.long v133), .second, .val (.int v259), .val (.int v295), .val (.int v297), .val (.int (4 : Int32)), .val (.int v183), .val (.int v185)] [(.int v304), (.ref a1)])) rfl (hb hby d1_152)
            refine own_by st305 ?_
            show ORun p e below s _ _ _ T305 (mkF m 155 #[.val (.long q1), .second, .val (.ref a1), .val (.int p3), .val (.int v304), .val (.long v133), .second, .val (.int v259), .val (.int v295), .val (.int v297), .val (.int (4 : Int32)), .val (.int v183), .val (.int v185)] [(.ref d2), (.int v304), (.ref a1)])
            refine own_by (fun t k => XS.iload X305.here hx rfl (hb hby d1_155) rfl k) ?_
            show ORun p e below s _ _ _ T305 (mkF m 157 #[.val (.long q1), .second, .val (.ref a1), .val (.int p3), .val (.int v304), .val (.long v133), .second, .val (.int v259), .val (.int v295), .val (.int v297), .val (.int (4 : Int32)), .val (.int v183), .val (.int v185)] [(.int v297), (.ref d2), (.int v304), (.ref a1)])
            refine own_baload X305 hx hZ e305 (((((((((((((V2.other W146 ne_d2).other W151 ne_d2).other W161 ne_d2).other W166 ne_d2).other W176 ne_d2).other W181 ne_d2).other W191 ne_d2).other W196 ne_d2).other W231 ne_d2).other W236 ne_d2).other W267 ne_d2).other W272 ne_d2).other W303 ne_d2) (i := v297.toInt.toNat) (by omega) (by omega) (hb hby d1_157) ?_
            intro v306 hv306
            have r306 := rng32 v306
            show ORun p e below s _ _ _ T305 (mkF m 158 #[.val (.long q1), .second, .val (.ref a1), .val (.int p3), .val (.int v304), .val (.long v133), .second, .val (.int v259), .val (.int v295), .val (.int v297), .val (.int (4 : Int32)), .val (.int v183), .val (.int v185)] [(.int v306), (.int v304), (.ref a1)])
            have f307 := hT1 v297.toInt.toNat (by omega)
            rw [← hv306] at f307
            have nb307 : (nar .byte v306).toInt = v306.toInt := by have q := c_i2b v306; show v306.toInt8.toInt32.toInt = _; omega
            refine own_bastore X305 hx hZ e305 V303 (i := v304.toInt.toNat) (by omega) (by omega) (hb hby d1_158) ?_
            intro T308 h308 L308 X308 e308 W308 hL308 V308
            have len308 : L308.length = 21 := by rw [hL308, List.length_set]; exact len303
            have N308 := Fr.snoc X308 N303 g1
            show ORun p e below s _ _ _ T308 (mkF m 159 #[.val (.long q1), .second, .val (.ref a1), .val (.int p3), .val (.int v304), .val (.long v133), .second, .val (.int v259), .val (.int v295), .val (.int v297), .val (.int (4 : Int32)), .val (.int v183), .val (.int v185)] [])
            have pk309 := own_pair (q := qk273) (w := wk273) (i := v299.toInt.toNat) (j := v304.toInt.toNat) (by omega) fi273 (by omega) (by omega) hL303 hL308 (by omega) (by omega)
            obtain ⟨wk309, hwk309⟩ : ∃ w, w = wk273 / 100 := ⟨_, rfl⟩
            obtain ⟨qk309, hqk309⟩ : ∃ q, q = v304.toInt.toNat := ⟨_, rfl⟩
            rw [← hwk309, ← hqk309] at pk309
            obtain ⟨pe309, fi309⟩ := pk309
            have ch309 := Eq.trans ch273 pe309
            have at309 : v304.toInt = (qk309 : Int) := by omega
            have qb309 : 1 ≤ qk309 ∧ qk309 ≤ 20 := by omega
            have lo309 : v295.toInt = (wk309 : Int) := by omega
            have bw309 : wk309 < 100 := by omega
            clear t274 a295 r295 a296 r296 a297 r297 f3_298 a299 r299 r301 f302 nb302 a304 r304 r306 f307 nb307 at273 qb273 lo273 bw273 len272 len303 fi273 hwk309 hqk309
            refine own_by (fun t k => XS.iload X308.here hx rfl (hb hby d1_159) rfl k) ?_
            show ORun p e below s _ _ _ T308 (mkF m 161 #[.val (.long q1), .second, .val (.ref a1), .val (.int p3), .val (.int v304), .val (.long v133), .second, .val (.int v259), .val (.int v295), .val (.int v297), .val (.int (4 : Int32)), .val (.int v183), .val (.int v185)] [(.int v295)])
            refine own_by (fun t k => XS.istore X308.here hx rfl (hb hby d1_161) rfl (l' := #[.val (.long q1), .second, .val (.ref a1), .val (.int p3), .val (.int v304), .val (.long v133), .second, .val (.int v295), .val (.int v295), .val (.int v297), .val (.int (4 : Int32)), .val (.int v183), .val (.int v185)]) rfl k) ?_
            show ORun p e below s _ _ _ T308 (mkF m 163 #[.val (.long q1), .second, .val (.ref a1), .val (.int p3), .val (.int v304), .val (.long v133), .second, .val (.int v295), .val (.int v295), .val (.int v297), .val (.int (4 : Int32)), .val (.int v183), .val (.int v185)] [])
            refine own_by (fun t k => XS.goto X308.here hx rfl (pc0 := 163) (pc' := 109) rfl (hb hby d1_163) (by decide) (by decide) k) ?_
            show ORun p e below s _ _ _ T308 (mkF m 109 #[.val (.long q1), .second, .val (.ref a1), .val (.int p3), .val (.int v304), .val (.long v133), .second, .val (.int v295), .val (.int v295), .val (.int v297), .val (.int (4 : Int32)), .val (.int v183), .val (.int v185)] [])
            refine own_by (fun t k => XS.iload X308.here hx rfl (hb hby d1_109) rfl k) ?_
            show ORun p e below s _ _ _ T308 (mkF m 111 #[.val (.long q1), .second, .val (.ref a1), .val (.int p3), .val (.int v304), .val (.long v133), .second, .val (.int v295), .val (.int v295), .val (.int v297), .val (.int (4 : Int32)), .val (.int v183), .val (.int v185)] [(.int v295)])
            refine own_by (fun t k => XS.bipush X308.here hx rfl (hb hby d1_111) k) ?_
            show ORun p e below s _ _ _ T308 (mkF m 113 #[.val (.long q1), .second, .val (.ref a1), .val (.int p3), .val (.int v304), .val (.long v133), .second, .val (.int v295), .val (.int v295), .val (.int v297), .val (.int (4 : Int32)), .val (.int v183), .val (.int v185)] [(.int (100 : Int32)), (.int v295)])
            by_cases hc310 : v295 < (100 : Int32)
            · have t310 := own_lt hc310 (a := v295.toInt) (b := 100) rfl (by decide)
              refine own_by (fun t k => XS.icmpYes X308.here hx rfl (pc0 := 113) (pc' := 166) rfl (hb hby d1_113) rfl (tlt hc310).1 (by decide) (by decide) k) ?_
              show ORun p e below s _ _ _ T308 (mkF m 166 #[.val (.long q1), .second, .val (.ref a1), .val (.int p3), .val (.int v304), .val (.long v133), .second, .val (.int v295), .val (.int v295), .val (.int v297), .val (.int (4 : Int32)), .val (.int v183), .val (.int v185)] [])
              refine own_by (fun t k => XS.iload X308.here hx rfl (hb hby d1_166) rfl k) ?_
              show ORun p e below s _ _ _ T308 (mkF m 168 #[.val (.long q1), .second, .val (.ref a1), .val (.int p3), .val (.int v304), .val (.long v133), .second, .val (.int v295), .val (.int v295), .val (.int v297), .val (.int (4 : Int32)), .val (.int v183), .val (.int v185)] [(.int v295)])
              refine own_by (fun t k => XS.bipush X308.here hx rfl (hb hby d1_168) k) ?_
              show ORun p e below s _ _ _ T308 (mkF m 170 #[.val (.long q1), .second, .val (.ref a1), .val (.int p3), .val (.int v304), .val (.long v133), .second, .val (.int v295), .val (.int v295), .val (.int v297), .val (.int (4 : Int32)), .val (.int v183), .val (.int v185)] [(.int (10 : Int32)), (.int v295)])
              by_cases hc311 : v295 < (10 : Int32)
              · have t311 := own_lt hc311 (a := v295.toInt) (b := 10) rfl (by decide)
                refine own_by (fun t k => XS.icmpYes X308.here hx rfl (pc0 := 170) (pc' := 202) rfl (hb hby d1_170) rfl (tlt hc311).1 (by decide) (by decide) k) ?_
                show ORun p e below s _ _ _ T308 (mkF m 202 #[.val (.long q1), .second, .val (.ref a1), .val (.int p3), .val (.int v304), .val (.long v133), .second, .val (.int v295), .val (.int v295), .val (.int v297), .val (.int (4 : Int32)), .val (.int v183), .val (.int v185)] [])
                have f1_312 : 1 ≤ qk309 := by omega
                refine own_by (fun t k => XS.aloadN X308.here hx rfl (hb hby d1_202) rfl rfl k) ?_
                show ORun p e below s _ _ _ T308 (mkF m 203 #[.val (.long q1), .second, .val (.ref a1), .val (.int p3), .val (.int v304), .val (.long v133), .second, .val (.int v295), .val (.int v295), .val (.int v297), .val (.int (4 : Int32)), .val (.int v183), .val (.int v185)] [(.ref a1)])
                refine own_by (fun t k => XS.iinc X308.here hx rfl (hb hby d1_203) rfl (l' := #[.val (.long q1), .second, .val (.ref a1), .val (.int p3), .val (.int (v304 + (-1 : Int32))), .val (.long v133), .second, .val (.int v295), .val (.int v295), .val (.int v297), .val (.int (4 : Int32)), .val (.int v183), .val (.int v185)]) rfl k) (own_letI (f := (fun z => (mkF m 206 #[.val (.long q1), .second, .val (.ref a1), .val (.int p3), .val (.int z), .val (.long v133), .second, .val (.int v295), .val (.int v295), .val (.int v297), .val (.int (4 : Int32)), .val (.int v183), .val (.int v185)] [(.ref a1)]))) (v304 + (-1 : Int32)) fun v313 hv313 => ?_)
                show ORun p e below s _ _ _ T308 (mkF m 206 #[.val (.long q1), .second, .val (.ref a1), .val (.int p3), .val (.int v313), .val (.long v133), .second, .val (.int v295), .val (.int v295), .val (.int v297), .val (.int (4 : Int32)), .val (.int v183), .val (.int v185)] [(.ref a1)])
                have r313 := rng32 v313
                have a313 : v313.toInt = v304.toInt + (-1) := by have q : (v313.toInt - (v304.toInt + (-1))) % 4294967296 = 0 := (by rw [hv313]; exact c_iadd v304 (-1 : Int32)); omega
                refine own_by (fun t k => XS.iload X308.here hx rfl (hb hby d1_206) rfl k) ?_
                show ORun p e below s _ _ _ T308 (mkF m 208 #[.val (.long q1), .second, .val (.ref a1), .val (.int p3), .val (.int v313), .val (.long v133), .second, .val (.int v295), .val (.int v295), .val (.int v297), .val (.int (4 : Int32)), .val (.int v183), .val (.int v185)] [(.int v313), (.ref a1)])
                refine own_by (fun t k => XS.bipush X308.here hx rfl (hb hby d1_208) k) ?_
                show ORun p e below s _ _ _ T308 (mkF m 210 #[.val (.long q1), .second, .val (.ref a1), .val (.int p3), .val (.int v313), .val (.long v133), .second, .val (.int v295), .val (.int v295), .val (.int v297), .val (.int (4 : Int32)), .val (.int v183), .val (.int v185)] [(.int (48 : Int32)), (.int v313), (.ref a1)])
                refine own_by (fun t k => XS.iload X308.here hx rfl (hb hby d1_210) rfl k) ?_
                show ORun p e below s _ _ _ T308 (mkF m 212 #[.val (.long q1), .second, .val (.ref a1), .val (.int p3), .val (.int v313), .val (.long v133), .second, .val (.int v295), .val (.int v295), .val (.int v297), .val (.int (4 : Int32)), .val (.int v183), .val (.int v185)] [(.int v295), (.int (48 : Int32)), (.int v313), (.ref a1)])
                refine own_by (fun t k => XS.iadd X308.here hx rfl (hb hby d1_212) rfl k) (own_letI (f := (fun z => (mkF m 213 #[.val (.long q1), .second, .val (.ref a1), .val (.int p3), .val (.int v313), .val (.long v133), .second, .val (.int v295), .val (.int v295), .val (.int v297), .val (.int (4 : Int32)), .val (.int v183), .val (.int v185)] [(.int z), (.int v313), (.ref a1)]))) ((48 : Int32) + v295) fun v314 hv314 => ?_)
                show ORun p e below s _ _ _ T308 (mkF m 213 #[.val (.long q1), .second, .val (.ref a1), .val (.int p3), .val (.int v313), .val (.long v133), .second, .val (.int v295), .val (.int v295), .val (.int v297), .val (.int (4 : Int32)), .val (.int v183), .val (.int v185)] [(.int v314), (.int v313), (.ref a1)])
                have r314 := rng32 v314
                have a314 : v314.toInt = 48 + v295.toInt := by
                  have q : (v314.toInt - (48 + v295.toInt)) % 4294967296 = 0 := by rw [hv314]; exact c_iadd (48 : Int32) v295
                  omega
                refine own_by (fun t k => XS.i2b X308.here hx rfl (hb hby d1_213) rfl k) (own_letI (f := (fun z => (mkF m 214 #[.val (.long q1), .second, .val (.ref a1), .val (.int p3), .val (.int v313), .val (.long v133), .second, .val (.int v295), .val (.int v295), .val (.int v297), .val (.int (4 : Int32)), .val (.int v183), .val (.int v185)] [(.int z), (.int v313), (.ref a1)]))) (v314.toInt8.toInt32) fun v315 hv315 => ?_)
                show ORun p e below s _ _ _ T308 (mkF m 214 #[.val (.long q1), .second, .val (.ref a1), .val (.int p3), .val (.int v313), .val (.long v133), .second, .val (.int v295), .val (.int v295), .val (.int v297), .val (.int (4 : Int32)), .val (.int v183), .val (.int v185)] [(.int v315), (.int v313), (.ref a1)])
                have r315 := rng32 v315
                have a315 : v315.toInt = v314.toInt := by
                  have q : (v315.toInt - v314.toInt) % 256 = 0 ∧ -128 ≤ v315.toInt ∧ v315.toInt < 128 := by rw [hv315]; exact c_i2b v314
                  omega
                have nb316 : (nar .byte v315).toInt = v315.toInt := by have q := c_i2b v315; show v315.toInt8.toInt32.toInt = _; omega
                refine own_bastore X308 hx hZ e308 V308 (i := v313.toInt.toNat) (by omega) (by omega) (hb hby d1_214) ?_
                intro T317 h317 L317 X317 e317 W317 hL317 V317
                have len317 : L317.length = 21 := by rw [hL317, List.length_set]; exact len308
                have N317 := Fr.snoc X317 N308 g1
                show ORun p e below s _ _ _ T317 (mkF m 215 #[.val (.long q1), .second, .val (.ref a1), .val (.int p3), .val (.int v313), .val (.long v133), .second, .val (.int v295), .val (.int v295), .val (.int v297), .val (.int (4 : Int32)), .val (.int v183), .val (.int v185)] [])
                refine own_retV X317 hx hret hlk (hb hby d1_215) (by decide) (by decide) ?_
                have fin318 := Eq.trans ch309 (own_last1 (q := qk309) (w := wk309) (i := v313.toInt.toNat) (by omega) (by omega) hL317 (by omega))
                rw [e317]
                refine ⟨rfl, N317, ((((((((((((((((Keep.refl h0 [a1]).wr W146 (Or.inl (List.mem_of_getElem? (i := 0) rfl))).wr W151 (Or.inl (List.mem_of_getElem? (i := 0) rfl))).wr W161 (Or.inl (List.mem_of_getElem? (i := 0) rfl))).wr W166 (Or.inl (List.mem_of_getElem? (i := 0) rfl))).wr W176 (Or.inl (List.mem_of_getElem? (i := 0) rfl))).wr W181 (Or.inl (List.mem_of_getElem? (i := 0) rfl))).wr W191 (Or.inl (List.mem_of_getElem? (i := 0) rfl))).wr W196 (Or.inl (List.mem_of_getElem? (i := 0) rfl))).wr W231 (Or.inl (List.mem_of_getElem? (i := 0) rfl))).wr W236 (Or.inl (List.mem_of_getElem? (i := 0) rfl))).wr W267 (Or.inl (List.mem_of_getElem? (i := 0) rfl))).wr W272 (Or.inl (List.mem_of_getElem? (i := 0) rfl))).wr W303 (Or.inl (List.mem_of_getElem? (i := 0) rfl))).wr W308 (Or.inl (List.mem_of_getElem? (i := 0) rfl))).wr W317 (Or.inl (List.mem_of_getElem? (i := 0) rfl))), ?_⟩
                rw [fin318]
                exact V317
              · have t311 := own_nlt hc311 (a := v295.toInt) (b := 10) rfl (by decide)
                refine own_by (fun t k => XS.icmpNo X308.here hx rfl (hb hby d1_170) rfl (flt hc311).1 k) ?_
                show ORun p e below s _ _ _ T308 (mkF m 173 #[.val (.long q1), .second, .val (.ref a1), .val (.int p3), .val (.int v304), .val (.long v133), .second, .val (.int v295), .val (.int v295), .val (.int v297), .val (.int (4 : Int32)), .val (.int v183), .val (.int v185)] [])
                have f2_319 := own_fit2 (q := qk309) (w := wk309) (by omega) fi309
                refine own_by (fun t k => XS.aloadN X308.here hx rfl (hb hby d1_173) rfl rfl k) ?_
                show ORun p e below s _ _ _ T308 (mkF m 174 #[.val (.long q1), .second, .val (.ref a1), .val (.int p3), .val (.int v304), .val (.long v133), .second, .val (.int v295), .val (.int v295), .val (.int v297), .val (.int (4 : Int32)), .val (.int v183), .val (.int v185)] [(.ref a1)])
                refine own_by (fun t k => XS.iinc X308.here hx rfl (hb hby d1_174) rfl (l' := #[.val (.long q1), .second, .val (.ref a1), .val (.int p3), .val (.int (v304 + (-1 : Int32))), .val (.long v133), .second, .val (.int v295), .val (.int v295), .val (.int v297), .val (.int (4 : Int32)), .val (.int v183), .val (.int v185)]) rfl k) (own_letI (f := (fun z => (mkF m 177 #[.val (.long q1), .second, .val (.ref a1), .val (.int p3), .val (.int z), .val (.long v133), .second, .val (.int v295), .val (.int v295), .val (.int v297), .val (.int (4 : Int32)), .val (.int v183), .val (.int v185)] [(.ref a1)]))) (v304 + (-1 : Int32)) fun v320 hv320 => ?_)
                show ORun p e below s _ _ _ T308 (mkF m 177 #[.val (.long q1), .second, .val (.ref a1), .val (.int p3), .val (.int v320), .val (.long v133), .second, .val (.int v295), .val (.int v295), .val (.int v297), .val (.int (4 : Int32)), .val (.int v183), .val (.int v185)] [(.ref a1)])
                have r320 := rng32 v320
                have a320 : v320.toInt = v304.toInt + (-1) := by have q : (v320.toInt - (v304.toInt + (-1))) % 4294967296 = 0 := (by rw [hv320]; exact c_iadd v304 (-1 : Int32)); omega
                refine own_by (fun t k => XS.iload X308.here hx rfl (hb hby d1_177) rfl k) ?_
                show ORun p e below s _ _ _ T308 (mkF m 179 #[.val (.long q1), .second, .val (.ref a1), .val (.int p3), .val (.int v320), .val (.long v133), .second, .val (.int v295), .val (.int v295), .val (.int v297), .val (.int (4 : Int32)), .val (.int v183), .val (.int v185)] [(.int v320), (.ref a1)])
                obtain ⟨T321, X321, e321, st321⟩ := getS2 X308 hx hZ hown (host := "") (Or.inl (hw _ (List.mem_of_getElem? (i := 31) rfl))) Via.refl e308 ((((((((((((((S1.wr W146).wr W151).wr W161).wr W166).wr W176).wr W181).wr W191).wr W196).wr W231).wr W236).wr W267).wr W272).wr W303).wr W308) (g := (mkF m 179 #[.val (.long q1), .second, .val (.ref a1), .val (.int p3), .val (.int v320), .val (.long v133), .second, .val (.int v295), .val (.int v295), .val (.int v297), .val (.int (4 : Int32)), .val (.int v183), .val (.int v185)] [(.int v320), (.ref a1)])) rfl (hb hby d1_179)
                refine own_by st321 ?_
                show ORun p e below s _ _ _ T321 (mkF m 182 #[.val (.long q1), .second, .val (.ref a1), .val (.int p3), .val (.int v320), .val (.long v133), .second, .val (.int v295), .val (.int v295), .val (.int v297), .val (.int (4 : Int32)), .val (.int v183), .val (.int v185)] [(.ref d1), (.int v320), (.ref a1)])
                refine own_by (fun t k => XS.iload X321.here hx rfl (hb hby d1_182) rfl k) ?_
                show ORun p e below s _ _ _ T321 (mkF m 184 #[.val (.long q1), .second, .val (.ref a1), .val (.int p3), .val (.int v320), .val (.long v133), .second, .val (.int v295), .val (.int v295), .val (.int v297), .val (.int (4 : Int32)), .val (.int v183), .val (.int v185)] [(.int v295), (.ref d1), (.int v320), (.ref a1)])
                refine own_baload X321 hx hZ e321 ((((((((((((((V1.other W146 ne_d1).other W151 ne_d1).other W161 ne_d1).other W166 ne_d1).other W176 ne_d1).other W181 ne_d1).other W191 ne_d1).other W196 ne_d1).other W231 ne_d1).other W236 ne_d1).other W267 ne_d1).other W272 ne_d1).other W303 ne_d1).other W308 ne_d1) (i := v295.toInt.toNat) (by omega) (by omega) (hb hby d1_184) ?_
                intro v322 hv322
                have r322 := rng32 v322
                show ORun p e below s _ _ _ T321 (mkF m 185 #[.val (.long q1), .second, .val (.ref a1), .val (.int p3), .val (.int v320), .val (.long v133), .second, .val (.int v295), .val (.int v295), .val (.int v297), .val (.int (4 : Int32)), .val (.int v183), .val (.int v185)] [(.int v322), (.int v320), (.ref a1)])
                have f323 := hO1 v295.toInt.toNat (by omega)
                rw [← hv322] at f323
                have nb323 : (nar .byte v322).toInt = v322.toInt := by have q := c_i2b v322; show v322.toInt8.toInt32.toInt = _; omega
                refine own_bastore X321 hx hZ e321 V308 (i := v320.toInt.toNat) (by omega) (by omega) (hb hby d1_185) ?_
                intro T324 h324 L324 X324 e324 W324 hL324 V324
                have len324 : L324.length = 21 := by rw [hL324, List.length_set]; exact len308
                have N324 := Fr.snoc X324 N308 g1
                show ORun p e below s _ _ _ T324 (mkF m 186 #[.val (.long q1), .second, .val (.ref a1), .val (.int p3), .val (.int v320), .val (.long v133), .second, .val (.int v295), .val (.int v295), .val (.int v297), .val (.int (4 : Int32)), .val (.int v183), .val (.int v185)] [])
                refine own_by (fun t k => XS.aloadN X324.here hx rfl (hb hby d1_186) rfl rfl k) ?_
                show ORun p e below s _ _ _ T324 (mkF m 187 #[.val (.long q1), .second, .val (.ref a1), .val (.int p3), .val (.int v320), .val (.long v133), .second, .val (.int v295), .val (.int v295), .val (.int v297), .val (.int (4 : Int32)), .val (.int v183), .val (.int v185)] [(.ref a1)])
                refine own_by (fun t k => XS.iinc X324.here hx rfl (hb hby d1_187) rfl (l' := #[.val (.long q1), .second, .val (.ref a1), .val (.int p3), .val (.int (v320 + (-1 : Int32))), .val (.long v133), .second, .val (.int v295), .val (.int v295), .val (.int v297), .val (.int (4 : Int32)), .val (.int v183), .val (.int v185)]) rfl k) (own_letI (f := (fun z => (mkF m 190 #[.val (.long q1), .second, .val (.ref a1), .val (.int p3), .val (.int z), .val (.long v133), .second, .val (.int v295), .val (.int v295), .val (.int v297), .val (.int (4 : Int32)), .val (.int v183), .val (.int v185)] [(.ref a1)]))) (v320 + (-1 : Int32)) fun v325 hv325 => ?_)
                show ORun p e below s _ _ _ T324 (mkF m 190 #[.val (.long q1), .second, .val (.ref a1), .val (.int p3), .val (.int v325), .val (.long v133), .second, .val (.int v295), .val (.int v295), .val (.int v297), .val (.int (4 : Int32)), .val (.int v183), .val (.int v185)] [(.ref a1)])
                have r325 := rng32 v325
                have a325 : v325.toInt = v320.toInt + (-1) := by have q : (v325.toInt - (v320.toInt + (-1))) % 4294967296 = 0 := (by rw [hv325]; exact c_iadd v320 (-1 : Int32)); omega
                refine own_by (fun t k => XS.iload X324.here hx rfl (hb hby d1_190) rfl k) ?_
                show ORun p e below s _ _ _ T324 (mkF m 192 #[.val (.long q1), .second, .val (.ref a1), .val (.int p3), .val (.int v325), .val (.long v133), .second, .val (.int v295), .val (.int v295), .val (.int v297), .val (.int (4 : Int32)), .val (.int v183), .val (.int v185)] [(.int v325), (.ref a1)])
                obtain ⟨T326, X326, e326, st326⟩ := getS2 X324 hx hZ hown (host := "") (Or.inl (hw _ (List.mem_of_getElem? (i := 33) rfl))) Via.refl e324 (((((((((((((((S2.wr W146).wr W151).wr W161).wr W166).wr W176).wr W181).wr W191).wr W196).wr W231).wr W236).wr W267).wr W272).wr W303).wr W308).wr W324) (g := (mkF m 192 #[.val (.long q1), .second, .val (.ref a1), .val (.int p3), .val (.int v325), .val (.long v133), .second, .val (.int v295), .val (.int v295), .val (.int v297), .val (.int (4 : Int32)), .val (.int v183), .val (.int v185)] [(.int v325), (.ref a1)])) rfl (hb hby d1_192)
                refine own_by st326 ?_
                show ORun p e below s _ _ _ T326 (mkF m 195 #[.val (.long q1), .second, .val (.ref a1), .val (.int p3), .val (.int v325), .val (.long v133), .second, .val (.int v295), .val (.int v295), .val (.int v297), .val (.int (4 : Int32)), .val (.int v183), .val (.int v185)] [(.ref d2), (.int v325), (.ref a1)])
                refine own_by (fun t k => XS.iload X326.here hx rfl (hb hby d1_195) rfl k) ?_
                show ORun p e below s _ _ _ T326 (mkF m 197 #[.val (.long q1), .second, .val (.ref a1), .val (.int p3), .val (.int v325), .val (.long v133), .second, .val (.int v295), .val (.int v295), .val (.int v297), .val (.int (4 : Int32)), .val (.int v183), .val (.int v185)] [(.int v295), (.ref d2), (.int v325), (.ref a1)])
                refine own_baload X326 hx hZ e326 (((((((((((((((V2.other W146 ne_d2).other W151 ne_d2).other W161 ne_d2).other W166 ne_d2).other W176 ne_d2).other W181 ne_d2).other W191 ne_d2).other W196 ne_d2).other W231 ne_d2).other W236 ne_d2).other W267 ne_d2).other W272 ne_d2).other W303 ne_d2).other W308 ne_d2).other W324 ne_d2) (i := v295.toInt.toNat) (by omega) (by omega) (hb hby d1_197) ?_
                intro v327 hv327
                have r327 := rng32 v327
                show ORun p e below s _ _ _ T326 (mkF m 198 #[.val (.long q1), .second, .val (.ref a1), .val (.int p3), .val (.int v325), .val (.long v133), .second, .val (.int v295), .val (.int v295), .val (.int v297), .val (.int (4 : Int32)), .val (.int v183), .val (.int v185)] [(.int v327), (.int v325), (.ref a1)])
                have f328 := hT1 v295.toInt.toNat (by omega)
                rw [← hv327] at f328
                have nb328 : (nar .byte v327).toInt = v327.toInt := by have q := c_i2b v327; show v327.toInt8.toInt32.toInt = _; omega
                refine own_bastore X326 hx hZ e326 V324 (i := v325.toInt.toNat) (by omega) (by omega) (hb hby d1_198) ?_
                intro T329 h329 L329 X329 e329 W329 hL329 V329
                have len329 : L329.length = 21 := by rw [hL329, List.length_set]; exact len324
                have N329 := Fr.snoc X329 N324 g1
                show ORun p e below s _ _ _ T329 (mkF m 199 #[.val (.long q1), .second, .val (.ref a1), .val (.int p3), .val (.int v325), .val (.long v133), .second, .val (.int v295), .val (.int v295), .val (.int v297), .val (.int (4 : Int32)), .val (.int v183), .val (.int v185)] [])
                refine own_by (fun t k => XS.goto X329.here hx rfl (pc0 := 199) (pc' := 215) rfl (hb hby d1_199) (by decide) (by decide) k) ?_
                show ORun p e below s _ _ _ T329 (mkF m 215 #[.val (.long q1), .second, .val (.ref a1), .val (.int p3), .val (.int v325), .val (.long v133), .second, .val (.int v295), .val (.int v295), .val (.int v297), .val (.int (4 : Int32)), .val (.int v183), .val (.int v185)] [])
                refine own_retV X329 hx hret hlk (hb hby d1_215) (by decide) (by decide) ?_
                have fin330 := Eq.trans ch309 (own_last2 (q := qk309) (w := wk309) (i := v320.toInt.toNat) (j := v325.toInt.toNat) (by omega) (by omega) (by omega) (by omega) hL324 hL329 (by omega) (by omega))
                rw [e329]
                refine ⟨rfl, N329, (((((((((((((((((Keep.refl h0 [a1]).wr W146 (Or.inl (List.mem_of_getElem? (i := 0) rfl))).wr W151 (Or.inl (List.mem_of_getElem? (i := 0) rfl))).wr W161 (Or.inl (List.mem_of_getElem? (i := 0) rfl))).wr W166 (Or.inl (List.mem_of_getElem? (i := 0) rfl))).wr W176 (Or.inl (List.mem_of_getElem? (i := 0) rfl))).wr W181 (Or.inl (List.mem_of_getElem? (i := 0) rfl))).wr W191 (Or.inl (List.mem_of_getElem? (i := 0) rfl))).wr W196 (Or.inl (List.mem_of_getElem? (i := 0) rfl))).wr W231 (Or.inl (List.mem_of_getElem? (i := 0) rfl))).wr W236 (Or.inl (List.mem_of_getElem? (i := 0) rfl))).wr W267 (Or.inl (List.mem_of_getElem? (i := 0) rfl))).wr W272 (Or.inl (List.mem_of_getElem? (i := 0) rfl))).wr W303 (Or.inl (List.mem_of_getElem? (i := 0) rfl))).wr W308 (Or.inl (List.mem_of_getElem? (i := 0) rfl))).wr W324 (Or.inl (List.mem_of_getElem? (i := 0) rfl))).wr W329 (Or.inl (List.mem_of_getElem? (i := 0) rfl))), ?_⟩
                rw [fin330]
                exact V329
            · have t310 := own_nlt hc310 (a := v295.toInt) (b := 100) rfl (by decide)
              exfalso
              omega
    · have t199 := own_nltL hc199 (a := v133.toInt) (b := 100000000) rfl (by decide)
      refine own_by (fun t k => XS.ifNo X196.here hx rfl (hb hby d1_12) rfl (own_lcnlt hc199).1 k) ?_
      show ORun p e below s _ _ _ T196 (mkF m 15 #[.val (.long q1), .second, .val (.ref a1), .val (.int p3), .val (.int v192), .val (.long v133), .second, .val (.long v133), .second, .val (.int v183), .val (.int (4 : Int32)), .val (.int v183), .val (.int v185)] [])
      refine own_by (fun t k => XS.lload X196.here hx rfl (hb hby d1_15) rfl k) ?_
      show ORun p e below s _ _ _ T196 (mkF m 17 #[.val (.long q1), .second, .val (.ref a1), .val (.int p3), .val (.int v192), .val (.long v133), .second, .val (.long v133), .second, .val (.int v183), .val (.int (4 : Int32)), .val (.int v183), .val (.int v185)] [(.long v133)])
      refine own_by (fun t k => X196.ldc2Long hx hown (mvT hZ (hw _ (List.mem_of_getElem? (i := 26) rfl))) (g := (mkF m 17 #[.val (.long q1), .second, .val (.ref a1), .val (.int p3), .val (.int v192), .val (.long v133), .second, .val (.long v133), .second, .val (.int v183), .val (.int (4 : Int32)), .val (.int v183), .val (.int v185)] [(.long v133)])) rfl (hb hby d1_17) _ k) ?_
      show ORun p e below s _ _ _ T196 (mkF m 20 #[.val (.long q1), .second, .val (.ref a1), .val (.int p3), .val (.int v192), .val (.long v133), .second, .val (.long v133), .second, .val (.int v183), .val (.int (4 : Int32)), .val (.int v183), .val (.int v185)] [(.long (100000000 : Int64)), (.long v133)])
      refine own_by (fun t k => XS.ldiv X196.here hx rfl (hb hby d1_20) rfl (by decide) k) (own_letJ (f := (fun z => (mkF m 21 #[.val (.long q1), .second, .val (.ref a1), .val (.int p3), .val (.int v192), .val (.long v133), .second, .val (.long v133), .second, .val (.int v183), .val (.int (4 : Int32)), .val (.int v183), .val (.int v185)] [(.long z)]))) (v133 / (100000000 : Int64)) fun v331 hv331 => ?_)
      show ORun p e below s _ _ _ T196 (mkF m 21 #[.val (.long q1), .second, .val (.ref a1), .val (.int p3), .val (.int v192), .val (.long v133), .second, .val (.long v133), .second, .val (.int v183), .val (.int (4 : Int32)), .val (.int v183), .val (.int v185)] [(.long v331)])
      have r331 := rng64 v331
      have a331 : v331.toInt = v133.toInt / 100000000 := by
        have q : (0 ≤ v133.toInt → v331.toInt = v133.toInt / 100000000) ∧ (v133.toInt < 0 → v331.toInt = -((-v133.toInt) / 100000000)) := by rw [hv331]; exact c_ldiv v133 (100000000 : Int64) 100000000 (by decide) (by decide)
        omega
      refine own_by (fun t k => XS.lstore X196.here hx rfl (hb hby d1_21) rfl (l' := #[.val (.long q1), .second, .val (.ref a1), .val (.int p3), .val (.int v192), .val (.long v133), .second, .val (.long v331), .second, .val (.int v183), .val (.int (4 : Int32)), .val (.int v183), .val (.int v185)]) rfl k) ?_
      show ORun p e below s _ _ _ T196 (mkF m 23 #[.val (.long q1), .second, .val (.ref a1), .val (.int p3), .val (.int v192), .val (.long v133), .second, .val (.long v331), .second, .val (.int v183), .val (.int (4 : Int32)), .val (.int v183), .val (.int v185)] [])
      refine own_by (fun t k => XS.lload X196.here hx rfl (hb hby d1_23) rfl k) ?_
      show ORun p e below s _ _ _ T196 (mkF m 25 #[.val (.long q1), .second, .val (.ref a1), .val (.int p3), .val (.int v192), .val (.long v133), .second, .val (.long v331), .second, .val (.int v183), .val (.int (4 : Int32)), .val (.int v183), .val (.int v185)] [(.long v133)])
      refine own_by (fun t k => X196.ldc2Long hx hown (mvT hZ (hw _ (List.mem_of_getElem? (i := 26) rfl))) (g := (mkF m 25 #[.val (.long q1), .second, .val (.ref a1), .val (.int p3), .val (.int v192), .val (.long v133), .second, .val (.long v331), .second, .val (.int v183), .val (.int (4 : Int32)), .val (.int v183), .val (.int v185)] [(.long v133)])) rfl (hb hby d1_25) _ k) ?_
      show ORun p e below s _ _ _ T196 (mkF m 28 #[.val (.long q1), .second, .val (.ref a1), .val (.int p3), .val (.int v192), .val (.long v133), .second, .val (.long v331), .second, .val (.int v183), .val (.int (4 : Int32)), .val (.int v183), .val (.int v185)] [(.long (100000000 : Int64)), (.long v133)])
      refine own_by (fun t k => XS.lload X196.here hx rfl (hb hby d1_28) rfl k) ?_
      show ORun p e below s _ _ _ T196 (mkF m 30 #[.val (.long q1), .second, .val (.ref a1), .val (.int p3), .val (.int v192), .val (.long v133), .second, .val (.long v331), .second, .val (.int v183), .val (.int (4 : Int32)), .val (.int v183), .val (.int v185)] [(.long v331), (.long (100000000 : Int64)), (.long v133)])
      refine own_by (fun t k => XS.lmul X196.here hx rfl (hb hby d1_30) rfl k) (own_letJ (f := (fun z => (mkF m 31 #[.val (.long q1), .second, .val (.ref a1), .val (.int p3), .val (.int v192), .val (.long v133), .second, .val (.long v331), .second, .val (.int v183), .val (.int (4 : Int32)), .val (.int v183), .val (.int v185)] [(.long z), (.long v133)]))) ((100000000 : Int64) * v331) fun v332 hv332 => ?_)
      show ORun p e below s _ _ _ T196 (mkF m 31 #[.val (.long q1), .second, .val (.ref a1), .val (.int p3), .val (.int v192), .val (.long v133), .second, .val (.long v331), .second, .val (.int v183), .val (.int (4 : Int32)), .val (.int v183), .val (.int v185)] [(.long v332), (.long v133)])
      have r332 := rng64 v332
      have a332 : v332.toInt = 100000000 * v331.toInt := by
        have q : (v332.toInt - (100000000 * v331.toInt)) % 18446744073709551616 = 0 := by rw [hv332]; exact c_lmul (100000000 : Int64) v331
        omega
      refine own_by (fun t k => XS.lsub X196.here hx rfl (hb hby d1_31) rfl k) (own_letJ (f := (fun z => (mkF m 32 #[.val (.long q1), .second, .val (.ref a1), .val (.int p3), .val (.int v192), .val (.long v133), .second, .val (.long v331), .second, .val (.int v183), .val (.int (4 : Int32)), .val (.int v183), .val (.int v185)] [(.long z)]))) (v133 - v332) fun v333 hv333 => ?_)
      show ORun p e below s _ _ _ T196 (mkF m 32 #[.val (.long q1), .second, .val (.ref a1), .val (.int p3), .val (.int v192), .val (.long v133), .second, .val (.long v331), .second, .val (.int v183), .val (.int (4 : Int32)), .val (.int v183), .val (.int v185)] [(.long v333)])
      have r333 := rng64 v333
      have a333 : v333.toInt = v133.toInt - v332.toInt := by
        have q : (v333.toInt - (v133.toInt - v332.toInt)) % 18446744073709551616 = 0 := by rw [hv333]; exact c_lsub v133 v332
        omega
      refine own_by (fun t k => XS.l2i X196.here hx rfl (hb hby d1_32) rfl k) (own_letI (f := (fun z => (mkF m 33 #[.val (.long q1), .second, .val (.ref a1), .val (.int p3), .val (.int v192), .val (.long v133), .second, .val (.long v331), .second, .val (.int v183), .val (.int (4 : Int32)), .val (.int v183), .val (.int v185)] [(.int z)]))) (v333.toInt32) fun v334 hv334 => ?_)
      show ORun p e below s _ _ _ T196 (mkF m 33 #[.val (.long q1), .second, .val (.ref a1), .val (.int p3), .val (.int v192), .val (.long v133), .second, .val (.long v331), .second, .val (.int v183), .val (.int (4 : Int32)), .val (.int v183), .val (.int v185)] [(.int v334)])
      have r334 := rng32 v334
      have a334 : v334.toInt = v333.toInt := by
        have q : (v334.toInt - v333.toInt) % 4294967296 = 0 := by rw [hv334]; exact c_l2i v333
        omega
      have lo335 : v334.toInt = ((wk197 % 100000000 : Nat) : Int) := by omega
      have hi335 : v331.toInt = ((wk197 / 100000000 : Nat) : Int) := by omega
      have bw335 : 100000000 ≤ wk197 := by omega
      have ub335 : wk197 < 100000000000 := by omega
      clear t199 a331 r331 a332 r332 a333 r333 a334 r334
      refine own_by (fun t k => XS.istore X196.here hx rfl (hb hby d1_33) rfl (l' := #[.val (.long q1), .second, .val (.ref a1), .val (.int p3), .val (.int v192), .val (.long v133), .second, .val (.long v331), .second, .val (.int v334), .val (.int (4 : Int32)), .val (.int v183), .val (.int v185)]) rfl k) ?_
      show ORun p e below s _ _ _ T196 (mkF m 35 #[.val (.long q1), .second, .val (.ref a1), .val (.int p3), .val (.int v192), .val (.long v133), .second, .val (.long v331), .second, .val (.int v334), .val (.int (4 : Int32)), .val (.int v183), .val (.int v185)] [])
      refine own_by (fun t k => XS.iconst X196.here hx rfl (hb hby d1_35) k) ?_
      show ORun p e below s _ _ _ T196 (mkF m 36 #[.val (.long q1), .second, .val (.ref a1), .val (.int p3), .val (.int v192), .val (.long v133), .second, .val (.long v331), .second, .val (.int v334), .val (.int (4 : Int32)), .val (.int v183), .val (.int v185)] [(.int (0 : Int32))])
      refine own_by (fun t k => XS.istore X196.here hx rfl (hb hby d1_36) rfl (l' := #[.val (.long q1), .second, .val (.ref a1), .val (.int p3), .val (.int v192), .val (.long v133), .second, .val (.long v331), .second, .val (.int v334), .val (.int (0 : Int32)), .val (.int v183), .val (.int v185)]) rfl k) ?_
      show ORun p e below s _ _ _ T196 (mkF m 38 #[.val (.long q1), .second, .val (.ref a1), .val (.int p3), .val (.int v192), .val (.long v133), .second, .val (.long v331), .second, .val (.int v334), .val (.int (0 : Int32)), .val (.int v183), .val (.int v185)] [])
      refine own_by (fun t k => XS.iload X196.here hx rfl (hb hby d1_38) rfl k) ?_
      show ORun p e below s _ _ _ T196 (mkF m 40 #[.val (.long q1), .second, .val (.ref a1), .val (.int p3), .val (.int v192), .val (.long v133), .second, .val (.long v331), .second, .val (.int v334), .val (.int (0 : Int32)), .val (.int v183), .val (.int v185)] [(.int (0 : Int32))])
      refine own_by (fun t k => XS.iconst X196.here hx rfl (hb hby d1_40) k) ?_
      show ORun p e below s _ _ _ T196 (mkF m 41 #[.val (.long q1), .second, .val (.ref a1), .val (.int p3), .val (.int v192), .val (.long v133), .second, .val (.long v331), .second, .val (.int v334), .val (.int (0 : Int32)), .val (.int v183), .val (.int v185)] [(.int (4 : Int32)), (.int (0 : Int32))])
      refine own_by (fun t k => XS.icmpNo X196.here hx rfl (hb hby d1_41) rfl (tlt (by decide)).2.1 k) ?_
      show ORun p e below s _ _ _ T196 (mkF m 44 #[.val (.long q1), .second, .val (.ref a1), .val (.int p3), .val (.int v192), .val (.long v133), .second, .val (.long v331), .second, .val (.int v334), .val (.int (0 : Int32)), .val (.int v183), .val (.int v185)] [])
      refine own_by (fun t k => XS.iload X196.here hx rfl (hb hby d1_44) rfl k) ?_
      show ORun p e below s _ _ _ T196 (mkF m 46 #[.val (.long q1), .second, .val (.ref a1), .val (.int p3), .val (.int v192), .val (.long v133), .second, .val (.long v331), .second, .val (.int v334), .val (.int (0 : Int32)), .val (.int v183), .val (.int v185)] [(.int v334)])
      refine own_by (fun t k => XS.bipush X196.here hx rfl (hb hby d1_46) k) ?_
      show ORun p e below s _ _ _ T196 (mkF m 48 #[.val (.long q1), .second, .val (.ref a1), .val (.int p3), .val (.int v192), .val (.long v133), .second, .val (.long v331), .second, .val (.int v334), .val (.int (0 : Int32)), .val (.int v183), .val (.int v185)] [(.int (100 : Int32)), (.int v334)])
      refine own_by (fun t k => XS.idiv X196.here hx rfl (hb hby d1_48) rfl (by decide) k) (own_letI (f := (fun z => (mkF m 49 #[.val (.long q1), .second, .val (.ref a1), .val (.int p3), .val (.int v192), .val (.long v133), .second, .val (.long v331), .second, .val (.int v334), .val (.int (0 : Int32)), .val (.int v183), .val (.int v185)] [(.int z)]))) (v334 / (100 : Int32)) fun v336 hv336 => ?_)
      show ORun p e below s _ _ _ T196 (mkF m 49 #[.val (.long q1), .second, .val (.ref a1), .val (.int p3), .val (.int v192), .val (.long v133), .second, .val (.long v331), .second, .val (.int v334), .val (.int (0 : Int32)), .val (.int v183), .val (.int v185)] [(.int v336)])
      have r336 := rng32 v336
      have a336 : v336.toInt = v334.toInt / 100 := by
        have q : (0 ≤ v334.toInt → v336.toInt = v334.toInt / 100) ∧ (v334.toInt < 0 → v336.toInt = -((-v334.toInt) / 100)) := by rw [hv336]; exact c_idiv v334 (100 : Int32) 100 (by decide) (by decide)
        omega
      refine own_by (fun t k => XS.istore X196.here hx rfl (hb hby d1_49) rfl (l' := #[.val (.long q1), .second, .val (.ref a1), .val (.int p3), .val (.int v192), .val (.long v133), .second, .val (.long v331), .second, .val (.int v334), .val (.int (0 : Int32)), .val (.int v336), .val (.int v185)]) rfl k) ?_
      show ORun p e below s _ _ _ T196 (mkF m 51 #[.val (.long q1), .second, .val (.ref a1), .val (.int p3), .val (.int v192), .val (.long v133), .second, .val (.long v331), .second, .val (.int v334), .val (.int (0 : Int32)), .val (.int v336), .val (.int v185)] [])
      refine own_by (fun t k => XS.iload X196.here hx rfl (hb hby d1_51) rfl k) ?_
      show ORun p e below s _ _ _ T196 (mkF m 53 #[.val (.long q1), .second, .val (.ref a1), .val (.int p3), .val (.int v192), .val (.long v133), .second, .val (.long v331), .second, .val (.int v334), .val (.int (0 : Int32)), .val (.int v336), .val (.int v185)] [(.int v334)])
      refine own_by (fun t k => XS.bipush X196.here hx rfl (hb hby d1_53) k) ?_
      show ORun p e below s _ _ _ T196 (mkF m 55 #[.val (.long q1), .second, .val (.ref a1), .val (.int p3), .val (.int v192), .val (.long v133), .second, .val (.long v331), .second, .val (.int v334), .val (.int (0 : Int32)), .val (.int v336), .val (.int v185)] [(.int (100 : Int32)), (.int v334)])
      refine own_by (fun t k => XS.iload X196.here hx rfl (hb hby d1_55) rfl k) ?_
      show ORun p e below s _ _ _ T196 (mkF m 57 #[.val (.long q1), .second, .val (.ref a1), .val (.int p3), .val (.int v192), .val (.long v133), .second, .val (.long v331), .second, .val (.int v334), .val (.int (0 : Int32)), .val (.int v336), .val (.int v185)] [(.int v336), (.int (100 : Int32)), (.int v334)])
      refine own_by (fun t k => XS.imul X196.here hx rfl (hb hby d1_57) rfl k) (own_letI (f := (fun z => (mkF m 58 #[.val (.long q1), .second, .val (.ref a1), .val (.int p3), .val (.int v192), .val (.long v133), .second, .val (.long v331), .second, .val (.int v334), .val (.int (0 : Int32)), .val (.int v336), .val (.int v185)] [(.int z), (.int v334)]))) ((100 : Int32) * v336) fun v337 hv337 => ?_)
      show ORun p e below s _ _ _ T196 (mkF m 58 #[.val (.long q1), .second, .val (.ref a1), .val (.int p3), .val (.int v192), .val (.long v133), .second, .val (.long v331), .second, .val (.int v334), .val (.int (0 : Int32)), .val (.int v336), .val (.int v185)] [(.int v337), (.int v334)])
      have r337 := rng32 v337
      have a337 : v337.toInt = 100 * v336.toInt := by
        have q : (v337.toInt - (100 * v336.toInt)) % 4294967296 = 0 := by rw [hv337]; exact c_imul (100 : Int32) v336
        omega
      refine own_by (fun t k => XS.isub X196.here hx rfl (hb hby d1_58) rfl k) (own_letI (f := (fun z => (mkF m 59 #[.val (.long q1), .second, .val (.ref a1), .val (.int p3), .val (.int v192), .val (.long v133), .second, .val (.long v331), .second, .val (.int v334), .val (.int (0 : Int32)), .val (.int v336), .val (.int v185)] [(.int z)]))) (v334 - v337) fun v338 hv338 => ?_)
      show ORun p e below s _ _ _ T196 (mkF m 59 #[.val (.long q1), .second, .val (.ref a1), .val (.int p3), .val (.int v192), .val (.long v133), .second, .val (.long v331), .second, .val (.int v334), .val (.int (0 : Int32)), .val (.int v336), .val (.int v185)] [(.int v338)])
      have r338 := rng32 v338
      have a338 : v338.toInt = v334.toInt - v337.toInt := by
        have q : (v338.toInt - (v334.toInt - v337.toInt)) % 4294967296 = 0 := by rw [hv338]; exact c_isub v334 v337
        omega
      refine own_by (fun t k => XS.istore X196.here hx rfl (hb hby d1_59) rfl (l' := #[.val (.long q1), .second, .val (.ref a1), .val (.int p3), .val (.int v192), .val (.long v133), .second, .val (.long v331), .second, .val (.int v334), .val (.int (0 : Int32)), .val (.int v336), .val (.int v338)]) rfl k) ?_
      show ORun p e below s _ _ _ T196 (mkF m 61 #[.val (.long q1), .second, .val (.ref a1), .val (.int p3), .val (.int v192), .val (.long v133), .second, .val (.long v331), .second, .val (.int v334), .val (.int (0 : Int32)), .val (.int v336), .val (.int v338)] [])
      have f3_339 := own_fit3 (q := qk197) (w := wk197) (by omega) fi197
      refine own_by (fun t k => XS.aloadN X196.here hx rfl (hb hby d1_61) rfl rfl k) ?_
      show ORun p e below s _ _ _ T196 (mkF m 62 #[.val (.long q1), .second, .val (.ref a1), .val (.int p3), .val (.int v192), .val (.long v133), .second, .val (.long v331), .second, .val (.int v334), .val (.int (0 : Int32)), .val (.int v336), .val (.int v338)] [(.ref a1)])
      refine own_by (fun t k => XS.iinc X196.here hx rfl (hb hby d1_62) rfl (l' := #[.val (.long q1), .second, .val (.ref a1), .val (.int p3), .val (.int (v192 + (-1 : Int32))), .val (.long v133), .second, .val (.long v331), .second, .val (.int v334), .val (.int (0 : Int32)), .val (.int v336), .val (.int v338)]) rfl k) (own_letI (f := (fun z => (mkF m 65 #[.val (.long q1), .second, .val (.ref a1), .val (.int p3), .val (.int z), .val (.long v133), .second, .val (.long v331), .second, .val (.int v334), .val (.int (0 : Int32)), .val (.int v336), .val (.int v338)] [(.ref a1)]))) (v192 + (-1 : Int32)) fun v340 hv340 => ?_)
      show ORun p e below s _ _ _ T196 (mkF m 65 #[.val (.long q1), .second, .val (.ref a1), .val (.int p3), .val (.int v340), .val (.long v133), .second, .val (.long v331), .second, .val (.int v334), .val (.int (0 : Int32)), .val (.int v336), .val (.int v338)] [(.ref a1)])
      have r340 := rng32 v340
      have a340 : v340.toInt = v192.toInt + (-1) := by have q : (v340.toInt - (v192.toInt + (-1))) % 4294967296 = 0 := (by rw [hv340]; exact c_iadd v192 (-1 : Int32)); omega
      refine own_by (fun t k => XS.iload X196.here hx rfl (hb hby d1_65) rfl k) ?_
      show ORun p e below s _ _ _ T196 (mkF m 67 #[.val (.long q1), .second, .val (.ref a1), .val (.int p3), .val (.int v340), .val (.long v133), .second, .val (.long v331), .second, .val (.int v334), .val (.int (0 : Int32)), .val (.int v336), .val (.int v338)] [(.int v340), (.ref a1)])
      obtain ⟨T341, X341, e341, st341⟩ := getS2 X196 hx hZ hown (host := "") (Or.inl (hw _ (List.mem_of_getElem? (i := 31) rfl))) Via.refl e196 ((((((((S1.wr W146).wr W151).wr W161).wr W166).wr W176).wr W181).wr W191).wr W196) (g := (mkF m 67 #[.val (.long q1), .second, .val (.ref a1), .val (.int p3), .val (.int v340), .val (.long v133), .second, .val (.long v331), .second, .val (.int v334), .val (.int (0 : Int32)), .val (.int v336), .val (.int v338)] [(.int v340), (.ref a1)])) rfl (hb hby d1_67)
      refine own_by st341 ?_
      show ORun p e below s _ _ _ T341 (mkF m 70 #[.val (.long q1), .second, .val (.ref a1), .val (.int p3), .val (.int v340), .val (.long v133), .second, .val (.long v331), .second, .val (.int v334), .val (.int (0 : Int32)), .val (.int v336), .val (.int v338)] [(.ref d1), (.int v340), (.ref a1)])
      refine own_by (fun t k => XS.iload X341.here hx rfl (hb hby d1_70) rfl k) ?_
      show ORun p e below s _ _ _ T341 (mkF m 72 #[.val (.long q1), .second, .val (.ref a1), .val (.int p3), .val (.int v340), .val (.long v133), .second, .val (.long v331), .second, .val (.int v334), .val (.int (0 : Int32)), .val (.int v336), .val (.int v338)] [(.int v338), (.ref d1), (.int v340), (.ref a1)])
      refine own_baload X341 hx hZ e341 ((((((((V1.other W146 ne_d1).other W151 ne_d1).other W161 ne_d1).other W166 ne_d1).other W176 ne_d1).other W181 ne_d1).other W191 ne_d1).other W196 ne_d1) (i := v338.toInt.toNat) (by omega) (by omega) (hb hby d1_72) ?_
      intro v342 hv342
      have r342 := rng32 v342
      show ORun p e below s _ _ _ T341 (mkF m 73 #[.val (.long q1), .second, .val (.ref a1), .val (.int p3), .val (.int v340), .val (.long v133), .second, .val (.long v331), .second, .val (.int v334), .val (.int (0 : Int32)), .val (.int v336), .val (.int v338)] [(.int v342), (.int v340), (.ref a1)])
      have f343 := hO1 v338.toInt.toNat (by omega)
      rw [← hv342] at f343
      have nb343 : (nar .byte v342).toInt = v342.toInt := by have q := c_i2b v342; show v342.toInt8.toInt32.toInt = _; omega
      refine own_bastore X341 hx hZ e341 V196 (i := v340.toInt.toNat) (by omega) (by omega) (hb hby d1_73) ?_
      intro T344 h344 L344 X344 e344 W344 hL344 V344
      have len344 : L344.length = 21 := by rw [hL344, List.length_set]; exact len196
      have N344 := Fr.snoc X344 N196 g1
      show ORun p e below s _ _ _ T344 (mkF m 74 #[.val (.long q1), .second, .val (.ref a1), .val (.int p3), .val (.int v340), .val (.long v133), .second, .val (.long v331), .second, .val (.int v334), .val (.int (0 : Int32)), .val (.int v336), .val (.int v338)] [])
      refine own_by (fun t k => XS.aloadN X344.here hx rfl (hb hby d1_74) rfl rfl k) ?_
      show ORun p e below s _ _ _ T344 (mkF m 75 #[.val (.long q1), .second, .val (.ref a1), .val (.int p3), .val (.int v340), .val (.long v133), .second, .val (.long v331), .second, .val (.int v334), .val (.int (0 : Int32)), .val (.int v336), .val (.int v338)] [(.ref a1)])
      refine own_by (fun t k => XS.iinc X344.here hx rfl (hb hby d1_75) rfl (l' := #[.val (.long q1), .second, .val (.ref a1), .val (.int p3), .val (.int (v340 + (-1 : Int32))), .val (.long v133), .second, .val (.long v331), .second, .val (.int v334), .val (.int (0 : Int32)), .val (.int v336), .val (.int v338)]) rfl k) (own_letI (f := (fun z => (mkF m 78 #[.val (.long q1), .second, .val (.ref a1), .val (.int p3), .val (.int z), .val (.long v133), .second, .val (.long v331), .second, .val (.int v334), .val (.int (0 : Int32)), .val (.int v336), .val (.int v338)] [(.ref a1)]))) (v340 + (-1 : Int32)) fun v345 hv345 => ?_)
      show ORun p e below s _ _ _ T344 (mkF m 78 #[.val (.long q1), .second, .val (.ref a1), .val (.int p3), .val (.int v345), .val (.long v133), .second, .val (.long v331), .second, .val (.int v334), .val (.int (0 : Int32)), .val (.int v336), .val (.int v338)] [(.ref a1)])
      have r345 := rng32 v345
      have a345 : v345.toInt = v340.toInt + (-1) := by have q : (v345.toInt - (v340.toInt + (-1))) % 4294967296 = 0 := (by rw [hv345]; exact c_iadd v340 (-1 : Int32)); omega
      refine own_by (fun t k => XS.iload X344.here hx rfl (hb hby d1_78) rfl k) ?_
      show ORun p e below s _ _ _ T344 (mkF m 80 #[.val (.long q1), .second, .val (.ref a1), .val (.int p3), .val (.int v345), .val (.long v133), .second, .val (.long v331), .second, .val (.int v334), .val (.int (0 : Int32)), .val (.int v336), .val (.int v338)] [(.int v345), (.ref a1)])
      obtain ⟨T346, X346, e346, st346⟩ := getS2 X344 hx hZ hown (host := "") (Or.inl (hw _ (List.mem_of_getElem? (i := 33) rfl))) Via.refl e344 (((((((((S2.wr W146).wr W151).wr W161).wr W166).wr W176).wr W181).wr W191).wr W196).wr W344) (g := (mkF m 80 #[.val (.long q1), .second, .val (.ref a1), .val (.int p3), .val (.int v345), .val (.long v133), .second, .val (.long v331), .second, .val (.int v334), .val (.int (0 : Int32)), .val (.int v336), .val (.int v338)] [(.int v345), (.ref a1)])) rfl (hb hby d1_80)
      refine own_by st346 ?_
      show ORun p e below s _ _ _ T346 (mkF m 83 #[.val (.long q1), .second, .val (.ref a1), .val (.int p3), .val (.int v345), .val (.long v133), .second, .val (.long v331), .second, .val (.int v334), .val (.int (0 : Int32)), .val (.int v336), .val (.int v338)] [(.ref d2), (.int v345), (.ref a1)])
      refine own_by (fun t k => XS.iload X346.here hx rfl (hb hby d1_83) rfl k) ?_
      show ORun p e below s _ _ _ T346 (mkF m 85 #[.val (.long q1), .second, .val (.ref a1), .val (.int p3), .val (.int v345), .val (.long v133), .second, .val (.long v331), .second, .val (.int v334), .val (.int (0 : Int32)), .val (.int v336), .val (.int v338)] [(.int v338), (.ref d2), (.int v345), (.ref a1)])
      refine own_baload X346 hx hZ e346 (((((((((V2.other W146 ne_d2).other W151 ne_d2).other W161 ne_d2).other W166 ne_d2).other W176 ne_d2).other W181 ne_d2).other W191 ne_d2).other W196 ne_d2).other W344 ne_d2) (i := v338.toInt.toNat) (by omega) (by omega) (hb hby d1_85) ?_
      intro v347 hv347
      have r347 := rng32 v347
      show ORun p e below s _ _ _ T346 (mkF m 86 #[.val (.long q1), .second, .val (.ref a1), .val (.int p3), .val (.int v345), .val (.long v133), .second, .val (.long v331), .second, .val (.int v334), .val (.int (0 : Int32)), .val (.int v336), .val (.int v338)] [(.int v347), (.int v345), (.ref a1)])
      have f348 := hT1 v338.toInt.toNat (by omega)
      rw [← hv347] at f348
      have nb348 : (nar .byte v347).toInt = v347.toInt := by have q := c_i2b v347; show v347.toInt8.toInt32.toInt = _; omega
      refine own_bastore X346 hx hZ e346 V344 (i := v345.toInt.toNat) (by omega) (by omega) (hb hby d1_86) ?_
      intro T349 h349 L349 X349 e349 W349 hL349 V349
      have len349 : L349.length = 21 := by rw [hL349, List.length_set]; exact len344
      have N349 := Fr.snoc X349 N344 g1
      show ORun p e below s _ _ _ T349 (mkF m 87 #[.val (.long q1), .second, .val (.ref a1), .val (.int p3), .val (.int v345), .val (.long v133), .second, .val (.long v331), .second, .val (.int v334), .val (.int (0 : Int32)), .val (.int v336), .val (.int v338)] [])
      have pk350 := own_pair (q := qk197) (w := wk197) (i := v340.toInt.toNat) (j := v345.toInt.toNat) (by omega) fi197 (by omega) (by omega) hL344 hL349 (by omega) (by omega)
      obtain ⟨wk350, hwk350⟩ : ∃ w, w = wk197 / 100 := ⟨_, rfl⟩
      obtain ⟨qk350, hqk350⟩ : ∃ q, q = v345.toInt.toNat := ⟨_, rfl⟩
      rw [← hwk350, ← hqk350] at pk350
      obtain ⟨pe350, fi350⟩ := pk350
      have ch350 := Eq.trans ch197 pe350
      have at350 : v345.toInt = (qk350 : Int) := by omega
      have qb350 : 1 ≤ qk350 ∧ qk350 ≤ 20 := by omega
      have lo350 : v336.toInt = ((wk350 % 1000000 : Nat) : Int) := by omega
      have bw350 : 1000000 ≤ wk350 := by omega
      clear a336 r336 a337 r337 a338 r338 f3_339 a340 r340 r342 f343 nb343 a345 r345 r347 f348 nb348 at197 qb197 lo197 bw197 hh198 hb198 lo335 bw335 len196 len344 fi197 hqk350
      refine own_by (fun t k => XS.iload X349.here hx rfl (hb hby d1_87) rfl k) ?_
      show ORun p e below s _ _ _ T349 (mkF m 89 #[.val (.long q1), .second, .val (.ref a1), .val (.int p3), .val (.int v345), .val (.long v133), .second, .val (.long v331), .second, .val (.int v334), .val (.int (0 : Int32)), .val (.int v336), .val (.int v338)] [(.int v336)])
      refine own_by (fun t k => XS.istore X349.here hx rfl (hb hby d1_89) rfl (l' := #[.val (.long q1), .second, .val (.ref a1), .val (.int p3), .val (.int v345), .val (.long v133), .second, .val (.long v331), .second, .val (.int v336), .val (.int (0 : Int32)), .val (.int v336), .val (.int v338)]) rfl k) ?_
      show ORun p e below s _ _ _ T349 (mkF m 91 #[.val (.long q1), .second, .val (.ref a1), .val (.int p3), .val (.int v345), .val (.long v133), .second, .val (.long v331), .second, .val (.int v336), .val (.int (0 : Int32)), .val (.int v336), .val (.int v338)] [])
      refine own_by (fun t k => XS.iinc X349.here hx rfl (hb hby d1_91) rfl (l' := #[.val (.long q1), .second, .val (.ref a1), .val (.int p3), .val (.int v345), .val (.long v133), .second, .val (.long v331), .second, .val (.int v336), .val (.int (1 : Int32)), .val (.int v336), .val (.int v338)]) rfl k) ?_
      show ORun p e below s _ _ _ T349 (mkF m 94 #[.val (.long q1), .second, .val (.ref a1), .val (.int p3), .val (.int v345), .val (.long v133), .second, .val (.long v331), .second, .val (.int v336), .val (.int (1 : Int32)), .val (.int v336), .val (.int v338)] [])
      refine own_by (fun t k => XS.goto X349.here hx rfl (pc0 := 94) (pc' := 38) rfl (hb hby d1_94) (by decide) (by decide) k) ?_
      show ORun p e below s _ _ _ T349 (mkF m 38 #[.val (.long q1), .second, .val (.ref a1), .val (.int p3), .val (.int v345), .val (.long v133), .second, .val (.long v331), .second, .val (.int v336), .val (.int (1 : Int32)), .val (.int v336), .val (.int v338)] [])
      refine own_by (fun t k => XS.iload X349.here hx rfl (hb hby d1_38) rfl k) ?_
      show ORun p e below s _ _ _ T349 (mkF m 40 #[.val (.long q1), .second, .val (.ref a1), .val (.int p3), .val (.int v345), .val (.long v133), .second, .val (.long v331), .second, .val (.int v336), .val (.int (1 : Int32)), .val (.int v336), .val (.int v338)] [(.int (1 : Int32))])
      refine own_by (fun t k => XS.iconst X349.here hx rfl (hb hby d1_40) k) ?_
      show ORun p e below s _ _ _ T349 (mkF m 41 #[.val (.long q1), .second, .val (.ref a1), .val (.int p3), .val (.int v345), .val (.long v133), .second, .val (.long v331), .second, .val (.int v336), .val (.int (1 : Int32)), .val (.int v336), .val (.int v338)] [(.int (4 : Int32)), (.int (1 : Int32))])
      refine own_by (fun t k => XS.icmpNo X349.here hx rfl (hb hby d1_41) rfl (tlt (by decide)).2.1 k) ?_
      show ORun p e below s _ _ _ T349 (mkF m 44 #[.val (.long q1), .second, .val (.ref a1), .val (.int p3), .val (.int v345), .val (.long v133), .second, .val (.long v331), .second, .val (.int v336), .val (.int (1 : Int32)), .val (.int v336), .val (.int v338)] [])
      refine own_by (fun t k => XS.iload X349.here hx rfl (hb hby d1_44) rfl k) ?_
      show ORun p e below s _ _ _ T349 (mkF m 46 #[.val (.long q1), .second, .val (.ref a1), .val (.int p3), .val (.int v345), .val (.long v133), .second, .val (.long v331), .second, .val (.int v336), .val (.int (1 : Int32)), .val (.int v336), .val (.int v338)] [(.int v336)])
      refine own_by (fun t k => XS.bipush X349.here hx rfl (hb hby d1_46) k) ?_
      show ORun p e below s _ _ _ T349 (mkF m 48 #[.val (.long q1), .second, .val (.ref a1), .val (.int p3), .val (.int v345), .val (.long v133), .second, .val (.long v331), .second, .val (.int v336), .val (.int (1 : Int32)), .val (.int v336), .val (.int v338)] [(.int (100 : Int32)), (.int v336)])
      refine own_by (fun t k => XS.idiv X349.here hx rfl (hb hby d1_48) rfl (by decide) k) (own_letI (f := (fun z => (mkF m 49 #[.val (.long q1), .second, .val (.ref a1), .val (.int p3), .val (.int v345), .val (.long v133), .second, .val (.long v331), .second, .val (.int v336), .val (.int (1 : Int32)), .val (.int v336), .val (.int v338)] [(.int z)]))) (v336 / (100 : Int32)) fun v351 hv351 => ?_)
      show ORun p e below s _ _ _ T349 (mkF m 49 #[.val (.long q1), .second, .val (.ref a1), .val (.int p3), .val (.int v345), .val (.long v133), .second, .val (.long v331), .second, .val (.int v336), .val (.int (1 : Int32)), .val (.int v336), .val (.int v338)] [(.int v351)])
      have r351 := rng32 v351
      have a351 : v351.toInt = v336.toInt / 100 := by
        have q : (0 ≤ v336.toInt → v351.toInt = v336.toInt / 100) ∧ (v336.toInt < 0 → v351.toInt = -((-v336.toInt) / 100)) := by rw [hv351]; exact c_idiv v336 (100 : Int32) 100 (by decide) (by decide)
        omega
      refine own_by (fun t k => XS.istore X349.here hx rfl (hb hby d1_49) rfl (l' := #[.val (.long q1), .second, .val (.ref a1), .val (.int p3), .val (.int v345), .val (.long v133), .second, .val (.long v331), .second, .val (.int v336), .val (.int (1 : Int32)), .val (.int v351), .val (.int v338)]) rfl k) ?_
      show ORun p e below s _ _ _ T349 (mkF m 51 #[.val (.long q1), .second, .val (.ref a1), .val (.int p3), .val (.int v345), .val (.long v133), .second, .val (.long v331), .second, .val (.int v336), .val (.int (1 : Int32)), .val (.int v351), .val (.int v338)] [])
      refine own_by (fun t k => XS.iload X349.here hx rfl (hb hby d1_51) rfl k) ?_
      show ORun p e below s _ _ _ T349 (mkF m 53 #[.val (.long q1), .second, .val (.ref a1), .val (.int p3), .val (.int v345), .val (.long v133), .second, .val (.long v331), .second, .val (.int v336), .val (.int (1 : Int32)), .val (.int v351), .val (.int v338)] [(.int v336)])
      refine own_by (fun t k => XS.bipush X349.here hx rfl (hb hby d1_53) k) ?_
      show ORun p e below s _ _ _ T349 (mkF m 55 #[.val (.long q1), .second, .val (.ref a1), .val (.int p3), .val (.int v345), .val (.long v133), .second, .val (.long v331), .second, .val (.int v336), .val (.int (1 : Int32)), .val (.int v351), .val (.int v338)] [(.int (100 : Int32)), (.int v336)])
      refine own_by (fun t k => XS.iload X349.here hx rfl (hb hby d1_55) rfl k) ?_
      show ORun p e below s _ _ _ T349 (mkF m 57 #[.val (.long q1), .second, .val (.ref a1), .val (.int p3), .val (.int v345), .val (.long v133), .second, .val (.long v331), .second, .val (.int v336), .val (.int (1 : Int32)), .val (.int v351), .val (.int v338)] [(.int v351), (.int (100 : Int32)), (.int v336)])
      refine own_by (fun t k => XS.imul X349.here hx rfl (hb hby d1_57) rfl k) (own_letI (f := (fun z => (mkF m 58 #[.val (.long q1), .second, .val (.ref a1), .val (.int p3), .val (.int v345), .val (.long v133), .second, .val (.long v331), .second, .val (.int v336), .val (.int (1 : Int32)), .val (.int v351), .val (.int v338)] [(.int z), (.int v336)]))) ((100 : Int32) * v351) fun v352 hv352 => ?_)
      show ORun p e below s _ _ _ T349 (mkF m 58 #[.val (.long q1), .second, .val (.ref a1), .val (.int p3), .val (.int v345), .val (.long v133), .second, .val (.long v331), .second, .val (.int v336), .val (.int (1 : Int32)), .val (.int v351), .val (.int v338)] [(.int v352), (.int v336)])
      have r352 := rng32 v352
      have a352 : v352.toInt = 100 * v351.toInt := by
        have q : (v352.toInt - (100 * v351.toInt)) % 4294967296 = 0 := by rw [hv352]; exact c_imul (100 : Int32) v351
        omega
      refine own_by (fun t k => XS.isub X349.here hx rfl (hb hby d1_58) rfl k) (own_letI (f := (fun z => (mkF m 59 #[.val (.long q1), .second, .val (.ref a1), .val (.int p3), .val (.int v345), .val (.long v133), .second, .val (.long v331), .second, .val (.int v336), .val (.int (1 : Int32)), .val (.int v351), .val (.int v338)] [(.int z)]))) (v336 - v352) fun v353 hv353 => ?_)
      show ORun p e below s _ _ _ T349 (mkF m 59 #[.val (.long q1), .second, .val (.ref a1), .val (.int p3), .val (.int v345), .val (.long v133), .second, .val (.long v331), .second, .val (.int v336), .val (.int (1 : Int32)), .val (.int v351), .val (.int v338)] [(.int v353)])
      have r353 := rng32 v353
      have a353 : v353.toInt = v336.toInt - v352.toInt := by
        have q : (v353.toInt - (v336.toInt - v352.toInt)) % 4294967296 = 0 := by rw [hv353]; exact c_isub v336 v352
        omega
      refine own_by (fun t k => XS.istore X349.here hx rfl (hb hby d1_59) rfl (l' := #[.val (.long q1), .second, .val (.ref a1), .val (.int p3), .val (.int v345), .val (.long v133), .second, .val (.long v331), .second, .val (.int v336), .val (.int (1 : Int32)), .val (.int v351), .val (.int v353)]) rfl k) ?_
      show ORun p e below s _ _ _ T349 (mkF m 61 #[.val (.long q1), .second, .val (.ref a1), .val (.int p3), .val (.int v345), .val (.long v133), .second, .val (.long v331), .second, .val (.int v336), .val (.int (1 : Int32)), .val (.int v351), .val (.int v353)] [])
      have f3_354 := own_fit3 (q := qk350) (w := wk350) (by omega) fi350
      refine own_by (fun t k => XS.aloadN X349.here hx rfl (hb hby d1_61) rfl rfl k) ?_
      show ORun p e below s _ _ _ T349 (mkF m 62 #[.val (.long q1), .second, .val (.ref a1), .val (.int p3), .val (.int v345), .val (.long v133), .second, .val (.long v331), .second, .val (.int v336), .val (.int (1 : Int32)), .val (.int v351), .val (.int v353)] [(.ref a1)])
      refine own_by (fun t k => XS.iinc X349.here hx rfl (hb hby d1_62) rfl (l' := #[.val (.long q1), .second, .val (.ref a1), .val (.int p3), .val (.int (v345 + (-1 : Int32))), .val (.long v133), .second, .val (.long v331), .second, .val (.int v336), .val (.int (1 : Int32)), .val (.int v351), .val (.int v353)]) rfl k) (own_letI (f := (fun z => (mkF m 65 #[.val (.long q1), .second, .val (.ref a1), .val (.int p3), .val (.int z), .val (.long v133), .second, .val (.long v331), .second, .val (.int v336), .val (.int (1 : Int32)), .val (.int v351), .val (.int v353)] [(.ref a1)]))) (v345 + (-1 : Int32)) fun v355 hv355 => ?_)
      show ORun p e below s _ _ _ T349 (mkF m 65 #[.val (.long q1), .second, .val (.ref a1), .val (.int p3), .val (.int v355), .val (.long v133), .second, .val (.long v331), .second, .val (.int v336), .val (.int (1 : Int32)), .val (.int v351), .val (.int v353)] [(.ref a1)])
      have r355 := rng32 v355
      have a355 : v355.toInt = v345.toInt + (-1) := by have q : (v355.toInt - (v345.toInt + (-1))) % 4294967296 = 0 := (by rw [hv355]; exact c_iadd v345 (-1 : Int32)); omega
      refine own_by (fun t k => XS.iload X349.here hx rfl (hb hby d1_65) rfl k) ?_
      show ORun p e below s _ _ _ T349 (mkF m 67 #[.val (.long q1), .second, .val (.ref a1), .val (.int p3), .val (.int v355), .val (.long v133), .second, .val (.long v331), .second, .val (.int v336), .val (.int (1 : Int32)), .val (.int v351), .val (.int v353)] [(.int v355), (.ref a1)])
      obtain ⟨T356, X356, e356, st356⟩ := getS2 X349 hx hZ hown (host := "") (Or.inl (hw _ (List.mem_of_getElem? (i := 31) rfl))) Via.refl e349 ((((((((((S1.wr W146).wr W151).wr W161).wr W166).wr W176).wr W181).wr W191).wr W196).wr W344).wr W349) (g := (mkF m 67 #[.val (.long q1), .second, .val (.ref a1), .val (.int p3), .val (.int v355), .val (.long v133), .second, .val (.long v331), .second, .val (.int v336), .val (.int (1 : Int32)), .val (.int v351), .val (.int v353)] [(.int v355), (.ref a1)])) rfl (hb hby d1_67)
      refine own_by st356 ?_
      show ORun p e below s _ _ _ T356 (mkF m 70 #[.val (.long q1), .second, .val (.ref a1), .val (.int p3), .val (.int v355), .val (.long v133), .second, .val (.long v331), .second, .val (.int v336), .val (.int (1 : Int32)), .val (.int v351), .val (.int v353)] [(.ref d1), (.int v355), (.ref a1)])
      refine own_by (fun t k => XS.iload X356.here hx rfl (hb hby d1_70) rfl k) ?_
      show ORun p e below s _ _ _ T356 (mkF m 72 #[.val (.long q1), .second, .val (.ref a1), .val (.int p3), .val (.int v355), .val (.long v133), .second, .val (.long v331), .second, .val (.int v336), .val (.int (1 : Int32)), .val (.int v351), .val (.int v353)] [(.int v353), (.ref d1), (.int v355), (.ref a1)])
      refine own_baload X356 hx hZ e356 ((((((((((V1.other W146 ne_d1).other W151 ne_d1).other W161 ne_d1).other W166 ne_d1).other W176 ne_d1).other W181 ne_d1).other W191 ne_d1).other W196 ne_d1).other W344 ne_d1).other W349 ne_d1) (i := v353.toInt.toNat) (by omega) (by omega) (hb hby d1_72) ?_
      intro v357 hv357
      have r357 := rng32 v357
      show ORun p e below s _ _ _ T356 (mkF m 73 #[.val (.long q1), .second, .val (.ref a1), .val (.int p3), .val (.int v355), .val (.long v133), .second, .val (.long v331), .second, .val (.int v336), .val (.int (1 : Int32)), .val (.int v351), .val (.int v353)] [(.int v357), (.int v355), (.ref a1)])
      have f358 := hO1 v353.toInt.toNat (by omega)
      rw [← hv357] at f358
      have nb358 : (nar .byte v357).toInt = v357.toInt := by have q := c_i2b v357; show v357.toInt8.toInt32.toInt = _; omega
      refine own_bastore X356 hx hZ e356 V349 (i := v355.toInt.toNat) (by omega) (by omega) (hb hby d1_73) ?_
      intro T359 h359 L359 X359 e359 W359 hL359 V359
      have len359 : L359.length = 21 := by rw [hL359, List.length_set]; exact len349
      have N359 := Fr.snoc X359 N349 g1
      show ORun p e below s _ _ _ T359 (mkF m 74 #[.val (.long q1), .second, .val (.ref a1), .val (.int p3), .val (.int v355), .val (.long v133), .second, .val (.long v331), .second, .val (.int v336), .val (.int (1 : Int32)), .val (.int v351), .val (.int v353)] [])
      refine own_by (fun t k => XS.aloadN X359.here hx rfl (hb hby d1_74) rfl rfl k) ?_
      show ORun p e below s _ _ _ T359 (mkF m 75 #[.val (.long q1), .second, .val (.ref a1), .val (.int p3), .val (.int v355), .val (.long v133), .second, .val (.long v331), .second, .val (.int v336), .val (.int (1 : Int32)), .val (.int v351), .val (.int v353)] [(.ref a1)])
      refine own_by (fun t k => XS.iinc X359.here hx rfl (hb hby d1_75) rfl (l' := #[.val (.long q1), .second, .val (.ref a1), .val (.int p3), .val (.int (v355 + (-1 : Int32))), .val (.long v133), .second, .val (.long v331), .second, .val (.int v336), .val (.int (1 : Int32)), .val (.int v351), .val (.int v353)]) rfl k) (own_letI (f := (fun z => (mkF m 78 #[.val (.long q1), .second, .val (.ref a1), .val (.int p3), .val (.int z), .val (.long v133), .second, .val (.long v331), .second, .val (.int v336), .val (.int (1 : Int32)), .val (.int v351), .val (.int v353)] [(.ref a1)]))) (v355 + (-1 : Int32)) fun v360 hv360 => ?_)
      show ORun p e below s _ _ _ T359 (mkF m 78 #[.val (.long q1), .second, .val (.ref a1), .val (.int p3), .val (.int v360), .val (.long v133), .second, .val (.long v331), .second, .val (.int v336), .val (.int (1 : Int32)), .val (.int v351), .val (.int v353)] [(.ref a1)])
      have r360 := rng32 v360
      have a360 : v360.toInt = v355.toInt + (-1) := by have q : (v360.toInt - (v355.toInt + (-1))) % 4294967296 = 0 := (by rw [hv360]; exact c_iadd v355 (-1 : Int32)); omega
      refine own_by (fun t k => XS.iload X359.here hx rfl (hb hby d1_78) rfl k) ?_
      show ORun p e below s _ _ _ T359 (mkF m 80 #[.val (.long q1), .second, .val (.ref a1), .val (.int p3), .val (.int v360), .val (.long v133), .second, .val (.long v331), .second, .val (.int v336), .val (.int (1 : Int32)), .val (.int v351), .val (.int v353)] [(.int v360), (.ref a1)])
      obtain ⟨T361, X361, e361, st361⟩ := getS2 X359 hx hZ hown (host := "") (Or.inl (hw _ (List.mem_of_getElem? (i := 33) rfl))) Via.refl e359 (((((((((((S2.wr W146).wr W151).wr W161).wr W166).wr W176).wr W181).wr W191).wr W196).wr W344).wr W349).wr W359) (g := (mkF m 80 #[.val (.long q1), .second, .val (.ref a1), .val (.int p3), .val (.int v360), .val (.long v133), .second, .val (.long v331), .second, .val (.int v336), .val (.int (1 : Int32)), .val (.int v351), .val (.int v353)] [(.int v360), (.ref a1)])) rfl (hb hby d1_80)
      refine own_by st361 ?_
      show ORun p e below s _ _ _ T361 (mkF m 83 #[.val (.long q1), .second, .val (.ref a1), .val (.int p3), .val (.int v360), .val (.long v133), .second, .val (.long v331), .second, .val (.int v336), .val (.int (1 : Int32)), .val (.int v351), .val (.int v353)] [(.ref d2), (.int v360), (.ref a1)])
      refine own_by (fun t k => XS.iload X361.here hx rfl (hb hby d1_83) rfl k) ?_
      show ORun p e below s _ _ _ T361 (mkF m 85 #[.val (.long q1), .second, .val (.ref a1), .val (.int p3), .val (.int v360), .val (.long v133), .second, .val (.long v331), .second, .val (.int v336), .val (.int (1 : Int32)), .val (.int v351), .val (.int v353)] [(.int v353), (.ref d2), (.int v360), (.ref a1)])
      refine own_baload X361 hx hZ e361 (((((((((((V2.other W146 ne_d2).other W151 ne_d2).other W161 ne_d2).other W166 ne_d2).other W176 ne_d2).other W181 ne_d2).other W191 ne_d2).other W196 ne_d2).other W344 ne_d2).other W349 ne_d2).other W359 ne_d2) (i := v353.toInt.toNat) (by omega) (by omega) (hb hby d1_85) ?_
      intro v362 hv362
      have r362 := rng32 v362
      show ORun p e below s _ _ _ T361 (mkF m 86 #[.val (.long q1), .second, .val (.ref a1), .val (.int p3), .val (.int v360), .val (.long v133), .second, .val (.long v331), .second, .val (.int v336), .val (.int (1 : Int32)), .val (.int v351), .val (.int v353)] [(.int v362), (.int v360), (.ref a1)])
      have f363 := hT1 v353.toInt.toNat (by omega)
      rw [← hv362] at f363
      have nb363 : (nar .byte v362).toInt = v362.toInt := by have q := c_i2b v362; show v362.toInt8.toInt32.toInt = _; omega
      refine own_bastore X361 hx hZ e361 V359 (i := v360.toInt.toNat) (by omega) (by omega) (hb hby d1_86) ?_
      intro T364 h364 L364 X364 e364 W364 hL364 V364
      have len364 : L364.length = 21 := by rw [hL364, List.length_set]; exact len359
      have N364 := Fr.snoc X364 N359 g1
      show ORun p e below s _ _ _ T364 (mkF m 87 #[.val (.long q1), .second, .val (.ref a1), .val (.int p3), .val (.int v360), .val (.long v133), .second, .val (.long v331), .second, .val (.int v336), .val (.int (1 : Int32)), .val (.int v351), .val (.int v353)] [])
      have pk365 := own_pair (q := qk350) (w := wk350) (i := v355.toInt.toNat) (j := v360.toInt.toNat) (by omega) fi350 (by omega) (by omega) hL359 hL364 (by omega) (by omega)
      obtain ⟨wk365, hwk365⟩ : ∃ w, w = wk350 / 100 := ⟨_, rfl⟩
      obtain ⟨qk365, hqk365⟩ : ∃ q, q = v360.toInt.toNat := ⟨_, rfl⟩
      rw [← hwk365, ← hqk365] at pk365
      obtain ⟨pe365, fi365⟩ := pk365
      have ch365 := Eq.trans ch350 pe365
      have at365 : v360.toInt = (qk365 : Int) := by omega
      have qb365 : 1 ≤ qk365 ∧ qk365 ≤ 20 := by omega
      have lo365 : v351.toInt = ((wk365 % 10000 : Nat) : Int) := by omega
      have bw365 : 10000 ≤ wk365 := by omega
      clear a351 r351 a352 r352 a353 r353 f3_354 a355 r355 r357 f358 nb358 a360 r360 r362 f363 nb363 at350 qb350 lo350 bw350 len349 len359 fi350 hqk365
      refine own_by (fun t k => XS.iload X364.here hx rfl (hb hby d1_87) rfl k) ?_
      show ORun p e below s _ _ _ T364 (mkF m 89 #[.val (.long q1), .second, .val (.ref a1), .val (.int p3), .val (.int v360), .val (.long v133), .second, .val (.long v331), .second, .val (.int v336), .val (.int (1 : Int32)), .val (.int v351), .val (.int v353)] [(.int v351)])
      refine own_by (fun t k => XS.istore X364.here hx rfl (hb hby d1_89) rfl (l' := #[.val (.long q1), .second, .val (.ref a1), .val (.int p3), .val (.int v360), .val (.long v133), .second, .val (.long v331), .second, .val (.int v351), .val (.int (1 : Int32)), .val (.int v351), .val (.int v353)]) rfl k) ?_
      show ORun p e below s _ _ _ T364 (mkF m 91 #[.val (.long q1), .second, .val (.ref a1), .val (.int p3), .val (.int v360), .val (.long v133), .second, .val (.long v331), .second, .val (.int v351), .val (.int (1 : Int32)), .val (.int v351), .val (.int v353)] [])
      refine own_by (fun t k => XS.iinc X364.here hx rfl (hb hby d1_91) rfl (l' := #[.val (.long q1), .second, .val (.ref a1), .val (.int p3), .val (.int v360), .val (.long v133), .second, .val (.long v331), .second, .val (.int v351), .val (.int (2 : Int32)), .val (.int v351), .val (.int v353)]) rfl k) ?_
      show ORun p e below s _ _ _ T364 (mkF m 94 #[.val (.long q1), .second, .val (.ref a1), .val (.int p3), .val (.int v360), .val (.long v133), .second, .val (.long v331), .second, .val (.int v351), .val (.int (2 : Int32)), .val (.int v351), .val (.int v353)] [])
      refine own_by (fun t k => XS.goto X364.here hx rfl (pc0 := 94) (pc' := 38) rfl (hb hby d1_94) (by decide) (by decide) k) ?_
      show ORun p e below s _ _ _ T364 (mkF m 38 #[.val (.long q1), .second, .val (.ref a1), .val (.int p3), .val (.int v360), .val (.long v133), .second, .val (.long v331), .second, .val (.int v351), .val (.int (2 : Int32)), .val (.int v351), .val (.int v353)] [])
      refine own_by (fun t k => XS.iload X364.here hx rfl (hb hby d1_38) rfl k) ?_
      show ORun p e below s _ _ _ T364 (mkF m 40 #[.val (.long q1), .second, .val (.ref a1), .val (.int p3), .val (.int v360), .val (.long v133), .second, .val (.long v331), .second, .val (.int v351), .val (.int (2 : Int32)), .val (.int v351), .val (.int v353)] [(.int (2 : Int32))])
      refine own_by (fun t k => XS.iconst X364.here hx rfl (hb hby d1_40) k) ?_
      show ORun p e below s _ _ _ T364 (mkF m 41 #[.val (.long q1), .second, .val (.ref a1), .val (.int p3), .val (.int v360), .val (.long v133), .second, .val (.long v331), .second, .val (.int v351), .val (.int (2 : Int32)), .val (.int v351), .val (.int v353)] [(.int (4 : Int32)), (.int (2 : Int32))])
      refine own_by (fun t k => XS.icmpNo X364.here hx rfl (hb hby d1_41) rfl (tlt (by decide)).2.1 k) ?_
      show ORun p e below s _ _ _ T364 (mkF m 44 #[.val (.long q1), .second, .val (.ref a1), .val (.int p3), .val (.int v360), .val (.long v133), .second, .val (.long v331), .second, .val (.int v351), .val (.int (2 : Int32)), .val (.int v351), .val (.int v353)] [])
      refine own_by (fun t k => XS.iload X364.here hx rfl (hb hby d1_44) rfl k) ?_
      show ORun p e below s _ _ _ T364 (mkF m 46 #[.val (.long q1), .second, .val (.ref a1), .val (.int p3), .val (.int v360), .val (.long v133), .second, .val (.long v331), .second, .val (.int v351), .val (.int (2 : Int32)), .val (.int v351), .val (.int v353)] [(.int v351)])
      refine own_by (fun t k => XS.bipush X364.here hx rfl (hb hby d1_46) k) ?_
      show ORun p e below s _ _ _ T364 (mkF m 48 #[.val (.long q1), .second, .val (.ref a1), .val (.int p3), .val (.int v360), .val (.long v133), .second, .val (.long v331), .second, .val (.int v351), .val (.int (2 : Int32)), .val (.int v351), .val (.int v353)] [(.int (100 : Int32)), (.int v351)])
      refine own_by (fun t k => XS.idiv X364.here hx rfl (hb hby d1_48) rfl (by decide) k) (own_letI (f := (fun z => (mkF m 49 #[.val (.long q1), .second, .val (.ref a1), .val (.int p3), .val (.int v360), .val (.long v133), .second, .val (.long v331), .second, .val (.int v351), .val (.int (2 : Int32)), .val (.int v351), .val (.int v353)] [(.int z)]))) (v351 / (100 : Int32)) fun v366 hv366 => ?_)
      show ORun p e below s _ _ _ T364 (mkF m 49 #[.val (.long q1), .second, .val (.ref a1), .val (.int p3), .val (.int v360), .val (.long v133), .second, .val (.long v331), .second, .val (.int v351), .val (.int (2 : Int32)), .val (.int v351), .val (.int v353)] [(.int v366)])
      have r366 := rng32 v366
      have a366 : v366.toInt = v351.toInt / 100 := by
        have q : (0 ≤ v351.toInt → v366.toInt = v351.toInt / 100) ∧ (v351.toInt < 0 → v366.toInt = -((-v351.toInt) / 100)) := by rw [hv366]; exact c_idiv v351 (100 : Int32) 100 (by decide) (by decide)
        omega
      refine own_by (fun t k => XS.istore X364.here hx rfl (hb hby d1_49) rfl (l' := #[.val (.long q1), .second, .val (.ref a1), .val (.int p3), .val (.int v360), .val (.long v133), .second, .val (.long v331), .second, .val (.int v351), .val (.int (2 : Int32)), .val (.int v366), .val (.int v353)]) rfl k) ?_
      show ORun p e below s _ _ _ T364 (mkF m 51 #[.val (.long q1), .second, .val (.ref a1), .val (.int p3), .val (.int v360), .val (.long v133), .second, .val (.long v331), .second, .val (.int v351), .val (.int (2 : Int32)), .val (.int v366), .val (.int v353)] [])
      refine own_by (fun t k => XS.iload X364.here hx rfl (hb hby d1_51) rfl k) ?_
      show ORun p e below s _ _ _ T364 (mkF m 53 #[.val (.long q1), .second, .val (.ref a1), .val (.int p3), .val (.int v360), .val (.long v133), .second, .val (.long v331), .second, .val (.int v351), .val (.int (2 : Int32)), .val (.int v366), .val (.int v353)] [(.int v351)])
      refine own_by (fun t k => XS.bipush X364.here hx rfl (hb hby d1_53) k) ?_
      show ORun p e below s _ _ _ T364 (mkF m 55 #[.val (.long q1), .second, .val (.ref a1), .val (.int p3), .val (.int v360), .val (.long v133), .second, .val (.long v331), .second, .val (.int v351), .val (.int (2 : Int32)), .val (.int v366), .val (.int v353)] [(.int (100 : Int32)), (.int v351)])
      refine own_by (fun t k => XS.iload X364.here hx rfl (hb hby d1_55) rfl k) ?_
      show ORun p e below s _ _ _ T364 (mkF m 57 #[.val (.long q1), .second, .val (.ref a1), .val (.int p3), .val (.int v360), .val (.long v133), .second, .val (.long v331), .second, .val (.int v351), .val (.int (2 : Int32)), .val (.int v366), .val (.int v353)] [(.int v366), (.int (100 : Int32)), (.int v351)])
      refine own_by (fun t k => XS.imul X364.here hx rfl (hb hby d1_57) rfl k) (own_letI (f := (fun z => (mkF m 58 #[.val (.long q1), .second, .val (.ref a1), .val (.int p3), .val (.int v360), .val (.long v133), .second, .val (.long v331), .second, .val (.int v351), .val (.int (2 : Int32)), .val (.int v366), .val (.int v353)] [(.int z), (.int v351)]))) ((100 : Int32) * v366) fun v367 hv367 => ?_)
      show ORun p e below s _ _ _ T364 (mkF m 58 #[.val (.long q1), .second, .val (.ref a1), .val (.int p3), .val (.int v360), .val (.long v133), .second, .val (.long v331), .second, .val (.int v351), .val (.int (2 : Int32)), .val (.int v366), .val (.int v353)] [(.int v367), (.int v351)])
      have r367 := rng32 v367
      have a367 : v367.toInt = 100 * v366.toInt := by
        have q : (v367.toInt - (100 * v366.toInt)) % 4294967296 = 0 := by rw [hv367]; exact c_imul (100 : Int32) v366
        omega
      refine own_by (fun t k => XS.isub X364.here hx rfl (hb hby d1_58) rfl k) (own_letI (f := (fun z => (mkF m 59 #[.val (.long q1), .second, .val (.ref a1), .val (.int p3), .val (.int v360), .val (.long v133), .second, .val (.long v331), .second, .val (.int v351), .val (.int (2 : Int32)), .val (.int v366), .val (.int v353)] [(.int z)]))) (v351 - v367) fun v368 hv368 => ?_)
      show ORun p e below s _ _ _ T364 (mkF m 59 #[.val (.long q1), .second, .val (.ref a1), .val (.int p3), .val (.int v360), .val (.long v133), .second, .val (.long v331), .second, .val (.int v351), .val (.int (2 : Int32)), .val (.int v366), .val (.int v353)] [(.int v368)])
      have r368 := rng32 v368
      have a368 : v368.toInt = v351.toInt - v367.toInt := by
        have q : (v368.toInt - (v351.toInt - v367.toInt)) % 4294967296 = 0 := by rw [hv368]; exact c_isub v351 v367
        omega
      refine own_by (fun t k => XS.istore X364.here hx rfl (hb hby d1_59) rfl (l' := #[.val (.long q1), .second, .val (.ref a1), .val (.int p3), .val (.int v360), .val (.long v133), .second, .val (.long v331), .second, .val (.int v351), .val (.int (2 : Int32)), .val (.int v366), .val (.int v368)]) rfl k) ?_
      show ORun p e below s _ _ _ T364 (mkF m 61 #[.val (.long q1), .second, .val (.ref a1), .val (.int p3), .val (.int v360), .val (.long v133), .second, .val (.long v331), .second, .val (.int v351), .val (.int (2 : Int32)), .val (.int v366), .val (.int v368)] [])
      have f3_369 := own_fit3 (q := qk365) (w := wk365) (by omega) fi365
      refine own_by (fun t k => XS.aloadN X364.here hx rfl (hb hby d1_61) rfl rfl k) ?_
      show ORun p e below s _ _ _ T364 (mkF m 62 #[.val (.long q1), .second, .val (.ref a1), .val (.int p3), .val (.int v360), .val (.long v133), .second, .val (.long v331), .second, .val (.int v351), .val (.int (2 : Int32)), .val (.int v366), .val (.int v368)] [(.ref a1)])
      refine own_by (fun t k => XS.iinc X364.here hx rfl (hb hby d1_62) rfl (l' := #[.val (.long q1), .second, .val (.ref a1), .val (.int p3), .val (.int (v360 + (-1 : Int32))), .val (.long v133), .second, .val (.long v331), .second, .val (.int v351), .val (.int (2 : Int32)), .val (.int v366), .val (.int v368)]) rfl k) (own_letI (f := (fun z => (mkF m 65 #[.val (.long q1), .second, .val (.ref a1), .val (.int p3), .val (.int z), .val (.long v133), .second, .val (.long v331), .second, .val (.int v351), .val (.int (2 : Int32)), .val (.int v366), .val (.int v368)] [(.ref a1)]))) (v360 + (-1 : Int32)) fun v370 hv370 => ?_)
      show ORun p e below s _ _ _ T364 (mkF m 65 #[.val (.long q1), .second, .val (.ref a1), .val (.int p3), .val (.int v370), .val (.long v133), .second, .val (.long v331), .second, .val (.int v351), .val (.int (2 : Int32)), .val (.int v366), .val (.int v368)] [(.ref a1)])
      have r370 := rng32 v370
      have a370 : v370.toInt = v360.toInt + (-1) := by have q : (v370.toInt - (v360.toInt + (-1))) % 4294967296 = 0 := (by rw [hv370]; exact c_iadd v360 (-1 : Int32)); omega
      refine own_by (fun t k => XS.iload X364.here hx rfl (hb hby d1_65) rfl k) ?_
      show ORun p e below s _ _ _ T364 (mkF m 67 #[.val (.long q1), .second, .val (.ref a1), .val (.int p3), .val (.int v370), .val (.long v133), .second, .val (.long v331), .second, .val (.int v351), .val (.int (2 : Int32)), .val (.int v366), .val (.int v368)] [(.int v370), (.ref a1)])
      obtain ⟨T371, X371, e371, st371⟩ := getS2 X364 hx hZ hown (host := "") (Or.inl (hw _ (List.mem_of_getElem? (i := 31) rfl))) Via.refl e364 ((((((((((((S1.wr W146).wr W151).wr W161).wr W166).wr W176).wr W181).wr W191).wr W196).wr W344).wr W349).wr W359).wr W364) (g := (mkF m 67 #[.val (.long q1), .second, .val (.ref a1), .val (.int p3), .val (.int v370), .val (.long v133), .second, .val (.long v331), .second, .val (.int v351), .val (.int (2 : Int32)), .val (.int v366), .val (.int v368)] [(.int v370), (.ref a1)])) rfl (hb hby d1_67)
      refine own_by st371 ?_
      show ORun p e below s _ _ _ T371 (mkF m 70 #[.val (.long q1), .second, .val (.ref a1), .val (.int p3), .val (.int v370), .val (.long v133), .second, .val (.long v331), .second, .val (.int v351), .val (.int (2 : Int32)), .val (.int v366), .val (.int v368)] [(.ref d1), (.int v370), (.ref a1)])
      refine own_by (fun t k => XS.iload X371.here hx rfl (hb hby d1_70) rfl k) ?_
      show ORun p e below s _ _ _ T371 (mkF m 72 #[.val (.long q1), .second, .val (.ref a1), .val (.int p3), .val (.int v370), .val (.long v133), .second, .val (.long v331), .second, .val (.int v351), .val (.int (2 : Int32)), .val (.int v366), .val (.int v368)] [(.int v368), (.ref d1), (.int v370), (.ref a1)])
      refine own_baload X371 hx hZ e371 ((((((((((((V1.other W146 ne_d1).other W151 ne_d1).other W161 ne_d1).other W166 ne_d1).other W176 ne_d1).other W181 ne_d1).other W191 ne_d1).other W196 ne_d1).other W344 ne_d1).other W349 ne_d1).other W359 ne_d1).other W364 ne_d1) (i := v368.toInt.toNat) (by omega) (by omega) (hb hby d1_72) ?_
      intro v372 hv372
      have r372 := rng32 v372
      show ORun p e below s _ _ _ T371 (mkF m 73 #[.val (.long q1), .second, .val (.ref a1), .val (.int p3), .val (.int v370), .val (.long v133), .second, .val (.long v331), .second, .val (.int v351), .val (.int (2 : Int32)), .val (.int v366), .val (.int v368)] [(.int v372), (.int v370), (.ref a1)])
      have f373 := hO1 v368.toInt.toNat (by omega)
      rw [← hv372] at f373
      have nb373 : (nar .byte v372).toInt = v372.toInt := by have q := c_i2b v372; show v372.toInt8.toInt32.toInt = _; omega
      refine own_bastore X371 hx hZ e371 V364 (i := v370.toInt.toNat) (by omega) (by omega) (hb hby d1_73) ?_
      intro T374 h374 L374 X374 e374 W374 hL374 V374
      have len374 : L374.length = 21 := by rw [hL374, List.length_set]; exact len364
      have N374 := Fr.snoc X374 N364 g1
      show ORun p e below s _ _ _ T374 (mkF m 74 #[.val (.long q1), .second, .val (.ref a1), .val (.int p3), .val (.int v370), .val (.long v133), .second, .val (.long v331), .second, .val (.int v351), .val (.int (2 : Int32)), .val (.int v366), .val (.int v368)] [])
      refine own_by (fun t k => XS.aloadN X374.here hx rfl (hb hby d1_74) rfl rfl k) ?_
      show ORun p e below s _ _ _ T374 (mkF m 75 #[.val (.long q1), .second, .val (.ref a1), .val (.int p3), .val (.int v370), .val (.long v133), .second, .val (.long v331), .second, .val (.int v351), .val (.int (2 : Int32)), .val (.int v366), .val (.int v368)] [(.ref a1)])
      refine own_by (fun t k => XS.iinc X374.here hx rfl (hb hby d1_75) rfl (l' := #[.val (.long q1), .second, .val (.ref a1), .val (.int p3), .val (.int (v370 + (-1 : Int32))), .val (.long v133), .second, .val (.long v331), .second, .val (.int v351), .val (.int (2 : Int32)), .val (.int v366), .val (.int v368)]) rfl k) (own_letI (f := (fun z => (mkF m 78 #[.val (.long q1), .second, .val (.ref a1), .val (.int p3), .val (.int z), .val (.long v133), .second, .val (.long v331), .second, .val (.int v351), .val (.int (2 : Int32)), .val (.int v366), .val (.int v368)] [(.ref a1)]))) (v370 + (-1 : Int32)) fun v375 hv375 => ?_)
      show ORun p e below s _ _ _ T374 (mkF m 78 #[.val (.long q1), .second, .val (.ref a1), .val (.int p3), .val (.int v375), .val (.long v133), .second, .val (.long v331), .second, .val (.int v351), .val (.int (2 : Int32)), .val (.int v366), .val (.int v368)] [(.ref a1)])
      have r375 := rng32 v375
      have a375 : v375.toInt = v370.toInt + (-1) := by have q : (v375.toInt - (v370.toInt + (-1))) % 4294967296 = 0 := (by rw [hv375]; exact c_iadd v370 (-1 : Int32)); omega
      refine own_by (fun t k => XS.iload X374.here hx rfl (hb hby d1_78) rfl k) ?_
      show ORun p e below s _ _ _ T374 (mkF m 80 #[.val (.long q1), .second, .val (.ref a1), .val (.int p3), .val (.int v375), .val (.long v133), .second, .val (.long v331), .second, .val (.int v351), .val (.int (2 : Int32)), .val (.int v366), .val (.int v368)] [(.int v375), (.ref a1)])
      obtain ⟨T376, X376, e376, st376⟩ := getS2 X374 hx hZ hown (host := "") (Or.inl (hw _ (List.mem_of_getElem? (i := 33) rfl))) Via.refl e374 (((((((((((((S2.wr W146).wr W151).wr W161).wr W166).wr W176).wr W181).wr W191).wr W196).wr W344).wr W349).wr W359).wr W364).wr W374) (g := (mkF m 80 #[.val (.long q1), .second, .val (.ref a1), .val (.int p3), .val (.int v375), .val (.long v133), .second, .val (.long v331), .second, .val (.int v351), .val (.int (2 : Int32)), .val (.int v366), .val (.int v368)] [(.int v375), (.ref a1)])) rfl (hb hby d1_80)
      refine own_by st376 ?_
      show ORun p e below s _ _ _ T376 (mkF m 83 #[.val (.long q1), .second, .val (.ref a1), .val (.int p3), .val (.int v375), .val (.long v133), .second, .val (.long v331), .second, .val (.int v351), .val (.int (2 : Int32)), .val (.int v366), .val (.int v368)] [(.ref d2), (.int v375), (.ref a1)])
      refine own_by (fun t k => XS.iload X376.here hx rfl (hb hby d1_83) rfl k) ?_
      show ORun p e below s _ _ _ T376 (mkF m 85 #[.val (.long q1), .second, .val (.ref a1), .val (.int p3), .val (.int v375), .val (.long v133), .second, .val (.long v331), .second, .val (.int v351), .val (.int (2 : Int32)), .val (.int v366), .val (.int v368)] [(.int v368), (.ref d2), (.int v375), (.ref a1)])
      refine own_baload X376 hx hZ e376 (((((((((((((V2.other W146 ne_d2).other W151 ne_d2).other W161 ne_d2).other W166 ne_d2).other W176 ne_d2).other W181 ne_d2).other W191 ne_d2).other W196 ne_d2).other W344 ne_d2).other W349 ne_d2).other W359 ne_d2).other W364 ne_d2).other W374 ne_d2) (i := v368.toInt.toNat) (by omega) (by omega) (hb hby d1_85) ?_
      intro v377 hv377
      have r377 := rng32 v377
      show ORun p e below s _ _ _ T376 (mkF m 86 #[.val (.long q1), .second, .val (.ref a1), .val (.int p3), .val (.int v375), .val (.long v133), .second, .val (.long v331), .second, .val (.int v351), .val (.int (2 : Int32)), .val (.int v366), .val (.int v368)] [(.int v377), (.int v375), (.ref a1)])
      have f378 := hT1 v368.toInt.toNat (by omega)
      rw [← hv377] at f378
      have nb378 : (nar .byte v377).toInt = v377.toInt := by have q := c_i2b v377; show v377.toInt8.toInt32.toInt = _; omega
      refine own_bastore X376 hx hZ e376 V374 (i := v375.toInt.toNat) (by omega) (by omega) (hb hby d1_86) ?_
      intro T379 h379 L379 X379 e379 W379 hL379 V379
      have len379 : L379.length = 21 := by rw [hL379, List.length_set]; exact len374
      have N379 := Fr.snoc X379 N374 g1
      show ORun p e below s _ _ _ T379 (mkF m 87 #[.val (.long q1), .second, .val (.ref a1), .val (.int p3), .val (.int v375), .val (.long v133), .second, .val (.long v331), .second, .val (.int v351), .val (.int (2 : Int32)), .val (.int v366), .val (.int v368)] [])
      have pk380 := own_pair (q := qk365) (w := wk365) (i := v370.toInt.toNat) (j := v375.toInt.toNat) (by omega) fi365 (by omega) (by omega) hL374 hL379 (by omega) (by omega)
      obtain ⟨wk380, hwk380⟩ : ∃ w, w = wk365 / 100 := ⟨_, rfl⟩
      obtain ⟨qk380, hqk380⟩ : ∃ q, q = v375.toInt.toNat := ⟨_, rfl⟩
      rw [← hwk380, ← hqk380] at pk380
      obtain ⟨pe380, fi380⟩ := pk380
      have ch380 := Eq.trans ch365 pe380
      have at380 : v375.toInt = (qk380 : Int) := by omega
      have qb380 : 1 ≤ qk380 ∧ qk380 ≤ 20 := by omega
      have lo380 : v366.toInt = ((wk380 % 100 : Nat) : Int) := by omega
      have bw380 : 100 ≤ wk380 := by omega
      clear a366 r366 a367 r367 a368 r368 f3_369 a370 r370 r372 f373 nb373 a375 r375 r377 f378 nb378 at365 qb365 lo365 bw365 len364 len374 fi365 hqk380
      refine own_by (fun t k => XS.iload X379.here hx rfl (hb hby d1_87) rfl k) ?_
      show ORun p e below s _ _ _ T379 (mkF m 89 #[.val (.long q1), .second, .val (.ref a1), .val (.int p3), .val (.int v375), .val (.long v133), .second, .val (.long v331), .second, .val (.int v351), .val (.int (2 : Int32)), .val (.int v366), .val (.int v368)] [(.int v366)])
      refine own_by (fun t k => XS.istore X379.here hx rfl (hb hby d1_89) rfl (l' := #[.val (.long q1), .second, .val (.ref a1), .val (.int p3), .val (.int v375), .val (.long v133), .second, .val (.long v331), .second, .val (.int v366), .val (.int (2 : Int32)), .val (.int v366), .val (.int v368)]) rfl k) ?_
      show ORun p e below s _ _ _ T379 (mkF m 91 #[.val (.long q1), .second, .val (.ref a1), .val (.int p3), .val (.int v375), .val (.long v133), .second, .val (.long v331), .second, .val (.int v366), .val (.int (2 : Int32)), .val (.int v366), .val (.int v368)] [])
      refine own_by (fun t k => XS.iinc X379.here hx rfl (hb hby d1_91) rfl (l' := #[.val (.long q1), .second, .val (.ref a1), .val (.int p3), .val (.int v375), .val (.long v133), .second, .val (.long v331), .second, .val (.int v366), .val (.int (3 : Int32)), .val (.int v366), .val (.int v368)]) rfl k) ?_
      show ORun p e below s _ _ _ T379 (mkF m 94 #[.val (.long q1), .second, .val (.ref a1), .val (.int p3), .val (.int v375), .val (.long v133), .second, .val (.long v331), .second, .val (.int v366), .val (.int (3 : Int32)), .val (.int v366), .val (.int v368)] [])
      refine own_by (fun t k => XS.goto X379.here hx rfl (pc0 := 94) (pc' := 38) rfl (hb hby d1_94) (by decide) (by decide) k) ?_
      show ORun p e below s _ _ _ T379 (mkF m 38 #[.val (.long q1), .second, .val (.ref a1), .val (.int p3), .val (.int v375), .val (.long v133), .second, .val (.long v331), .second, .val (.int v366), .val (.int (3 : Int32)), .val (.int v366), .val (.int v368)] [])
      refine own_by (fun t k => XS.iload X379.here hx rfl (hb hby d1_38) rfl k) ?_
      show ORun p e below s _ _ _ T379 (mkF m 40 #[.val (.long q1), .second, .val (.ref a1), .val (.int p3), .val (.int v375), .val (.long v133), .second, .val (.long v331), .second, .val (.int v366), .val (.int (3 : Int32)), .val (.int v366), .val (.int v368)] [(.int (3 : Int32))])
      refine own_by (fun t k => XS.iconst X379.here hx rfl (hb hby d1_40) k) ?_
      show ORun p e below s _ _ _ T379 (mkF m 41 #[.val (.long q1), .second, .val (.ref a1), .val (.int p3), .val (.int v375), .val (.long v133), .second, .val (.long v331), .second, .val (.int v366), .val (.int (3 : Int32)), .val (.int v366), .val (.int v368)] [(.int (4 : Int32)), (.int (3 : Int32))])
      refine own_by (fun t k => XS.icmpNo X379.here hx rfl (hb hby d1_41) rfl (tlt (by decide)).2.1 k) ?_
      show ORun p e below s _ _ _ T379 (mkF m 44 #[.val (.long q1), .second, .val (.ref a1), .val (.int p3), .val (.int v375), .val (.long v133), .second, .val (.long v331), .second, .val (.int v366), .val (.int (3 : Int32)), .val (.int v366), .val (.int v368)] [])
      refine own_by (fun t k => XS.iload X379.here hx rfl (hb hby d1_44) rfl k) ?_
      show ORun p e below s _ _ _ T379 (mkF m 46 #[.val (.long q1), .second, .val (.ref a1), .val (.int p3), .val (.int v375), .val (.long v133), .second, .val (.long v331), .second, .val (.int v366), .val (.int (3 : Int32)), .val (.int v366), .val (.int v368)] [(.int v366)])
      refine own_by (fun t k => XS.bipush X379.here hx rfl (hb hby d1_46) k) ?_
      show ORun p e below s _ _ _ T379 (mkF m 48 #[.val (.long q1), .second, .val (.ref a1), .val (.int p3), .val (.int v375), .val (.long v133), .second, .val (.long v331), .second, .val (.int v366), .val (.int (3 : Int32)), .val (.int v366), .val (.int v368)] [(.int (100 : Int32)), (.int v366)])
      refine own_by (fun t k => XS.idiv X379.here hx rfl (hb hby d1_48) rfl (by decide) k) (own_letI (f := (fun z => (mkF m 49 #[.val (.long q1), .second, .val (.ref a1), .val (.int p3), .val (.int v375), .val (.long v133), .second, .val (.long v331), .second, .val (.int v366), .val (.int (3 : Int32)), .val (.int v366), .val (.int v368)] [(.int z)]))) (v366 / (100 : Int32)) fun v381 hv381 => ?_)
      show ORun p e below s _ _ _ T379 (mkF m 49 #[.val (.long q1), .second, .val (.ref a1), .val (.int p3), .val (.int v375), .val (.long v133), .second, .val (.long v331), .second, .val (.int v366), .val (.int (3 : Int32)), .val (.int v366), .val (.int v368)] [(.int v381)])
      have r381 := rng32 v381
      have a381 : v381.toInt = v366.toInt / 100 := by
        have q : (0 ≤ v366.toInt → v381.toInt = v366.toInt / 100) ∧ (v366.toInt < 0 → v381.toInt = -((-v366.toInt) / 100)) := by rw [hv381]; exact c_idiv v366 (100 : Int32) 100 (by decide) (by decide)
        omega
      refine own_by (fun t k => XS.istore X379.here hx rfl (hb hby d1_49) rfl (l' := #[.val (.long q1), .second, .val (.ref a1), .val (.int p3), .val (.int v375), .val (.long v133), .second, .val (.long v331), .second, .val (.int v366), .val (.int (3 : Int32)), .val (.int v381), .val (.int v368)]) rfl k) ?_
      show ORun p e below s _ _ _ T379 (mkF m 51 #[.val (.long q1), .second, .val (.ref a1), .val (.int p3), .val (.int v375), .val (.long v133), .second, .val (.long v331), .second, .val (.int v366), .val (.int (3 : Int32)), .val (.int v381), .val (.int v368)] [])
      refine own_by (fun t k => XS.iload X379.here hx rfl (hb hby d1_51) rfl k) ?_
      show ORun p e below s _ _ _ T379 (mkF m 53 #[.val (.long q1), .second, .val (.ref a1), .val (.int p3), .val (.int v375), .val (.long v133), .second, .val (.long v331), .second, .val (.int v366), .val (.int (3 : Int32)), .val (.int v381), .val (.int v368)] [(.int v366)])
      refine own_by (fun t k => XS.bipush X379.here hx rfl (hb hby d1_53) k) ?_
      show ORun p e below s _ _ _ T379 (mkF m 55 #[.val (.long q1), .second, .val (.ref a1), .val (.int p3), .val (.int v375), .val (.long v133), .second, .val (.long v331), .second, .val (.int v366), .val (.int (3 : Int32)), .val (.int v381), .val (.int v368)] [(.int (100 : Int32)), (.int v366)])
      refine own_by (fun t k => XS.iload X379.here hx rfl (hb hby d1_55) rfl k) ?_
      show ORun p e below s _ _ _ T379 (mkF m 57 #[.val (.long q1), .second, .val (.ref a1), .val (.int p3), .val (.int v375), .val (.long v133), .second, .val (.long v331), .second, .val (.int v366), .val (.int (3 : Int32)), .val (.int v381), .val (.int v368)] [(.int v381), (.int (100 : Int32)), (.int v366)])
      refine own_by (fun t k => XS.imul X379.here hx rfl (hb hby d1_57) rfl k) (own_letI (f := (fun z => (mkF m 58 #[.val (.long q1), .second, .val (.ref a1), .val (.int p3), .val (.int v375), .val (.long v133), .second, .val (.long v331), .second, .val (.int v366), .val (.int (3 : Int32)), .val (.int v381), .val (.int v368)] [(.int z), (.int v366)]))) ((100 : Int32) * v381) fun v382 hv382 => ?_)
      show ORun p e below s _ _ _ T379 (mkF m 58 #[.val (.long q1), .second, .val (.ref a1), .val (.int p3), .val (.int v375), .val (.long v133), .second, .val (.long v331), .second, .val (.int v366), .val (.int (3 : Int32)), .val (.int v381), .val (.int v368)] [(.int v382), (.int v366)])
      have r382 := rng32 v382
      have a382 : v382.toInt = 100 * v381.toInt := by
        have q : (v382.toInt - (100 * v381.toInt)) % 4294967296 = 0 := by rw [hv382]; exact c_imul (100 : Int32) v381
        omega
      refine own_by (fun t k => XS.isub X379.here hx rfl (hb hby d1_58) rfl k) (own_letI (f := (fun z => (mkF m 59 #[.val (.long q1), .second, .val (.ref a1), .val (.int p3), .val (.int v375), .val (.long v133), .second, .val (.long v331), .second, .val (.int v366), .val (.int (3 : Int32)), .val (.int v381), .val (.int v368)] [(.int z)]))) (v366 - v382) fun v383 hv383 => ?_)
      show ORun p e below s _ _ _ T379 (mkF m 59 #[.val (.long q1), .second, .val (.ref a1), .val (.int p3), .val (.int v375), .val (.long v133), .second, .val (.long v331), .second, .val (.int v366), .val (.int (3 : Int32)), .val (.int v381), .val (.int v368)] [(.int v383)])
      have r383 := rng32 v383
      have a383 : v383.toInt = v366.toInt - v382.toInt := by
        have q : (v383.toInt - (v366.toInt - v382.toInt)) % 4294967296 = 0 := by rw [hv383]; exact c_isub v366 v382
        omega
      refine own_by (fun t k => XS.istore X379.here hx rfl (hb hby d1_59) rfl (l' := #[.val (.long q1), .second, .val (.ref a1), .val (.int p3), .val (.int v375), .val (.long v133), .second, .val (.long v331), .second, .val (.int v366), .val (.int (3 : Int32)), .val (.int v381), .val (.int v383)]) rfl k) ?_
      show ORun p e below s _ _ _ T379 (mkF m 61 #[.val (.long q1), .second, .val (.ref a1), .val (.int p3), .val (.int v375), .val (.long v133), .second, .val (.long v331), .second, .val (.int v366), .val (.int (3 : Int32)), .val (.int v381), .val (.int v383)] [])
      have f3_384 := own_fit3 (q := qk380) (w := wk380) (by omega) fi380
      refine own_by (fun t k => XS.aloadN X379.here hx rfl (hb hby d1_61) rfl rfl k) ?_
      show ORun p e below s _ _ _ T379 (mkF m 62 #[.val (.long q1), .second, .val (.ref a1), .val (.int p3), .val (.int v375), .val (.long v133), .second, .val (.long v331), .second, .val (.int v366), .val (.int (3 : Int32)), .val (.int v381), .val (.int v383)] [(.ref a1)])
      refine own_by (fun t k => XS.iinc X379.here hx rfl (hb hby d1_62) rfl (l' := #[.val (.long q1), .second, .val (.ref a1), .val (.int p3), .val (.int (v375 + (-1 : Int32))), .val (.long v133), .second, .val (.long v331), .second, .val (.int v366), .val (.int (3 : Int32)), .val (.int v381), .val (.int v383)]) rfl k) (own_letI (f := (fun z => (mkF m 65 #[.val (.long q1), .second, .val (.ref a1), .val (.int p3), .val (.int z), .val (.long v133), .second, .val (.long v331), .second, .val (.int v366), .val (.int (3 : Int32)), .val (.int v381), .val (.int v383)] [(.ref a1)]))) (v375 + (-1 : Int32)) fun v385 hv385 => ?_)
      show ORun p e below s _ _ _ T379 (mkF m 65 #[.val (.long q1), .second, .val (.ref a1), .val (.int p3), .val (.int v385), .val (.long v133), .second, .val (.long v331), .second, .val (.int v366), .val (.int (3 : Int32)), .val (.int v381), .val (.int v383)] [(.ref a1)])
      have r385 := rng32 v385
      have a385 : v385.toInt = v375.toInt + (-1) := by have q : (v385.toInt - (v375.toInt + (-1))) % 4294967296 = 0 := (by rw [hv385]; exact c_iadd v375 (-1 : Int32)); omega
      refine own_by (fun t k => XS.iload X379.here hx rfl (hb hby d1_65) rfl k) ?_
      show ORun p e below s _ _ _ T379 (mkF m 67 #[.val (.long q1), .second, .val (.ref a1), .val (.int p3), .val (.int v385), .val (.long v133), .second, .val (.long v331), .second, .val (.int v366), .val (.int (3 : Int32)), .val (.int v381), .val (.int v383)] [(.int v385), (.ref a1)])
      obtain ⟨T386, X386, e386, st386⟩ := getS2 X379 hx hZ hown (host := "") (Or.inl (hw _ (List.mem_of_getElem? (i := 31) rfl))) Via.refl e379 ((((((((((((((S1.wr W146).wr W151).wr W161).wr W166).wr W176).wr W181).wr W191).wr W196).wr W344).wr W349).wr W359).wr W364).wr W374).wr W379) (g := (mkF m 67 #[.val (.long q1), .second, .val (.ref a1), .val (.int p3), .val (.int v385), .val (.long v133), .second, .val (.long v331), .second, .val (.int v366), .val (.int (3 : Int32)), .val (.int v381), .val (.int v383)] [(.int v385), (.ref a1)])) rfl (hb hby d1_67)
      refine own_by st386 ?_
      show ORun p e below s _ _ _ T386 (mkF m 70 #[.val (.long q1), .second, .val (.ref a1), .val (.int p3), .val (.int v385), .val (.long v133), .second, .val (.long v331), .second, .val (.int v366), .val (.int (3 : Int32)), .val (.int v381), .val (.int v383)] [(.ref d1), (.int v385), (.ref a1)])
      refine own_by (fun t k => XS.iload X386.here hx rfl (hb hby d1_70) rfl k) ?_
      show ORun p e below s _ _ _ T386 (mkF m 72 #[.val (.long q1), .second, .val (.ref a1), .val (.int p3), .val (.int v385), .val (.long v133), .second, .val (.long v331), .second, .val (.int v366), .val (.int (3 : Int32)), .val (.int v381), .val (.int v383)] [(.int v383), (.ref d1), (.int v385), (.ref a1)])
      refine own_baload X386 hx hZ e386 ((((((((((((((V1.other W146 ne_d1).other W151 ne_d1).other W161 ne_d1).other W166 ne_d1).other W176 ne_d1).other W181 ne_d1).other W191 ne_d1).other W196 ne_d1).other W344 ne_d1).other W349 ne_d1).other W359 ne_d1).other W364 ne_d1).other W374 ne_d1).other W379 ne_d1) (i := v383.toInt.toNat) (by omega) (by omega) (hb hby d1_72) ?_
      intro v387 hv387
      have r387 := rng32 v387
      show ORun p e below s _ _ _ T386 (mkF m 73 #[.val (.long q1), .second, .val (.ref a1), .val (.int p3), .val (.int v385), .val (.long v133), .second, .val (.long v331), .second, .val (.int v366), .val (.int (3 : Int32)), .val (.int v381), .val (.int v383)] [(.int v387), (.int v385), (.ref a1)])
      have f388 := hO1 v383.toInt.toNat (by omega)
      rw [← hv387] at f388
      have nb388 : (nar .byte v387).toInt = v387.toInt := by have q := c_i2b v387; show v387.toInt8.toInt32.toInt = _; omega
      refine own_bastore X386 hx hZ e386 V379 (i := v385.toInt.toNat) (by omega) (by omega) (hb hby d1_73) ?_
      intro T389 h389 L389 X389 e389 W389 hL389 V389
      have len389 : L389.length = 21 := by rw [hL389, List.length_set]; exact len379
      have N389 := Fr.snoc X389 N379 g1
      show ORun p e below s _ _ _ T389 (mkF m 74 #[.val (.long q1), .second, .val (.ref a1), .val (.int p3), .val (.int v385), .val (.long v133), .second, .val (.long v331), .second, .val (.int v366), .val (.int (3 : Int32)), .val (.int v381), .val (.int v383)] [])
      refine own_by (fun t k => XS.aloadN X389.here hx rfl (hb hby d1_74) rfl rfl k) ?_
      show ORun p e below s _ _ _ T389 (mkF m 75 #[.val (.long q1), .second, .val (.ref a1), .val (.int p3), .val (.int v385), .val (.long v133), .second, .val (.long v331), .second, .val (.int v366), .val (.int (3 : Int32)), .val (.int v381), .val (.int v383)] [(.ref a1)])
      refine own_by (fun t k => XS.iinc X389.here hx rfl (hb hby d1_75) rfl (l' := #[.val (.long q1), .second, .val (.ref a1), .val (.int p3), .val (.int (v385 + (-1 : Int32))), .val (.long v133), .second, .val (.long v331), .second, .val (.int v366), .val (.int (3 : Int32)), .val (.int v381), .val (.int v383)]) rfl k) (own_letI (f := (fun z => (mkF m 78 #[.val (.long q1), .second, .val (.ref a1), .val (.int p3), .val (.int z), .val (.long v133), .second, .val (.long v331), .second, .val (.int v366), .val (.int (3 : Int32)), .val (.int v381), .val (.int v383)] [(.ref a1)]))) (v385 + (-1 : Int32)) fun v390 hv390 => ?_)
      show ORun p e below s _ _ _ T389 (mkF m 78 #[.val (.long q1), .second, .val (.ref a1), .val (.int p3), .val (.int v390), .val (.long v133), .second, .val (.long v331), .second, .val (.int v366), .val (.int (3 : Int32)), .val (.int v381), .val (.int v383)] [(.ref a1)])
      have r390 := rng32 v390
      have a390 : v390.toInt = v385.toInt + (-1) := by have q : (v390.toInt - (v385.toInt + (-1))) % 4294967296 = 0 := (by rw [hv390]; exact c_iadd v385 (-1 : Int32)); omega
      refine own_by (fun t k => XS.iload X389.here hx rfl (hb hby d1_78) rfl k) ?_
      show ORun p e below s _ _ _ T389 (mkF m 80 #[.val (.long q1), .second, .val (.ref a1), .val (.int p3), .val (.int v390), .val (.long v133), .second, .val (.long v331), .second, .val (.int v366), .val (.int (3 : Int32)), .val (.int v381), .val (.int v383)] [(.int v390), (.ref a1)])
      obtain ⟨T391, X391, e391, st391⟩ := getS2 X389 hx hZ hown (host := "") (Or.inl (hw _ (List.mem_of_getElem? (i := 33) rfl))) Via.refl e389 (((((((((((((((S2.wr W146).wr W151).wr W161).wr W166).wr W176).wr W181).wr W191).wr W196).wr W344).wr W349).wr W359).wr W364).wr W374).wr W379).wr W389) (g := (mkF m 80 #[.val (.long q1), .second, .val (.ref a1), .val (.int p3), .val (.int v390), .val (.long v133), .second, .val (.long v331), .second, .val (.int v366), .val (.int (3 : Int32)), .val (.int v381), .val (.int v383)] [(.int v390), (.ref a1)])) rfl (hb hby d1_80)
      refine own_by st391 ?_
      show ORun p e below s _ _ _ T391 (mkF m 83 #[.val (.long q1), .second, .val (.ref a1), .val (.int p3), .val (.int v390), .val (.long v133), .second, .val (.long v331), .second, .val (.int v366), .val (.int (3 : Int32)), .val (.int v381), .val (.int v383)] [(.ref d2), (.int v390), (.ref a1)])
      refine own_by (fun t k => XS.iload X391.here hx rfl (hb hby d1_83) rfl k) ?_
      show ORun p e below s _ _ _ T391 (mkF m 85 #[.val (.long q1), .second, .val (.ref a1), .val (.int p3), .val (.int v390), .val (.long v133), .second, .val (.long v331), .second, .val (.int v366), .val (.int (3 : Int32)), .val (.int v381), .val (.int v383)] [(.int v383), (.ref d2), (.int v390), (.ref a1)])
      refine own_baload X391 hx hZ e391 (((((((((((((((V2.other W146 ne_d2).other W151 ne_d2).other W161 ne_d2).other W166 ne_d2).other W176 ne_d2).other W181 ne_d2).other W191 ne_d2).other W196 ne_d2).other W344 ne_d2).other W349 ne_d2).other W359 ne_d2).other W364 ne_d2).other W374 ne_d2).other W379 ne_d2).other W389 ne_d2) (i := v383.toInt.toNat) (by omega) (by omega) (hb hby d1_85) ?_
      intro v392 hv392
      have r392 := rng32 v392
      show ORun p e below s _ _ _ T391 (mkF m 86 #[.val (.long q1), .second, .val (.ref a1), .val (.int p3), .val (.int v390), .val (.long v133), .second, .val (.long v331), .second, .val (.int v366), .val (.int (3 : Int32)), .val (.int v381), .val (.int v383)] [(.int v392), (.int v390), (.ref a1)])
      have f393 := hT1 v383.toInt.toNat (by omega)
      rw [← hv392] at f393
      have nb393 : (nar .byte v392).toInt = v392.toInt := by have q := c_i2b v392; show v392.toInt8.toInt32.toInt = _; omega
      refine own_bastore X391 hx hZ e391 V389 (i := v390.toInt.toNat) (by omega) (by omega) (hb hby d1_86) ?_
      intro T394 h394 L394 X394 e394 W394 hL394 V394
      have len394 : L394.length = 21 := by rw [hL394, List.length_set]; exact len389
      have N394 := Fr.snoc X394 N389 g1
      show ORun p e below s _ _ _ T394 (mkF m 87 #[.val (.long q1), .second, .val (.ref a1), .val (.int p3), .val (.int v390), .val (.long v133), .second, .val (.long v331), .second, .val (.int v366), .val (.int (3 : Int32)), .val (.int v381), .val (.int v383)] [])
      have pk395 := own_pair (q := qk380) (w := wk380) (i := v385.toInt.toNat) (j := v390.toInt.toNat) (by omega) fi380 (by omega) (by omega) hL389 hL394 (by omega) (by omega)
      obtain ⟨wk395, hwk395⟩ : ∃ w, w = wk380 / 100 := ⟨_, rfl⟩
      obtain ⟨qk395, hqk395⟩ : ∃ q, q = v390.toInt.toNat := ⟨_, rfl⟩
      rw [← hwk395, ← hqk395] at pk395
      obtain ⟨pe395, fi395⟩ := pk395
      have ch395 := Eq.trans ch380 pe395
      have at395 : v390.toInt = (qk395 : Int) := by omega
      have qb395 : 1 ≤ qk395 ∧ qk395 ≤ 20 := by omega
      have lo395 : v381.toInt = ((wk395 % 1 : Nat) : Int) := by omega
      have bw395 : 1 ≤ wk395 := by omega
      clear a381 r381 a382 r382 a383 r383 f3_384 a385 r385 r387 f388 nb388 a390 r390 r392 f393 nb393 at380 qb380 lo380 bw380 len379 len389 fi380 hqk395
      refine own_by (fun t k => XS.iload X394.here hx rfl (hb hby d1_87) rfl k) ?_
      show ORun p e below s _ _ _ T394 (mkF m 89 #[.val (.long q1), .second, .val (.ref a1), .val (.int p3), .val (.int v390), .val (.long v133), .second, .val (.long v331), .second, .val (.int v366), .val (.int (3 : Int32)), .val (.int v381), .val (.int v383)] [(.int v381)])
      refine own_by (fun t k => XS.istore X394.here hx rfl (hb hby d1_89) rfl (l' := #[.val (.long q1), .second, .val (.ref a1), .val (.int p3), .val (.int v390), .val (.long v133), .second, .val (.long v331), .second, .val (.int v381), .val (.int (3 : Int32)), .val (.int v381), .val (.int v383)]) rfl k) ?_
      show ORun p e below s _ _ _ T394 (mkF m 91 #[.val (.long q1), .second, .val (.ref a1), .val (.int p3), .val (.int v390), .val (.long v133), .second, .val (.long v331), .second, .val (.int v381), .val (.int (3 : Int32)), .val (.int v381), .val (.int v383)] [])
      refine own_by (fun t k => XS.iinc X394.here hx rfl (hb hby d1_91) rfl (l' := #[.val (.long q1), .second, .val (.ref a1), .val (.int p3), .val (.int v390), .val (.long v133), .second, .val (.long v331), .second, .val (.int v381), .val (.int (4 : Int32)), .val (.int v381), .val (.int v383)]) rfl k) ?_
      show ORun p e below s _ _ _ T394 (mkF m 94 #[.val (.long q1), .second, .val (.ref a1), .val (.int p3), .val (.int v390), .val (.long v133), .second, .val (.long v331), .second, .val (.int v381), .val (.int (4 : Int32)), .val (.int v381), .val (.int v383)] [])
      refine own_by (fun t k => XS.goto X394.here hx rfl (pc0 := 94) (pc' := 38) rfl (hb hby d1_94) (by decide) (by decide) k) ?_
      show ORun p e below s _ _ _ T394 (mkF m 38 #[.val (.long q1), .second, .val (.ref a1), .val (.int p3), .val (.int v390), .val (.long v133), .second, .val (.long v331), .second, .val (.int v381), .val (.int (4 : Int32)), .val (.int v381), .val (.int v383)] [])
      refine own_by (fun t k => XS.iload X394.here hx rfl (hb hby d1_38) rfl k) ?_
      show ORun p e below s _ _ _ T394 (mkF m 40 #[.val (.long q1), .second, .val (.ref a1), .val (.int p3), .val (.int v390), .val (.long v133), .second, .val (.long v331), .second, .val (.int v381), .val (.int (4 : Int32)), .val (.int v381), .val (.int v383)] [(.int (4 : Int32))])
      refine own_by (fun t k => XS.iconst X394.here hx rfl (hb hby d1_40) k) ?_
      show ORun p e below s _ _ _ T394 (mkF m 41 #[.val (.long q1), .second, .val (.ref a1), .val (.int p3), .val (.int v390), .val (.long v133), .second, .val (.long v331), .second, .val (.int v381), .val (.int (4 : Int32)), .val (.int v381), .val (.int v383)] [(.int (4 : Int32)), (.int (4 : Int32))])
      refine own_by (fun t k => XS.icmpYes X394.here hx rfl (pc0 := 41) (pc' := 97) rfl (hb hby d1_41) rfl (flt (by decide)).2.1 (by decide) (by decide) k) ?_
      show ORun p e below s _ _ _ T394 (mkF m 97 #[.val (.long q1), .second, .val (.ref a1), .val (.int p3), .val (.int v390), .val (.long v133), .second, .val (.long v331), .second, .val (.int v381), .val (.int (4 : Int32)), .val (.int v381), .val (.int v383)] [])
      have hh396 : v331.toInt = (wk395 : Int) := by omega
      have hb396 : wk395 < 1000 := by omega
      clear hi335 ub335 hwk350 hwk365 hwk380 hwk395
      refine own_by (fun t k => XS.lload X394.here hx rfl (hb hby d1_97) rfl k) ?_
      show ORun p e below s _ _ _ T394 (mkF m 99 #[.val (.long q1), .second, .val (.ref a1), .val (.int p3), .val (.int v390), .val (.long v133), .second, .val (.long v331), .second, .val (.int v381), .val (.int (4 : Int32)), .val (.int v381), .val (.int v383)] [(.long v331)])
      refine own_by (fun t k => XS.lstore X394.here hx rfl (hb hby d1_99) rfl (l' := #[.val (.long q1), .second, .val (.ref a1), .val (.int p3), .val (.int v390), .val (.long v331), .second, .val (.long v331), .second, .val (.int v381), .val (.int (4 : Int32)), .val (.int v381), .val (.int v383)]) rfl k) ?_
      show ORun p e below s _ _ _ T394 (mkF m 101 #[.val (.long q1), .second, .val (.ref a1), .val (.int p3), .val (.int v390), .val (.long v331), .second, .val (.long v331), .second, .val (.int v381), .val (.int (4 : Int32)), .val (.int v381), .val (.int v383)] [])
      refine own_by (fun t k => XS.goto X394.here hx rfl (pc0 := 101) (pc' := 6) rfl (hb hby d1_101) (by decide) (by decide) k) ?_
      show ORun p e below s _ _ _ T394 (mkF m 6 #[.val (.long q1), .second, .val (.ref a1), .val (.int p3), .val (.int v390), .val (.long v331), .second, .val (.long v331), .second, .val (.int v381), .val (.int (4 : Int32)), .val (.int v381), .val (.int v383)] [])
      refine own_by (fun t k => XS.lload X394.here hx rfl (hb hby d1_6) rfl k) ?_
      show ORun p e below s _ _ _ T394 (mkF m 8 #[.val (.long q1), .second, .val (.ref a1), .val (.int p3), .val (.int v390), .val (.long v331), .second, .val (.long v331), .second, .val (.int v381), .val (.int (4 : Int32)), .val (.int v381), .val (.int v383)] [(.long v331)])
      refine own_by (fun t k => X394.ldc2Long hx hown (mvT hZ (hw _ (List.mem_of_getElem? (i := 26) rfl))) (g := (mkF m 8 #[.val (.long q1), .second, .val (.ref a1), .val (.int p3), .val (.int v390), .val (.long v331), .second, .val (.long v331), .second, .val (.int v381), .val (.int (4 : Int32)), .val (.int v381), .val (.int v383)] [(.long v331)])) rfl (hb hby d1_8) _ k) ?_
      show ORun p e below s _ _ _ T394 (mkF m 11 #[.val (.long q1), .second, .val (.ref a1), .val (.int p3), .val (.int v390), .val (.long v331), .second, .val (.long v331), .second, .val (.int v381), .val (.int (4 : Int32)), .val (.int v381), .val (.int v383)] [(.long (100000000 : Int64)), (.long v331)])
      refine own_by (fun t k => XS.lcmp X394.here hx rfl (hb hby d1_11) rfl k) ?_
      show ORun p e below s _ _ _ T394 (mkF m 12 #[.val (.long q1), .second, .val (.ref a1), .val (.int p3), .val (.int v390), .val (.long v331), .second, .val (.long v331), .second, .val (.int v381), .val (.int (4 : Int32)), .val (.int v381), .val (.int v383)] [(.int (lcmpW v331 (100000000 : Int64)))])
      by_cases hc397 : v331 < (100000000 : Int64)
      · have t397 := own_ltL hc397 (a := v331.toInt) (b := 100000000) rfl (by decide)
        refine own_by (fun t k => XS.ifYes X394.here hx rfl (pc0 := 12) (pc' := 104) rfl (hb hby d1_12) rfl (own_lclt hc397).1 (by decide) (by decide) k) ?_
        show ORun p e below s _ _ _ T394 (mkF m 104 #[.val (.long q1), .second, .val (.ref a1), .val (.int p3), .val (.int v390), .val (.long v331), .second, .val (.long v331), .second, .val (.int v381), .val (.int (4 : Int32)), .val (.int v381), .val (.int v383)] [])
        refine own_by (fun t k => XS.lload X394.here hx rfl (hb hby d1_104) rfl k) ?_
        show ORun p e below s _ _ _ T394 (mkF m 106 #[.val (.long q1), .second, .val (.ref a1), .val (.int p3), .val (.int v390), .val (.long v331), .second, .val (.long v331), .second, .val (.int v381), .val (.int (4 : Int32)), .val (.int v381), .val (.int v383)] [(.long v331)])
        refine own_by (fun t k => XS.l2i X394.here hx rfl (hb hby d1_106) rfl k) (own_letI (f := (fun z => (mkF m 107 #[.val (.long q1), .second, .val (.ref a1), .val (.int p3), .val (.int v390), .val (.long v331), .second, .val (.long v331), .second, .val (.int v381), .val (.int (4 : Int32)), .val (.int v381), .val (.int v383)] [(.int z)]))) (v331.toInt32) fun v398 hv398 => ?_)
        show ORun p e below s _ _ _ T394 (mkF m 107 #[.val (.long q1), .second, .val (.ref a1), .val (.int p3), .val (.int v390), .val (.long v331), .second, .val (.long v331), .second, .val (.int v381), .val (.int (4 : Int32)), .val (.int v381), .val (.int v383)] [(.int v398)])
        have r398 := rng32 v398
        have a398 : v398.toInt = v331.toInt := by
          have q : (v398.toInt - v331.toInt) % 4294967296 = 0 := by rw [hv398]; exact c_l2i v331
          omega
        have in399 : v398.toInt = (wk395 : Int) := by omega
        have ib399 : wk395 < 1000 := by omega
        clear t397 a398 r398
        refine own_by (fun t k => XS.istore X394.here hx rfl (hb hby d1_107) rfl (l' := #[.val (.long q1), .second, .val (.ref a1), .val (.int p3), .val (.int v390), .val (.long v331), .second, .val (.int v398), .unset, .val (.int v381), .val (.int (4 : Int32)), .val (.int v381), .val (.int v383)]) rfl k) ?_
        show ORun p e below s _ _ _ T394 (mkF m 109 #[.val (.long q1), .second, .val (.ref a1), .val (.int p3), .val (.int v390), .val (.long v331), .second, .val (.int v398), .unset, .val (.int v381), .val (.int (4 : Int32)), .val (.int v381), .val (.int v383)] [])
        refine own_by (fun t k => XS.iload X394.here hx rfl (hb hby d1_109) rfl k) ?_
        show ORun p e below s _ _ _ T394 (mkF m 111 #[.val (.long q1), .second, .val (.ref a1), .val (.int p3), .val (.int v390), .val (.long v331), .second, .val (.int v398), .unset, .val (.int v381), .val (.int (4 : Int32)), .val (.int v381), .val (.int v383)] [(.int v398)])
        refine own_by (fun t k => XS.bipush X394.here hx rfl (hb hby d1_111) k) ?_
        show ORun p e below s _ _ _ T394 (mkF m 113 #[.val (.long q1), .second, .val (.ref a1), .val (.int p3), .val (.int v390), .val (.long v331), .second, .val (.int v398), .unset, .val (.int v381), .val (.int (4 : Int32)), .val (.int v381), .val (.int v383)] [(.int (100 : Int32)), (.int v398)])
        by_cases hc400 : v398 < (100 : Int32)
        · have t400 := own_lt hc400 (a := v398.toInt) (b := 100) rfl (by decide)
          refine own_by (fun t k => XS.icmpYes X394.here hx rfl (pc0 := 113) (pc' := 166) rfl (hb hby d1_113) rfl (tlt hc400).1 (by decide) (by decide) k) ?_
          show ORun p e below s _ _ _ T394 (mkF m 166 #[.val (.long q1), .second, .val (.ref a1), .val (.int p3), .val (.int v390), .val (.long v331), .second, .val (.int v398), .unset, .val (.int v381), .val (.int (4 : Int32)), .val (.int v381), .val (.int v383)] [])
          refine own_by (fun t k => XS.iload X394.here hx rfl (hb hby d1_166) rfl k) ?_
          show ORun p e below s _ _ _ T394 (mkF m 168 #[.val (.long q1), .second, .val (.ref a1), .val (.int p3), .val (.int v390), .val (.long v331), .second, .val (.int v398), .unset, .val (.int v381), .val (.int (4 : Int32)), .val (.int v381), .val (.int v383)] [(.int v398)])
          refine own_by (fun t k => XS.bipush X394.here hx rfl (hb hby d1_168) k) ?_
          show ORun p e below s _ _ _ T394 (mkF m 170 #[.val (.long q1), .second, .val (.ref a1), .val (.int p3), .val (.int v390), .val (.long v331), .second, .val (.int v398), .unset, .val (.int v381), .val (.int (4 : Int32)), .val (.int v381), .val (.int v383)] [(.int (10 : Int32)), (.int v398)])
          by_cases hc401 : v398 < (10 : Int32)
          · have t401 := own_lt hc401 (a := v398.toInt) (b := 10) rfl (by decide)
            refine own_by (fun t k => XS.icmpYes X394.here hx rfl (pc0 := 170) (pc' := 202) rfl (hb hby d1_170) rfl (tlt hc401).1 (by decide) (by decide) k) ?_
            show ORun p e below s _ _ _ T394 (mkF m 202 #[.val (.long q1), .second, .val (.ref a1), .val (.int p3), .val (.int v390), .val (.long v331), .second, .val (.int v398), .unset, .val (.int v381), .val (.int (4 : Int32)), .val (.int v381), .val (.int v383)] [])
            have f1_402 : 1 ≤ qk395 := by omega
            refine own_by (fun t k => XS.aloadN X394.here hx rfl (hb hby d1_202) rfl rfl k) ?_
            show ORun p e below s _ _ _ T394 (mkF m 203 #[.val (.long q1), .second, .val (.ref a1), .val (.int p3), .val (.int v390), .val (.long v331), .second, .val (.int v398), .unset, .val (.int v381), .val (.int (4 : Int32)), .val (.int v381), .val (.int v383)] [(.ref a1)])
            refine own_by (fun t k => XS.iinc X394.here hx rfl (hb hby d1_203) rfl (l' := #[.val (.long q1), .second, .val (.ref a1), .val (.int p3), .val (.int (v390 + (-1 : Int32))), .val (.long v331), .second, .val (.int v398), .unset, .val (.int v381), .val (.int (4 : Int32)), .val (.int v381), .val (.int v383)]) rfl k) (own_letI (f := (fun z => (mkF m 206 #[.val (.long q1), .second, .val (.ref a1), .val (.int p3), .val (.int z), .val (.long v331), .second, .val (.int v398), .unset, .val (.int v381), .val (.int (4 : Int32)), .val (.int v381), .val (.int v383)] [(.ref a1)]))) (v390 + (-1 : Int32)) fun v403 hv403 => ?_)
            show ORun p e below s _ _ _ T394 (mkF m 206 #[.val (.long q1), .second, .val (.ref a1), .val (.int p3), .val (.int v403), .val (.long v331), .second, .val (.int v398), .unset, .val (.int v381), .val (.int (4 : Int32)), .val (.int v381), .val (.int v383)] [(.ref a1)])
            have r403 := rng32 v403
            have a403 : v403.toInt = v390.toInt + (-1) := by have q : (v403.toInt - (v390.toInt + (-1))) % 4294967296 = 0 := (by rw [hv403]; exact c_iadd v390 (-1 : Int32)); omega
            refine own_by (fun t k => XS.iload X394.here hx rfl (hb hby d1_206) rfl k) ?_
            show ORun p e below s _ _ _ T394 (mkF m 208 #[.val (.long q1), .second, .val (.ref a1), .val (.int p3), .val (.int v403), .val (.long v331), .second, .val (.int v398), .unset, .val (.int v381), .val (.int (4 : Int32)), .val (.int v381), .val (.int v383)] [(.int v403), (.ref a1)])
            refine own_by (fun t k => XS.bipush X394.here hx rfl (hb hby d1_208) k) ?_
            show ORun p e below s _ _ _ T394 (mkF m 210 #[.val (.long q1), .second, .val (.ref a1), .val (.int p3), .val (.int v403), .val (.long v331), .second, .val (.int v398), .unset, .val (.int v381), .val (.int (4 : Int32)), .val (.int v381), .val (.int v383)] [(.int (48 : Int32)), (.int v403), (.ref a1)])
            refine own_by (fun t k => XS.iload X394.here hx rfl (hb hby d1_210) rfl k) ?_
            show ORun p e below s _ _ _ T394 (mkF m 212 #[.val (.long q1), .second, .val (.ref a1), .val (.int p3), .val (.int v403), .val (.long v331), .second, .val (.int v398), .unset, .val (.int v381), .val (.int (4 : Int32)), .val (.int v381), .val (.int v383)] [(.int v398), (.int (48 : Int32)), (.int v403), (.ref a1)])
            refine own_by (fun t k => XS.iadd X394.here hx rfl (hb hby d1_212) rfl k) (own_letI (f := (fun z => (mkF m 213 #[.val (.long q1), .second, .val (.ref a1), .val (.int p3), .val (.int v403), .val (.long v331), .second, .val (.int v398), .unset, .val (.int v381), .val (.int (4 : Int32)), .val (.int v381), .val (.int v383)] [(.int z), (.int v403), (.ref a1)]))) ((48 : Int32) + v398) fun v404 hv404 => ?_)
            show ORun p e below s _ _ _ T394 (mkF m 213 #[.val (.long q1), .second, .val (.ref a1), .val (.int p3), .val (.int v403), .val (.long v331), .second, .val (.int v398), .unset, .val (.int v381), .val (.int (4 : Int32)), .val (.int v381), .val (.int v383)] [(.int v404), (.int v403), (.ref a1)])
            have r404 := rng32 v404
            have a404 : v404.toInt = 48 + v398.toInt := by
              have q : (v404.toInt - (48 + v398.toInt)) % 4294967296 = 0 := by rw [hv404]; exact c_iadd (48 : Int32) v398
              omega
            refine own_by (fun t k => XS.i2b X394.here hx rfl (hb hby d1_213) rfl k) (own_letI (f := (fun z => (mkF m 214 #[.val (.long q1), .second, .val (.ref a1), .val (.int p3), .val (.int v403), .val (.long v331), .second, .val (.int v398), .unset, .val (.int v381), .val (.int (4 : Int32)), .val (.int v381), .val (.int v383)] [(.int z), (.int v403), (.ref a1)]))) (v404.toInt8.toInt32) fun v405 hv405 => ?_)
            show ORun p e below s _ _ _ T394 (mkF m 214 #[.val (.long q1), .second, .val (.ref a1), .val (.int p3), .val (.int v403), .val (.long v331), .second, .val (.int v398), .unset, .val (.int v381), .val (.int (4 : Int32)), .val (.int v381), .val (.int v383)] [(.int v405), (.int v403), (.ref a1)])
            have r405 := rng32 v405
            have a405 : v405.toInt = v404.toInt := by
              have q : (v405.toInt - v404.toInt) % 256 = 0 ∧ -128 ≤ v405.toInt ∧ v405.toInt < 128 := by rw [hv405]; exact c_i2b v404
              omega
            have nb406 : (nar .byte v405).toInt = v405.toInt := by have q := c_i2b v405; show v405.toInt8.toInt32.toInt = _; omega
            refine own_bastore X394 hx hZ e394 V394 (i := v403.toInt.toNat) (by omega) (by omega) (hb hby d1_214) ?_
            intro T407 h407 L407 X407 e407 W407 hL407 V407
            have len407 : L407.length = 21 := by rw [hL407, List.length_set]; exact len394
            have N407 := Fr.snoc X407 N394 g1
            show ORun p e below s _ _ _ T407 (mkF m 215 #[.val (.long q1), .second, .val (.ref a1), .val (.int p3), .val (.int v403), .val (.long v331), .second, .val (.int v398), .unset, .val (.int v381), .val (.int (4 : Int32)), .val (.int v381), .val (.int v383)] [])
            refine own_retV X407 hx hret hlk (hb hby d1_215) (by decide) (by decide) ?_
            have fin408 := Eq.trans ch395 (own_last1 (q := qk395) (w := wk395) (i := v403.toInt.toNat) (by omega) (by omega) hL407 (by omega))
            rw [e407]
            refine ⟨rfl, N407, ((((((((((((((((((Keep.refl h0 [a1]).wr W146 (Or.inl (List.mem_of_getElem? (i := 0) rfl))).wr W151 (Or.inl (List.mem_of_getElem? (i := 0) rfl))).wr W161 (Or.inl (List.mem_of_getElem? (i := 0) rfl))).wr W166 (Or.inl (List.mem_of_getElem? (i := 0) rfl))).wr W176 (Or.inl (List.mem_of_getElem? (i := 0) rfl))).wr W181 (Or.inl (List.mem_of_getElem? (i := 0) rfl))).wr W191 (Or.inl (List.mem_of_getElem? (i := 0) rfl))).wr W196 (Or.inl (List.mem_of_getElem? (i := 0) rfl))).wr W344 (Or.inl (List.mem_of_getElem? (i := 0) rfl))).wr W349 (Or.inl (List.mem_of_getElem? (i := 0) rfl))).wr W359 (Or.inl (List.mem_of_getElem? (i := 0) rfl))).wr W364 (Or.inl (List.mem_of_getElem? (i := 0) rfl))).wr W374 (Or.inl (List.mem_of_getElem? (i := 0) rfl))).wr W379 (Or.inl (List.mem_of_getElem? (i := 0) rfl))).wr W389 (Or.inl (List.mem_of_getElem? (i := 0) rfl))).wr W394 (Or.inl (List.mem_of_getElem? (i := 0) rfl))).wr W407 (Or.inl (List.mem_of_getElem? (i := 0) rfl))), ?_⟩
            rw [fin408]
            exact V407
          · have t401 := own_nlt hc401 (a := v398.toInt) (b := 10) rfl (by decide)
            refine own_by (fun t k => XS.icmpNo X394.here hx rfl (hb hby d1_170) rfl (flt hc401).1 k) ?_
            show ORun p e below s _ _ _ T394 (mkF m 173 #[.val (.long q1), .second, .val (.ref a1), .val (.int p3), .val (.int v390), .val (.long v331), .second, .val (.int v398), .unset, .val (.int v381), .val (.int (4 : Int32)), .val (.int v381), .val (.int v383)] [])
            have f2_409 := own_fit2 (q := qk395) (w := wk395) (by omega) fi395
            refine own_by (fun t k => XS.aloadN X394.here hx rfl (hb hby d1_173) rfl rfl k) ?_
            show ORun p e below s _ _ _ T394 (mkF m 174 #[.val (.long q1), .second, .val (.ref a1), .val (.int p3), .val (.int v390), .val (.long v331), .second, .val (.int v398), .unset, .val (.int v381), .val (.int (4 : Int32)), .val (.int v381), .val (.int v383)] [(.ref a1)])
            refine own_by (fun t k => XS.iinc X394.here hx rfl (hb hby d1_174) rfl (l' := #[.val (.long q1), .second, .val (.ref a1), .val (.int p3), .val (.int (v390 + (-1 : Int32))), .val (.long v331), .second, .val (.int v398), .unset, .val (.int v381), .val (.int (4 : Int32)), .val (.int v381), .val (.int v383)]) rfl k) (own_letI (f := (fun z => (mkF m 177 #[.val (.long q1), .second, .val (.ref a1), .val (.int p3), .val (.int z), .val (.long v331), .second, .val (.int v398), .unset, .val (.int v381), .val (.int (4 : Int32)), .val (.int v381), .val (.int v383)] [(.ref a1)]))) (v390 + (-1 : Int32)) fun v410 hv410 => ?_)
            show ORun p e below s _ _ _ T394 (mkF m 177 #[.val (.long q1), .second, .val (.ref a1), .val (.int p3), .val (.int v410), .val (.long v331), .second, .val (.int v398), .unset, .val (.int v381), .val (.int (4 : Int32)), .val (.int v381), .val (.int v383)] [(.ref a1)])
            have r410 := rng32 v410
            have a410 : v410.toInt = v390.toInt + (-1) := by have q : (v410.toInt - (v390.toInt + (-1))) % 4294967296 = 0 := (by rw [hv410]; exact c_iadd v390 (-1 : Int32)); omega
            refine own_by (fun t k => XS.iload X394.here hx rfl (hb hby d1_177) rfl k) ?_
            show ORun p e below s _ _ _ T394 (mkF m 179 #[.val (.long q1), .second, .val (.ref a1), .val (.int p3), .val (.int v410), .val (.long v331), .second, .val (.int v398), .unset, .val (.int v381), .val (.int (4 : Int32)), .val (.int v381), .val (.int v383)] [(.int v410), (.ref a1)])
            obtain ⟨T411, X411, e411, st411⟩ := getS2 X394 hx hZ hown (host := "") (Or.inl (hw _ (List.mem_of_getElem? (i := 31) rfl))) Via.refl e394 ((((((((((((((((S1.wr W146).wr W151).wr W161).wr W166).wr W176).wr W181).wr W191).wr W196).wr W344).wr W349).wr W359).wr W364).wr W374).wr W379).wr W389).wr W394) (g := (mkF m 179 #[.val (.long q1), .second, .val (.ref a1), .val (.int p3), .val (.int v410), .val (.long v331), .second, .val (.int v398), .unset, .val (.int v381), .val (.int (4 : Int32)), .val (.int v381), .val (.int v383)] [(.int v410), (.ref a1)])) rfl (hb hby d1_179)
            refine own_by st411 ?_
            show ORun p e below s _ _ _ T411 (mkF m 182 #[.val (.long q1), .second, .val (.ref a1), .val (.int p3), .val (.int v410), .val (.long v331), .second, .val (.int v398), .unset, .val (.int v381), .val (.int (4 : Int32)), .val (.int v381), .val (.int v383)] [(.ref d1), (.int v410), (.ref a1)])
            refine own_by (fun t k => XS.iload X411.here hx rfl (hb hby d1_182) rfl k) ?_
            show ORun p e below s _ _ _ T411 (mkF m 184 #[.val (.long q1), .second, .val (.ref a1), .val (.int p3), .val (.int v410), .val (.long v331), .second, .val (.int v398), .unset, .val (.int v381), .val (.int (4 : Int32)), .val (.int v381), .val (.int v383)] [(.int v398), (.ref d1), (.int v410), (.ref a1)])
            refine own_baload X411 hx hZ e411 ((((((((((((((((V1.other W146 ne_d1).other W151 ne_d1).other W161 ne_d1).other W166 ne_d1).other W176 ne_d1).other W181 ne_d1).other W191 ne_d1).other W196 ne_d1).other W344 ne_d1).other W349 ne_d1).other W359 ne_d1).other W364 ne_d1).other W374 ne_d1).other W379 ne_d1).other W389 ne_d1).other W394 ne_d1) (i := v398.toInt.toNat) (by omega) (by omega) (hb hby d1_184) ?_
            intro v412 hv412
            have r412 := rng32 v412
            show ORun p e below s _ _ _ T411 (mkF m 185 #[.val (.long q1), .second, .val (.ref a1), .val (.int p3), .val (.int v410), .val (.long v331), .second, .val (.int v398), .unset, .val (.int v381), .val (.int (4 : Int32)), .val (.int v381), .val (.int v383)] [(.int v412), (.int v410), (.ref a1)])
            have f413 := hO1 v398.toInt.toNat (by omega)
            rw [← hv412] at f413
            have nb413 : (nar .byte v412).toInt = v412.toInt := by have q := c_i2b v412; show v412.toInt8.toInt32.toInt = _; omega
            refine own_bastore X411 hx hZ e411 V394 (i := v410.toInt.toNat) (by omega) (by omega) (hb hby d1_185) ?_
            intro T414 h414 L414 X414 e414 W414 hL414 V414
            have len414 : L414.length = 21 := by rw [hL414, List.length_set]; exact len394
            have N414 := Fr.snoc X414 N394 g1
            show ORun p e below s _ _ _ T414 (mkF m 186 #[.val (.long q1), .second, .val (.ref a1), .val (.int p3), .val (.int v410), .val (.long v331), .second, .val (.int v398), .unset, .val (.int v381), .val (.int (4 : Int32)), .val (.int v381), .val (.int v383)] [])
            refine own_by (fun t k => XS.aloadN X414.here hx rfl (hb hby d1_186) rfl rfl k) ?_
            show ORun p e below s _ _ _ T414 (mkF m 187 #[.val (.long q1), .second, .val (.ref a1), .val (.int p3), .val (.int v410), .val (.long v331), .second, .val (.int v398), .unset, .val (.int v381), .val (.int (4 : Int32)), .val (.int v381), .val (.int v383)] [(.ref a1)])
            refine own_by (fun t k => XS.iinc X414.here hx rfl (hb hby d1_187) rfl (l' := #[.val (.long q1), .second, .val (.ref a1), .val (.int p3), .val (.int (v410 + (-1 : Int32))), .val (.long v331), .second, .val (.int v398), .unset, .val (.int v381), .val (.int (4 : Int32)), .val (.int v381), .val (.int v383)]) rfl k) (own_letI (f := (fun z => (mkF m 190 #[.val (.long q1), .second, .val (.ref a1), .val (.int p3), .val (.int z), .val (.long v331), .second, .val (.int v398), .unset, .val (.int v381), .val (.int (4 : Int32)), .val (.int v381), .val (.int v383)] [(.ref a1)]))) (v410 + (-1 : Int32)) fun v415 hv415 => ?_)
            show ORun p e below s _ _ _ T414 (mkF m 190 #[.val (.long q1), .second, .val (.ref a1), .val (.int p3), .val (.int v415), .val (.long v331), .second, .val (.int v398), .unset, .val (.int v381), .val (.int (4 : Int32)), .val (.int v381), .val (.int v383)] [(.ref a1)])
            have r415 := rng32 v415
            have a415 : v415.toInt = v410.toInt + (-1) := by have q : (v415.toInt - (v410.toInt + (-1))) % 4294967296 = 0 := (by rw [hv415]; exact c_iadd v410 (-1 : Int32)); omega
            refine own_by (fun t k => XS.iload X414.here hx rfl (hb hby d1_190) rfl k) ?_
            show ORun p e below s _ _ _ T414 (mkF m 192 #[.val (.long q1), .second, .val (.ref a1), .val (.int p3), .val (.int v415), .val (.long v331), .second, .val (.int v398), .unset, .val (.int v381), .val (.int (4 : Int32)), .val (.int v381), .val (.int v383)] [(.int v415), (.ref a1)])
            obtain ⟨T416, X416, e416, st416⟩ := getS2 X414 hx hZ hown (host := "") (Or.inl (hw _ (List.mem_of_getElem? (i := 33) rfl))) Via.refl e414 (((((((((((((((((S2.wr W146).wr W151).wr W161).wr W166).wr W176).wr W181).wr W191).wr W196).wr W344).wr W349).wr W359).wr W364).wr W374).wr W379).wr W389).wr W394).wr W414) (g := (mkF m 192 #[.val (.long q1), .second, .val (.ref a1), .val (.int p3), .val (.int v415), .val (.long v331), .second, .val (.int v398), .unset, .val (.int v381), .val (.int (4 : Int32)), .val (.int v381), .val (.int v383)] [(.int v415), (.ref a1)])) rfl (hb hby d1_192)
            refine own_by st416 ?_
            show ORun p e below s _ _ _ T416 (mkF m 195 #[.val (.long q1), .second, .val (.ref a1), .val (.int p3), .val (.int v415), .val (.long v331), .second, .val (.int v398), .unset, .val (.int v381), .val (.int (4 : Int32)), .val (.int v381), .val (.int v383)] [(.ref d2), (.int v415), (.ref a1)])
            refine own_by (fun t k => XS.iload X416.here hx rfl (hb hby d1_195) rfl k) ?_
            show ORun p e below s _ _ _ T416 (mkF m 197 #[.val (.long q1), .second, .val (.ref a1), .val (.int p3), .val (.int v415), .val (.long v331), .second, .val (.int v398), .unset, .val (.int v381), .val (.int (4 : Int32)), .val (.int v381), .val (.int v383)] [(.int v398), (.ref d2), (.int v415), (.ref a1)])
            refine own_baload X416 hx hZ e416 (((((((((((((((((V2.other W146 ne_d2).other W151 ne_d2).other W161 ne_d2).other W166 ne_d2).other W176 ne_d2).other W181 ne_d2).other W191 ne_d2).other W196 ne_d2).other W344 ne_d2).other W349 ne_d2).other W359 ne_d2).other W364 ne_d2).other W374 ne_d2).other W379 ne_d2).other W389 ne_d2).other W394 ne_d2).other W414 ne_d2) (i := v398.toInt.toNat) (by omega) (by omega) (hb hby d1_197) ?_
            intro v417 hv417
            have r417 := rng32 v417
            show ORun p e below s _ _ _ T416 (mkF m 198 #[.val (.long q1), .second, .val (.ref a1), .val (.int p3), .val (.int v415), .val (.long v331), .second, .val (.int v398), .unset, .val (.int v381), .val (.int (4 : Int32)), .val (.int v381), .val (.int v383)] [(.int v417), (.int v415), (.ref a1)])
            have f418 := hT1 v398.toInt.toNat (by omega)
            rw [← hv417] at f418
            have nb418 : (nar .byte v417).toInt = v417.toInt := by have q := c_i2b v417; show v417.toInt8.toInt32.toInt = _; omega
            refine own_bastore X416 hx hZ e416 V414 (i := v415.toInt.toNat) (by omega) (by omega) (hb hby d1_198) ?_
            intro T419 h419 L419 X419 e419 W419 hL419 V419
            have len419 : L419.length = 21 := by rw [hL419, List.length_set]; exact len414
            have N419 := Fr.snoc X419 N414 g1
            show ORun p e below s _ _ _ T419 (mkF m 199 #[.val (.long q1), .second, .val (.ref a1), .val (.int p3), .val (.int v415), .val (.long v331), .second, .val (.int v398), .unset, .val (.int v381), .val (.int (4 : Int32)), .val (.int v381), .val (.int v383)] [])
            refine own_by (fun t k => XS.goto X419.here hx rfl (pc0 := 199) (pc' := 215) rfl (hb hby d1_199) (by decide) (by decide) k) ?_
            show ORun p e below s _ _ _ T419 (mkF m 215 #[.val (.long q1), .second, .val (.ref a1), .val (.int p3), .val (.int v415), .val (.long v331), .second, .val (.int v398), .unset, .val (.int v381), .val (.int (4 : Int32)), .val (.int v381), .val (.int v383)] [])
            refine own_retV X419 hx hret hlk (hb hby d1_215) (by decide) (by decide) ?_
            have fin420 := Eq.trans ch395 (own_last2 (q := qk395) (w := wk395) (i := v410.toInt.toNat) (j := v415.toInt.toNat) (by omega) (by omega) (by omega) (by omega) hL414 hL419 (by omega) (by omega))
            rw [e419]
            refine ⟨rfl, N419, (((((((((((((((((((Keep.refl h0 [a1]).wr W146 (Or.inl (List.mem_of_getElem? (i := 0) rfl))).wr W151 (Or.inl (List.mem_of_getElem? (i := 0) rfl))).wr W161 (Or.inl (List.mem_of_getElem? (i := 0) rfl))).wr W166 (Or.inl (List.mem_of_getElem? (i := 0) rfl))).wr W176 (Or.inl (List.mem_of_getElem? (i := 0) rfl))).wr W181 (Or.inl (List.mem_of_getElem? (i := 0) rfl))).wr W191 (Or.inl (List.mem_of_getElem? (i := 0) rfl))).wr W196 (Or.inl (List.mem_of_getElem? (i := 0) rfl))).wr W344 (Or.inl (List.mem_of_getElem? (i := 0) rfl))).wr W349 (Or.inl (List.mem_of_getElem? (i := 0) rfl))).wr W359 (Or.inl (List.mem_of_getElem? (i := 0) rfl))).wr W364 (Or.inl (List.mem_of_getElem? (i := 0) rfl))).wr W374 (Or.inl (List.mem_of_getElem? (i := 0) rfl))).wr W379 (Or.inl (List.mem_of_getElem? (i := 0) rfl))).wr W389 (Or.inl (List.mem_of_getElem? (i := 0) rfl))).wr W394 (Or.inl (List.mem_of_getElem? (i := 0) rfl))).wr W414 (Or.inl (List.mem_of_getElem? (i := 0) rfl))).wr W419 (Or.inl (List.mem_of_getElem? (i := 0) rfl))), ?_⟩
            rw [fin420]
            exact V419
        · have t400 := own_nlt hc400 (a := v398.toInt) (b := 100) rfl (by decide)
          refine own_by (fun t k => XS.icmpNo X394.here hx rfl (hb hby d1_113) rfl (flt hc400).1 k) ?_
          show ORun p e below s _ _ _ T394 (mkF m 116 #[.val (.long q1), .second, .val (.ref a1), .val (.int p3), .val (.int v390), .val (.long v331), .second, .val (.int v398), .unset, .val (.int v381), .val (.int (4 : Int32)), .val (.int v381), .val (.int v383)] [])
          refine own_by (fun t k => XS.iload X394.here hx rfl (hb hby d1_116) rfl k) ?_
          show ORun p e below s _ _ _ T394 (mkF m 118 #[.val (.long q1), .second, .val (.ref a1), .val (.int p3), .val (.int v390), .val (.long v331), .second, .val (.int v398), .unset, .val (.int v381), .val (.int (4 : Int32)), .val (.int v381), .val (.int v383)] [(.int v398)])
          refine own_by (fun t k => XS.bipush X394.here hx rfl (hb hby d1_118) k) ?_
          show ORun p e below s _ _ _ T394 (mkF m 120 #[.val (.long q1), .second, .val (.ref a1), .val (.int p3), .val (.int v390), .val (.long v331), .second, .val (.int v398), .unset, .val (.int v381), .val (.int (4 : Int32)), .val (.int v381), .val (.int v383)] [(.int (100 : Int32)), (.int v398)])
          refine own_by (fun t k => XS.idiv X394.here hx rfl (hb hby d1_120) rfl (by decide) k) (own_letI (f := (fun z => (mkF m 121 #[.val (.long q1), .second, .val (.ref a1), .val (.int p3), .val (.int v390), .val (.long v331), .second, .val (.int v398), .unset, .val (.int v381), .val (.int (4 : Int32)), .val (.int v381), .val (.int v383)] [(.int z)]))) (v398 / (100 : Int32)) fun v421 hv421 => ?_)
          show ORun p e below s _ _ _ T394 (mkF m 121 #[.val (.long q1), .second, .val (.ref a1), .val (.int p3), .val (.int v390), .val (.long v331), .second, .val (.int v398), .unset, .val (.int v381), .val (.int (4 : Int32)), .val (.int v381), .val (.int v383)] [(.int v421)])
          have r421 := rng32 v421
          have a421 : v421.toInt = v398.toInt / 100 := by
            have q : (0 ≤ v398.toInt → v421.toInt = v398.toInt / 100) ∧ (v398.toInt < 0 → v421.toInt = -((-v398.toInt) / 100)) := by rw [hv421]; exact c_idiv v398 (100 : Int32) 100 (by decide) (by decide)
            omega
          refine own_by (fun t k => XS.istore X394.here hx rfl (hb hby d1_121) rfl (l' := #[.val (.long q1), .second, .val (.ref a1), .val (.int p3), .val (.int v390), .val (.long v331), .second, .val (.int v398), .val (.int v421), .val (.int v381), .val (.int (4 : Int32)), .val (.int v381), .val (.int v383)]) rfl k) ?_
          show ORun p e below s _ _ _ T394 (mkF m 123 #[.val (.long q1), .second, .val (.ref a1), .val (.int p3), .val (.int v390), .val (.long v331), .second, .val (.int v398), .val (.int v421), .val (.int v381), .val (.int (4 : Int32)), .val (.int v381), .val (.int v383)] [])
          refine own_by (fun t k => XS.iload X394.here hx rfl (hb hby d1_123) rfl k) ?_
          show ORun p e below s _ _ _ T394 (mkF m 125 #[.val (.long q1), .second, .val (.ref a1), .val (.int p3), .val (.int v390), .val (.long v331), .second, .val (.int v398), .val (.int v421), .val (.int v381), .val (.int (4 : Int32)), .val (.int v381), .val (.int v383)] [(.int v398)])
          refine own_by (fun t k => XS.bipush X394.here hx rfl (hb hby d1_125) k) ?_
          show ORun p e below s _ _ _ T394 (mkF m 127 #[.val (.long q1), .second, .val (.ref a1), .val (.int p3), .val (.int v390), .val (.long v331), .second, .val (.int v398), .val (.int v421), .val (.int v381), .val (.int (4 : Int32)), .val (.int v381), .val (.int v383)] [(.int (100 : Int32)), (.int v398)])
          refine own_by (fun t k => XS.iload X394.here hx rfl (hb hby d1_127) rfl k) ?_
          show ORun p e below s _ _ _ T394 (mkF m 129 #[.val (.long q1), .second, .val (.ref a1), .val (.int p3), .val (.int v390), .val (.long v331), .second, .val (.int v398), .val (.int v421), .val (.int v381), .val (.int (4 : Int32)), .val (.int v381), .val (.int v383)] [(.int v421), (.int (100 : Int32)), (.int v398)])
          refine own_by (fun t k => XS.imul X394.here hx rfl (hb hby d1_129) rfl k) (own_letI (f := (fun z => (mkF m 130 #[.val (.long q1), .second, .val (.ref a1), .val (.int p3), .val (.int v390), .val (.long v331), .second, .val (.int v398), .val (.int v421), .val (.int v381), .val (.int (4 : Int32)), .val (.int v381), .val (.int v383)] [(.int z), (.int v398)]))) ((100 : Int32) * v421) fun v422 hv422 => ?_)
          show ORun p e below s _ _ _ T394 (mkF m 130 #[.val (.long q1), .second, .val (.ref a1), .val (.int p3), .val (.int v390), .val (.long v331), .second, .val (.int v398), .val (.int v421), .val (.int v381), .val (.int (4 : Int32)), .val (.int v381), .val (.int v383)] [(.int v422), (.int v398)])
          have r422 := rng32 v422
          have a422 : v422.toInt = 100 * v421.toInt := by
            have q : (v422.toInt - (100 * v421.toInt)) % 4294967296 = 0 := by rw [hv422]; exact c_imul (100 : Int32) v421
            omega
          refine own_by (fun t k => XS.isub X394.here hx rfl (hb hby d1_130) rfl k) (own_letI (f := (fun z => (mkF m 131 #[.val (.long q1), .second, .val (.ref a1), .val (.int p3), .val (.int v390), .val (.long v331), .second, .val (.int v398), .val (.int v421), .val (.int v381), .val (.int (4 : Int32)), .val (.int v381), .val (.int v383)] [(.int z)]))) (v398 - v422) fun v423 hv423 => ?_)
          show ORun p e below s _ _ _ T394 (mkF m 131 #[.val (.long q1), .second, .val (.ref a1), .val (.int p3), .val (.int v390), .val (.long v331), .second, .val (.int v398), .val (.int v421), .val (.int v381), .val (.int (4 : Int32)), .val (.int v381), .val (.int v383)] [(.int v423)])
          have r423 := rng32 v423
          have a423 : v423.toInt = v398.toInt - v422.toInt := by
            have q : (v423.toInt - (v398.toInt - v422.toInt)) % 4294967296 = 0 := by rw [hv423]; exact c_isub v398 v422
            omega
          refine own_by (fun t k => XS.istore X394.here hx rfl (hb hby d1_131) rfl (l' := #[.val (.long q1), .second, .val (.ref a1), .val (.int p3), .val (.int v390), .val (.long v331), .second, .val (.int v398), .val (.int v421), .val (.int v423), .val (.int (4 : Int32)), .val (.int v381), .val (.int v383)]) rfl k) ?_
          show ORun p e below s _ _ _ T394 (mkF m 133 #[.val (.long q1), .second, .val (.ref a1), .val (.int p3), .val (.int v390), .val (.long v331), .second, .val (.int v398), .val (.int v421), .val (.int v423), .val (.int (4 : Int32)), .val (.int v381), .val (.int v383)] [])
          have f3_424 := own_fit3 (q := qk395) (w := wk395) (by omega) fi395
          refine own_by (fun t k => XS.aloadN X394.here hx rfl (hb hby d1_133) rfl rfl k) ?_
          show ORun p e below s _ _ _ T394 (mkF m 134 #[.val (.long q1), .second, .val (.ref a1), .val (.int p3), .val (.int v390), .val (.long v331), .second, .val (.int v398), .val (.int v421), .val (.int v423), .val (.int (4 : Int32)), .val (.int v381), .val (.int v383)] [(.ref a1)])
          refine own_by (fun t k => XS.iinc X394.here hx rfl (hb hby d1_134) rfl (l' := #[.val (.long q1), .second, .val (.ref a1), .val (.int p3), .val (.int (v390 + (-1 : Int32))), .val (.long v331), .second, .val (.int v398), .val (.int v421), .val (.int v423), .val (.int (4 : Int32)), .val (.int v381), .val (.int v383)]) rfl k) (own_letI (f := (fun z => (mkF m 137 #[.val (.long q1), .second, .val (.ref a1), .val (.int p3), .val (.int z), .val (.long v331), .second, .val (.int v398), .val (.int v421), .val (.int v423), .val (.int (4 : Int32)), .val (.int v381), .val (.int v383)] [(.ref a1)]))) (v390 + (-1 : Int32)) fun v425 hv425 => ?_)
          show ORun p e below s _ _ _ T394 (mkF m 137 #[.val (.long q1), .second, .val (.ref a1), .val (.int p3), .val (.int v425), .val (.long v331), .second, .val (.int v398), .val (.int v421), .val (.int v423), .val (.int (4 : Int32)), .val (.int v381), .val (.int v383)] [(.ref a1)])
          have r425 := rng32 v425
          have a425 : v425.toInt = v390.toInt + (-1) := by have q : (v425.toInt - (v390.toInt + (-1))) % 4294967296 = 0 := (by rw [hv425]; exact c_iadd v390 (-1 : Int32)); omega
          refine own_by (fun t k => XS.iload X394.here hx rfl (hb hby d1_137) rfl k) ?_
          show ORun p e below s _ _ _ T394 (mkF m 139 #[.val (.long q1), .second, .val (.ref a1), .val (.int p3), .val (.int v425), .val (.long v331), .second, .val (.int v398), .val (.int v421), .val (.int v423), .val (.int (4 : Int32)), .val (.int v381), .val (.int v383)] [(.int v425), (.ref a1)])
          obtain ⟨T426, X426, e426, st426⟩ := getS2 X394 hx hZ hown (host := "") (Or.inl (hw _ (List.mem_of_getElem? (i := 31) rfl))) Via.refl e394 ((((((((((((((((S1.wr W146).wr W151).wr W161).wr W166).wr W176).wr W181).wr W191).wr W196).wr W344).wr W349).wr W359).wr W364).wr W374).wr W379).wr W389).wr W394) (g := (mkF m 139 #[.val (.long q1), .second, .val (.ref a1), .val (.int p3), .val (.int v425), .val (.long v331), .second, .val (.int v398), .val (.int v421), .val (.int v423), .val (.int (4 : Int32)), .val (.int v381), .val (.int v383)] [(.int v425), (.ref a1)])) rfl (hb hby d1_139)
          refine own_by st426 ?_
          show ORun p e below s _ _ _ T426 (mkF m 142 #[.val (.long q1), .second, .val (.ref a1), .val (.int p3), .val (.int v425), .val (.long v331), .second, .val (.int v398), .val (.int v421), .val (.int v423), .val (.int (4 : Int32)), .val (.int v381), .val (.int v383)] [(.ref d1), (.int v425), (.ref a1)])
          refine own_by (fun t k => XS.iload X426.here hx rfl (hb hby d1_142) rfl k) ?_
          show ORun p e below s _ _ _ T426 (mkF m 144 #[.val (.long q1), .second, .val (.ref a1), .val (.int p3), .val (.int v425), .val (.long v331), .second, .val (.int v398), .val (.int v421), .val (.int v423), .val (.int (4 : Int32)), .val (.int v381), .val (.int v383)] [(.int v423), (.ref d1), (.int v425), (.ref a1)])
          refine own_baload X426 hx hZ e426 ((((((((((((((((V1.other W146 ne_d1).other W151 ne_d1).other W161 ne_d1).other W166 ne_d1).other W176 ne_d1).other W181 ne_d1).other W191 ne_d1).other W196 ne_d1).other W344 ne_d1).other W349 ne_d1).other W359 ne_d1).other W364 ne_d1).other W374 ne_d1).other W379 ne_d1).other W389 ne_d1).other W394 ne_d1) (i := v423.toInt.toNat) (by omega) (by omega) (hb hby d1_144) ?_
          intro v427 hv427
          have r427 := rng32 v427
          show ORun p e below s _ _ _ T426 (mkF m 145 #[.val (.long q1), .second, .val (.ref a1), .val (.int p3), .val (.int v425), .val (.long v331), .second, .val (.int v398), .val (.int v421), .val (.int v423), .val (.int (4 : Int32)), .val (.int v381), .val (.int v383)] [(.int v427), (.int v425), (.ref a1)])
          have f428 := hO1 v423.toInt.toNat (by omega)
          rw [← hv427] at f428
          have nb428 : (nar .byte v427).toInt = v427.toInt := by have q := c_i2b v427; show v427.toInt8.toInt32.toInt = _; omega
          refine own_bastore X426 hx hZ e426 V394 (i := v425.toInt.toNat) (by omega) (by omega) (hb hby d1_145) ?_
          intro T429 h429 L429 X429 e429 W429 hL429 V429
          have len429 : L429.length = 21 := by rw [hL429, List.length_set]; exact len394
          have N429 := Fr.snoc X429 N394 g1
          show ORun p e below s _ _ _ T429 (mkF m 146 #[.val (.long q1), .second, .val (.ref a1), .val (.int p3), .val (.int v425), .val (.long v331), .second, .val (.int v398), .val (.int v421), .val (.int v423), .val (.int (4 : Int32)), .val (.int v381), .val (.int v383)] [])
          refine own_by (fun t k => XS.aloadN X429.here hx rfl (hb hby d1_146) rfl rfl k) ?_
          show ORun p e below s _ _ _ T429 (mkF m 147 #[.val (.long q1), .second, .val (.ref a1), .val (.int p3), .val (.int v425), .val (.long v331), .second, .val (.int v398), .val (.int v421), .val (.int v423), .val (.int (4 : Int32)), .val (.int v381), .val (.int v383)] [(.ref a1)])
          refine own_by (fun t k => XS.iinc X429.here hx rfl (hb hby d1_147) rfl (l' := #[.val (.long q1), .second, .val (.ref a1), .val (.int p3), .val (.int (v425 + (-1 : Int32))), .val (.long v331), .second, .val (.int v398), .val (.int v421), .val (.int v423), .val (.int (4 : Int32)), .val (.int v381), .val (.int v383)]) rfl k) (own_letI (f := (fun z => (mkF m 150 #[.val (.long q1), .second, .val (.ref a1), .val (.int p3), .val (.int z), .val (.long v331), .second, .val (.int v398), .val (.int v421), .val (.int v423), .val (.int (4 : Int32)), .val (.int v381), .val (.int v383)] [(.ref a1)]))) (v425 + (-1 : Int32)) fun v430 hv430 => ?_)
          show ORun p e below s _ _ _ T429 (mkF m 150 #[.val (.long q1), .second, .val (.ref a1), .val (.int p3), .val (.int v430), .val (.long v331), .second, .val (.int v398), .val (.int v421), .val (.int v423), .val (.int (4 : Int32)), .val (.int v381), .val (.int v383)] [(.ref a1)])
          have r430 := rng32 v430
          have a430 : v430.toInt = v425.toInt + (-1) := by have q : (v430.toInt - (v425.toInt + (-1))) % 4294967296 = 0 := (by rw [hv430]; exact c_iadd v425 (-1 : Int32)); omega
          refine own_by (fun t k => XS.iload X429.here hx rfl (hb hby d1_150) rfl k) ?_
          show ORun p e below s _ _ _ T429 (mkF m 152 #[.val (.long q1), .second, .val (.ref a1), .val (.int p3), .val (.int v430), .val (.long v331), .second, .val (.int v398), .val (.int v421), .val (.int v423), .val (.int (4 : Int32)), .val (.int v381), .val (.int v383)] [(.int v430), (.ref a1)])
          obtain ⟨T431, X431, e431, st431⟩ := getS2 X429 hx hZ hown (host := "") (Or.inl (hw _ (List.mem_of_getElem? (i := 33) rfl))) Via.refl e429 (((((((((((((((((S2.wr W146).wr W151).wr W161).wr W166).wr W176).wr W181).wr W191).wr W196).wr W344).wr W349).wr W359).wr W364).wr W374).wr W379).wr W389).wr W394).wr W429) (g := (mkF m 152 #[.val (.long q1), .second, .val (.ref a1), .val (.int p3), .val (.int v430), .val (.long v331), .second, .val (.int v398), .val (.int v421), .val (.int v423), .val (.int (4 : Int32)), .val (.int v381), .val (.int v383)] [(.int v430), (.ref a1)])) rfl (hb hby d1_152)
          refine own_by st431 ?_
          show ORun p e below s _ _ _ T431 (mkF m 155 #[.val (.long q1), .second, .val (.ref a1), .val (.int p3), .val (.int v430), .val (.long v331), .second, .val (.int v398), .val (.int v421), .val (.int v423), .val (.int (4 : Int32)), .val (.int v381), .val (.int v383)] [(.ref d2), (.int v430), (.ref a1)])
          refine own_by (fun t k => XS.iload X431.here hx rfl (hb hby d1_155) rfl k) ?_
          show ORun p e below s _ _ _ T431 (mkF m 157 #[.val (.long q1), .second, .val (.ref a1), .val (.int p3), .val (.int v430), .val (.long v331), .second, .val (.int v398), .val (.int v421), .val (.int v423), .val (.int (4 : Int32)), .val (.int v381), .val (.int v383)] [(.int v423), (.ref d2), (.int v430), (.ref a1)])
          refine own_baload X431 hx hZ e431 (((((((((((((((((V2.other W146 ne_d2).other W151 ne_d2).other W161 ne_d2).other W166 ne_d2).other W176 ne_d2).other W181 ne_d2).other W191 ne_d2).other W196 ne_d2).other W344 ne_d2).other W349 ne_d2).other W359 ne_d2).other W364 ne_d2).other W374 ne_d2).other W379 ne_d2).other W389 ne_d2).other W394 ne_d2).other W429 ne_d2) (i := v423.toInt.toNat) (by omega) (by omega) (hb hby d1_157) ?_
          intro v432 hv432
          have r432 := rng32 v432
          show ORun p e below s _ _ _ T431 (mkF m 158 #[.val (.long q1), .second, .val (.ref a1), .val (.int p3), .val (.int v430), .val (.long v331), .second, .val (.int v398), .val (.int v421), .val (.int v423), .val (.int (4 : Int32)), .val (.int v381), .val (.int v383)] [(.int v432), (.int v430), (.ref a1)])
          have f433 := hT1 v423.toInt.toNat (by omega)
          rw [← hv432] at f433
          have nb433 : (nar .byte v432).toInt = v432.toInt := by have q := c_i2b v432; show v432.toInt8.toInt32.toInt = _; omega
          refine own_bastore X431 hx hZ e431 V429 (i := v430.toInt.toNat) (by omega) (by omega) (hb hby d1_158) ?_
          intro T434 h434 L434 X434 e434 W434 hL434 V434
          have len434 : L434.length = 21 := by rw [hL434, List.length_set]; exact len429
          have N434 := Fr.snoc X434 N429 g1
          show ORun p e below s _ _ _ T434 (mkF m 159 #[.val (.long q1), .second, .val (.ref a1), .val (.int p3), .val (.int v430), .val (.long v331), .second, .val (.int v398), .val (.int v421), .val (.int v423), .val (.int (4 : Int32)), .val (.int v381), .val (.int v383)] [])
          have pk435 := own_pair (q := qk395) (w := wk395) (i := v425.toInt.toNat) (j := v430.toInt.toNat) (by omega) fi395 (by omega) (by omega) hL429 hL434 (by omega) (by omega)
          obtain ⟨wk435, hwk435⟩ : ∃ w, w = wk395 / 100 := ⟨_, rfl⟩
          obtain ⟨qk435, hqk435⟩ : ∃ q, q = v430.toInt.toNat := ⟨_, rfl⟩
          rw [← hwk435, ← hqk435] at pk435
          obtain ⟨pe435, fi435⟩ := pk435
          have ch435 := Eq.trans ch395 pe435
          have at435 : v430.toInt = (qk435 : Int) := by omega
          have qb435 : 1 ≤ qk435 ∧ qk435 ≤ 20 := by omega
          have lo435 : v421.toInt = (wk435 : Int) := by omega
          have bw435 : wk435 < 10 := by omega
          clear t400 a421 r421 a422 r422 a423 r423 f3_424 a425 r425 r427 f428 nb428 a430 r430 r432 f433 nb433 at395 qb395 lo395 bw395 hh396 hb396 in399 ib399 len394 len429 fi395 hwk435 hqk435
          refine own_by (fun t k => XS.iload X434.here hx rfl (hb hby d1_159) rfl k) ?_
          show ORun p e below s _ _ _ T434 (mkF m 161 #[.val (.long q1), .second, .val (.ref a1), .val (.int p3), .val (.int v430), .val (.long v331), .second, .val (.int v398), .val (.int v421), .val (.int v423), .val (.int (4 : Int32)), .val (.int v381), .val (.int v383)] [(.int v421)])
          refine own_by (fun t k => XS.istore X434.here hx rfl (hb hby d1_161) rfl (l' := #[.val (.long q1), .second, .val (.ref a1), .val (.int p3), .val (.int v430), .val (.long v331), .second, .val (.int v421), .val (.int v421), .val (.int v423), .val (.int (4 : Int32)), .val (.int v381), .val (.int v383)]) rfl k) ?_
          show ORun p e below s _ _ _ T434 (mkF m 163 #[.val (.long q1), .second, .val (.ref a1), .val (.int p3), .val (.int v430), .val (.long v331), .second, .val (.int v421), .val (.int v421), .val (.int v423), .val (.int (4 : Int32)), .val (.int v381), .val (.int v383)] [])
          refine own_by (fun t k => XS.goto X434.here hx rfl (pc0 := 163) (pc' := 109) rfl (hb hby d1_163) (by decide) (by decide) k) ?_
          show ORun p e below s _ _ _ T434 (mkF m 109 #[.val (.long q1), .second, .val (.ref a1), .val (.int p3), .val (.int v430), .val (.long v331), .second, .val (.int v421), .val (.int v421), .val (.int v423), .val (.int (4 : Int32)), .val (.int v381), .val (.int v383)] [])
          refine own_by (fun t k => XS.iload X434.here hx rfl (hb hby d1_109) rfl k) ?_
          show ORun p e below s _ _ _ T434 (mkF m 111 #[.val (.long q1), .second, .val (.ref a1), .val (.int p3), .val (.int v430), .val (.long v331), .second, .val (.int v421), .val (.int v421), .val (.int v423), .val (.int (4 : Int32)), .val (.int v381), .val (.int v383)] [(.int v421)])
          refine own_by (fun t k => XS.bipush X434.here hx rfl (hb hby d1_111) k) ?_
          show ORun p e below s _ _ _ T434 (mkF m 113 #[.val (.long q1), .second, .val (.ref a1), .val (.int p3), .val (.int v430), .val (.long v331), .second, .val (.int v421), .val (.int v421), .val (.int v423), .val (.int (4 : Int32)), .val (.int v381), .val (.int v383)] [(.int (100 : Int32)), (.int v421)])
          by_cases hc436 : v421 < (100 : Int32)
          · have t436 := own_lt hc436 (a := v421.toInt) (b := 100) rfl (by decide)
            refine own_by (fun t k => XS.icmpYes X434.here hx rfl (pc0 := 113) (pc' := 166) rfl (hb hby d1_113) rfl (tlt hc436).1 (by decide) (by decide) k) ?_
            show ORun p e below s _ _ _ T434 (mkF m 166 #[.val (.long q1), .second, .val (.ref a1), .val (.int p3), .val (.int v430), .val (.long v331), .second, .val (.int v421), .val (.int v421), .val (.int v423), .val (.int (4 : Int32)), .val (.int v381), .val (.int v383)] [])
            refine own_by (fun t k => XS.iload X434.here hx rfl (hb hby d1_166) rfl k) ?_
            show ORun p e below s _ _ _ T434 (mkF m 168 #[.val (.long q1), .second, .val (.ref a1), .val (.int p3), .val (.int v430), .val (.long v331), .second, .val (.int v421), .val (.int v421), .val (.int v423), .val (.int (4 : Int32)), .val (.int v381), .val (.int v383)] [(.int v421)])
            refine own_by (fun t k => XS.bipush X434.here hx rfl (hb hby d1_168) k) ?_
            show ORun p e below s _ _ _ T434 (mkF m 170 #[.val (.long q1), .second, .val (.ref a1), .val (.int p3), .val (.int v430), .val (.long v331), .second, .val (.int v421), .val (.int v421), .val (.int v423), .val (.int (4 : Int32)), .val (.int v381), .val (.int v383)] [(.int (10 : Int32)), (.int v421)])
            by_cases hc437 : v421 < (10 : Int32)
            · have t437 := own_lt hc437 (a := v421.toInt) (b := 10) rfl (by decide)
              refine own_by (fun t k => XS.icmpYes X434.here hx rfl (pc0 := 170) (pc' := 202) rfl (hb hby d1_170) rfl (tlt hc437).1 (by decide) (by decide) k) ?_
              show ORun p e below s _ _ _ T434 (mkF m 202 #[.val (.long q1), .second, .val (.ref a1), .val (.int p3), .val (.int v430), .val (.long v331), .second, .val (.int v421), .val (.int v421), .val (.int v423), .val (.int (4 : Int32)), .val (.int v381), .val (.int v383)] [])
              have f1_438 : 1 ≤ qk435 := by omega
              refine own_by (fun t k => XS.aloadN X434.here hx rfl (hb hby d1_202) rfl rfl k) ?_
              show ORun p e below s _ _ _ T434 (mkF m 203 #[.val (.long q1), .second, .val (.ref a1), .val (.int p3), .val (.int v430), .val (.long v331), .second, .val (.int v421), .val (.int v421), .val (.int v423), .val (.int (4 : Int32)), .val (.int v381), .val (.int v383)] [(.ref a1)])
              refine own_by (fun t k => XS.iinc X434.here hx rfl (hb hby d1_203) rfl (l' := #[.val (.long q1), .second, .val (.ref a1), .val (.int p3), .val (.int (v430 + (-1 : Int32))), .val (.long v331), .second, .val (.int v421), .val (.int v421), .val (.int v423), .val (.int (4 : Int32)), .val (.int v381), .val (.int v383)]) rfl k) (own_letI (f := (fun z => (mkF m 206 #[.val (.long q1), .second, .val (.ref a1), .val (.int p3), .val (.int z), .val (.long v331), .second, .val (.int v421), .val (.int v421), .val (.int v423), .val (.int (4 : Int32)), .val (.int v381), .val (.int v383)] [(.ref a1)]))) (v430 + (-1 : Int32)) fun v439 hv439 => ?_)
              show ORun p e below s _ _ _ T434 (mkF m 206 #[.val (.long q1), .second, .val (.ref a1), .val (.int p3), .val (.int v439), .val (.long v331), .second, .val (.int v421), .val (.int v421), .val (.int v423), .val (.int (4 : Int32)), .val (.int v381), .val (.int v383)] [(.ref a1)])
              have r439 := rng32 v439
              have a439 : v439.toInt = v430.toInt + (-1) := by have q : (v439.toInt - (v430.toInt + (-1))) % 4294967296 = 0 := (by rw [hv439]; exact c_iadd v430 (-1 : Int32)); omega
              refine own_by (fun t k => XS.iload X434.here hx rfl (hb hby d1_206) rfl k) ?_
              show ORun p e below s _ _ _ T434 (mkF m 208 #[.val (.long q1), .second, .val (.ref a1), .val (.int p3), .val (.int v439), .val (.long v331), .second, .val (.int v421), .val (.int v421), .val (.int v423), .val (.int (4 : Int32)), .val (.int v381), .val (.int v383)] [(.int v439), (.ref a1)])
              refine own_by (fun t k => XS.bipush X434.here hx rfl (hb hby d1_208) k) ?_
              show ORun p e below s _ _ _ T434 (mkF m 210 #[.val (.long q1), .second, .val (.ref a1), .val (.int p3), .val (.int v439), .val (.long v331), .second, .val (.int v421), .val (.int v421), .val (.int v423), .val (.int (4 : Int32)), .val (.int v381), .val (.int v383)] [(.int (48 : Int32)), (.int v439), (.ref a1)])
              refine own_by (fun t k => XS.iload X434.here hx rfl (hb hby d1_210) rfl k) ?_
              show ORun p e below s _ _ _ T434 (mkF m 212 #[.val (.long q1), .second, .val (.ref a1), .val (.int p3), .val (.int v439), .val (.long v331), .second, .val (.int v421), .val (.int v421), .val (.int v423), .val (.int (4 : Int32)), .val (.int v381), .val (.int v383)] [(.int v421), (.int (48 : Int32)), (.int v439), (.ref a1)])
              refine own_by (fun t k => XS.iadd X434.here hx rfl (hb hby d1_212) rfl k) (own_letI (f := (fun z => (mkF m 213 #[.val (.long q1), .second, .val (.ref a1), .val (.int p3), .val (.int v439), .val (.long v331), .second, .val (.int v421), .val (.int v421), .val (.int v423), .val (.int (4 : Int32)), .val (.int v381), .val (.int v383)] [(.int z), (.int v439), (.ref a1)]))) ((48 : Int32) + v421) fun v440 hv440 => ?_)
              show ORun p e below s _ _ _ T434 (mkF m 213 #[.val (.long q1), .second, .val (.ref a1), .val (.int p3), .val (.int v439), .val (.long v331), .second, .val (.int v421), .val (.int v421), .val (.int v423), .val (.int (4 : Int32)), .val (.int v381), .val (.int v383)] [(.int v440), (.int v439), (.ref a1)])
              have r440 := rng32 v440
              have a440 : v440.toInt = 48 + v421.toInt := by
                have q : (v440.toInt - (48 + v421.toInt)) % 4294967296 = 0 := by rw [hv440]; exact c_iadd (48 : Int32) v421
                omega
              refine own_by (fun t k => XS.i2b X434.here hx rfl (hb hby d1_213) rfl k) (own_letI (f := (fun z => (mkF m 214 #[.val (.long q1), .second, .val (.ref a1), .val (.int p3), .val (.int v439), .val (.long v331), .second, .val (.int v421), .val (.int v421), .val (.int v423), .val (.int (4 : Int32)), .val (.int v381), .val (.int v383)] [(.int z), (.int v439), (.ref a1)]))) (v440.toInt8.toInt32) fun v441 hv441 => ?_)
              show ORun p e below s _ _ _ T434 (mkF m 214 #[.val (.long q1), .second, .val (.ref a1), .val (.int p3), .val (.int v439), .val (.long v331), .second, .val (.int v421), .val (.int v421), .val (.int v423), .val (.int (4 : Int32)), .val (.int v381), .val (.int v383)] [(.int v441), (.int v439), (.ref a1)])
              have r441 := rng32 v441
              have a441 : v441.toInt = v440.toInt := by
                have q : (v441.toInt - v440.toInt) % 256 = 0 ∧ -128 ≤ v441.toInt ∧ v441.toInt < 128 := by rw [hv441]; exact c_i2b v440
                omega
              have nb442 : (nar .byte v441).toInt = v441.toInt := by have q := c_i2b v441; show v441.toInt8.toInt32.toInt = _; omega
              refine own_bastore X434 hx hZ e434 V434 (i := v439.toInt.toNat) (by omega) (by omega) (hb hby d1_214) ?_
              intro T443 h443 L443 X443 e443 W443 hL443 V443
              have len443 : L443.length = 21 := by rw [hL443, List.length_set]; exact len434
              have N443 := Fr.snoc X443 N434 g1
              show ORun p e below s _ _ _ T443 (mkF m 215 #[.val (.long q1), .second, .val (.ref a1), .val (.int p3), .val (.int v439), .val (.long v331), .second, .val (.int v421), .val (.int v421), .val (.int v423), .val (.int (4 : Int32)), .val (.int v381), .val (.int v383)] [])
              refine own_retV X443 hx hret hlk (hb hby d1_215) (by decide) (by decide) ?_
              have fin444 := Eq.trans ch435 (own_last1 (q := qk435) (w := wk435) (i := v439.toInt.toNat) (by omega) (by omega) hL443 (by omega))
              rw [e443]
              refine ⟨rfl, N443, ((((((((((((((((((((Keep.refl h0 [a1]).wr W146 (Or.inl (List.mem_of_getElem? (i := 0) rfl))).wr W151 (Or.inl (List.mem_of_getElem? (i := 0) rfl))).wr W161 (Or.inl (List.mem_of_getElem? (i := 0) rfl))).wr W166 (Or.inl (List.mem_of_getElem? (i := 0) rfl))).wr W176 (Or.inl (List.mem_of_getElem? (i := 0) rfl))).wr W181 (Or.inl (List.mem_of_getElem? (i := 0) rfl))).wr W191 (Or.inl (List.mem_of_getElem? (i := 0) rfl))).wr W196 (Or.inl (List.mem_of_getElem? (i := 0) rfl))).wr W344 (Or.inl (List.mem_of_getElem? (i := 0) rfl))).wr W349 (Or.inl (List.mem_of_getElem? (i := 0) rfl))).wr W359 (Or.inl (List.mem_of_getElem? (i := 0) rfl))).wr W364 (Or.inl (List.mem_of_getElem? (i := 0) rfl))).wr W374 (Or.inl (List.mem_of_getElem? (i := 0) rfl))).wr W379 (Or.inl (List.mem_of_getElem? (i := 0) rfl))).wr W389 (Or.inl (List.mem_of_getElem? (i := 0) rfl))).wr W394 (Or.inl (List.mem_of_getElem? (i := 0) rfl))).wr W429 (Or.inl (List.mem_of_getElem? (i := 0) rfl))).wr W434 (Or.inl (List.mem_of_getElem? (i := 0) rfl))).wr W443 (Or.inl (List.mem_of_getElem? (i := 0) rfl))), ?_⟩
              rw [fin444]
              exact V443
            · have t437 := own_nlt hc437 (a := v421.toInt) (b := 10) rfl (by decide)
              refine own_by (fun t k => XS.icmpNo X434.here hx rfl (hb hby d1_170) rfl (flt hc437).1 k) ?_
              show ORun p e below s _ _ _ T434 (mkF m 173 #[.val (.long q1), .second, .val (.ref a1), .val (.int p3), .val (.int v430), .val (.long v331), .second, .val (.int v421), .val (.int v421), .val (.int v423), .val (.int (4 : Int32)), .val (.int v381), .val (.int v383)] [])
              have f2_445 := own_fit2 (q := qk435) (w := wk435) (by omega) fi435
              refine own_by (fun t k => XS.aloadN X434.here hx rfl (hb hby d1_173) rfl rfl k) ?_
              show ORun p e below s _ _ _ T434 (mkF m 174 #[.val (.long q1), .second, .val (.ref a1), .val (.int p3), .val (.int v430), .val (.long v331), .second, .val (.int v421), .val (.int v421), .val (.int v423), .val (.int (4 : Int32)), .val (.int v381), .val (.int v383)] [(.ref a1)])
              refine own_by (fun t k => XS.iinc X434.here hx rfl (hb hby d1_174) rfl (l' := #[.val (.long q1), .second, .val (.ref a1), .val (.int p3), .val (.int (v430 + (-1 : Int32))), .val (.long v331), .second, .val (.int v421), .val (.int v421), .val (.int v423), .val (.int (4 : Int32)), .val (.int v381), .val (.int v383)]) rfl k) (own_letI (f := (fun z => (mkF m 177 #[.val (.long q1), .second, .val (.ref a1), .val (.int p3), .val (.int z), .val (.long v331), .second, .val (.int v421), .val (.int v421), .val (.int v423), .val (.int (4 : Int32)), .val (.int v381), .val (.int v383)] [(.ref a1)]))) (v430 + (-1 : Int32)) fun v446 hv446 => ?_)
              show ORun p e below s _ _ _ T434 (mkF m 177 #[.val (.long q1), .second, .val (.ref a1), .val (.int p3), .val (.int v446), .val (.long v331), .second, .val (.int v421), .val (.int v421), .val (.int v423), .val (.int (4 : Int32)), .val (.int v381), .val (.int v383)] [(.ref a1)])
              have r446 := rng32 v446
              have a446 : v446.toInt = v430.toInt + (-1) := by have q : (v446.toInt - (v430.toInt + (-1))) % 4294967296 = 0 := (by rw [hv446]; exact c_iadd v430 (-1 : Int32)); omega
              refine own_by (fun t k => XS.iload X434.here hx rfl (hb hby d1_177) rfl k) ?_
              show ORun p e below s _ _ _ T434 (mkF m 179 #[.val (.long q1), .second, .val (.ref a1), .val (.int p3), .val (.int v446), .val (.long v331), .second, .val (.int v421), .val (.int v421), .val (.int v423), .val (.int (4 : Int32)), .val (.int v381), .val (.int v383)] [(.int v446), (.ref a1)])
              obtain ⟨T447, X447, e447, st447⟩ := getS2 X434 hx hZ hown (host := "") (Or.inl (hw _ (List.mem_of_getElem? (i := 31) rfl))) Via.refl e434 ((((((((((((((((((S1.wr W146).wr W151).wr W161).wr W166).wr W176).wr W181).wr W191).wr W196).wr W344).wr W349).wr W359).wr W364).wr W374).wr W379).wr W389).wr W394).wr W429).wr W434) (g := (mkF m 179 #[.val (.long q1), .second, .val (.ref a1), .val (.int p3), .val (.int v446), .val (.long v331), .second, .val (.int v421), .val (.int v421), .val (.int v423), .val (.int (4 : Int32)), .val (.int v381), .val (.int v383)] [(.int v446), (.ref a1)])) rfl (hb hby d1_179)
              refine own_by st447 ?_
              show ORun p e below s _ _ _ T447 (mkF m 182 #[.val (.long q1), .second, .val (.ref a1), .val (.int p3), .val (.int v446), .val (.long v331), .second, .val (.int v421), .val (.int v421), .val (.int v423), .val (.int (4 : Int32)), .val (.int v381), .val (.int v383)] [(.ref d1), (.int v446), (.ref a1)])
              refine own_by (fun t k => XS.iload X447.here hx rfl (hb hby d1_182) rfl k) ?_
              show ORun p e below s _ _ _ T447 (mkF m 184 #[.val (.long q1), .second, .val (.ref a1), .val (.int p3), .val (.int v446), .val (.long v331), .second, .val (.int v421), .val (.int v421), .val (.int v423), .val (.int (4 : Int32)), .val (.int v381), .val (.int v383)] [(.int v421), (.ref d1), (.int v446), (.ref a1)])
              refine own_baload X447 hx hZ e447 ((((((((((((((((((V1.other W146 ne_d1).other W151 ne_d1).other W161 ne_d1).other W166 ne_d1).other W176 ne_d1).other W181 ne_d1).other W191 ne_d1).other W196 ne_d1).other W344 ne_d1).other W349 ne_d1).other W359 ne_d1).other W364 ne_d1).other W374 ne_d1).other W379 ne_d1).other W389 ne_d1).other W394 ne_d1).other W429 ne_d1).other W434 ne_d1) (i := v421.toInt.toNat) (by omega) (by omega) (hb hby d1_184) ?_
              intro v448 hv448
              have r448 := rng32 v448
              show ORun p e below s _ _ _ T447 (mkF m 185 #[.val (.long q1), .second, .val (.ref a1), .val (.int p3), .val (.int v446), .val (.long v331), .second, .val (.int v421), .val (.int v421), .val (.int v423), .val (.int (4 : Int32)), .val (.int v381), .val (.int v383)] [(.int v448), (.int v446), (.ref a1)])
              have f449 := hO1 v421.toInt.toNat (by omega)
              rw [← hv448] at f449
              have nb449 : (nar .byte v448).toInt = v448.toInt := by have q := c_i2b v448; show v448.toInt8.toInt32.toInt = _; omega
              refine own_bastore X447 hx hZ e447 V434 (i := v446.toInt.toNat) (by omega) (by omega) (hb hby d1_185) ?_
              intro T450 h450 L450 X450 e450 W450 hL450 V450
              have len450 : L450.length = 21 := by rw [hL450, List.length_set]; exact len434
              have N450 := Fr.snoc X450 N434 g1
              show ORun p e below s _ _ _ T450 (mkF m 186 #[.val (.long q1), .second, .val (.ref a1), .val (.int p3), .val (.int v446), .val (.long v331), .second, .val (.int v421), .val (.int v421), .val (.int v423), .val (.int (4 : Int32)), .val (.int v381), .val (.int v383)] [])
              refine own_by (fun t k => XS.aloadN X450.here hx rfl (hb hby d1_186) rfl rfl k) ?_
              show ORun p e below s _ _ _ T450 (mkF m 187 #[.val (.long q1), .second, .val (.ref a1), .val (.int p3), .val (.int v446), .val (.long v331), .second, .val (.int v421), .val (.int v421), .val (.int v423), .val (.int (4 : Int32)), .val (.int v381), .val (.int v383)] [(.ref a1)])
              refine own_by (fun t k => XS.iinc X450.here hx rfl (hb hby d1_187) rfl (l' := #[.val (.long q1), .second, .val (.ref a1), .val (.int p3), .val (.int (v446 + (-1 : Int32))), .val (.long v331), .second, .val (.int v421), .val (.int v421), .val (.int v423), .val (.int (4 : Int32)), .val (.int v381), .val (.int v383)]) rfl k) (own_letI (f := (fun z => (mkF m 190 #[.val (.long q1), .second, .val (.ref a1), .val (.int p3), .val (.int z), .val (.long v331), .second, .val (.int v421), .val (.int v421), .val (.int v423), .val (.int (4 : Int32)), .val (.int v381), .val (.int v383)] [(.ref a1)]))) (v446 + (-1 : Int32)) fun v451 hv451 => ?_)
              show ORun p e below s _ _ _ T450 (mkF m 190 #[.val (.long q1), .second, .val (.ref a1), .val (.int p3), .val (.int v451), .val (.long v331), .second, .val (.int v421), .val (.int v421), .val (.int v423), .val (.int (4 : Int32)), .val (.int v381), .val (.int v383)] [(.ref a1)])
              have r451 := rng32 v451
              have a451 : v451.toInt = v446.toInt + (-1) := by have q : (v451.toInt - (v446.toInt + (-1))) % 4294967296 = 0 := (by rw [hv451]; exact c_iadd v446 (-1 : Int32)); omega
              refine own_by (fun t k => XS.iload X450.here hx rfl (hb hby d1_190) rfl k) ?_
              show ORun p e below s _ _ _ T450 (mkF m 192 #[.val (.long q1), .second, .val (.ref a1), .val (.int p3), .val (.int v451), .val (.long v331), .second, .val (.int v421), .val (.int v421), .val (.int v423), .val (.int (4 : Int32)), .val (.int v381), .val (.int v383)] [(.int v451), (.ref a1)])
              obtain ⟨T452, X452, e452, st452⟩ := getS2 X450 hx hZ hown (host := "") (Or.inl (hw _ (List.mem_of_getElem? (i := 33) rfl))) Via.refl e450 (((((((((((((((((((S2.wr W146).wr W151).wr W161).wr W166).wr W176).wr W181).wr W191).wr W196).wr W344).wr W349).wr W359).wr W364).wr W374).wr W379).wr W389).wr W394).wr W429).wr W434).wr W450) (g := (mkF m 192 #[.val (.long q1), .second, .val (.ref a1), .val (.int p3), .val (.int v451), .val (.long v331), .second, .val (.int v421), .val (.int v421), .val (.int v423), .val (.int (4 : Int32)), .val (.int v381), .val (.int v383)] [(.int v451), (.ref a1)])) rfl (hb hby d1_192)
              refine own_by st452 ?_
              show ORun p e below s _ _ _ T452 (mkF m 195 #[.val (.long q1), .second, .val (.ref a1), .val (.int p3), .val (.int v451), .val (.long v331), .second, .val (.int v421), .val (.int v421), .val (.int v423), .val (.int (4 : Int32)), .val (.int v381), .val (.int v383)] [(.ref d2), (.int v451), (.ref a1)])
              refine own_by (fun t k => XS.iload X452.here hx rfl (hb hby d1_195) rfl k) ?_
              show ORun p e below s _ _ _ T452 (mkF m 197 #[.val (.long q1), .second, .val (.ref a1), .val (.int p3), .val (.int v451), .val (.long v331), .second, .val (.int v421), .val (.int v421), .val (.int v423), .val (.int (4 : Int32)), .val (.int v381), .val (.int v383)] [(.int v421), (.ref d2), (.int v451), (.ref a1)])
              refine own_baload X452 hx hZ e452 (((((((((((((((((((V2.other W146 ne_d2).other W151 ne_d2).other W161 ne_d2).other W166 ne_d2).other W176 ne_d2).other W181 ne_d2).other W191 ne_d2).other W196 ne_d2).other W344 ne_d2).other W349 ne_d2).other W359 ne_d2).other W364 ne_d2).other W374 ne_d2).other W379 ne_d2).other W389 ne_d2).other W394 ne_d2).other W429 ne_d2).other W434 ne_d2).other W450 ne_d2) (i := v421.toInt.toNat) (by omega) (by omega) (hb hby d1_197) ?_
              intro v453 hv453
              have r453 := rng32 v453
              show ORun p e below s _ _ _ T452 (mkF m 198 #[.val (.long q1), .second, .val (.ref a1), .val (.int p3), .val (.int v451), .val (.long v331), .second, .val (.int v421), .val (.int v421), .val (.int v423), .val (.int (4 : Int32)), .val (.int v381), .val (.int v383)] [(.int v453), (.int v451), (.ref a1)])
              have f454 := hT1 v421.toInt.toNat (by omega)
              rw [← hv453] at f454
              have nb454 : (nar .byte v453).toInt = v453.toInt := by have q := c_i2b v453; show v453.toInt8.toInt32.toInt = _; omega
              refine own_bastore X452 hx hZ e452 V450 (i := v451.toInt.toNat) (by omega) (by omega) (hb hby d1_198) ?_
              intro T455 h455 L455 X455 e455 W455 hL455 V455
              have len455 : L455.length = 21 := by rw [hL455, List.length_set]; exact len450
              have N455 := Fr.snoc X455 N450 g1
              show ORun p e below s _ _ _ T455 (mkF m 199 #[.val (.long q1), .second, .val (.ref a1), .val (.int p3), .val (.int v451), .val (.long v331), .second, .val (.int v421), .val (.int v421), .val (.int v423), .val (.int (4 : Int32)), .val (.int v381), .val (.int v383)] [])
              refine own_by (fun t k => XS.goto X455.here hx rfl (pc0 := 199) (pc' := 215) rfl (hb hby d1_199) (by decide) (by decide) k) ?_
              show ORun p e below s _ _ _ T455 (mkF m 215 #[.val (.long q1), .second, .val (.ref a1), .val (.int p3), .val (.int v451), .val (.long v331), .second, .val (.int v421), .val (.int v421), .val (.int v423), .val (.int (4 : Int32)), .val (.int v381), .val (.int v383)] [])
              refine own_retV X455 hx hret hlk (hb hby d1_215) (by decide) (by decide) ?_
              have fin456 := Eq.trans ch435 (own_last2 (q := qk435) (w := wk435) (i := v446.toInt.toNat) (j := v451.toInt.toNat) (by omega) (by omega) (by omega) (by omega) hL450 hL455 (by omega) (by omega))
              rw [e455]
              refine ⟨rfl, N455, (((((((((((((((((((((Keep.refl h0 [a1]).wr W146 (Or.inl (List.mem_of_getElem? (i := 0) rfl))).wr W151 (Or.inl (List.mem_of_getElem? (i := 0) rfl))).wr W161 (Or.inl (List.mem_of_getElem? (i := 0) rfl))).wr W166 (Or.inl (List.mem_of_getElem? (i := 0) rfl))).wr W176 (Or.inl (List.mem_of_getElem? (i := 0) rfl))).wr W181 (Or.inl (List.mem_of_getElem? (i := 0) rfl))).wr W191 (Or.inl (List.mem_of_getElem? (i := 0) rfl))).wr W196 (Or.inl (List.mem_of_getElem? (i := 0) rfl))).wr W344 (Or.inl (List.mem_of_getElem? (i := 0) rfl))).wr W349 (Or.inl (List.mem_of_getElem? (i := 0) rfl))).wr W359 (Or.inl (List.mem_of_getElem? (i := 0) rfl))).wr W364 (Or.inl (List.mem_of_getElem? (i := 0) rfl))).wr W374 (Or.inl (List.mem_of_getElem? (i := 0) rfl))).wr W379 (Or.inl (List.mem_of_getElem? (i := 0) rfl))).wr W389 (Or.inl (List.mem_of_getElem? (i := 0) rfl))).wr W394 (Or.inl (List.mem_of_getElem? (i := 0) rfl))).wr W429 (Or.inl (List.mem_of_getElem? (i := 0) rfl))).wr W434 (Or.inl (List.mem_of_getElem? (i := 0) rfl))).wr W450 (Or.inl (List.mem_of_getElem? (i := 0) rfl))).wr W455 (Or.inl (List.mem_of_getElem? (i := 0) rfl))), ?_⟩
              rw [fin456]
              exact V455
          · have t436 := own_nlt hc436 (a := v421.toInt) (b := 100) rfl (by decide)
            exfalso
            omega
      · have t397 := own_nltL hc397 (a := v331.toInt) (b := 100000000) rfl (by decide)
        exfalso
        omega
theorem d2_0 : decode method_3_code 0 = .ok (.aload_n 0, 1) := by decide +kernel
theorem d2_1 : decode method_3_code 1 = .ok (.iconst 0, 1) := by decide +kernel
theorem d2_2 : decode method_3_code 2 = .ok (.baload, 1) := by decide +kernel
theorem d2_3 : decode method_3_code 3 = .ok (.aload_n 1, 1) := by decide +kernel
theorem d2_4 : decode method_3_code 4 = .ok (.iconst 0, 1) := by decide +kernel
theorem d2_5 : decode method_3_code 5 = .ok (.baload, 1) := by decide +kernel
theorem d2_6 : decode method_3_code 6 = .ok (.if_icmp .ne 217, 3) := by decide +kernel
theorem d2_9 : decode method_3_code 9 = .ok (.aload_n 0, 1) := by decide +kernel
theorem d2_10 : decode method_3_code 10 = .ok (.iconst 1, 1) := by decide +kernel
theorem d2_11 : decode method_3_code 11 = .ok (.baload, 1) := by decide +kernel
theorem d2_12 : decode method_3_code 12 = .ok (.aload_n 1, 1) := by decide +kernel
theorem d2_13 : decode method_3_code 13 = .ok (.iconst 1, 1) := by decide +kernel
theorem d2_14 : decode method_3_code 14 = .ok (.baload, 1) := by decide +kernel
theorem d2_15 : decode method_3_code 15 = .ok (.if_icmp .ne 208, 3) := by decide +kernel
theorem d2_18 : decode method_3_code 18 = .ok (.aload_n 0, 1) := by decide +kernel
theorem d2_19 : decode method_3_code 19 = .ok (.iconst 2, 1) := by decide +kernel
theorem d2_20 : decode method_3_code 20 = .ok (.baload, 1) := by decide +kernel
theorem d2_21 : decode method_3_code 21 = .ok (.aload_n 1, 1) := by decide +kernel
theorem d2_22 : decode method_3_code 22 = .ok (.iconst 2, 1) := by decide +kernel
theorem d2_23 : decode method_3_code 23 = .ok (.baload, 1) := by decide +kernel
theorem d2_24 : decode method_3_code 24 = .ok (.if_icmp .ne 199, 3) := by decide +kernel
theorem d2_27 : decode method_3_code 27 = .ok (.aload_n 0, 1) := by decide +kernel
theorem d2_28 : decode method_3_code 28 = .ok (.iconst 3, 1) := by decide +kernel
theorem d2_29 : decode method_3_code 29 = .ok (.baload, 1) := by decide +kernel
theorem d2_30 : decode method_3_code 30 = .ok (.aload_n 1, 1) := by decide +kernel
theorem d2_31 : decode method_3_code 31 = .ok (.iconst 3, 1) := by decide +kernel
theorem d2_32 : decode method_3_code 32 = .ok (.baload, 1) := by decide +kernel
theorem d2_33 : decode method_3_code 33 = .ok (.if_icmp .ne 190, 3) := by decide +kernel
theorem d2_36 : decode method_3_code 36 = .ok (.aload_n 0, 1) := by decide +kernel
theorem d2_37 : decode method_3_code 37 = .ok (.iconst 4, 1) := by decide +kernel
theorem d2_38 : decode method_3_code 38 = .ok (.baload, 1) := by decide +kernel
theorem d2_39 : decode method_3_code 39 = .ok (.aload_n 1, 1) := by decide +kernel
theorem d2_40 : decode method_3_code 40 = .ok (.iconst 4, 1) := by decide +kernel
theorem d2_41 : decode method_3_code 41 = .ok (.baload, 1) := by decide +kernel
theorem d2_42 : decode method_3_code 42 = .ok (.if_icmp .ne 181, 3) := by decide +kernel
theorem d2_45 : decode method_3_code 45 = .ok (.aload_n 0, 1) := by decide +kernel
theorem d2_46 : decode method_3_code 46 = .ok (.iconst 5, 1) := by decide +kernel
theorem d2_47 : decode method_3_code 47 = .ok (.baload, 1) := by decide +kernel
theorem d2_48 : decode method_3_code 48 = .ok (.aload_n 1, 1) := by decide +kernel
theorem d2_49 : decode method_3_code 49 = .ok (.iconst 5, 1) := by decide +kernel
theorem d2_50 : decode method_3_code 50 = .ok (.baload, 1) := by decide +kernel
theorem d2_51 : decode method_3_code 51 = .ok (.if_icmp .ne 172, 3) := by decide +kernel
theorem d2_54 : decode method_3_code 54 = .ok (.aload_n 0, 1) := by decide +kernel
theorem d2_55 : decode method_3_code 55 = .ok (.bipush 6, 2) := by decide +kernel
theorem d2_57 : decode method_3_code 57 = .ok (.baload, 1) := by decide +kernel
theorem d2_58 : decode method_3_code 58 = .ok (.aload_n 1, 1) := by decide +kernel
theorem d2_59 : decode method_3_code 59 = .ok (.bipush 6, 2) := by decide +kernel
theorem d2_61 : decode method_3_code 61 = .ok (.baload, 1) := by decide +kernel
theorem d2_62 : decode method_3_code 62 = .ok (.if_icmp .ne 161, 3) := by decide +kernel
theorem d2_65 : decode method_3_code 65 = .ok (.aload_n 0, 1) := by decide +kernel
theorem d2_66 : decode method_3_code 66 = .ok (.bipush 7, 2) := by decide +kernel
theorem d2_68 : decode method_3_code 68 = .ok (.baload, 1) := by decide +kernel
theorem d2_69 : decode method_3_code 69 = .ok (.aload_n 1, 1) := by decide +kernel
theorem d2_70 : decode method_3_code 70 = .ok (.bipush 7, 2) := by decide +kernel
theorem d2_72 : decode method_3_code 72 = .ok (.baload, 1) := by decide +kernel
theorem d2_73 : decode method_3_code 73 = .ok (.if_icmp .ne 150, 3) := by decide +kernel
theorem d2_76 : decode method_3_code 76 = .ok (.aload_n 0, 1) := by decide +kernel
theorem d2_77 : decode method_3_code 77 = .ok (.bipush 8, 2) := by decide +kernel
theorem d2_79 : decode method_3_code 79 = .ok (.baload, 1) := by decide +kernel
theorem d2_80 : decode method_3_code 80 = .ok (.aload_n 1, 1) := by decide +kernel
theorem d2_81 : decode method_3_code 81 = .ok (.bipush 8, 2) := by decide +kernel
theorem d2_83 : decode method_3_code 83 = .ok (.baload, 1) := by decide +kernel
theorem d2_84 : decode method_3_code 84 = .ok (.if_icmp .ne 139, 3) := by decide +kernel
theorem d2_87 : decode method_3_code 87 = .ok (.aload_n 0, 1) := by decide +kernel
theorem d2_88 : decode method_3_code 88 = .ok (.bipush 9, 2) := by decide +kernel
theorem d2_90 : decode method_3_code 90 = .ok (.baload, 1) := by decide +kernel
theorem d2_91 : decode method_3_code 91 = .ok (.aload_n 1, 1) := by decide +kernel
theorem d2_92 : decode method_3_code 92 = .ok (.bipush 9, 2) := by decide +kernel
theorem d2_94 : decode method_3_code 94 = .ok (.baload, 1) := by decide +kernel
theorem d2_95 : decode method_3_code 95 = .ok (.if_icmp .ne 128, 3) := by decide +kernel
theorem d2_98 : decode method_3_code 98 = .ok (.aload_n 0, 1) := by decide +kernel
theorem d2_99 : decode method_3_code 99 = .ok (.bipush 10, 2) := by decide +kernel
theorem d2_101 : decode method_3_code 101 = .ok (.baload, 1) := by decide +kernel
theorem d2_102 : decode method_3_code 102 = .ok (.aload_n 1, 1) := by decide +kernel
theorem d2_103 : decode method_3_code 103 = .ok (.bipush 10, 2) := by decide +kernel
theorem d2_105 : decode method_3_code 105 = .ok (.baload, 1) := by decide +kernel
theorem d2_106 : decode method_3_code 106 = .ok (.if_icmp .ne 117, 3) := by decide +kernel
theorem d2_109 : decode method_3_code 109 = .ok (.aload_n 0, 1) := by decide +kernel
theorem d2_110 : decode method_3_code 110 = .ok (.bipush 11, 2) := by decide +kernel
theorem d2_112 : decode method_3_code 112 = .ok (.baload, 1) := by decide +kernel
theorem d2_113 : decode method_3_code 113 = .ok (.aload_n 1, 1) := by decide +kernel
theorem d2_114 : decode method_3_code 114 = .ok (.bipush 11, 2) := by decide +kernel
theorem d2_116 : decode method_3_code 116 = .ok (.baload, 1) := by decide +kernel
theorem d2_117 : decode method_3_code 117 = .ok (.if_icmp .ne 106, 3) := by decide +kernel
theorem d2_120 : decode method_3_code 120 = .ok (.aload_n 0, 1) := by decide +kernel
theorem d2_121 : decode method_3_code 121 = .ok (.bipush 12, 2) := by decide +kernel
theorem d2_123 : decode method_3_code 123 = .ok (.baload, 1) := by decide +kernel
theorem d2_124 : decode method_3_code 124 = .ok (.aload_n 1, 1) := by decide +kernel
theorem d2_125 : decode method_3_code 125 = .ok (.bipush 12, 2) := by decide +kernel
theorem d2_127 : decode method_3_code 127 = .ok (.baload, 1) := by decide +kernel
theorem d2_128 : decode method_3_code 128 = .ok (.if_icmp .ne 95, 3) := by decide +kernel
theorem d2_131 : decode method_3_code 131 = .ok (.aload_n 0, 1) := by decide +kernel
theorem d2_132 : decode method_3_code 132 = .ok (.bipush 13, 2) := by decide +kernel
theorem d2_134 : decode method_3_code 134 = .ok (.baload, 1) := by decide +kernel
theorem d2_135 : decode method_3_code 135 = .ok (.aload_n 1, 1) := by decide +kernel
theorem d2_136 : decode method_3_code 136 = .ok (.bipush 13, 2) := by decide +kernel
theorem d2_138 : decode method_3_code 138 = .ok (.baload, 1) := by decide +kernel
theorem d2_139 : decode method_3_code 139 = .ok (.if_icmp .ne 84, 3) := by decide +kernel
theorem d2_142 : decode method_3_code 142 = .ok (.aload_n 0, 1) := by decide +kernel
theorem d2_143 : decode method_3_code 143 = .ok (.bipush 14, 2) := by decide +kernel
theorem d2_145 : decode method_3_code 145 = .ok (.baload, 1) := by decide +kernel
theorem d2_146 : decode method_3_code 146 = .ok (.aload_n 1, 1) := by decide +kernel
theorem d2_147 : decode method_3_code 147 = .ok (.bipush 14, 2) := by decide +kernel
theorem d2_149 : decode method_3_code 149 = .ok (.baload, 1) := by decide +kernel
theorem d2_150 : decode method_3_code 150 = .ok (.if_icmp .ne 73, 3) := by decide +kernel
theorem d2_153 : decode method_3_code 153 = .ok (.aload_n 0, 1) := by decide +kernel
theorem d2_154 : decode method_3_code 154 = .ok (.bipush 15, 2) := by decide +kernel
theorem d2_156 : decode method_3_code 156 = .ok (.baload, 1) := by decide +kernel
theorem d2_157 : decode method_3_code 157 = .ok (.aload_n 1, 1) := by decide +kernel
theorem d2_158 : decode method_3_code 158 = .ok (.bipush 15, 2) := by decide +kernel
theorem d2_160 : decode method_3_code 160 = .ok (.baload, 1) := by decide +kernel
theorem d2_161 : decode method_3_code 161 = .ok (.if_icmp .ne 62, 3) := by decide +kernel
theorem d2_164 : decode method_3_code 164 = .ok (.aload_n 0, 1) := by decide +kernel
theorem d2_165 : decode method_3_code 165 = .ok (.bipush 16, 2) := by decide +kernel
theorem d2_167 : decode method_3_code 167 = .ok (.baload, 1) := by decide +kernel
theorem d2_168 : decode method_3_code 168 = .ok (.aload_n 1, 1) := by decide +kernel
theorem d2_169 : decode method_3_code 169 = .ok (.bipush 16, 2) := by decide +kernel
theorem d2_171 : decode method_3_code 171 = .ok (.baload, 1) := by decide +kernel
theorem d2_172 : decode method_3_code 172 = .ok (.if_icmp .ne 51, 3) := by decide +kernel
theorem d2_175 : decode method_3_code 175 = .ok (.aload_n 0, 1) := by decide +kernel
theorem d2_176 : decode method_3_code 176 = .ok (.bipush 17, 2) := by decide +kernel
theorem d2_178 : decode method_3_code 178 = .ok (.baload, 1) := by decide +kernel
theorem d2_179 : decode method_3_code 179 = .ok (.aload_n 1, 1) := by decide +kernel
theorem d2_180 : decode method_3_code 180 = .ok (.bipush 17, 2) := by decide +kernel
theorem d2_182 : decode method_3_code 182 = .ok (.baload, 1) := by decide +kernel
theorem d2_183 : decode method_3_code 183 = .ok (.if_icmp .ne 40, 3) := by decide +kernel
theorem d2_186 : decode method_3_code 186 = .ok (.aload_n 0, 1) := by decide +kernel
theorem d2_187 : decode method_3_code 187 = .ok (.bipush 18, 2) := by decide +kernel
theorem d2_189 : decode method_3_code 189 = .ok (.baload, 1) := by decide +kernel
theorem d2_190 : decode method_3_code 190 = .ok (.aload_n 1, 1) := by decide +kernel
theorem d2_191 : decode method_3_code 191 = .ok (.bipush 18, 2) := by decide +kernel
theorem d2_193 : decode method_3_code 193 = .ok (.baload, 1) := by decide +kernel
theorem d2_194 : decode method_3_code 194 = .ok (.if_icmp .ne 29, 3) := by decide +kernel
theorem d2_197 : decode method_3_code 197 = .ok (.aload_n 0, 1) := by decide +kernel
theorem d2_198 : decode method_3_code 198 = .ok (.bipush 19, 2) := by decide +kernel
theorem d2_200 : decode method_3_code 200 = .ok (.baload, 1) := by decide +kernel
theorem d2_201 : decode method_3_code 201 = .ok (.aload_n 1, 1) := by decide +kernel
theorem d2_202 : decode method_3_code 202 = .ok (.bipush 19, 2) := by decide +kernel
theorem d2_204 : decode method_3_code 204 = .ok (.baload, 1) := by decide +kernel
theorem d2_205 : decode method_3_code 205 = .ok (.if_icmp .ne 18, 3) := by decide +kernel
theorem d2_208 : decode method_3_code 208 = .ok (.aload_n 0, 1) := by decide +kernel
theorem d2_209 : decode method_3_code 209 = .ok (.bipush 20, 2) := by decide +kernel
theorem d2_211 : decode method_3_code 211 = .ok (.baload, 1) := by decide +kernel
theorem d2_212 : decode method_3_code 212 = .ok (.aload_n 1, 1) := by decide +kernel
theorem d2_213 : decode method_3_code 213 = .ok (.bipush 20, 2) := by decide +kernel
theorem d2_215 : decode method_3_code 215 = .ok (.baload, 1) := by decide +kernel
theorem d2_216 : decode method_3_code 216 = .ok (.if_icmp .ne 7, 3) := by decide +kernel
theorem d2_219 : decode method_3_code 219 = .ok (.iconst 1, 1) := by decide +kernel
theorem d2_220 : decode method_3_code 220 = .ok (.goto 4, 3) := by decide +kernel
theorem d2_224 : decode method_3_code 224 = .ok (.ireturn, 1) := by decide +kernel
theorem pn_rm2 : plainName "com/example/neat_maps/neatmaps/ShortestDecimalPutDigitsPinLaw" = true := by first | (simp [plainName, overriddenIn]; done) | decide +kernel
theorem ef_rm2 (m : MethodId) (x0 : Addr) (x1 : Addr) : entryFrame m #[(.ref x0), (.ref x1)] 2 = mkF m 0 #[.val (.ref x0), .val (.ref x1)] [] := by first | (simp [entryFrame, mkF, argsToLocals, Value.category]; done) | rfl
set_option maxRecDepth 65536 in
set_option maxHeartbeats 40000000 in
theorem rm2 (l : Launch) (Z : State) (a0 : Array Value) (hw : ∀ d ∈ tables_1, d.before a0 Z = true) (ws : List Jvm.Cond) (h0 : Heap) (n0 : Nat) (Z0 : n0 ≤ h0.size) (a1 a2 : Addr) (L : List Int32) (V1 : OVec Z h0 a1 .byte L) (V2 : OVec Z h0 a2 .byte L) (hlen : L.length = 21) :
    OMet l (⟨"com/example/neat_maps/neatmaps/ShortestDecimalPutDigitsPinLaw", "same", "([B[B)Z"⟩ : MethodName) method_3_code 2 (some .boolean) ws ({ frames := 0, cells := 0, slots := 0, locals := 0 } : Room) #[(.ref a1), (.ref a2)] Z h0 (fun v h L' => v = some (.int 1) ∧ Fr n0 L' ∧ h = h0) := by
  refine own_met (plainFor_of_name pn_rm2) ?_
  intro p e s m below meth c s₁ X0 hx hby hml hown hnm hret hlk hZ e0
  rw [ef_rm2]
  have N0 := Fr.nil n0
  show ORun p e below s _ _ _ s₁ (mkF m 0 #[.val (.ref a1), .val (.ref a2)] [])
  refine own_by (fun t k => XS.aloadN X0.here hx rfl (hb hby d2_0) rfl rfl k) ?_
  show ORun p e below s _ _ _ s₁ (mkF m 1 #[.val (.ref a1), .val (.ref a2)] [(.ref a1)])
  refine own_by (fun t k => XS.iconst X0.here hx rfl (hb hby d2_1) k) ?_
  show ORun p e below s _ _ _ s₁ (mkF m 2 #[.val (.ref a1), .val (.ref a2)] [(.int (0 : Int32)), (.ref a1)])
  refine own_baload X0 hx hZ e0 V1 (i := 0) (by decide) (by omega) (hb hby d2_2) ?_
  intro v1 hv1
  have r1 := rng32 v1
  show ORun p e below s _ _ _ s₁ (mkF m 3 #[.val (.ref a1), .val (.ref a2)] [(.int v1)])
  refine own_by (fun t k => XS.aloadN X0.here hx rfl (hb hby d2_3) rfl rfl k) ?_
  show ORun p e below s _ _ _ s₁ (mkF m 4 #[.val (.ref a1), .val (.ref a2)] [(.ref a2), (.int v1)])
  refine own_by (fun t k => XS.iconst X0.here hx rfl (hb hby d2_4) k) ?_
  show ORun p e below s _ _ _ s₁ (mkF m 5 #[.val (.ref a1), .val (.ref a2)] [(.int (0 : Int32)), (.ref a2), (.int v1)])
  refine own_baload X0 hx hZ e0 V2 (i := 0) (by decide) (by omega) (hb hby d2_5) ?_
  intro v2 hv2
  have r2 := rng32 v2
  show ORun p e below s _ _ _ s₁ (mkF m 6 #[.val (.ref a1), .val (.ref a2)] [(.int v2), (.int v1)])
  refine own_by (fun t k => XS.icmpNo X0.here hx rfl (hb hby d2_6) rfl (teq (hv1.trans hv2.symm)).2 k) ?_
  show ORun p e below s _ _ _ s₁ (mkF m 9 #[.val (.ref a1), .val (.ref a2)] [])
  refine own_by (fun t k => XS.aloadN X0.here hx rfl (hb hby d2_9) rfl rfl k) ?_
  show ORun p e below s _ _ _ s₁ (mkF m 10 #[.val (.ref a1), .val (.ref a2)] [(.ref a1)])
  refine own_by (fun t k => XS.iconst X0.here hx rfl (hb hby d2_10) k) ?_
  show ORun p e below s _ _ _ s₁ (mkF m 11 #[.val (.ref a1), .val (.ref a2)] [(.int (1 : Int32)), (.ref a1)])
  refine own_baload X0 hx hZ e0 V1 (i := 1) (by decide) (by omega) (hb hby d2_11) ?_
  intro v3 hv3
  have r3 := rng32 v3
  show ORun p e below s _ _ _ s₁ (mkF m 12 #[.val (.ref a1), .val (.ref a2)] [(.int v3)])
  refine own_by (fun t k => XS.aloadN X0.here hx rfl (hb hby d2_12) rfl rfl k) ?_
  show ORun p e below s _ _ _ s₁ (mkF m 13 #[.val (.ref a1), .val (.ref a2)] [(.ref a2), (.int v3)])
  refine own_by (fun t k => XS.iconst X0.here hx rfl (hb hby d2_13) k) ?_
  show ORun p e below s _ _ _ s₁ (mkF m 14 #[.val (.ref a1), .val (.ref a2)] [(.int (1 : Int32)), (.ref a2), (.int v3)])
  refine own_baload X0 hx hZ e0 V2 (i := 1) (by decide) (by omega) (hb hby d2_14) ?_
  intro v4 hv4
  have r4 := rng32 v4
  show ORun p e below s _ _ _ s₁ (mkF m 15 #[.val (.ref a1), .val (.ref a2)] [(.int v4), (.int v3)])
  refine own_by (fun t k => XS.icmpNo X0.here hx rfl (hb hby d2_15) rfl (teq (hv3.trans hv4.symm)).2 k) ?_
  show ORun p e below s _ _ _ s₁ (mkF m 18 #[.val (.ref a1), .val (.ref a2)] [])
  refine own_by (fun t k => XS.aloadN X0.here hx rfl (hb hby d2_18) rfl rfl k) ?_
  show ORun p e below s _ _ _ s₁ (mkF m 19 #[.val (.ref a1), .val (.ref a2)] [(.ref a1)])
  refine own_by (fun t k => XS.iconst X0.here hx rfl (hb hby d2_19) k) ?_
  show ORun p e below s _ _ _ s₁ (mkF m 20 #[.val (.ref a1), .val (.ref a2)] [(.int (2 : Int32)), (.ref a1)])
  refine own_baload X0 hx hZ e0 V1 (i := 2) (by decide) (by omega) (hb hby d2_20) ?_
  intro v5 hv5
  have r5 := rng32 v5
  show ORun p e below s _ _ _ s₁ (mkF m 21 #[.val (.ref a1), .val (.ref a2)] [(.int v5)])
  refine own_by (fun t k => XS.aloadN X0.here hx rfl (hb hby d2_21) rfl rfl k) ?_
  show ORun p e below s _ _ _ s₁ (mkF m 22 #[.val (.ref a1), .val (.ref a2)] [(.ref a2), (.int v5)])
  refine own_by (fun t k => XS.iconst X0.here hx rfl (hb hby d2_22) k) ?_
  show ORun p e below s _ _ _ s₁ (mkF m 23 #[.val (.ref a1), .val (.ref a2)] [(.int (2 : Int32)), (.ref a2), (.int v5)])
  refine own_baload X0 hx hZ e0 V2 (i := 2) (by decide) (by omega) (hb hby d2_23) ?_
  intro v6 hv6
  have r6 := rng32 v6
  show ORun p e below s _ _ _ s₁ (mkF m 24 #[.val (.ref a1), .val (.ref a2)] [(.int v6), (.int v5)])
  refine own_by (fun t k => XS.icmpNo X0.here hx rfl (hb hby d2_24) rfl (teq (hv5.trans hv6.symm)).2 k) ?_
  show ORun p e below s _ _ _ s₁ (mkF m 27 #[.val (.ref a1), .val (.ref a2)] [])
  refine own_by (fun t k => XS.aloadN X0.here hx rfl (hb hby d2_27) rfl rfl k) ?_
  show ORun p e below s _ _ _ s₁ (mkF m 28 #[.val (.ref a1), .val (.ref a2)] [(.ref a1)])
  refine own_by (fun t k => XS.iconst X0.here hx rfl (hb hby d2_28) k) ?_
  show ORun p e below s _ _ _ s₁ (mkF m 29 #[.val (.ref a1), .val (.ref a2)] [(.int (3 : Int32)), (.ref a1)])
  refine own_baload X0 hx hZ e0 V1 (i := 3) (by decide) (by omega) (hb hby d2_29) ?_
  intro v7 hv7
  have r7 := rng32 v7
  show ORun p e below s _ _ _ s₁ (mkF m 30 #[.val (.ref a1), .val (.ref a2)] [(.int v7)])
  refine own_by (fun t k => XS.aloadN X0.here hx rfl (hb hby d2_30) rfl rfl k) ?_
  show ORun p e below s _ _ _ s₁ (mkF m 31 #[.val (.ref a1), .val (.ref a2)] [(.ref a2), (.int v7)])
  refine own_by (fun t k => XS.iconst X0.here hx rfl (hb hby d2_31) k) ?_
  show ORun p e below s _ _ _ s₁ (mkF m 32 #[.val (.ref a1), .val (.ref a2)] [(.int (3 : Int32)), (.ref a2), (.int v7)])
  refine own_baload X0 hx hZ e0 V2 (i := 3) (by decide) (by omega) (hb hby d2_32) ?_
  intro v8 hv8
  have r8 := rng32 v8
  show ORun p e below s _ _ _ s₁ (mkF m 33 #[.val (.ref a1), .val (.ref a2)] [(.int v8), (.int v7)])
  refine own_by (fun t k => XS.icmpNo X0.here hx rfl (hb hby d2_33) rfl (teq (hv7.trans hv8.symm)).2 k) ?_
  show ORun p e below s _ _ _ s₁ (mkF m 36 #[.val (.ref a1), .val (.ref a2)] [])
  refine own_by (fun t k => XS.aloadN X0.here hx rfl (hb hby d2_36) rfl rfl k) ?_
  show ORun p e below s _ _ _ s₁ (mkF m 37 #[.val (.ref a1), .val (.ref a2)] [(.ref a1)])
  refine own_by (fun t k => XS.iconst X0.here hx rfl (hb hby d2_37) k) ?_
  show ORun p e below s _ _ _ s₁ (mkF m 38 #[.val (.ref a1), .val (.ref a2)] [(.int (4 : Int32)), (.ref a1)])
  refine own_baload X0 hx hZ e0 V1 (i := 4) (by decide) (by omega) (hb hby d2_38) ?_
  intro v9 hv9
  have r9 := rng32 v9
  show ORun p e below s _ _ _ s₁ (mkF m 39 #[.val (.ref a1), .val (.ref a2)] [(.int v9)])
  refine own_by (fun t k => XS.aloadN X0.here hx rfl (hb hby d2_39) rfl rfl k) ?_
  show ORun p e below s _ _ _ s₁ (mkF m 40 #[.val (.ref a1), .val (.ref a2)] [(.ref a2), (.int v9)])
  refine own_by (fun t k => XS.iconst X0.here hx rfl (hb hby d2_40) k) ?_
  show ORun p e below s _ _ _ s₁ (mkF m 41 #[.val (.ref a1), .val (.ref a2)] [(.int (4 : Int32)), (.ref a2), (.int v9)])
  refine own_baload X0 hx hZ e0 V2 (i := 4) (by decide) (by omega) (hb hby d2_41) ?_
  intro v10 hv10
  have r10 := rng32 v10
  show ORun p e below s _ _ _ s₁ (mkF m 42 #[.val (.ref a1), .val (.ref a2)] [(.int v10), (.int v9)])
  refine own_by (fun t k => XS.icmpNo X0.here hx rfl (hb hby d2_42) rfl (teq (hv9.trans hv10.symm)).2 k) ?_
  show ORun p e below s _ _ _ s₁ (mkF m 45 #[.val (.ref a1), .val (.ref a2)] [])
  refine own_by (fun t k => XS.aloadN X0.here hx rfl (hb hby d2_45) rfl rfl k) ?_
  show ORun p e below s _ _ _ s₁ (mkF m 46 #[.val (.ref a1), .val (.ref a2)] [(.ref a1)])
  refine own_by (fun t k => XS.iconst X0.here hx rfl (hb hby d2_46) k) ?_
  show ORun p e below s _ _ _ s₁ (mkF m 47 #[.val (.ref a1), .val (.ref a2)] [(.int (5 : Int32)), (.ref a1)])
  refine own_baload X0 hx hZ e0 V1 (i := 5) (by decide) (by omega) (hb hby d2_47) ?_
  intro v11 hv11
  have r11 := rng32 v11
  show ORun p e below s _ _ _ s₁ (mkF m 48 #[.val (.ref a1), .val (.ref a2)] [(.int v11)])
  refine own_by (fun t k => XS.aloadN X0.here hx rfl (hb hby d2_48) rfl rfl k) ?_
  show ORun p e below s _ _ _ s₁ (mkF m 49 #[.val (.ref a1), .val (.ref a2)] [(.ref a2), (.int v11)])
  refine own_by (fun t k => XS.iconst X0.here hx rfl (hb hby d2_49) k) ?_
  show ORun p e below s _ _ _ s₁ (mkF m 50 #[.val (.ref a1), .val (.ref a2)] [(.int (5 : Int32)), (.ref a2), (.int v11)])
  refine own_baload X0 hx hZ e0 V2 (i := 5) (by decide) (by omega) (hb hby d2_50) ?_
  intro v12 hv12
  have r12 := rng32 v12
  show ORun p e below s _ _ _ s₁ (mkF m 51 #[.val (.ref a1), .val (.ref a2)] [(.int v12), (.int v11)])
  refine own_by (fun t k => XS.icmpNo X0.here hx rfl (hb hby d2_51) rfl (teq (hv11.trans hv12.symm)).2 k) ?_
  show ORun p e below s _ _ _ s₁ (mkF m 54 #[.val (.ref a1), .val (.ref a2)] [])
  refine own_by (fun t k => XS.aloadN X0.here hx rfl (hb hby d2_54) rfl rfl k) ?_
  show ORun p e below s _ _ _ s₁ (mkF m 55 #[.val (.ref a1), .val (.ref a2)] [(.ref a1)])
  refine own_by (fun t k => XS.bipush X0.here hx rfl (hb hby d2_55) k) ?_
  show ORun p e below s _ _ _ s₁ (mkF m 57 #[.val (.ref a1), .val (.ref a2)] [(.int (6 : Int32)), (.ref a1)])
  refine own_baload X0 hx hZ e0 V1 (i := 6) (by decide) (by omega) (hb hby d2_57) ?_
  intro v13 hv13
  have r13 := rng32 v13
  show ORun p e below s _ _ _ s₁ (mkF m 58 #[.val (.ref a1), .val (.ref a2)] [(.int v13)])
  refine own_by (fun t k => XS.aloadN X0.here hx rfl (hb hby d2_58) rfl rfl k) ?_
  show ORun p e below s _ _ _ s₁ (mkF m 59 #[.val (.ref a1), .val (.ref a2)] [(.ref a2), (.int v13)])
  refine own_by (fun t k => XS.bipush X0.here hx rfl (hb hby d2_59) k) ?_
  show ORun p e below s _ _ _ s₁ (mkF m 61 #[.val (.ref a1), .val (.ref a2)] [(.int (6 : Int32)), (.ref a2), (.int v13)])
  refine own_baload X0 hx hZ e0 V2 (i := 6) (by decide) (by omega) (hb hby d2_61) ?_
  intro v14 hv14
  have r14 := rng32 v14
  show ORun p e below s _ _ _ s₁ (mkF m 62 #[.val (.ref a1), .val (.ref a2)] [(.int v14), (.int v13)])
  refine own_by (fun t k => XS.icmpNo X0.here hx rfl (hb hby d2_62) rfl (teq (hv13.trans hv14.symm)).2 k) ?_
  show ORun p e below s _ _ _ s₁ (mkF m 65 #[.val (.ref a1), .val (.ref a2)] [])
  refine own_by (fun t k => XS.aloadN X0.here hx rfl (hb hby d2_65) rfl rfl k) ?_
  show ORun p e below s _ _ _ s₁ (mkF m 66 #[.val (.ref a1), .val (.ref a2)] [(.ref a1)])
  refine own_by (fun t k => XS.bipush X0.here hx rfl (hb hby d2_66) k) ?_
  show ORun p e below s _ _ _ s₁ (mkF m 68 #[.val (.ref a1), .val (.ref a2)] [(.int (7 : Int32)), (.ref a1)])
  refine own_baload X0 hx hZ e0 V1 (i := 7) (by decide) (by omega) (hb hby d2_68) ?_
  intro v15 hv15
  have r15 := rng32 v15
  show ORun p e below s _ _ _ s₁ (mkF m 69 #[.val (.ref a1), .val (.ref a2)] [(.int v15)])
  refine own_by (fun t k => XS.aloadN X0.here hx rfl (hb hby d2_69) rfl rfl k) ?_
  show ORun p e below s _ _ _ s₁ (mkF m 70 #[.val (.ref a1), .val (.ref a2)] [(.ref a2), (.int v15)])
  refine own_by (fun t k => XS.bipush X0.here hx rfl (hb hby d2_70) k) ?_
  show ORun p e below s _ _ _ s₁ (mkF m 72 #[.val (.ref a1), .val (.ref a2)] [(.int (7 : Int32)), (.ref a2), (.int v15)])
  refine own_baload X0 hx hZ e0 V2 (i := 7) (by decide) (by omega) (hb hby d2_72) ?_
  intro v16 hv16
  have r16 := rng32 v16
  show ORun p e below s _ _ _ s₁ (mkF m 73 #[.val (.ref a1), .val (.ref a2)] [(.int v16), (.int v15)])
  refine own_by (fun t k => XS.icmpNo X0.here hx rfl (hb hby d2_73) rfl (teq (hv15.trans hv16.symm)).2 k) ?_
  show ORun p e below s _ _ _ s₁ (mkF m 76 #[.val (.ref a1), .val (.ref a2)] [])
  refine own_by (fun t k => XS.aloadN X0.here hx rfl (hb hby d2_76) rfl rfl k) ?_
  show ORun p e below s _ _ _ s₁ (mkF m 77 #[.val (.ref a1), .val (.ref a2)] [(.ref a1)])
  refine own_by (fun t k => XS.bipush X0.here hx rfl (hb hby d2_77) k) ?_
  show ORun p e below s _ _ _ s₁ (mkF m 79 #[.val (.ref a1), .val (.ref a2)] [(.int (8 : Int32)), (.ref a1)])
  refine own_baload X0 hx hZ e0 V1 (i := 8) (by decide) (by omega) (hb hby d2_79) ?_
  intro v17 hv17
  have r17 := rng32 v17
  show ORun p e below s _ _ _ s₁ (mkF m 80 #[.val (.ref a1), .val (.ref a2)] [(.int v17)])
  refine own_by (fun t k => XS.aloadN X0.here hx rfl (hb hby d2_80) rfl rfl k) ?_
  show ORun p e below s _ _ _ s₁ (mkF m 81 #[.val (.ref a1), .val (.ref a2)] [(.ref a2), (.int v17)])
  refine own_by (fun t k => XS.bipush X0.here hx rfl (hb hby d2_81) k) ?_
  show ORun p e below s _ _ _ s₁ (mkF m 83 #[.val (.ref a1), .val (.ref a2)] [(.int (8 : Int32)), (.ref a2), (.int v17)])
  refine own_baload X0 hx hZ e0 V2 (i := 8) (by decide) (by omega) (hb hby d2_83) ?_
  intro v18 hv18
  have r18 := rng32 v18
  show ORun p e below s _ _ _ s₁ (mkF m 84 #[.val (.ref a1), .val (.ref a2)] [(.int v18), (.int v17)])
  refine own_by (fun t k => XS.icmpNo X0.here hx rfl (hb hby d2_84) rfl (teq (hv17.trans hv18.symm)).2 k) ?_
  show ORun p e below s _ _ _ s₁ (mkF m 87 #[.val (.ref a1), .val (.ref a2)] [])
  refine own_by (fun t k => XS.aloadN X0.here hx rfl (hb hby d2_87) rfl rfl k) ?_
  show ORun p e below s _ _ _ s₁ (mkF m 88 #[.val (.ref a1), .val (.ref a2)] [(.ref a1)])
  refine own_by (fun t k => XS.bipush X0.here hx rfl (hb hby d2_88) k) ?_
  show ORun p e below s _ _ _ s₁ (mkF m 90 #[.val (.ref a1), .val (.ref a2)] [(.int (9 : Int32)), (.ref a1)])
  refine own_baload X0 hx hZ e0 V1 (i := 9) (by decide) (by omega) (hb hby d2_90) ?_
  intro v19 hv19
  have r19 := rng32 v19
  show ORun p e below s _ _ _ s₁ (mkF m 91 #[.val (.ref a1), .val (.ref a2)] [(.int v19)])
  refine own_by (fun t k => XS.aloadN X0.here hx rfl (hb hby d2_91) rfl rfl k) ?_
  show ORun p e below s _ _ _ s₁ (mkF m 92 #[.val (.ref a1), .val (.ref a2)] [(.ref a2), (.int v19)])
  refine own_by (fun t k => XS.bipush X0.here hx rfl (hb hby d2_92) k) ?_
  show ORun p e below s _ _ _ s₁ (mkF m 94 #[.val (.ref a1), .val (.ref a2)] [(.int (9 : Int32)), (.ref a2), (.int v19)])
  refine own_baload X0 hx hZ e0 V2 (i := 9) (by decide) (by omega) (hb hby d2_94) ?_
  intro v20 hv20
  have r20 := rng32 v20
  show ORun p e below s _ _ _ s₁ (mkF m 95 #[.val (.ref a1), .val (.ref a2)] [(.int v20), (.int v19)])
  refine own_by (fun t k => XS.icmpNo X0.here hx rfl (hb hby d2_95) rfl (teq (hv19.trans hv20.symm)).2 k) ?_
  show ORun p e below s _ _ _ s₁ (mkF m 98 #[.val (.ref a1), .val (.ref a2)] [])
  refine own_by (fun t k => XS.aloadN X0.here hx rfl (hb hby d2_98) rfl rfl k) ?_
  show ORun p e below s _ _ _ s₁ (mkF m 99 #[.val (.ref a1), .val (.ref a2)] [(.ref a1)])
  refine own_by (fun t k => XS.bipush X0.here hx rfl (hb hby d2_99) k) ?_
  show ORun p e below s _ _ _ s₁ (mkF m 101 #[.val (.ref a1), .val (.ref a2)] [(.int (10 : Int32)), (.ref a1)])
  refine own_baload X0 hx hZ e0 V1 (i := 10) (by decide) (by omega) (hb hby d2_101) ?_
  intro v21 hv21
  have r21 := rng32 v21
  show ORun p e below s _ _ _ s₁ (mkF m 102 #[.val (.ref a1), .val (.ref a2)] [(.int v21)])
  refine own_by (fun t k => XS.aloadN X0.here hx rfl (hb hby d2_102) rfl rfl k) ?_
  show ORun p e below s _ _ _ s₁ (mkF m 103 #[.val (.ref a1), .val (.ref a2)] [(.ref a2), (.int v21)])
  refine own_by (fun t k => XS.bipush X0.here hx rfl (hb hby d2_103) k) ?_
  show ORun p e below s _ _ _ s₁ (mkF m 105 #[.val (.ref a1), .val (.ref a2)] [(.int (10 : Int32)), (.ref a2), (.int v21)])
  refine own_baload X0 hx hZ e0 V2 (i := 10) (by decide) (by omega) (hb hby d2_105) ?_
  intro v22 hv22
  have r22 := rng32 v22
  show ORun p e below s _ _ _ s₁ (mkF m 106 #[.val (.ref a1), .val (.ref a2)] [(.int v22), (.int v21)])
  refine own_by (fun t k => XS.icmpNo X0.here hx rfl (hb hby d2_106) rfl (teq (hv21.trans hv22.symm)).2 k) ?_
  show ORun p e below s _ _ _ s₁ (mkF m 109 #[.val (.ref a1), .val (.ref a2)] [])
  refine own_by (fun t k => XS.aloadN X0.here hx rfl (hb hby d2_109) rfl rfl k) ?_
  show ORun p e below s _ _ _ s₁ (mkF m 110 #[.val (.ref a1), .val (.ref a2)] [(.ref a1)])
  refine own_by (fun t k => XS.bipush X0.here hx rfl (hb hby d2_110) k) ?_
  show ORun p e below s _ _ _ s₁ (mkF m 112 #[.val (.ref a1), .val (.ref a2)] [(.int (11 : Int32)), (.ref a1)])
  refine own_baload X0 hx hZ e0 V1 (i := 11) (by decide) (by omega) (hb hby d2_112) ?_
  intro v23 hv23
  have r23 := rng32 v23
  show ORun p e below s _ _ _ s₁ (mkF m 113 #[.val (.ref a1), .val (.ref a2)] [(.int v23)])
  refine own_by (fun t k => XS.aloadN X0.here hx rfl (hb hby d2_113) rfl rfl k) ?_
  show ORun p e below s _ _ _ s₁ (mkF m 114 #[.val (.ref a1), .val (.ref a2)] [(.ref a2), (.int v23)])
  refine own_by (fun t k => XS.bipush X0.here hx rfl (hb hby d2_114) k) ?_
  show ORun p e below s _ _ _ s₁ (mkF m 116 #[.val (.ref a1), .val (.ref a2)] [(.int (11 : Int32)), (.ref a2), (.int v23)])
  refine own_baload X0 hx hZ e0 V2 (i := 11) (by decide) (by omega) (hb hby d2_116) ?_
  intro v24 hv24
  have r24 := rng32 v24
  show ORun p e below s _ _ _ s₁ (mkF m 117 #[.val (.ref a1), .val (.ref a2)] [(.int v24), (.int v23)])
  refine own_by (fun t k => XS.icmpNo X0.here hx rfl (hb hby d2_117) rfl (teq (hv23.trans hv24.symm)).2 k) ?_
  show ORun p e below s _ _ _ s₁ (mkF m 120 #[.val (.ref a1), .val (.ref a2)] [])
  refine own_by (fun t k => XS.aloadN X0.here hx rfl (hb hby d2_120) rfl rfl k) ?_
  show ORun p e below s _ _ _ s₁ (mkF m 121 #[.val (.ref a1), .val (.ref a2)] [(.ref a1)])
  refine own_by (fun t k => XS.bipush X0.here hx rfl (hb hby d2_121) k) ?_
  show ORun p e below s _ _ _ s₁ (mkF m 123 #[.val (.ref a1), .val (.ref a2)] [(.int (12 : Int32)), (.ref a1)])
  refine own_baload X0 hx hZ e0 V1 (i := 12) (by decide) (by omega) (hb hby d2_123) ?_
  intro v25 hv25
  have r25 := rng32 v25
  show ORun p e below s _ _ _ s₁ (mkF m 124 #[.val (.ref a1), .val (.ref a2)] [(.int v25)])
  refine own_by (fun t k => XS.aloadN X0.here hx rfl (hb hby d2_124) rfl rfl k) ?_
  show ORun p e below s _ _ _ s₁ (mkF m 125 #[.val (.ref a1), .val (.ref a2)] [(.ref a2), (.int v25)])
  refine own_by (fun t k => XS.bipush X0.here hx rfl (hb hby d2_125) k) ?_
  show ORun p e below s _ _ _ s₁ (mkF m 127 #[.val (.ref a1), .val (.ref a2)] [(.int (12 : Int32)), (.ref a2), (.int v25)])
  refine own_baload X0 hx hZ e0 V2 (i := 12) (by decide) (by omega) (hb hby d2_127) ?_
  intro v26 hv26
  have r26 := rng32 v26
  show ORun p e below s _ _ _ s₁ (mkF m 128 #[.val (.ref a1), .val (.ref a2)] [(.int v26), (.int v25)])
  refine own_by (fun t k => XS.icmpNo X0.here hx rfl (hb hby d2_128) rfl (teq (hv25.trans hv26.symm)).2 k) ?_
  show ORun p e below s _ _ _ s₁ (mkF m 131 #[.val (.ref a1), .val (.ref a2)] [])
  refine own_by (fun t k => XS.aloadN X0.here hx rfl (hb hby d2_131) rfl rfl k) ?_
  show ORun p e below s _ _ _ s₁ (mkF m 132 #[.val (.ref a1), .val (.ref a2)] [(.ref a1)])
  refine own_by (fun t k => XS.bipush X0.here hx rfl (hb hby d2_132) k) ?_
  show ORun p e below s _ _ _ s₁ (mkF m 134 #[.val (.ref a1), .val (.ref a2)] [(.int (13 : Int32)), (.ref a1)])
  refine own_baload X0 hx hZ e0 V1 (i := 13) (by decide) (by omega) (hb hby d2_134) ?_
  intro v27 hv27
  have r27 := rng32 v27
  show ORun p e below s _ _ _ s₁ (mkF m 135 #[.val (.ref a1), .val (.ref a2)] [(.int v27)])
  refine own_by (fun t k => XS.aloadN X0.here hx rfl (hb hby d2_135) rfl rfl k) ?_
  show ORun p e below s _ _ _ s₁ (mkF m 136 #[.val (.ref a1), .val (.ref a2)] [(.ref a2), (.int v27)])
  refine own_by (fun t k => XS.bipush X0.here hx rfl (hb hby d2_136) k) ?_
  show ORun p e below s _ _ _ s₁ (mkF m 138 #[.val (.ref a1), .val (.ref a2)] [(.int (13 : Int32)), (.ref a2), (.int v27)])
  refine own_baload X0 hx hZ e0 V2 (i := 13) (by decide) (by omega) (hb hby d2_138) ?_
  intro v28 hv28
  have r28 := rng32 v28
  show ORun p e below s _ _ _ s₁ (mkF m 139 #[.val (.ref a1), .val (.ref a2)] [(.int v28), (.int v27)])
  refine own_by (fun t k => XS.icmpNo X0.here hx rfl (hb hby d2_139) rfl (teq (hv27.trans hv28.symm)).2 k) ?_
  show ORun p e below s _ _ _ s₁ (mkF m 142 #[.val (.ref a1), .val (.ref a2)] [])
  refine own_by (fun t k => XS.aloadN X0.here hx rfl (hb hby d2_142) rfl rfl k) ?_
  show ORun p e below s _ _ _ s₁ (mkF m 143 #[.val (.ref a1), .val (.ref a2)] [(.ref a1)])
  refine own_by (fun t k => XS.bipush X0.here hx rfl (hb hby d2_143) k) ?_
  show ORun p e below s _ _ _ s₁ (mkF m 145 #[.val (.ref a1), .val (.ref a2)] [(.int (14 : Int32)), (.ref a1)])
  refine own_baload X0 hx hZ e0 V1 (i := 14) (by decide) (by omega) (hb hby d2_145) ?_
  intro v29 hv29
  have r29 := rng32 v29
  show ORun p e below s _ _ _ s₁ (mkF m 146 #[.val (.ref a1), .val (.ref a2)] [(.int v29)])
  refine own_by (fun t k => XS.aloadN X0.here hx rfl (hb hby d2_146) rfl rfl k) ?_
  show ORun p e below s _ _ _ s₁ (mkF m 147 #[.val (.ref a1), .val (.ref a2)] [(.ref a2), (.int v29)])
  refine own_by (fun t k => XS.bipush X0.here hx rfl (hb hby d2_147) k) ?_
  show ORun p e below s _ _ _ s₁ (mkF m 149 #[.val (.ref a1), .val (.ref a2)] [(.int (14 : Int32)), (.ref a2), (.int v29)])
  refine own_baload X0 hx hZ e0 V2 (i := 14) (by decide) (by omega) (hb hby d2_149) ?_
  intro v30 hv30
  have r30 := rng32 v30
  show ORun p e below s _ _ _ s₁ (mkF m 150 #[.val (.ref a1), .val (.ref a2)] [(.int v30), (.int v29)])
  refine own_by (fun t k => XS.icmpNo X0.here hx rfl (hb hby d2_150) rfl (teq (hv29.trans hv30.symm)).2 k) ?_
  show ORun p e below s _ _ _ s₁ (mkF m 153 #[.val (.ref a1), .val (.ref a2)] [])
  refine own_by (fun t k => XS.aloadN X0.here hx rfl (hb hby d2_153) rfl rfl k) ?_
  show ORun p e below s _ _ _ s₁ (mkF m 154 #[.val (.ref a1), .val (.ref a2)] [(.ref a1)])
  refine own_by (fun t k => XS.bipush X0.here hx rfl (hb hby d2_154) k) ?_
  show ORun p e below s _ _ _ s₁ (mkF m 156 #[.val (.ref a1), .val (.ref a2)] [(.int (15 : Int32)), (.ref a1)])
  refine own_baload X0 hx hZ e0 V1 (i := 15) (by decide) (by omega) (hb hby d2_156) ?_
  intro v31 hv31
  have r31 := rng32 v31
  show ORun p e below s _ _ _ s₁ (mkF m 157 #[.val (.ref a1), .val (.ref a2)] [(.int v31)])
  refine own_by (fun t k => XS.aloadN X0.here hx rfl (hb hby d2_157) rfl rfl k) ?_
  show ORun p e below s _ _ _ s₁ (mkF m 158 #[.val (.ref a1), .val (.ref a2)] [(.ref a2), (.int v31)])
  refine own_by (fun t k => XS.bipush X0.here hx rfl (hb hby d2_158) k) ?_
  show ORun p e below s _ _ _ s₁ (mkF m 160 #[.val (.ref a1), .val (.ref a2)] [(.int (15 : Int32)), (.ref a2), (.int v31)])
  refine own_baload X0 hx hZ e0 V2 (i := 15) (by decide) (by omega) (hb hby d2_160) ?_
  intro v32 hv32
  have r32 := rng32 v32
  show ORun p e below s _ _ _ s₁ (mkF m 161 #[.val (.ref a1), .val (.ref a2)] [(.int v32), (.int v31)])
  refine own_by (fun t k => XS.icmpNo X0.here hx rfl (hb hby d2_161) rfl (teq (hv31.trans hv32.symm)).2 k) ?_
  show ORun p e below s _ _ _ s₁ (mkF m 164 #[.val (.ref a1), .val (.ref a2)] [])
  refine own_by (fun t k => XS.aloadN X0.here hx rfl (hb hby d2_164) rfl rfl k) ?_
  show ORun p e below s _ _ _ s₁ (mkF m 165 #[.val (.ref a1), .val (.ref a2)] [(.ref a1)])
  refine own_by (fun t k => XS.bipush X0.here hx rfl (hb hby d2_165) k) ?_
  show ORun p e below s _ _ _ s₁ (mkF m 167 #[.val (.ref a1), .val (.ref a2)] [(.int (16 : Int32)), (.ref a1)])
  refine own_baload X0 hx hZ e0 V1 (i := 16) (by decide) (by omega) (hb hby d2_167) ?_
  intro v33 hv33
  have r33 := rng32 v33
  show ORun p e below s _ _ _ s₁ (mkF m 168 #[.val (.ref a1), .val (.ref a2)] [(.int v33)])
  refine own_by (fun t k => XS.aloadN X0.here hx rfl (hb hby d2_168) rfl rfl k) ?_
  show ORun p e below s _ _ _ s₁ (mkF m 169 #[.val (.ref a1), .val (.ref a2)] [(.ref a2), (.int v33)])
  refine own_by (fun t k => XS.bipush X0.here hx rfl (hb hby d2_169) k) ?_
  show ORun p e below s _ _ _ s₁ (mkF m 171 #[.val (.ref a1), .val (.ref a2)] [(.int (16 : Int32)), (.ref a2), (.int v33)])
  refine own_baload X0 hx hZ e0 V2 (i := 16) (by decide) (by omega) (hb hby d2_171) ?_
  intro v34 hv34
  have r34 := rng32 v34
  show ORun p e below s _ _ _ s₁ (mkF m 172 #[.val (.ref a1), .val (.ref a2)] [(.int v34), (.int v33)])
  refine own_by (fun t k => XS.icmpNo X0.here hx rfl (hb hby d2_172) rfl (teq (hv33.trans hv34.symm)).2 k) ?_
  show ORun p e below s _ _ _ s₁ (mkF m 175 #[.val (.ref a1), .val (.ref a2)] [])
  refine own_by (fun t k => XS.aloadN X0.here hx rfl (hb hby d2_175) rfl rfl k) ?_
  show ORun p e below s _ _ _ s₁ (mkF m 176 #[.val (.ref a1), .val (.ref a2)] [(.ref a1)])
  refine own_by (fun t k => XS.bipush X0.here hx rfl (hb hby d2_176) k) ?_
  show ORun p e below s _ _ _ s₁ (mkF m 178 #[.val (.ref a1), .val (.ref a2)] [(.int (17 : Int32)), (.ref a1)])
  refine own_baload X0 hx hZ e0 V1 (i := 17) (by decide) (by omega) (hb hby d2_178) ?_
  intro v35 hv35
  have r35 := rng32 v35
  show ORun p e below s _ _ _ s₁ (mkF m 179 #[.val (.ref a1), .val (.ref a2)] [(.int v35)])
  refine own_by (fun t k => XS.aloadN X0.here hx rfl (hb hby d2_179) rfl rfl k) ?_
  show ORun p e below s _ _ _ s₁ (mkF m 180 #[.val (.ref a1), .val (.ref a2)] [(.ref a2), (.int v35)])
  refine own_by (fun t k => XS.bipush X0.here hx rfl (hb hby d2_180) k) ?_
  show ORun p e below s _ _ _ s₁ (mkF m 182 #[.val (.ref a1), .val (.ref a2)] [(.int (17 : Int32)), (.ref a2), (.int v35)])
  refine own_baload X0 hx hZ e0 V2 (i := 17) (by decide) (by omega) (hb hby d2_182) ?_
  intro v36 hv36
  have r36 := rng32 v36
  show ORun p e below s _ _ _ s₁ (mkF m 183 #[.val (.ref a1), .val (.ref a2)] [(.int v36), (.int v35)])
  refine own_by (fun t k => XS.icmpNo X0.here hx rfl (hb hby d2_183) rfl (teq (hv35.trans hv36.symm)).2 k) ?_
  show ORun p e below s _ _ _ s₁ (mkF m 186 #[.val (.ref a1), .val (.ref a2)] [])
  refine own_by (fun t k => XS.aloadN X0.here hx rfl (hb hby d2_186) rfl rfl k) ?_
  show ORun p e below s _ _ _ s₁ (mkF m 187 #[.val (.ref a1), .val (.ref a2)] [(.ref a1)])
  refine own_by (fun t k => XS.bipush X0.here hx rfl (hb hby d2_187) k) ?_
  show ORun p e below s _ _ _ s₁ (mkF m 189 #[.val (.ref a1), .val (.ref a2)] [(.int (18 : Int32)), (.ref a1)])
  refine own_baload X0 hx hZ e0 V1 (i := 18) (by decide) (by omega) (hb hby d2_189) ?_
  intro v37 hv37
  have r37 := rng32 v37
  show ORun p e below s _ _ _ s₁ (mkF m 190 #[.val (.ref a1), .val (.ref a2)] [(.int v37)])
  refine own_by (fun t k => XS.aloadN X0.here hx rfl (hb hby d2_190) rfl rfl k) ?_
  show ORun p e below s _ _ _ s₁ (mkF m 191 #[.val (.ref a1), .val (.ref a2)] [(.ref a2), (.int v37)])
  refine own_by (fun t k => XS.bipush X0.here hx rfl (hb hby d2_191) k) ?_
  show ORun p e below s _ _ _ s₁ (mkF m 193 #[.val (.ref a1), .val (.ref a2)] [(.int (18 : Int32)), (.ref a2), (.int v37)])
  refine own_baload X0 hx hZ e0 V2 (i := 18) (by decide) (by omega) (hb hby d2_193) ?_
  intro v38 hv38
  have r38 := rng32 v38
  show ORun p e below s _ _ _ s₁ (mkF m 194 #[.val (.ref a1), .val (.ref a2)] [(.int v38), (.int v37)])
  refine own_by (fun t k => XS.icmpNo X0.here hx rfl (hb hby d2_194) rfl (teq (hv37.trans hv38.symm)).2 k) ?_
  show ORun p e below s _ _ _ s₁ (mkF m 197 #[.val (.ref a1), .val (.ref a2)] [])
  refine own_by (fun t k => XS.aloadN X0.here hx rfl (hb hby d2_197) rfl rfl k) ?_
  show ORun p e below s _ _ _ s₁ (mkF m 198 #[.val (.ref a1), .val (.ref a2)] [(.ref a1)])
  refine own_by (fun t k => XS.bipush X0.here hx rfl (hb hby d2_198) k) ?_
  show ORun p e below s _ _ _ s₁ (mkF m 200 #[.val (.ref a1), .val (.ref a2)] [(.int (19 : Int32)), (.ref a1)])
  refine own_baload X0 hx hZ e0 V1 (i := 19) (by decide) (by omega) (hb hby d2_200) ?_
  intro v39 hv39
  have r39 := rng32 v39
  show ORun p e below s _ _ _ s₁ (mkF m 201 #[.val (.ref a1), .val (.ref a2)] [(.int v39)])
  refine own_by (fun t k => XS.aloadN X0.here hx rfl (hb hby d2_201) rfl rfl k) ?_
  show ORun p e below s _ _ _ s₁ (mkF m 202 #[.val (.ref a1), .val (.ref a2)] [(.ref a2), (.int v39)])
  refine own_by (fun t k => XS.bipush X0.here hx rfl (hb hby d2_202) k) ?_
  show ORun p e below s _ _ _ s₁ (mkF m 204 #[.val (.ref a1), .val (.ref a2)] [(.int (19 : Int32)), (.ref a2), (.int v39)])
  refine own_baload X0 hx hZ e0 V2 (i := 19) (by decide) (by omega) (hb hby d2_204) ?_
  intro v40 hv40
  have r40 := rng32 v40
  show ORun p e below s _ _ _ s₁ (mkF m 205 #[.val (.ref a1), .val (.ref a2)] [(.int v40), (.int v39)])
  refine own_by (fun t k => XS.icmpNo X0.here hx rfl (hb hby d2_205) rfl (teq (hv39.trans hv40.symm)).2 k) ?_
  show ORun p e below s _ _ _ s₁ (mkF m 208 #[.val (.ref a1), .val (.ref a2)] [])
  refine own_by (fun t k => XS.aloadN X0.here hx rfl (hb hby d2_208) rfl rfl k) ?_
  show ORun p e below s _ _ _ s₁ (mkF m 209 #[.val (.ref a1), .val (.ref a2)] [(.ref a1)])
  refine own_by (fun t k => XS.bipush X0.here hx rfl (hb hby d2_209) k) ?_
  show ORun p e below s _ _ _ s₁ (mkF m 211 #[.val (.ref a1), .val (.ref a2)] [(.int (20 : Int32)), (.ref a1)])
  refine own_baload X0 hx hZ e0 V1 (i := 20) (by decide) (by omega) (hb hby d2_211) ?_
  intro v41 hv41
  have r41 := rng32 v41
  show ORun p e below s _ _ _ s₁ (mkF m 212 #[.val (.ref a1), .val (.ref a2)] [(.int v41)])
  refine own_by (fun t k => XS.aloadN X0.here hx rfl (hb hby d2_212) rfl rfl k) ?_
  show ORun p e below s _ _ _ s₁ (mkF m 213 #[.val (.ref a1), .val (.ref a2)] [(.ref a2), (.int v41)])
  refine own_by (fun t k => XS.bipush X0.here hx rfl (hb hby d2_213) k) ?_
  show ORun p e below s _ _ _ s₁ (mkF m 215 #[.val (.ref a1), .val (.ref a2)] [(.int (20 : Int32)), (.ref a2), (.int v41)])
  refine own_baload X0 hx hZ e0 V2 (i := 20) (by decide) (by omega) (hb hby d2_215) ?_
  intro v42 hv42
  have r42 := rng32 v42
  show ORun p e below s _ _ _ s₁ (mkF m 216 #[.val (.ref a1), .val (.ref a2)] [(.int v42), (.int v41)])
  refine own_by (fun t k => XS.icmpNo X0.here hx rfl (hb hby d2_216) rfl (teq (hv41.trans hv42.symm)).2 k) ?_
  show ORun p e below s _ _ _ s₁ (mkF m 219 #[.val (.ref a1), .val (.ref a2)] [])
  refine own_by (fun t k => XS.iconst X0.here hx rfl (hb hby d2_219) k) ?_
  show ORun p e below s _ _ _ s₁ (mkF m 220 #[.val (.ref a1), .val (.ref a2)] [(.int (1 : Int32))])
  refine own_by (fun t k => XS.goto X0.here hx rfl (pc0 := 220) (pc' := 224) rfl (hb hby d2_220) (by decide) (by decide) k) ?_
  show ORun p e below s _ _ _ s₁ (mkF m 224 #[.val (.ref a1), .val (.ref a2)] [(.int (1 : Int32))])
  refine own_retN X0 hx (t := .boolean) hret (by simp) hlk (hb hby d2_224) (by decide) (by decide) ?_
  exact ⟨rfl, N0, e0⟩
theorem pn_rm0 : plainName "com/example/neat_maps/neatmaps/ShortestDecimalPutDigitsPinLaw" = true := by first | (simp [plainName, overriddenIn]; done) | decide +kernel
theorem ef_rm0 (m : MethodId) (x0 : Int64) (x1 : Int32) : entryFrame m #[(.long x0), (.int x1)] maxLocals = mkF m 0 #[.val (.long x0), .second, .val (.int x1), .unset, .unset, .unset, .unset, .unset, .unset] [] := by first | (simp [entryFrame, mkF, argsToLocals, Value.category, maxLocals]; done) | rfl
set_option maxRecDepth 65536 in
set_option maxHeartbeats 40000000 in
theorem rm0 (l : Launch) (Z : State) (a0 : Array Value) (hw : ∀ d ∈ tables_1, d.before a0 Z = true) (ws : List Jvm.Cond) (h0 : Heap) (n0 : Nat) (Z0 : n0 ≤ h0.size) (p1 : Int64) (p2 : Int32) (LO LT : List Int32) (d1 d2 : Addr) (S1 : Sta Z h0 "com/example/neat_maps/neatmaps/ShortestDecimal" "DIGIT_ONES" "[B" (.ref d1)) (S2 : Sta Z h0 "com/example/neat_maps/neatmaps/ShortestDecimal" "DIGIT_TENS" "[B" (.ref d2)) (V1 : OVec Z h0 d1 .byte LO) (l1 : LO.length = 100) (hO1 : ∀ i : Nat, i < 100 → (LO.getD i 0).toInt = 48 + ((i % 10 : Nat) : Int)) (V2 : OVec Z h0 d2 .byte LT) (l2 : LT.length = 100) (hT1 : ∀ i : Nat, i < 100 → (LT.getD i 0).toInt = 48 + ((i / 10 : Nat) : Int)) :
    OMet l x code maxLocals ret ws room_1 #[(.long p1), (.int p2)] Z h0 (fun v h L => v = some (.int 1) ∧ Fr n0 L) := by
  refine own_met (plainFor_of_name pn_rm0) ?_
  intro p e s m below meth c s₁ X0 hx hby hml hown hnm hret hlk hZ e0
  rw [ef_rm0]
  have N0 := Fr.nil n0
  have rg_p1 := rng64 p1
  have rg_p2 := rng32 p2
  show ORun p e below s _ _ _ s₁ (mkF m 0 #[.val (.long p1), .second, .val (.int p2), .unset, .unset, .unset, .unset, .unset, .unset] [])
  refine own_by (fun t k => XS.iconst X0.here hx rfl (hb hby at_0) k) ?_
  show ORun p e below s _ _ _ s₁ (mkF m 1 #[.val (.long p1), .second, .val (.int p2), .unset, .unset, .unset, .unset, .unset, .unset] [(.int (1 : Int32))])
  refine own_by (fun t k => XS.iloadN X0.here hx rfl (hb hby at_1) rfl k) ?_
  show ORun p e below s _ _ _ s₁ (mkF m 2 #[.val (.long p1), .second, .val (.int p2), .unset, .unset, .unset, .unset, .unset, .unset] [(.int p2), (.int (1 : Int32))])
  refine own_by (fun t k => X0.ldcInt hx hown (mvT hZ (hw _ (List.mem_of_getElem? (i := 0) rfl))) (g := (mkF m 2 #[.val (.long p1), .second, .val (.int p2), .unset, .unset, .unset, .unset, .unset, .unset] [(.int p2), (.int (1 : Int32))])) rfl (hb hby at_2) _ k) ?_
  show ORun p e below s _ _ _ s₁ (mkF m 4 #[.val (.long p1), .second, .val (.int p2), .unset, .unset, .unset, .unset, .unset, .unset] [(.int (2147483647 : Int32)), (.int p2), (.int (1 : Int32))])
  refine own_by (fun t k => XS.iand X0.here hx rfl (hb hby at_4) rfl k) (own_letI (f := (fun z => (mkF m 5 #[.val (.long p1), .second, .val (.int p2), .unset, .unset, .unset, .unset, .unset, .unset] [(.int z), (.int (1 : Int32))]))) (p2 &&& (2147483647 : Int32)) fun v1 hv1 => ?_)
  show ORun p e below s _ _ _ s₁ (mkF m 5 #[.val (.long p1), .second, .val (.int p2), .unset, .unset, .unset, .unset, .unset, .unset] [(.int v1), (.int (1 : Int32))])
  have a1a : v1.toInt = p2.toInt % 2147483648 := by rw [hv1]; exact c_mask p2 (2147483647 : Int32) 31 (by decide) (by decide)
  have r1 := rng32 v1
  refine own_by (fun t k => XS.bipush X0.here hx rfl (hb hby at_5) k) ?_
  show ORun p e below s _ _ _ s₁ (mkF m 7 #[.val (.long p1), .second, .val (.int p2), .unset, .unset, .unset, .unset, .unset, .unset] [(.int (20 : Int32)), (.int v1), (.int (1 : Int32))])
  refine own_by (fun t k => iremM X0 hx rfl (hb hby at_7) rfl (by decide) k) (own_letI (f := (fun z => (mkF m 8 #[.val (.long p1), .second, .val (.int p2), .unset, .unset, .unset, .unset, .unset, .unset] [(.int z), (.int (1 : Int32))]))) (v1 % (20 : Int32)) fun v2 hv2 => ?_)
  show ORun p e below s _ _ _ s₁ (mkF m 8 #[.val (.long p1), .second, .val (.int p2), .unset, .unset, .unset, .unset, .unset, .unset] [(.int v2), (.int (1 : Int32))])
  have r2 := rng32 v2
  have a2 : v2.toInt = v1.toInt % 20 := by
    have q : (0 ≤ v1.toInt → v2.toInt = v1.toInt % 20) ∧ (v1.toInt < 0 → v2.toInt = -((-v1.toInt) % 20)) := by rw [hv2]; exact c_irem v1 (20 : Int32) 20 (by decide)
    omega
  refine own_by (fun t k => XS.iadd X0.here hx rfl (hb hby at_8) rfl k) (own_letI (f := (fun z => (mkF m 9 #[.val (.long p1), .second, .val (.int p2), .unset, .unset, .unset, .unset, .unset, .unset] [(.int z)]))) ((1 : Int32) + v2) fun v3 hv3 => ?_)
  show ORun p e below s _ _ _ s₁ (mkF m 9 #[.val (.long p1), .second, .val (.int p2), .unset, .unset, .unset, .unset, .unset, .unset] [(.int v3)])
  have r3 := rng32 v3
  have a3 : v3.toInt = 1 + v2.toInt := by
    have q : (v3.toInt - (1 + v2.toInt)) % 4294967296 = 0 := by rw [hv3]; exact c_iadd (1 : Int32) v2
    omega
  refine own_by (fun t k => XS.istoreN X0.here hx rfl (hb hby at_9) rfl (l' := #[.val (.long p1), .second, .val (.int p2), .val (.int v3), .unset, .unset, .unset, .unset, .unset]) rfl k) ?_
  show ORun p e below s _ _ _ s₁ (mkF m 10 #[.val (.long p1), .second, .val (.int p2), .val (.int v3), .unset, .unset, .unset, .unset, .unset] [])
  refine own_by (fun t k => XS.bipush X0.here hx rfl (hb hby at_10) k) ?_
  show ORun p e below s _ _ _ s₁ (mkF m 12 #[.val (.long p1), .second, .val (.int p2), .val (.int v3), .unset, .unset, .unset, .unset, .unset] [(.int (19 : Int32))])
  refine own_newJ X0 hx hZ (hw _ (List.mem_of_getElem? (i := 1) rfl)) e0 (N := 19) (cap := 19) (by decide) (Nat.le_refl _) (by decide) (by decide) (by decide) (hb hby at_12) ?_
  intro T4 h4 b4 L4 g4 X4 e4 E4 hL4 V4
  have len4 : L4.length = 19 := by rw [hL4]; exact List.length_replicate
  have old_b4 : n0 ≤ b4 := Nat.le_trans Z0 (Nat.le_of_eq g4.symm)
  have sz_b4 : h0.size ≤ b4 := Nat.le_trans (Nat.le_refl h0.size) (Nat.le_of_eq g4.symm)
  have ne_d1_b4 : d1 ≠ b4 := Nat.ne_of_lt (Nat.lt_of_lt_of_le V1.lt (Nat.le_of_eq g4.symm))
  have ne_d2_b4 : d2 ≠ b4 := Nat.ne_of_lt (Nat.lt_of_lt_of_le V2.lt (Nat.le_of_eq g4.symm))
  show ORun p e below s _ _ _ T4 (mkF m 14 #[.val (.long p1), .second, .val (.int p2), .val (.int v3), .unset, .unset, .unset, .unset, .unset] [(.ref b4)])
  refine own_by (fun t k => XS.dup X4.here hx rfl (hb hby at_14) rfl rfl k) ?_
  show ORun p e below s _ _ _ T4 (mkF m 15 #[.val (.long p1), .second, .val (.int p2), .val (.int v3), .unset, .unset, .unset, .unset, .unset] [(.ref b4), (.ref b4)])
  refine own_by (fun t k => XS.iconst X4.here hx rfl (hb hby at_15) k) ?_
  show ORun p e below s _ _ _ T4 (mkF m 16 #[.val (.long p1), .second, .val (.int p2), .val (.int v3), .unset, .unset, .unset, .unset, .unset] [(.int (0 : Int32)), (.ref b4), (.ref b4)])
  refine own_by (fun t k => XS.lconst X4.here hx rfl (hb hby at_16) k) ?_
  show ORun p e below s _ _ _ T4 (mkF m 17 #[.val (.long p1), .second, .val (.int p2), .val (.int v3), .unset, .unset, .unset, .unset, .unset] [(.long (1 : Int64)), (.int (0 : Int32)), (.ref b4), (.ref b4)])
  refine own_lastore X4 hx hZ e4 V4 (i := 0) (by decide) (by omega) (hb hby at_17) ?_
  intro T5 h5 L5 X5 e5 W5 hL5 V5
  have len5 : L5.length = 19 := by rw [hL5, List.length_set]; exact len4
  have N5 := Fr.snoc X5 N0 old_b4
  show ORun p e below s _ _ _ T5 (mkF m 18 #[.val (.long p1), .second, .val (.int p2), .val (.int v3), .unset, .unset, .unset, .unset, .unset] [(.ref b4)])
  refine own_by (fun t k => XS.dup X5.here hx rfl (hb hby at_18) rfl rfl k) ?_
  show ORun p e below s _ _ _ T5 (mkF m 19 #[.val (.long p1), .second, .val (.int p2), .val (.int v3), .unset, .unset, .unset, .unset, .unset] [(.ref b4), (.ref b4)])
  refine own_by (fun t k => XS.iconst X5.here hx rfl (hb hby at_19) k) ?_
  show ORun p e below s _ _ _ T5 (mkF m 20 #[.val (.long p1), .second, .val (.int p2), .val (.int v3), .unset, .unset, .unset, .unset, .unset] [(.int (1 : Int32)), (.ref b4), (.ref b4)])
  refine own_by (fun t k => X5.ldc2Long hx hown (mvT hZ (hw _ (List.mem_of_getElem? (i := 2) rfl))) (g := (mkF m 20 #[.val (.long p1), .second, .val (.int p2), .val (.int v3), .unset, .unset, .unset, .unset, .unset] [(.int (1 : Int32)), (.ref b4), (.ref b4)])) rfl (hb hby at_20) _ k) ?_
  show ORun p e below s _ _ _ T5 (mkF m 23 #[.val (.long p1), .second, .val (.int p2), .val (.int v3), .unset, .unset, .unset, .unset, .unset] [(.long (10 : Int64)), (.int (1 : Int32)), (.ref b4), (.ref b4)])
  refine own_lastore X5 hx hZ e5 V5 (i := 1) (by decide) (by omega) (hb hby at_23) ?_
  intro T6 h6 L6 X6 e6 W6 hL6 V6
  have len6 : L6.length = 19 := by rw [hL6, List.length_set]; exact len5
  have N6 := Fr.snoc X6 N5 old_b4
  show ORun p e below s _ _ _ T6 (mkF m 24 #[.val (.long p1), .second, .val (.int p2), .val (.int v3), .unset, .unset, .unset, .unset, .unset] [(.ref b4)])
  refine own_by (fun t k => XS.dup X6.here hx rfl (hb hby at_24) rfl rfl k) ?_
  show ORun p e below s _ _ _ T6 (mkF m 25 #[.val (.long p1), .second, .val (.int p2), .val (.int v3), .unset, .unset, .unset, .unset, .unset] [(.ref b4), (.ref b4)])
  refine own_by (fun t k => XS.iconst X6.here hx rfl (hb hby at_25) k) ?_
  show ORun p e below s _ _ _ T6 (mkF m 26 #[.val (.long p1), .second, .val (.int p2), .val (.int v3), .unset, .unset, .unset, .unset, .unset] [(.int (2 : Int32)), (.ref b4), (.ref b4)])
  refine own_by (fun t k => X6.ldc2Long hx hown (mvT hZ (hw _ (List.mem_of_getElem? (i := 3) rfl))) (g := (mkF m 26 #[.val (.long p1), .second, .val (.int p2), .val (.int v3), .unset, .unset, .unset, .unset, .unset] [(.int (2 : Int32)), (.ref b4), (.ref b4)])) rfl (hb hby at_26) _ k) ?_
  show ORun p e below s _ _ _ T6 (mkF m 29 #[.val (.long p1), .second, .val (.int p2), .val (.int v3), .unset, .unset, .unset, .unset, .unset] [(.long (100 : Int64)), (.int (2 : Int32)), (.ref b4), (.ref b4)])
  refine own_lastore X6 hx hZ e6 V6 (i := 2) (by decide) (by omega) (hb hby at_29) ?_
  intro T7 h7 L7 X7 e7 W7 hL7 V7
  have len7 : L7.length = 19 := by rw [hL7, List.length_set]; exact len6
  have N7 := Fr.snoc X7 N6 old_b4
  show ORun p e below s _ _ _ T7 (mkF m 30 #[.val (.long p1), .second, .val (.int p2), .val (.int v3), .unset, .unset, .unset, .unset, .unset] [(.ref b4)])
  refine own_by (fun t k => XS.dup X7.here hx rfl (hb hby at_30) rfl rfl k) ?_
  show ORun p e below s _ _ _ T7 (mkF m 31 #[.val (.long p1), .second, .val (.int p2), .val (.int v3), .unset, .unset, .unset, .unset, .unset] [(.ref b4), (.ref b4)])
  refine own_by (fun t k => XS.iconst X7.here hx rfl (hb hby at_31) k) ?_
  show ORun p e below s _ _ _ T7 (mkF m 32 #[.val (.long p1), .second, .val (.int p2), .val (.int v3), .unset, .unset, .unset, .unset, .unset] [(.int (3 : Int32)), (.ref b4), (.ref b4)])
  refine own_by (fun t k => X7.ldc2Long hx hown (mvT hZ (hw _ (List.mem_of_getElem? (i := 4) rfl))) (g := (mkF m 32 #[.val (.long p1), .second, .val (.int p2), .val (.int v3), .unset, .unset, .unset, .unset, .unset] [(.int (3 : Int32)), (.ref b4), (.ref b4)])) rfl (hb hby at_32) _ k) ?_
  show ORun p e below s _ _ _ T7 (mkF m 35 #[.val (.long p1), .second, .val (.int p2), .val (.int v3), .unset, .unset, .unset, .unset, .unset] [(.long (1000 : Int64)), (.int (3 : Int32)), (.ref b4), (.ref b4)])
  refine own_lastore X7 hx hZ e7 V7 (i := 3) (by decide) (by omega) (hb hby at_35) ?_
  intro T8 h8 L8 X8 e8 W8 hL8 V8
  have len8 : L8.length = 19 := by rw [hL8, List.length_set]; exact len7
  have N8 := Fr.snoc X8 N7 old_b4
  show ORun p e below s _ _ _ T8 (mkF m 36 #[.val (.long p1), .second, .val (.int p2), .val (.int v3), .unset, .unset, .unset, .unset, .unset] [(.ref b4)])
  refine own_by (fun t k => XS.dup X8.here hx rfl (hb hby at_36) rfl rfl k) ?_
  show ORun p e below s _ _ _ T8 (mkF m 37 #[.val (.long p1), .second, .val (.int p2), .val (.int v3), .unset, .unset, .unset, .unset, .unset] [(.ref b4), (.ref b4)])
  refine own_by (fun t k => XS.iconst X8.here hx rfl (hb hby at_37) k) ?_
  show ORun p e below s _ _ _ T8 (mkF m 38 #[.val (.long p1), .second, .val (.int p2), .val (.int v3), .unset, .unset, .unset, .unset, .unset] [(.int (4 : Int32)), (.ref b4), (.ref b4)])
  refine own_by (fun t k => X8.ldc2Long hx hown (mvT hZ (hw _ (List.mem_of_getElem? (i := 5) rfl))) (g := (mkF m 38 #[.val (.long p1), .second, .val (.int p2), .val (.int v3), .unset, .unset, .unset, .unset, .unset] [(.int (4 : Int32)), (.ref b4), (.ref b4)])) rfl (hb hby at_38) _ k) ?_
  show ORun p e below s _ _ _ T8 (mkF m 41 #[.val (.long p1), .second, .val (.int p2), .val (.int v3), .unset, .unset, .unset, .unset, .unset] [(.long (10000 : Int64)), (.int (4 : Int32)), (.ref b4), (.ref b4)])
  refine own_lastore X8 hx hZ e8 V8 (i := 4) (by decide) (by omega) (hb hby at_41) ?_
  intro T9 h9 L9 X9 e9 W9 hL9 V9
  have len9 : L9.length = 19 := by rw [hL9, List.length_set]; exact len8
  have N9 := Fr.snoc X9 N8 old_b4
  show ORun p e below s _ _ _ T9 (mkF m 42 #[.val (.long p1), .second, .val (.int p2), .val (.int v3), .unset, .unset, .unset, .unset, .unset] [(.ref b4)])
  refine own_by (fun t k => XS.dup X9.here hx rfl (hb hby at_42) rfl rfl k) ?_
  show ORun p e below s _ _ _ T9 (mkF m 43 #[.val (.long p1), .second, .val (.int p2), .val (.int v3), .unset, .unset, .unset, .unset, .unset] [(.ref b4), (.ref b4)])
  refine own_by (fun t k => XS.iconst X9.here hx rfl (hb hby at_43) k) ?_
  show ORun p e below s _ _ _ T9 (mkF m 44 #[.val (.long p1), .second, .val (.int p2), .val (.int v3), .unset, .unset, .unset, .unset, .unset] [(.int (5 : Int32)), (.ref b4), (.ref b4)])
  refine own_by (fun t k => X9.ldc2Long hx hown (mvT hZ (hw _ (List.mem_of_getElem? (i := 6) rfl))) (g := (mkF m 44 #[.val (.long p1), .second, .val (.int p2), .val (.int v3), .unset, .unset, .unset, .unset, .unset] [(.int (5 : Int32)), (.ref b4), (.ref b4)])) rfl (hb hby at_44) _ k) ?_
  show ORun p e below s _ _ _ T9 (mkF m 47 #[.val (.long p1), .second, .val (.int p2), .val (.int v3), .unset, .unset, .unset, .unset, .unset] [(.long (100000 : Int64)), (.int (5 : Int32)), (.ref b4), (.ref b4)])
  refine own_lastore X9 hx hZ e9 V9 (i := 5) (by decide) (by omega) (hb hby at_47) ?_
  intro T10 h10 L10 X10 e10 W10 hL10 V10
  have len10 : L10.length = 19 := by rw [hL10, List.length_set]; exact len9
  have N10 := Fr.snoc X10 N9 old_b4
  show ORun p e below s _ _ _ T10 (mkF m 48 #[.val (.long p1), .second, .val (.int p2), .val (.int v3), .unset, .unset, .unset, .unset, .unset] [(.ref b4)])
  refine own_by (fun t k => XS.dup X10.here hx rfl (hb hby at_48) rfl rfl k) ?_
  show ORun p e below s _ _ _ T10 (mkF m 49 #[.val (.long p1), .second, .val (.int p2), .val (.int v3), .unset, .unset, .unset, .unset, .unset] [(.ref b4), (.ref b4)])
  refine own_by (fun t k => XS.bipush X10.here hx rfl (hb hby at_49) k) ?_
  show ORun p e below s _ _ _ T10 (mkF m 51 #[.val (.long p1), .second, .val (.int p2), .val (.int v3), .unset, .unset, .unset, .unset, .unset] [(.int (6 : Int32)), (.ref b4), (.ref b4)])
  refine own_by (fun t k => X10.ldc2Long hx hown (mvT hZ (hw _ (List.mem_of_getElem? (i := 7) rfl))) (g := (mkF m 51 #[.val (.long p1), .second, .val (.int p2), .val (.int v3), .unset, .unset, .unset, .unset, .unset] [(.int (6 : Int32)), (.ref b4), (.ref b4)])) rfl (hb hby at_51) _ k) ?_
  show ORun p e below s _ _ _ T10 (mkF m 54 #[.val (.long p1), .second, .val (.int p2), .val (.int v3), .unset, .unset, .unset, .unset, .unset] [(.long (1000000 : Int64)), (.int (6 : Int32)), (.ref b4), (.ref b4)])
  refine own_lastore X10 hx hZ e10 V10 (i := 6) (by decide) (by omega) (hb hby at_54) ?_
  intro T11 h11 L11 X11 e11 W11 hL11 V11
  have len11 : L11.length = 19 := by rw [hL11, List.length_set]; exact len10
  have N11 := Fr.snoc X11 N10 old_b4
  show ORun p e below s _ _ _ T11 (mkF m 55 #[.val (.long p1), .second, .val (.int p2), .val (.int v3), .unset, .unset, .unset, .unset, .unset] [(.ref b4)])
  refine own_by (fun t k => XS.dup X11.here hx rfl (hb hby at_55) rfl rfl k) ?_
  show ORun p e below s _ _ _ T11 (mkF m 56 #[.val (.long p1), .second, .val (.int p2), .val (.int v3), .unset, .unset, .unset, .unset, .unset] [(.ref b4), (.ref b4)])
  refine own_by (fun t k => XS.bipush X11.here hx rfl (hb hby at_56) k) ?_
  show ORun p e below s _ _ _ T11 (mkF m 58 #[.val (.long p1), .second, .val (.int p2), .val (.int v3), .unset, .unset, .unset, .unset, .unset] [(.int (7 : Int32)), (.ref b4), (.ref b4)])
  refine own_by (fun t k => X11.ldc2Long hx hown (mvT hZ (hw _ (List.mem_of_getElem? (i := 8) rfl))) (g := (mkF m 58 #[.val (.long p1), .second, .val (.int p2), .val (.int v3), .unset, .unset, .unset, .unset, .unset] [(.int (7 : Int32)), (.ref b4), (.ref b4)])) rfl (hb hby at_58) _ k) ?_
  show ORun p e below s _ _ _ T11 (mkF m 61 #[.val (.long p1), .second, .val (.int p2), .val (.int v3), .unset, .unset, .unset, .unset, .unset] [(.long (10000000 : Int64)), (.int (7 : Int32)), (.ref b4), (.ref b4)])
  refine own_lastore X11 hx hZ e11 V11 (i := 7) (by decide) (by omega) (hb hby at_61) ?_
  intro T12 h12 L12 X12 e12 W12 hL12 V12
  have len12 : L12.length = 19 := by rw [hL12, List.length_set]; exact len11
  have N12 := Fr.snoc X12 N11 old_b4
  show ORun p e below s _ _ _ T12 (mkF m 62 #[.val (.long p1), .second, .val (.int p2), .val (.int v3), .unset, .unset, .unset, .unset, .unset] [(.ref b4)])
  refine own_by (fun t k => XS.dup X12.here hx rfl (hb hby at_62) rfl rfl k) ?_
  show ORun p e below s _ _ _ T12 (mkF m 63 #[.val (.long p1), .second, .val (.int p2), .val (.int v3), .unset, .unset, .unset, .unset, .unset] [(.ref b4), (.ref b4)])
  refine own_by (fun t k => XS.bipush X12.here hx rfl (hb hby at_63) k) ?_
  show ORun p e below s _ _ _ T12 (mkF m 65 #[.val (.long p1), .second, .val (.int p2), .val (.int v3), .unset, .unset, .unset, .unset, .unset] [(.int (8 : Int32)), (.ref b4), (.ref b4)])
  refine own_by (fun t k => X12.ldc2Long hx hown (mvT hZ (hw _ (List.mem_of_getElem? (i := 9) rfl))) (g := (mkF m 65 #[.val (.long p1), .second, .val (.int p2), .val (.int v3), .unset, .unset, .unset, .unset, .unset] [(.int (8 : Int32)), (.ref b4), (.ref b4)])) rfl (hb hby at_65) _ k) ?_
  show ORun p e below s _ _ _ T12 (mkF m 68 #[.val (.long p1), .second, .val (.int p2), .val (.int v3), .unset, .unset, .unset, .unset, .unset] [(.long (100000000 : Int64)), (.int (8 : Int32)), (.ref b4), (.ref b4)])
  refine own_lastore X12 hx hZ e12 V12 (i := 8) (by decide) (by omega) (hb hby at_68) ?_
  intro T13 h13 L13 X13 e13 W13 hL13 V13
  have len13 : L13.length = 19 := by rw [hL13, List.length_set]; exact len12
  have N13 := Fr.snoc X13 N12 old_b4
  show ORun p e below s _ _ _ T13 (mkF m 69 #[.val (.long p1), .second, .val (.int p2), .val (.int v3), .unset, .unset, .unset, .unset, .unset] [(.ref b4)])
  refine own_by (fun t k => XS.dup X13.here hx rfl (hb hby at_69) rfl rfl k) ?_
  show ORun p e below s _ _ _ T13 (mkF m 70 #[.val (.long p1), .second, .val (.int p2), .val (.int v3), .unset, .unset, .unset, .unset, .unset] [(.ref b4), (.ref b4)])
  refine own_by (fun t k => XS.bipush X13.here hx rfl (hb hby at_70) k) ?_
  show ORun p e below s _ _ _ T13 (mkF m 72 #[.val (.long p1), .second, .val (.int p2), .val (.int v3), .unset, .unset, .unset, .unset, .unset] [(.int (9 : Int32)), (.ref b4), (.ref b4)])
  refine own_by (fun t k => X13.ldc2Long hx hown (mvT hZ (hw _ (List.mem_of_getElem? (i := 10) rfl))) (g := (mkF m 72 #[.val (.long p1), .second, .val (.int p2), .val (.int v3), .unset, .unset, .unset, .unset, .unset] [(.int (9 : Int32)), (.ref b4), (.ref b4)])) rfl (hb hby at_72) _ k) ?_
  show ORun p e below s _ _ _ T13 (mkF m 75 #[.val (.long p1), .second, .val (.int p2), .val (.int v3), .unset, .unset, .unset, .unset, .unset] [(.long (1000000000 : Int64)), (.int (9 : Int32)), (.ref b4), (.ref b4)])
  refine own_lastore X13 hx hZ e13 V13 (i := 9) (by decide) (by omega) (hb hby at_75) ?_
  intro T14 h14 L14 X14 e14 W14 hL14 V14
  have len14 : L14.length = 19 := by rw [hL14, List.length_set]; exact len13
  have N14 := Fr.snoc X14 N13 old_b4
  show ORun p e below s _ _ _ T14 (mkF m 76 #[.val (.long p1), .second, .val (.int p2), .val (.int v3), .unset, .unset, .unset, .unset, .unset] [(.ref b4)])
  refine own_by (fun t k => XS.dup X14.here hx rfl (hb hby at_76) rfl rfl k) ?_
  show ORun p e below s _ _ _ T14 (mkF m 77 #[.val (.long p1), .second, .val (.int p2), .val (.int v3), .unset, .unset, .unset, .unset, .unset] [(.ref b4), (.ref b4)])
  refine own_by (fun t k => XS.bipush X14.here hx rfl (hb hby at_77) k) ?_
  show ORun p e below s _ _ _ T14 (mkF m 79 #[.val (.long p1), .second, .val (.int p2), .val (.int v3), .unset, .unset, .unset, .unset, .unset] [(.int (10 : Int32)), (.ref b4), (.ref b4)])
  refine own_by (fun t k => X14.ldc2Long hx hown (mvT hZ (hw _ (List.mem_of_getElem? (i := 11) rfl))) (g := (mkF m 79 #[.val (.long p1), .second, .val (.int p2), .val (.int v3), .unset, .unset, .unset, .unset, .unset] [(.int (10 : Int32)), (.ref b4), (.ref b4)])) rfl (hb hby at_79) _ k) ?_
  show ORun p e below s _ _ _ T14 (mkF m 82 #[.val (.long p1), .second, .val (.int p2), .val (.int v3), .unset, .unset, .unset, .unset, .unset] [(.long (10000000000 : Int64)), (.int (10 : Int32)), (.ref b4), (.ref b4)])
  refine own_lastore X14 hx hZ e14 V14 (i := 10) (by decide) (by omega) (hb hby at_82) ?_
  intro T15 h15 L15 X15 e15 W15 hL15 V15
  have len15 : L15.length = 19 := by rw [hL15, List.length_set]; exact len14
  have N15 := Fr.snoc X15 N14 old_b4
  show ORun p e below s _ _ _ T15 (mkF m 83 #[.val (.long p1), .second, .val (.int p2), .val (.int v3), .unset, .unset, .unset, .unset, .unset] [(.ref b4)])
  refine own_by (fun t k => XS.dup X15.here hx rfl (hb hby at_83) rfl rfl k) ?_
  show ORun p e below s _ _ _ T15 (mkF m 84 #[.val (.long p1), .second, .val (.int p2), .val (.int v3), .unset, .unset, .unset, .unset, .unset] [(.ref b4), (.ref b4)])
  refine own_by (fun t k => XS.bipush X15.here hx rfl (hb hby at_84) k) ?_
  show ORun p e below s _ _ _ T15 (mkF m 86 #[.val (.long p1), .second, .val (.int p2), .val (.int v3), .unset, .unset, .unset, .unset, .unset] [(.int (11 : Int32)), (.ref b4), (.ref b4)])
  refine own_by (fun t k => X15.ldc2Long hx hown (mvT hZ (hw _ (List.mem_of_getElem? (i := 12) rfl))) (g := (mkF m 86 #[.val (.long p1), .second, .val (.int p2), .val (.int v3), .unset, .unset, .unset, .unset, .unset] [(.int (11 : Int32)), (.ref b4), (.ref b4)])) rfl (hb hby at_86) _ k) ?_
  show ORun p e below s _ _ _ T15 (mkF m 89 #[.val (.long p1), .second, .val (.int p2), .val (.int v3), .unset, .unset, .unset, .unset, .unset] [(.long (100000000000 : Int64)), (.int (11 : Int32)), (.ref b4), (.ref b4)])
  refine own_lastore X15 hx hZ e15 V15 (i := 11) (by decide) (by omega) (hb hby at_89) ?_
  intro T16 h16 L16 X16 e16 W16 hL16 V16
  have len16 : L16.length = 19 := by rw [hL16, List.length_set]; exact len15
  have N16 := Fr.snoc X16 N15 old_b4
  show ORun p e below s _ _ _ T16 (mkF m 90 #[.val (.long p1), .second, .val (.int p2), .val (.int v3), .unset, .unset, .unset, .unset, .unset] [(.ref b4)])
  refine own_by (fun t k => XS.dup X16.here hx rfl (hb hby at_90) rfl rfl k) ?_
  show ORun p e below s _ _ _ T16 (mkF m 91 #[.val (.long p1), .second, .val (.int p2), .val (.int v3), .unset, .unset, .unset, .unset, .unset] [(.ref b4), (.ref b4)])
  refine own_by (fun t k => XS.bipush X16.here hx rfl (hb hby at_91) k) ?_
  show ORun p e below s _ _ _ T16 (mkF m 93 #[.val (.long p1), .second, .val (.int p2), .val (.int v3), .unset, .unset, .unset, .unset, .unset] [(.int (12 : Int32)), (.ref b4), (.ref b4)])
  refine own_by (fun t k => X16.ldc2Long hx hown (mvT hZ (hw _ (List.mem_of_getElem? (i := 13) rfl))) (g := (mkF m 93 #[.val (.long p1), .second, .val (.int p2), .val (.int v3), .unset, .unset, .unset, .unset, .unset] [(.int (12 : Int32)), (.ref b4), (.ref b4)])) rfl (hb hby at_93) _ k) ?_
  show ORun p e below s _ _ _ T16 (mkF m 96 #[.val (.long p1), .second, .val (.int p2), .val (.int v3), .unset, .unset, .unset, .unset, .unset] [(.long (1000000000000 : Int64)), (.int (12 : Int32)), (.ref b4), (.ref b4)])
  refine own_lastore X16 hx hZ e16 V16 (i := 12) (by decide) (by omega) (hb hby at_96) ?_
  intro T17 h17 L17 X17 e17 W17 hL17 V17
  have len17 : L17.length = 19 := by rw [hL17, List.length_set]; exact len16
  have N17 := Fr.snoc X17 N16 old_b4
  show ORun p e below s _ _ _ T17 (mkF m 97 #[.val (.long p1), .second, .val (.int p2), .val (.int v3), .unset, .unset, .unset, .unset, .unset] [(.ref b4)])
  refine own_by (fun t k => XS.dup X17.here hx rfl (hb hby at_97) rfl rfl k) ?_
  show ORun p e below s _ _ _ T17 (mkF m 98 #[.val (.long p1), .second, .val (.int p2), .val (.int v3), .unset, .unset, .unset, .unset, .unset] [(.ref b4), (.ref b4)])
  refine own_by (fun t k => XS.bipush X17.here hx rfl (hb hby at_98) k) ?_
  show ORun p e below s _ _ _ T17 (mkF m 100 #[.val (.long p1), .second, .val (.int p2), .val (.int v3), .unset, .unset, .unset, .unset, .unset] [(.int (13 : Int32)), (.ref b4), (.ref b4)])
  refine own_by (fun t k => X17.ldc2Long hx hown (mvT hZ (hw _ (List.mem_of_getElem? (i := 14) rfl))) (g := (mkF m 100 #[.val (.long p1), .second, .val (.int p2), .val (.int v3), .unset, .unset, .unset, .unset, .unset] [(.int (13 : Int32)), (.ref b4), (.ref b4)])) rfl (hb hby at_100) _ k) ?_
  show ORun p e below s _ _ _ T17 (mkF m 103 #[.val (.long p1), .second, .val (.int p2), .val (.int v3), .unset, .unset, .unset, .unset, .unset] [(.long (10000000000000 : Int64)), (.int (13 : Int32)), (.ref b4), (.ref b4)])
  refine own_lastore X17 hx hZ e17 V17 (i := 13) (by decide) (by omega) (hb hby at_103) ?_
  intro T18 h18 L18 X18 e18 W18 hL18 V18
  have len18 : L18.length = 19 := by rw [hL18, List.length_set]; exact len17
  have N18 := Fr.snoc X18 N17 old_b4
  show ORun p e below s _ _ _ T18 (mkF m 104 #[.val (.long p1), .second, .val (.int p2), .val (.int v3), .unset, .unset, .unset, .unset, .unset] [(.ref b4)])
  refine own_by (fun t k => XS.dup X18.here hx rfl (hb hby at_104) rfl rfl k) ?_
  show ORun p e below s _ _ _ T18 (mkF m 105 #[.val (.long p1), .second, .val (.int p2), .val (.int v3), .unset, .unset, .unset, .unset, .unset] [(.ref b4), (.ref b4)])
  refine own_by (fun t k => XS.bipush X18.here hx rfl (hb hby at_105) k) ?_
  show ORun p e below s _ _ _ T18 (mkF m 107 #[.val (.long p1), .second, .val (.int p2), .val (.int v3), .unset, .unset, .unset, .unset, .unset] [(.int (14 : Int32)), (.ref b4), (.ref b4)])
  refine own_by (fun t k => X18.ldc2Long hx hown (mvT hZ (hw _ (List.mem_of_getElem? (i := 15) rfl))) (g := (mkF m 107 #[.val (.long p1), .second, .val (.int p2), .val (.int v3), .unset, .unset, .unset, .unset, .unset] [(.int (14 : Int32)), (.ref b4), (.ref b4)])) rfl (hb hby at_107) _ k) ?_
  show ORun p e below s _ _ _ T18 (mkF m 110 #[.val (.long p1), .second, .val (.int p2), .val (.int v3), .unset, .unset, .unset, .unset, .unset] [(.long (100000000000000 : Int64)), (.int (14 : Int32)), (.ref b4), (.ref b4)])
  refine own_lastore X18 hx hZ e18 V18 (i := 14) (by decide) (by omega) (hb hby at_110) ?_
  intro T19 h19 L19 X19 e19 W19 hL19 V19
  have len19 : L19.length = 19 := by rw [hL19, List.length_set]; exact len18
  have N19 := Fr.snoc X19 N18 old_b4
  show ORun p e below s _ _ _ T19 (mkF m 111 #[.val (.long p1), .second, .val (.int p2), .val (.int v3), .unset, .unset, .unset, .unset, .unset] [(.ref b4)])
  refine own_by (fun t k => XS.dup X19.here hx rfl (hb hby at_111) rfl rfl k) ?_
  show ORun p e below s _ _ _ T19 (mkF m 112 #[.val (.long p1), .second, .val (.int p2), .val (.int v3), .unset, .unset, .unset, .unset, .unset] [(.ref b4), (.ref b4)])
  refine own_by (fun t k => XS.bipush X19.here hx rfl (hb hby at_112) k) ?_
  show ORun p e below s _ _ _ T19 (mkF m 114 #[.val (.long p1), .second, .val (.int p2), .val (.int v3), .unset, .unset, .unset, .unset, .unset] [(.int (15 : Int32)), (.ref b4), (.ref b4)])
  refine own_by (fun t k => X19.ldc2Long hx hown (mvT hZ (hw _ (List.mem_of_getElem? (i := 16) rfl))) (g := (mkF m 114 #[.val (.long p1), .second, .val (.int p2), .val (.int v3), .unset, .unset, .unset, .unset, .unset] [(.int (15 : Int32)), (.ref b4), (.ref b4)])) rfl (hb hby at_114) _ k) ?_
  show ORun p e below s _ _ _ T19 (mkF m 117 #[.val (.long p1), .second, .val (.int p2), .val (.int v3), .unset, .unset, .unset, .unset, .unset] [(.long (1000000000000000 : Int64)), (.int (15 : Int32)), (.ref b4), (.ref b4)])
  refine own_lastore X19 hx hZ e19 V19 (i := 15) (by decide) (by omega) (hb hby at_117) ?_
  intro T20 h20 L20 X20 e20 W20 hL20 V20
  have len20 : L20.length = 19 := by rw [hL20, List.length_set]; exact len19
  have N20 := Fr.snoc X20 N19 old_b4
  show ORun p e below s _ _ _ T20 (mkF m 118 #[.val (.long p1), .second, .val (.int p2), .val (.int v3), .unset, .unset, .unset, .unset, .unset] [(.ref b4)])
  refine own_by (fun t k => XS.dup X20.here hx rfl (hb hby at_118) rfl rfl k) ?_
  show ORun p e below s _ _ _ T20 (mkF m 119 #[.val (.long p1), .second, .val (.int p2), .val (.int v3), .unset, .unset, .unset, .unset, .unset] [(.ref b4), (.ref b4)])
  refine own_by (fun t k => XS.bipush X20.here hx rfl (hb hby at_119) k) ?_
  show ORun p e below s _ _ _ T20 (mkF m 121 #[.val (.long p1), .second, .val (.int p2), .val (.int v3), .unset, .unset, .unset, .unset, .unset] [(.int (16 : Int32)), (.ref b4), (.ref b4)])
  refine own_by (fun t k => X20.ldc2Long hx hown (mvT hZ (hw _ (List.mem_of_getElem? (i := 17) rfl))) (g := (mkF m 121 #[.val (.long p1), .second, .val (.int p2), .val (.int v3), .unset, .unset, .unset, .unset, .unset] [(.int (16 : Int32)), (.ref b4), (.ref b4)])) rfl (hb hby at_121) _ k) ?_
  show ORun p e below s _ _ _ T20 (mkF m 124 #[.val (.long p1), .second, .val (.int p2), .val (.int v3), .unset, .unset, .unset, .unset, .unset] [(.long (10000000000000000 : Int64)), (.int (16 : Int32)), (.ref b4), (.ref b4)])
  refine own_lastore X20 hx hZ e20 V20 (i := 16) (by decide) (by omega) (hb hby at_124) ?_
  intro T21 h21 L21 X21 e21 W21 hL21 V21
  have len21 : L21.length = 19 := by rw [hL21, List.length_set]; exact len20
  have N21 := Fr.snoc X21 N20 old_b4
  show ORun p e below s _ _ _ T21 (mkF m 125 #[.val (.long p1), .second, .val (.int p2), .val (.int v3), .unset, .unset, .unset, .unset, .unset] [(.ref b4)])
  refine own_by (fun t k => XS.dup X21.here hx rfl (hb hby at_125) rfl rfl k) ?_
  show ORun p e below s _ _ _ T21 (mkF m 126 #[.val (.long p1), .second, .val (.int p2), .val (.int v3), .unset, .unset, .unset, .unset, .unset] [(.ref b4), (.ref b4)])
  refine own_by (fun t k => XS.bipush X21.here hx rfl (hb hby at_126) k) ?_
  show ORun p e below s _ _ _ T21 (mkF m 128 #[.val (.long p1), .second, .val (.int p2), .val (.int v3), .unset, .unset, .unset, .unset, .unset] [(.int (17 : Int32)), (.ref b4), (.ref b4)])
  refine own_by (fun t k => X21.ldc2Long hx hown (mvT hZ (hw _ (List.mem_of_getElem? (i := 18) rfl))) (g := (mkF m 128 #[.val (.long p1), .second, .val (.int p2), .val (.int v3), .unset, .unset, .unset, .unset, .unset] [(.int (17 : Int32)), (.ref b4), (.ref b4)])) rfl (hb hby at_128) _ k) ?_
  show ORun p e below s _ _ _ T21 (mkF m 131 #[.val (.long p1), .second, .val (.int p2), .val (.int v3), .unset, .unset, .unset, .unset, .unset] [(.long (100000000000000000 : Int64)), (.int (17 : Int32)), (.ref b4), (.ref b4)])
  refine own_lastore X21 hx hZ e21 V21 (i := 17) (by decide) (by omega) (hb hby at_131) ?_
  intro T22 h22 L22 X22 e22 W22 hL22 V22
  have len22 : L22.length = 19 := by rw [hL22, List.length_set]; exact len21
  have N22 := Fr.snoc X22 N21 old_b4
  show ORun p e below s _ _ _ T22 (mkF m 132 #[.val (.long p1), .second, .val (.int p2), .val (.int v3), .unset, .unset, .unset, .unset, .unset] [(.ref b4)])
  refine own_by (fun t k => XS.dup X22.here hx rfl (hb hby at_132) rfl rfl k) ?_
  show ORun p e below s _ _ _ T22 (mkF m 133 #[.val (.long p1), .second, .val (.int p2), .val (.int v3), .unset, .unset, .unset, .unset, .unset] [(.ref b4), (.ref b4)])
  refine own_by (fun t k => XS.bipush X22.here hx rfl (hb hby at_133) k) ?_
  show ORun p e below s _ _ _ T22 (mkF m 135 #[.val (.long p1), .second, .val (.int p2), .val (.int v3), .unset, .unset, .unset, .unset, .unset] [(.int (18 : Int32)), (.ref b4), (.ref b4)])
  refine own_by (fun t k => X22.ldc2Long hx hown (mvT hZ (hw _ (List.mem_of_getElem? (i := 19) rfl))) (g := (mkF m 135 #[.val (.long p1), .second, .val (.int p2), .val (.int v3), .unset, .unset, .unset, .unset, .unset] [(.int (18 : Int32)), (.ref b4), (.ref b4)])) rfl (hb hby at_135) _ k) ?_
  show ORun p e below s _ _ _ T22 (mkF m 138 #[.val (.long p1), .second, .val (.int p2), .val (.int v3), .unset, .unset, .unset, .unset, .unset] [(.long (1000000000000000000 : Int64)), (.int (18 : Int32)), (.ref b4), (.ref b4)])
  refine own_lastore X22 hx hZ e22 V22 (i := 18) (by decide) (by omega) (hb hby at_138) ?_
  intro T23 h23 L23 X23 e23 W23 hL23 V23
  have len23 : L23.length = 19 := by rw [hL23, List.length_set]; exact len22
  have N23 := Fr.snoc X23 N22 old_b4
  show ORun p e below s _ _ _ T23 (mkF m 139 #[.val (.long p1), .second, .val (.int p2), .val (.int v3), .unset, .unset, .unset, .unset, .unset] [(.ref b4)])
  have ten24 : L23 = ([1, 10, 100, 1000, 10000, 100000, 1000000, 10000000, 100000000, 1000000000, 10000000000, 100000000000, 1000000000000, 10000000000000, 100000000000000, 1000000000000000, 10000000000000000, 100000000000000000, 1000000000000000000] : List Int64) := by rw [hL23, hL22, hL21, hL20, hL19, hL18, hL17, hL16, hL15, hL14, hL13, hL12, hL11, hL10, hL9, hL8, hL7, hL6, hL5, hL4]; rfl
  refine own_by (fun t k => XS.astore X23.here hx rfl (hb hby at_139) rfl rfl (l' := #[.val (.long p1), .second, .val (.int p2), .val (.int v3), .val (.ref b4), .unset, .unset, .unset, .unset]) rfl k) ?_
  show ORun p e below s _ _ _ T23 (mkF m 141 #[.val (.long p1), .second, .val (.int p2), .val (.int v3), .val (.ref b4), .unset, .unset, .unset, .unset] [])
  refine own_by (fun t k => XS.lloadN X23.here hx rfl (hb hby at_141) rfl k) ?_
  show ORun p e below s _ _ _ T23 (mkF m 142 #[.val (.long p1), .second, .val (.int p2), .val (.int v3), .val (.ref b4), .unset, .unset, .unset, .unset] [(.long p1)])
  refine own_by (fun t k => X23.ldc2Long hx hown (mvT hZ (hw _ (List.mem_of_getElem? (i := 20) rfl))) (g := (mkF m 142 #[.val (.long p1), .second, .val (.int p2), .val (.int v3), .val (.ref b4), .unset, .unset, .unset, .unset] [(.long p1)])) rfl (hb hby at_142) _ k) ?_
  show ORun p e below s _ _ _ T23 (mkF m 145 #[.val (.long p1), .second, .val (.int p2), .val (.int v3), .val (.ref b4), .unset, .unset, .unset, .unset] [(.long (9223372036854775807 : Int64)), (.long p1)])
  refine own_by (fun t k => XS.land X23.here hx rfl (hb hby at_145) rfl k) (own_letJ (f := (fun z => (mkF m 146 #[.val (.long p1), .second, .val (.int p2), .val (.int v3), .val (.ref b4), .unset, .unset, .unset, .unset] [(.long z)]))) (p1 &&& (9223372036854775807 : Int64)) fun v25 hv25 => ?_)
  show ORun p e below s _ _ _ T23 (mkF m 146 #[.val (.long p1), .second, .val (.int p2), .val (.int v3), .val (.ref b4), .unset, .unset, .unset, .unset] [(.long v25)])
  have a25a : v25.toInt = p1.toInt % 9223372036854775808 := by rw [hv25]; exact c_maskL p1 (9223372036854775807 : Int64) 63 (by decide) (by decide)
  have r25 := rng64 v25
  refine own_by (fun t k => XS.lstore X23.here hx rfl (hb hby at_146) rfl (l' := #[.val (.long p1), .second, .val (.int p2), .val (.int v3), .val (.ref b4), .val (.long v25), .second, .unset, .unset]) rfl k) ?_
  show ORun p e below s _ _ _ T23 (mkF m 148 #[.val (.long p1), .second, .val (.int p2), .val (.int v3), .val (.ref b4), .val (.long v25), .second, .unset, .unset] [])
  refine own_by (fun t k => XS.iloadN X23.here hx rfl (hb hby at_148) rfl k) ?_
  show ORun p e below s _ _ _ T23 (mkF m 149 #[.val (.long p1), .second, .val (.int p2), .val (.int v3), .val (.ref b4), .val (.long v25), .second, .unset, .unset] [(.int v3)])
  refine own_by (fun t k => XS.bipush X23.here hx rfl (hb hby at_149) k) ?_
  show ORun p e below s _ _ _ T23 (mkF m 151 #[.val (.long p1), .second, .val (.int p2), .val (.int v3), .val (.ref b4), .val (.long v25), .second, .unset, .unset] [(.int (19 : Int32)), (.int v3)])
  by_cases hc26 : v3 < (19 : Int32)
  · have t26 := own_lt hc26 (a := v3.toInt) (b := 19) rfl (by decide)
    refine own_by (fun t k => XS.icmpNo X23.here hx rfl (hb hby at_151) rfl (tlt hc26).2.1 k) ?_
    show ORun p e below s _ _ _ T23 (mkF m 154 #[.val (.long p1), .second, .val (.int p2), .val (.int v3), .val (.ref b4), .val (.long v25), .second, .unset, .unset] [])
    refine own_by (fun t k => XS.lload X23.here hx rfl (hb hby at_154) rfl k) ?_
    show ORun p e below s _ _ _ T23 (mkF m 156 #[.val (.long p1), .second, .val (.int p2), .val (.int v3), .val (.ref b4), .val (.long v25), .second, .unset, .unset] [(.long v25)])
    refine own_by (fun t k => XS.aload X23.here hx rfl (hb hby at_156) rfl rfl k) ?_
    show ORun p e below s _ _ _ T23 (mkF m 158 #[.val (.long p1), .second, .val (.int p2), .val (.int v3), .val (.ref b4), .val (.long v25), .second, .unset, .unset] [(.ref b4), (.long v25)])
    refine own_by (fun t k => XS.iloadN X23.here hx rfl (hb hby at_158) rfl k) ?_
    show ORun p e below s _ _ _ T23 (mkF m 159 #[.val (.long p1), .second, .val (.int p2), .val (.int v3), .val (.ref b4), .val (.long v25), .second, .unset, .unset] [(.int v3), (.ref b4), (.long v25)])
    refine own_laload X23 hx hZ e23 V23 (i := v3.toInt.toNat) (by omega) (by omega) (hb hby at_159) ?_
    intro v27 hv27
    have r27 := rng64 v27
    show ORun p e below s _ _ _ T23 (mkF m 160 #[.val (.long p1), .second, .val (.int p2), .val (.int v3), .val (.ref b4), .val (.long v25), .second, .unset, .unset] [(.long v27), (.long v25)])
    obtain ⟨ex28, hex28⟩ : ∃ i : Nat, i = v3.toInt.toNat := ⟨_, rfl⟩
    have ty28 : v27.toInt = ((10 ^ ex28 : Nat) : Int) := by rw [hv27, ten24, ← hex28]; exact own_ten ⟨ex28, by omega⟩
    have tp28 : 0 < 10 ^ ex28 := Nat.pow_pos (by decide)
    have nz28 : v27 ≠ 0 := fun q => by rw [q] at ty28; have z : (0 : Int64).toInt = 0 := rfl; omega
    refine own_by (fun t k => XS.lrem X23.here hx rfl (hb hby at_160) rfl nz28 k) (own_letJ (f := (fun z => (mkF m 161 #[.val (.long p1), .second, .val (.int p2), .val (.int v3), .val (.ref b4), .val (.long v25), .second, .unset, .unset] [(.long z)]))) (v25 - (v25 / v27) * v27) fun v29 hv29 => ?_)
    show ORun p e below s _ _ _ T23 (mkF m 161 #[.val (.long p1), .second, .val (.int p2), .val (.int v3), .val (.ref b4), .val (.long v25), .second, .unset, .unset] [(.long v29)])
    have md30 := (c_lrem v25 v27 _ ty28).1 (by omega)
    rw [← hv29] at md30
    have mp30 := Int.emod_nonneg v25.toInt (show ((10 ^ ex28 : Nat) : Int) ≠ 0 by omega)
    obtain ⟨wn30, hwn30⟩ : ∃ i : Nat, i = v29.toInt.toNat := ⟨_, rfl⟩
    have fit30 : wn30 < 10 ^ ex28 := own_emod tp28 (by rw [← md30]; omega)
    refine own_by (fun t k => XS.lstore X23.here hx rfl (hb hby at_161) rfl (l' := #[.val (.long p1), .second, .val (.int p2), .val (.int v3), .val (.ref b4), .val (.long v29), .second, .unset, .unset]) rfl k) ?_
    show ORun p e below s _ _ _ T23 (mkF m 163 #[.val (.long p1), .second, .val (.int p2), .val (.int v3), .val (.ref b4), .val (.long v29), .second, .unset, .unset] [])
    refine own_by (fun t k => XS.bipush X23.here hx rfl (hb hby at_163) k) ?_
    show ORun p e below s _ _ _ T23 (mkF m 165 #[.val (.long p1), .second, .val (.int p2), .val (.int v3), .val (.ref b4), .val (.long v29), .second, .unset, .unset] [(.int (21 : Int32))])
    refine own_newarray X23 hx hZ (aty := .byte) (hw _ (List.mem_of_getElem? (i := 21) rfl)) e23 rfl (N := 21) (cap := 21) (by decide) (Nat.le_refl _) (by decide) (by decide) (by decide) (ad := "[B") (by decide) (hb hby at_165) ?_
    intro T31 h31 b31 L31 g31 X31 e31 E31 hL31 V31 Ex31
    have len31 : L31.length = 21 := by rw [hL31]; exact List.length_replicate
    have old_b31 : n0 ≤ b31 := Nat.le_trans (Nat.le_trans (Nat.le_trans (Nat.le_trans (Nat.le_trans (Nat.le_trans (Nat.le_trans (Nat.le_trans (Nat.le_trans (Nat.le_trans (Nat.le_trans (Nat.le_trans (Nat.le_trans (Nat.le_trans (Nat.le_trans (Nat.le_trans (Nat.le_trans (Nat.le_trans (Nat.le_trans (Nat.le_trans (Nat.le_trans Z0 E4.1) (Keep.of_wr W5).1) (Keep.of_wr W6).1) (Keep.of_wr W7).1) (Keep.of_wr W8).1) (Keep.of_wr W9).1) (Keep.of_wr W10).1) (Keep.of_wr W11).1) (Keep.of_wr W12).1) (Keep.of_wr W13).1) (Keep.of_wr W14).1) (Keep.of_wr W15).1) (Keep.of_wr W16).1) (Keep.of_wr W17).1) (Keep.of_wr W18).1) (Keep.of_wr W19).1) (Keep.of_wr W20).1) (Keep.of_wr W21).1) (Keep.of_wr W22).1) (Keep.of_wr W23).1) (Nat.le_of_eq g31.symm)
    have sz_b31 : h0.size ≤ b31 := Nat.le_trans (Nat.le_trans (Nat.le_trans (Nat.le_trans (Nat.le_trans (Nat.le_trans (Nat.le_trans (Nat.le_trans (Nat.le_trans (Nat.le_trans (Nat.le_trans (Nat.le_trans (Nat.le_trans (Nat.le_trans (Nat.le_trans (Nat.le_trans (Nat.le_trans (Nat.le_trans (Nat.le_trans (Nat.le_trans (Nat.le_trans (Nat.le_refl h0.size) E4.1) (Keep.of_wr W5).1) (Keep.of_wr W6).1) (Keep.of_wr W7).1) (Keep.of_wr W8).1) (Keep.of_wr W9).1) (Keep.of_wr W10).1) (Keep.of_wr W11).1) (Keep.of_wr W12).1) (Keep.of_wr W13).1) (Keep.of_wr W14).1) (Keep.of_wr W15).1) (Keep.of_wr W16).1) (Keep.of_wr W17).1) (Keep.of_wr W18).1) (Keep.of_wr W19).1) (Keep.of_wr W20).1) (Keep.of_wr W21).1) (Keep.of_wr W22).1) (Keep.of_wr W23).1) (Nat.le_of_eq g31.symm)
    have ne_d1_b31 : d1 ≠ b31 := Nat.ne_of_lt (Nat.lt_of_lt_of_le ((((((((((((((((((((V1.ext E4).other W5 ne_d1_b4).other W6 ne_d1_b4).other W7 ne_d1_b4).other W8 ne_d1_b4).other W9 ne_d1_b4).other W10 ne_d1_b4).other W11 ne_d1_b4).other W12 ne_d1_b4).other W13 ne_d1_b4).other W14 ne_d1_b4).other W15 ne_d1_b4).other W16 ne_d1_b4).other W17 ne_d1_b4).other W18 ne_d1_b4).other W19 ne_d1_b4).other W20 ne_d1_b4).other W21 ne_d1_b4).other W22 ne_d1_b4).other W23 ne_d1_b4).lt (Nat.le_of_eq g31.symm))
    have ne_d2_b31 : d2 ≠ b31 := Nat.ne_of_lt (Nat.lt_of_lt_of_le ((((((((((((((((((((V2.ext E4).other W5 ne_d2_b4).other W6 ne_d2_b4).other W7 ne_d2_b4).other W8 ne_d2_b4).other W9 ne_d2_b4).other W10 ne_d2_b4).other W11 ne_d2_b4).other W12 ne_d2_b4).other W13 ne_d2_b4).other W14 ne_d2_b4).other W15 ne_d2_b4).other W16 ne_d2_b4).other W17 ne_d2_b4).other W18 ne_d2_b4).other W19 ne_d2_b4).other W20 ne_d2_b4).other W21 ne_d2_b4).other W22 ne_d2_b4).other W23 ne_d2_b4).lt (Nat.le_of_eq g31.symm))
    have ne_b4_b31 : b4 ≠ b31 := Nat.ne_of_lt (Nat.lt_of_lt_of_le V23.lt (Nat.le_of_eq g31.symm))
    show ORun p e below s _ _ _ T31 (mkF m 167 #[.val (.long p1), .second, .val (.int p2), .val (.int v3), .val (.ref b4), .val (.long v29), .second, .unset, .unset] [(.ref b31)])
    refine own_by (fun t k => XS.astore X31.here hx rfl (hb hby at_167) rfl rfl (l' := #[.val (.long p1), .second, .val (.int p2), .val (.int v3), .val (.ref b4), .val (.long v29), .second, .val (.ref b31), .unset]) rfl k) ?_
    show ORun p e below s _ _ _ T31 (mkF m 169 #[.val (.long p1), .second, .val (.int p2), .val (.int v3), .val (.ref b4), .val (.long v29), .second, .val (.ref b31), .unset] [])
    refine own_by (fun t k => XS.bipush X31.here hx rfl (hb hby at_169) k) ?_
    show ORun p e below s _ _ _ T31 (mkF m 171 #[.val (.long p1), .second, .val (.int p2), .val (.int v3), .val (.ref b4), .val (.long v29), .second, .val (.ref b31), .unset] [(.int (21 : Int32))])
    refine own_newarray X31 hx hZ (aty := .byte) (hw _ (List.mem_of_getElem? (i := 21) rfl)) e31 rfl (N := 21) (cap := 21) (by decide) (Nat.le_refl _) (by decide) (by decide) (by decide) (ad := "[B") (by decide) (hb hby at_171) ?_
    intro T32 h32 b32 L32 g32 X32 e32 E32 hL32 V32 Ex32
    have len32 : L32.length = 21 := by rw [hL32]; exact List.length_replicate
    have old_b32 : n0 ≤ b32 := Nat.le_trans (Nat.le_trans (Nat.le_trans (Nat.le_trans (Nat.le_trans (Nat.le_trans (Nat.le_trans (Nat.le_trans (Nat.le_trans (Nat.le_trans (Nat.le_trans (Nat.le_trans (Nat.le_trans (Nat.le_trans (Nat.le_trans (Nat.le_trans (Nat.le_trans (Nat.le_trans (Nat.le_trans (Nat.le_trans (Nat.le_trans (Nat.le_trans Z0 E4.1) (Keep.of_wr W5).1) (Keep.of_wr W6).1) (Keep.of_wr W7).1) (Keep.of_wr W8).1) (Keep.of_wr W9).1) (Keep.of_wr W10).1) (Keep.of_wr W11).1) (Keep.of_wr W12).1) (Keep.of_wr W13).1) (Keep.of_wr W14).1) (Keep.of_wr W15).1) (Keep.of_wr W16).1) (Keep.of_wr W17).1) (Keep.of_wr W18).1) (Keep.of_wr W19).1) (Keep.of_wr W20).1) (Keep.of_wr W21).1) (Keep.of_wr W22).1) (Keep.of_wr W23).1) E31.1) (Nat.le_of_eq g32.symm)
    have sz_b32 : h0.size ≤ b32 := Nat.le_trans (Nat.le_trans (Nat.le_trans (Nat.le_trans (Nat.le_trans (Nat.le_trans (Nat.le_trans (Nat.le_trans (Nat.le_trans (Nat.le_trans (Nat.le_trans (Nat.le_trans (Nat.le_trans (Nat.le_trans (Nat.le_trans (Nat.le_trans (Nat.le_trans (Nat.le_trans (Nat.le_trans (Nat.le_trans (Nat.le_trans (Nat.le_trans (Nat.le_refl h0.size) E4.1) (Keep.of_wr W5).1) (Keep.of_wr W6).1) (Keep.of_wr W7).1) (Keep.of_wr W8).1) (Keep.of_wr W9).1) (Keep.of_wr W10).1) (Keep.of_wr W11).1) (Keep.of_wr W12).1) (Keep.of_wr W13).1) (Keep.of_wr W14).1) (Keep.of_wr W15).1) (Keep.of_wr W16).1) (Keep.of_wr W17).1) (Keep.of_wr W18).1) (Keep.of_wr W19).1) (Keep.of_wr W20).1) (Keep.of_wr W21).1) (Keep.of_wr W22).1) (Keep.of_wr W23).1) E31.1) (Nat.le_of_eq g32.symm)
    have ne_d1_b32 : d1 ≠ b32 := Nat.ne_of_lt (Nat.lt_of_lt_of_le (((((((((((((((((((((V1.ext E4).other W5 ne_d1_b4).other W6 ne_d1_b4).other W7 ne_d1_b4).other W8 ne_d1_b4).other W9 ne_d1_b4).other W10 ne_d1_b4).other W11 ne_d1_b4).other W12 ne_d1_b4).other W13 ne_d1_b4).other W14 ne_d1_b4).other W15 ne_d1_b4).other W16 ne_d1_b4).other W17 ne_d1_b4).other W18 ne_d1_b4).other W19 ne_d1_b4).other W20 ne_d1_b4).other W21 ne_d1_b4).other W22 ne_d1_b4).other W23 ne_d1_b4).ext E31).lt (Nat.le_of_eq g32.symm))
    have ne_d2_b32 : d2 ≠ b32 := Nat.ne_of_lt (Nat.lt_of_lt_of_le (((((((((((((((((((((V2.ext E4).other W5 ne_d2_b4).other W6 ne_d2_b4).other W7 ne_d2_b4).other W8 ne_d2_b4).other W9 ne_d2_b4).other W10 ne_d2_b4).other W11 ne_d2_b4).other W12 ne_d2_b4).other W13 ne_d2_b4).other W14 ne_d2_b4).other W15 ne_d2_b4).other W16 ne_d2_b4).other W17 ne_d2_b4).other W18 ne_d2_b4).other W19 ne_d2_b4).other W20 ne_d2_b4).other W21 ne_d2_b4).other W22 ne_d2_b4).other W23 ne_d2_b4).ext E31).lt (Nat.le_of_eq g32.symm))
    have ne_b4_b32 : b4 ≠ b32 := Nat.ne_of_lt (Nat.lt_of_lt_of_le (V23.ext E31).lt (Nat.le_of_eq g32.symm))
    have ne_b31_b32 : b31 ≠ b32 := Nat.ne_of_lt (Nat.lt_of_lt_of_le V31.lt (Nat.le_of_eq g32.symm))
    show ORun p e below s _ _ _ T32 (mkF m 173 #[.val (.long p1), .second, .val (.int p2), .val (.int v3), .val (.ref b4), .val (.long v29), .second, .val (.ref b31), .unset] [(.ref b32)])
    refine own_by (fun t k => XS.astore X32.here hx rfl (hb hby at_173) rfl rfl (l' := #[.val (.long p1), .second, .val (.int p2), .val (.int v3), .val (.ref b4), .val (.long v29), .second, .val (.ref b31), .val (.ref b32)]) rfl k) ?_
    show ORun p e below s _ _ _ T32 (mkF m 175 #[.val (.long p1), .second, .val (.int p2), .val (.int v3), .val (.ref b4), .val (.long v29), .second, .val (.ref b31), .val (.ref b32)] [])
    refine own_by (fun t k => XS.lload X32.here hx rfl (hb hby at_175) rfl k) ?_
    show ORun p e below s _ _ _ T32 (mkF m 177 #[.val (.long p1), .second, .val (.int p2), .val (.int v3), .val (.ref b4), .val (.long v29), .second, .val (.ref b31), .val (.ref b32)] [(.long v29)])
    refine own_by (fun t k => XS.aload X32.here hx rfl (hb hby at_177) rfl rfl k) ?_
    show ORun p e below s _ _ _ T32 (mkF m 179 #[.val (.long p1), .second, .val (.int p2), .val (.int v3), .val (.ref b4), .val (.long v29), .second, .val (.ref b31), .val (.ref b32)] [(.ref b31), (.long v29)])
    refine own_by (fun t k => XS.iloadN X32.here hx rfl (hb hby at_179) rfl k) ?_
    show ORun p e below s _ _ _ T32 (mkF m 180 #[.val (.long p1), .second, .val (.int p2), .val (.int v3), .val (.ref b4), .val (.long v29), .second, .val (.ref b31), .val (.ref b32)] [(.int v3), (.ref b31), (.long v29)])
    refine own_callS X32 hx hZ hown (hw _ (List.mem_of_getElem? (i := 22) rfl)) (hw _ (List.mem_of_getElem? (i := 23) rfl)) (hw _ (List.mem_of_getElem? (i := 24) rfl)) (hw _ (List.mem_of_getElem? (i := 25) rfl)) (by decide) (rm1 l Z a0 hw [] h32 n0 (Nat.le_trans (Nat.le_trans (Nat.le_trans (Nat.le_trans (Nat.le_trans (Nat.le_trans (Nat.le_trans (Nat.le_trans (Nat.le_trans (Nat.le_trans (Nat.le_trans (Nat.le_trans (Nat.le_trans (Nat.le_trans (Nat.le_trans (Nat.le_trans (Nat.le_trans (Nat.le_trans (Nat.le_trans (Nat.le_trans (Nat.le_trans (Nat.le_trans Z0 E4.1) (Keep.of_wr W5).1) (Keep.of_wr W6).1) (Keep.of_wr W7).1) (Keep.of_wr W8).1) (Keep.of_wr W9).1) (Keep.of_wr W10).1) (Keep.of_wr W11).1) (Keep.of_wr W12).1) (Keep.of_wr W13).1) (Keep.of_wr W14).1) (Keep.of_wr W15).1) (Keep.of_wr W16).1) (Keep.of_wr W17).1) (Keep.of_wr W18).1) (Keep.of_wr W19).1) (Keep.of_wr W20).1) (Keep.of_wr W21).1) (Keep.of_wr W22).1) (Keep.of_wr W23).1) E31.1) E32.1) v29 b31 v3 L31 LO LT d1 d2 ex28 wn30 (V31.ext E32) len31 old_b31 ((((((((((((((((((((((S1.ext E4).wr W5).wr W6).wr W7).wr W8).wr W9).wr W10).wr W11).wr W12).wr W13).wr W14).wr W15).wr W16).wr W17).wr W18).wr W19).wr W20).wr W21).wr W22).wr W23).ext E31).ext E32) ((((((((((((((((((((((S2.ext E4).wr W5).wr W6).wr W7).wr W8).wr W9).wr W10).wr W11).wr W12).wr W13).wr W14).wr W15).wr W16).wr W17).wr W18).wr W19).wr W20).wr W21).wr W22).wr W23).ext E31).ext E32) ((((((((((((((((((((((V1.ext E4).other W5 ne_d1_b4).other W6 ne_d1_b4).other W7 ne_d1_b4).other W8 ne_d1_b4).other W9 ne_d1_b4).other W10 ne_d1_b4).other W11 ne_d1_b4).other W12 ne_d1_b4).other W13 ne_d1_b4).other W14 ne_d1_b4).other W15 ne_d1_b4).other W16 ne_d1_b4).other W17 ne_d1_b4).other W18 ne_d1_b4).other W19 ne_d1_b4).other W20 ne_d1_b4).other W21 ne_d1_b4).other W22 ne_d1_b4).other W23 ne_d1_b4).ext E31).ext E32) l1 hO1 ((((((((((((((((((((((V2.ext E4).other W5 ne_d2_b4).other W6 ne_d2_b4).other W7 ne_d2_b4).other W8 ne_d2_b4).other W9 ne_d2_b4).other W10 ne_d2_b4).other W11 ne_d2_b4).other W12 ne_d2_b4).other W13 ne_d2_b4).other W14 ne_d2_b4).other W15 ne_d2_b4).other W16 ne_d2_b4).other W17 ne_d2_b4).other W18 ne_d2_b4).other W19 ne_d2_b4).other W20 ne_d2_b4).other W21 ne_d2_b4).other W22 ne_d2_b4).other W23 ne_d2_b4).ext E31).ext E32) l2 hT1 ne_d1_b31 ne_d2_b31 (by omega) (by omega) (by omega) fit30) e32 (by decide) (W := 0) (by decide) (by decide) (by decide) (argsL := [(.long v29), (.ref b31), (.int v3)]) (rest := []) (by rw [hml]; rfl) (lenOf pd_0 rfl) rfl rfl (Nat.le_of_eq rfl) (hb hby at_180) ?_
    intro T33 L33 u33 X33 hQ33
    obtain ⟨rfl, Nq33, K33, Vp33⟩ := hQ33
    have N33 := Fr.app N23 Nq33
    obtain ⟨L33, hL33⟩ : ∃ z, z = own_put ex28 wn30 L31 := ⟨_, rfl⟩
    rw [← hL33] at Vp33
    have len33 : L33.length = 21 := by rw [hL33, own_put_len]; exact len31
    show ORun p e below s _ _ _ T33 (mkF m 183 #[.val (.long p1), .second, .val (.int p2), .val (.int v3), .val (.ref b4), .val (.long v29), .second, .val (.ref b31), .val (.ref b32)] [])
    refine own_by (fun t k => XS.lload X33.here hx rfl (hb hby at_183) rfl k) ?_
    show ORun p e below s _ _ _ T33 (mkF m 185 #[.val (.long p1), .second, .val (.int p2), .val (.int v3), .val (.ref b4), .val (.long v29), .second, .val (.ref b31), .val (.ref b32)] [(.long v29)])
    refine own_by (fun t k => X33.ldc2Long hx hown (mvT hZ (hw _ (List.mem_of_getElem? (i := 2) rfl))) (g := (mkF m 185 #[.val (.long p1), .second, .val (.int p2), .val (.int v3), .val (.ref b4), .val (.long v29), .second, .val (.ref b31), .val (.ref b32)] [(.long v29)])) rfl (hb hby at_185) _ k) ?_
    show ORun p e below s _ _ _ T33 (mkF m 188 #[.val (.long p1), .second, .val (.int p2), .val (.int v3), .val (.ref b4), .val (.long v29), .second, .val (.ref b31), .val (.ref b32)] [(.long (10 : Int64)), (.long v29)])
    refine own_by (fun t k => XS.lcmp X33.here hx rfl (hb hby at_188) rfl k) ?_
    show ORun p e below s _ _ _ T33 (mkF m 189 #[.val (.long p1), .second, .val (.int p2), .val (.int v3), .val (.ref b4), .val (.long v29), .second, .val (.ref b31), .val (.ref b32)] [(.int (lcmpW v29 (10 : Int64)))])
    by_cases hc34 : v29 < (10 : Int64)
    · have t34 := own_ltL hc34 (a := v29.toInt) (b := 10) rfl (by decide)
      refine own_by (fun t k => XS.ifYes X33.here hx rfl (pc0 := 189) (pc' := 206) rfl (hb hby at_189) rfl (own_lclt hc34).1 (by decide) (by decide) k) ?_
      show ORun p e below s _ _ _ T33 (mkF m 206 #[.val (.long p1), .second, .val (.int p2), .val (.int v3), .val (.ref b4), .val (.long v29), .second, .val (.ref b31), .val (.ref b32)] [])
      refine own_by (fun t k => XS.aload X33.here hx rfl (hb hby at_206) rfl rfl k) ?_
      show ORun p e below s _ _ _ T33 (mkF m 208 #[.val (.long p1), .second, .val (.int p2), .val (.int v3), .val (.ref b4), .val (.long v29), .second, .val (.ref b31), .val (.ref b32)] [(.ref b32)])
      refine own_by (fun t k => XS.iloadN X33.here hx rfl (hb hby at_208) rfl k) ?_
      show ORun p e below s _ _ _ T33 (mkF m 209 #[.val (.long p1), .second, .val (.int p2), .val (.int v3), .val (.ref b4), .val (.long v29), .second, .val (.ref b31), .val (.ref b32)] [(.int v3), (.ref b32)])
      refine own_by (fun t k => XS.iconst X33.here hx rfl (hb hby at_209) k) ?_
      show ORun p e below s _ _ _ T33 (mkF m 210 #[.val (.long p1), .second, .val (.int p2), .val (.int v3), .val (.ref b4), .val (.long v29), .second, .val (.ref b31), .val (.ref b32)] [(.int (1 : Int32)), (.int v3), (.ref b32)])
      refine own_by (fun t k => XS.isub X33.here hx rfl (hb hby at_210) rfl k) (own_letI (f := (fun z => (mkF m 211 #[.val (.long p1), .second, .val (.int p2), .val (.int v3), .val (.ref b4), .val (.long v29), .second, .val (.ref b31), .val (.ref b32)] [(.int z), (.ref b32)]))) (v3 - (1 : Int32)) fun v35 hv35 => ?_)
      show ORun p e below s _ _ _ T33 (mkF m 211 #[.val (.long p1), .second, .val (.int p2), .val (.int v3), .val (.ref b4), .val (.long v29), .second, .val (.ref b31), .val (.ref b32)] [(.int v35), (.ref b32)])
      have r35 := rng32 v35
      have a35 : v35.toInt = v3.toInt - 1 := by
        have q : (v35.toInt - (v3.toInt - 1)) % 4294967296 = 0 := by rw [hv35]; exact c_isub v3 (1 : Int32)
        omega
      refine own_by (fun t k => XS.bipush X33.here hx rfl (hb hby at_211) k) ?_
      show ORun p e below s _ _ _ T33 (mkF m 213 #[.val (.long p1), .second, .val (.int p2), .val (.int v3), .val (.ref b4), .val (.long v29), .second, .val (.ref b31), .val (.ref b32)] [(.int (48 : Int32)), (.int v35), (.ref b32)])
      refine own_by (fun t k => XS.lload X33.here hx rfl (hb hby at_213) rfl k) ?_
      show ORun p e below s _ _ _ T33 (mkF m 215 #[.val (.long p1), .second, .val (.int p2), .val (.int v3), .val (.ref b4), .val (.long v29), .second, .val (.ref b31), .val (.ref b32)] [(.long v29), (.int (48 : Int32)), (.int v35), (.ref b32)])
      refine own_by (fun t k => X33.ldc2Long hx hown (mvT hZ (hw _ (List.mem_of_getElem? (i := 2) rfl))) (g := (mkF m 215 #[.val (.long p1), .second, .val (.int p2), .val (.int v3), .val (.ref b4), .val (.long v29), .second, .val (.ref b31), .val (.ref b32)] [(.long v29), (.int (48 : Int32)), (.int v35), (.ref b32)])) rfl (hb hby at_215) _ k) ?_
      show ORun p e below s _ _ _ T33 (mkF m 218 #[.val (.long p1), .second, .val (.int p2), .val (.int v3), .val (.ref b4), .val (.long v29), .second, .val (.ref b31), .val (.ref b32)] [(.long (10 : Int64)), (.long v29), (.int (48 : Int32)), (.int v35), (.ref b32)])
      refine own_by (fun t k => XS.lrem X33.here hx rfl (hb hby at_218) rfl (by decide) k) (own_letJ (f := (fun z => (mkF m 219 #[.val (.long p1), .second, .val (.int p2), .val (.int v3), .val (.ref b4), .val (.long v29), .second, .val (.ref b31), .val (.ref b32)] [(.long z), (.int (48 : Int32)), (.int v35), (.ref b32)]))) (v29 - (v29 / (10 : Int64)) * (10 : Int64)) fun v36 hv36 => ?_)
      show ORun p e below s _ _ _ T33 (mkF m 219 #[.val (.long p1), .second, .val (.int p2), .val (.int v3), .val (.ref b4), .val (.long v29), .second, .val (.ref b31), .val (.ref b32)] [(.long v36), (.int (48 : Int32)), (.int v35), (.ref b32)])
      have r36 := rng64 v36
      have a36 : v36.toInt = v29.toInt % 10 := by
        have q : (0 ≤ v29.toInt → v36.toInt = v29.toInt % 10) ∧ (v29.toInt < 0 → v36.toInt = -((-v29.toInt) % 10)) := by rw [hv36]; exact c_lrem v29 (10 : Int64) 10 (by decide)
        omega
      refine own_by (fun t k => XS.l2i X33.here hx rfl (hb hby at_219) rfl k) (own_letI (f := (fun z => (mkF m 220 #[.val (.long p1), .second, .val (.int p2), .val (.int v3), .val (.ref b4), .val (.long v29), .second, .val (.ref b31), .val (.ref b32)] [(.int z), (.int (48 : Int32)), (.int v35), (.ref b32)]))) (v36.toInt32) fun v37 hv37 => ?_)
      show ORun p e below s _ _ _ T33 (mkF m 220 #[.val (.long p1), .second, .val (.int p2), .val (.int v3), .val (.ref b4), .val (.long v29), .second, .val (.ref b31), .val (.ref b32)] [(.int v37), (.int (48 : Int32)), (.int v35), (.ref b32)])
      have r37 := rng32 v37
      have a37 : v37.toInt = v36.toInt := by
        have q : (v37.toInt - v36.toInt) % 4294967296 = 0 := by rw [hv37]; exact c_l2i v36
        omega
      refine own_by (fun t k => XS.iadd X33.here hx rfl (hb hby at_220) rfl k) (own_letI (f := (fun z => (mkF m 221 #[.val (.long p1), .second, .val (.int p2), .val (.int v3), .val (.ref b4), .val (.long v29), .second, .val (.ref b31), .val (.ref b32)] [(.int z), (.int v35), (.ref b32)]))) ((48 : Int32) + v37) fun v38 hv38 => ?_)
      show ORun p e below s _ _ _ T33 (mkF m 221 #[.val (.long p1), .second, .val (.int p2), .val (.int v3), .val (.ref b4), .val (.long v29), .second, .val (.ref b31), .val (.ref b32)] [(.int v38), (.int v35), (.ref b32)])
      have r38 := rng32 v38
      have a38 : v38.toInt = 48 + v37.toInt := by
        have q : (v38.toInt - (48 + v37.toInt)) % 4294967296 = 0 := by rw [hv38]; exact c_iadd (48 : Int32) v37
        omega
      refine own_by (fun t k => XS.i2b X33.here hx rfl (hb hby at_221) rfl k) (own_letI (f := (fun z => (mkF m 222 #[.val (.long p1), .second, .val (.int p2), .val (.int v3), .val (.ref b4), .val (.long v29), .second, .val (.ref b31), .val (.ref b32)] [(.int z), (.int v35), (.ref b32)]))) (v38.toInt8.toInt32) fun v39 hv39 => ?_)
      show ORun p e below s _ _ _ T33 (mkF m 222 #[.val (.long p1), .second, .val (.int p2), .val (.int v3), .val (.ref b4), .val (.long v29), .second, .val (.ref b31), .val (.ref b32)] [(.int v39), (.int v35), (.ref b32)])
      have r39 := rng32 v39
      have a39 : v39.toInt = v38.toInt := by
        have q : (v39.toInt - v38.toInt) % 256 = 0 ∧ -128 ≤ v39.toInt ∧ v39.toInt < 128 := by rw [hv39]; exact c_i2b v38
        omega
      have nb40 : (nar .byte v39).toInt = v39.toInt := by have q := c_i2b v39; show v39.toInt8.toInt32.toInt = _; omega
      refine own_bastore X33 hx hZ rfl (V32.keep K33 (ninS (Ne.symm ne_b31_b32) nin0)) (i := v35.toInt.toNat) (by omega) (by omega) (hb hby at_222) ?_
      intro T41 h41 L41 X41 e41 W41 hL41 V41
      have len41 : L41.length = 21 := by rw [hL41, List.length_set]; exact len32
      have N41 := Fr.snoc X41 N33 old_b32
      show ORun p e below s _ _ _ T41 (mkF m 223 #[.val (.long p1), .second, .val (.int p2), .val (.int v3), .val (.ref b4), .val (.long v29), .second, .val (.ref b31), .val (.ref b32)] [])
      refine own_by (fun t k => XS.aload X41.here hx rfl (hb hby at_223) rfl rfl k) ?_
      show ORun p e below s _ _ _ T41 (mkF m 225 #[.val (.long p1), .second, .val (.int p2), .val (.int v3), .val (.ref b4), .val (.long v29), .second, .val (.ref b31), .val (.ref b32)] [(.ref b31)])
      refine own_by (fun t k => XS.aload X41.here hx rfl (hb hby at_225) rfl rfl k) ?_
      show ORun p e below s _ _ _ T41 (mkF m 227 #[.val (.long p1), .second, .val (.int p2), .val (.int v3), .val (.ref b4), .val (.long v29), .second, .val (.ref b31), .val (.ref b32)] [(.ref b32), (.ref b31)])
      have eZ42 : L32 = L31 := hL32.trans hL31.symm
      have same42 : L33 = L41 := own_law (e := ex28) (n := wn30) (B := L32) (x := nar .byte v39) (by omega) hL33 (Or.inr ⟨by omega, eZ42⟩) (hB1 := by rw [hL41]; congr 1; omega) (by omega)
      refine own_callS X41 hx hZ hown (hw _ (List.mem_of_getElem? (i := 27) rfl)) (hw _ (List.mem_of_getElem? (i := 28) rfl)) (hw _ (List.mem_of_getElem? (i := 29) rfl)) (hw _ (List.mem_of_getElem? (i := 30) rfl)) (by decide) (rm2 l Z a0 hw [] h41 n0 (Nat.le_trans (Nat.le_trans (Nat.le_trans (Nat.le_trans (Nat.le_trans (Nat.le_trans (Nat.le_trans (Nat.le_trans (Nat.le_trans (Nat.le_trans (Nat.le_trans (Nat.le_trans (Nat.le_trans (Nat.le_trans (Nat.le_trans (Nat.le_trans (Nat.le_trans (Nat.le_trans (Nat.le_trans (Nat.le_trans (Nat.le_trans (Nat.le_trans (Nat.le_trans (Nat.le_trans Z0 E4.1) (Keep.of_wr W5).1) (Keep.of_wr W6).1) (Keep.of_wr W7).1) (Keep.of_wr W8).1) (Keep.of_wr W9).1) (Keep.of_wr W10).1) (Keep.of_wr W11).1) (Keep.of_wr W12).1) (Keep.of_wr W13).1) (Keep.of_wr W14).1) (Keep.of_wr W15).1) (Keep.of_wr W16).1) (Keep.of_wr W17).1) (Keep.of_wr W18).1) (Keep.of_wr W19).1) (Keep.of_wr W20).1) (Keep.of_wr W21).1) (Keep.of_wr W22).1) (Keep.of_wr W23).1) E31.1) E32.1) K33.1) (Keep.of_wr W41).1) b31 b32 L33 (Vp33.other W41 ne_b31_b32) (by rw [same42]; exact V41) len33) e41 (by decide) (W := 0) (by decide) (by decide) (by decide) (argsL := [(.ref b31), (.ref b32)]) (rest := []) (by rw [hml]; rfl) (lenOf pd_1 rfl) rfl rfl (Nat.le_of_eq rfl) (hb hby at_227) ?_
      intro T42 L42 u42 X42 hQ42
      obtain ⟨rfl, Nq42, e42⟩ := hQ42
      have N42 := Fr.app N41 Nq42
      show ORun p e below s _ _ _ T42 (mkF m 230 #[.val (.long p1), .second, .val (.int p2), .val (.int v3), .val (.ref b4), .val (.long v29), .second, .val (.ref b31), .val (.ref b32)] [(.int (1 : Int32))])
      refine own_retN X42 hx (t := .boolean) hret (by simp) hlk (hb hby at_230) (by decide) (by decide) ?_
      exact ⟨rfl, N42⟩
    · have t34 := own_nltL hc34 (a := v29.toInt) (b := 10) rfl (by decide)
      refine own_by (fun t k => XS.ifNo X33.here hx rfl (hb hby at_189) rfl (own_lcnlt hc34).1 k) ?_
      show ORun p e below s _ _ _ T33 (mkF m 192 #[.val (.long p1), .second, .val (.int p2), .val (.int v3), .val (.ref b4), .val (.long v29), .second, .val (.ref b31), .val (.ref b32)] [])
      refine own_by (fun t k => XS.lload X33.here hx rfl (hb hby at_192) rfl k) ?_
      show ORun p e below s _ _ _ T33 (mkF m 194 #[.val (.long p1), .second, .val (.int p2), .val (.int v3), .val (.ref b4), .val (.long v29), .second, .val (.ref b31), .val (.ref b32)] [(.long v29)])
      refine own_by (fun t k => X33.ldc2Long hx hown (mvT hZ (hw _ (List.mem_of_getElem? (i := 2) rfl))) (g := (mkF m 194 #[.val (.long p1), .second, .val (.int p2), .val (.int v3), .val (.ref b4), .val (.long v29), .second, .val (.ref b31), .val (.ref b32)] [(.long v29)])) rfl (hb hby at_194) _ k) ?_
      show ORun p e below s _ _ _ T33 (mkF m 197 #[.val (.long p1), .second, .val (.int p2), .val (.int v3), .val (.ref b4), .val (.long v29), .second, .val (.ref b31), .val (.ref b32)] [(.long (10 : Int64)), (.long v29)])
      refine own_by (fun t k => XS.ldiv X33.here hx rfl (hb hby at_197) rfl (by decide) k) (own_letJ (f := (fun z => (mkF m 198 #[.val (.long p1), .second, .val (.int p2), .val (.int v3), .val (.ref b4), .val (.long v29), .second, .val (.ref b31), .val (.ref b32)] [(.long z)]))) (v29 / (10 : Int64)) fun v43 hv43 => ?_)
      show ORun p e below s _ _ _ T33 (mkF m 198 #[.val (.long p1), .second, .val (.int p2), .val (.int v3), .val (.ref b4), .val (.long v29), .second, .val (.ref b31), .val (.ref b32)] [(.long v43)])
      have r43 := rng64 v43
      have a43 : v43.toInt = v29.toInt / 10 := by
        have q : (0 ≤ v29.toInt → v43.toInt = v29.toInt / 10) ∧ (v29.toInt < 0 → v43.toInt = -((-v29.toInt) / 10)) := by rw [hv43]; exact c_ldiv v29 (10 : Int64) 10 (by decide) (by decide)
        omega
      refine own_by (fun t k => XS.aload X33.here hx rfl (hb hby at_198) rfl rfl k) ?_
      show ORun p e below s _ _ _ T33 (mkF m 200 #[.val (.long p1), .second, .val (.int p2), .val (.int v3), .val (.ref b4), .val (.long v29), .second, .val (.ref b31), .val (.ref b32)] [(.ref b32), (.long v43)])
      refine own_by (fun t k => XS.iloadN X33.here hx rfl (hb hby at_200) rfl k) ?_
      show ORun p e below s _ _ _ T33 (mkF m 201 #[.val (.long p1), .second, .val (.int p2), .val (.int v3), .val (.ref b4), .val (.long v29), .second, .val (.ref b31), .val (.ref b32)] [(.int v3), (.ref b32), (.long v43)])
      refine own_by (fun t k => XS.iconst X33.here hx rfl (hb hby at_201) k) ?_
      show ORun p e below s _ _ _ T33 (mkF m 202 #[.val (.long p1), .second, .val (.int p2), .val (.int v3), .val (.ref b4), .val (.long v29), .second, .val (.ref b31), .val (.ref b32)] [(.int (1 : Int32)), (.int v3), (.ref b32), (.long v43)])
      refine own_by (fun t k => XS.isub X33.here hx rfl (hb hby at_202) rfl k) (own_letI (f := (fun z => (mkF m 203 #[.val (.long p1), .second, .val (.int p2), .val (.int v3), .val (.ref b4), .val (.long v29), .second, .val (.ref b31), .val (.ref b32)] [(.int z), (.ref b32), (.long v43)]))) (v3 - (1 : Int32)) fun v44 hv44 => ?_)
      show ORun p e below s _ _ _ T33 (mkF m 203 #[.val (.long p1), .second, .val (.int p2), .val (.int v3), .val (.ref b4), .val (.long v29), .second, .val (.ref b31), .val (.ref b32)] [(.int v44), (.ref b32), (.long v43)])
      have r44 := rng32 v44
      have a44 : v44.toInt = v3.toInt - 1 := by
        have q : (v44.toInt - (v3.toInt - 1)) % 4294967296 = 0 := by rw [hv44]; exact c_isub v3 (1 : Int32)
        omega
      have f2_45 := own_fit2 (q := ex28) (w := wn30) (by omega) fit30
      have ft45 : wn30 / 10 < 10 ^ (ex28 - 1) := by
        have e1 : 10 ^ ex28 = 10 * 10 ^ (ex28 - 1) := by rw [← Nat.pow_succ']; congr 1; omega
        rw [e1] at fit30
        exact Nat.div_lt_of_lt_mul fit30
      refine own_callS X33 hx hZ hown (hw _ (List.mem_of_getElem? (i := 22) rfl)) (hw _ (List.mem_of_getElem? (i := 23) rfl)) (hw _ (List.mem_of_getElem? (i := 24) rfl)) (hw _ (List.mem_of_getElem? (i := 25) rfl)) (by decide) (rm1 l Z a0 hw [] T33.heap n0 (Nat.le_trans (Nat.le_trans (Nat.le_trans (Nat.le_trans (Nat.le_trans (Nat.le_trans (Nat.le_trans (Nat.le_trans (Nat.le_trans (Nat.le_trans (Nat.le_trans (Nat.le_trans (Nat.le_trans (Nat.le_trans (Nat.le_trans (Nat.le_trans (Nat.le_trans (Nat.le_trans (Nat.le_trans (Nat.le_trans (Nat.le_trans (Nat.le_trans (Nat.le_trans Z0 E4.1) (Keep.of_wr W5).1) (Keep.of_wr W6).1) (Keep.of_wr W7).1) (Keep.of_wr W8).1) (Keep.of_wr W9).1) (Keep.of_wr W10).1) (Keep.of_wr W11).1) (Keep.of_wr W12).1) (Keep.of_wr W13).1) (Keep.of_wr W14).1) (Keep.of_wr W15).1) (Keep.of_wr W16).1) (Keep.of_wr W17).1) (Keep.of_wr W18).1) (Keep.of_wr W19).1) (Keep.of_wr W20).1) (Keep.of_wr W21).1) (Keep.of_wr W22).1) (Keep.of_wr W23).1) E31.1) E32.1) K33.1) v43 b32 v44 L32 LO LT d1 d2 (ex28 - 1) (wn30 / 10) (V32.keep K33 (ninS (Ne.symm ne_b31_b32) nin0)) len32 old_b32 (S1.ext (own_kext ((((((((((((((((((((((((Keep.refl h0 []).ext E4).wr W5 (Or.inr sz_b4)).wr W6 (Or.inr sz_b4)).wr W7 (Or.inr sz_b4)).wr W8 (Or.inr sz_b4)).wr W9 (Or.inr sz_b4)).wr W10 (Or.inr sz_b4)).wr W11 (Or.inr sz_b4)).wr W12 (Or.inr sz_b4)).wr W13 (Or.inr sz_b4)).wr W14 (Or.inr sz_b4)).wr W15 (Or.inr sz_b4)).wr W16 (Or.inr sz_b4)).wr W17 (Or.inr sz_b4)).wr W18 (Or.inr sz_b4)).wr W19 (Or.inr sz_b4)).wr W20 (Or.inr sz_b4)).wr W21 (Or.inr sz_b4)).wr W22 (Or.inr sz_b4)).wr W23 (Or.inr sz_b4)).ext E31).ext E32).trans K33 (allS (Or.inr sz_b31) all0)))) (S2.ext (own_kext ((((((((((((((((((((((((Keep.refl h0 []).ext E4).wr W5 (Or.inr sz_b4)).wr W6 (Or.inr sz_b4)).wr W7 (Or.inr sz_b4)).wr W8 (Or.inr sz_b4)).wr W9 (Or.inr sz_b4)).wr W10 (Or.inr sz_b4)).wr W11 (Or.inr sz_b4)).wr W12 (Or.inr sz_b4)).wr W13 (Or.inr sz_b4)).wr W14 (Or.inr sz_b4)).wr W15 (Or.inr sz_b4)).wr W16 (Or.inr sz_b4)).wr W17 (Or.inr sz_b4)).wr W18 (Or.inr sz_b4)).wr W19 (Or.inr sz_b4)).wr W20 (Or.inr sz_b4)).wr W21 (Or.inr sz_b4)).wr W22 (Or.inr sz_b4)).wr W23 (Or.inr sz_b4)).ext E31).ext E32).trans K33 (allS (Or.inr sz_b31) all0)))) (((((((((((((((((((((((V1.ext E4).other W5 ne_d1_b4).other W6 ne_d1_b4).other W7 ne_d1_b4).other W8 ne_d1_b4).other W9 ne_d1_b4).other W10 ne_d1_b4).other W11 ne_d1_b4).other W12 ne_d1_b4).other W13 ne_d1_b4).other W14 ne_d1_b4).other W15 ne_d1_b4).other W16 ne_d1_b4).other W17 ne_d1_b4).other W18 ne_d1_b4).other W19 ne_d1_b4).other W20 ne_d1_b4).other W21 ne_d1_b4).other W22 ne_d1_b4).other W23 ne_d1_b4).ext E31).ext E32).keep K33 (ninS ne_d1_b31 nin0)) l1 hO1 (((((((((((((((((((((((V2.ext E4).other W5 ne_d2_b4).other W6 ne_d2_b4).other W7 ne_d2_b4).other W8 ne_d2_b4).other W9 ne_d2_b4).other W10 ne_d2_b4).other W11 ne_d2_b4).other W12 ne_d2_b4).other W13 ne_d2_b4).other W14 ne_d2_b4).other W15 ne_d2_b4).other W16 ne_d2_b4).other W17 ne_d2_b4).other W18 ne_d2_b4).other W19 ne_d2_b4).other W20 ne_d2_b4).other W21 ne_d2_b4).other W22 ne_d2_b4).other W23 ne_d2_b4).ext E31).ext E32).keep K33 (ninS ne_d2_b31 nin0)) l2 hT1 ne_d1_b32 ne_d2_b32 (by omega) (by omega) (by omega) ft45) rfl (by decide) (W := 0) (by decide) (by decide) (by decide) (argsL := [(.long v43), (.ref b32), (.int v44)]) (rest := []) (by rw [hml]; rfl) (lenOf pd_0 rfl) rfl rfl (Nat.le_of_eq rfl) (hb hby at_203) ?_
      intro T45 L45 u45 X45 hQ45
      obtain ⟨rfl, Nq45, K45, Vp45⟩ := hQ45
      have N45 := Fr.app N33 Nq45
      obtain ⟨L45, hL45⟩ : ∃ z, z = own_put (ex28 - 1) (wn30 / 10) L32 := ⟨_, rfl⟩
      rw [← hL45] at Vp45
      have len45 : L45.length = 21 := by rw [hL45, own_put_len]; exact len32
      show ORun p e below s _ _ _ T45 (mkF m 206 #[.val (.long p1), .second, .val (.int p2), .val (.int v3), .val (.ref b4), .val (.long v29), .second, .val (.ref b31), .val (.ref b32)] [])
      refine own_by (fun t k => XS.aload X45.here hx rfl (hb hby at_206) rfl rfl k) ?_
      show ORun p e below s _ _ _ T45 (mkF m 208 #[.val (.long p1), .second, .val (.int p2), .val (.int v3), .val (.ref b4), .val (.long v29), .second, .val (.ref b31), .val (.ref b32)] [(.ref b32)])
      refine own_by (fun t k => XS.iloadN X45.here hx rfl (hb hby at_208) rfl k) ?_
      show ORun p e below s _ _ _ T45 (mkF m 209 #[.val (.long p1), .second, .val (.int p2), .val (.int v3), .val (.ref b4), .val (.long v29), .second, .val (.ref b31), .val (.ref b32)] [(.int v3), (.ref b32)])
      refine own_by (fun t k => XS.iconst X45.here hx rfl (hb hby at_209) k) ?_
      show ORun p e below s _ _ _ T45 (mkF m 210 #[.val (.long p1), .second, .val (.int p2), .val (.int v3), .val (.ref b4), .val (.long v29), .second, .val (.ref b31), .val (.ref b32)] [(.int (1 : Int32)), (.int v3), (.ref b32)])
      refine own_by (fun t k => XS.isub X45.here hx rfl (hb hby at_210) rfl k) (own_letI (f := (fun z => (mkF m 211 #[.val (.long p1), .second, .val (.int p2), .val (.int v3), .val (.ref b4), .val (.long v29), .second, .val (.ref b31), .val (.ref b32)] [(.int z), (.ref b32)]))) (v3 - (1 : Int32)) fun v46 hv46 => ?_)
      show ORun p e below s _ _ _ T45 (mkF m 211 #[.val (.long p1), .second, .val (.int p2), .val (.int v3), .val (.ref b4), .val (.long v29), .second, .val (.ref b31), .val (.ref b32)] [(.int v46), (.ref b32)])
      have r46 := rng32 v46
      have a46 : v46.toInt = v3.toInt - 1 := by
        have q : (v46.toInt - (v3.toInt - 1)) % 4294967296 = 0 := by rw [hv46]; exact c_isub v3 (1 : Int32)
        omega
      refine own_by (fun t k => XS.bipush X45.here hx rfl (hb hby at_211) k) ?_
      show ORun p e below s _ _ _ T45 (mkF m 213 #[.val (.long p1), .second, .val (.int p2), .val (.int v3), .val (.ref b4), .val (.long v29), .second, .val (.ref b31), .val (.ref b32)] [(.int (48 : Int32)), (.int v46), (.ref b32)])
      refine own_by (fun t k => XS.lload X45.here hx rfl (hb hby at_213) rfl k) ?_
      show ORun p e below s _ _ _ T45 (mkF m 215 #[.val (.long p1), .second, .val (.int p2), .val (.int v3), .val (.ref b4), .val (.long v29), .second, .val (.ref b31), .val (.ref b32)] [(.long v29), (.int (48 : Int32)), (.int v46), (.ref b32)])
      refine own_by (fun t k => X45.ldc2Long hx hown (mvT hZ (hw _ (List.mem_of_getElem? (i := 2) rfl))) (g := (mkF m 215 #[.val (.long p1), .second, .val (.int p2), .val (.int v3), .val (.ref b4), .val (.long v29), .second, .val (.ref b31), .val (.ref b32)] [(.long v29), (.int (48 : Int32)), (.int v46), (.ref b32)])) rfl (hb hby at_215) _ k) ?_
      show ORun p e below s _ _ _ T45 (mkF m 218 #[.val (.long p1), .second, .val (.int p2), .val (.int v3), .val (.ref b4), .val (.long v29), .second, .val (.ref b31), .val (.ref b32)] [(.long (10 : Int64)), (.long v29), (.int (48 : Int32)), (.int v46), (.ref b32)])
      refine own_by (fun t k => XS.lrem X45.here hx rfl (hb hby at_218) rfl (by decide) k) (own_letJ (f := (fun z => (mkF m 219 #[.val (.long p1), .second, .val (.int p2), .val (.int v3), .val (.ref b4), .val (.long v29), .second, .val (.ref b31), .val (.ref b32)] [(.long z), (.int (48 : Int32)), (.int v46), (.ref b32)]))) (v29 - (v29 / (10 : Int64)) * (10 : Int64)) fun v47 hv47 => ?_)
      show ORun p e below s _ _ _ T45 (mkF m 219 #[.val (.long p1), .second, .val (.int p2), .val (.int v3), .val (.ref b4), .val (.long v29), .second, .val (.ref b31), .val (.ref b32)] [(.long v47), (.int (48 : Int32)), (.int v46), (.ref b32)])
      have r47 := rng64 v47
      have a47 : v47.toInt = v29.toInt % 10 := by
        have q : (0 ≤ v29.toInt → v47.toInt = v29.toInt % 10) ∧ (v29.toInt < 0 → v47.toInt = -((-v29.toInt) % 10)) := by rw [hv47]; exact c_lrem v29 (10 : Int64) 10 (by decide)
        omega
      refine own_by (fun t k => XS.l2i X45.here hx rfl (hb hby at_219) rfl k) (own_letI (f := (fun z => (mkF m 220 #[.val (.long p1), .second, .val (.int p2), .val (.int v3), .val (.ref b4), .val (.long v29), .second, .val (.ref b31), .val (.ref b32)] [(.int z), (.int (48 : Int32)), (.int v46), (.ref b32)]))) (v47.toInt32) fun v48 hv48 => ?_)
      show ORun p e below s _ _ _ T45 (mkF m 220 #[.val (.long p1), .second, .val (.int p2), .val (.int v3), .val (.ref b4), .val (.long v29), .second, .val (.ref b31), .val (.ref b32)] [(.int v48), (.int (48 : Int32)), (.int v46), (.ref b32)])
      have r48 := rng32 v48
      have a48 : v48.toInt = v47.toInt := by
        have q : (v48.toInt - v47.toInt) % 4294967296 = 0 := by rw [hv48]; exact c_l2i v47
        omega
      refine own_by (fun t k => XS.iadd X45.here hx rfl (hb hby at_220) rfl k) (own_letI (f := (fun z => (mkF m 221 #[.val (.long p1), .second, .val (.int p2), .val (.int v3), .val (.ref b4), .val (.long v29), .second, .val (.ref b31), .val (.ref b32)] [(.int z), (.int v46), (.ref b32)]))) ((48 : Int32) + v48) fun v49 hv49 => ?_)
      show ORun p e below s _ _ _ T45 (mkF m 221 #[.val (.long p1), .second, .val (.int p2), .val (.int v3), .val (.ref b4), .val (.long v29), .second, .val (.ref b31), .val (.ref b32)] [(.int v49), (.int v46), (.ref b32)])
      have r49 := rng32 v49
      have a49 : v49.toInt = 48 + v48.toInt := by
        have q : (v49.toInt - (48 + v48.toInt)) % 4294967296 = 0 := by rw [hv49]; exact c_iadd (48 : Int32) v48
        omega
      refine own_by (fun t k => XS.i2b X45.here hx rfl (hb hby at_221) rfl k) (own_letI (f := (fun z => (mkF m 222 #[.val (.long p1), .second, .val (.int p2), .val (.int v3), .val (.ref b4), .val (.long v29), .second, .val (.ref b31), .val (.ref b32)] [(.int z), (.int v46), (.ref b32)]))) (v49.toInt8.toInt32) fun v50 hv50 => ?_)
      show ORun p e below s _ _ _ T45 (mkF m 222 #[.val (.long p1), .second, .val (.int p2), .val (.int v3), .val (.ref b4), .val (.long v29), .second, .val (.ref b31), .val (.ref b32)] [(.int v50), (.int v46), (.ref b32)])
      have r50 := rng32 v50
      have a50 : v50.toInt = v49.toInt := by
        have q : (v50.toInt - v49.toInt) % 256 = 0 ∧ -128 ≤ v50.toInt ∧ v50.toInt < 128 := by rw [hv50]; exact c_i2b v49
        omega
      have nb51 : (nar .byte v50).toInt = v50.toInt := by have q := c_i2b v50; show v50.toInt8.toInt32.toInt = _; omega
      refine own_bastore X45 hx hZ rfl Vp45 (i := v46.toInt.toNat) (by omega) (by omega) (hb hby at_222) ?_
      intro T52 h52 L52 X52 e52 W52 hL52 V52
      have len52 : L52.length = 21 := by rw [hL52, List.length_set]; exact len45
      have N52 := Fr.snoc X52 N45 old_b32
      show ORun p e below s _ _ _ T52 (mkF m 223 #[.val (.long p1), .second, .val (.int p2), .val (.int v3), .val (.ref b4), .val (.long v29), .second, .val (.ref b31), .val (.ref b32)] [])
      refine own_by (fun t k => XS.aload X52.here hx rfl (hb hby at_223) rfl rfl k) ?_
      show ORun p e below s _ _ _ T52 (mkF m 225 #[.val (.long p1), .second, .val (.int p2), .val (.int v3), .val (.ref b4), .val (.long v29), .second, .val (.ref b31), .val (.ref b32)] [(.ref b31)])
      refine own_by (fun t k => XS.aload X52.here hx rfl (hb hby at_225) rfl rfl k) ?_
      show ORun p e below s _ _ _ T52 (mkF m 227 #[.val (.long p1), .second, .val (.int p2), .val (.int v3), .val (.ref b4), .val (.long v29), .second, .val (.ref b31), .val (.ref b32)] [(.ref b32), (.ref b31)])
      have eZ53 : L32 = L31 := hL32.trans hL31.symm
      have same53 : L33 = L52 := own_law (e := ex28) (n := wn30) (B := L45) (x := nar .byte v50) (by omega) hL33 (Or.inl ⟨by omega, by rw [hL45, eZ53]⟩) (hB1 := by rw [hL52]; congr 1; omega) (by omega)
      refine own_callS X52 hx hZ hown (hw _ (List.mem_of_getElem? (i := 27) rfl)) (hw _ (List.mem_of_getElem? (i := 28) rfl)) (hw _ (List.mem_of_getElem? (i := 29) rfl)) (hw _ (List.mem_of_getElem? (i := 30) rfl)) (by decide) (rm2 l Z a0 hw [] h52 n0 (Nat.le_trans (Nat.le_trans (Nat.le_trans (Nat.le_trans (Nat.le_trans (Nat.le_trans (Nat.le_trans (Nat.le_trans (Nat.le_trans (Nat.le_trans (Nat.le_trans (Nat.le_trans (Nat.le_trans (Nat.le_trans (Nat.le_trans (Nat.le_trans (Nat.le_trans (Nat.le_trans (Nat.le_trans (Nat.le_trans (Nat.le_trans (Nat.le_trans (Nat.le_trans (Nat.le_trans (Nat.le_trans Z0 E4.1) (Keep.of_wr W5).1) (Keep.of_wr W6).1) (Keep.of_wr W7).1) (Keep.of_wr W8).1) (Keep.of_wr W9).1) (Keep.of_wr W10).1) (Keep.of_wr W11).1) (Keep.of_wr W12).1) (Keep.of_wr W13).1) (Keep.of_wr W14).1) (Keep.of_wr W15).1) (Keep.of_wr W16).1) (Keep.of_wr W17).1) (Keep.of_wr W18).1) (Keep.of_wr W19).1) (Keep.of_wr W20).1) (Keep.of_wr W21).1) (Keep.of_wr W22).1) (Keep.of_wr W23).1) E31.1) E32.1) K33.1) K45.1) (Keep.of_wr W52).1) b31 b32 L33 ((Vp33.keep K45 (ninS ne_b31_b32 nin0)).other W52 ne_b31_b32) (by rw [same53]; exact V52) len33) e52 (by decide) (W := 0) (by decide) (by decide) (by decide) (argsL := [(.ref b31), (.ref b32)]) (rest := []) (by rw [hml]; rfl) (lenOf pd_1 rfl) rfl rfl (Nat.le_of_eq rfl) (hb hby at_227) ?_
      intro T53 L53 u53 X53 hQ53
      obtain ⟨rfl, Nq53, e53⟩ := hQ53
      have N53 := Fr.app N52 Nq53
      show ORun p e below s _ _ _ T53 (mkF m 230 #[.val (.long p1), .second, .val (.int p2), .val (.int v3), .val (.ref b4), .val (.long v29), .second, .val (.ref b31), .val (.ref b32)] [(.int (1 : Int32))])
      refine own_retN X53 hx (t := .boolean) hret (by simp) hlk (hb hby at_230) (by decide) (by decide) ?_
      exact ⟨rfl, N53⟩
  · have t26 := own_nlt hc26 (a := v3.toInt) (b := 19) rfl (by decide)
    refine own_by (fun t k => XS.icmpYes X23.here hx rfl (pc0 := 151) (pc' := 163) rfl (hb hby at_151) rfl (flt hc26).2.1 (by decide) (by decide) k) ?_
    show ORun p e below s _ _ _ T23 (mkF m 163 #[.val (.long p1), .second, .val (.int p2), .val (.int v3), .val (.ref b4), .val (.long v25), .second, .unset, .unset] [])
    obtain ⟨wn54, hwn54⟩ : ∃ i : Nat, i = v25.toInt.toNat := ⟨_, rfl⟩
    obtain ⟨ex54, hex54⟩ : ∃ i : Nat, i = v3.toInt.toNat := ⟨_, rfl⟩
    have fit54 : wn54 < 10 ^ ex54 := by
      have h19 : (10 : Nat) ^ 19 ≤ 10 ^ ex54 := Nat.pow_le_pow_right (by decide) (by omega)
      have c19 : (10 : Nat) ^ 19 = 10000000000000000000 := by decide
      omega
    refine own_by (fun t k => XS.bipush X23.here hx rfl (hb hby at_163) k) ?_
    show ORun p e below s _ _ _ T23 (mkF m 165 #[.val (.long p1), .second, .val (.int p2), .val (.int v3), .val (.ref b4), .val (.long v25), .second, .unset, .unset] [(.int (21 : Int32))])
    refine own_newarray X23 hx hZ (aty := .byte) (hw _ (List.mem_of_getElem? (i := 21) rfl)) e23 rfl (N := 21) (cap := 21) (by decide) (Nat.le_refl _) (by decide) (by decide) (by decide) (ad := "[B") (by decide) (hb hby at_165) ?_
    intro T55 h55 b55 L55 g55 X55 e55 E55 hL55 V55 Ex55
    have len55 : L55.length = 21 := by rw [hL55]; exact List.length_replicate
    have old_b55 : n0 ≤ b55 := Nat.le_trans (Nat.le_trans (Nat.le_trans (Nat.le_trans (Nat.le_trans (Nat.le_trans (Nat.le_trans (Nat.le_trans (Nat.le_trans (Nat.le_trans (Nat.le_trans (Nat.le_trans (Nat.le_trans (Nat.le_trans (Nat.le_trans (Nat.le_trans (Nat.le_trans (Nat.le_trans (Nat.le_trans (Nat.le_trans (Nat.le_trans Z0 E4.1) (Keep.of_wr W5).1) (Keep.of_wr W6).1) (Keep.of_wr W7).1) (Keep.of_wr W8).1) (Keep.of_wr W9).1) (Keep.of_wr W10).1) (Keep.of_wr W11).1) (Keep.of_wr W12).1) (Keep.of_wr W13).1) (Keep.of_wr W14).1) (Keep.of_wr W15).1) (Keep.of_wr W16).1) (Keep.of_wr W17).1) (Keep.of_wr W18).1) (Keep.of_wr W19).1) (Keep.of_wr W20).1) (Keep.of_wr W21).1) (Keep.of_wr W22).1) (Keep.of_wr W23).1) (Nat.le_of_eq g55.symm)
    have sz_b55 : h0.size ≤ b55 := Nat.le_trans (Nat.le_trans (Nat.le_trans (Nat.le_trans (Nat.le_trans (Nat.le_trans (Nat.le_trans (Nat.le_trans (Nat.le_trans (Nat.le_trans (Nat.le_trans (Nat.le_trans (Nat.le_trans (Nat.le_trans (Nat.le_trans (Nat.le_trans (Nat.le_trans (Nat.le_trans (Nat.le_trans (Nat.le_trans (Nat.le_trans (Nat.le_refl h0.size) E4.1) (Keep.of_wr W5).1) (Keep.of_wr W6).1) (Keep.of_wr W7).1) (Keep.of_wr W8).1) (Keep.of_wr W9).1) (Keep.of_wr W10).1) (Keep.of_wr W11).1) (Keep.of_wr W12).1) (Keep.of_wr W13).1) (Keep.of_wr W14).1) (Keep.of_wr W15).1) (Keep.of_wr W16).1) (Keep.of_wr W17).1) (Keep.of_wr W18).1) (Keep.of_wr W19).1) (Keep.of_wr W20).1) (Keep.of_wr W21).1) (Keep.of_wr W22).1) (Keep.of_wr W23).1) (Nat.le_of_eq g55.symm)
    have ne_d1_b55 : d1 ≠ b55 := Nat.ne_of_lt (Nat.lt_of_lt_of_le ((((((((((((((((((((V1.ext E4).other W5 ne_d1_b4).other W6 ne_d1_b4).other W7 ne_d1_b4).other W8 ne_d1_b4).other W9 ne_d1_b4).other W10 ne_d1_b4).other W11 ne_d1_b4).other W12 ne_d1_b4).other W13 ne_d1_b4).other W14 ne_d1_b4).other W15 ne_d1_b4).other W16 ne_d1_b4).other W17 ne_d1_b4).other W18 ne_d1_b4).other W19 ne_d1_b4).other W20 ne_d1_b4).other W21 ne_d1_b4).other W22 ne_d1_b4).other W23 ne_d1_b4).lt (Nat.le_of_eq g55.symm))
    have ne_d2_b55 : d2 ≠ b55 := Nat.ne_of_lt (Nat.lt_of_lt_of_le ((((((((((((((((((((V2.ext E4).other W5 ne_d2_b4).other W6 ne_d2_b4).other W7 ne_d2_b4).other W8 ne_d2_b4).other W9 ne_d2_b4).other W10 ne_d2_b4).other W11 ne_d2_b4).other W12 ne_d2_b4).other W13 ne_d2_b4).other W14 ne_d2_b4).other W15 ne_d2_b4).other W16 ne_d2_b4).other W17 ne_d2_b4).other W18 ne_d2_b4).other W19 ne_d2_b4).other W20 ne_d2_b4).other W21 ne_d2_b4).other W22 ne_d2_b4).other W23 ne_d2_b4).lt (Nat.le_of_eq g55.symm))
    have ne_b4_b55 : b4 ≠ b55 := Nat.ne_of_lt (Nat.lt_of_lt_of_le V23.lt (Nat.le_of_eq g55.symm))
    show ORun p e below s _ _ _ T55 (mkF m 167 #[.val (.long p1), .second, .val (.int p2), .val (.int v3), .val (.ref b4), .val (.long v25), .second, .unset, .unset] [(.ref b55)])
    refine own_by (fun t k => XS.astore X55.here hx rfl (hb hby at_167) rfl rfl (l' := #[.val (.long p1), .second, .val (.int p2), .val (.int v3), .val (.ref b4), .val (.long v25), .second, .val (.ref b55), .unset]) rfl k) ?_
    show ORun p e below s _ _ _ T55 (mkF m 169 #[.val (.long p1), .second, .val (.int p2), .val (.int v3), .val (.ref b4), .val (.long v25), .second, .val (.ref b55), .unset] [])
    refine own_by (fun t k => XS.bipush X55.here hx rfl (hb hby at_169) k) ?_
    show ORun p e below s _ _ _ T55 (mkF m 171 #[.val (.long p1), .second, .val (.int p2), .val (.int v3), .val (.ref b4), .val (.long v25), .second, .val (.ref b55), .unset] [(.int (21 : Int32))])
    refine own_newarray X55 hx hZ (aty := .byte) (hw _ (List.mem_of_getElem? (i := 21) rfl)) e55 rfl (N := 21) (cap := 21) (by decide) (Nat.le_refl _) (by decide) (by decide) (by decide) (ad := "[B") (by decide) (hb hby at_171) ?_
    intro T56 h56 b56 L56 g56 X56 e56 E56 hL56 V56 Ex56
    have len56 : L56.length = 21 := by rw [hL56]; exact List.length_replicate
    have old_b56 : n0 ≤ b56 := Nat.le_trans (Nat.le_trans (Nat.le_trans (Nat.le_trans (Nat.le_trans (Nat.le_trans (Nat.le_trans (Nat.le_trans (Nat.le_trans (Nat.le_trans (Nat.le_trans (Nat.le_trans (Nat.le_trans (Nat.le_trans (Nat.le_trans (Nat.le_trans (Nat.le_trans (Nat.le_trans (Nat.le_trans (Nat.le_trans (Nat.le_trans (Nat.le_trans Z0 E4.1) (Keep.of_wr W5).1) (Keep.of_wr W6).1) (Keep.of_wr W7).1) (Keep.of_wr W8).1) (Keep.of_wr W9).1) (Keep.of_wr W10).1) (Keep.of_wr W11).1) (Keep.of_wr W12).1) (Keep.of_wr W13).1) (Keep.of_wr W14).1) (Keep.of_wr W15).1) (Keep.of_wr W16).1) (Keep.of_wr W17).1) (Keep.of_wr W18).1) (Keep.of_wr W19).1) (Keep.of_wr W20).1) (Keep.of_wr W21).1) (Keep.of_wr W22).1) (Keep.of_wr W23).1) E55.1) (Nat.le_of_eq g56.symm)
    have sz_b56 : h0.size ≤ b56 := Nat.le_trans (Nat.le_trans (Nat.le_trans (Nat.le_trans (Nat.le_trans (Nat.le_trans (Nat.le_trans (Nat.le_trans (Nat.le_trans (Nat.le_trans (Nat.le_trans (Nat.le_trans (Nat.le_trans (Nat.le_trans (Nat.le_trans (Nat.le_trans (Nat.le_trans (Nat.le_trans (Nat.le_trans (Nat.le_trans (Nat.le_trans (Nat.le_trans (Nat.le_refl h0.size) E4.1) (Keep.of_wr W5).1) (Keep.of_wr W6).1) (Keep.of_wr W7).1) (Keep.of_wr W8).1) (Keep.of_wr W9).1) (Keep.of_wr W10).1) (Keep.of_wr W11).1) (Keep.of_wr W12).1) (Keep.of_wr W13).1) (Keep.of_wr W14).1) (Keep.of_wr W15).1) (Keep.of_wr W16).1) (Keep.of_wr W17).1) (Keep.of_wr W18).1) (Keep.of_wr W19).1) (Keep.of_wr W20).1) (Keep.of_wr W21).1) (Keep.of_wr W22).1) (Keep.of_wr W23).1) E55.1) (Nat.le_of_eq g56.symm)
    have ne_d1_b56 : d1 ≠ b56 := Nat.ne_of_lt (Nat.lt_of_lt_of_le (((((((((((((((((((((V1.ext E4).other W5 ne_d1_b4).other W6 ne_d1_b4).other W7 ne_d1_b4).other W8 ne_d1_b4).other W9 ne_d1_b4).other W10 ne_d1_b4).other W11 ne_d1_b4).other W12 ne_d1_b4).other W13 ne_d1_b4).other W14 ne_d1_b4).other W15 ne_d1_b4).other W16 ne_d1_b4).other W17 ne_d1_b4).other W18 ne_d1_b4).other W19 ne_d1_b4).other W20 ne_d1_b4).other W21 ne_d1_b4).other W22 ne_d1_b4).other W23 ne_d1_b4).ext E55).lt (Nat.le_of_eq g56.symm))
    have ne_d2_b56 : d2 ≠ b56 := Nat.ne_of_lt (Nat.lt_of_lt_of_le (((((((((((((((((((((V2.ext E4).other W5 ne_d2_b4).other W6 ne_d2_b4).other W7 ne_d2_b4).other W8 ne_d2_b4).other W9 ne_d2_b4).other W10 ne_d2_b4).other W11 ne_d2_b4).other W12 ne_d2_b4).other W13 ne_d2_b4).other W14 ne_d2_b4).other W15 ne_d2_b4).other W16 ne_d2_b4).other W17 ne_d2_b4).other W18 ne_d2_b4).other W19 ne_d2_b4).other W20 ne_d2_b4).other W21 ne_d2_b4).other W22 ne_d2_b4).other W23 ne_d2_b4).ext E55).lt (Nat.le_of_eq g56.symm))
    have ne_b4_b56 : b4 ≠ b56 := Nat.ne_of_lt (Nat.lt_of_lt_of_le (V23.ext E55).lt (Nat.le_of_eq g56.symm))
    have ne_b55_b56 : b55 ≠ b56 := Nat.ne_of_lt (Nat.lt_of_lt_of_le V55.lt (Nat.le_of_eq g56.symm))
    show ORun p e below s _ _ _ T56 (mkF m 173 #[.val (.long p1), .second, .val (.int p2), .val (.int v3), .val (.ref b4), .val (.long v25), .second, .val (.ref b55), .unset] [(.ref b56)])
    refine own_by (fun t k => XS.astore X56.here hx rfl (hb hby at_173) rfl rfl (l' := #[.val (.long p1), .second, .val (.int p2), .val (.int v3), .val (.ref b4), .val (.long v25), .second, .val (.ref b55), .val (.ref b56)]) rfl k) ?_
    show ORun p e below s _ _ _ T56 (mkF m 175 #[.val (.long p1), .second, .val (.int p2), .val (.int v3), .val (.ref b4), .val (.long v25), .second, .val (.ref b55), .val (.ref b56)] [])
    refine own_by (fun t k => XS.lload X56.here hx rfl (hb hby at_175) rfl k) ?_
    show ORun p e below s _ _ _ T56 (mkF m 177 #[.val (.long p1), .second, .val (.int p2), .val (.int v3), .val (.ref b4), .val (.long v25), .second, .val (.ref b55), .val (.ref b56)] [(.long v25)])
    refine own_by (fun t k => XS.aload X56.here hx rfl (hb hby at_177) rfl rfl k) ?_
    show ORun p e below s _ _ _ T56 (mkF m 179 #[.val (.long p1), .second, .val (.int p2), .val (.int v3), .val (.ref b4), .val (.long v25), .second, .val (.ref b55), .val (.ref b56)] [(.ref b55), (.long v25)])
    refine own_by (fun t k => XS.iloadN X56.here hx rfl (hb hby at_179) rfl k) ?_
    show ORun p e below s _ _ _ T56 (mkF m 180 #[.val (.long p1), .second, .val (.int p2), .val (.int v3), .val (.ref b4), .val (.long v25), .second, .val (.ref b55), .val (.ref b56)] [(.int v3), (.ref b55), (.long v25)])
    refine own_callS X56 hx hZ hown (hw _ (List.mem_of_getElem? (i := 22) rfl)) (hw _ (List.mem_of_getElem? (i := 23) rfl)) (hw _ (List.mem_of_getElem? (i := 24) rfl)) (hw _ (List.mem_of_getElem? (i := 25) rfl)) (by decide) (rm1 l Z a0 hw [] h56 n0 (Nat.le_trans (Nat.le_trans (Nat.le_trans (Nat.le_trans (Nat.le_trans (Nat.le_trans (Nat.le_trans (Nat.le_trans (Nat.le_trans (Nat.le_trans (Nat.le_trans (Nat.le_trans (Nat.le_trans (Nat.le_trans (Nat.le_trans (Nat.le_trans (Nat.le_trans (Nat.le_trans (Nat.le_trans (Nat.le_trans (Nat.le_trans (Nat.le_trans Z0 E4.1) (Keep.of_wr W5).1) (Keep.of_wr W6).1) (Keep.of_wr W7).1) (Keep.of_wr W8).1) (Keep.of_wr W9).1) (Keep.of_wr W10).1) (Keep.of_wr W11).1) (Keep.of_wr W12).1) (Keep.of_wr W13).1) (Keep.of_wr W14).1) (Keep.of_wr W15).1) (Keep.of_wr W16).1) (Keep.of_wr W17).1) (Keep.of_wr W18).1) (Keep.of_wr W19).1) (Keep.of_wr W20).1) (Keep.of_wr W21).1) (Keep.of_wr W22).1) (Keep.of_wr W23).1) E55.1) E56.1) v25 b55 v3 L55 LO LT d1 d2 ex54 wn54 (V55.ext E56) len55 old_b55 ((((((((((((((((((((((S1.ext E4).wr W5).wr W6).wr W7).wr W8).wr W9).wr W10).wr W11).wr W12).wr W13).wr W14).wr W15).wr W16).wr W17).wr W18).wr W19).wr W20).wr W21).wr W22).wr W23).ext E55).ext E56) ((((((((((((((((((((((S2.ext E4).wr W5).wr W6).wr W7).wr W8).wr W9).wr W10).wr W11).wr W12).wr W13).wr W14).wr W15).wr W16).wr W17).wr W18).wr W19).wr W20).wr W21).wr W22).wr W23).ext E55).ext E56) ((((((((((((((((((((((V1.ext E4).other W5 ne_d1_b4).other W6 ne_d1_b4).other W7 ne_d1_b4).other W8 ne_d1_b4).other W9 ne_d1_b4).other W10 ne_d1_b4).other W11 ne_d1_b4).other W12 ne_d1_b4).other W13 ne_d1_b4).other W14 ne_d1_b4).other W15 ne_d1_b4).other W16 ne_d1_b4).other W17 ne_d1_b4).other W18 ne_d1_b4).other W19 ne_d1_b4).other W20 ne_d1_b4).other W21 ne_d1_b4).other W22 ne_d1_b4).other W23 ne_d1_b4).ext E55).ext E56) l1 hO1 ((((((((((((((((((((((V2.ext E4).other W5 ne_d2_b4).other W6 ne_d2_b4).other W7 ne_d2_b4).other W8 ne_d2_b4).other W9 ne_d2_b4).other W10 ne_d2_b4).other W11 ne_d2_b4).other W12 ne_d2_b4).other W13 ne_d2_b4).other W14 ne_d2_b4).other W15 ne_d2_b4).other W16 ne_d2_b4).other W17 ne_d2_b4).other W18 ne_d2_b4).other W19 ne_d2_b4).other W20 ne_d2_b4).other W21 ne_d2_b4).other W22 ne_d2_b4).other W23 ne_d2_b4).ext E55).ext E56) l2 hT1 ne_d1_b55 ne_d2_b55 (by omega) (by omega) (by omega) fit54) e56 (by decide) (W := 0) (by decide) (by decide) (by decide) (argsL := [(.long v25), (.ref b55), (.int v3)]) (rest := []) (by rw [hml]; rfl) (lenOf pd_0 rfl) rfl rfl (Nat.le_of_eq rfl) (hb hby at_180) ?_
    intro T57 L57 u57 X57 hQ57
    obtain ⟨rfl, Nq57, K57, Vp57⟩ := hQ57
    have N57 := Fr.app N23 Nq57
    obtain ⟨L57, hL57⟩ : ∃ z, z = own_put ex54 wn54 L55 := ⟨_, rfl⟩
    rw [← hL57] at Vp57
    have len57 : L57.length = 21 := by rw [hL57, own_put_len]; exact len55
    show ORun p e below s _ _ _ T57 (mkF m 183 #[.val (.long p1), .second, .val (.int p2), .val (.int v3), .val (.ref b4), .val (.long v25), .second, .val (.ref b55), .val (.ref b56)] [])
    refine own_by (fun t k => XS.lload X57.here hx rfl (hb hby at_183) rfl k) ?_
    show ORun p e below s _ _ _ T57 (mkF m 185 #[.val (.long p1), .second, .val (.int p2), .val (.int v3), .val (.ref b4), .val (.long v25), .second, .val (.ref b55), .val (.ref b56)] [(.long v25)])
    refine own_by (fun t k => X57.ldc2Long hx hown (mvT hZ (hw _ (List.mem_of_getElem? (i := 2) rfl))) (g := (mkF m 185 #[.val (.long p1), .second, .val (.int p2), .val (.int v3), .val (.ref b4), .val (.long v25), .second, .val (.ref b55), .val (.ref b56)] [(.long v25)])) rfl (hb hby at_185) _ k) ?_
    show ORun p e below s _ _ _ T57 (mkF m 188 #[.val (.long p1), .second, .val (.int p2), .val (.int v3), .val (.ref b4), .val (.long v25), .second, .val (.ref b55), .val (.ref b56)] [(.long (10 : Int64)), (.long v25)])
    refine own_by (fun t k => XS.lcmp X57.here hx rfl (hb hby at_188) rfl k) ?_
    show ORun p e below s _ _ _ T57 (mkF m 189 #[.val (.long p1), .second, .val (.int p2), .val (.int v3), .val (.ref b4), .val (.long v25), .second, .val (.ref b55), .val (.ref b56)] [(.int (lcmpW v25 (10 : Int64)))])
    by_cases hc58 : v25 < (10 : Int64)
    · have t58 := own_ltL hc58 (a := v25.toInt) (b := 10) rfl (by decide)
      refine own_by (fun t k => XS.ifYes X57.here hx rfl (pc0 := 189) (pc' := 206) rfl (hb hby at_189) rfl (own_lclt hc58).1 (by decide) (by decide) k) ?_
      show ORun p e below s _ _ _ T57 (mkF m 206 #[.val (.long p1), .second, .val (.int p2), .val (.int v3), .val (.ref b4), .val (.long v25), .second, .val (.ref b55), .val (.ref b56)] [])
      refine own_by (fun t k => XS.aload X57.here hx rfl (hb hby at_206) rfl rfl k) ?_
      show ORun p e below s _ _ _ T57 (mkF m 208 #[.val (.long p1), .second, .val (.int p2), .val (.int v3), .val (.ref b4), .val (.long v25), .second, .val (.ref b55), .val (.ref b56)] [(.ref b56)])
      refine own_by (fun t k => XS.iloadN X57.here hx rfl (hb hby at_208) rfl k) ?_
      show ORun p e below s _ _ _ T57 (mkF m 209 #[.val (.long p1), .second, .val (.int p2), .val (.int v3), .val (.ref b4), .val (.long v25), .second, .val (.ref b55), .val (.ref b56)] [(.int v3), (.ref b56)])
      refine own_by (fun t k => XS.iconst X57.here hx rfl (hb hby at_209) k) ?_
      show ORun p e below s _ _ _ T57 (mkF m 210 #[.val (.long p1), .second, .val (.int p2), .val (.int v3), .val (.ref b4), .val (.long v25), .second, .val (.ref b55), .val (.ref b56)] [(.int (1 : Int32)), (.int v3), (.ref b56)])
      refine own_by (fun t k => XS.isub X57.here hx rfl (hb hby at_210) rfl k) (own_letI (f := (fun z => (mkF m 211 #[.val (.long p1), .second, .val (.int p2), .val (.int v3), .val (.ref b4), .val (.long v25), .second, .val (.ref b55), .val (.ref b56)] [(.int z), (.ref b56)]))) (v3 - (1 : Int32)) fun v59 hv59 => ?_)
      show ORun p e below s _ _ _ T57 (mkF m 211 #[.val (.long p1), .second, .val (.int p2), .val (.int v3), .val (.ref b4), .val (.long v25), .second, .val (.ref b55), .val (.ref b56)] [(.int v59), (.ref b56)])
      have r59 := rng32 v59
      have a59 : v59.toInt = v3.toInt - 1 := by
        have q : (v59.toInt - (v3.toInt - 1)) % 4294967296 = 0 := by rw [hv59]; exact c_isub v3 (1 : Int32)
        omega
      refine own_by (fun t k => XS.bipush X57.here hx rfl (hb hby at_211) k) ?_
      show ORun p e below s _ _ _ T57 (mkF m 213 #[.val (.long p1), .second, .val (.int p2), .val (.int v3), .val (.ref b4), .val (.long v25), .second, .val (.ref b55), .val (.ref b56)] [(.int (48 : Int32)), (.int v59), (.ref b56)])
      refine own_by (fun t k => XS.lload X57.here hx rfl (hb hby at_213) rfl k) ?_
      show ORun p e below s _ _ _ T57 (mkF m 215 #[.val (.long p1), .second, .val (.int p2), .val (.int v3), .val (.ref b4), .val (.long v25), .second, .val (.ref b55), .val (.ref b56)] [(.long v25), (.int (48 : Int32)), (.int v59), (.ref b56)])
      refine own_by (fun t k => X57.ldc2Long hx hown (mvT hZ (hw _ (List.mem_of_getElem? (i := 2) rfl))) (g := (mkF m 215 #[.val (.long p1), .second, .val (.int p2), .val (.int v3), .val (.ref b4), .val (.long v25), .second, .val (.ref b55), .val (.ref b56)] [(.long v25), (.int (48 : Int32)), (.int v59), (.ref b56)])) rfl (hb hby at_215) _ k) ?_
      show ORun p e below s _ _ _ T57 (mkF m 218 #[.val (.long p1), .second, .val (.int p2), .val (.int v3), .val (.ref b4), .val (.long v25), .second, .val (.ref b55), .val (.ref b56)] [(.long (10 : Int64)), (.long v25), (.int (48 : Int32)), (.int v59), (.ref b56)])
      refine own_by (fun t k => XS.lrem X57.here hx rfl (hb hby at_218) rfl (by decide) k) (own_letJ (f := (fun z => (mkF m 219 #[.val (.long p1), .second, .val (.int p2), .val (.int v3), .val (.ref b4), .val (.long v25), .second, .val (.ref b55), .val (.ref b56)] [(.long z), (.int (48 : Int32)), (.int v59), (.ref b56)]))) (v25 - (v25 / (10 : Int64)) * (10 : Int64)) fun v60 hv60 => ?_)
      show ORun p e below s _ _ _ T57 (mkF m 219 #[.val (.long p1), .second, .val (.int p2), .val (.int v3), .val (.ref b4), .val (.long v25), .second, .val (.ref b55), .val (.ref b56)] [(.long v60), (.int (48 : Int32)), (.int v59), (.ref b56)])
      have r60 := rng64 v60
      have a60 : v60.toInt = v25.toInt % 10 := by
        have q : (0 ≤ v25.toInt → v60.toInt = v25.toInt % 10) ∧ (v25.toInt < 0 → v60.toInt = -((-v25.toInt) % 10)) := by rw [hv60]; exact c_lrem v25 (10 : Int64) 10 (by decide)
        omega
      refine own_by (fun t k => XS.l2i X57.here hx rfl (hb hby at_219) rfl k) (own_letI (f := (fun z => (mkF m 220 #[.val (.long p1), .second, .val (.int p2), .val (.int v3), .val (.ref b4), .val (.long v25), .second, .val (.ref b55), .val (.ref b56)] [(.int z), (.int (48 : Int32)), (.int v59), (.ref b56)]))) (v60.toInt32) fun v61 hv61 => ?_)
      show ORun p e below s _ _ _ T57 (mkF m 220 #[.val (.long p1), .second, .val (.int p2), .val (.int v3), .val (.ref b4), .val (.long v25), .second, .val (.ref b55), .val (.ref b56)] [(.int v61), (.int (48 : Int32)), (.int v59), (.ref b56)])
      have r61 := rng32 v61
      have a61 : v61.toInt = v60.toInt := by
        have q : (v61.toInt - v60.toInt) % 4294967296 = 0 := by rw [hv61]; exact c_l2i v60
        omega
      refine own_by (fun t k => XS.iadd X57.here hx rfl (hb hby at_220) rfl k) (own_letI (f := (fun z => (mkF m 221 #[.val (.long p1), .second, .val (.int p2), .val (.int v3), .val (.ref b4), .val (.long v25), .second, .val (.ref b55), .val (.ref b56)] [(.int z), (.int v59), (.ref b56)]))) ((48 : Int32) + v61) fun v62 hv62 => ?_)
      show ORun p e below s _ _ _ T57 (mkF m 221 #[.val (.long p1), .second, .val (.int p2), .val (.int v3), .val (.ref b4), .val (.long v25), .second, .val (.ref b55), .val (.ref b56)] [(.int v62), (.int v59), (.ref b56)])
      have r62 := rng32 v62
      have a62 : v62.toInt = 48 + v61.toInt := by
        have q : (v62.toInt - (48 + v61.toInt)) % 4294967296 = 0 := by rw [hv62]; exact c_iadd (48 : Int32) v61
        omega
      refine own_by (fun t k => XS.i2b X57.here hx rfl (hb hby at_221) rfl k) (own_letI (f := (fun z => (mkF m 222 #[.val (.long p1), .second, .val (.int p2), .val (.int v3), .val (.ref b4), .val (.long v25), .second, .val (.ref b55), .val (.ref b56)] [(.int z), (.int v59), (.ref b56)]))) (v62.toInt8.toInt32) fun v63 hv63 => ?_)
      show ORun p e below s _ _ _ T57 (mkF m 222 #[.val (.long p1), .second, .val (.int p2), .val (.int v3), .val (.ref b4), .val (.long v25), .second, .val (.ref b55), .val (.ref b56)] [(.int v63), (.int v59), (.ref b56)])
      have r63 := rng32 v63
      have a63 : v63.toInt = v62.toInt := by
        have q : (v63.toInt - v62.toInt) % 256 = 0 ∧ -128 ≤ v63.toInt ∧ v63.toInt < 128 := by rw [hv63]; exact c_i2b v62
        omega
      have nb64 : (nar .byte v63).toInt = v63.toInt := by have q := c_i2b v63; show v63.toInt8.toInt32.toInt = _; omega
      refine own_bastore X57 hx hZ rfl (V56.keep K57 (ninS (Ne.symm ne_b55_b56) nin0)) (i := v59.toInt.toNat) (by omega) (by omega) (hb hby at_222) ?_
      intro T65 h65 L65 X65 e65 W65 hL65 V65
      have len65 : L65.length = 21 := by rw [hL65, List.length_set]; exact len56
      have N65 := Fr.snoc X65 N57 old_b56
      show ORun p e below s _ _ _ T65 (mkF m 223 #[.val (.long p1), .second, .val (.int p2), .val (.int v3), .val (.ref b4), .val (.long v25), .second, .val (.ref b55), .val (.ref b56)] [])
      refine own_by (fun t k => XS.aload X65.here hx rfl (hb hby at_223) rfl rfl k) ?_
      show ORun p e below s _ _ _ T65 (mkF m 225 #[.val (.long p1), .second, .val (.int p2), .val (.int v3), .val (.ref b4), .val (.long v25), .second, .val (.ref b55), .val (.ref b56)] [(.ref b55)])
      refine own_by (fun t k => XS.aload X65.here hx rfl (hb hby at_225) rfl rfl k) ?_
      show ORun p e below s _ _ _ T65 (mkF m 227 #[.val (.long p1), .second, .val (.int p2), .val (.int v3), .val (.ref b4), .val (.long v25), .second, .val (.ref b55), .val (.ref b56)] [(.ref b56), (.ref b55)])
      have eZ66 : L56 = L55 := hL56.trans hL55.symm
      have same66 : L57 = L65 := own_law (e := ex54) (n := wn54) (B := L56) (x := nar .byte v63) (by omega) hL57 (Or.inr ⟨by omega, eZ66⟩) (hB1 := by rw [hL65]; congr 1; omega) (by omega)
      refine own_callS X65 hx hZ hown (hw _ (List.mem_of_getElem? (i := 27) rfl)) (hw _ (List.mem_of_getElem? (i := 28) rfl)) (hw _ (List.mem_of_getElem? (i := 29) rfl)) (hw _ (List.mem_of_getElem? (i := 30) rfl)) (by decide) (rm2 l Z a0 hw [] h65 n0 (Nat.le_trans (Nat.le_trans (Nat.le_trans (Nat.le_trans (Nat.le_trans (Nat.le_trans (Nat.le_trans (Nat.le_trans (Nat.le_trans (Nat.le_trans (Nat.le_trans (Nat.le_trans (Nat.le_trans (Nat.le_trans (Nat.le_trans (Nat.le_trans (Nat.le_trans (Nat.le_trans (Nat.le_trans (Nat.le_trans (Nat.le_trans (Nat.le_trans (Nat.le_trans (Nat.le_trans Z0 E4.1) (Keep.of_wr W5).1) (Keep.of_wr W6).1) (Keep.of_wr W7).1) (Keep.of_wr W8).1) (Keep.of_wr W9).1) (Keep.of_wr W10).1) (Keep.of_wr W11).1) (Keep.of_wr W12).1) (Keep.of_wr W13).1) (Keep.of_wr W14).1) (Keep.of_wr W15).1) (Keep.of_wr W16).1) (Keep.of_wr W17).1) (Keep.of_wr W18).1) (Keep.of_wr W19).1) (Keep.of_wr W20).1) (Keep.of_wr W21).1) (Keep.of_wr W22).1) (Keep.of_wr W23).1) E55.1) E56.1) K57.1) (Keep.of_wr W65).1) b55 b56 L57 (Vp57.other W65 ne_b55_b56) (by rw [same66]; exact V65) len57) e65 (by decide) (W := 0) (by decide) (by decide) (by decide) (argsL := [(.ref b55), (.ref b56)]) (rest := []) (by rw [hml]; rfl) (lenOf pd_1 rfl) rfl rfl (Nat.le_of_eq rfl) (hb hby at_227) ?_
      intro T66 L66 u66 X66 hQ66
      obtain ⟨rfl, Nq66, e66⟩ := hQ66
      have N66 := Fr.app N65 Nq66
      show ORun p e below s _ _ _ T66 (mkF m 230 #[.val (.long p1), .second, .val (.int p2), .val (.int v3), .val (.ref b4), .val (.long v25), .second, .val (.ref b55), .val (.ref b56)] [(.int (1 : Int32))])
      refine own_retN X66 hx (t := .boolean) hret (by simp) hlk (hb hby at_230) (by decide) (by decide) ?_
      exact ⟨rfl, N66⟩
    · have t58 := own_nltL hc58 (a := v25.toInt) (b := 10) rfl (by decide)
      refine own_by (fun t k => XS.ifNo X57.here hx rfl (hb hby at_189) rfl (own_lcnlt hc58).1 k) ?_
      show ORun p e below s _ _ _ T57 (mkF m 192 #[.val (.long p1), .second, .val (.int p2), .val (.int v3), .val (.ref b4), .val (.long v25), .second, .val (.ref b55), .val (.ref b56)] [])
      refine own_by (fun t k => XS.lload X57.here hx rfl (hb hby at_192) rfl k) ?_
      show ORun p e below s _ _ _ T57 (mkF m 194 #[.val (.long p1), .second, .val (.int p2), .val (.int v3), .val (.ref b4), .val (.long v25), .second, .val (.ref b55), .val (.ref b56)] [(.long v25)])
      refine own_by (fun t k => X57.ldc2Long hx hown (mvT hZ (hw _ (List.mem_of_getElem? (i := 2) rfl))) (g := (mkF m 194 #[.val (.long p1), .second, .val (.int p2), .val (.int v3), .val (.ref b4), .val (.long v25), .second, .val (.ref b55), .val (.ref b56)] [(.long v25)])) rfl (hb hby at_194) _ k) ?_
      show ORun p e below s _ _ _ T57 (mkF m 197 #[.val (.long p1), .second, .val (.int p2), .val (.int v3), .val (.ref b4), .val (.long v25), .second, .val (.ref b55), .val (.ref b56)] [(.long (10 : Int64)), (.long v25)])
      refine own_by (fun t k => XS.ldiv X57.here hx rfl (hb hby at_197) rfl (by decide) k) (own_letJ (f := (fun z => (mkF m 198 #[.val (.long p1), .second, .val (.int p2), .val (.int v3), .val (.ref b4), .val (.long v25), .second, .val (.ref b55), .val (.ref b56)] [(.long z)]))) (v25 / (10 : Int64)) fun v67 hv67 => ?_)
      show ORun p e below s _ _ _ T57 (mkF m 198 #[.val (.long p1), .second, .val (.int p2), .val (.int v3), .val (.ref b4), .val (.long v25), .second, .val (.ref b55), .val (.ref b56)] [(.long v67)])
      have r67 := rng64 v67
      have a67 : v67.toInt = v25.toInt / 10 := by
        have q : (0 ≤ v25.toInt → v67.toInt = v25.toInt / 10) ∧ (v25.toInt < 0 → v67.toInt = -((-v25.toInt) / 10)) := by rw [hv67]; exact c_ldiv v25 (10 : Int64) 10 (by decide) (by decide)
        omega
      refine own_by (fun t k => XS.aload X57.here hx rfl (hb hby at_198) rfl rfl k) ?_
      show ORun p e below s _ _ _ T57 (mkF m 200 #[.val (.long p1), .second, .val (.int p2), .val (.int v3), .val (.ref b4), .val (.long v25), .second, .val (.ref b55), .val (.ref b56)] [(.ref b56), (.long v67)])
      refine own_by (fun t k => XS.iloadN X57.here hx rfl (hb hby at_200) rfl k) ?_
      show ORun p e below s _ _ _ T57 (mkF m 201 #[.val (.long p1), .second, .val (.int p2), .val (.int v3), .val (.ref b4), .val (.long v25), .second, .val (.ref b55), .val (.ref b56)] [(.int v3), (.ref b56), (.long v67)])
      refine own_by (fun t k => XS.iconst X57.here hx rfl (hb hby at_201) k) ?_
      show ORun p e below s _ _ _ T57 (mkF m 202 #[.val (.long p1), .second, .val (.int p2), .val (.int v3), .val (.ref b4), .val (.long v25), .second, .val (.ref b55), .val (.ref b56)] [(.int (1 : Int32)), (.int v3), (.ref b56), (.long v67)])
      refine own_by (fun t k => XS.isub X57.here hx rfl (hb hby at_202) rfl k) (own_letI (f := (fun z => (mkF m 203 #[.val (.long p1), .second, .val (.int p2), .val (.int v3), .val (.ref b4), .val (.long v25), .second, .val (.ref b55), .val (.ref b56)] [(.int z), (.ref b56), (.long v67)]))) (v3 - (1 : Int32)) fun v68 hv68 => ?_)
      show ORun p e below s _ _ _ T57 (mkF m 203 #[.val (.long p1), .second, .val (.int p2), .val (.int v3), .val (.ref b4), .val (.long v25), .second, .val (.ref b55), .val (.ref b56)] [(.int v68), (.ref b56), (.long v67)])
      have r68 := rng32 v68
      have a68 : v68.toInt = v3.toInt - 1 := by
        have q : (v68.toInt - (v3.toInt - 1)) % 4294967296 = 0 := by rw [hv68]; exact c_isub v3 (1 : Int32)
        omega
      have f2_69 := own_fit2 (q := ex54) (w := wn54) (by omega) fit54
      have ft69 : wn54 / 10 < 10 ^ (ex54 - 1) := by
        have e1 : 10 ^ ex54 = 10 * 10 ^ (ex54 - 1) := by rw [← Nat.pow_succ']; congr 1; omega
        rw [e1] at fit54
        exact Nat.div_lt_of_lt_mul fit54
      refine own_callS X57 hx hZ hown (hw _ (List.mem_of_getElem? (i := 22) rfl)) (hw _ (List.mem_of_getElem? (i := 23) rfl)) (hw _ (List.mem_of_getElem? (i := 24) rfl)) (hw _ (List.mem_of_getElem? (i := 25) rfl)) (by decide) (rm1 l Z a0 hw [] T57.heap n0 (Nat.le_trans (Nat.le_trans (Nat.le_trans (Nat.le_trans (Nat.le_trans (Nat.le_trans (Nat.le_trans (Nat.le_trans (Nat.le_trans (Nat.le_trans (Nat.le_trans (Nat.le_trans (Nat.le_trans (Nat.le_trans (Nat.le_trans (Nat.le_trans (Nat.le_trans (Nat.le_trans (Nat.le_trans (Nat.le_trans (Nat.le_trans (Nat.le_trans (Nat.le_trans Z0 E4.1) (Keep.of_wr W5).1) (Keep.of_wr W6).1) (Keep.of_wr W7).1) (Keep.of_wr W8).1) (Keep.of_wr W9).1) (Keep.of_wr W10).1) (Keep.of_wr W11).1) (Keep.of_wr W12).1) (Keep.of_wr W13).1) (Keep.of_wr W14).1) (Keep.of_wr W15).1) (Keep.of_wr W16).1) (Keep.of_wr W17).1) (Keep.of_wr W18).1) (Keep.of_wr W19).1) (Keep.of_wr W20).1) (Keep.of_wr W21).1) (Keep.of_wr W22).1) (Keep.of_wr W23).1) E55.1) E56.1) K57.1) v67 b56 v68 L56 LO LT d1 d2 (ex54 - 1) (wn54 / 10) (V56.keep K57 (ninS (Ne.symm ne_b55_b56) nin0)) len56 old_b56 (S1.ext (own_kext ((((((((((((((((((((((((Keep.refl h0 []).ext E4).wr W5 (Or.inr sz_b4)).wr W6 (Or.inr sz_b4)).wr W7 (Or.inr sz_b4)).wr W8 (Or.inr sz_b4)).wr W9 (Or.inr sz_b4)).wr W10 (Or.inr sz_b4)).wr W11 (Or.inr sz_b4)).wr W12 (Or.inr sz_b4)).wr W13 (Or.inr sz_b4)).wr W14 (Or.inr sz_b4)).wr W15 (Or.inr sz_b4)).wr W16 (Or.inr sz_b4)).wr W17 (Or.inr sz_b4)).wr W18 (Or.inr sz_b4)).wr W19 (Or.inr sz_b4)).wr W20 (Or.inr sz_b4)).wr W21 (Or.inr sz_b4)).wr W22 (Or.inr sz_b4)).wr W23 (Or.inr sz_b4)).ext E55).ext E56).trans K57 (allS (Or.inr sz_b55) all0)))) (S2.ext (own_kext ((((((((((((((((((((((((Keep.refl h0 []).ext E4).wr W5 (Or.inr sz_b4)).wr W6 (Or.inr sz_b4)).wr W7 (Or.inr sz_b4)).wr W8 (Or.inr sz_b4)).wr W9 (Or.inr sz_b4)).wr W10 (Or.inr sz_b4)).wr W11 (Or.inr sz_b4)).wr W12 (Or.inr sz_b4)).wr W13 (Or.inr sz_b4)).wr W14 (Or.inr sz_b4)).wr W15 (Or.inr sz_b4)).wr W16 (Or.inr sz_b4)).wr W17 (Or.inr sz_b4)).wr W18 (Or.inr sz_b4)).wr W19 (Or.inr sz_b4)).wr W20 (Or.inr sz_b4)).wr W21 (Or.inr sz_b4)).wr W22 (Or.inr sz_b4)).wr W23 (Or.inr sz_b4)).ext E55).ext E56).trans K57 (allS (Or.inr sz_b55) all0)))) (((((((((((((((((((((((V1.ext E4).other W5 ne_d1_b4).other W6 ne_d1_b4).other W7 ne_d1_b4).other W8 ne_d1_b4).other W9 ne_d1_b4).other W10 ne_d1_b4).other W11 ne_d1_b4).other W12 ne_d1_b4).other W13 ne_d1_b4).other W14 ne_d1_b4).other W15 ne_d1_b4).other W16 ne_d1_b4).other W17 ne_d1_b4).other W18 ne_d1_b4).other W19 ne_d1_b4).other W20 ne_d1_b4).other W21 ne_d1_b4).other W22 ne_d1_b4).other W23 ne_d1_b4).ext E55).ext E56).keep K57 (ninS ne_d1_b55 nin0)) l1 hO1 (((((((((((((((((((((((V2.ext E4).other W5 ne_d2_b4).other W6 ne_d2_b4).other W7 ne_d2_b4).other W8 ne_d2_b4).other W9 ne_d2_b4).other W10 ne_d2_b4).other W11 ne_d2_b4).other W12 ne_d2_b4).other W13 ne_d2_b4).other W14 ne_d2_b4).other W15 ne_d2_b4).other W16 ne_d2_b4).other W17 ne_d2_b4).other W18 ne_d2_b4).other W19 ne_d2_b4).other W20 ne_d2_b4).other W21 ne_d2_b4).other W22 ne_d2_b4).other W23 ne_d2_b4).ext E55).ext E56).keep K57 (ninS ne_d2_b55 nin0)) l2 hT1 ne_d1_b56 ne_d2_b56 (by omega) (by omega) (by omega) ft69) rfl (by decide) (W := 0) (by decide) (by decide) (by decide) (argsL := [(.long v67), (.ref b56), (.int v68)]) (rest := []) (by rw [hml]; rfl) (lenOf pd_0 rfl) rfl rfl (Nat.le_of_eq rfl) (hb hby at_203) ?_
      intro T69 L69 u69 X69 hQ69
      obtain ⟨rfl, Nq69, K69, Vp69⟩ := hQ69
      have N69 := Fr.app N57 Nq69
      obtain ⟨L69, hL69⟩ : ∃ z, z = own_put (ex54 - 1) (wn54 / 10) L56 := ⟨_, rfl⟩
      rw [← hL69] at Vp69
      have len69 : L69.length = 21 := by rw [hL69, own_put_len]; exact len56
      show ORun p e below s _ _ _ T69 (mkF m 206 #[.val (.long p1), .second, .val (.int p2), .val (.int v3), .val (.ref b4), .val (.long v25), .second, .val (.ref b55), .val (.ref b56)] [])
      refine own_by (fun t k => XS.aload X69.here hx rfl (hb hby at_206) rfl rfl k) ?_
      show ORun p e below s _ _ _ T69 (mkF m 208 #[.val (.long p1), .second, .val (.int p2), .val (.int v3), .val (.ref b4), .val (.long v25), .second, .val (.ref b55), .val (.ref b56)] [(.ref b56)])
      refine own_by (fun t k => XS.iloadN X69.here hx rfl (hb hby at_208) rfl k) ?_
      show ORun p e below s _ _ _ T69 (mkF m 209 #[.val (.long p1), .second, .val (.int p2), .val (.int v3), .val (.ref b4), .val (.long v25), .second, .val (.ref b55), .val (.ref b56)] [(.int v3), (.ref b56)])
      refine own_by (fun t k => XS.iconst X69.here hx rfl (hb hby at_209) k) ?_
      show ORun p e below s _ _ _ T69 (mkF m 210 #[.val (.long p1), .second, .val (.int p2), .val (.int v3), .val (.ref b4), .val (.long v25), .second, .val (.ref b55), .val (.ref b56)] [(.int (1 : Int32)), (.int v3), (.ref b56)])
      refine own_by (fun t k => XS.isub X69.here hx rfl (hb hby at_210) rfl k) (own_letI (f := (fun z => (mkF m 211 #[.val (.long p1), .second, .val (.int p2), .val (.int v3), .val (.ref b4), .val (.long v25), .second, .val (.ref b55), .val (.ref b56)] [(.int z), (.ref b56)]))) (v3 - (1 : Int32)) fun v70 hv70 => ?_)
      show ORun p e below s _ _ _ T69 (mkF m 211 #[.val (.long p1), .second, .val (.int p2), .val (.int v3), .val (.ref b4), .val (.long v25), .second, .val (.ref b55), .val (.ref b56)] [(.int v70), (.ref b56)])
      have r70 := rng32 v70
      have a70 : v70.toInt = v3.toInt - 1 := by
        have q : (v70.toInt - (v3.toInt - 1)) % 4294967296 = 0 := by rw [hv70]; exact c_isub v3 (1 : Int32)
        omega
      refine own_by (fun t k => XS.bipush X69.here hx rfl (hb hby at_211) k) ?_
      show ORun p e below s _ _ _ T69 (mkF m 213 #[.val (.long p1), .second, .val (.int p2), .val (.int v3), .val (.ref b4), .val (.long v25), .second, .val (.ref b55), .val (.ref b56)] [(.int (48 : Int32)), (.int v70), (.ref b56)])
      refine own_by (fun t k => XS.lload X69.here hx rfl (hb hby at_213) rfl k) ?_
      show ORun p e below s _ _ _ T69 (mkF m 215 #[.val (.long p1), .second, .val (.int p2), .val (.int v3), .val (.ref b4), .val (.long v25), .second, .val (.ref b55), .val (.ref b56)] [(.long v25), (.int (48 : Int32)), (.int v70), (.ref b56)])
      refine own_by (fun t k => X69.ldc2Long hx hown (mvT hZ (hw _ (List.mem_of_getElem? (i := 2) rfl))) (g := (mkF m 215 #[.val (.long p1), .second, .val (.int p2), .val (.int v3), .val (.ref b4), .val (.long v25), .second, .val (.ref b55), .val (.ref b56)] [(.long v25), (.int (48 : Int32)), (.int v70), (.ref b56)])) rfl (hb hby at_215) _ k) ?_
      show ORun p e below s _ _ _ T69 (mkF m 218 #[.val (.long p1), .second, .val (.int p2), .val (.int v3), .val (.ref b4), .val (.long v25), .second, .val (.ref b55), .val (.ref b56)] [(.long (10 : Int64)), (.long v25), (.int (48 : Int32)), (.int v70), (.ref b56)])
      refine own_by (fun t k => XS.lrem X69.here hx rfl (hb hby at_218) rfl (by decide) k) (own_letJ (f := (fun z => (mkF m 219 #[.val (.long p1), .second, .val (.int p2), .val (.int v3), .val (.ref b4), .val (.long v25), .second, .val (.ref b55), .val (.ref b56)] [(.long z), (.int (48 : Int32)), (.int v70), (.ref b56)]))) (v25 - (v25 / (10 : Int64)) * (10 : Int64)) fun v71 hv71 => ?_)
      show ORun p e below s _ _ _ T69 (mkF m 219 #[.val (.long p1), .second, .val (.int p2), .val (.int v3), .val (.ref b4), .val (.long v25), .second, .val (.ref b55), .val (.ref b56)] [(.long v71), (.int (48 : Int32)), (.int v70), (.ref b56)])
      have r71 := rng64 v71
      have a71 : v71.toInt = v25.toInt % 10 := by
        have q : (0 ≤ v25.toInt → v71.toInt = v25.toInt % 10) ∧ (v25.toInt < 0 → v71.toInt = -((-v25.toInt) % 10)) := by rw [hv71]; exact c_lrem v25 (10 : Int64) 10 (by decide)
        omega
      refine own_by (fun t k => XS.l2i X69.here hx rfl (hb hby at_219) rfl k) (own_letI (f := (fun z => (mkF m 220 #[.val (.long p1), .second, .val (.int p2), .val (.int v3), .val (.ref b4), .val (.long v25), .second, .val (.ref b55), .val (.ref b56)] [(.int z), (.int (48 : Int32)), (.int v70), (.ref b56)]))) (v71.toInt32) fun v72 hv72 => ?_)
      show ORun p e below s _ _ _ T69 (mkF m 220 #[.val (.long p1), .second, .val (.int p2), .val (.int v3), .val (.ref b4), .val (.long v25), .second, .val (.ref b55), .val (.ref b56)] [(.int v72), (.int (48 : Int32)), (.int v70), (.ref b56)])
      have r72 := rng32 v72
      have a72 : v72.toInt = v71.toInt := by
        have q : (v72.toInt - v71.toInt) % 4294967296 = 0 := by rw [hv72]; exact c_l2i v71
        omega
      refine own_by (fun t k => XS.iadd X69.here hx rfl (hb hby at_220) rfl k) (own_letI (f := (fun z => (mkF m 221 #[.val (.long p1), .second, .val (.int p2), .val (.int v3), .val (.ref b4), .val (.long v25), .second, .val (.ref b55), .val (.ref b56)] [(.int z), (.int v70), (.ref b56)]))) ((48 : Int32) + v72) fun v73 hv73 => ?_)
      show ORun p e below s _ _ _ T69 (mkF m 221 #[.val (.long p1), .second, .val (.int p2), .val (.int v3), .val (.ref b4), .val (.long v25), .second, .val (.ref b55), .val (.ref b56)] [(.int v73), (.int v70), (.ref b56)])
      have r73 := rng32 v73
      have a73 : v73.toInt = 48 + v72.toInt := by
        have q : (v73.toInt - (48 + v72.toInt)) % 4294967296 = 0 := by rw [hv73]; exact c_iadd (48 : Int32) v72
        omega
      refine own_by (fun t k => XS.i2b X69.here hx rfl (hb hby at_221) rfl k) (own_letI (f := (fun z => (mkF m 222 #[.val (.long p1), .second, .val (.int p2), .val (.int v3), .val (.ref b4), .val (.long v25), .second, .val (.ref b55), .val (.ref b56)] [(.int z), (.int v70), (.ref b56)]))) (v73.toInt8.toInt32) fun v74 hv74 => ?_)
      show ORun p e below s _ _ _ T69 (mkF m 222 #[.val (.long p1), .second, .val (.int p2), .val (.int v3), .val (.ref b4), .val (.long v25), .second, .val (.ref b55), .val (.ref b56)] [(.int v74), (.int v70), (.ref b56)])
      have r74 := rng32 v74
      have a74 : v74.toInt = v73.toInt := by
        have q : (v74.toInt - v73.toInt) % 256 = 0 ∧ -128 ≤ v74.toInt ∧ v74.toInt < 128 := by rw [hv74]; exact c_i2b v73
        omega
      have nb75 : (nar .byte v74).toInt = v74.toInt := by have q := c_i2b v74; show v74.toInt8.toInt32.toInt = _; omega
      refine own_bastore X69 hx hZ rfl Vp69 (i := v70.toInt.toNat) (by omega) (by omega) (hb hby at_222) ?_
      intro T76 h76 L76 X76 e76 W76 hL76 V76
      have len76 : L76.length = 21 := by rw [hL76, List.length_set]; exact len69
      have N76 := Fr.snoc X76 N69 old_b56
      show ORun p e below s _ _ _ T76 (mkF m 223 #[.val (.long p1), .second, .val (.int p2), .val (.int v3), .val (.ref b4), .val (.long v25), .second, .val (.ref b55), .val (.ref b56)] [])
      refine own_by (fun t k => XS.aload X76.here hx rfl (hb hby at_223) rfl rfl k) ?_
      show ORun p e below s _ _ _ T76 (mkF m 225 #[.val (.long p1), .second, .val (.int p2), .val (.int v3), .val (.ref b4), .val (.long v25), .second, .val (.ref b55), .val (.ref b56)] [(.ref b55)])
      refine own_by (fun t k => XS.aload X76.here hx rfl (hb hby at_225) rfl rfl k) ?_
      show ORun p e below s _ _ _ T76 (mkF m 227 #[.val (.long p1), .second, .val (.int p2), .val (.int v3), .val (.ref b4), .val (.long v25), .second, .val (.ref b55), .val (.ref b56)] [(.ref b56), (.ref b55)])
      have eZ77 : L56 = L55 := hL56.trans hL55.symm
      have same77 : L57 = L76 := own_law (e := ex54) (n := wn54) (B := L69) (x := nar .byte v74) (by omega) hL57 (Or.inl ⟨by omega, by rw [hL69, eZ77]⟩) (hB1 := by rw [hL76]; congr 1; omega) (by omega)
      refine own_callS X76 hx hZ hown (hw _ (List.mem_of_getElem? (i := 27) rfl)) (hw _ (List.mem_of_getElem? (i := 28) rfl)) (hw _ (List.mem_of_getElem? (i := 29) rfl)) (hw _ (List.mem_of_getElem? (i := 30) rfl)) (by decide) (rm2 l Z a0 hw [] h76 n0 (Nat.le_trans (Nat.le_trans (Nat.le_trans (Nat.le_trans (Nat.le_trans (Nat.le_trans (Nat.le_trans (Nat.le_trans (Nat.le_trans (Nat.le_trans (Nat.le_trans (Nat.le_trans (Nat.le_trans (Nat.le_trans (Nat.le_trans (Nat.le_trans (Nat.le_trans (Nat.le_trans (Nat.le_trans (Nat.le_trans (Nat.le_trans (Nat.le_trans (Nat.le_trans (Nat.le_trans (Nat.le_trans Z0 E4.1) (Keep.of_wr W5).1) (Keep.of_wr W6).1) (Keep.of_wr W7).1) (Keep.of_wr W8).1) (Keep.of_wr W9).1) (Keep.of_wr W10).1) (Keep.of_wr W11).1) (Keep.of_wr W12).1) (Keep.of_wr W13).1) (Keep.of_wr W14).1) (Keep.of_wr W15).1) (Keep.of_wr W16).1) (Keep.of_wr W17).1) (Keep.of_wr W18).1) (Keep.of_wr W19).1) (Keep.of_wr W20).1) (Keep.of_wr W21).1) (Keep.of_wr W22).1) (Keep.of_wr W23).1) E55.1) E56.1) K57.1) K69.1) (Keep.of_wr W76).1) b55 b56 L57 ((Vp57.keep K69 (ninS ne_b55_b56 nin0)).other W76 ne_b55_b56) (by rw [same77]; exact V76) len57) e76 (by decide) (W := 0) (by decide) (by decide) (by decide) (argsL := [(.ref b55), (.ref b56)]) (rest := []) (by rw [hml]; rfl) (lenOf pd_1 rfl) rfl rfl (Nat.le_of_eq rfl) (hb hby at_227) ?_
      intro T77 L77 u77 X77 hQ77
      obtain ⟨rfl, Nq77, e77⟩ := hQ77
      have N77 := Fr.app N76 Nq77
      show ORun p e below s _ _ _ T77 (mkF m 230 #[.val (.long p1), .second, .val (.int p2), .val (.int v3), .val (.ref b4), .val (.long v25), .second, .val (.ref b55), .val (.ref b56)] [(.int (1 : Int32))])
      refine own_retN X77 hx (t := .boolean) hret (by simp) hlk (hb hby at_230) (by decide) (by decide) ?_
      exact ⟨rfl, N77⟩
set_option maxRecDepth 65536 in
set_option maxHeartbeats 40000000 in
theorem comes_1 {Post : Tables → Env → Array Value → State → Outcome → State → Prop} (hpost : ∀ tb e args s v u, (limb_1_1.after args s (.returned v) u = true ∧ limb_1_2.after args s (.returned v) u = true ∧ True) → FrameEnd s (.returned v) u (Jvm.fieldLocs frame_1_writes args s ++ Jvm.arrayLocs frame_1_arrays args s ++ Jvm.staticLocs frame_1_statics s) 16 192 → Post tb e args s (.returned v) u) :
    ArmFor flags0 classFile x code maxLocals ret World_1 tables_1 room_1 Calls_1 rest_1 Pre_1 Post := by
  intro l hfl _ _ p e ha hc hk s m args below hf hA hF happ hP
  obtain ⟨hcalls, hrest, hpre⟩ := hP
  obtain ⟨-, -, -, hnamed, -, -, -, hat⟩ := (Spec.applies_iff hf).mp happ
  obtain ⟨hg, hn⟩ := and_e (Cond.before_iff.mp (show (Jvm.Cond.and given_1 narrow_1).before args s = true from hpre))
  obtain ⟨hcnt, g0⟩ := and_e hg
  obtain ⟨k0, g1⟩ := and_e g0
  have k1 := g1
  obtain ⟨w0, w1, rfl⟩ : ∃ w0 w1 : Value, args = #[w0, w1] := by
    have hs : args.size = 2 := by simpa [Cond.value, given_1] using hcnt
    obtain ⟨L⟩ := args
    match L, hs with
    | [w0, w1], _ => exact ⟨w0, w1, rfl⟩
  have hw := fun d (hd : d ∈ tables_1) => atoms_spec (ws := Jvm.Cond.code x code maxLocals ret :: tables_1) hat d (List.mem_cons_of_mem _ hd)
  have hfit : Fit s := fun {y c} hc i hi => by
    obtain ⟨ha, rfl⟩ := Array.getElem?_eq_some_iff.mp hc
    have q := List.all_eq_true.mp ((Array.all_eq_true_iff_forall_mem.mp hF) _ (Array.getElem_mem ha)) i (List.mem_range.mpr hi)
    simpa [Array.getElem?_eq_getElem hi] using q
  obtain ⟨i0, e0⟩ := isL_v k0
  obtain rfl : w0 = (.long i0) := Option.some.inj e0
  obtain ⟨i1, e1⟩ := is_v k1
  obtain rfl : w1 = (.int i1) := Option.some.inj e1
  obtain ⟨c1, r1⟩ := and_e hn
  obtain ⟨c2, r2⟩ := and_e r1
  obtain ⟨c3, r3⟩ := and_e r2
  obtain ⟨c4, r4⟩ := and_e r3
  obtain ⟨q0, u0⟩ := and_e r4
  obtain ⟨q1, u1⟩ := and_e u0
  obtain ⟨q2, u2⟩ := and_e u1
  obtain ⟨q3, u3⟩ := and_e u2
  obtain ⟨q4, u4⟩ := and_e u3
  obtain ⟨q5, u5⟩ := and_e u4
  obtain ⟨q6, u6⟩ := and_e u5
  obtain ⟨q7, u7⟩ := and_e u6
  obtain ⟨q8, u8⟩ := and_e u7
  obtain ⟨q9, u9⟩ := and_e u8
  obtain ⟨q10, u10⟩ := and_e u9
  obtain ⟨q11, u11⟩ := and_e u10
  obtain ⟨q12, u12⟩ := and_e u11
  obtain ⟨q13, u13⟩ := and_e u12
  obtain ⟨q14, u14⟩ := and_e u13
  obtain ⟨q15, u15⟩ := and_e u14
  obtain ⟨q16, u16⟩ := and_e u15
  obtain ⟨q17, u17⟩ := and_e u16
  obtain ⟨q18, u18⟩ := and_e u17
  have q19 := u18
  obtain ⟨d1, ed1⟩ := arr_v c1
  obtain ⟨cld1, Ad1⟩ := Arr.start ed1 c1
  have szd1 : cld1.slots.size = 100 := by have q := own_arrlen ed1 Ad1 c2; have z : (100 : Int32).toInt = 100 := rfl; omega
  have atd1 : s.arrayAt? d1 = some cld1 := Arr.fin (Vm.Alike.refl _) Ad1
  obtain ⟨Vd1, gd1⟩ := own_tabvec hfit Ad1 szd1
  have Sd1 := Sta.start ed1 (Or.inr ⟨(hw _ (List.mem_of_getElem? (i := 24) rfl)), (hw _ (List.mem_of_getElem? (i := 32) rfl))⟩)
  have Fd1 : ∀ i : Nat, i < 100 → (((List.range 100).map fun i => atv cld1 (Int32.ofNat i)).getD i 0).toInt = 48 + ((i % 10 : Nat) : Int) := by
    intro i hi
    have ei : (Int32.ofNat i).toInt = (i : Int) := Int32.toInt_ofNat_of_lt (by omega)
    have e1 : ((List.range 100).map fun i => atv cld1 (Int32.ofNat i)).getD i 0 = atv cld1 (Int32.ofNat i) := by simp [List.getD_eq_getElem?_getD, hi]
    rw [e1]
    obtain ⟨j, hj⟩ : ∃ j, j = Int32.ofNat i := ⟨_, rfl⟩
    rw [← hj] at ei ⊢
    have h0 : ¬ j < 0 := fun q => by rw [Int32.lt_iff_toInt_lt] at q; have z : (0 : Int32).toInt = 0 := rfl; omega
    have hN : (Term.index 0).eval _ s none [j.toNatClampNeg] s = some (.int j) := idx_at (args := #[.long i0, .int i1]) h0
    have hE := own_el (t := Term.static "com/example/neat_maps/neatmaps/ShortestDecimal" "DIGIT_ONES" "[B") (args := #[.long i0, .int i1]) ed1 atd1 h0 (gd1 j (by omega) (by omega))
    have b0 : 0 ≤ i → i < 10 → (atv cld1 j).toInt = j.toInt + 48 := fun p1 p2 => by have q := own_eqL' hN hE (own_notle hN (own_at ed1 atd1 szd1 q0 (by omega) (by omega)) (by have z : (10 : Int32).toInt = 10 := rfl; omega)); have q1 := congrArg Int64.toInt q; have q2 := c_ladd j.toInt64 (48 : Int64); have z : (48 : Int64).toInt = 48 := rfl; rw [← q, c_i2l, c_i2l, z] at q2; have q3 := rng32 (atv cld1 j); omega
    have b1 : 10 ≤ i → i < 20 → (atv cld1 j).toInt = j.toInt + 38 := fun p1 p2 => by have q := own_eqL' hN hE (own_notle hN (own_notlt hN (own_at ed1 atd1 szd1 q1 (by omega) (by omega)) (by have z : (10 : Int32).toInt = 10 := rfl; omega)) (by have z : (20 : Int32).toInt = 20 := rfl; omega)); have q1 := congrArg Int64.toInt q; have q2 := c_ladd j.toInt64 (38 : Int64); have z : (38 : Int64).toInt = 38 := rfl; rw [← q, c_i2l, c_i2l, z] at q2; have q3 := rng32 (atv cld1 j); omega
    have b2 : 20 ≤ i → i < 30 → (atv cld1 j).toInt = j.toInt + 28 := fun p1 p2 => by have q := own_eqL' hN hE (own_notle hN (own_notlt hN (own_at ed1 atd1 szd1 q2 (by omega) (by omega)) (by have z : (20 : Int32).toInt = 20 := rfl; omega)) (by have z : (30 : Int32).toInt = 30 := rfl; omega)); have q1 := congrArg Int64.toInt q; have q2 := c_ladd j.toInt64 (28 : Int64); have z : (28 : Int64).toInt = 28 := rfl; rw [← q, c_i2l, c_i2l, z] at q2; have q3 := rng32 (atv cld1 j); omega
    have b3 : 30 ≤ i → i < 40 → (atv cld1 j).toInt = j.toInt + 18 := fun p1 p2 => by have q := own_eqL' hN hE (own_notle hN (own_notlt hN (own_at ed1 atd1 szd1 q3 (by omega) (by omega)) (by have z : (30 : Int32).toInt = 30 := rfl; omega)) (by have z : (40 : Int32).toInt = 40 := rfl; omega)); have q1 := congrArg Int64.toInt q; have q2 := c_ladd j.toInt64 (18 : Int64); have z : (18 : Int64).toInt = 18 := rfl; rw [← q, c_i2l, c_i2l, z] at q2; have q3 := rng32 (atv cld1 j); omega
    have b4 : 40 ≤ i → i < 50 → (atv cld1 j).toInt = j.toInt + 8 := fun p1 p2 => by have q := own_eqL' hN hE (own_notle hN (own_notlt hN (own_at ed1 atd1 szd1 q4 (by omega) (by omega)) (by have z : (40 : Int32).toInt = 40 := rfl; omega)) (by have z : (50 : Int32).toInt = 50 := rfl; omega)); have q1 := congrArg Int64.toInt q; have q2 := c_ladd j.toInt64 (8 : Int64); have z : (8 : Int64).toInt = 8 := rfl; rw [← q, c_i2l, c_i2l, z] at q2; have q3 := rng32 (atv cld1 j); omega
    have b5 : 50 ≤ i → i < 60 → (atv cld1 j).toInt = j.toInt - 2 := fun p1 p2 => by have q := own_eqI' hN hE (own_notle hN (own_notlt hN (own_at ed1 atd1 szd1 q5 (by omega) (by omega)) (by have z : (50 : Int32).toInt = 50 := rfl; omega)) (by have z : (60 : Int32).toInt = 60 := rfl; omega)); have q2 := c_isub j (2 : Int32); have z : (2 : Int32).toInt = 2 := rfl; rw [← q, z] at q2; have q3 := rng32 (atv cld1 j); omega
    have b6 : 60 ≤ i → i < 70 → (atv cld1 j).toInt = j.toInt - 12 := fun p1 p2 => by have q := own_eqI' hN hE (own_notle hN (own_notlt hN (own_at ed1 atd1 szd1 q6 (by omega) (by omega)) (by have z : (60 : Int32).toInt = 60 := rfl; omega)) (by have z : (70 : Int32).toInt = 70 := rfl; omega)); have q2 := c_isub j (12 : Int32); have z : (12 : Int32).toInt = 12 := rfl; rw [← q, z] at q2; have q3 := rng32 (atv cld1 j); omega
    have b7 : 70 ≤ i → i < 80 → (atv cld1 j).toInt = j.toInt - 22 := fun p1 p2 => by have q := own_eqI' hN hE (own_notle hN (own_notlt hN (own_at ed1 atd1 szd1 q7 (by omega) (by omega)) (by have z : (70 : Int32).toInt = 70 := rfl; omega)) (by have z : (80 : Int32).toInt = 80 := rfl; omega)); have q2 := c_isub j (22 : Int32); have z : (22 : Int32).toInt = 22 := rfl; rw [← q, z] at q2; have q3 := rng32 (atv cld1 j); omega
    have b8 : 80 ≤ i → i < 90 → (atv cld1 j).toInt = j.toInt - 32 := fun p1 p2 => by have q := own_eqI' hN hE (own_notle hN (own_notlt hN (own_at ed1 atd1 szd1 q8 (by omega) (by omega)) (by have z : (80 : Int32).toInt = 80 := rfl; omega)) (by have z : (90 : Int32).toInt = 90 := rfl; omega)); have q2 := c_isub j (32 : Int32); have z : (32 : Int32).toInt = 32 := rfl; rw [← q, z] at q2; have q3 := rng32 (atv cld1 j); omega
    have b9 : 90 ≤ i → i < 100 → (atv cld1 j).toInt = j.toInt - 42 := fun p1 p2 => by have q := own_eqI' hN hE (own_notlt hN (own_at ed1 atd1 szd1 q9 (by omega) (by omega)) (by have z : (90 : Int32).toInt = 90 := rfl; omega)); have q2 := c_isub j (42 : Int32); have z : (42 : Int32).toInt = 42 := rfl; rw [← q, z] at q2; have q3 := rng32 (atv cld1 j); omega
    omega
  obtain ⟨d2, ed2⟩ := arr_v c3
  obtain ⟨cld2, Ad2⟩ := Arr.start ed2 c3
  have szd2 : cld2.slots.size = 100 := by have q := own_arrlen ed2 Ad2 c4; have z : (100 : Int32).toInt = 100 := rfl; omega
  have atd2 : s.arrayAt? d2 = some cld2 := Arr.fin (Vm.Alike.refl _) Ad2
  obtain ⟨Vd2, gd2⟩ := own_tabvec hfit Ad2 szd2
  have Sd2 := Sta.start ed2 (Or.inr ⟨(hw _ (List.mem_of_getElem? (i := 24) rfl)), (hw _ (List.mem_of_getElem? (i := 34) rfl))⟩)
  have Fd2 : ∀ i : Nat, i < 100 → (((List.range 100).map fun i => atv cld2 (Int32.ofNat i)).getD i 0).toInt = 48 + ((i / 10 : Nat) : Int) := by
    intro i hi
    have ei : (Int32.ofNat i).toInt = (i : Int) := Int32.toInt_ofNat_of_lt (by omega)
    have e1 : ((List.range 100).map fun i => atv cld2 (Int32.ofNat i)).getD i 0 = atv cld2 (Int32.ofNat i) := by simp [List.getD_eq_getElem?_getD, hi]
    rw [e1]
    obtain ⟨j, hj⟩ : ∃ j, j = Int32.ofNat i := ⟨_, rfl⟩
    rw [← hj] at ei ⊢
    have h0 : ¬ j < 0 := fun q => by rw [Int32.lt_iff_toInt_lt] at q; have z : (0 : Int32).toInt = 0 := rfl; omega
    have hN : (Term.index 0).eval _ s none [j.toNatClampNeg] s = some (.int j) := idx_at (args := #[.long i0, .int i1]) h0
    have hE := own_el (t := Term.static "com/example/neat_maps/neatmaps/ShortestDecimal" "DIGIT_TENS" "[B") (args := #[.long i0, .int i1]) ed2 atd2 h0 (gd2 j (by omega) (by omega))
    have b0 : 0 ≤ i → i < 10 → (atv cld2 j).toInt = (48 : Int) := fun p1 p2 => by have q := own_eqC' hE (own_notle hN (own_at ed2 atd2 szd2 q10 (by omega) (by omega)) (by have z : (10 : Int32).toInt = 10 := rfl; omega)); rw [q]; rfl
    have b1 : 10 ≤ i → i < 20 → (atv cld2 j).toInt = (49 : Int) := fun p1 p2 => by have q := own_eqC' hE (own_notle hN (own_notlt hN (own_at ed2 atd2 szd2 q11 (by omega) (by omega)) (by have z : (10 : Int32).toInt = 10 := rfl; omega)) (by have z : (20 : Int32).toInt = 20 := rfl; omega)); rw [q]; rfl
    have b2 : 20 ≤ i → i < 30 → (atv cld2 j).toInt = (50 : Int) := fun p1 p2 => by have q := own_eqC' hE (own_notle hN (own_notlt hN (own_at ed2 atd2 szd2 q12 (by omega) (by omega)) (by have z : (20 : Int32).toInt = 20 := rfl; omega)) (by have z : (30 : Int32).toInt = 30 := rfl; omega)); rw [q]; rfl
    have b3 : 30 ≤ i → i < 40 → (atv cld2 j).toInt = (51 : Int) := fun p1 p2 => by have q := own_eqC' hE (own_notle hN (own_notlt hN (own_at ed2 atd2 szd2 q13 (by omega) (by omega)) (by have z : (30 : Int32).toInt = 30 := rfl; omega)) (by have z : (40 : Int32).toInt = 40 := rfl; omega)); rw [q]; rfl
    have b4 : 40 ≤ i → i < 50 → (atv cld2 j).toInt = (52 : Int) := fun p1 p2 => by have q := own_eqC' hE (own_notle hN (own_notlt hN (own_at ed2 atd2 szd2 q14 (by omega) (by omega)) (by have z : (40 : Int32).toInt = 40 := rfl; omega)) (by have z : (50 : Int32).toInt = 50 := rfl; omega)); rw [q]; rfl
    have b5 : 50 ≤ i → i < 60 → (atv cld2 j).toInt = (53 : Int) := fun p1 p2 => by have q := own_eqC' hE (own_notle hN (own_notlt hN (own_at ed2 atd2 szd2 q15 (by omega) (by omega)) (by have z : (50 : Int32).toInt = 50 := rfl; omega)) (by have z : (60 : Int32).toInt = 60 := rfl; omega)); rw [q]; rfl
    have b6 : 60 ≤ i → i < 70 → (atv cld2 j).toInt = (54 : Int) := fun p1 p2 => by have q := own_eqC' hE (own_notle hN (own_notlt hN (own_at ed2 atd2 szd2 q16 (by omega) (by omega)) (by have z : (60 : Int32).toInt = 60 := rfl; omega)) (by have z : (70 : Int32).toInt = 70 := rfl; omega)); rw [q]; rfl
    have b7 : 70 ≤ i → i < 80 → (atv cld2 j).toInt = (55 : Int) := fun p1 p2 => by have q := own_eqC' hE (own_notle hN (own_notlt hN (own_at ed2 atd2 szd2 q17 (by omega) (by omega)) (by have z : (70 : Int32).toInt = 70 := rfl; omega)) (by have z : (80 : Int32).toInt = 80 := rfl; omega)); rw [q]; rfl
    have b8 : 80 ≤ i → i < 90 → (atv cld2 j).toInt = (56 : Int) := fun p1 p2 => by have q := own_eqC' hE (own_notle hN (own_notlt hN (own_at ed2 atd2 szd2 q18 (by omega) (by omega)) (by have z : (80 : Int32).toInt = 80 := rfl; omega)) (by have z : (90 : Int32).toInt = 90 := rfl; omega)); rw [q]; rfl
    have b9 : 90 ≤ i → i < 100 → (atv cld2 j).toInt = (57 : Int) := fun p1 p2 => by have q := own_eqC' hE (own_notlt hN (own_at ed2 atd2 szd2 q19 (by omega) (by omega)) (by have z : (90 : Int32).toInt = 90 := rfl; omega)); rw [q]; rfl
    omega
  obtain ⟨n, o, h1, h2, h3, _, L, rfl, ⟨rfl, N⟩, hq⟩ := rm0 l s _ hw tables_1 s.heap s.heap.size (Nat.le_refl _) i0 i1 _ _ d1 d2 Sd1 Sd2 Vd1 (by simp) Fd1 Vd2 (by simp) Fd2 p e ha hc hk s m _ below hf ((Spec.applies_iff_loose hf).mp happ).1 ⟨rfl, State.Warmed39.refl s, rfl⟩ trivial
  refine ⟨n, _, h1, h2, h3, hpost _ _ _ _ _ _ ⟨Cond.after_iff.mpr rfl, Cond.after_iff.mpr (eq_i res_at (Term.int_eval (1)) rfl), trivial⟩ ⟨hq.1, hq.2.1, (hq.2.2.sift fun y hy => Or.inr (N y hy)).mono (by decide) (by decide)⟩⟩
theorem main_1_1 : Claimed_1_1 := comes_1 fun _ _ _ _ _ _ h hF => ⟨h.1, hF⟩
theorem main_1_2 : Claimed_1_2 := comes_1 fun _ _ _ _ _ _ h hF => ⟨h.2.1, hF⟩
end Jvm.Pilot.@@N@@
namespace Jvm.Pilot.@@N@@
open Jvm Jvm.ClassFile Sem Op Lib Jvm.Free Jvm.Stand Jvm.Pilot.@@N@@.Jvm.D
/-! MADE BY PROGRAM (witnessworld.py) out of the Statement's table words and the real class files: 12 classes; the members and pool entries that the words name. The judged class is class 1, her method 1. -/
namespace start1
open Jvm.ClassFile
def u (s : String) : CpInfo := .utf8 (stringToUtf16 s)
/-- a pool by its gaps: so many unusable entries, then the entry; so many at the end -/
def gap : Nat → List CpInfo → List CpInfo
  | 0, r => r
  | n + 1, r => .unusable :: gap n r
def poolList (es : List (Nat × CpInfo)) (last : Nat) : List CpInfo := es.foldr (fun e r => gap e.1 (e.2 :: r)) (gap last [])
def pool (es : List (Nat × CpInfo)) (last : Nat) : Array CpInfo := ⟨poolList es last⟩
def fileOf (pool : Array CpInfo) (this : Nat) (attrs : Array Attribute := #[]) (ms : Array MethodInfo := #[]) (fl : Nat := 33) (sup : Nat := 0) (ifs : Array Nat := #[]) (fds : Array FieldInfo := #[]) : ClassFile where
  minorVersion := 0
  majorVersion := 65
  constantPool := pool
  accessFlags := fl
  thisClass := this
  superClass := sup
  interfaces := ifs
  fields := fds
  methods := ms
  attributes := attrs
def plain (name : String) (sup : Option ClassId) : Class where
  name := name
  kind := .ordinary
  loader := none
  accessFlags := 33
  super := sup
  interfaces := #[]
  cf := none
  fields := #[]
  methods := #[]
  instanceTypes := #[]
  staticTypes := #[]
  resolved := #[]
  callSites := []
  init := .initialized
  statics := none
  mirror := none

def pool0 : Array CpInfo := pool [(5, u "<init>"), (0, u "()V"), (1, .class_ 10), (1, u "java/lang/Object")] 113

def k0m0 : Method := { name := "<init>", desc := "()V", sig := { parameters := [], returnType := none }, accessFlags := 1, code := none }
/-- java/lang/Object -/
def k0 : Class := { plain "java/lang/Object" none with
  accessFlags := 33
  interfaces := #[]
  cf := some (fileOf pool0 8 #[] #[{ accessFlags := 1, nameIndex := 5, descriptorIndex := 6, attributes := #[] }] 33 0 #[] #[])
  fields := #[]
  methods := #[k0m0]
  instanceTypes := #[]
  staticTypes := #[]
  resolved := Array.replicate 124 none
  statics := none }

def pool1 : Array CpInfo := pool [(2, .class_ 4), (1, u "java/lang/Object"), (0, u "<init>"), (0, u "()V"), (0, .integer 2147483647), (0, .long 10), (1, .long 100), (1, .long 1000), (1, .long 10000), (1, .long 100000), (1, .long 1000000), (1, .long 10000000), (1, .long 100000000), (1, .long 1000000000), (1, .long 10000000000), (1, .long 100000000000), (1, .long 1000000000000), (1, .long 10000000000000), (1, .long 100000000000000), (1, .long 1000000000000000), (1, .long 10000000000000000), (1, .long 100000000000000000), (1, .long 1000000000000000000), (3, .long 9223372036854775807), (1, .methodref 49 50), (0, .class_ 51), (0, .nameAndType 52 53), (0, u "com/example/neat_maps/neatmaps/ShortestDecimal"), (0, u "putDigits"), (0, u "(J[BI)V"), (0, .methodref 55 56), (0, .class_ 57), (0, .nameAndType 58 59), (0, u "com/example/neat_maps/neatmaps/ShortestDecimalPutDigitsPinLaw"), (0, u "same"), (0, u "([B[B)Z"), (2, u "law"), (0, u "(JI)Z")] 7

def k1m0 : Method := { name := "<init>", desc := "()V", sig := { parameters := [], returnType := none }, accessFlags := 1, code := none }
def k1c1 : Code := { maxStack := 7, maxLocals := 9, code := code, exceptionTable := #[], attributes := #[] }
def k1m1 : Method := { name := "law", desc := "(JI)Z", sig := { parameters := [.long, .int], returnType := some .boolean }, accessFlags := 9, code := some k1c1 }
def k1c2 : Code := { maxStack := 3, maxLocals := 2, code := method_3_code, exceptionTable := #[], attributes := #[] }
def k1m2 : Method := { name := "same", desc := "([B[B)Z", sig := { parameters := [(.array .byte), (.array .byte)], returnType := some .boolean }, accessFlags := 10, code := some k1c2 }
/-- com/example/neat_maps/neatmaps/ShortestDecimalPutDigitsPinLaw -/
def k1 : Class := { plain "com/example/neat_maps/neatmaps/ShortestDecimalPutDigitsPinLaw" (some 0) with
  accessFlags := 49
  interfaces := #[]
  cf := some (fileOf pool1 55 #[] #[{ accessFlags := 1, nameIndex := 5, descriptorIndex := 6, attributes := #[] }, { accessFlags := 9, nameIndex := 62, descriptorIndex := 63, attributes := #[] }, { accessFlags := 10, nameIndex := 58, descriptorIndex := 59, attributes := #[] }] 49 2 #[] #[])
  fields := #[]
  methods := #[k1m0, k1m1, k1m2]
  instanceTypes := #[]
  staticTypes := #[]
  resolved := Array.replicate 71 none
  statics := none }

def pool2 : Array CpInfo := pool [(2, .class_ 4), (1, u "java/lang/Object"), (0, u "<init>"), (0, u "()V"), (0, .class_ 8), (0, u "java/lang/Record")] 13

def k2m0 : Method := { name := "<init>", desc := "()V", sig := { parameters := [], returnType := none }, accessFlags := 4, code := none }
/-- java/lang/Record -/
def k2 : Class := { plain "java/lang/Record" (some 0) with
  accessFlags := 1057
  interfaces := #[]
  cf := some (fileOf pool2 7 #[] #[{ accessFlags := 4, nameIndex := 5, descriptorIndex := 6, attributes := #[] }] 1057 2 #[] #[])
  fields := #[]
  methods := #[k2m0]
  instanceTypes := #[]
  staticTypes := #[]
  resolved := Array.replicate 22 none
  statics := none }

def pool3 : Array CpInfo := pool [(1, .class_ 2), (0, u "com/example/neat_maps/neatmaps/ShortestDecimal"), (3, .class_ 8), (1, u "java/lang/Record"), (4, u "significand"), (0, u "J"), (2, u "exponent"), (0, u "I"), (2, u "POWERS"), (0, u "[Lcom/example/neat_maps/neatmaps/ShortestDecimal$Power;"), (28, .class_ 52), (0, u "com/example/neat_maps/neatmaps/ShortestDecimal$Power"), (80, u "NEAREST_TENS"), (0, u "[D"), (7, u "LEAST_SHORT_POWER"), (2, u "EXACT_TENS"), (58, u "FIVES"), (0, u "[J"), (6, .long 100000000), (7, u "putDigits"), (0, u "(J[BI)V"), (0, .fieldref 1 223), (0, .nameAndType 224 225), (0, u "DIGIT_ONES"), (0, u "[B"), (0, .fieldref 1 227), (0, .nameAndType 228 225), (0, u "DIGIT_TENS"), (5, u "TENS"), (39, u "SIGNIFICAND_BITS"), (2, u "FRACTION_MASK"), (0, u "EXPONENT_BIAS"), (1, u "EXACT_INTEGER_LIMIT"), (0, u "D"), (0, u "SHORT_DIGITS"), (1, u "GREATEST_SHORT_POWER"), (1, u "LOG10_2_TIMES_2_18"), (0, u "LEAST_POWER"), (1, u "GREATEST_POWER"), (1, u "POWER_BITS"), (1, u "NEAR"), (0, u "HALF"), (0, u "LONGEST_SCIENTIFIC")] 46

def k3c0 : Code := { maxStack := 6, maxLocals := 13, code := prog_68_method_14_code, exceptionTable := #[], attributes := #[] }
def k3m0 : Method := { name := "putDigits", desc := "(J[BI)V", sig := { parameters := [.long, (.array .byte), .int], returnType := none }, accessFlags := 8, code := some k3c0 }
/-- com/example/neat_maps/neatmaps/ShortestDecimal -/
def k3 : Class := { plain "com/example/neat_maps/neatmaps/ShortestDecimal" (some 2) with
  accessFlags := 48
  interfaces := #[]
  cf := some (fileOf pool3 1 #[.nestMembers #[51]] #[{ accessFlags := 8, nameIndex := 220, descriptorIndex := 221, attributes := #[] }] 48 6 #[] #[{ accessFlags := 18, nameIndex := 13, descriptorIndex := 14, attributes := #[] }, { accessFlags := 18, nameIndex := 17, descriptorIndex := 18, attributes := #[] }, { accessFlags := 26, nameIndex := 274, descriptorIndex := 18, attributes := #[] }, { accessFlags := 26, nameIndex := 277, descriptorIndex := 14, attributes := #[] }, { accessFlags := 26, nameIndex := 278, descriptorIndex := 18, attributes := #[] }, { accessFlags := 26, nameIndex := 280, descriptorIndex := 281, attributes := #[] }, { accessFlags := 26, nameIndex := 282, descriptorIndex := 18, attributes := #[] }, { accessFlags := 26, nameIndex := 145, descriptorIndex := 134, attributes := #[] }, { accessFlags := 26, nameIndex := 284, descriptorIndex := 18, attributes := #[] }, { accessFlags := 26, nameIndex := 142, descriptorIndex := 18, attributes := #[] }, { accessFlags := 26, nameIndex := 133, descriptorIndex := 134, attributes := #[] }, { accessFlags := 26, nameIndex := 286, descriptorIndex := 18, attributes := #[] }, { accessFlags := 26, nameIndex := 287, descriptorIndex := 18, attributes := #[] }, { accessFlags := 26, nameIndex := 289, descriptorIndex := 18, attributes := #[] }, { accessFlags := 26, nameIndex := 291, descriptorIndex := 18, attributes := #[] }, { accessFlags := 26, nameIndex := 21, descriptorIndex := 22, attributes := #[] }, { accessFlags := 26, nameIndex := 204, descriptorIndex := 205, attributes := #[] }, { accessFlags := 26, nameIndex := 234, descriptorIndex := 205, attributes := #[] }, { accessFlags := 26, nameIndex := 293, descriptorIndex := 14, attributes := #[] }, { accessFlags := 26, nameIndex := 294, descriptorIndex := 14, attributes := #[] }, { accessFlags := 24, nameIndex := 295, descriptorIndex := 18, attributes := #[] }, { accessFlags := 26, nameIndex := 228, descriptorIndex := 225, attributes := #[] }, { accessFlags := 26, nameIndex := 224, descriptorIndex := 225, attributes := #[] }])
  fields := #[{ name := "significand", type := .long, accessFlags := 18, slot := 0, constantValue := 0 }, { name := "exponent", type := .int, accessFlags := 18, slot := 1, constantValue := 0 }, { name := "SIGNIFICAND_BITS", type := .int, accessFlags := 26, slot := 0, constantValue := 0 }, { name := "FRACTION_MASK", type := .long, accessFlags := 26, slot := 1, constantValue := 0 }, { name := "EXPONENT_BIAS", type := .int, accessFlags := 26, slot := 2, constantValue := 0 }, { name := "EXACT_INTEGER_LIMIT", type := .double, accessFlags := 26, slot := 3, constantValue := 0 }, { name := "SHORT_DIGITS", type := .int, accessFlags := 26, slot := 4, constantValue := 0 }, { name := "EXACT_TENS", type := (.array .double), accessFlags := 26, slot := 5, constantValue := 0 }, { name := "GREATEST_SHORT_POWER", type := .int, accessFlags := 26, slot := 6, constantValue := 0 }, { name := "LEAST_SHORT_POWER", type := .int, accessFlags := 26, slot := 7, constantValue := 0 }, { name := "NEAREST_TENS", type := (.array .double), accessFlags := 26, slot := 8, constantValue := 0 }, { name := "LOG10_2_TIMES_2_18", type := .int, accessFlags := 26, slot := 9, constantValue := 0 }, { name := "LEAST_POWER", type := .int, accessFlags := 26, slot := 10, constantValue := 0 }, { name := "GREATEST_POWER", type := .int, accessFlags := 26, slot := 11, constantValue := 0 }, { name := "POWER_BITS", type := .int, accessFlags := 26, slot := 12, constantValue := 0 }, { name := "POWERS", type := (.array (.object "com/example/neat_maps/neatmaps/ShortestDecimal$Power")), accessFlags := 26, slot := 13, constantValue := 0 }, { name := "FIVES", type := (.array .long), accessFlags := 26, slot := 14, constantValue := 0 }, { name := "TENS", type := (.array .long), accessFlags := 26, slot := 15, constantValue := 0 }, { name := "NEAR", type := .long, accessFlags := 26, slot := 16, constantValue := 0 }, { name := "HALF", type := .long, accessFlags := 26, slot := 17, constantValue := 0 }, { name := "LONGEST_SCIENTIFIC", type := .int, accessFlags := 24, slot := 18, constantValue := 0 }, { name := "DIGIT_TENS", type := (.array .byte), accessFlags := 26, slot := 19, constantValue := 0 }, { name := "DIGIT_ONES", type := (.array .byte), accessFlags := 26, slot := 20, constantValue := 0 }]
  methods := #[k3m0]
  instanceTypes := #[.long, .int]
  staticTypes := #[.int, .long, .int, .double, .int, (.array .double), .int, .int, (.array .double), .int, .int, .int, .int, (.array (.object "com/example/neat_maps/neatmaps/ShortestDecimal$Power")), (.array .long), (.array .long), .long, .long, .int, (.array .byte), (.array .byte)]
  resolved := Array.replicate 342 none
  statics := some 0 }

def pool4 : Array CpInfo := pool [(1, u "java/lang/Cloneable"), (0, .class_ 1), (0, u "java/lang/Object"), (0, .class_ 3)] 3

/-- java/lang/Cloneable -/
def k4 : Class := { plain "java/lang/Cloneable" (some 0) with
  accessFlags := 1537
  interfaces := #[]
  cf := some (fileOf pool4 2 #[] #[] 1537 4 #[] #[])
  fields := #[]
  methods := #[]
  instanceTypes := #[]
  staticTypes := #[]
  resolved := Array.replicate 8 none
  statics := none }

def pool5 : Array CpInfo := pool [(1, u "java/io/Serializable"), (0, .class_ 1), (0, u "java/lang/Object"), (0, .class_ 3)] 3

/-- java/io/Serializable -/
def k5 : Class := { plain "java/io/Serializable" (some 0) with
  accessFlags := 1537
  interfaces := #[]
  cf := some (fileOf pool5 2 #[] #[] 1537 4 #[] #[])
  fields := #[]
  methods := #[]
  instanceTypes := #[]
  staticTypes := #[]
  resolved := Array.replicate 8 none
  statics := none }

/-- the primitive byte -/
def k6 : Class := { plain "byte" none with kind := .primitive 'B', accessFlags := 0x411 }
/-- [B -/
def k7 : Class := { plain "[B" (some 0) with kind := .array 6 .byte, interfaces := #[4, 5], accessFlags := 1041 }

/-- the primitive int -/
def k8 : Class := { plain "int" none with kind := .primitive 'I', accessFlags := 0x411 }
/-- [I -/
def k9 : Class := { plain "[I" (some 0) with kind := .array 8 .int, interfaces := #[4, 5], accessFlags := 1041 }

/-- the primitive long -/
def k10 : Class := { plain "long" none with kind := .primitive 'J', accessFlags := 0x411 }
/-- [J -/
def k11 : Class := { plain "[J" (some 0) with kind := .array 10 .long, interfaces := #[4, 5], accessFlags := 1041 }

def heap : Heap := #[{ cls := 3, slots := #[.int 0, .long 0, .int 0, .double 0, .int 0, .null, .int 0, .int 0, .null, .int 0, .int 0, .int 0, .int 0, .null, .null, .null, .long 0, .long 0, .int 0, .ref 2, .ref 1], vm := .statics 3 },
  { cls := 7, slots := #[.int 48, .int 49, .int 50, .int 51, .int 52, .int 53, .int 54, .int 55, .int 56, .int 57, .int 48, .int 49, .int 50, .int 51, .int 52, .int 53, .int 54, .int 55, .int 56, .int 57, .int 48, .int 49, .int 50, .int 51, .int 52, .int 53, .int 54, .int 55, .int 56, .int 57, .int 48, .int 49, .int 50, .int 51, .int 52, .int 53, .int 54, .int 55, .int 56, .int 57, .int 48, .int 49, .int 50, .int 51, .int 52, .int 53, .int 54, .int 55, .int 56, .int 57, .int 48, .int 49, .int 50, .int 51, .int 52, .int 53, .int 54, .int 55, .int 56, .int 57, .int 48, .int 49, .int 50, .int 51, .int 52, .int 53, .int 54, .int 55, .int 56, .int 57, .int 48, .int 49, .int 50, .int 51, .int 52, .int 53, .int 54, .int 55, .int 56, .int 57, .int 48, .int 49, .int 50, .int 51, .int 52, .int 53, .int 54, .int 55, .int 56, .int 57, .int 48, .int 49, .int 50, .int 51, .int 52, .int 53, .int 54, .int 55, .int 56, .int 57], vm := .none },
  { cls := 7, slots := #[.int 48, .int 48, .int 48, .int 48, .int 48, .int 48, .int 48, .int 48, .int 48, .int 48, .int 49, .int 49, .int 49, .int 49, .int 49, .int 49, .int 49, .int 49, .int 49, .int 49, .int 50, .int 50, .int 50, .int 50, .int 50, .int 50, .int 50, .int 50, .int 50, .int 50, .int 51, .int 51, .int 51, .int 51, .int 51, .int 51, .int 51, .int 51, .int 51, .int 51, .int 52, .int 52, .int 52, .int 52, .int 52, .int 52, .int 52, .int 52, .int 52, .int 52, .int 53, .int 53, .int 53, .int 53, .int 53, .int 53, .int 53, .int 53, .int 53, .int 53, .int 54, .int 54, .int 54, .int 54, .int 54, .int 54, .int 54, .int 54, .int 54, .int 54, .int 55, .int 55, .int 55, .int 55, .int 55, .int 55, .int 55, .int 55, .int 55, .int 55, .int 56, .int 56, .int 56, .int 56, .int 56, .int 56, .int 56, .int 56, .int 56, .int 56, .int 57, .int 57, .int 57, .int 57, .int 57, .int 57, .int 57, .int 57, .int 57, .int 57], vm := .none }]
def classes : Array Class := #[k0, k1, k2, k3, k4, k5, k6, k7, k8, k9, k10, k11]
def interned : List (Array UInt16 × Addr) := []
def slotsUsed : Nat := 221
def theMethod : MethodId := ⟨1, 1⟩
def args0 : Array Value := #[.long 1234567, .int 9]
def aboutOver (below : List Frame) : State where
  vm := { classes := classes, interned := interned.toArray }
  heap := heap
  slotsUsed := slotsUsed
  threads := #[{ frames := .invoking theMethod args0 :: below }]
def below0 : List Frame := [.native { method := ⟨0, 0⟩, args := #[] }]
def about1 : State := aboutOver below0
def p0 : Program := .bare "" "" ""
def e0 : Env := launch0.env 0 0 0
theorem w_frames : about1.frames = Frame.invoking theMethod args0 :: below0 := rfl
set_option maxRecDepth 65536 in
theorem w_args : argsFit about1.vm theMethod args0 = true := by decide +kernel
set_option maxRecDepth 65536 in
theorem w_heap : heapFits about1 = true := by decide +kernel
set_option maxRecDepth 65536 in
theorem w_runnable : about1.curStatus? = some .runnable := by decide +kernel
set_option maxRecDepth 65536 in
theorem w_alone : about1.alone = true := by decide +kernel
set_option maxRecDepth 65536 in
theorem w_named : about1.methodNamed? x = some theMethod := by decide +kernel
set_option maxRecDepth 65536 in
theorem w_hears : about1.hears theMethod below0 = true := by decide +kernel
set_option maxRecDepth 65536 in
theorem w_ripe : about1.ripe theMethod args0 below0 = true := by decide +kernel
theorem w_running : about1.status = .running := rfl
set_option maxRecDepth 65536 in
theorem w_room : about1.hasRoom e0.platform room_1 = true :=
  launch0.hasRoom_least _ room_1 (by decide +kernel) (by decide +kernel) (by decide +kernel) (by decide +kernel) (by decide +kernel) (by decide +kernel)
theorem allAtoms_all (ts : List Jvm.Cond) (a : Array Jvm.Value) (st : Jvm.State) : (allAtoms ts).before a st = ts.all (fun c => c.before a st) := by
  induction ts with
  | nil => rfl
  | cons c t ih =>
    show (Jvm.Cond.and c (allAtoms t)).before a st = _
    rw [Jvm.Cond.before_and, ih, List.all_cons]
def words1 : List Jvm.Cond := Jvm.Cond.code x code maxLocals ret :: tables_1
/-- a 'code' word, met by the world's own term for the bytes: nothing is compared byte by byte -/
theorem code_word {y : MethodName} {bytes : ByteArray} {mx : Nat} {rt : Option FieldType} {a : Array Value} {s : State} {m : MethodId} {meth : Method} {c : Code} (h1 : s.methodNamed? y = some m) (h2 : s.vm.method? m = some meth) (h3 : meth.code = some c) (h4 : c.code = bytes)
    (h5 : (c.maxLocals == mx && c.exceptionTable.isEmpty && decide (c.maxStack ≤ mostOperands) && decide (meth.sig.returnType = rt) && !meth.locks && decide (parseMethodDescriptor y.desc = some meth.sig)) = true) : (Jvm.Cond.code y bytes mx rt).before a s = true := by
  simp only [Bool.and_eq_true, beq_iff_eq, Bool.not_eq_true', decide_eq_true_eq] at h5
  obtain ⟨⟨⟨⟨⟨g1, g2⟩, g3⟩, g4⟩, g5⟩, g6⟩ := h5
  simp [Cond.before, Cond.holds, Cond.value, h1, h2, h3, h4, g1, g2, g3, g4, g5, g6]
def isCode : Jvm.Cond → Bool
  | .code _ _ _ _ => true
  | _ => false
theorem all_split {L : List Jvm.Cond} {P : Jvm.Cond → Bool} (h1 : L.all (fun c => isCode c || P c) = true) (h2 : ∀ c ∈ L.filter isCode, P c = true) : L.all P = true := by
  refine List.all_eq_true.mpr fun c hc => ?_
  have h := List.all_eq_true.mp h1 c hc
  rcases Bool.eq_false_or_eq_true (isCode c) with hi | hi
  · exact h2 c (List.mem_filter.mpr ⟨hc, hi⟩)
  · simpa [hi] using h
set_option maxRecDepth 65536 in
theorem w_c0 : (Jvm.Cond.code x code maxLocals ret).before args0 about1 = true := code_word (m := ⟨1, 1⟩) (meth := k1m1) (c := k1c1) (by decide +kernel) rfl rfl rfl (by decide +kernel)
set_option maxRecDepth 65536 in
theorem w_c1 : (Jvm.Cond.code ({ cls := "com/example/neat_maps/neatmaps/ShortestDecimal", name := "putDigits", desc := "(J[BI)V" } : Jvm.MethodName) prog_68_method_14_code (13 : Nat) (Option.none : Option Jvm.ClassFile.FieldType)).before args0 about1 = true := code_word (m := ⟨3, 0⟩) (meth := k3m0) (c := k3c0) (by decide +kernel) rfl rfl rfl (by decide +kernel)
set_option maxRecDepth 65536 in
theorem w_c2 : (Jvm.Cond.code ({ cls := "com/example/neat_maps/neatmaps/ShortestDecimalPutDigitsPinLaw", name := "same", desc := "([B[B)Z" } : Jvm.MethodName) method_3_code (2 : Nat) (Option.some Jvm.ClassFile.FieldType.boolean)).before args0 about1 = true := code_word (m := ⟨1, 2⟩) (meth := k1m2) (c := k1c2) (by decide +kernel) rfl rfl rfl (by decide +kernel)
def codes1 : List Jvm.Cond := [Jvm.Cond.code x code maxLocals ret, Jvm.Cond.code ({ cls := "com/example/neat_maps/neatmaps/ShortestDecimal", name := "putDigits", desc := "(J[BI)V" } : Jvm.MethodName) prog_68_method_14_code (13 : Nat) (Option.none : Option Jvm.ClassFile.FieldType), Jvm.Cond.code ({ cls := "com/example/neat_maps/neatmaps/ShortestDecimalPutDigitsPinLaw", name := "same", desc := "([B[B)Z" } : Jvm.MethodName) method_3_code (2 : Nat) (Option.some Jvm.ClassFile.FieldType.boolean)]
set_option maxRecDepth 65536 in
theorem codes_eq : words1.filter isCode = codes1 := rfl
theorem w_codes : ∀ c ∈ words1.filter isCode, c.before args0 about1 = true := by
  rw [codes_eq]
  intro c hc
  simp only [codes1, List.mem_cons, List.not_mem_nil, or_false] at hc
  rcases hc with rfl | rfl | rfl
  · exact w_c0
  · exact w_c1
  · exact w_c2
set_option maxRecDepth 65536 in
theorem w_t1 : (words1.take 24).all (fun c => isCode c || c.before args0 about1) = true := by decide +kernel
set_option maxRecDepth 65536 in
theorem w_t2 : (words1.drop 24).all (fun c => isCode c || c.before args0 about1) = true := by decide +kernel
theorem w_tables : (allAtoms (Jvm.Cond.code x code maxLocals ret :: tables_1)).before args0 about1 = true := by
  rw [allAtoms_all]
  show words1.all (fun c => c.before args0 about1) = true
  refine all_split ?_ w_codes
  rw [← List.take_append_drop 24 words1, List.all_append, w_t1, w_t2]
  rfl
set_option maxRecDepth 65536 in
theorem w_case : (Jvm.Cond.and given_1 narrow_1).before args0 about1 = true := by decide +kernel
theorem w_applies : (headSpec (Jvm.Cond.code x code maxLocals ret :: tables_1) room_1).applies x e0.platform about1 = true :=
  (Spec.applies_iff w_frames).mpr ⟨w_running, w_runnable, w_alone, w_named, w_hears, w_ripe, w_room, w_tables⟩
theorem atStart : AtStart classFile x code maxLocals ret World_1 tables_1 room_1 Calls_1 rest_1 Pre_1 launch0 p0 e0 about1 theMethod args0 below0 :=
  ⟨lists_1, trivial, launch0.admits_env _ _ _, launch0.least_env, fairChoices_fair.cas, fairChoices_fair.clock, w_frames, w_args, w_heap, w_applies, trivial, trivial, w_case⟩
end start1
theorem witness_1 : WitnessClaimed_1 := ⟨start1.p0, start1.e0, start1.about1, start1.theMethod, start1.args0, start1.below0, start1.atStart⟩
end Jvm.Pilot.@@N@@
