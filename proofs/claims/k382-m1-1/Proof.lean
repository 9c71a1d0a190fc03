import JvmDerived
import JvmDerived.Pilot.@@N@@Statement
import JvmDerived.Pilot.@@N@@Code
set_option linter.unusedVariables false
set_option linter.unusedSimpArgs false
namespace Jvm.RoadKit
open Sem ClassFile Op Lib Jvm.Stand Jvm.Free Jvm.LawKit
section New
variable {p : Program} {l : Launch} {e : Env} {R : Room} {s : State} {m : MethodId} {args : Array Value} {below : List Frame} {meth : Method} {c : Code} {T : State} {locs : List Loc} {cells slots : Nat}
theorem retI (X : Stand p l e R s m args below meth c T locs cells slots) (hx : p.tables.exec = Jvm.exec) {pc : Nat} {Ls : Array Slot} {z : Int32} {rest : List Value} (hret : meth.sig.returnType = some .int) (hd : decode c.code pc = .ok (.ireturn, 1)) {fs : List Frame}
    (hl : ∀ (f : JFrame) (acts : List Action), f.method = m → f.locked = none → f.entered = [] → (doReturn e (T.setTop f) acts (some (.int z))).1 = T.setFrames fs) : Steps p.tables e below (T.setTop (mkF m pc Ls (.int z :: rest))) (T.setFrames fs) := by
  have hm' : T.vm.method? m = some meth := X.method'
  have hn : narrow .int (.int z) = .int z := rfl
  show Steps p.tables e below (T.setTop { method := m, pc := pc, locals := Ls, stack := _ :: rest, locked := none }) _
  jvm_step X.here [X.here.top, hx, hd, hm', hret, hn]
  first | (intro acts; rw [hl _ acts rfl rfl rfl]) | rw [hl _ _ rfl rfl rfl]
  exact Steps.refl _
end New
end Jvm.RoadKit
namespace Jvm.Pilot.@@N@@
open Jvm Jvm.ClassFile Sem Op Lib Jvm.Free Jvm.Stand Jvm.LawKit Jvm.RoadKit Bundle Jvm.Pilot.@@N@@.Jvm.D
section OwnRun
variable {p : Program} {l : Launch} {e : Env} {R : Room} {s : State} {m : MethodId} {args : Array Value} {below : List Frame} {meth : Method} {c : Code} {T T' : State} {locs : List Loc} {cells slots : Nat} {Q : Option Value → Heap → List Loc → Prop} {C S : Nat}
/-- from T with the frame g on top the body comes to its end, and what it leaves is as Q says -/
def ORun (p : Program) (e : Env) (below : List Frame) (s : State) (Q : Option Value → Heap → List Loc → Prop) (C S : Nat) (T : State) (g : JFrame) : Prop :=
  ∃ s₂ o, Steps p.tables e below (T.setTop g) s₂ ∧ s₂.status = .running ∧ Ended s₂ below o ∧ ∃ v L, o = .returned v ∧ Q v s₂.heap L ∧ FrameEnd s o s₂ L C S
theorem own_by {g g' : JFrame} (st : ∀ t, Steps p.tables e below (T'.setTop g') t → Steps p.tables e below (T.setTop g) t) (h : ORun p e below s Q C S T' g') : ORun p e below s Q C S T g := by
  obtain ⟨s₂, o, h1, h2⟩ := h
  exact ⟨s₂, o, st _ h1, h2⟩
theorem own_tr {g g' : JFrame} (st : Steps p.tables e below (T.setTop g) (T'.setTop g')) (h : ORun p e below s Q C S T' g') : ORun p e below s Q C S T g := own_by (fun _ k => st.trans k) h
theorem own_letI (x : Int32) {f : Int32 → JFrame} (h : ∀ v, v = x → ORun p e below s Q C S T (f v)) : ORun p e below s Q C S T (f x) := h x rfl
theorem own_letJ (x : Int64) {f : Int64 → JFrame} (h : ∀ v, v = x → ORun p e below s Q C S T (f v)) : ORun p e below s Q C S T (f x) := h x rfl
theorem own_retI (X : Stand p l e R s m args below meth c T locs cells slots) (hx : p.tables.exec = Jvm.exec) {pc : Nat} {Ls : Array Slot} {z : Int32} {rest : List Value} (hret : meth.sig.returnType = some .int) (hlk : meth.locks = false) (hd : decode c.code pc = .ok (.ireturn, 1)) (hc : cells ≤ C) (hs : slots ≤ S) (hQ : Q (some (.int z)) T.heap locs) :
    ORun p e below s Q C S T (mkF m pc Ls (.int z :: rest)) := by
  obtain ⟨fs, hr, hrun, hended, hW, hsame⟩ := X.leave (v := some (.int z)) (fun h => by rw [hret] at h; cases h) hlk
  exact ⟨_, _, retI X hx hret hd hr, hrun, hended, _, _, rfl, hQ, ⟨_, rfl⟩, hW, hsame.mono hc hs⟩
theorem own_retN (X : Stand p l e R s m args below meth c T locs cells slots) (hx : p.tables.exec = Jvm.exec) {pc : Nat} {Ls : Array Slot} {z : Int32} {t : FieldType} {rest : List Value} (hret : meth.sig.returnType = some t) (ht : t = .boolean ∨ t = .byte ∨ t = .char ∨ t = .short) (hlk : meth.locks = false) (hd : decode c.code pc = .ok (.ireturn, 1)) (hc : cells ≤ C) (hs : slots ≤ S) (hQ : Q (some (.int (nar t z))) T.heap locs) :
    ORun p e below s Q C S T (mkF m pc Ls (.int z :: rest)) := by
  obtain ⟨fs, hr, hrun, hended, hW, hsame⟩ := X.leave (v := some (.int (nar t z))) (fun h => by rw [hret] at h; cases h) hlk
  exact ⟨_, _, retN X hx hret ht hd hr, hrun, hended, _, _, rfl, hQ, ⟨_, rfl⟩, hW, hsame.mono hc hs⟩
theorem own_retJ (X : Stand p l e R s m args below meth c T locs cells slots) (hx : p.tables.exec = Jvm.exec) {pc : Nat} {Ls : Array Slot} {z : Int64} (hret : meth.sig.returnType = some .long) (hlk : meth.locks = false) (hd : decode c.code pc = .ok (.lreturn, 1)) (hc : cells ≤ C) (hs : slots ≤ S) (hQ : Q (some (.long z)) T.heap locs) :
    ORun p e below s Q C S T (mkF m pc Ls [.long z]) := by
  obtain ⟨fs, hr, hrun, hended, hW, hsame⟩ := X.leave (v := some (.long z)) (fun h => by rw [hret] at h; cases h) hlk
  exact ⟨_, _, X.lreturnOut hx hret hd hr, hrun, hended, _, _, rfl, hQ, ⟨_, rfl⟩, hW, hsame.mono hc hs⟩
theorem own_retA (X : Stand p l e R s m args below meth c T locs cells slots) (hx : p.tables.exec = Jvm.exec) {pc : Nat} {Ls : Array Slot} {z : Value} {t : FieldType} {rest : List Value} (hret : meth.sig.returnType = some t) (ht : t.isReference = true) (hz : z.isRef = true) (hn : narrow t z = z) (hlk : meth.locks = false) (hd : decode c.code pc = .ok (.areturn, 1)) (hc : cells ≤ C) (hs : slots ≤ S) (hQ : Q (some z) T.heap locs) :
    ORun p e below s Q C S T (mkF m pc Ls (z :: rest)) := by
  obtain ⟨fs, hr, hrun, hended, hW, hsame⟩ := X.leave (v := some z) (fun h => by rw [hret] at h; cases h) hlk
  exact ⟨_, _, retOut X hx hret hn (Or.inr (Or.inr (Or.inr (Or.inr ⟨rfl, ht, hz⟩)))) hd hr, hrun, hended, _, _, rfl, hQ, ⟨_, rfl⟩, hW, hsame.mono hc hs⟩
theorem own_retV (X : Stand p l e R s m args below meth c T locs cells slots) (hx : p.tables.exec = Jvm.exec) {pc : Nat} {Ls : Array Slot} (hret : meth.sig.returnType = none) (hlk : meth.locks = false) (hd : decode c.code pc = .ok (.return_, 1)) (hc : cells ≤ C) (hs : slots ≤ S) (hQ : Q none T.heap locs) :
    ORun p e below s Q C S T (mkF m pc Ls []) := by
  obtain ⟨fs, hr, hrun, hended, hW, hsame⟩ := X.leave (v := none) (fun _ => rfl) hlk
  exact ⟨_, _, X.returnOut hx hret hd hr, hrun, hended, _, _, rfl, hQ, ⟨_, rfl⟩, hW, hsame.mono hc hs⟩
/-- a body's contract: called with as at the heap h (tables as at Z) it returns, and what it leaves is as Q says -/
abbrev OMet (l : Launch) (y : MethodName) (bytes : ByteArray) (maxL : Nat) (ret : Option FieldType) (ws : List Jvm.Cond) (rm : Room) (as' : Array Value) (Z : State) (h : Heap) (Q : Option Value → Heap → List Loc → Prop) : Prop :=
  MetFree l y (head1 (Jvm.Cond.code y bytes maxL ret :: ws) rm) (fun a U => a = as' ∧ Z.Warmed39 U.vm ∧ U.heap = h) (fun _ _ _ _ _ => True) (fun _ U o U' => ∃ v L, o = .returned v ∧ Q v U'.heap L ∧ FrameEnd U o U' L rm.cells rm.slots)
theorem own_met {y : MethodName} {bytes : ByteArray} {maxL : Nat} {ret : Option FieldType} {ws : List Jvm.Cond} {rm : Room} {as' : Array Value} {Z : State} {h : Heap} {Q : Option Value → Heap → List Loc → Prop} (hpn : plainFor y = true)
    (body : ∀ p e s m below meth c s₁, Stand p l e rm s m as' below meth c s₁ [] 0 0 → p.tables.exec = Jvm.exec → c.code = bytes → c.maxLocals = maxL → s.vm.findClass y.cls = some m.cls → meth.name = y.name → meth.sig.returnType = ret → meth.locks = false → Z.Warmed39 s.vm → s₁.heap = h →
      ORun p e below s Q rm.cells rm.slots s₁ (entryFrame m as' maxL)) : OMet l y bytes maxL ret ws rm as' Z h Q := by
  refine MetFree.of_bodySF hpn hisR ?_
  intro p e s m args below meth c s₁ Bd hml0 hP hK
  obtain ⟨rfl, hZ, hh⟩ := hP
  exact body p e s m below meth c s₁ (Stand.of_body Bd) Bd.exec Bd.bytes hml0 (findClass_of_methodNamed Bd.named) (name_of_methodNamed Bd.named Bd.method).1 Bd.returns Bd.notSynchronized hZ (by rw [← hh, Bd.state]; rfl)
section Calls
variable {Z : State} {a0 : Array Value} {h : Heap} {own : String} {index : Nat} {y z : MethodName} {bytes : ByteArray} {maxL : Nat} {ret : Option FieldType} {rm : Room} {as' : Array Value} {Qc : Option Value → Heap → List Loc → Prop} {W pc : Nat} {Ls : Array Slot} {st argsL rest : List Value}
theorem own_callS (X : Stand p l e R s m args below meth c T locs cells slots) (hx : p.tables.exec = Jvm.exec) (hZ : Z.Warmed39 s.vm) (hown : s.vm.findClass own = some m.cls) (w1 : (Jvm.Cond.methodLink own index y).before a0 Z = true) (w2 : (Jvm.Cond.static y).before a0 Z = true) (w3 : (Jvm.Cond.initialized y.cls).before a0 Z = true) (w4 : (Jvm.Cond.code y bytes maxL ret).before a0 Z = true)
    (hy : y.cls ≠ "java/lang/invoke/MethodHandle" ∧ y.cls ≠ "java/lang/invoke/VarHandle") (M : OMet l y bytes maxL ret [] rm as' Z h Qc) (eT : T.heap = h) (hf : rm.frames + 1 ≤ R.frames) (hl : W + (maxL + 11) + rm.locals ≤ R.locals) (hc : cells + rm.cells ≤ R.cells) (hs : slots + rm.slots ≤ R.slots)
    (hsz : Ls.size = c.maxLocals) (hlen : ∀ sig, parseMethodDescriptor y.desc = some sig → argsL.length = sig.parameters.length) (hst : st = argsL.reverse ++ rest) (has : argsL.toArray = as') (hW : 2 * 0 + (rest.map fun v => v.category).sum ≤ W) (hd : decode c.code pc = .ok (.invokestatic index, 3))
    (K : ∀ T' L v, Stand p l e R s m args below meth c T' (locs ++ L) (cells + rm.cells) (slots + rm.slots) → Qc v T'.heap L → ORun p e below s Q C S T' (mkF m (pc + 3) Ls (v.toList ++ rest))) : ORun p e below s Q C S T (mkF m pc Ls st) := by
  obtain ⟨v, _, ⟨T', L', k', n'⟩, -, X', ⟨Lc, hQ, e1, e2, e3⟩, stp⟩ := Jvm.LawKit.callS X hx (y := y) hown (mvT hZ w1) (mvT hZ w2) (mvT hZ w3) (mvT hZ w4) hy (backOf (W := W) M hZ w4 w3 hf hl) (g := mkF m pc Ls st) rfl hsz (argsL := argsL) (rest := rest) hlen hst hW hd (fun _ _ => ⟨has, eT, hc, hs⟩)
  dsimp only [Pt.U, Pt.locs, Pt.cells, Pt.slots] at X' e1 e2 e3 stp hQ
  subst e1 e2 e3
  exact own_by stp (K T' Lc v X' hQ)
theorem own_callC (X : Stand p l e R s m args below meth c T locs cells slots) (hx : p.tables.exec = Jvm.exec) (hZ : Z.Warmed39 s.vm) (hown : s.vm.findClass own = some m.cls) (hn : y.name = "<init>") (w1 : (Jvm.Cond.methodLink own index y).before a0 Z = true) (w2 : (Jvm.Cond.instanceMethod y).before a0 Z = true) (w3 : (Jvm.Cond.initialized y.cls).before a0 Z = true) (w4 : (Jvm.Cond.code y bytes maxL none).before a0 Z = true)
    (hy : y.cls ≠ "java/lang/invoke/MethodHandle" ∧ y.cls ≠ "java/lang/invoke/VarHandle") (M : OMet l y bytes maxL none [] rm as' Z h Qc) (eT : T.heap = h) (hf : rm.frames + 1 ≤ R.frames) (hl : W + (maxL + 11) + rm.locals ≤ R.locals) (hc : cells + rm.cells ≤ R.cells) (hs : slots + rm.slots ≤ R.slots)
    {b : Addr} (hsz : Ls.size = c.maxLocals) (hlen : ∀ sig, parseMethodDescriptor y.desc = some sig → argsL.length = sig.parameters.length) (hst : st = argsL.reverse ++ .ref b :: rest) (has : (.ref b :: argsL).toArray = as') (hW : 2 * 0 + (rest.map fun v => v.category).sum ≤ W) (hd : decode c.code pc = .ok (.invokespecial index, 3))
    (K : ∀ T' L v, Stand p l e R s m args below meth c T' (locs ++ L) (cells + rm.cells) (slots + rm.slots) → Qc v T'.heap L → ORun p e below s Q C S T' (mkF m (pc + 3) Ls (v.toList ++ rest))) : ORun p e below s Q C S T (mkF m pc Ls st) := by
  obtain ⟨v, _, ⟨T', L', k', n'⟩, -, X', ⟨Lc, hQ, e1, e2, e3⟩, stp⟩ := X.specialBack hx (y := y) hn hown (mvT hZ w1) (mvT hZ w2) (mvT hZ w4) hy (backOf (W := W) M hZ w4 w3 hf hl) (g := mkF m pc Ls st) rfl hsz (Steps.refl _) (a := b) (argsL := argsL) (rest := rest) hlen hst hW hd (fun _ _ => ⟨has, eT, hc, hs⟩)
  dsimp only [Pt.U, Pt.locs, Pt.cells, Pt.slots] at X' e1 e2 e3 stp hQ
  subst e1 e2 e3
  exact own_tr stp (K T' Lc v X' hQ)
theorem own_callV (X : Stand p l e R s m args below meth c T locs cells slots) (hx : p.tables.exec = Jvm.exec) (hZ : Z.Warmed39 s.vm) (hown : s.vm.findClass own = some m.cls) {Cn : String} {b : Addr} (E : Exa Z h b Cn) (w1 : (Jvm.Cond.methodLink own index y).before a0 Z = true) (wd : (Jvm.Cond.declares y).before a0 Z = true) (nf : NotFace s y) (ws : (Jvm.Cond.selects Cn y z).before a0 Z = true) (w2 : (Jvm.Cond.instanceMethod z).before a0 Z = true) (w3 : (Jvm.Cond.initialized z.cls).before a0 Z = true) (w4 : (Jvm.Cond.code z bytes maxL ret).before a0 Z = true)
    (hy : y.cls ≠ "java/lang/invoke/MethodHandle" ∧ y.cls ≠ "java/lang/invoke/VarHandle") (M : OMet l z bytes maxL ret [] rm as' Z h Qc) (eT : T.heap = h) (hf : rm.frames + 1 ≤ R.frames) (hl : W + (maxL + 11) + rm.locals ≤ R.locals) (hc : cells + rm.cells ≤ R.cells) (hs : slots + rm.slots ≤ R.slots)
    (hsz : Ls.size = c.maxLocals) (hlen : ∀ sig, parseMethodDescriptor y.desc = some sig → argsL.length = sig.parameters.length) (hst : st = argsL.reverse ++ .ref b :: rest) (has : (.ref b :: argsL).toArray = as') (hW : 2 * 0 + (rest.map fun v => v.category).sum ≤ W) (hd : decode c.code pc = .ok (.invokevirtual index, 3))
    (K : ∀ T' L v, Stand p l e R s m args below meth c T' (locs ++ L) (cells + rm.cells) (slots + rm.slots) → Qc v T'.heap L → ORun p e below s Q C S T' (mkF m (pc + 3) Ls (v.toList ++ rest))) : ORun p e below s Q C S T (mkF m pc Ls st) := by
  obtain ⟨cq, kq, qa, qb, qc⟩ := isOf hZ eT E
  obtain ⟨v, _, ⟨T', L', k', n'⟩, -, X', ⟨Lc, hQ, e1, e2, e3⟩, stp⟩ := X.virtualBack hx (y := y) (z := z) hown (mvT hZ w1) (mvT hZ wd) nf (mvT hZ ws) (mvT hZ w2) hy (backOf (W := W) M hZ w4 w3 hf hl) qa qc (g := mkF m pc Ls st) rfl hsz (Steps.refl _) (argsL := argsL) (rest := rest) hlen hst hW hd (fun _ _ => ⟨has, eT, hc, hs⟩)
  dsimp only [Pt.U, Pt.locs, Pt.cells, Pt.slots] at X' e1 e2 e3 stp hQ
  subst e1 e2 e3
  exact own_tr stp (K T' Lc v X' hQ)
end Calls
end OwnRun
theorem own_lt {x y : Int32} {a b : Int} (h : x < y) (ha : x.toInt = a) (hb : y.toInt = b) : a < b := by subst ha hb; exact Int32.lt_iff_toInt_lt.mp h
theorem own_nlt {x y : Int32} {a b : Int} (h : ¬ x < y) (ha : x.toInt = a) (hb : y.toInt = b) : b ≤ a := by subst ha hb; exact Int.not_lt.mp fun q => h (Int32.lt_iff_toInt_lt.mpr q)
theorem own_eq {x y : Int32} {a b : Int} (h : x = y) (ha : x.toInt = a) (hb : y.toInt = b) : a = b := by subst ha hb h; rfl
theorem own_ne {x y : Int32} {a b : Int} (h : ¬ x = y) (ha : x.toInt = a) (hb : y.toInt = b) : a ≠ b := by subst ha hb; exact fun q => h (Int32.toInt_inj.mp q)
theorem own_ltL {x y : Int64} {a b : Int} (h : x < y) (ha : x.toInt = a) (hb : y.toInt = b) : a < b := by subst ha hb; exact Int64.lt_iff_toInt_lt.mp h
theorem own_nltL {x y : Int64} {a b : Int} (h : ¬ x < y) (ha : x.toInt = a) (hb : y.toInt = b) : b ≤ a := by subst ha hb; exact Int.not_lt.mp fun q => h (Int64.lt_iff_toInt_lt.mpr q)
theorem own_eqL {x y : Int64} {a b : Int} (h : x = y) (ha : x.toInt = a) (hb : y.toInt = b) : a = b := by subst ha hb h; rfl
theorem own_neL {x y : Int64} {a b : Int} (h : ¬ x = y) (ha : x.toInt = a) (hb : y.toInt = b) : a ≠ b := by subst ha hb; exact fun q => h (Int64.toInt_inj.mp q)
theorem own_lc {cd : ClassFile.Cond} {x y : Int64} {b : Bool} (h : if_icmp.holds cd (lcmpW x y) 0 = b) : ifCond.holds cd (lcmpW x y) = b := (if0 _ _).trans h
theorem own_lclt {x y : Int64} (h : x < y) : ifCond.holds .lt (lcmpW x y) = true ∧ ifCond.holds .ge (lcmpW x y) = false := ⟨own_lc (tlt ((lw_lt x y).mpr h)).1, own_lc (tlt ((lw_lt x y).mpr h)).2.1⟩
theorem own_lcnlt {x y : Int64} (h : ¬ x < y) : ifCond.holds .lt (lcmpW x y) = false ∧ ifCond.holds .ge (lcmpW x y) = true := have q : ¬ lcmpW x y < 0 := fun z => h ((lw_lt x y).mp z); ⟨own_lc (flt q).1, own_lc (flt q).2.1⟩
theorem own_lcgt {x y : Int64} (h : y < x) : ifCond.holds .gt (lcmpW x y) = true ∧ ifCond.holds .le (lcmpW x y) = false := ⟨own_lc (tlt ((lw_gt x y).mpr h)).2.2.1, own_lc (tlt ((lw_gt x y).mpr h)).2.2.2⟩
theorem own_lcngt {x y : Int64} (h : ¬ y < x) : ifCond.holds .gt (lcmpW x y) = false ∧ ifCond.holds .le (lcmpW x y) = true := have q : ¬ 0 < lcmpW x y := fun z => h ((lw_gt x y).mp z); ⟨own_lc (flt q).2.2.1, own_lc (flt q).2.2.2⟩
theorem own_lceq {x y : Int64} (h : x = y) : ifCond.holds .eq (lcmpW x y) = true ∧ ifCond.holds .ne (lcmpW x y) = false := ⟨own_lc (teq ((lw_eq x y).mpr h)).1, own_lc (teq ((lw_eq x y).mpr h)).2⟩
theorem own_lcne {x y : Int64} (h : ¬ x = y) : ifCond.holds .eq (lcmpW x y) = false ∧ ifCond.holds .ne (lcmpW x y) = true := have q : ¬ lcmpW x y = 0 := fun z => h ((lw_eq x y).mp z); ⟨own_lc (feq q).1, own_lc (feq q).2⟩
theorem own_kext {h0 h : Heap} (K : Keep h0 h []) : Ext h0 h := ⟨K.1, fun a c q => K.2.1 a c q nin0⟩
section OwnVec
variable {p : Program} {l : Launch} {e : Env} {R : Room} {s : State} {m : MethodId} {args : Array Value} {below : List Frame} {meth : Method} {c : Code} {T T' : State} {locs : List Loc} {cells slots : Nat} {Q : Option Value → Heap → List Loc → Prop} {C S : Nat} {Z : State} {a0 : Array Value} {h h' : Heap} {a b : Addr} {ty : FieldType} {L : List Int32} {pc : Nat} {Ls : Array Slot} {rest : List Value}
/-- the array at a holds the ints of L, and no more -/
def OVec (Z : State) (h : Heap) (a : Addr) (ty : FieldType) (L : List Int32) : Prop := ∃ c : Cell, Arr Z h a c ty ∧ c.slots = (L.map Value.int).toArray
theorem OVec.lt (V : OVec Z h a ty L) : a < h.size := by obtain ⟨c, A, -⟩ := V; exact A.lt
theorem OVec.ext (V : OVec Z h a ty L) (E : Ext h h') : OVec Z h' a ty L := by obtain ⟨c, A, r⟩ := V; exact ⟨c, A.ext E, r⟩
theorem OVec.other {sl : Nat} {v : Value} (V : OVec Z h b ty L) (W : Wr h h' a sl v) (q : b ≠ a) : OVec Z h' b ty L := by obtain ⟨c, A, r⟩ := V; exact ⟨c, A.other W q, r⟩
theorem OVec.keep {ws : List Addr} (V : OVec Z h a ty L) (K : Keep h h' ws) (q : a ∉ ws) : OVec Z h' a ty L := by obtain ⟨c, A, r⟩ := V; exact ⟨c, ⟨K.2.1 a c A.1 q, A.2⟩, r⟩
theorem OVec.set {j : Nat} {x : Int32} (V : OVec Z h a ty L) (W : Wr h h' a j (.int x)) : OVec Z h' a ty (L.set j x) := by
  obtain ⟨c, A, r⟩ := V
  refine ⟨c.setSlot j (.int x), A.same W, ?_⟩
  show c.slots.setIfInBounds j (.int x) = _
  rw [r, List.setIfInBounds_toArray, List.map_set]
theorem OVec.new {k : ClassId} {n : Int32} (A : Arr Z h a (newA k ty n) ty) (hd : defaultValue ty = .int 0) {N : Nat} (hn : n.toInt = N) : OVec Z h a ty (List.replicate N 0) := by
  refine ⟨_, A, ?_⟩
  have e : n.toNatClampNeg = N := by simp only [Int32.toNatClampNeg]; omega
  simp [newA, hd, e]
theorem own_ix {j : Int32} {i : Nat} (hj : j.toInt = i) : ¬ j < 0 ∧ j.toNatClampNeg = i := by
  refine ⟨fun q => ?_, ?_⟩
  · have := Int32.lt_iff_toInt_lt.mp q; have z : (0 : Int32).toInt = 0 := rfl; omega
  · simp only [Int32.toNatClampNeg]; omega
theorem own_in {c : Cell} {j : Int32} {i : Nat} (hj : j.toInt = i) (r : c.slots = (L.map Value.int).toArray) (hi : i < L.length) : ¬ (j < 0 ∨ c.slots.size ≤ j.toNatClampNeg) := by
  obtain ⟨q1, q2⟩ := own_ix hj
  rintro (q | q)
  · exact q1 q
  · rw [r, q2] at q; simp at q; omega
theorem own_iaload (X : Stand p l e R s m args below meth c T locs cells slots) (hx : p.tables.exec = Jvm.exec) (hZ : Z.Warmed39 s.vm) (eT : T.heap = h) (V : OVec Z h a .int L) {j : Int32} {i : Nat} (hj : j.toInt = i) (hi : i < L.length) (hd : decode c.code pc = .ok (.iaload, 1))
    (K : ∀ v, v = L.getD i 0 → ORun p e below s Q C S T (mkF m (pc + 1) Ls (.int v :: rest))) : ORun p e below s Q C S T (mkF m pc Ls (.int j :: .ref a :: rest)) := by
  obtain ⟨cl, A, r⟩ := V
  refine own_by (fun t k => X.iaload hx (j := j) (v := .int (L.getD i 0)) (by rw [eT]; exact A.1) (State.isArrayOf_alike hZ.alike A.2.1) A.2.2 (own_in hj r hi) ?_ (g := mkF m pc Ls (.int j :: .ref a :: rest)) rfl rfl hd _ k) (K _ rfl)
  rw [(own_ix hj).2, r]; simp [List.getD_eq_getElem?_getD, List.getElem?_eq_getElem hi]
theorem own_baload (X : Stand p l e R s m args below meth c T locs cells slots) (hx : p.tables.exec = Jvm.exec) (hZ : Z.Warmed39 s.vm) (eT : T.heap = h) (V : OVec Z h a .byte L) {j : Int32} {i : Nat} (hj : j.toInt = i) (hi : i < L.length) (hd : decode c.code pc = .ok (.baload, 1))
    (K : ∀ v, v = L.getD i 0 → ORun p e below s Q C S T (mkF m (pc + 1) Ls (.int v :: rest))) : ORun p e below s Q C S T (mkF m pc Ls (.int j :: .ref a :: rest)) := by
  obtain ⟨cl, A, r⟩ := V
  refine own_by (fun t k => X.baloadBytes hx (j := j) (v := .int (L.getD i 0)) (by rw [eT]; exact A.1) (State.isArrayOf_alike hZ.alike A.2.1) A.2.2 (own_in hj r hi) ?_ (g := mkF m pc Ls (.int j :: .ref a :: rest)) rfl rfl hd _ k) (K _ rfl)
  rw [(own_ix hj).2, r]; simp [List.getD_eq_getElem?_getD, List.getElem?_eq_getElem hi]
theorem own_len (X : Stand p l e R s m args below meth c T locs cells slots) (hx : p.tables.exec = Jvm.exec) (hZ : Z.Warmed39 s.vm) (eT : T.heap = h) (V : OVec Z h a ty L) {n : Nat} (hl : L.length = n) (hd : decode c.code pc = .ok (.arraylength, 1))
    (K : ORun p e below s Q C S T (mkF m (pc + 1) Ls (.int n.toInt32 :: rest))) : ORun p e below s Q C S T (mkF m pc Ls (.ref a :: rest)) := by
  obtain ⟨cl, A, r⟩ := V
  have hs : cl.slots.size = n := by rw [r]; simp [hl]
  refine own_by (fun t k => X.arraylength hx (by rw [eT]; exact A.1) (State.isArrayOf_alike hZ.alike A.2.1) (g := mkF m pc Ls (.ref a :: rest)) rfl rfl hd _ k) ?_
  rw [hs]; exact K
theorem own_iastore (X : Stand p l e R s m args below meth c T locs cells slots) (hx : p.tables.exec = Jvm.exec) (hZ : Z.Warmed39 s.vm) (eT : T.heap = h) (V : OVec Z h a .int L) {j x : Int32} {i : Nat} (hj : j.toInt = i) (hi : i < L.length) (hd : decode c.code pc = .ok (.iastore, 1))
    (K : ∀ T' h' L', Stand p l e R s m args below meth c T' (locs ++ [⟨a, i⟩]) cells slots → T'.heap = h' → Wr h h' a i (.int x) → L' = L.set i x → OVec Z h' a .int L' → ORun p e below s Q C S T' (mkF m (pc + 1) Ls rest)) : ORun p e below s Q C S T (mkF m pc Ls (.int x :: .int j :: .ref a :: rest)) := by
  obtain ⟨cl, A, r⟩ := id V
  obtain ⟨T', h', X', e', W, st⟩ := stI X hx hZ eT A (own_in hj r hi) (g := mkF m pc Ls (.int x :: .int j :: .ref a :: rest)) rfl rfl hd
  rw [(own_ix hj).2] at X' W
  exact own_by st (K T' h' _ X' e' W rfl (V.set W))
theorem own_bastore (X : Stand p l e R s m args below meth c T locs cells slots) (hx : p.tables.exec = Jvm.exec) (hZ : Z.Warmed39 s.vm) (eT : T.heap = h) (V : OVec Z h a .byte L) {j x : Int32} {i : Nat} (hj : j.toInt = i) (hi : i < L.length) (hd : decode c.code pc = .ok (.bastore, 1))
    (K : ∀ T' h' L', Stand p l e R s m args below meth c T' (locs ++ [⟨a, i⟩]) cells slots → T'.heap = h' → Wr h h' a i (.int (nar .byte x)) → L' = L.set i (nar .byte x) → OVec Z h' a .byte L' → ORun p e below s Q C S T' (mkF m (pc + 1) Ls rest)) : ORun p e below s Q C S T (mkF m pc Ls (.int x :: .int j :: .ref a :: rest)) := by
  obtain ⟨cl, A, r⟩ := id V
  obtain ⟨T', h', X', e', W, st⟩ := stB X hx hZ eT A (own_in hj r hi) (g := mkF m pc Ls (.int x :: .int j :: .ref a :: rest)) rfl rfl hd
  rw [(own_ix hj).2] at X' W
  exact own_by st (K T' h' _ X' e' W rfl (V.set W))
theorem own_newarray (X : Stand p l e R s m args below meth c T locs cells slots) (hx : p.tables.exec = Jvm.exec) (hZ : Z.Warmed39 s.vm) {aty : ArrayType} (w : (Jvm.Cond.arrayClass (newarray.typeOf aty)).before a0 Z = true) (eT : T.heap = h) (hdv : defaultValue (newarray.typeOf aty) = .int 0) {n : Int32} {N cap : Nat} (hn : n.toInt = N) (hcap : N ≤ cap) (hb : cap * 8 ≤ 536870912) (hc : cells + 1 ≤ R.cells) (hl : slots + cap ≤ R.slots) {ad : String} (had : "[" ++ (newarray.typeOf aty).toString = ad) (hd : decode c.code pc = .ok (.newarray aty, 2))
    (K : ∀ T' h' b L', b = h.size → Stand p l e R s m args below meth c T' locs (cells + 1) (slots + cap) → T'.heap = h' → Ext h h' → L' = List.replicate N (0 : Int32) → OVec Z h' b (newarray.typeOf aty) L' → Exa Z h' b ad → ORun p e below s Q C S T' (mkF m (pc + 2) Ls (.ref b :: rest))) : ORun p e below s Q C S T (mkF m pc Ls (.int n :: rest)) := by
  have q := own_ix hn
  obtain ⟨T', h', cA, X', e', E, A, Ex, st⟩ := newPE X hx hZ w eT (g := mkF m pc Ls (.int n :: rest)) rfl hd rfl q.1 (cap := cap) (by rw [q.2]; exact hcap) hb hc hl had
  exact own_by st (K T' h' _ _ rfl X' e' E rfl (OVec.new A hdv hn) Ex)
end OwnVec
section OwnVecJ
variable {p : Program} {l : Launch} {e : Env} {R : Room} {s : State} {m : MethodId} {args : Array Value} {below : List Frame} {meth : Method} {c : Code} {T T' : State} {locs : List Loc} {cells slots : Nat} {Q : Option Value → Heap → List Loc → Prop} {C S : Nat} {Z : State} {a0 : Array Value} {h h' : Heap} {a b : Addr} {L : List Int64} {pc : Nat} {Ls : Array Slot} {rest : List Value}
def OVecJ (Z : State) (h : Heap) (a : Addr) (L : List Int64) : Prop := ∃ c : Cell, Arr Z h a c .long ∧ c.slots = (L.map Value.long).toArray
theorem OVecJ.lt (V : OVecJ Z h a L) : a < h.size := by obtain ⟨c, A, -⟩ := V; exact A.lt
theorem OVecJ.ext (V : OVecJ Z h a L) (E : Ext h h') : OVecJ Z h' a L := by obtain ⟨c, A, r⟩ := V; exact ⟨c, A.ext E, r⟩
theorem OVecJ.other {sl : Nat} {v : Value} (V : OVecJ Z h b L) (W : Wr h h' a sl v) (q : b ≠ a) : OVecJ Z h' b L := by obtain ⟨c, A, r⟩ := V; exact ⟨c, A.other W q, r⟩
theorem OVecJ.keep {ws : List Addr} (V : OVecJ Z h a L) (K : Keep h h' ws) (q : a ∉ ws) : OVecJ Z h' a L := by obtain ⟨c, A, r⟩ := V; exact ⟨c, ⟨K.2.1 a c A.1 q, A.2⟩, r⟩
theorem OVecJ.set {j : Nat} {x : Int64} (V : OVecJ Z h a L) (W : Wr h h' a j (.long x)) : OVecJ Z h' a (L.set j x) := by
  obtain ⟨c, A, r⟩ := V
  refine ⟨c.setSlot j (.long x), A.same W, ?_⟩
  show c.slots.setIfInBounds j (.long x) = _
  rw [r, List.setIfInBounds_toArray, List.map_set]
theorem OVecJ.new {k : ClassId} {n : Int32} (A : Arr Z h a (newA k .long n) .long) {N : Nat} (hn : n.toInt = N) : OVecJ Z h a (List.replicate N 0) := by
  refine ⟨_, A, ?_⟩
  have e : n.toNatClampNeg = N := by simp only [Int32.toNatClampNeg]; omega
  have d : defaultValue .long = .long 0 := rfl
  simp [newA, e, d]
theorem own_inJ {c : Cell} {j : Int32} {i : Nat} (hj : j.toInt = i) (r : c.slots = (L.map Value.long).toArray) (hi : i < L.length) : ¬ (j < 0 ∨ c.slots.size ≤ j.toNatClampNeg) := by
  obtain ⟨q1, q2⟩ := own_ix hj
  rintro (q | q)
  · exact q1 q
  · rw [r, q2] at q; simp at q; omega
theorem own_laload (X : Stand p l e R s m args below meth c T locs cells slots) (hx : p.tables.exec = Jvm.exec) (hZ : Z.Warmed39 s.vm) (eT : T.heap = h) (V : OVecJ Z h a L) {j : Int32} {i : Nat} (hj : j.toInt = i) (hi : i < L.length) (hd : decode c.code pc = .ok (.laload, 1))
    (K : ∀ v, v = L.getD i 0 → ORun p e below s Q C S T (mkF m (pc + 1) Ls (.long v :: rest))) : ORun p e below s Q C S T (mkF m pc Ls (.int j :: .ref a :: rest)) := by
  obtain ⟨cl, A, r⟩ := V
  refine own_by (fun t k => X.laload hx (j := j) (v := .long (L.getD i 0)) (by rw [eT]; exact A.1) (State.isArrayOf_alike hZ.alike A.2.1) A.2.2 (own_inJ hj r hi) ?_ (g := mkF m pc Ls (.int j :: .ref a :: rest)) rfl rfl hd _ k) (K _ rfl)
  rw [(own_ix hj).2, r]; simp [List.getD_eq_getElem?_getD, List.getElem?_eq_getElem hi]
theorem own_lastore (X : Stand p l e R s m args below meth c T locs cells slots) (hx : p.tables.exec = Jvm.exec) (hZ : Z.Warmed39 s.vm) (eT : T.heap = h) (V : OVecJ Z h a L) {j : Int32} {x : Int64} {i : Nat} (hj : j.toInt = i) (hi : i < L.length) (hd : decode c.code pc = .ok (.lastore, 1))
    (K : ∀ T' h' L', Stand p l e R s m args below meth c T' (locs ++ [⟨a, i⟩]) cells slots → T'.heap = h' → Wr h h' a i (.long x) → L' = L.set i x → OVecJ Z h' a L' → ORun p e below s Q C S T' (mkF m (pc + 1) Ls rest)) : ORun p e below s Q C S T (mkF m pc Ls (.long x :: .int j :: .ref a :: rest)) := by
  obtain ⟨cl, A, r⟩ := id V
  obtain ⟨T', h', X', e', W, st⟩ := stJ X hx hZ eT A (own_inJ hj r hi) (g := mkF m pc Ls (.long x :: .int j :: .ref a :: rest)) rfl rfl hd
  rw [(own_ix hj).2] at X' W
  exact own_by st (K T' h' _ X' e' W rfl (V.set W))
theorem own_newJ (X : Stand p l e R s m args below meth c T locs cells slots) (hx : p.tables.exec = Jvm.exec) (hZ : Z.Warmed39 s.vm) (w : (Jvm.Cond.arrayClass .long).before a0 Z = true) (eT : T.heap = h) {n : Int32} {N cap : Nat} (hn : n.toInt = N) (hcap : N ≤ cap) (hb : cap * 8 ≤ 536870912) (hc : cells + 1 ≤ R.cells) (hl : slots + cap ≤ R.slots) (hd : decode c.code pc = .ok (.newarray .long, 2))
    (K : ∀ T' h' b L', b = h.size → Stand p l e R s m args below meth c T' locs (cells + 1) (slots + cap) → T'.heap = h' → Ext h h' → L' = List.replicate N (0 : Int64) → OVecJ Z h' b L' → ORun p e below s Q C S T' (mkF m (pc + 2) Ls (.ref b :: rest))) : ORun p e below s Q C S T (mkF m pc Ls (.int n :: rest)) := by
  have q := own_ix hn
  obtain ⟨T', h', cA, X', e', E, A, st⟩ := newP X hx hZ (aty := .long) w eT (g := mkF m pc Ls (.int n :: rest)) rfl hd rfl q.1 (cap := cap) (by rw [q.2]; exact hcap) hb hc hl
  exact own_by st (K T' h' _ _ rfl X' e' E rfl (OVecJ.new A hn))
end OwnVecJ
/-- what a case's word on an array's length says -/
theorem own_arrlen {args : Array Value} {s : State} {t : Term} {a : Addr} {cl : Cell} {ty : FieldType} {n : Int32} (ht : t.eval args s none [] s = some (.ref a)) (A : Arr s s.heap a cl ty) (h : (Jvm.Cond.eq (Term.length t) (Term.int n)).value args s none s [] = some true) : (cl.slots.size : Int) = n.toInt := by
  obtain ⟨x, y, ex, ey, k1, k2⟩ := cmp_v (Or.inl h)
  obtain rfl : y = .int n := (Option.some.inj ((Term.int_eval n).symm.trans ey)).symm
  obtain ⟨a', cell, ha', hat, hv, hs⟩ := Jvm.Free.SB.Term.length_small ex
  cases ht.symm.trans ha'
  cases A.1.symm.trans (State.arrayAt?_spec hat).1
  subst hv
  have q : cl.slots.size.toInt32 = n := gotT (Cond.eq_ints ex ey) h
  rw [← q, len_toInt hs]
section OwnCopy
variable {p : Program} {l : Launch} {e : Env} {R : Room} {s : State} {m : MethodId} {args : Array Value} {below : List Frame} {meth : Method} {c : Code} {T T' : State} {locs : List Loc} {cells slots : Nat} {Q : Option Value → Heap → List Loc → Prop} {C S : Nat} {Z : State} {a0 : Array Value} {h h' : Heap} {a b : Addr} {ty : FieldType} {L M : List Int32} {pc : Nat} {Ls : Array Slot} {rest : List Value}
theorem own_getD (L : List Int32) (i : Nat) : (L.map Value.int).getD i (.int 0) = .int (L.getD i 0) := by
  simp only [List.getD_eq_getElem?_getD, List.getElem?_map]
  cases L[i]? <;> rfl
theorem OVec.arv (V : OVec Z h a .int L) (hn : L.length < 2 ^ 31) : ∃ k, Arv Z h a k .int (Int32.ofNat L.length) (L.map Value.int) (.int 0) := by
  obtain ⟨cl, A, r⟩ := V
  have e0 : (Int32.ofNat L.length).toInt = L.length := Int32.toInt_ofNat_of_lt hn
  obtain ⟨q1, q2⟩ := own_ix e0
  refine ⟨cl.cls, cl, A, rfl, by rw [q2, r]; simp, q1, fun i hi => ?_, fun i _ => by rw [own_getD]; rfl⟩
  rw [own_getD, r]
  rw [r] at hi
  have hi' : i < L.length := by simpa using hi
  simp [List.getD_eq_getElem?_getD, hi']
theorem OVec.of_arv {k : ClassId} {z : Int32} {vs : List Value} {d : Value} (F : Arv Z h a k ty z vs d) (ev : vs = L.map Value.int) (hl : L.length = z.toNatClampNeg) : OVec Z h a ty L := by
  obtain ⟨cl, A, -, S, -, H, -⟩ := F
  refine ⟨cl, A, ?_⟩
  apply Array.ext_getElem?
  intro i
  by_cases hi : i < L.length
  · rw [H i (by omega), ev]; simp [List.getD_eq_getElem?_getD, hi]
  · rw [Array.getElem?_eq_none (by omega), Array.getElem?_eq_none (by simp; omega)]
theorem own_us (L : List Int32) (i k : Nat) (h : i + k ≤ L.length) : ((List.range k).map fun x => (L.map Value.int).getD (i + x) (.int 0)) = ((L.drop i).take k).map Value.int := by
  apply List.ext_getElem?
  intro x
  by_cases hx : x < k
  · have h2 : i + x < L.length := by omega
    simp [own_getD, hx, List.getD_eq_getElem?_getD, List.getElem?_take, List.getElem?_drop, h2]
  · rw [List.getElem?_eq_none (by simp; omega), List.getElem?_eq_none (by simp; omega)]
theorem own_acopy (X : Stand p l e R s m args below meth c T locs cells slots) (hx : p.tables.exec = Jvm.exec) (hZ : Z.Warmed39 s.vm) {own : String} {index : Nat} (hown : s.vm.findClass own = some m.cls)
    (w1 : (Jvm.Cond.methodLink own index Jvm.Stand.acN).before a0 Z = true) (w2 : (Jvm.Cond.native Jvm.Stand.acN).before a0 Z = true) (w3 : (Jvm.Cond.static Jvm.Stand.acN).before a0 Z = true) (w4 : (Jvm.Cond.initialized "java/lang/System").before a0 Z = true) (eT : T.heap = h)
    (A : OVec Z h a .int L) (B : OVec Z h b .int M) (hL : L.length < 2 ^ 31) (hM : M.length < 2 ^ 31) {sp dp nn : Int32} {i j k : Nat} (hi : sp.toInt = i) (hj : dp.toInt = j) (hk : nn.toInt = k) (h4 : i + k ≤ L.length) (h5 : j + k ≤ M.length) {n0 : Nat} (N : Fr n0 locs) (ge : n0 ≤ b)
    (hsize : Ls.size = c.maxLocals) (hd : decode c.code pc = .ok (.invokestatic index, 3)) (hf : 1 ≤ R.frames) {W : Nat} (hW : 2 * 0 + (rest.map fun v => v.category).sum ≤ W) (hlo : W + (nativeFrameWords "java/lang/System" "arraycopy" 5 + 11) ≤ R.locals)
    (K : ∀ T' h' L2, Stand p l e R s m args below meth c T' L2 cells slots → T'.heap = h' → Fr n0 L2 → Keep h h' [b] → OVec Z h' b .int (M.take j ++ (L.drop i).take k ++ M.drop (j + k)) → ORun p e below s Q C S T' (mkF m (pc + 3) Ls rest)) :
    ORun p e below s Q C S T (mkF m pc Ls (.int nn :: .int dp :: .ref b :: .int sp :: .ref a :: rest)) := by
  obtain ⟨ka, Fa⟩ := A.arv hL
  obtain ⟨kb, Fb⟩ := B.arv hM
  obtain ⟨i1, i2⟩ := own_ix hi
  obtain ⟨j1, j2⟩ := own_ix hj
  obtain ⟨k1, k2⟩ := own_ix hk
  have zl : (Int32.ofNat L.length).toNatClampNeg = L.length := (own_ix (Int32.toInt_ofNat_of_lt hL)).2
  have zm : (Int32.ofNat M.length).toNatClampNeg = M.length := (own_ix (Int32.toInt_ofNat_of_lt hM)).2
  obtain ⟨T', h', L2, X', e', N', K', F', st⟩ := cpA X hx hZ hown w1 w2 w3 w4 eT Fa Fb (Or.inl ⟨rfl, rfl⟩) i1 j1 k1 (by rw [i2, k2, zl]; exact h4) (by rw [j2, k2, zm]; exact h5) rfl (by rw [j2, k2]; simpa using h5) N ge (g := mkF m pc Ls (.int nn :: .int dp :: .ref b :: .int sp :: .ref a :: rest)) rfl hsize rfl hd hf hW hlo
  rw [i2, j2, k2, own_us L i k h4] at F'
  refine own_by st (K T' h' L2 X' e' N' K' (OVec.of_arv F' (by simp) ?_))
  rw [zm]; simp; omega
theorem own_lenv (X : Stand p l e R s m args below meth c T locs cells slots) (hx : p.tables.exec = Jvm.exec) (hZ : Z.Warmed39 s.vm) (eT : T.heap = h) (V : OVec Z h a ty L) {n : Nat} (hl : L.length = n) (hn : n < 2 ^ 31) (hd : decode c.code pc = .ok (.arraylength, 1))
    (K : ∀ v : Int32, v.toInt = n → ORun p e below s Q C S T (mkF m (pc + 1) Ls (.int v :: rest))) : ORun p e below s Q C S T (mkF m pc Ls (.ref a :: rest)) :=
  own_len X hx hZ eT V hl hd (K _ (len_toInt hn))
theorem own_clone (X : Stand p l e R s m args below meth c T locs cells slots) (hx : p.tables.exec = Jvm.exec) (hZ : Z.Warmed39 s.vm) {own : String} {index : Nat} (hown : s.vm.findClass own = some m.cls)
    (w1 : (Jvm.Cond.methodLink own index ⟨"[I", "clone", "()Ljava/lang/Object;"⟩).before a0 Z = true) (w2 : (Jvm.Cond.sameMethod "[I" "java/lang/Object" "clone" "()Ljava/lang/Object;").before a0 Z = true) (w3 : (Jvm.Cond.native ⟨"java/lang/Object", "clone", "()Ljava/lang/Object;"⟩).before a0 Z = true)
    (w4 : (Jvm.Cond.instanceMethod ⟨"java/lang/Object", "clone", "()Ljava/lang/Object;"⟩).before a0 Z = true) (w5 : (Jvm.Cond.selects "[I" ⟨"[I", "clone", "()Ljava/lang/Object;"⟩ ⟨"java/lang/Object", "clone", "()Ljava/lang/Object;"⟩).before a0 Z = true) (w6 : (Jvm.Cond.castable "[I" "java/lang/Cloneable").before a0 Z = true)
    (eT : T.heap = h) (V : OVec Z h a .int L) (E : Exa Z h a "[I") (hsize : Ls.size = c.maxLocals) (hd : decode c.code pc = .ok (.invokevirtual index, 3)) (hf : 1 ≤ R.frames) {W cap : Nat} (hW : 2 * 0 + (rest.map fun v => v.category).sum ≤ W) (hl : W + 14 ≤ R.locals) (hcap : L.length ≤ cap) (hc : cells + 1 ≤ R.cells) (hsl : slots + cap ≤ R.slots)
    (K : ∀ T' h' b, b = h.size → Stand p l e R s m args below meth c T' locs (cells + 1) (slots + cap) → T'.heap = h' → Ext h h' → OVec Z h' b .int L → Exa Z h' b "[I" → ORun p e below s Q C S T' (mkF m (pc + 3) Ls (.ref b :: rest))) :
    ORun p e below s Q C S T (mkF m pc Ls (.ref a :: rest)) := by
  obtain ⟨cl, A, r⟩ := V
  have FC : FitC Z cl := fitC_of A fun i hi v hv => by
    rw [r] at hv
    simp only [List.getElem?_toArray, List.getElem?_map] at hv
    cases hL : L[i]? with
    | none => rw [hL] at hv; cases hv
    | some x => rw [hL] at hv; cases hv; rfl
  obtain ⟨T', h', X', e', ex, A', E', st⟩ := cloneA X hx hZ hown w1 w2 w3 w4 w5 w6 eT A E FC (g := mkF m pc Ls (.ref a :: rest)) rfl hsize rfl hd hf hW hl (by rw [r]; simpa using hcap) hc hsl
  exact own_by st (K T' h' _ rfl X' e' ex ⟨cloneOf cl, A', r⟩ E')
end OwnCopy
section OwnStr
variable {p : Program} {l : Launch} {e : Env} {R : Room} {s : State} {m : MethodId} {args : Array Value} {below : List Frame} {meth : Method} {c : Code} {T T' : State} {locs : List Loc} {cells slots : Nat} {Q : Option Value → Heap → List Loc → Prop} {C S : Nat} {Z : State} {a0 : Array Value} {h h' : Heap} {a b : Addr} {ty : FieldType} {L : List Int32} {pc : Nat} {Ls : Array Slot} {rest : List Value}
theorem own_castore (X : Stand p l e R s m args below meth c T locs cells slots) (hx : p.tables.exec = Jvm.exec) (hZ : Z.Warmed39 s.vm) (eT : T.heap = h) (V : OVec Z h a .char L) {j x : Int32} {i : Nat} (hj : j.toInt = i) (hi : i < L.length) (hd : decode c.code pc = .ok (.castore, 1))
    (K : ∀ T' h' L', Stand p l e R s m args below meth c T' (locs ++ [⟨a, i⟩]) cells slots → T'.heap = h' → Wr h h' a i (.int (nar .char x)) → L' = L.set i (nar .char x) → OVec Z h' a .char L' → ORun p e below s Q C S T' (mkF m (pc + 1) Ls rest)) : ORun p e below s Q C S T (mkF m pc Ls (.int x :: .int j :: .ref a :: rest)) := by
  obtain ⟨cl, A, r⟩ := id V
  obtain ⟨T', h', X', e', W, st⟩ := stC X hx hZ eT A (own_in hj r hi) (g := mkF m pc Ls (.int x :: .int j :: .ref a :: rest)) rfl rfl hd
  rw [(own_ix hj).2] at X' W
  exact own_by st (K T' h' _ X' e' W rfl (V.set W))
theorem own_getD' (L : List Int32) (i : Nat) : (L.map Value.int).getD i (.int 0) = .int (L.getD i 0) := by
  simp only [List.getD_eq_getElem?_getD, List.getElem?_map]
  cases L[i]? <;> rfl
theorem OVec.arvC (V : OVec Z h a ty L) (hf : ∀ x ∈ L, fits ty (.int x) = true) (hn : L.length < 2 ^ 31) : ∃ k, Arv Z h a k ty (Int32.ofNat L.length) (L.map Value.int) (.int 0) := by
  obtain ⟨cl, A, r⟩ := V
  have e0 : (Int32.ofNat L.length).toInt = L.length := Int32.toInt_ofNat_of_lt hn
  obtain ⟨q1, q2⟩ := own_ix e0
  refine ⟨cl.cls, cl, A, rfl, by rw [q2, r]; simp, q1, fun i hi => ?_, fun i hi => ?_⟩
  · rw [own_getD', r]
    rw [r] at hi
    have hi' : i < L.length := by simpa using hi
    simp [List.getD_eq_getElem?_getD, hi']
  · rw [own_getD']
    rw [r] at hi
    have hi' : i < L.length := by simpa using hi
    apply hf
    simp [List.getD_eq_getElem?_getD, hi']
theorem own_callCB {own : String} {index : Nat} {y : MethodName} {bytes : ByteArray} {maxL kc ks W : Nat} {as' : Array Value} {Qc : Option Value → Heap → List Loc → Prop} {st argsL : List Value} (X : Stand p l e R s m args below meth c T locs cells slots) (hx : p.tables.exec = Jvm.exec) (hZ : Z.Warmed39 s.vm) (hown : s.vm.findClass own = some m.cls) (hn : y.name = "<init>") (w1 : (Jvm.Cond.methodLink own index y).before a0 Z = true) (w2 : (Jvm.Cond.instanceMethod y).before a0 Z = true) (w4 : (Jvm.Cond.code y bytes maxL none).before a0 Z = true)
    (hy : y.cls ≠ "java/lang/invoke/MethodHandle" ∧ y.cls ≠ "java/lang/invoke/VarHandle") (hK : Back l R p e below s args y 3 W (fun P a => a = as' ∧ P.U.heap = h ∧ P.cells + kc ≤ R.cells ∧ P.slots + ks ≤ R.slots) (fun P _ v B => ∃ L, Qc v B.U.heap L ∧ B.locs = P.locs ++ L ∧ B.cells = P.cells + kc ∧ B.slots = P.slots + ks)) (eT : T.heap = h) (hc : cells + kc ≤ R.cells) (hs : slots + ks ≤ R.slots)
    {b : Addr} (hsz : Ls.size = c.maxLocals) (hlen : ∀ sig, parseMethodDescriptor y.desc = some sig → argsL.length = sig.parameters.length) (hst : st = argsL.reverse ++ .ref b :: rest) (has : (.ref b :: argsL).toArray = as') (hW : 2 * 0 + (rest.map fun v => v.category).sum ≤ W) (hd : decode c.code pc = .ok (.invokespecial index, 3))
    (K : ∀ T' L v, Stand p l e R s m args below meth c T' (locs ++ L) (cells + kc) (slots + ks) → Qc v T'.heap L → ORun p e below s Q C S T' (mkF m (pc + 3) Ls (v.toList ++ rest))) : ORun p e below s Q C S T (mkF m pc Ls st) := by
  obtain ⟨v, _, ⟨T', L', k', n'⟩, -, X', ⟨Lc, hQ, e1, e2, e3⟩, stp⟩ := X.specialBack hx (y := y) hn hown (mvT hZ w1) (mvT hZ w2) (mvT hZ w4) hy hK (g := mkF m pc Ls st) rfl hsz (Steps.refl _) (a := b) (argsL := argsL) (rest := rest) hlen hst hW hd (fun _ _ => ⟨has, eT, hc, hs⟩)
  dsimp only [Pt.U, Pt.locs, Pt.cells, Pt.slots] at X' e1 e2 e3 stp hQ
  subst e1 e2 e3
  exact own_tr stp (K T' Lc v X' hQ)
/-- an array of references to objects of class K -/
def OVecR (Z : State) (h : Heap) (a : Addr) (K : String) (L : List Value) : Prop := ∃ c : Cell, Arr Z h a c (.object K) ∧ Ovr Z c.cls K ∧ c.slots = L.toArray
variable {Kn : String} {Lr : List Value}
theorem OVecR.lt (V : OVecR Z h a Kn Lr) : a < h.size := by obtain ⟨c, A, -⟩ := V; exact A.lt
theorem OVecR.ext (V : OVecR Z h a Kn Lr) (E : Ext h h') : OVecR Z h' a Kn Lr := by obtain ⟨c, A, r⟩ := V; exact ⟨c, A.ext E, r⟩
theorem OVecR.other {sl : Nat} {v : Value} (V : OVecR Z h b Kn Lr) (W : Wr h h' a sl v) (q : b ≠ a) : OVecR Z h' b Kn Lr := by obtain ⟨c, A, r⟩ := V; exact ⟨c, A.other W q, r⟩
theorem OVecR.keep {ws : List Addr} (V : OVecR Z h a Kn Lr) (K : Keep h h' ws) (q : a ∉ ws) : OVecR Z h' a Kn Lr := by obtain ⟨c, A, r⟩ := V; exact ⟨c, ⟨K.2.1 a c A.1 q, A.2⟩, r⟩
theorem own_aastore (X : Stand p l e R s m args below meth c T locs cells slots) (hx : p.tables.exec = Jvm.exec) (hZ : Z.Warmed39 s.vm) (eT : T.heap = h) (V : OVecR Z h a Kn Lr) {x : Addr} (I : Ins Z h x Kn true) {j : Int32} {i : Nat} (hj : j.toInt = i) (hi : i < Lr.length) (hd : decode c.code pc = .ok (.aastore, 1))
    (K : ∀ T' h', Stand p l e R s m args below meth c T' (locs ++ [⟨a, i⟩]) cells slots → T'.heap = h' → Wr h h' a i (.ref x) → OVecR Z h' a Kn (Lr.set i (.ref x)) → ORun p e below s Q C S T' (mkF m (pc + 1) Ls rest)) : ORun p e below s Q C S T (mkF m pc Ls (.ref x :: .int j :: .ref a :: rest)) := by
  obtain ⟨cl, A, O, r⟩ := id V
  have hin : ¬ (j < 0 ∨ cl.slots.size ≤ j.toNatClampNeg) := by
    rintro (q | q)
    · exact (own_ix hj).1 q
    · rw [r, (own_ix hj).2] at q; simp at q; omega
  obtain ⟨T', h', X', e', W, st⟩ := stR X hx hZ eT A hin rfl (Sto.of A O I) (g := mkF m pc Ls (.ref x :: .int j :: .ref a :: rest)) rfl rfl hd
  rw [(own_ix hj).2] at X' W
  refine own_by st (K T' h' X' e' W ⟨cl.setSlot i (.ref x), A.same W, O, ?_⟩)
  show cl.slots.setIfInBounds i (.ref x) = _
  rw [r, List.setIfInBounds_toArray]
theorem own_aaload (X : Stand p l e R s m args below meth c T locs cells slots) (hx : p.tables.exec = Jvm.exec) (hZ : Z.Warmed39 s.vm) (eT : T.heap = h) (V : OVecR Z h a Kn Lr) {j : Int32} {i : Nat} (hj : j.toInt = i) {v : Value} (hi : Lr[i]? = some v) (hd : decode c.code pc = .ok (.aaload, 1))
    (K : ORun p e below s Q C S T (mkF m (pc + 1) Ls (v :: rest))) : ORun p e below s Q C S T (mkF m pc Ls (.int j :: .ref a :: rest)) := by
  obtain ⟨cl, A, O, r⟩ := V
  have hil : i < Lr.length := (List.getElem?_eq_some_iff.mp hi).1
  have hin : ¬ (j < 0 ∨ cl.slots.size ≤ j.toNatClampNeg) := by
    rintro (q | q)
    · exact (own_ix hj).1 q
    · rw [r, (own_ix hj).2] at q; simp at q; omega
  refine own_by (fun t k => X.aaload hx (j := j) (v := v) (by rw [eT]; exact A.1) (State.isArrayOf_alike hZ.alike A.2.1) rfl A.2.2 hin ?_ (g := mkF m pc Ls (.int j :: .ref a :: rest)) rfl rfl hd _ k) K
  rw [(own_ix hj).2, r]; simpa using hi
theorem own_alen (X : Stand p l e R s m args below meth c T locs cells slots) (hx : p.tables.exec = Jvm.exec) (hZ : Z.Warmed39 s.vm) (eT : T.heap = h) (V : OVecR Z h a Kn Lr) {n : Nat} (hl : Lr.length = n) (hd : decode c.code pc = .ok (.arraylength, 1))
    (K : ORun p e below s Q C S T (mkF m (pc + 1) Ls (.int n.toInt32 :: rest))) : ORun p e below s Q C S T (mkF m pc Ls (.ref a :: rest)) := by
  obtain ⟨cl, A, O, r⟩ := V
  have hs : cl.slots.size = n := by rw [r]; simp [hl]
  refine own_by (fun t k => X.arraylength hx (by rw [eT]; exact A.1) (State.isArrayOf_alike hZ.alike A.2.1) (g := mkF m pc Ls (.ref a :: rest)) rfl rfl hd _ k) ?_
  rw [hs]; exact K
theorem own_newR (X : Stand p l e R s m args below meth c T locs cells slots) (hx : p.tables.exec = Jvm.exec) (hZ : Z.Warmed39 s.vm) {own : String} {index : Nat} (hown : s.vm.findClass own = some m.cls) (w1 : (Jvm.Cond.classLink own index Kn).before a0 Z = true) (w2 : (Jvm.Cond.arrayOver (.object Kn)).before a0 Z = true) (eT : T.heap = h) {n : Int32} {N cap : Nat} (hn : n.toInt = N) (hcap : N ≤ cap) (hb : cap * 8 ≤ 536870912) (hc : cells + 1 ≤ R.cells) (hl : slots + cap ≤ R.slots) (hd : decode c.code pc = .ok (.anewarray index, 3))
    (K : ∀ T' h' b, b = h.size → Stand p l e R s m args below meth c T' locs (cells + 1) (slots + cap) → T'.heap = h' → Ext h h' → OVecR Z h' b Kn (List.replicate N .null) → ORun p e below s Q C S T' (mkF m (pc + 3) Ls (.ref b :: rest))) : ORun p e below s Q C S T (mkF m pc Ls (.int n :: rest)) := by
  have q := own_ix hn
  obtain ⟨T', h', cA, X', e', E, A, O, st⟩ := newR X hx hZ hown w1 w2 eT (g := mkF m pc Ls (.int n :: rest)) rfl hd rfl q.1 (cap := cap) (by rw [q.2]; exact hcap) hb hc hl
  refine own_by st (K T' h' _ rfl X' e' E ⟨_, A, O, ?_⟩)
  have d : defaultValue (.object Kn) = .null := rfl
  simp [newA, q.2, d]
end OwnStr
section OwnCalls2
variable {p : Program} {l : Launch} {e : Env} {R : Room} {s : State} {m : MethodId} {args : Array Value} {below : List Frame} {meth : Method} {c : Code} {T T' : State} {locs : List Loc} {cells slots : Nat} {Q : Option Value → Heap → List Loc → Prop} {C S : Nat}
variable {Z : State} {a0 : Array Value} {h : Heap} {own : String} {index : Nat} {y z : MethodName} {bytes : ByteArray} {maxL : Nat} {ret : Option FieldType} {rm : Room} {as' : Array Value} {Qc : Option Value → Heap → List Loc → Prop} {W pc : Nat} {Ls : Array Slot} {st argsL rest : List Value}
/-- a private method -/
theorem own_callP (X : Stand p l e R s m args below meth c T locs cells slots) (hx : p.tables.exec = Jvm.exec) (hZ : Z.Warmed39 s.vm) (hown : s.vm.findClass own = some m.cls) {Cn : String} {b : Addr} (E : Exa Z h b Cn) (w1 : (Jvm.Cond.methodLink own index y).before a0 Z = true) (w2 : (Jvm.Cond.instanceMethod y).before a0 Z = true) (ws : (Jvm.Cond.selects y.cls y y).before a0 Z = true) (wp : (Jvm.Cond.privateMethod y).before a0 Z = true) (w3 : (Jvm.Cond.initialized y.cls).before a0 Z = true) (w4 : (Jvm.Cond.code y bytes maxL ret).before a0 Z = true)
    (hy : y.cls ≠ "java/lang/invoke/MethodHandle" ∧ y.cls ≠ "java/lang/invoke/VarHandle") (M : OMet l y bytes maxL ret [] rm as' Z h Qc) (eT : T.heap = h) (hf : rm.frames + 1 ≤ R.frames) (hl : W + (maxL + 11) + rm.locals ≤ R.locals) (hc : cells + rm.cells ≤ R.cells) (hs : slots + rm.slots ≤ R.slots)
    (hsz : Ls.size = c.maxLocals) (hlen : ∀ sig, parseMethodDescriptor y.desc = some sig → argsL.length = sig.parameters.length) (hst : st = argsL.reverse ++ .ref b :: rest) (has : (.ref b :: argsL).toArray = as') (hW : 2 * 0 + (rest.map fun v => v.category).sum ≤ W) (hd : decode c.code pc = .ok (.invokevirtual index, 3))
    (K : ∀ T' L v, Stand p l e R s m args below meth c T' (locs ++ L) (cells + rm.cells) (slots + rm.slots) → Qc v T'.heap L → ORun p e below s Q C S T' (mkF m (pc + 3) Ls (v.toList ++ rest))) : ORun p e below s Q C S T (mkF m pc Ls st) := by
  obtain ⟨cq, qa, qb⟩ := E.cell
  obtain ⟨v, _, ⟨T', L', k', n'⟩, -, X', ⟨Lc, hQ, e1, e2, e3⟩, stp⟩ := X.privateBack hx (y := y) hown (mvT hZ w1) (mvT hZ w2) (mvT hZ ws) (Cond.privateMethod_at (mvP hZ wp (args := #[]))) (mvT hZ w4) hy (backOf (W := W) M hZ w4 w3 hf hl) (g := mkF m pc Ls st) rfl hsz (Steps.refl _) (a := b) (by rw [eT]; exact qa) qb (argsL := argsL) (rest := rest) hlen hst hW hd (fun _ _ => ⟨has, eT, hc, hs⟩)
  dsimp only [Pt.U, Pt.locs, Pt.cells, Pt.slots] at X' e1 e2 e3 stp hQ
  subst e1 e2 e3
  exact own_tr stp (K T' Lc v X' hQ)
/-- an interface's method, the object's class known -/
theorem own_callI (X : Stand p l e R s m args below meth c T locs cells slots) (hx : p.tables.exec = Jvm.exec) (hZ : Z.Warmed39 s.vm) (hown : s.vm.findClass own = some m.cls) {Cn : String} {b : Addr} {count : Nat} {xi : MethodName} (E : Exa Z h b Cn) (w1 : (Jvm.Cond.methodLink own index xi).before a0 Z = true) (wd : (Jvm.Cond.declares xi).before a0 Z = true) (wf : (Jvm.Cond.interfaceMethod xi.cls xi.cls xi.name xi.desc).before a0 Z = true) (hfa : ((Jvm.Cond.interfaceMethod xi.cls xi.cls xi.name xi.desc).onTables && (Jvm.Cond.interfaceMethod xi.cls xi.cls xi.name xi.desc).keepsFace) = true) (ws : (Jvm.Cond.selects Cn xi y).before a0 Z = true) (w2 : (Jvm.Cond.instanceMethod y).before a0 Z = true) (wp : (Jvm.Cond.publicMethod y).before a0 Z = true) (wu : (Jvm.Cond.unhidden Cn xi.name xi.desc).before a0 Z = true) (wc : (Jvm.Cond.castable Cn xi.cls).before a0 Z = true) (w3 : (Jvm.Cond.initialized y.cls).before a0 Z = true) (w4 : (Jvm.Cond.code y bytes maxL ret).before a0 Z = true)
    (hy : xi.cls ≠ "java/lang/invoke/MethodHandle" ∧ xi.cls ≠ "java/lang/invoke/VarHandle") (M : OMet l y bytes maxL ret [] rm as' Z h Qc) (eT : T.heap = h) (hf : rm.frames + 1 ≤ R.frames) (hl : W + (maxL + 11) + rm.locals ≤ R.locals) (hc : cells + rm.cells ≤ R.cells) (hs : slots + rm.slots ≤ R.slots)
    (hsz : Ls.size = c.maxLocals) (hlen : ∀ sig, parseMethodDescriptor xi.desc = some sig → argsL.length = sig.parameters.length) (hst : st = argsL.reverse ++ .ref b :: rest) (has : (.ref b :: argsL).toArray = as') (hW : 2 * 0 + (rest.map fun v => v.category).sum ≤ W) (hd : decode c.code pc = .ok (.invokeinterface index count, 5))
    (K : ∀ T' L v, Stand p l e R s m args below meth c T' (locs ++ L) (cells + rm.cells) (slots + rm.slots) → Qc v T'.heap L → ORun p e below s Q C S T' (mkF m (pc + 5) Ls (v.toList ++ rest))) : ORun p e below s Q C S T (mkF m pc Ls st) := by
  obtain ⟨cq, kq, qa, qb, qc⟩ := isOf hZ eT E
  obtain ⟨v, _, ⟨T', L', k', n'⟩, -, X', ⟨Lc, hQ, e1, e2, e3⟩, stp⟩ := X.interfaceBack hx (xi := xi) (y := y) hown (mvT hZ w1) (mvT hZ wd) (mvT hZ wf hfa) (mvT hZ ws) (mvT hZ w2) (mvT hZ wp) (mvT hZ wu) (mvT hZ wc) hy (backOf (W := W) M hZ w4 w3 hf hl) qa qb qc (g := mkF m pc Ls st) rfl hsz (Steps.refl _) (argsL := argsL) (rest := rest) hlen hst hW hd (fun _ _ => ⟨has, eT, hc, hs⟩)
  dsimp only [Pt.U, Pt.locs, Pt.cells, Pt.slots] at X' e1 e2 e3 stp hQ
  subst e1 e2 e3
  exact own_tr stp (K T' Lc v X' hQ)
end OwnCalls2
section OwnSta
variable {Z : State} {h h' : Heap} {a : Addr} {C n d : String} {w : Value} {ws : List Addr} {L : List Int32} {Lr : List Value} {ty : FieldType} {Kn : String}
theorem own_staK (F : Sta Z h C n d w) (K : Keep h h' ws) (hn : ∀ x ∈ ws, ∀ cell : Cell, h[x]? = some cell → cell.vm.isStatics = false) : Sta Z h' C n d w := by
  obtain ⟨cf, i, k, f, st, cell, h1, h2, h3, h4, h5, h6, h7⟩ := F
  exact ⟨cf, i, k, f, st, cell, h1, h2, h3, h4, K.2.1 st cell h5 (fun q => by have z := hn st q cell h5; rw [h6] at z; cases z), h6, h7⟩
theorem own_nsE (E : Exa Z h a C) : ∀ cell : Cell, h[a]? = some cell → cell.vm.isStatics = false := fun cell hc => by
  obtain ⟨c, k, e1, -, -, e4, -⟩ := E
  cases hc.symm.trans e1; exact e4
theorem own_nsA {c : Cell} (A : Arr Z h a c ty) : ∀ cell : Cell, h[a]? = some cell → cell.vm.isStatics = false := fun cell hc => by
  have e := Option.some.inj (hc.symm.trans A.1)
  rw [e]
  obtain ⟨-, ⟨q, -⟩, z⟩ := A
  first | exact q | (cases hv : c.vm <;> simp_all [VmData.isStatics])
theorem own_nsV (V : OVec Z h a ty L) : ∀ cell : Cell, h[a]? = some cell → cell.vm.isStatics = false := by obtain ⟨c, A, -⟩ := V; exact own_nsA A
end OwnSta
section OwnAA
variable {p : Program} {l : Launch} {e : Env} {R : Room} {s : State} {m : MethodId} {args : Array Value} {below : List Frame} {meth : Method} {c : Code} {T T' : State} {locs : List Loc} {cells slots : Nat} {Q : Option Value → Heap → List Loc → Prop} {C S : Nat} {Z : State} {a0 : Array Value} {h h' : Heap} {a b : Addr} {Lr : List Value} {pc : Nat} {Ls : Array Slot} {rest : List Value}
/-- an int[][] -/
def OVecA (Z : State) (h : Heap) (a : Addr) (L : List Value) : Prop := ∃ c : Cell, Arr Z h a c (.array .int) ∧ OvrA Z c.cls .int "[I" ∧ c.slots = L.toArray
theorem OVecA.lt (V : OVecA Z h a Lr) : a < h.size := by obtain ⟨c, A, -⟩ := V; exact A.lt
theorem OVecA.ext (V : OVecA Z h a Lr) (E : Ext h h') : OVecA Z h' a Lr := by obtain ⟨c, A, r⟩ := V; exact ⟨c, A.ext E, r⟩
theorem OVecA.other {sl : Nat} {v : Value} (V : OVecA Z h b Lr) (W : Wr h h' a sl v) (q : b ≠ a) : OVecA Z h' b Lr := by obtain ⟨c, A, r⟩ := V; exact ⟨c, A.other W q, r⟩
theorem OVecA.keep {ws : List Addr} (V : OVecA Z h a Lr) (K : Keep h h' ws) (q : a ∉ ws) : OVecA Z h' a Lr := by obtain ⟨c, A, r⟩ := V; exact ⟨c, ⟨K.2.1 a c A.1 q, A.2⟩, r⟩
theorem own_aastoreA (X : Stand p l e R s m args below meth c T locs cells slots) (hx : p.tables.exec = Jvm.exec) (hZ : Z.Warmed39 s.vm) (eT : T.heap = h) (V : OVecA Z h a Lr) {x : Addr} (I : Ins Z h x "[I" true) {j : Int32} {i : Nat} (hj : j.toInt = i) (hi : i < Lr.length) (hd : decode c.code pc = .ok (.aastore, 1))
    (K : ∀ T' h', Stand p l e R s m args below meth c T' (locs ++ [⟨a, i⟩]) cells slots → T'.heap = h' → Wr h h' a i (.ref x) → OVecA Z h' a (Lr.set i (.ref x)) → ORun p e below s Q C S T' (mkF m (pc + 1) Ls rest)) : ORun p e below s Q C S T (mkF m pc Ls (.ref x :: .int j :: .ref a :: rest)) := by
  obtain ⟨cl, A, O, r⟩ := id V
  have hin : ¬ (j < 0 ∨ cl.slots.size ≤ j.toNatClampNeg) := by
    rintro (q | q)
    · exact (own_ix hj).1 q
    · rw [r, (own_ix hj).2] at q; simp at q; omega
  obtain ⟨T', h', X', e', W, st⟩ := stR X hx hZ eT A hin rfl (Sto.ofVA A rfl O I) (g := mkF m pc Ls (.ref x :: .int j :: .ref a :: rest)) rfl rfl hd
  rw [(own_ix hj).2] at X' W
  refine own_by st (K T' h' X' e' W ⟨cl.setSlot i (.ref x), A.same W, O, ?_⟩)
  show cl.slots.setIfInBounds i (.ref x) = _
  rw [r, List.setIfInBounds_toArray]
theorem own_aaloadA (X : Stand p l e R s m args below meth c T locs cells slots) (hx : p.tables.exec = Jvm.exec) (hZ : Z.Warmed39 s.vm) (eT : T.heap = h) (V : OVecA Z h a Lr) {j : Int32} {i : Nat} (hj : j.toInt = i) {v : Value} (hi : Lr[i]? = some v) (hd : decode c.code pc = .ok (.aaload, 1))
    (K : ORun p e below s Q C S T (mkF m (pc + 1) Ls (v :: rest))) : ORun p e below s Q C S T (mkF m pc Ls (.int j :: .ref a :: rest)) := by
  obtain ⟨cl, A, O, r⟩ := V
  have hil : i < Lr.length := (List.getElem?_eq_some_iff.mp hi).1
  have hin : ¬ (j < 0 ∨ cl.slots.size ≤ j.toNatClampNeg) := by
    rintro (q | q)
    · exact (own_ix hj).1 q
    · rw [r, (own_ix hj).2] at q; simp at q; omega
  refine own_by (fun t k => X.aaload hx (j := j) (v := v) (by rw [eT]; exact A.1) (State.isArrayOf_alike hZ.alike A.2.1) rfl A.2.2 hin ?_ (g := mkF m pc Ls (.int j :: .ref a :: rest)) rfl rfl hd _ k) K
  rw [(own_ix hj).2, r]; simpa using hi
theorem own_newA (X : Stand p l e R s m args below meth c T locs cells slots) (hx : p.tables.exec = Jvm.exec) (hZ : Z.Warmed39 s.vm) {own : String} {index : Nat} (hown : s.vm.findClass own = some m.cls) (w1 : (Jvm.Cond.classLink own index "[I").before a0 Z = true) (w2 : (Jvm.Cond.arrayOver (.array .int)).before a0 Z = true) (eT : T.heap = h) {n : Int32} {N cap : Nat} (hn : n.toInt = N) (hcap : N ≤ cap) (hb : cap * 8 ≤ 536870912) (hc : cells + 1 ≤ R.cells) (hl : slots + cap ≤ R.slots) (hd : decode c.code pc = .ok (.anewarray index, 3))
    (K : ∀ T' h' b, b = h.size → Stand p l e R s m args below meth c T' locs (cells + 1) (slots + cap) → T'.heap = h' → Ext h h' → OVecA Z h' b (List.replicate N .null) → ORun p e below s Q C S T' (mkF m (pc + 3) Ls (.ref b :: rest))) : ORun p e below s Q C S T (mkF m pc Ls (.int n :: rest)) := by
  have q := own_ix hn
  obtain ⟨T', h', cA, X', e', E, A, -, O, st⟩ := newRA X hx hZ hown (ty := .int) (by decide) w1 w2 eT (g := mkF m pc Ls (.int n :: rest)) rfl hd rfl q.1 (cap := cap) (by rw [q.2]; exact hcap) hb hc hl (ad := "[[I") (by decide)
  refine own_by st (K T' h' _ rfl X' e' E ⟨_, A, O, ?_⟩)
  have d : defaultValue (.array .int) = .null := rfl
  simp [newA, q.2, d]
end OwnAA
theorem own_selP {Z : State} {a0 : Array Value} {C : String} {z x y : MethodName} (hC : x.cls = y.cls) (w1 : (Jvm.Cond.selects C z x).before a0 Z = true) (wp : (Jvm.Cond.privateMethod y).before a0 Z = true) (wi : (Jvm.Cond.instanceMethod y).before a0 Z = true) (hy : y.cls ≠ "java/lang/invoke/MethodHandle" ∧ y.cls ≠ "java/lang/invoke/VarHandle") : (Jvm.Cond.selects y.cls y y).before a0 Z = true := by
  obtain ⟨c, r, m, h1, h2, h3, h4, k, h5, h6⟩ := Cond.selects_spec w1
  exact selects_self_of_private (by rw [← hC]; exact findClass_of_methodNamed h3) h5 h6 (Cond.privateMethod_at wp) wi hy
def own_g (L : List Int32) (i : Nat) : Nat := (L.getD i 0).toInt.toNat
/-- P: parents, L: the root of each, r: a rank that falls towards the root -/
def InvR (P L : List Int32) (r : Nat → Nat) : Prop := ∀ i, i < 5 → (0 ≤ (P.getD i 0).toInt ∧ (P.getD i 0).toInt < 5) ∧ (0 ≤ (L.getD i 0).toInt ∧ (L.getD i 0).toInt < 5) ∧ L.getD (own_g P i) 0 = L.getD i 0 ∧ P.getD (own_g L i) 0 = L.getD i 0 ∧ (own_g P i = i → own_g L i = i) ∧ (own_g P i ≠ i → r (own_g P i) < r i)
theorem own_getset {L : List Int32} {i j : Nat} {v : Int32} (hi : i < L.length) : (L.set i v).getD j 0 = if j = i then v else L.getD j 0 := by
  simp only [List.getD_eq_getElem?_getD, List.getElem?_set]
  by_cases h : i = j
  · subst h; simp [hi]
  · have h' : ¬ j = i := fun q => h q.symm
    simp [h, h']
theorem own_gset {L : List Int32} {i j : Nat} {v : Int32} (hi : i < L.length) : own_g (L.set i v) j = if j = i then v.toInt.toNat else own_g L j := by
  unfold own_g; rw [own_getset hi]; split <;> rfl
theorem InvR.gP {P L : List Int32} {r : Nat → Nat} (I : InvR P L r) {i : Nat} (hi : i < 5) : own_g P i < 5 := by have := (I i hi).1; unfold own_g; omega
theorem InvR.gL {P L : List Int32} {r : Nat → Nat} (I : InvR P L r) {i : Nat} (hi : i < 5) : own_g L i < 5 := by have := (I i hi).2.1; unfold own_g; omega
theorem InvR.halve {P L : List Int32} {r : Nat → Nat} (I : InvR P L r) {x : Nat} (hx : x < 5) (hl : P.length = 5) : InvR (P.set x (P.getD (own_g P x) 0)) L r := by
  intro i hi
  obtain ⟨a1, a2, a3, a4, a5, a6⟩ := I i hi
  obtain ⟨b1, b2, b3, b4, b5, b6⟩ := I (own_g P x) (I.gP hx)
  obtain ⟨x1, x2, x3, x4, x5, x6⟩ := I x hx
  have hx' : x < P.length := by omega
  have gg : (P.getD (own_g P x) 0).toInt.toNat = own_g P (own_g P x) := rfl
  rw [own_getset hx', own_gset hx', own_getset hx', gg]
  refine ⟨?_, a2, ?_, ?_, ?_, ?_⟩
  · split
    · exact b1
    · exact a1
  · split
    · rename_i e; rw [e, b3, x3]
    · exact a3
  · split
    · rename_i e
      rw [e] at a4
      have e2 : own_g P x = x := by
        have : own_g P x = own_g L i := by unfold own_g; rw [a4]
        rw [this, e]
      rw [e2]; exact a4
    · exact a4
  · split
    · rename_i e
      intro q
      rw [e] at q ⊢
      by_cases z : own_g P x = x
      · exact x5 z
      · have r1 := x6 z
        by_cases z2 : own_g P (own_g P x) = own_g P x
        · rw [z2] at q; exact absurd q z
        · have r2 := b6 z2
          rw [q] at r2
          omega
    · exact a5
  · split
    · rename_i e
      intro q
      rw [e] at q ⊢
      by_cases z : own_g P x = x
      · rw [z] at q; exact absurd z q
      · have r1 := x6 z
        by_cases z2 : own_g P (own_g P x) = own_g P x
        · rw [z2]; exact r1
        · have r2 := b6 z2
          omega
    · exact a6
theorem InvR.join {P L : List Int32} {r : Nat → Nat} (I : InvR P L r) {a b : Nat} (ha : a < 5) (hb : b < 5) (hl : P.length = 5) (hl2 : L.length = 5) : InvR (P.set (own_g L a) (L.getD b 0)) (L.map fun v => if v = L.getD a 0 then L.getD b 0 else v) (fun i => if L.getD i 0 = L.getD a 0 then r i + r (own_g L b) + 1 else r i) := by
  have M : ∀ i, i < 5 → (L.map fun v => if v = L.getD a 0 then L.getD b 0 else v).getD i 0 = if L.getD i 0 = L.getD a 0 then L.getD b 0 else L.getD i 0 := fun i hi => by
    have h' : i < L.length := by omega
    simp [List.getD_eq_getElem?_getD, List.getElem?_map, List.getElem?_eq_getElem h']
  have hla := I.gL ha
  have hlb := I.gL hb
  have hx' : own_g L a < P.length := by omega
  obtain ⟨-, A2, A3, A4, A5, -⟩ := I a ha
  obtain ⟨-, B2, B3, B4, B5, -⟩ := I b hb
  obtain ⟨ra1, ra2, ra3, ra4, ra5, ra6⟩ := I _ hla
  obtain ⟨rb1, rb2, rb3, rb4, rb5, rb6⟩ := I _ hlb
  have pa : own_g P (own_g L a) = own_g L a := by unfold own_g at A4 ⊢; rw [A4]
  have pb : own_g P (own_g L b) = own_g L b := by unfold own_g at B4 ⊢; rw [B4]
  have back : ∀ {u v : Int32}, 0 ≤ u.toInt → 0 ≤ v.toInt → u.toInt.toNat = v.toInt.toNat → u = v := fun h1 h2 h => Int32.toInt_inj.mp (by omega)
  have La : L.getD (own_g L a) 0 = L.getD a 0 := back ra2.1 A2.1 (ra5 pa)
  have Lb : L.getD (own_g L b) 0 = L.getD b 0 := back rb2.1 B2.1 (rb5 pb)
  intro i hi
  obtain ⟨a1, a2, a3, a4, a5, a6⟩ := I i hi
  have gM : ∀ j, j < 5 → own_g (L.map fun v => if v = L.getD a 0 then L.getD b 0 else v) j = if L.getD j 0 = L.getD a 0 then own_g L b else own_g L j := fun j hj => by
    unfold own_g; rw [M j hj]; split <;> rfl
  have gb : (L.getD b 0).toInt.toNat = own_g L b := rfl
  have gl := I.gL hi
  have gp := I.gP hi
  rw [own_getset hx', own_gset hx', own_getset hx', M i hi, gM i hi, gb]
  refine ⟨?_, ?_, ?_, ?_, ?_, ?_⟩
  · split
    · exact B2
    · exact a1
  · split
    · exact B2
    · exact a2
  · split
    · rename_i e
      rw [M _ hlb, e, La, if_pos rfl, Lb]
      split <;> rfl
    · rw [M _ gp, a3]
  · split
    · rename_i e
      by_cases q : own_g L b = own_g L a
      · rw [if_pos q]
      · rw [if_neg q, B4]
    · rename_i e
      have : own_g L i ≠ own_g L a := fun q => e (back a2.1 A2.1 q)
      rw [if_neg this, a4]
  · split
    · rename_i e
      intro q
      rw [e, La, if_pos rfl]
      rw [q]; exact e
    · rename_i e
      intro q
      have z := a5 q
      split
      · rename_i w
        exfalso; apply e
        have : own_g L i = own_g L a := by unfold own_g; rw [w]
        omega
      · exact z
  · split
    · rename_i e
      intro q
      dsimp only
      rw [Lb, e, La, if_pos rfl]
      split
      · rename_i w
        have : own_g L b = own_g L a := by unfold own_g; rw [w]
        rw [e] at q
        exact absurd this q
      · omega
    · rename_i e
      intro q
      have z := a6 q
      dsimp only
      rw [a3]
      split
      · omega
      · exact z
def own_cnt : List Int32 → Int32 → Nat
  | [], _ => 0
  | x :: t, v => (if x = v then 1 else 0) + own_cnt t v
def own_fst (L : List Int32) (v : Int32) : Int32 := if L.getD 0 0 = v then 0 else if L.getD 1 0 = v then 1 else if L.getD 2 0 = v then 2 else if L.getD 3 0 = v then 3 else 4
theorem own_cntI (l0 l1 l2 l3 l4 v : Int32) : (Int32.ofNat (own_cnt [l0, l1, l2, l3, l4] v)).toInt = own_cnt [l0, l1, l2, l3, l4] v := by
  have h : own_cnt [l0, l1, l2, l3, l4] v ≤ 5 := by simp only [own_cnt]; split <;> split <;> split <;> split <;> split <;> omega
  exact Int32.toInt_ofNat_of_lt (by omega)
theorem own_fstI (L : List Int32) (v : Int32) : 0 ≤ (own_fst L v).toInt ∧ (own_fst L v).toInt < 5 := by unfold own_fst; split <;> (try split) <;> (try split) <;> (try split) <;> decide
def own_rk (L R : List Int32) (d cnt : Int32) : List Int32 × Int32 := if 2 ≤ own_cnt L (L.getD d.toInt.toNat 0) ∧ own_fst L (L.getD d.toInt.toNat 0) = d then (R.set d.toInt.toNat (cnt + 1), cnt + 1) else (R, cnt)
def own_ex (L R : List Int32) (d : Int32) : Int32 := if 2 ≤ own_cnt L (L.getD d.toInt.toNat 0) then R.getD (own_fst L (L.getD d.toInt.toNat 0)).toInt.toNat 0 else 0
def own_st (Cc G : List Int32) (k : Int32) (i : Nat) : List Int32 := if i < G.length then Cc.set (G.getD i 0).toInt.toNat k else Cc
def own_mk (Cc G : List Int32) (k : Int32) : Nat → List Int32
  | 0 => Cc
  | n + 1 => own_st (own_mk Cc G k n) G k n
theorem own_mklen (Cc G : List Int32) (k : Int32) (n : Nat) : (own_mk Cc G k n).length = Cc.length := by
  induction n with
  | zero => rfl
  | succ n ih => show (own_st (own_mk Cc G k n) G k n).length = _; unfold own_st; split <;> simp [ih]
def own_ok (Cc G : List Int32) (i : Nat) : Prop := i < G.length → 0 ≤ (G.getD i 0).toInt ∧ (G.getD i 0).toInt < 5 ∧ (0 < i → (G.getD (i - 1) 0).toInt < (G.getD i 0).toInt) ∧ Cc.getD (G.getD i 0).toInt.toNat 0 = 0
instance (Cc G : List Int32) (i : Nat) : Decidable (own_ok Cc G i) := by unfold own_ok; infer_instance
theorem own_setself (L : List Int32) (i : Nat) : L.set i (L.getD i 0) = L := by
  apply List.ext_getElem?
  intro j
  rw [List.getElem?_set]
  split
  · rename_i e
    subst e
    split
    · rename_i h; rw [List.getD_eq_getElem?_getD, List.getElem?_eq_getElem h]; rfl
    · rename_i h; rw [List.getElem?_eq_none (by omega)]
  · rfl
/-- sizes after n documents -/
def own_szs (L : List Int32) : Nat → List Int32
  | 0 => List.replicate 5 0
  | n + 1 => (own_szs L n).set (own_g L n) ((own_szs L n).getD (own_g L n) 0 + 1)
def own_add (r : Nat) (d : Int32) : List (Nat × List Int32) → List (Nat × List Int32)
  | [] => [(r, [d])]
  | (q, m) :: t => if q = r then (q, m ++ [d]) :: t else (q, m) :: own_add r d t
def own_S (L : List Int32) : List Int32 := own_szs L 5
/-- the groups after d documents: root, members so far -/
def own_gr (L : List Int32) : Nat → List (Nat × List Int32)
  | 0 => []
  | d + 1 => if ((own_S L).getD (own_g L d) 0).toInt < 2 then own_gr L d else own_add (own_g L d) (Int32.ofNat d) (own_gr L d)
def own_pl (L : List Int32) : Nat → List Int32
  | 0 => List.replicate 5 0
  | d + 1 => if ((own_S L).getD (own_g L d) 0).toInt < 2 then own_pl L d else (own_pl L d).set (own_g L d) ((own_pl L d).getD (own_g L d) 0 + 1)
def own_mem (r : Nat) : List (Nat × List Int32) → List Int32
  | [] => []
  | (q, m) :: t => if q = r then m else own_mem r t
def own_turn (L : List Int32) (d : Nat) : Prop := 2 ≤ ((own_S L).getD (own_g L d) 0).toInt → ((own_S L).getD (own_g L d) 0).toInt ≤ 5 ∧ (own_mem (own_g L d) (own_gr L d)).length < ((own_S L).getD (own_g L d) 0).toInt.toNat ∧ (own_pl L d).getD (own_g L d) 0 = Int32.ofNat (own_mem (own_g L d) (own_gr L d)).length ∧ (own_gr L d).length ≤ 2 ∧ (own_gr L (d + 1)).length ≤ 2
instance (L : List Int32) (d : Nat) : Decidable (own_turn L d) := by unfold own_turn; infer_instance
def own_R (L : List Int32) : List Int32 × Int32 :=
  let a := own_rk L (List.replicate 5 0) 0 0
  let b := own_rk L a.1 1 a.2
  let c := own_rk L b.1 2 b.2
  let d := own_rk L c.1 3 c.2
  own_rk L d.1 4 d.2
def own_okm (C G : List Int32) (k : Int32) : Bool := (List.range 5).all (fun i => decide (own_ok (own_mk C G k i) G i)) && decide (2 ≤ G.length ∧ G.length ≤ 5)
def own_gd (L : List Int32) (j : Nat) : List Int32 := ((own_gr L 5).getD j (0, [])).2
def own_end (L : List Int32) : Bool :=
  let n := (own_gr L 5).length
  let C0 : List Int32 := List.replicate 5 0
  let C1 := if 1 ≤ n then own_mk C0 (own_gd L 0) 1 5 else C0
  let C2 := if 2 ≤ n then own_mk C1 (own_gd L 1) 2 5 else C1
  decide (Int32.ofNat n = (own_R L).2 ∧ n ≤ 2) && (decide (n < 1) || own_okm C0 (own_gd L 0) 1) && (decide (n < 2) || own_okm C1 (own_gd L 1) 2) && (own_gr L 5).all (fun p => decide (p.2.length = ((own_S L).getD p.1 0).toInt.toNat)) && (List.range 5).all (fun d => decide (C2.getD d 0 = own_ex L (own_R L).1 (Int32.ofNat d)))
def own_all (L : List Int32) : Bool := (List.range 5).all (fun d => decide (own_turn L d)) && own_end L
def own_idem (L : List Int32) : Bool := (List.range 5).all (fun i => own_g L (own_g L i) == own_g L i)
set_option maxRecDepth 100000 in
theorem own_fin5 : ∀ a b c d e : Fin 5, own_idem [Int32.ofNat a.1, Int32.ofNat b.1, Int32.ofNat c.1, Int32.ofNat d.1, Int32.ofNat e.1] = true → own_all [Int32.ofNat a.1, Int32.ofNat b.1, Int32.ofNat c.1, Int32.ofNat d.1, Int32.ofNat e.1] = true := by decide +kernel
theorem own_szlen (L : List Int32) (n : Nat) : (own_szs L n).length = 5 := by
  induction n with
  | zero => rfl
  | succ n ih => show ((own_szs L n).set _ _).length = 5; rw [List.length_set]; exact ih
theorem own_pllen (L : List Int32) (n : Nat) : (own_pl L n).length = 5 := by
  induction n with
  | zero => rfl
  | succ n ih =>
    show (if ((own_S L).getD (own_g L n) 0).toInt < 2 then own_pl L n else (own_pl L n).set (own_g L n) ((own_pl L n).getD (own_g L n) 0 + 1)).length = 5
    split
    · exact ih
    · rw [List.length_set]; exact ih
theorem own_setS {α : Type} {l : List α} {i : Nat} {v : α} (h : i < l.length) : (l.set i v)[i]? = some v := by simp [h]
theorem own_setO {α : Type} {l : List α} {i j : Nat} {v : α} (h : i ≠ j) : (l.set i v)[j]? = l[j]? := by simp [h]
theorem own_app (m : List Int32) (N : Nat) {x : Int32} (h : m.length < N) : (m ++ List.replicate (N - m.length) 0).set m.length x = (m ++ [x]) ++ List.replicate (N - (m ++ [x]).length) 0 := by
  obtain ⟨k, hk⟩ : ∃ k, N - m.length = k + 1 := ⟨N - m.length - 1, by omega⟩
  have h2 : N - (m ++ [x]).length = k := by simp; omega
  rw [h2, hk, List.replicate_succ, List.set_append_right _ _ (Nat.le_refl _), Nat.sub_self]
  simp
theorem own_inv0 : InvR [0, 1, 2, 3, 4] [0, 1, 2, 3, 4] (fun _ => 0) := by
  intro i hi
  have : i = 0 ∨ i = 1 ∨ i = 2 ∨ i = 3 ∨ i = 4 := by omega
  rcases this with rfl | rfl | rfl | rfl | rfl <;> decide +kernel
theorem own_idemOf {P L : List Int32} {r : Nat → Nat} (I : InvR P L r) : own_idem L = true := by
  unfold own_idem
  rw [List.all_eq_true]
  intro i hi
  have h5 : i < 5 := List.mem_range.mp hi
  obtain ⟨-, -, -, a4, -, -⟩ := I i h5
  obtain ⟨-, -, -, -, b5, -⟩ := I _ (I.gL h5)
  have e : own_g P (own_g L i) = own_g L i := by unfold own_g at a4 ⊢; rw [a4]
  exact beq_iff_eq.mpr (b5 e)
theorem own_allOf {P : List Int32} {l0 l1 l2 l3 l4 : Int32} {r : Nat → Nat} (I : InvR P [l0, l1, l2, l3, l4] r) : own_all [l0, l1, l2, l3, l4] = true := by
  have of : ∀ x : Int32, 0 ≤ x.toInt ∧ x.toInt < 5 → ∃ a : Fin 5, x = Int32.ofNat a.1 := fun x hx => ⟨⟨x.toInt.toNat, by omega⟩, Int32.toInt_inj.mp (by rw [Int32.toInt_ofNat_of_lt (by show x.toInt.toNat < _; omega)]; show x.toInt = (x.toInt.toNat : Int); omega)⟩
  have J := own_idemOf I
  obtain ⟨a, rfl⟩ := of l0 (I 0 (by decide)).2.1
  obtain ⟨b, rfl⟩ := of l1 (I 1 (by decide)).2.1
  obtain ⟨c, rfl⟩ := of l2 (I 2 (by decide)).2.1
  obtain ⟨d, rfl⟩ := of l3 (I 3 (by decide)).2.1
  obtain ⟨e, rfl⟩ := of l4 (I 4 (by decide)).2.1
  exact own_fin5 a b c d e J
theorem own_allD {L : List Int32} (h : own_all L = true) : (∀ d, d < 5 → own_turn L d) ∧ own_end L = true := by
  unfold own_all at h
  rw [Bool.and_eq_true] at h
  exact ⟨fun d hd => of_decide_eq_true (List.all_eq_true.mp h.1 d (List.mem_range.mpr hd)), h.2⟩
theorem own_endS {L : List Int32} (h : own_end L = true) : ∀ p ∈ own_gr L 5, p.2.length = ((own_S L).getD p.1 0).toInt.toNat := by
  unfold own_end at h
  simp only [Bool.and_eq_true] at h
  exact fun p hp => of_decide_eq_true (List.all_eq_true.mp h.1.2 p hp)
theorem own_end0 {L : List Int32} (h : own_end L = true) (g : own_gr L 5 = []) : (own_R L).2 = 0 ∧ ∀ d, d < 5 → (List.replicate 5 (0 : Int32)).getD d 0 = own_ex L (own_R L).1 (Int32.ofNat d) := by
  unfold own_end own_gd at h
  rw [g] at h
  simp only [Bool.and_eq_true] at h
  obtain ⟨⟨⟨⟨h1, h2⟩, h3⟩, h4⟩, h5⟩ := h
  exact ⟨(of_decide_eq_true h1).1.symm, fun d hd => of_decide_eq_true (List.all_eq_true.mp h5 d (List.mem_range.mpr hd))⟩
theorem own_end1 {L : List Int32} {q0 : Nat} {m0 : List Int32} (h : own_end L = true) (g : own_gr L 5 = [(q0, m0)]) : (own_R L).2 = 1 ∧ own_okm (List.replicate 5 (0 : Int32)) m0 1 = true ∧ ∀ d, d < 5 → (own_mk (List.replicate 5 (0 : Int32)) m0 1 5).getD d 0 = own_ex L (own_R L).1 (Int32.ofNat d) := by
  unfold own_end own_gd at h
  rw [g] at h
  simp only [Bool.and_eq_true] at h
  obtain ⟨⟨⟨⟨h1, h2⟩, h3⟩, h4⟩, h5⟩ := h
  exact ⟨(of_decide_eq_true h1).1.symm, h2, fun d hd => of_decide_eq_true (List.all_eq_true.mp h5 d (List.mem_range.mpr hd))⟩
theorem own_end2 {L : List Int32} {q0 q1 : Nat} {m0 m1 : List Int32} (h : own_end L = true) (g : own_gr L 5 = [(q0, m0), (q1, m1)]) : (own_R L).2 = 2 ∧ own_okm (List.replicate 5 (0 : Int32)) m0 1 = true ∧ own_okm (own_mk (List.replicate 5 (0 : Int32)) m0 1 5) m1 2 = true ∧ ∀ d, d < 5 → (own_mk (own_mk (List.replicate 5 (0 : Int32)) m0 1 5) m1 2 5).getD d 0 = own_ex L (own_R L).1 (Int32.ofNat d) := by
  unfold own_end own_gd at h
  rw [g] at h
  simp only [Bool.and_eq_true] at h
  obtain ⟨⟨⟨⟨h1, h2⟩, h3⟩, h4⟩, h5⟩ := h
  exact ⟨(of_decide_eq_true h1).1.symm, h2, h3, fun d hd => of_decide_eq_true (List.all_eq_true.mp h5 d (List.mem_range.mpr hd))⟩
theorem own_okmD {C G : List Int32} {k : Int32} (h : own_okm C G k = true) : (2 ≤ G.length ∧ G.length ≤ 5) ∧ ∀ i, i < 5 → own_ok (own_mk C G k i) G i := by
  unfold own_okm at h
  rw [Bool.and_eq_true] at h
  exact ⟨of_decide_eq_true h.2, fun i hi => of_decide_eq_true (List.all_eq_true.mp h.1 i (List.mem_range.mpr hi))⟩
theorem own_rklen (L R : List Int32) (d c : Int32) (h : R.length = 5) : (own_rk L R d c).1.length = 5 := by
  unfold own_rk
  split
  · show (R.set _ _).length = 5; rw [List.length_set]; exact h
  · exact h
theorem own_rep {q : Nat} (h : q < 5) : (List.replicate 5 Value.null)[q]? = some Value.null := by
  rw [List.getElem?_replicate, if_pos h]
/-- the empty Object[] that a case's words give -/
theorem own_vec0 {Z : State} {h : Heap} {a : Addr} {c : Cell} {a0 : Array Value} (A : Arr Z h a c (.object "java/lang/Object")) (E : Exa Z h a "[Ljava/lang/Object;") (w : (Jvm.Cond.arrayOver (.object "java/lang/Object")).before a0 Z = true) (hs : c.slots.size = 0) : OVecR Z h a "java/lang/Object" [] := by
  obtain ⟨cell, k', e1, e2, e3, -, -⟩ := E
  cases A.1.symm.trans e1
  obtain ⟨comp, cA, kA, hcomp, hidx, hkA, hkindA, hnameA⟩ := Cond.arrayOver_spec w
  have en : "[" ++ (FieldType.object "java/lang/Object").toString = "[Ljava/lang/Object;" := by decide +kernel
  rw [en, e2] at hnameA
  refine ⟨c, A, ⟨kA, comp, ?_, hkindA, hcomp⟩, ?_⟩
  · rw [Option.some.inj hnameA]; exact hkA
  · exact Array.eq_empty_of_size_eq_zero hs
theorem pd_0 : parseMethodDescriptor "([IIII)V" = some ⟨[(.array .int), .int, .int, .int], none⟩ := by decide +kernel
theorem pd_1 : parseMethodDescriptor "(I)I" = some ⟨[.int], some .int⟩ := by decide +kernel
theorem pd_2 : parseMethodDescriptor "(II)V" = some ⟨[.int, .int], none⟩ := by decide +kernel
theorem pd_3 : parseMethodDescriptor "([III)V" = some ⟨[(.array .int), .int, .int], none⟩ := by decide +kernel
theorem pd_4 : parseMethodDescriptor "()V" = some ⟨[], none⟩ := by decide +kernel
theorem pd_5 : parseMethodDescriptor "(II)I" = some ⟨[.int, .int], some .int⟩ := by decide +kernel
theorem pd_6 : parseMethodDescriptor "(I)[Ljava/lang/Object;" = some ⟨[.int], some (.array (.object "java/lang/Object"))⟩ := by decide +kernel
theorem pd_7 : parseMethodDescriptor "()[Ljava/lang/Object;" = some ⟨[], some (.array (.object "java/lang/Object"))⟩ := by decide +kernel
theorem pd_8 : parseMethodDescriptor "(Ljava/lang/Object;[Ljava/lang/Object;I)V" = some ⟨[(.object "java/lang/Object"), (.array (.object "java/lang/Object")), .int], none⟩ := by decide +kernel
theorem pd_9 : parseMethodDescriptor "(IILjava/util/function/BiFunction;)I" = some ⟨[.int, .int, (.object "java/util/function/BiFunction")], some .int⟩ := by decide +kernel
theorem pd_10 : parseMethodDescriptor "(I)Ljava/lang/Object;" = some ⟨[.int], some (.object "java/lang/Object")⟩ := by decide +kernel
theorem pd_11 : parseMethodDescriptor "([II)I" = some ⟨[(.array .int), .int], some .int⟩ := by decide +kernel
theorem pd_12 : parseMethodDescriptor "([I[III)Z" = some ⟨[(.array .int), (.array .int), .int, .int], some .boolean⟩ := by decide +kernel
theorem pd_13 : parseMethodDescriptor "(Ljava/lang/Object;)Z" = some ⟨[(.object "java/lang/Object")], some .boolean⟩ := by decide +kernel
theorem pd_14 : parseMethodDescriptor "(I)V" = some ⟨[.int], none⟩ := by decide +kernel
theorem pd_15 : parseMethodDescriptor "(Lcom/example/kembar/kembar/cluster/Clusters;[II)V" = some ⟨[(.object "com/example/kembar/kembar/cluster/Clusters"), (.array .int), .int], none⟩ := by decide +kernel
theorem pd_16 : parseMethodDescriptor "()Ljava/util/List;" = some ⟨[], some (.object "java/util/List")⟩ := by decide +kernel
theorem pd_17 : parseMethodDescriptor "([I[III)I" = some ⟨[(.array .int), (.array .int), .int, .int], some .int⟩ := by decide +kernel
theorem pd_18 : parseMethodDescriptor "()I" = some ⟨[], some .int⟩ := by decide +kernel
theorem pd_19 : parseMethodDescriptor "([I[II)I" = some ⟨[(.array .int), (.array .int), .int], some .int⟩ := by decide +kernel
theorem pd_20 : parseMethodDescriptor "([I[II)Z" = some ⟨[(.array .int), (.array .int), .int], some .boolean⟩ := by decide +kernel
theorem d7_0 : decode method_2_code 0 = .ok (.aload_n 0, 1) := by decide +kernel
theorem d7_1 : decode method_2_code 1 = .ok (.iload_n 1, 1) := by decide +kernel
theorem d7_2 : decode method_2_code 2 = .ok (.iaload, 1) := by decide +kernel
theorem d7_3 : decode method_2_code 3 = .ok (.iload_n 2, 1) := by decide +kernel
theorem d7_4 : decode method_2_code 4 = .ok (.if_icmp .ne 7, 3) := by decide +kernel
theorem d7_7 : decode method_2_code 7 = .ok (.aload_n 0, 1) := by decide +kernel
theorem d7_8 : decode method_2_code 8 = .ok (.iload_n 1, 1) := by decide +kernel
theorem d7_9 : decode method_2_code 9 = .ok (.iload_n 3, 1) := by decide +kernel
theorem d7_10 : decode method_2_code 10 = .ok (.iastore, 1) := by decide +kernel
theorem d7_11 : decode method_2_code 11 = .ok (.return_, 1) := by decide +kernel
theorem pn_rm7 : plainName "com/example/kembar/kembar/cluster/ClustersJoinPinLaw" = true := by first | (simp [plainName, overriddenIn]; done) | decide +kernel
theorem ef_rm7 (m : MethodId) (x0 : Addr) (x1 : Int32) (x2 : Int32) (x3 : Int32) : entryFrame m #[(.ref x0), (.int x1), (.int x2), (.int x3)] 4 = mkF m 0 #[.val (.ref x0), .val (.int x1), .val (.int x2), .val (.int x3)] [] := by first | (simp [entryFrame, mkF, argsToLocals, Value.category]; done) | rfl
set_option maxRecDepth 65536 in
set_option maxHeartbeats 40000000 in
theorem rm7 (l : Launch) (Z : State) (a0 : Array Value) (hw : ∀ d ∈ tables_1, d.before a0 Z = true) (ws : List Jvm.Cond) (h0 : Heap) (n0 : Nat) (Z0 : n0 ≤ h0.size) (a1 : Addr) (p2 p3 p4 : Int32) (L : List Int32) (g1 : n0 ≤ a1) (V1 : OVec Z h0 a1 .int L) (hl : L.length = 5) (hp : 0 ≤ p2.toInt ∧ p2.toInt < 5) :
    OMet l (⟨"com/example/kembar/kembar/cluster/ClustersJoinPinLaw", "relabel", "([IIII)V"⟩ : MethodName) method_2_code 4 none ws ({ frames := 0, cells := 0, slots := 0, locals := 0 } : Room) #[(.ref a1), (.int p2), (.int p3), (.int p4)] Z h0 (fun v h L' => v = none ∧ Fr n0 L' ∧ Keep h0 h [a1] ∧ OVec Z h a1 .int (L.set p2.toInt.toNat (if L.getD p2.toInt.toNat 0 = p3 then p4 else L.getD p2.toInt.toNat 0))) := by
  refine own_met (plainFor_of_name pn_rm7) ?_
  intro p e s m below meth c s₁ X0 hx hby hml hown hnm hret hlk hZ e0
  rw [ef_rm7]
  have N0 := Fr.nil n0
  have rg_p2 := rng32 p2
  have rg_p3 := rng32 p3
  have rg_p4 := rng32 p4
  show ORun p e below s _ _ _ s₁ (mkF m 0 #[.val (.ref a1), .val (.int p2), .val (.int p3), .val (.int p4)] [])
  refine own_by (fun t k => XS.aloadN X0.here hx rfl (hb hby d7_0) rfl rfl k) ?_
  show ORun p e below s _ _ _ s₁ (mkF m 1 #[.val (.ref a1), .val (.int p2), .val (.int p3), .val (.int p4)] [(.ref a1)])
  refine own_by (fun t k => XS.iloadN X0.here hx rfl (hb hby d7_1) rfl k) ?_
  show ORun p e below s _ _ _ s₁ (mkF m 2 #[.val (.ref a1), .val (.int p2), .val (.int p3), .val (.int p4)] [(.int p2), (.ref a1)])
  refine own_iaload X0 hx hZ e0 V1 (i := p2.toInt.toNat) (by omega) (by omega) (hb hby d7_2) ?_
  intro v1 hv1
  have r1 := rng32 v1
  show ORun p e below s _ _ _ s₁ (mkF m 3 #[.val (.ref a1), .val (.int p2), .val (.int p3), .val (.int p4)] [(.int v1)])
  refine own_by (fun t k => XS.iloadN X0.here hx rfl (hb hby d7_3) rfl k) ?_
  show ORun p e below s _ _ _ s₁ (mkF m 4 #[.val (.ref a1), .val (.int p2), .val (.int p3), .val (.int p4)] [(.int p3), (.int v1)])
  by_cases hc2 : v1 = p3
  · have t2 := own_eq hc2 (a := v1.toInt) (b := p3.toInt) rfl rfl
    refine own_by (fun t k => XS.icmpNo X0.here hx rfl (hb hby d7_4) rfl (teq hc2).2 k) ?_
    show ORun p e below s _ _ _ s₁ (mkF m 7 #[.val (.ref a1), .val (.int p2), .val (.int p3), .val (.int p4)] [])
    refine own_by (fun t k => XS.aloadN X0.here hx rfl (hb hby d7_7) rfl rfl k) ?_
    show ORun p e below s _ _ _ s₁ (mkF m 8 #[.val (.ref a1), .val (.int p2), .val (.int p3), .val (.int p4)] [(.ref a1)])
    refine own_by (fun t k => XS.iloadN X0.here hx rfl (hb hby d7_8) rfl k) ?_
    show ORun p e below s _ _ _ s₁ (mkF m 9 #[.val (.ref a1), .val (.int p2), .val (.int p3), .val (.int p4)] [(.int p2), (.ref a1)])
    refine own_by (fun t k => XS.iloadN X0.here hx rfl (hb hby d7_9) rfl k) ?_
    show ORun p e below s _ _ _ s₁ (mkF m 10 #[.val (.ref a1), .val (.int p2), .val (.int p3), .val (.int p4)] [(.int p4), (.int p2), (.ref a1)])
    refine own_iastore X0 hx hZ e0 V1 (i := p2.toInt.toNat) (by omega) (by omega) (hb hby d7_10) ?_
    intro T3 h3 L3 X3 e3 W3 hL3 V3
    have len3 : L3.length = 5 := by rw [hL3, List.length_set]; exact hl
    have N3 := Fr.snoc X3 N0 g1
    show ORun p e below s _ _ _ T3 (mkF m 11 #[.val (.ref a1), .val (.int p2), .val (.int p3), .val (.int p4)] [])
    refine own_retV X3 hx hret hlk (hb hby d7_11) (by decide) (by decide) ?_
    rw [e3]
    refine ⟨rfl, N3, ((Keep.refl h0 [a1]).wr W3 (Or.inl (List.mem_of_getElem? (i := 0) rfl))), ?_⟩
    rw [hv1] at hc2
    rw [if_pos hc2, ← hL3]
    exact V3
  · have t2 := own_ne hc2 (a := v1.toInt) (b := p3.toInt) rfl rfl
    refine own_by (fun t k => XS.icmpYes X0.here hx rfl (pc0 := 4) (pc' := 11) rfl (hb hby d7_4) rfl (feq hc2).2 (by decide) (by decide) k) ?_
    show ORun p e below s _ _ _ s₁ (mkF m 11 #[.val (.ref a1), .val (.int p2), .val (.int p3), .val (.int p4)] [])
    refine own_retV X0 hx hret hlk (hb hby d7_11) (by decide) (by decide) ?_
    rw [e0]
    refine ⟨rfl, N0, (Keep.refl h0 [a1]), ?_⟩
    rw [hv1] at hc2
    rw [if_neg hc2, own_setself]
    exact V1
theorem d6_0 : decode method_3_code 0 = .ok (.aload_n 0, 1) := by decide +kernel
theorem d6_1 : decode method_3_code 1 = .ok (.iload_n 1, 1) := by decide +kernel
theorem d6_2 : decode method_3_code 2 = .ok (.iaload, 1) := by decide +kernel
theorem d6_3 : decode method_3_code 3 = .ok (.istore_n 3, 1) := by decide +kernel
theorem d6_4 : decode method_3_code 4 = .ok (.aload_n 0, 1) := by decide +kernel
theorem d6_5 : decode method_3_code 5 = .ok (.iload_n 2, 1) := by decide +kernel
theorem d6_6 : decode method_3_code 6 = .ok (.iaload, 1) := by decide +kernel
theorem d6_7 : decode method_3_code 7 = .ok (.istore 4, 2) := by decide +kernel
theorem d6_9 : decode method_3_code 9 = .ok (.aload_n 0, 1) := by decide +kernel
theorem d6_10 : decode method_3_code 10 = .ok (.iconst 0, 1) := by decide +kernel
theorem d6_11 : decode method_3_code 11 = .ok (.iload_n 3, 1) := by decide +kernel
theorem d6_12 : decode method_3_code 12 = .ok (.iload 4, 2) := by decide +kernel
theorem d6_14 : decode method_3_code 14 = .ok (.invokestatic 7, 3) := by decide +kernel
theorem d6_17 : decode method_3_code 17 = .ok (.aload_n 0, 1) := by decide +kernel
theorem d6_18 : decode method_3_code 18 = .ok (.iconst 1, 1) := by decide +kernel
theorem d6_19 : decode method_3_code 19 = .ok (.iload_n 3, 1) := by decide +kernel
theorem d6_20 : decode method_3_code 20 = .ok (.iload 4, 2) := by decide +kernel
theorem d6_22 : decode method_3_code 22 = .ok (.invokestatic 7, 3) := by decide +kernel
theorem d6_25 : decode method_3_code 25 = .ok (.aload_n 0, 1) := by decide +kernel
theorem d6_26 : decode method_3_code 26 = .ok (.iconst 2, 1) := by decide +kernel
theorem d6_27 : decode method_3_code 27 = .ok (.iload_n 3, 1) := by decide +kernel
theorem d6_28 : decode method_3_code 28 = .ok (.iload 4, 2) := by decide +kernel
theorem d6_30 : decode method_3_code 30 = .ok (.invokestatic 7, 3) := by decide +kernel
theorem d6_33 : decode method_3_code 33 = .ok (.aload_n 0, 1) := by decide +kernel
theorem d6_34 : decode method_3_code 34 = .ok (.iconst 3, 1) := by decide +kernel
theorem d6_35 : decode method_3_code 35 = .ok (.iload_n 3, 1) := by decide +kernel
theorem d6_36 : decode method_3_code 36 = .ok (.iload 4, 2) := by decide +kernel
theorem d6_38 : decode method_3_code 38 = .ok (.invokestatic 7, 3) := by decide +kernel
theorem d6_41 : decode method_3_code 41 = .ok (.aload_n 0, 1) := by decide +kernel
theorem d6_42 : decode method_3_code 42 = .ok (.iconst 4, 1) := by decide +kernel
theorem d6_43 : decode method_3_code 43 = .ok (.iload_n 3, 1) := by decide +kernel
theorem d6_44 : decode method_3_code 44 = .ok (.iload 4, 2) := by decide +kernel
theorem d6_46 : decode method_3_code 46 = .ok (.invokestatic 7, 3) := by decide +kernel
theorem d6_49 : decode method_3_code 49 = .ok (.return_, 1) := by decide +kernel
theorem pn_rm6 : plainName "com/example/kembar/kembar/cluster/ClustersJoinPinLaw" = true := by first | (simp [plainName, overriddenIn]; done) | decide +kernel
theorem ef_rm6 (m : MethodId) (x0 : Addr) (x1 : Int32) (x2 : Int32) : entryFrame m #[(.ref x0), (.int x1), (.int x2)] 5 = mkF m 0 #[.val (.ref x0), .val (.int x1), .val (.int x2), .unset, .unset] [] := by first | (simp [entryFrame, mkF, argsToLocals, Value.category]; done) | rfl
set_option maxRecDepth 65536 in
set_option maxHeartbeats 40000000 in
theorem rm6 (l : Launch) (Z : State) (a0 : Array Value) (hw : ∀ d ∈ tables_1, d.before a0 Z = true) (ws : List Jvm.Cond) (h0 : Heap) (n0 : Nat) (Z0 : n0 ≤ h0.size) (a1 : Addr) (p2 p3 l0 l1 l2 l3 l4 : Int32) (g1 : n0 ≤ a1) (V1 : OVec Z h0 a1 .int [l0, l1, l2, l3, l4]) (hp : 0 ≤ p2.toInt ∧ p2.toInt < 5) (hq : 0 ≤ p3.toInt ∧ p3.toInt < 5) :
    OMet l (⟨"com/example/kembar/kembar/cluster/ClustersJoinPinLaw", "merge", "([III)V"⟩ : MethodName) method_3_code 5 none ws ({ frames := 1, cells := 0, slots := 0, locals := 20 } : Room) #[(.ref a1), (.int p2), (.int p3)] Z h0 (fun v h L' => v = none ∧ Fr n0 L' ∧ Keep h0 h [a1] ∧ OVec Z h a1 .int ([l0, l1, l2, l3, l4].map fun v => if v = [l0, l1, l2, l3, l4].getD p2.toInt.toNat 0 then [l0, l1, l2, l3, l4].getD p3.toInt.toNat 0 else v)) := by
  refine own_met (plainFor_of_name pn_rm6) ?_
  intro p e s m below meth c s₁ X0 hx hby hml hown hnm hret hlk hZ e0
  rw [ef_rm6]
  have N0 := Fr.nil n0
  have rg_p2 := rng32 p2
  have rg_p3 := rng32 p3
  show ORun p e below s _ _ _ s₁ (mkF m 0 #[.val (.ref a1), .val (.int p2), .val (.int p3), .unset, .unset] [])
  refine own_by (fun t k => XS.aloadN X0.here hx rfl (hb hby d6_0) rfl rfl k) ?_
  show ORun p e below s _ _ _ s₁ (mkF m 1 #[.val (.ref a1), .val (.int p2), .val (.int p3), .unset, .unset] [(.ref a1)])
  refine own_by (fun t k => XS.iloadN X0.here hx rfl (hb hby d6_1) rfl k) ?_
  show ORun p e below s _ _ _ s₁ (mkF m 2 #[.val (.ref a1), .val (.int p2), .val (.int p3), .unset, .unset] [(.int p2), (.ref a1)])
  refine own_iaload X0 hx hZ e0 V1 (i := p2.toInt.toNat) (by omega) (by show p2.toInt.toNat < 5; omega) (hb hby d6_2) ?_
  intro v1 hv1
  have r1 := rng32 v1
  show ORun p e below s _ _ _ s₁ (mkF m 3 #[.val (.ref a1), .val (.int p2), .val (.int p3), .unset, .unset] [(.int v1)])
  refine own_by (fun t k => XS.istoreN X0.here hx rfl (hb hby d6_3) rfl (l' := #[.val (.ref a1), .val (.int p2), .val (.int p3), .val (.int v1), .unset]) rfl k) ?_
  show ORun p e below s _ _ _ s₁ (mkF m 4 #[.val (.ref a1), .val (.int p2), .val (.int p3), .val (.int v1), .unset] [])
  refine own_by (fun t k => XS.aloadN X0.here hx rfl (hb hby d6_4) rfl rfl k) ?_
  show ORun p e below s _ _ _ s₁ (mkF m 5 #[.val (.ref a1), .val (.int p2), .val (.int p3), .val (.int v1), .unset] [(.ref a1)])
  refine own_by (fun t k => XS.iloadN X0.here hx rfl (hb hby d6_5) rfl k) ?_
  show ORun p e below s _ _ _ s₁ (mkF m 6 #[.val (.ref a1), .val (.int p2), .val (.int p3), .val (.int v1), .unset] [(.int p3), (.ref a1)])
  refine own_iaload X0 hx hZ e0 V1 (i := p3.toInt.toNat) (by omega) (by show p3.toInt.toNat < 5; omega) (hb hby d6_6) ?_
  intro v2 hv2
  have r2 := rng32 v2
  show ORun p e below s _ _ _ s₁ (mkF m 7 #[.val (.ref a1), .val (.int p2), .val (.int p3), .val (.int v1), .unset] [(.int v2)])
  refine own_by (fun t k => XS.istore X0.here hx rfl (hb hby d6_7) rfl (l' := #[.val (.ref a1), .val (.int p2), .val (.int p3), .val (.int v1), .val (.int v2)]) rfl k) ?_
  show ORun p e below s _ _ _ s₁ (mkF m 9 #[.val (.ref a1), .val (.int p2), .val (.int p3), .val (.int v1), .val (.int v2)] [])
  refine own_by (fun t k => XS.aloadN X0.here hx rfl (hb hby d6_9) rfl rfl k) ?_
  show ORun p e below s _ _ _ s₁ (mkF m 10 #[.val (.ref a1), .val (.int p2), .val (.int p3), .val (.int v1), .val (.int v2)] [(.ref a1)])
  refine own_by (fun t k => XS.iconst X0.here hx rfl (hb hby d6_10) k) ?_
  show ORun p e below s _ _ _ s₁ (mkF m 11 #[.val (.ref a1), .val (.int p2), .val (.int p3), .val (.int v1), .val (.int v2)] [(.int (0 : Int32)), (.ref a1)])
  refine own_by (fun t k => XS.iloadN X0.here hx rfl (hb hby d6_11) rfl k) ?_
  show ORun p e below s _ _ _ s₁ (mkF m 12 #[.val (.ref a1), .val (.int p2), .val (.int p3), .val (.int v1), .val (.int v2)] [(.int v1), (.int (0 : Int32)), (.ref a1)])
  refine own_by (fun t k => XS.iload X0.here hx rfl (hb hby d6_12) rfl k) ?_
  show ORun p e below s _ _ _ s₁ (mkF m 14 #[.val (.ref a1), .val (.int p2), .val (.int p3), .val (.int v1), .val (.int v2)] [(.int v2), (.int v1), (.int (0 : Int32)), (.ref a1)])
  refine own_callS X0 hx hZ hown (hw _ (List.mem_of_getElem? (i := 29) rfl)) (hw _ (List.mem_of_getElem? (i := 30) rfl)) (hw _ (List.mem_of_getElem? (i := 14) rfl)) (hw _ (List.mem_of_getElem? (i := 31) rfl)) (by decide) (rm7 l Z a0 hw [] h0 n0 Z0 a1 (0 : Int32) v1 v2 [l0, l1, l2, l3, l4] g1 V1 rfl (by decide)) e0 (by decide) (W := 0) (by decide) (by decide) (by decide) (argsL := [(.ref a1), (.int (0 : Int32)), (.int v1), (.int v2)]) (rest := []) (by rw [hml]; rfl) (lenOf pd_0 rfl) rfl rfl (Nat.le_of_eq rfl) (hb hby d6_14) ?_
  intro T3 L3 u3 X3 hQ3
  obtain ⟨rfl, Nq3, K3, Vq3⟩ := hQ3
  have Vz3 : OVec Z T3.heap a1 .int [(if l0 = v1 then v2 else l0), l1, l2, l3, l4] := Vq3
  have N3 := Fr.app N0 Nq3
  show ORun p e below s _ _ _ T3 (mkF m 17 #[.val (.ref a1), .val (.int p2), .val (.int p3), .val (.int v1), .val (.int v2)] [])
  refine own_by (fun t k => XS.aloadN X3.here hx rfl (hb hby d6_17) rfl rfl k) ?_
  show ORun p e below s _ _ _ T3 (mkF m 18 #[.val (.ref a1), .val (.int p2), .val (.int p3), .val (.int v1), .val (.int v2)] [(.ref a1)])
  refine own_by (fun t k => XS.iconst X3.here hx rfl (hb hby d6_18) k) ?_
  show ORun p e below s _ _ _ T3 (mkF m 19 #[.val (.ref a1), .val (.int p2), .val (.int p3), .val (.int v1), .val (.int v2)] [(.int (1 : Int32)), (.ref a1)])
  refine own_by (fun t k => XS.iloadN X3.here hx rfl (hb hby d6_19) rfl k) ?_
  show ORun p e below s _ _ _ T3 (mkF m 20 #[.val (.ref a1), .val (.int p2), .val (.int p3), .val (.int v1), .val (.int v2)] [(.int v1), (.int (1 : Int32)), (.ref a1)])
  refine own_by (fun t k => XS.iload X3.here hx rfl (hb hby d6_20) rfl k) ?_
  show ORun p e below s _ _ _ T3 (mkF m 22 #[.val (.ref a1), .val (.int p2), .val (.int p3), .val (.int v1), .val (.int v2)] [(.int v2), (.int v1), (.int (1 : Int32)), (.ref a1)])
  refine own_callS X3 hx hZ hown (hw _ (List.mem_of_getElem? (i := 29) rfl)) (hw _ (List.mem_of_getElem? (i := 30) rfl)) (hw _ (List.mem_of_getElem? (i := 14) rfl)) (hw _ (List.mem_of_getElem? (i := 31) rfl)) (by decide) (rm7 l Z a0 hw [] T3.heap n0 (Nat.le_trans Z0 K3.1) a1 (1 : Int32) v1 v2 [(if l0 = v1 then v2 else l0), l1, l2, l3, l4] g1 Vz3 rfl (by decide)) rfl (by decide) (W := 0) (by decide) (by decide) (by decide) (argsL := [(.ref a1), (.int (1 : Int32)), (.int v1), (.int v2)]) (rest := []) (by rw [hml]; rfl) (lenOf pd_0 rfl) rfl rfl (Nat.le_of_eq rfl) (hb hby d6_22) ?_
  intro T4 L4 u4 X4 hQ4
  obtain ⟨rfl, Nq4, K4, Vq4⟩ := hQ4
  have Vz4 : OVec Z T4.heap a1 .int [(if l0 = v1 then v2 else l0), (if l1 = v1 then v2 else l1), l2, l3, l4] := Vq4
  have N4 := Fr.app N3 Nq4
  show ORun p e below s _ _ _ T4 (mkF m 25 #[.val (.ref a1), .val (.int p2), .val (.int p3), .val (.int v1), .val (.int v2)] [])
  refine own_by (fun t k => XS.aloadN X4.here hx rfl (hb hby d6_25) rfl rfl k) ?_
  show ORun p e below s _ _ _ T4 (mkF m 26 #[.val (.ref a1), .val (.int p2), .val (.int p3), .val (.int v1), .val (.int v2)] [(.ref a1)])
  refine own_by (fun t k => XS.iconst X4.here hx rfl (hb hby d6_26) k) ?_
  show ORun p e below s _ _ _ T4 (mkF m 27 #[.val (.ref a1), .val (.int p2), .val (.int p3), .val (.int v1), .val (.int v2)] [(.int (2 : Int32)), (.ref a1)])
  refine own_by (fun t k => XS.iloadN X4.here hx rfl (hb hby d6_27) rfl k) ?_
  show ORun p e below s _ _ _ T4 (mkF m 28 #[.val (.ref a1), .val (.int p2), .val (.int p3), .val (.int v1), .val (.int v2)] [(.int v1), (.int (2 : Int32)), (.ref a1)])
  refine own_by (fun t k => XS.iload X4.here hx rfl (hb hby d6_28) rfl k) ?_
  show ORun p e below s _ _ _ T4 (mkF m 30 #[.val (.ref a1), .val (.int p2), .val (.int p3), .val (.int v1), .val (.int v2)] [(.int v2), (.int v1), (.int (2 : Int32)), (.ref a1)])
  refine own_callS X4 hx hZ hown (hw _ (List.mem_of_getElem? (i := 29) rfl)) (hw _ (List.mem_of_getElem? (i := 30) rfl)) (hw _ (List.mem_of_getElem? (i := 14) rfl)) (hw _ (List.mem_of_getElem? (i := 31) rfl)) (by decide) (rm7 l Z a0 hw [] T4.heap n0 (Nat.le_trans (Nat.le_trans Z0 K3.1) K4.1) a1 (2 : Int32) v1 v2 [(if l0 = v1 then v2 else l0), (if l1 = v1 then v2 else l1), l2, l3, l4] g1 Vz4 rfl (by decide)) rfl (by decide) (W := 0) (by decide) (by decide) (by decide) (argsL := [(.ref a1), (.int (2 : Int32)), (.int v1), (.int v2)]) (rest := []) (by rw [hml]; rfl) (lenOf pd_0 rfl) rfl rfl (Nat.le_of_eq rfl) (hb hby d6_30) ?_
  intro T5 L5 u5 X5 hQ5
  obtain ⟨rfl, Nq5, K5, Vq5⟩ := hQ5
  have Vz5 : OVec Z T5.heap a1 .int [(if l0 = v1 then v2 else l0), (if l1 = v1 then v2 else l1), (if l2 = v1 then v2 else l2), l3, l4] := Vq5
  have N5 := Fr.app N4 Nq5
  show ORun p e below s _ _ _ T5 (mkF m 33 #[.val (.ref a1), .val (.int p2), .val (.int p3), .val (.int v1), .val (.int v2)] [])
  refine own_by (fun t k => XS.aloadN X5.here hx rfl (hb hby d6_33) rfl rfl k) ?_
  show ORun p e below s _ _ _ T5 (mkF m 34 #[.val (.ref a1), .val (.int p2), .val (.int p3), .val (.int v1), .val (.int v2)] [(.ref a1)])
  refine own_by (fun t k => XS.iconst X5.here hx rfl (hb hby d6_34) k) ?_
  show ORun p e below s _ _ _ T5 (mkF m 35 #[.val (.ref a1), .val (.int p2), .val (.int p3), .val (.int v1), .val (.int v2)] [(.int (3 : Int32)), (.ref a1)])
  refine own_by (fun t k => XS.iloadN X5.here hx rfl (hb hby d6_35) rfl k) ?_
  show ORun p e below s _ _ _ T5 (mkF m 36 #[.val (.ref a1), .val (.int p2), .val (.int p3), .val (.int v1), .val (.int v2)] [(.int v1), (.int (3 : Int32)), (.ref a1)])
  refine own_by (fun t k => XS.iload X5.here hx rfl (hb hby d6_36) rfl k) ?_
  show ORun p e below s _ _ _ T5 (mkF m 38 #[.val (.ref a1), .val (.int p2), .val (.int p3), .val (.int v1), .val (.int v2)] [(.int v2), (.int v1), (.int (3 : Int32)), (.ref a1)])
  refine own_callS X5 hx hZ hown (hw _ (List.mem_of_getElem? (i := 29) rfl)) (hw _ (List.mem_of_getElem? (i := 30) rfl)) (hw _ (List.mem_of_getElem? (i := 14) rfl)) (hw _ (List.mem_of_getElem? (i := 31) rfl)) (by decide) (rm7 l Z a0 hw [] T5.heap n0 (Nat.le_trans (Nat.le_trans (Nat.le_trans Z0 K3.1) K4.1) K5.1) a1 (3 : Int32) v1 v2 [(if l0 = v1 then v2 else l0), (if l1 = v1 then v2 else l1), (if l2 = v1 then v2 else l2), l3, l4] g1 Vz5 rfl (by decide)) rfl (by decide) (W := 0) (by decide) (by decide) (by decide) (argsL := [(.ref a1), (.int (3 : Int32)), (.int v1), (.int v2)]) (rest := []) (by rw [hml]; rfl) (lenOf pd_0 rfl) rfl rfl (Nat.le_of_eq rfl) (hb hby d6_38) ?_
  intro T6 L6 u6 X6 hQ6
  obtain ⟨rfl, Nq6, K6, Vq6⟩ := hQ6
  have Vz6 : OVec Z T6.heap a1 .int [(if l0 = v1 then v2 else l0), (if l1 = v1 then v2 else l1), (if l2 = v1 then v2 else l2), (if l3 = v1 then v2 else l3), l4] := Vq6
  have N6 := Fr.app N5 Nq6
  show ORun p e below s _ _ _ T6 (mkF m 41 #[.val (.ref a1), .val (.int p2), .val (.int p3), .val (.int v1), .val (.int v2)] [])
  refine own_by (fun t k => XS.aloadN X6.here hx rfl (hb hby d6_41) rfl rfl k) ?_
  show ORun p e below s _ _ _ T6 (mkF m 42 #[.val (.ref a1), .val (.int p2), .val (.int p3), .val (.int v1), .val (.int v2)] [(.ref a1)])
  refine own_by (fun t k => XS.iconst X6.here hx rfl (hb hby d6_42) k) ?_
  show ORun p e below s _ _ _ T6 (mkF m 43 #[.val (.ref a1), .val (.int p2), .val (.int p3), .val (.int v1), .val (.int v2)] [(.int (4 : Int32)), (.ref a1)])
  refine own_by (fun t k => XS.iloadN X6.here hx rfl (hb hby d6_43) rfl k) ?_
  show ORun p e below s _ _ _ T6 (mkF m 44 #[.val (.ref a1), .val (.int p2), .val (.int p3), .val (.int v1), .val (.int v2)] [(.int v1), (.int (4 : Int32)), (.ref a1)])
  refine own_by (fun t k => XS.iload X6.here hx rfl (hb hby d6_44) rfl k) ?_
  show ORun p e below s _ _ _ T6 (mkF m 46 #[.val (.ref a1), .val (.int p2), .val (.int p3), .val (.int v1), .val (.int v2)] [(.int v2), (.int v1), (.int (4 : Int32)), (.ref a1)])
  refine own_callS X6 hx hZ hown (hw _ (List.mem_of_getElem? (i := 29) rfl)) (hw _ (List.mem_of_getElem? (i := 30) rfl)) (hw _ (List.mem_of_getElem? (i := 14) rfl)) (hw _ (List.mem_of_getElem? (i := 31) rfl)) (by decide) (rm7 l Z a0 hw [] T6.heap n0 (Nat.le_trans (Nat.le_trans (Nat.le_trans (Nat.le_trans Z0 K3.1) K4.1) K5.1) K6.1) a1 (4 : Int32) v1 v2 [(if l0 = v1 then v2 else l0), (if l1 = v1 then v2 else l1), (if l2 = v1 then v2 else l2), (if l3 = v1 then v2 else l3), l4] g1 Vz6 rfl (by decide)) rfl (by decide) (W := 0) (by decide) (by decide) (by decide) (argsL := [(.ref a1), (.int (4 : Int32)), (.int v1), (.int v2)]) (rest := []) (by rw [hml]; rfl) (lenOf pd_0 rfl) rfl rfl (Nat.le_of_eq rfl) (hb hby d6_46) ?_
  intro T7 L7 u7 X7 hQ7
  obtain ⟨rfl, Nq7, K7, Vq7⟩ := hQ7
  have Vz7 : OVec Z T7.heap a1 .int [(if l0 = v1 then v2 else l0), (if l1 = v1 then v2 else l1), (if l2 = v1 then v2 else l2), (if l3 = v1 then v2 else l3), (if l4 = v1 then v2 else l4)] := Vq7
  have N7 := Fr.app N6 Nq7
  show ORun p e below s _ _ _ T7 (mkF m 49 #[.val (.ref a1), .val (.int p2), .val (.int p3), .val (.int v1), .val (.int v2)] [])
  refine own_retV X7 hx hret hlk (hb hby d6_49) (by decide) (by decide) ?_
  refine ⟨rfl, N7, ((((((Keep.refl h0 [a1]).trans K3 (allS (Or.inl (List.mem_of_getElem? (i := 0) rfl)) all0)).trans K4 (allS (Or.inl (List.mem_of_getElem? (i := 0) rfl)) all0)).trans K5 (allS (Or.inl (List.mem_of_getElem? (i := 0) rfl)) all0)).trans K6 (allS (Or.inl (List.mem_of_getElem? (i := 0) rfl)) all0)).trans K7 (allS (Or.inl (List.mem_of_getElem? (i := 0) rfl)) all0)), ?_⟩
  rw [← hv1, ← hv2]
  exact Vz7
theorem d5_0 : decode prog_4_method_4_code 0 = .ok (.iload_n 1, 1) := by decide +kernel
theorem d5_1 : decode prog_4_method_4_code 1 = .ok (.istore_n 2, 1) := by decide +kernel
theorem d5_2 : decode prog_4_method_4_code 2 = .ok (.aload_n 0, 1) := by decide +kernel
theorem d5_3 : decode prog_4_method_4_code 3 = .ok (.getfield 7, 3) := by decide +kernel
theorem d5_6 : decode prog_4_method_4_code 6 = .ok (.iload_n 2, 1) := by decide +kernel
theorem d5_7 : decode prog_4_method_4_code 7 = .ok (.iaload, 1) := by decide +kernel
theorem d5_8 : decode prog_4_method_4_code 8 = .ok (.iload_n 2, 1) := by decide +kernel
theorem d5_9 : decode prog_4_method_4_code 9 = .ok (.if_icmp .eq 30, 3) := by decide +kernel
theorem d5_12 : decode prog_4_method_4_code 12 = .ok (.aload_n 0, 1) := by decide +kernel
theorem d5_13 : decode prog_4_method_4_code 13 = .ok (.getfield 7, 3) := by decide +kernel
theorem d5_16 : decode prog_4_method_4_code 16 = .ok (.iload_n 2, 1) := by decide +kernel
theorem d5_17 : decode prog_4_method_4_code 17 = .ok (.aload_n 0, 1) := by decide +kernel
theorem d5_18 : decode prog_4_method_4_code 18 = .ok (.getfield 7, 3) := by decide +kernel
theorem d5_21 : decode prog_4_method_4_code 21 = .ok (.aload_n 0, 1) := by decide +kernel
theorem d5_22 : decode prog_4_method_4_code 22 = .ok (.getfield 7, 3) := by decide +kernel
theorem d5_25 : decode prog_4_method_4_code 25 = .ok (.iload_n 2, 1) := by decide +kernel
theorem d5_26 : decode prog_4_method_4_code 26 = .ok (.iaload, 1) := by decide +kernel
theorem d5_27 : decode prog_4_method_4_code 27 = .ok (.iaload, 1) := by decide +kernel
theorem d5_28 : decode prog_4_method_4_code 28 = .ok (.iastore, 1) := by decide +kernel
theorem d5_29 : decode prog_4_method_4_code 29 = .ok (.aload_n 0, 1) := by decide +kernel
theorem d5_30 : decode prog_4_method_4_code 30 = .ok (.getfield 7, 3) := by decide +kernel
theorem d5_33 : decode prog_4_method_4_code 33 = .ok (.iload_n 2, 1) := by decide +kernel
theorem d5_34 : decode prog_4_method_4_code 34 = .ok (.iaload, 1) := by decide +kernel
theorem d5_35 : decode prog_4_method_4_code 35 = .ok (.istore_n 2, 1) := by decide +kernel
theorem d5_36 : decode prog_4_method_4_code 36 = .ok (.goto (-34), 3) := by decide +kernel
theorem d5_39 : decode prog_4_method_4_code 39 = .ok (.iload_n 2, 1) := by decide +kernel
theorem d5_40 : decode prog_4_method_4_code 40 = .ok (.ireturn, 1) := by decide +kernel
theorem pn_rm5 : plainName "com/example/kembar/kembar/cluster/Clusters" = true := by first | (simp [plainName, overriddenIn]; done) | decide +kernel
theorem ef_rm5 (m : MethodId) (x0 : Addr) (x1 : Int32) : entryFrame m #[(.ref x0), (.int x1)] 3 = mkF m 0 #[.val (.ref x0), .val (.int x1), .unset] [] := by first | (simp [entryFrame, mkF, argsToLocals, Value.category]; done) | rfl
set_option maxRecDepth 65536 in
set_option maxHeartbeats 40000000 in
theorem rm5 (l : Launch) (Z : State) (a0 : Array Value) (hw : ∀ d ∈ tables_1, d.before a0 Z = true) (ws : List Jvm.Cond) (h0 : Heap) (n0 : Nat) (Z0 : n0 ≤ h0.size) (a1 pa : Addr) (p2 : Int32) (P L : List Int32) (r : Nat → Nat) (E_a1 : Exa Z h0 a1 "com/example/kembar/kembar/cluster/Clusters") (F_a1 : Fld Z h0 a1 "com/example/kembar/kembar/cluster/Clusters" "parents" "[I" (.ref pa)) (V_pa : OVec Z h0 pa .int P) (hP : P.length = 5) (gp : n0 ≤ pa) (nep : a1 ≠ pa) (I : InvR P L r) (hp : 0 ≤ p2.toInt ∧ p2.toInt < 5) :
    OMet l (⟨"com/example/kembar/kembar/cluster/Clusters", "root", "(I)I"⟩ : MethodName) prog_4_method_4_code 3 (some .int) ws ({ frames := 0, cells := 0, slots := 0, locals := 0 } : Room) #[(.ref a1), (.int p2)] Z h0 (fun v h L' => ∃ P' : List Int32, v = some (.int (L.getD p2.toInt.toNat 0)) ∧ Fr n0 L' ∧ Keep h0 h [pa] ∧ OVec Z h pa .int P' ∧ P'.length = 5 ∧ InvR P' L r) := by
  refine own_met (plainFor_of_name pn_rm5) ?_
  intro p e s m below meth c s₁ X0 hx hby hml hown hnm hret hlk hZ e0
  rw [ef_rm5]
  have N0 := Fr.nil n0
  have rg_p2 := rng32 p2
  show ORun p e below s _ _ _ s₁ (mkF m 0 #[.val (.ref a1), .val (.int p2), .unset] [])
  refine own_by (fun t k => XS.iloadN X0.here hx rfl (hb hby d5_0) rfl k) ?_
  show ORun p e below s _ _ _ s₁ (mkF m 1 #[.val (.ref a1), .val (.int p2), .unset] [(.int p2)])
  refine own_by (fun t k => XS.istoreN X0.here hx rfl (hb hby d5_1) rfl (l' := #[.val (.ref a1), .val (.int p2), .val (.int p2)]) rfl k) ?_
  show ORun p e below s _ _ _ s₁ (mkF m 2 #[.val (.ref a1), .val (.int p2), .val (.int p2)] [])
  have LP1 : ∀ (kk : Nat) (Tl1 : State) (hl1 : Heap) (lo1 : List Loc) (x : Int32) (P1 : List Int32), (r x.toInt.toNat = kk) → (Stand p l e ({ frames := 0, cells := 0, slots := 0, locals := 0 } : Room) s m #[(.ref a1), (.int p2)] below meth c Tl1 lo1 0 0) → (Tl1.heap = hl1) → (Fr n0 lo1) → (Keep h0 hl1 [pa]) → (OVec Z hl1 pa .int P1) → (P1.length = 5) → (Exa Z hl1 a1 "com/example/kembar/kembar/cluster/Clusters") → (Fld Z hl1 a1 "com/example/kembar/kembar/cluster/Clusters" "parents" "[I" (.ref pa)) → (InvR P1 L r) → (0 ≤ x.toInt ∧ x.toInt < 5) → (L.getD x.toInt.toNat 0 = L.getD p2.toInt.toNat 0) → ORun p e below s (fun v h L' => ∃ P' : List Int32, v = some (.int (L.getD p2.toInt.toNat 0)) ∧ Fr n0 L' ∧ Keep h0 h [pa] ∧ OVec Z h pa .int P' ∧ P'.length = 5 ∧ InvR P' L r) ({ frames := 0, cells := 0, slots := 0, locals := 0 } : Room).cells ({ frames := 0, cells := 0, slots := 0, locals := 0 } : Room).slots Tl1 (mkF m 2 #[.val (.ref a1), .val (.int p2), .val (.int x)] []) := by
    intro kk
    induction kk using Nat.strongRecOn with
    | _ kk ih1 =>
      intro Tl1 hl1 lo1 x P1 hk1 Xl1 el1 Nl1 Kl1 Vl1_0 lenl1_0 fl1_0 fl1_1 pl1_0 pl1_1 pl1_2
      have I := pl1_0
      have hxb := pl1_1
      have hrt := pl1_2
      have hlP := lenl1_0
      clear pl1_0 pl1_1 pl1_2
      obtain ⟨i1, i2, i3, i4, i5, i6⟩ := I x.toInt.toNat (by omega)
      show ORun p e below s _ _ _ Tl1 (mkF m 2 #[.val (.ref a1), .val (.int p2), .val (.int x)] [])
      refine own_by (fun t k => XS.aloadN Xl1.here hx rfl (hb hby d5_2) rfl rfl k) ?_
      show ORun p e below s _ _ _ Tl1 (mkF m 3 #[.val (.ref a1), .val (.int p2), .val (.int x)] [(.ref a1)])
      obtain ⟨T2, X2, e2, st2⟩ := getF Xl1 hx hZ hown (host := "") (Or.inl (hw _ (List.mem_of_getElem? (i := 10) rfl))) Via.refl el1 fl1_1 (g := (mkF m 3 #[.val (.ref a1), .val (.int p2), .val (.int x)] [(.ref a1)])) rfl rfl (hb hby d5_3)
      refine own_by st2 ?_
      show ORun p e below s _ _ _ T2 (mkF m 6 #[.val (.ref a1), .val (.int p2), .val (.int x)] [(.ref pa)])
      refine own_by (fun t k => XS.iloadN X2.here hx rfl (hb hby d5_6) rfl k) ?_
      show ORun p e below s _ _ _ T2 (mkF m 7 #[.val (.ref a1), .val (.int p2), .val (.int x)] [(.int x), (.ref pa)])
      refine own_iaload X2 hx hZ e2 Vl1_0 (i := x.toInt.toNat) (by omega) (by omega) (hb hby d5_7) ?_
      intro v3 hv3
      have r3 := rng32 v3
      show ORun p e below s _ _ _ T2 (mkF m 8 #[.val (.ref a1), .val (.int p2), .val (.int x)] [(.int v3)])
      have hb1 : 0 ≤ v3.toInt ∧ v3.toInt < 5 := by rw [hv3]; exact i1
      have g1 : v3.toInt.toNat = own_g P1 x.toInt.toNat := by rw [hv3]; rfl
      refine own_by (fun t k => XS.iloadN X2.here hx rfl (hb hby d5_8) rfl k) ?_
      show ORun p e below s _ _ _ T2 (mkF m 9 #[.val (.ref a1), .val (.int p2), .val (.int x)] [(.int x), (.int v3)])
      by_cases hc4 : v3 = x
      · have t4 := own_eq hc4 (a := v3.toInt) (b := x.toInt) rfl rfl
        refine own_by (fun t k => XS.icmpYes X2.here hx rfl (pc0 := 9) (pc' := 39) rfl (hb hby d5_9) rfl (teq hc4).1 (by decide) (by decide) k) ?_
        show ORun p e below s _ _ _ T2 (mkF m 39 #[.val (.ref a1), .val (.int p2), .val (.int x)] [])
        refine own_by (fun t k => XS.iloadN X2.here hx rfl (hb hby d5_39) rfl k) ?_
        show ORun p e below s _ _ _ T2 (mkF m 40 #[.val (.ref a1), .val (.int p2), .val (.int x)] [(.int x)])
        refine own_retI X2 hx hret hlk (hb hby d5_40) (by decide) (by decide) ?_
        have e5 : own_g L x.toInt.toNat = x.toInt.toNat := i5 (by omega)
        have e6 : x = L.getD p2.toInt.toNat 0 := by rw [← hrt]; exact Int32.toInt_inj.mp (by unfold own_g at e5; omega)
        rw [e2]
        refine ⟨P1, by rw [← e6], Nl1, ((Keep.refl h0 [pa]).trans Kl1 (allS (Or.inl (List.mem_of_getElem? (i := 0) rfl)) all0)), Vl1_0, hlP, I⟩
      · have t4 := own_ne hc4 (a := v3.toInt) (b := x.toInt) rfl rfl
        refine own_by (fun t k => XS.icmpNo X2.here hx rfl (hb hby d5_9) rfl (feq hc4).1 k) ?_
        show ORun p e below s _ _ _ T2 (mkF m 12 #[.val (.ref a1), .val (.int p2), .val (.int x)] [])
        refine own_by (fun t k => XS.aloadN X2.here hx rfl (hb hby d5_12) rfl rfl k) ?_
        show ORun p e below s _ _ _ T2 (mkF m 13 #[.val (.ref a1), .val (.int p2), .val (.int x)] [(.ref a1)])
        obtain ⟨T5, X5, e5, st5⟩ := getF X2 hx hZ hown (host := "") (Or.inl (hw _ (List.mem_of_getElem? (i := 10) rfl))) Via.refl e2 fl1_1 (g := (mkF m 13 #[.val (.ref a1), .val (.int p2), .val (.int x)] [(.ref a1)])) rfl rfl (hb hby d5_13)
        refine own_by st5 ?_
        show ORun p e below s _ _ _ T5 (mkF m 16 #[.val (.ref a1), .val (.int p2), .val (.int x)] [(.ref pa)])
        refine own_by (fun t k => XS.iloadN X5.here hx rfl (hb hby d5_16) rfl k) ?_
        show ORun p e below s _ _ _ T5 (mkF m 17 #[.val (.ref a1), .val (.int p2), .val (.int x)] [(.int x), (.ref pa)])
        refine own_by (fun t k => XS.aloadN X5.here hx rfl (hb hby d5_17) rfl rfl k) ?_
        show ORun p e below s _ _ _ T5 (mkF m 18 #[.val (.ref a1), .val (.int p2), .val (.int x)] [(.ref a1), (.int x), (.ref pa)])
        obtain ⟨T6, X6, e6, st6⟩ := getF X5 hx hZ hown (host := "") (Or.inl (hw _ (List.mem_of_getElem? (i := 10) rfl))) Via.refl e5 fl1_1 (g := (mkF m 18 #[.val (.ref a1), .val (.int p2), .val (.int x)] [(.ref a1), (.int x), (.ref pa)])) rfl rfl (hb hby d5_18)
        refine own_by st6 ?_
        show ORun p e below s _ _ _ T6 (mkF m 21 #[.val (.ref a1), .val (.int p2), .val (.int x)] [(.ref pa), (.int x), (.ref pa)])
        refine own_by (fun t k => XS.aloadN X6.here hx rfl (hb hby d5_21) rfl rfl k) ?_
        show ORun p e below s _ _ _ T6 (mkF m 22 #[.val (.ref a1), .val (.int p2), .val (.int x)] [(.ref a1), (.ref pa), (.int x), (.ref pa)])
        obtain ⟨T7, X7, e7, st7⟩ := getF X6 hx hZ hown (host := "") (Or.inl (hw _ (List.mem_of_getElem? (i := 10) rfl))) Via.refl e6 fl1_1 (g := (mkF m 22 #[.val (.ref a1), .val (.int p2), .val (.int x)] [(.ref a1), (.ref pa), (.int x), (.ref pa)])) rfl rfl (hb hby d5_22)
        refine own_by st7 ?_
        show ORun p e below s _ _ _ T7 (mkF m 25 #[.val (.ref a1), .val (.int p2), .val (.int x)] [(.ref pa), (.ref pa), (.int x), (.ref pa)])
        refine own_by (fun t k => XS.iloadN X7.here hx rfl (hb hby d5_25) rfl k) ?_
        show ORun p e below s _ _ _ T7 (mkF m 26 #[.val (.ref a1), .val (.int p2), .val (.int x)] [(.int x), (.ref pa), (.ref pa), (.int x), (.ref pa)])
        refine own_iaload X7 hx hZ e7 Vl1_0 (i := x.toInt.toNat) (by omega) (by omega) (hb hby d5_26) ?_
        intro v8 hv8
        have r8 := rng32 v8
        show ORun p e below s _ _ _ T7 (mkF m 27 #[.val (.ref a1), .val (.int p2), .val (.int x)] [(.int v8), (.ref pa), (.int x), (.ref pa)])
        have hb2 : 0 ≤ v8.toInt ∧ v8.toInt < 5 := by rw [hv8]; exact i1
        have g2 : v8.toInt.toNat = own_g P1 x.toInt.toNat := by rw [hv8]; rfl
        refine own_iaload X7 hx hZ e7 Vl1_0 (i := v8.toInt.toNat) (by omega) (by omega) (hb hby d5_27) ?_
        intro v9 hv9
        have r9 := rng32 v9
        show ORun p e below s _ _ _ T7 (mkF m 28 #[.val (.ref a1), .val (.int p2), .val (.int x)] [(.int v9), (.int x), (.ref pa)])
        refine own_iastore X7 hx hZ e7 Vl1_0 (i := x.toInt.toNat) (by omega) (by omega) (hb hby d5_28) ?_
        intro T10 h10 L10 X10 e10 W10 hL10 V10
        have len10 : L10.length = 5 := by rw [hL10, List.length_set]; exact lenl1_0
        have N10 := Fr.snoc X10 Nl1 gp
        show ORun p e below s _ _ _ T10 (mkF m 29 #[.val (.ref a1), .val (.int p2), .val (.int x)] [])
        have e3 : v9 = P1.getD (own_g P1 x.toInt.toNat) 0 := by rw [hv9, g2]
        have I2 : InvR L10 L r := by rw [hL10, e3]; exact I.halve (by omega) hlP
        refine own_by (fun t k => XS.aloadN X10.here hx rfl (hb hby d5_29) rfl rfl k) ?_
        show ORun p e below s _ _ _ T10 (mkF m 30 #[.val (.ref a1), .val (.int p2), .val (.int x)] [(.ref a1)])
        obtain ⟨T11, X11, e11, st11⟩ := getF X10 hx hZ hown (host := "") (Or.inl (hw _ (List.mem_of_getElem? (i := 10) rfl))) Via.refl e10 (fl1_1.other W10 (Or.inl nep)) (g := (mkF m 30 #[.val (.ref a1), .val (.int p2), .val (.int x)] [(.ref a1)])) rfl rfl (hb hby d5_30)
        refine own_by st11 ?_
        show ORun p e below s _ _ _ T11 (mkF m 33 #[.val (.ref a1), .val (.int p2), .val (.int x)] [(.ref pa)])
        refine own_by (fun t k => XS.iloadN X11.here hx rfl (hb hby d5_33) rfl k) ?_
        show ORun p e below s _ _ _ T11 (mkF m 34 #[.val (.ref a1), .val (.int p2), .val (.int x)] [(.int x), (.ref pa)])
        refine own_iaload X11 hx hZ e11 V10 (i := x.toInt.toNat) (by omega) (by omega) (hb hby d5_34) ?_
        intro v12 hv12
        have r12 := rng32 v12
        show ORun p e below s _ _ _ T11 (mkF m 35 #[.val (.ref a1), .val (.int p2), .val (.int x)] [(.int v12)])
        have e4 : v12 = v9 := by rw [hv12, hL10, own_getset (by omega), if_pos rfl]
        have hx1 : own_g P1 x.toInt.toNat < 5 := by omega
        obtain ⟨j1, j2, j3, j4, j5, j6⟩ := I (own_g P1 x.toInt.toNat) hx1
        have hx2 : 0 ≤ v12.toInt ∧ v12.toInt < 5 := by rw [e4, e3]; exact j1
        have g4 : v12.toInt.toNat = own_g P1 (own_g P1 x.toInt.toNat) := by rw [e4, e3]; rfl
        have hr2 : L.getD v12.toInt.toNat 0 = L.getD p2.toInt.toNat 0 := by rw [g4, j3, i3]; exact hrt
        have hxne : own_g P1 x.toInt.toNat ≠ x.toInt.toNat := by omega
        have hdec : r v12.toInt.toNat < kk := by
          rw [← hk1, g4]
          by_cases q : own_g P1 (own_g P1 x.toInt.toNat) = own_g P1 x.toInt.toNat
          · rw [q]; exact i6 hxne
          · exact Nat.lt_trans (j6 q) (i6 hxne)
        refine own_by (fun t k => XS.istoreN X11.here hx rfl (hb hby d5_35) rfl (l' := #[.val (.ref a1), .val (.int p2), .val (.int v12)]) rfl k) ?_
        show ORun p e below s _ _ _ T11 (mkF m 36 #[.val (.ref a1), .val (.int p2), .val (.int v12)] [])
        refine own_by (fun t k => XS.goto X11.here hx rfl (pc0 := 36) (pc' := 2) rfl (hb hby d5_36) (by decide) (by decide) k) ?_
        show ORun p e below s _ _ _ T11 (mkF m 2 #[.val (.ref a1), .val (.int p2), .val (.int v12)] [])
        exact ih1 _ hdec T11 h10 _ (v12) (L10) rfl X11 e11 N10 (((Keep.refl h0 [pa]).trans Kl1 (allS (Or.inl (List.mem_of_getElem? (i := 0) rfl)) all0)).wr W10 (Or.inl (List.mem_of_getElem? (i := 0) rfl))) V10 len10 (fl1_0.wr W10) (fl1_1.other W10 (Or.inl nep)) I2 hx2 hr2
  exact LP1 _ s₁ h0 _ (p2) (P) rfl X0 e0 N0 (Keep.refl h0 [pa]) V_pa hP E_a1 F_a1 I hp rfl
theorem d4_0 : decode prog_4_method_2_code 0 = .ok (.aload_n 0, 1) := by decide +kernel
theorem d4_1 : decode prog_4_method_2_code 1 = .ok (.getfield 7, 3) := by decide +kernel
theorem d4_4 : decode prog_4_method_2_code 4 = .ok (.aload_n 0, 1) := by decide +kernel
theorem d4_5 : decode prog_4_method_2_code 5 = .ok (.iload_n 1, 1) := by decide +kernel
theorem d4_6 : decode prog_4_method_2_code 6 = .ok (.invokevirtual 13, 3) := by decide +kernel
theorem d4_9 : decode prog_4_method_2_code 9 = .ok (.aload_n 0, 1) := by decide +kernel
theorem d4_10 : decode prog_4_method_2_code 10 = .ok (.iload_n 2, 1) := by decide +kernel
theorem d4_11 : decode prog_4_method_2_code 11 = .ok (.invokevirtual 13, 3) := by decide +kernel
theorem d4_14 : decode prog_4_method_2_code 14 = .ok (.iastore, 1) := by decide +kernel
theorem d4_15 : decode prog_4_method_2_code 15 = .ok (.return_, 1) := by decide +kernel
theorem pn_rm4 : plainName "com/example/kembar/kembar/cluster/Clusters" = true := by first | (simp [plainName, overriddenIn]; done) | decide +kernel
theorem ef_rm4 (m : MethodId) (x0 : Addr) (x1 : Int32) (x2 : Int32) : entryFrame m #[(.ref x0), (.int x1), (.int x2)] 3 = mkF m 0 #[.val (.ref x0), .val (.int x1), .val (.int x2)] [] := by first | (simp [entryFrame, mkF, argsToLocals, Value.category]; done) | rfl
set_option maxRecDepth 65536 in
set_option maxHeartbeats 40000000 in
theorem rm4 (l : Launch) (Z : State) (a0 : Array Value) (hw : ∀ d ∈ tables_1, d.before a0 Z = true) (ws : List Jvm.Cond) (h0 : Heap) (n0 : Nat) (Z0 : n0 ≤ h0.size) (a1 pa : Addr) (p2 p3 : Int32) (P L : List Int32) (r : Nat → Nat) (E_a1 : Exa Z h0 a1 "com/example/kembar/kembar/cluster/Clusters") (F_a1 : Fld Z h0 a1 "com/example/kembar/kembar/cluster/Clusters" "parents" "[I" (.ref pa)) (V_pa : OVec Z h0 pa .int P) (hP : P.length = 5) (gp : n0 ≤ pa) (nep : a1 ≠ pa) (hL : L.length = 5) (I : InvR P L r) (hp : 0 ≤ p2.toInt ∧ p2.toInt < 5) (hq : 0 ≤ p3.toInt ∧ p3.toInt < 5) :
    OMet l (⟨"com/example/kembar/kembar/cluster/Clusters", "join", "(II)V"⟩ : MethodName) prog_4_method_2_code 3 none ws ({ frames := 1, cells := 0, slots := 0, locals := 20 } : Room) #[(.ref a1), (.int p2), (.int p3)] Z h0 (fun v h L' => v = none ∧ Fr n0 L' ∧ Keep h0 h [pa] ∧ ∃ P' : List Int32, OVec Z h pa .int P' ∧ P'.length = 5 ∧ ∃ r', InvR P' (L.map fun v => if v = L.getD p2.toInt.toNat 0 then L.getD p3.toInt.toNat 0 else v) r') := by
  refine own_met (plainFor_of_name pn_rm4) ?_
  intro p e s m below meth c s₁ X0 hx hby hml hown hnm hret hlk hZ e0
  rw [ef_rm4]
  have N0 := Fr.nil n0
  have rg_p2 := rng32 p2
  have rg_p3 := rng32 p3
  show ORun p e below s _ _ _ s₁ (mkF m 0 #[.val (.ref a1), .val (.int p2), .val (.int p3)] [])
  refine own_by (fun t k => XS.aloadN X0.here hx rfl (hb hby d4_0) rfl rfl k) ?_
  show ORun p e below s _ _ _ s₁ (mkF m 1 #[.val (.ref a1), .val (.int p2), .val (.int p3)] [(.ref a1)])
  obtain ⟨T1, X1, e1, st1⟩ := getF X0 hx hZ hown (host := "") (Or.inl (hw _ (List.mem_of_getElem? (i := 10) rfl))) Via.refl e0 F_a1 (g := (mkF m 1 #[.val (.ref a1), .val (.int p2), .val (.int p3)] [(.ref a1)])) rfl rfl (hb hby d4_1)
  refine own_by st1 ?_
  show ORun p e below s _ _ _ T1 (mkF m 4 #[.val (.ref a1), .val (.int p2), .val (.int p3)] [(.ref pa)])
  refine own_by (fun t k => XS.aloadN X1.here hx rfl (hb hby d4_4) rfl rfl k) ?_
  show ORun p e below s _ _ _ T1 (mkF m 5 #[.val (.ref a1), .val (.int p2), .val (.int p3)] [(.ref a1), (.ref pa)])
  refine own_by (fun t k => XS.iloadN X1.here hx rfl (hb hby d4_5) rfl k) ?_
  show ORun p e below s _ _ _ T1 (mkF m 6 #[.val (.ref a1), .val (.int p2), .val (.int p3)] [(.int p2), (.ref a1), (.ref pa)])
  refine own_callP X1 hx hZ hown E_a1 (hw _ (List.mem_of_getElem? (i := 22) rfl)) (hw _ (List.mem_of_getElem? (i := 23) rfl)) (own_selP (x := ({ cls := "com/example/kembar/kembar/cluster/Clusters", name := "join", desc := "(II)V" } : Jvm.MethodName)) rfl (hw _ (List.mem_of_getElem? (i := 20) rfl)) (hw _ (List.mem_of_getElem? (i := 24) rfl)) (hw _ (List.mem_of_getElem? (i := 23) rfl)) (by decide)) (hw _ (List.mem_of_getElem? (i := 24) rfl)) (hw _ (List.mem_of_getElem? (i := 2) rfl)) (hw _ (List.mem_of_getElem? (i := 25) rfl)) (by decide) (rm5 l Z a0 hw [] h0 n0 Z0 a1 pa p2 P L r E_a1 F_a1 V_pa hP gp nep I (by omega)) e1 (by decide) (W := 1) (by decide) (by decide) (by decide) (argsL := [(.int p2)]) (rest := [(.ref pa)]) (by rw [hml]; rfl) (lenOf pd_1 rfl) rfl rfl (Nat.le_of_eq rfl) (hb hby d4_6) ?_
  intro T2 L2 u2 X2 hQ2
  obtain ⟨P2, rfl, Nq2, K2, Vq2, hP2, I2⟩ := hQ2
  refine own_letI (f := fun z => (mkF m 9 #[.val (.ref a1), .val (.int p2), .val (.int p3)] [(.int z), (.ref pa)])) ((L : List Int32).getD (p2).toInt.toNat 0) fun y2 hy2 => ?_
  have N2 := Fr.app N0 Nq2
  have hyb2 : 0 ≤ y2.toInt ∧ y2.toInt < 5 := by rw [hy2]; exact (I2 p2.toInt.toNat (by omega)).2.1
  show ORun p e below s _ _ _ T2 (mkF m 9 #[.val (.ref a1), .val (.int p2), .val (.int p3)] [(.int y2), (.ref pa)])
  refine own_by (fun t k => XS.aloadN X2.here hx rfl (hb hby d4_9) rfl rfl k) ?_
  show ORun p e below s _ _ _ T2 (mkF m 10 #[.val (.ref a1), .val (.int p2), .val (.int p3)] [(.ref a1), (.int y2), (.ref pa)])
  refine own_by (fun t k => XS.iloadN X2.here hx rfl (hb hby d4_10) rfl k) ?_
  show ORun p e below s _ _ _ T2 (mkF m 11 #[.val (.ref a1), .val (.int p2), .val (.int p3)] [(.int p3), (.ref a1), (.int y2), (.ref pa)])
  refine own_callP X2 hx hZ hown (E_a1.keep K2) (hw _ (List.mem_of_getElem? (i := 22) rfl)) (hw _ (List.mem_of_getElem? (i := 23) rfl)) (own_selP (x := ({ cls := "com/example/kembar/kembar/cluster/Clusters", name := "join", desc := "(II)V" } : Jvm.MethodName)) rfl (hw _ (List.mem_of_getElem? (i := 20) rfl)) (hw _ (List.mem_of_getElem? (i := 24) rfl)) (hw _ (List.mem_of_getElem? (i := 23) rfl)) (by decide)) (hw _ (List.mem_of_getElem? (i := 24) rfl)) (hw _ (List.mem_of_getElem? (i := 2) rfl)) (hw _ (List.mem_of_getElem? (i := 25) rfl)) (by decide) (rm5 l Z a0 hw [] T2.heap n0 (Nat.le_trans Z0 K2.1) a1 pa p3 P2 L r (E_a1.keep K2) (F_a1.keep K2 (ninS nep nin0)) Vq2 hP2 gp nep I2 (by omega)) rfl (by decide) (W := 2) (by decide) (by decide) (by decide) (argsL := [(.int p3)]) (rest := [(.int y2), (.ref pa)]) (by rw [hml]; rfl) (lenOf pd_1 rfl) rfl rfl (Nat.le_of_eq rfl) (hb hby d4_11) ?_
  intro T3 L3 u3 X3 hQ3
  obtain ⟨P3, rfl, Nq3, K3, Vq3, hP3, I3⟩ := hQ3
  refine own_letI (f := fun z => (mkF m 14 #[.val (.ref a1), .val (.int p2), .val (.int p3)] [(.int z), (.int y2), (.ref pa)])) ((L : List Int32).getD (p3).toInt.toNat 0) fun y3 hy3 => ?_
  have N3 := Fr.app N2 Nq3
  have hyb3 : 0 ≤ y3.toInt ∧ y3.toInt < 5 := by rw [hy3]; exact (I3 p3.toInt.toNat (by omega)).2.1
  show ORun p e below s _ _ _ T3 (mkF m 14 #[.val (.ref a1), .val (.int p2), .val (.int p3)] [(.int y3), (.int y2), (.ref pa)])
  refine own_iastore X3 hx hZ rfl Vq3 (i := y2.toInt.toNat) (by omega) (by omega) (hb hby d4_14) ?_
  intro T4 h4 L4 X4 e4 W4 hL4 V4
  have len4 : L4.length = 5 := by rw [hL4, List.length_set]; exact hP3
  have N4 := Fr.snoc X4 N3 gp
  show ORun p e below s _ _ _ T4 (mkF m 15 #[.val (.ref a1), .val (.int p2), .val (.int p3)] [])
  refine own_retV X4 hx hret hlk (hb hby d4_15) (by decide) (by decide) ?_
  have J := InvR.join I3 (a := p2.toInt.toNat) (b := p3.toInt.toNat) (by omega) (by omega) hP3 hL
  have ej1 : own_g L p2.toInt.toNat = y2.toInt.toNat := by unfold own_g; rw [hy2]
  rw [ej1] at J
  have ej2 : L4 = P3.set y2.toInt.toNat (L.getD p3.toInt.toNat 0) := by rw [hL4, hy3]
  rw [← ej2] at J
  rw [e4]
  exact ⟨rfl, N4, ((((Keep.refl h0 [pa]).trans K2 (allS (Or.inl (List.mem_of_getElem? (i := 0) rfl)) all0)).trans K3 (allS (Or.inl (List.mem_of_getElem? (i := 0) rfl)) all0)).wr W4 (Or.inl (List.mem_of_getElem? (i := 0) rfl))), L4, V4, len4, _, J⟩
theorem d3_0 : decode method_4_code 0 = .ok (.iload_n 2, 1) := by decide +kernel
theorem d3_1 : decode method_4_code 1 = .ok (.ldc 13, 2) := by decide +kernel
theorem d3_3 : decode method_4_code 3 = .ok (.iand, 1) := by decide +kernel
theorem d3_4 : decode method_4_code 4 = .ok (.iconst 5, 1) := by decide +kernel
theorem d3_5 : decode method_4_code 5 = .ok (.irem, 1) := by decide +kernel
theorem d3_6 : decode method_4_code 6 = .ok (.istore_n 3, 1) := by decide +kernel
theorem d3_7 : decode method_4_code 7 = .ok (.iload_n 2, 1) := by decide +kernel
theorem d3_8 : decode method_4_code 8 = .ok (.bipush 16, 2) := by decide +kernel
theorem d3_10 : decode method_4_code 10 = .ok (.iushr, 1) := by decide +kernel
theorem d3_11 : decode method_4_code 11 = .ok (.iconst 5, 1) := by decide +kernel
theorem d3_12 : decode method_4_code 12 = .ok (.irem, 1) := by decide +kernel
theorem d3_13 : decode method_4_code 13 = .ok (.istore 4, 2) := by decide +kernel
theorem d3_15 : decode method_4_code 15 = .ok (.aload_n 0, 1) := by decide +kernel
theorem d3_16 : decode method_4_code 16 = .ok (.iload_n 3, 1) := by decide +kernel
theorem d3_17 : decode method_4_code 17 = .ok (.iload 4, 2) := by decide +kernel
theorem d3_19 : decode method_4_code 19 = .ok (.invokevirtual 14, 3) := by decide +kernel
theorem d3_22 : decode method_4_code 22 = .ok (.aload_n 1, 1) := by decide +kernel
theorem d3_23 : decode method_4_code 23 = .ok (.iload_n 3, 1) := by decide +kernel
theorem d3_24 : decode method_4_code 24 = .ok (.iload 4, 2) := by decide +kernel
theorem d3_26 : decode method_4_code 26 = .ok (.invokestatic 20, 3) := by decide +kernel
theorem d3_29 : decode method_4_code 29 = .ok (.return_, 1) := by decide +kernel
theorem pn_rm3 : plainName "com/example/kembar/kembar/cluster/ClustersJoinPinLaw" = true := by first | (simp [plainName, overriddenIn]; done) | decide +kernel
theorem ef_rm3 (m : MethodId) (x0 : Addr) (x1 : Addr) (x2 : Int32) : entryFrame m #[(.ref x0), (.ref x1), (.int x2)] 5 = mkF m 0 #[.val (.ref x0), .val (.ref x1), .val (.int x2), .unset, .unset] [] := by first | (simp [entryFrame, mkF, argsToLocals, Value.category]; done) | rfl
set_option maxRecDepth 65536 in
set_option maxHeartbeats 40000000 in
theorem rm3 (l : Launch) (Z : State) (a0 : Array Value) (hw : ∀ d ∈ tables_1, d.before a0 Z = true) (ws : List Jvm.Cond) (h0 : Heap) (n0 : Nat) (Z0 : n0 ≤ h0.size) (a1 a2 pa : Addr) (p3 : Int32) (P : List Int32) (l0 l1 l2 l3 l4 : Int32) (r : Nat → Nat) (E_a1 : Exa Z h0 a1 "com/example/kembar/kembar/cluster/Clusters") (F_a1 : Fld Z h0 a1 "com/example/kembar/kembar/cluster/Clusters" "parents" "[I" (.ref pa)) (V_pa : OVec Z h0 pa .int P) (hP : P.length = 5) (gp : n0 ≤ pa) (nep : a1 ≠ pa) (g2 : n0 ≤ a2) (V2 : OVec Z h0 a2 .int [l0, l1, l2, l3, l4]) (ne12 : a1 ≠ a2) (nep2 : pa ≠ a2) (I : InvR P [l0, l1, l2, l3, l4] r) :
    OMet l (⟨"com/example/kembar/kembar/cluster/ClustersJoinPinLaw", "both", "(Lcom/example/kembar/kembar/cluster/Clusters;[II)V"⟩ : MethodName) method_4_code 5 none ws ({ frames := 2, cells := 0, slots := 0, locals := 40 } : Room) #[(.ref a1), (.ref a2), (.int p3)] Z h0 (fun v h L' => v = none ∧ Fr n0 L' ∧ Keep h0 h [pa, a2] ∧ ∃ (P' : List Int32) (m0 m1 m2 m3 m4 : Int32) (r' : Nat → Nat), OVec Z h pa .int P' ∧ P'.length = 5 ∧ OVec Z h a2 .int [m0, m1, m2, m3, m4] ∧ InvR P' [m0, m1, m2, m3, m4] r') := by
  refine own_met (plainFor_of_name pn_rm3) ?_
  intro p e s m below meth c s₁ X0 hx hby hml hown hnm hret hlk hZ e0
  rw [ef_rm3]
  have N0 := Fr.nil n0
  have rg_p3 := rng32 p3
  show ORun p e below s _ _ _ s₁ (mkF m 0 #[.val (.ref a1), .val (.ref a2), .val (.int p3), .unset, .unset] [])
  refine own_by (fun t k => XS.iloadN X0.here hx rfl (hb hby d3_0) rfl k) ?_
  show ORun p e below s _ _ _ s₁ (mkF m 1 #[.val (.ref a1), .val (.ref a2), .val (.int p3), .unset, .unset] [(.int p3)])
  refine own_by (fun t k => X0.ldcInt hx hown (mvT hZ (hw _ (List.mem_of_getElem? (i := 16) rfl))) (g := (mkF m 1 #[.val (.ref a1), .val (.ref a2), .val (.int p3), .unset, .unset] [(.int p3)])) rfl (hb hby d3_1) _ k) ?_
  show ORun p e below s _ _ _ s₁ (mkF m 3 #[.val (.ref a1), .val (.ref a2), .val (.int p3), .unset, .unset] [(.int (65535 : Int32)), (.int p3)])
  refine own_by (fun t k => XS.iand X0.here hx rfl (hb hby d3_3) rfl k) (own_letI (f := (fun z => (mkF m 4 #[.val (.ref a1), .val (.ref a2), .val (.int p3), .unset, .unset] [(.int z)]))) (p3 &&& (65535 : Int32)) fun v1 hv1 => ?_)
  show ORun p e below s _ _ _ s₁ (mkF m 4 #[.val (.ref a1), .val (.ref a2), .val (.int p3), .unset, .unset] [(.int v1)])
  have a1a : v1.toInt = p3.toInt % 65536 := by rw [hv1]; exact c_mask p3 (65535 : Int32) 16 (by decide) (by decide)
  have r1 := rng32 v1
  refine own_by (fun t k => XS.iconst X0.here hx rfl (hb hby d3_4) k) ?_
  show ORun p e below s _ _ _ s₁ (mkF m 5 #[.val (.ref a1), .val (.ref a2), .val (.int p3), .unset, .unset] [(.int (5 : Int32)), (.int v1)])
  refine own_by (fun t k => iremM X0 hx rfl (hb hby d3_5) rfl (by decide) k) (own_letI (f := (fun z => (mkF m 6 #[.val (.ref a1), .val (.ref a2), .val (.int p3), .unset, .unset] [(.int z)]))) (v1 % (5 : Int32)) fun v2 hv2 => ?_)
  show ORun p e below s _ _ _ s₁ (mkF m 6 #[.val (.ref a1), .val (.ref a2), .val (.int p3), .unset, .unset] [(.int v2)])
  have a2a : (0 ≤ v1.toInt → v2.toInt = v1.toInt % 5) ∧ (v1.toInt < 0 → v2.toInt = -((-v1.toInt) % 5)) := by rw [hv2]; exact c_irem v1 (5 : Int32) 5 (by decide)
  have r2 := rng32 v2
  refine own_by (fun t k => XS.istoreN X0.here hx rfl (hb hby d3_6) rfl (l' := #[.val (.ref a1), .val (.ref a2), .val (.int p3), .val (.int v2), .unset]) rfl k) ?_
  show ORun p e below s _ _ _ s₁ (mkF m 7 #[.val (.ref a1), .val (.ref a2), .val (.int p3), .val (.int v2), .unset] [])
  refine own_by (fun t k => XS.iloadN X0.here hx rfl (hb hby d3_7) rfl k) ?_
  show ORun p e below s _ _ _ s₁ (mkF m 8 #[.val (.ref a1), .val (.ref a2), .val (.int p3), .val (.int v2), .unset] [(.int p3)])
  refine own_by (fun t k => XS.bipush X0.here hx rfl (hb hby d3_8) k) ?_
  show ORun p e below s _ _ _ s₁ (mkF m 10 #[.val (.ref a1), .val (.ref a2), .val (.int p3), .val (.int v2), .unset] [(.int (16 : Int32)), (.int p3)])
  refine own_by (fun t k => XS.iushr X0.here hx rfl (hb hby d3_10) rfl k) (own_letI (f := (fun z => (mkF m 11 #[.val (.ref a1), .val (.ref a2), .val (.int p3), .val (.int v2), .unset] [(.int z)]))) ((p3.toUInt32 >>> ((16 : Int32) &&& 31).toUInt32).toInt32) fun v3 hv3 => ?_)
  show ORun p e below s _ _ _ s₁ (mkF m 11 #[.val (.ref a1), .val (.ref a2), .val (.int p3), .val (.int v2), .unset] [(.int v3)])
  have a3a : v3.toInt = (p3.toInt % 4294967296) / 65536 := by rw [hv3]; exact c_iushr p3 (16 : Int32) 16 (by decide) (by decide)
  have r3 := rng32 v3
  refine own_by (fun t k => XS.iconst X0.here hx rfl (hb hby d3_11) k) ?_
  show ORun p e below s _ _ _ s₁ (mkF m 12 #[.val (.ref a1), .val (.ref a2), .val (.int p3), .val (.int v2), .unset] [(.int (5 : Int32)), (.int v3)])
  refine own_by (fun t k => iremM X0 hx rfl (hb hby d3_12) rfl (by decide) k) (own_letI (f := (fun z => (mkF m 13 #[.val (.ref a1), .val (.ref a2), .val (.int p3), .val (.int v2), .unset] [(.int z)]))) (v3 % (5 : Int32)) fun v4 hv4 => ?_)
  show ORun p e below s _ _ _ s₁ (mkF m 13 #[.val (.ref a1), .val (.ref a2), .val (.int p3), .val (.int v2), .unset] [(.int v4)])
  have a4a : (0 ≤ v3.toInt → v4.toInt = v3.toInt % 5) ∧ (v3.toInt < 0 → v4.toInt = -((-v3.toInt) % 5)) := by rw [hv4]; exact c_irem v3 (5 : Int32) 5 (by decide)
  have r4 := rng32 v4
  refine own_by (fun t k => XS.istore X0.here hx rfl (hb hby d3_13) rfl (l' := #[.val (.ref a1), .val (.ref a2), .val (.int p3), .val (.int v2), .val (.int v4)]) rfl k) ?_
  show ORun p e below s _ _ _ s₁ (mkF m 15 #[.val (.ref a1), .val (.ref a2), .val (.int p3), .val (.int v2), .val (.int v4)] [])
  refine own_by (fun t k => XS.aloadN X0.here hx rfl (hb hby d3_15) rfl rfl k) ?_
  show ORun p e below s _ _ _ s₁ (mkF m 16 #[.val (.ref a1), .val (.ref a2), .val (.int p3), .val (.int v2), .val (.int v4)] [(.ref a1)])
  refine own_by (fun t k => XS.iloadN X0.here hx rfl (hb hby d3_16) rfl k) ?_
  show ORun p e below s _ _ _ s₁ (mkF m 17 #[.val (.ref a1), .val (.ref a2), .val (.int p3), .val (.int v2), .val (.int v4)] [(.int v2), (.ref a1)])
  refine own_by (fun t k => XS.iload X0.here hx rfl (hb hby d3_17) rfl k) ?_
  show ORun p e below s _ _ _ s₁ (mkF m 19 #[.val (.ref a1), .val (.ref a2), .val (.int p3), .val (.int v2), .val (.int v4)] [(.int v4), (.int v2), (.ref a1)])
  have hab : 0 ≤ v2.toInt ∧ v2.toInt < 5 := by omega
  have hbb : 0 ≤ v4.toInt ∧ v4.toInt < 5 := by omega
  refine own_callV X0 hx hZ hown E_a1 (hw _ (List.mem_of_getElem? (i := 17) rfl)) (hw _ (List.mem_of_getElem? (i := 18) rfl)) (notFace_of_selects (args := #[]) (mvT hZ (hw _ (List.mem_of_getElem? (i := 20) rfl)))) (hw _ (List.mem_of_getElem? (i := 20) rfl)) (hw _ (List.mem_of_getElem? (i := 19) rfl)) (hw _ (List.mem_of_getElem? (i := 2) rfl)) (hw _ (List.mem_of_getElem? (i := 21) rfl)) (by decide) (rm4 l Z a0 hw [] h0 n0 Z0 a1 pa v2 v4 P [l0, l1, l2, l3, l4] r E_a1 F_a1 V_pa hP gp nep rfl I hab hbb) e0 (by decide) (W := 0) (by decide) (by decide) (by decide) (argsL := [(.int v2), (.int v4)]) (rest := []) (by rw [hml]; rfl) (lenOf pd_2 rfl) rfl rfl (Nat.le_of_eq rfl) (hb hby d3_19) ?_
  intro T5 L5 u5 X5 hQ5
  obtain ⟨rfl, Nq5, K5, P5, Vq5, hP5, r5', I5⟩ := hQ5
  have N5 := Fr.app N0 Nq5
  show ORun p e below s _ _ _ T5 (mkF m 22 #[.val (.ref a1), .val (.ref a2), .val (.int p3), .val (.int v2), .val (.int v4)] [])
  refine own_by (fun t k => XS.aloadN X5.here hx rfl (hb hby d3_22) rfl rfl k) ?_
  show ORun p e below s _ _ _ T5 (mkF m 23 #[.val (.ref a1), .val (.ref a2), .val (.int p3), .val (.int v2), .val (.int v4)] [(.ref a2)])
  refine own_by (fun t k => XS.iloadN X5.here hx rfl (hb hby d3_23) rfl k) ?_
  show ORun p e below s _ _ _ T5 (mkF m 24 #[.val (.ref a1), .val (.ref a2), .val (.int p3), .val (.int v2), .val (.int v4)] [(.int v2), (.ref a2)])
  refine own_by (fun t k => XS.iload X5.here hx rfl (hb hby d3_24) rfl k) ?_
  show ORun p e below s _ _ _ T5 (mkF m 26 #[.val (.ref a1), .val (.ref a2), .val (.int p3), .val (.int v2), .val (.int v4)] [(.int v4), (.int v2), (.ref a2)])
  refine own_callS X5 hx hZ hown (hw _ (List.mem_of_getElem? (i := 26) rfl)) (hw _ (List.mem_of_getElem? (i := 27) rfl)) (hw _ (List.mem_of_getElem? (i := 14) rfl)) (hw _ (List.mem_of_getElem? (i := 28) rfl)) (by decide) (rm6 l Z a0 hw [] T5.heap n0 (Nat.le_trans Z0 K5.1) a2 v2 v4 l0 l1 l2 l3 l4 g2 (V2.keep K5 (ninS (Ne.symm nep2) nin0)) hab hbb) rfl (by decide) (W := 0) (by decide) (by decide) (by decide) (argsL := [(.ref a2), (.int v2), (.int v4)]) (rest := []) (by rw [hml]; rfl) (lenOf pd_3 rfl) rfl rfl (Nat.le_of_eq rfl) (hb hby d3_26) ?_
  intro T6 L6 u6 X6 hQ6
  obtain ⟨rfl, Nq6, K6, Vq6⟩ := hQ6
  have N6 := Fr.app N5 Nq6
  show ORun p e below s _ _ _ T6 (mkF m 29 #[.val (.ref a1), .val (.ref a2), .val (.int p3), .val (.int v2), .val (.int v4)] [])
  refine own_retV X6 hx hret hlk (hb hby d3_29) (by decide) (by decide) ?_
  exact ⟨rfl, N6, (((Keep.refl h0 [pa, a2]).trans K5 (allS (Or.inl (List.mem_of_getElem? (i := 0) rfl)) all0)).trans K6 (allS (Or.inl (List.mem_of_getElem? (i := 1) rfl)) all0)), P5, _, _, _, _, _, r5', (Vq5.keep K6 (ninS nep2 nin0)), hP5, Vq6, I5⟩
theorem d1_0 : decode prog_4_method_1_code 0 = .ok (.aload_n 0, 1) := by decide +kernel
theorem d1_1 : decode prog_4_method_1_code 1 = .ok (.invokespecial 1, 3) := by decide +kernel
theorem d1_4 : decode prog_4_method_1_code 4 = .ok (.aload_n 0, 1) := by decide +kernel
theorem d1_5 : decode prog_4_method_1_code 5 = .ok (.iload_n 1, 1) := by decide +kernel
theorem d1_6 : decode prog_4_method_1_code 6 = .ok (.newarray .int, 2) := by decide +kernel
theorem d1_8 : decode prog_4_method_1_code 8 = .ok (.putfield 7, 3) := by decide +kernel
theorem d1_11 : decode prog_4_method_1_code 11 = .ok (.iconst 0, 1) := by decide +kernel
theorem d1_12 : decode prog_4_method_1_code 12 = .ok (.istore_n 2, 1) := by decide +kernel
theorem d1_13 : decode prog_4_method_1_code 13 = .ok (.iload_n 2, 1) := by decide +kernel
theorem d1_14 : decode prog_4_method_1_code 14 = .ok (.iload_n 1, 1) := by decide +kernel
theorem d1_15 : decode prog_4_method_1_code 15 = .ok (.if_icmp .ge 16, 3) := by decide +kernel
theorem d1_18 : decode prog_4_method_1_code 18 = .ok (.aload_n 0, 1) := by decide +kernel
theorem d1_19 : decode prog_4_method_1_code 19 = .ok (.getfield 7, 3) := by decide +kernel
theorem d1_22 : decode prog_4_method_1_code 22 = .ok (.iload_n 2, 1) := by decide +kernel
theorem d1_23 : decode prog_4_method_1_code 23 = .ok (.iload_n 2, 1) := by decide +kernel
theorem d1_24 : decode prog_4_method_1_code 24 = .ok (.iastore, 1) := by decide +kernel
theorem d1_25 : decode prog_4_method_1_code 25 = .ok (.iinc 2 1, 3) := by decide +kernel
theorem d1_28 : decode prog_4_method_1_code 28 = .ok (.goto (-15), 3) := by decide +kernel
theorem d1_31 : decode prog_4_method_1_code 31 = .ok (.return_, 1) := by decide +kernel
theorem pn_rm1 : plainName "com/example/kembar/kembar/cluster/Clusters" = true := by first | (simp [plainName, overriddenIn]; done) | decide +kernel
theorem ef_rm1 (m : MethodId) (x0 : Addr) (x1 : Int32) : entryFrame m #[(.ref x0), (.int x1)] 3 = mkF m 0 #[.val (.ref x0), .val (.int x1), .unset] [] := by first | (simp [entryFrame, mkF, argsToLocals, Value.category]; done) | rfl
set_option maxRecDepth 65536 in
set_option maxHeartbeats 40000000 in
theorem rm1 (l : Launch) (Z : State) (a0 : Array Value) (hw : ∀ d ∈ tables_1, d.before a0 Z = true) (ws : List Jvm.Cond) (h0 : Heap) (n0 : Nat) (Z0 : n0 ≤ h0.size) (a1 : Addr) (E_a1 : Exa Z h0 a1 "com/example/kembar/kembar/cluster/Clusters") (g_a1 : n0 ≤ a1) (F_parents_a1 : Fld Z h0 a1 "com/example/kembar/kembar/cluster/Clusters" "parents" "[I" .null) :
    OMet l (⟨"com/example/kembar/kembar/cluster/Clusters", "<init>", "(I)V"⟩ : MethodName) prog_4_method_1_code 3 none ws ({ frames := 1, cells := 1, slots := 5, locals := 20 } : Room) #[(.ref a1), (.int (5 : Int32))] Z h0 (fun v h L' => v = none ∧ Fr n0 L' ∧ Keep h0 h [a1] ∧ ∃ pa : Addr, h0.size ≤ pa ∧ Exa Z h a1 "com/example/kembar/kembar/cluster/Clusters" ∧ Fld Z h a1 "com/example/kembar/kembar/cluster/Clusters" "parents" "[I" (.ref pa) ∧ OVec Z h pa .int [0, 1, 2, 3, 4]) := by
  refine own_met (plainFor_of_name pn_rm1) ?_
  intro p e s m below meth c s₁ X0 hx hby hml hown hnm hret hlk hZ e0
  rw [ef_rm1]
  have N0 := Fr.nil n0
  show ORun p e below s _ _ _ s₁ (mkF m 0 #[.val (.ref a1), .val (.int (5 : Int32)), .unset] [])
  refine own_by (fun t k => XS.aloadN X0.here hx rfl (hb hby d1_0) rfl rfl k) ?_
  show ORun p e below s _ _ _ s₁ (mkF m 1 #[.val (.ref a1), .val (.int (5 : Int32)), .unset] [(.ref a1)])
  obtain ⟨T1, X1, e1, st1⟩ := initO X0 hx hZ hown (hw _ (List.mem_of_getElem? (i := 6) rfl)) (hw _ (List.mem_of_getElem? (i := 7) rfl)) (hw _ (List.mem_of_getElem? (i := 8) rfl)) e0 (g := (mkF m 1 #[.val (.ref a1), .val (.int (5 : Int32)), .unset] [(.ref a1)])) rfl (by rw [hml]; rfl) rfl (hb hby d1_1) (by decide) (W := 0) (by show 2 * 0 + _ ≤ _; exact Nat.le_of_eq rfl) (by decide)
  refine own_by st1 ?_
  show ORun p e below s _ _ _ T1 (mkF m 4 #[.val (.ref a1), .val (.int (5 : Int32)), .unset] [])
  refine own_by (fun t k => XS.aloadN X1.here hx rfl (hb hby d1_4) rfl rfl k) ?_
  show ORun p e below s _ _ _ T1 (mkF m 5 #[.val (.ref a1), .val (.int (5 : Int32)), .unset] [(.ref a1)])
  refine own_by (fun t k => XS.iloadN X1.here hx rfl (hb hby d1_5) rfl k) ?_
  show ORun p e below s _ _ _ T1 (mkF m 6 #[.val (.ref a1), .val (.int (5 : Int32)), .unset] [(.int (5 : Int32)), (.ref a1)])
  refine own_newarray X1 hx hZ (aty := .int) (hw _ (List.mem_of_getElem? (i := 9) rfl)) e1 rfl (N := 5) (cap := 5) (by decide) (Nat.le_refl _) (by decide) (by decide) (by decide) (ad := "[I") (by decide) (hb hby d1_6) ?_
  intro T2 h2 b2 L2 g2 X2 e2 E2 hL2 V2 Ex2
  have len2 : L2.length = 5 := by rw [hL2]; exact List.length_replicate
  have old_b2 : n0 ≤ b2 := Nat.le_trans Z0 (Nat.le_of_eq g2.symm)
  have sz_b2 : h0.size ≤ b2 := Nat.le_trans (Nat.le_refl h0.size) (Nat.le_of_eq g2.symm)
  have ne_a1_b2 : a1 ≠ b2 := Nat.ne_of_lt (Nat.lt_of_lt_of_le E_a1.lt (Nat.le_of_eq g2.symm))
  obtain rfl : [(0 : Int32), (0 : Int32), (0 : Int32), (0 : Int32), (0 : Int32)] = L2 := hL2.symm
  show ORun p e below s _ _ _ T2 (mkF m 8 #[.val (.ref a1), .val (.int (5 : Int32)), .unset] [(.ref b2), (.ref a1)])
  obtain ⟨T3, h3, X3, e3, W3, st3⟩ := putF X2 hx hZ hown (host := "") (Or.inl (hw _ (List.mem_of_getElem? (i := 10) rfl))) Via.refl e2 (F_parents_a1.ext E2) (E_a1.ext E2) (Or.inr ⟨(hw _ (List.mem_of_getElem? (i := 11) rfl)), rfl, hnm⟩) (hw _ (List.mem_of_getElem? (i := 1) rfl)) (ty := (.array .int)) (by decide) rfl rfl (g := (mkF m 8 #[.val (.ref a1), .val (.int (5 : Int32)), .unset] [(.ref b2), (.ref a1)])) rfl rfl (hb hby d1_8)
  have Fw3 := Fld.same W3 (F_parents_a1.ext E2)
  have N3 := Fr.snoc X3 N0 g_a1
  refine own_by st3 ?_
  show ORun p e below s _ _ _ T3 (mkF m 11 #[.val (.ref a1), .val (.int (5 : Int32)), .unset] [])
  refine own_by (fun t k => XS.iconst X3.here hx rfl (hb hby d1_11) k) ?_
  show ORun p e below s _ _ _ T3 (mkF m 12 #[.val (.ref a1), .val (.int (5 : Int32)), .unset] [(.int (0 : Int32))])
  refine own_by (fun t k => XS.istoreN X3.here hx rfl (hb hby d1_12) rfl (l' := #[.val (.ref a1), .val (.int (5 : Int32)), .val (.int (0 : Int32))]) rfl k) ?_
  show ORun p e below s _ _ _ T3 (mkF m 13 #[.val (.ref a1), .val (.int (5 : Int32)), .val (.int (0 : Int32))] [])
  refine own_by (fun t k => XS.iloadN X3.here hx rfl (hb hby d1_13) rfl k) ?_
  show ORun p e below s _ _ _ T3 (mkF m 14 #[.val (.ref a1), .val (.int (5 : Int32)), .val (.int (0 : Int32))] [(.int (0 : Int32))])
  refine own_by (fun t k => XS.iloadN X3.here hx rfl (hb hby d1_14) rfl k) ?_
  show ORun p e below s _ _ _ T3 (mkF m 15 #[.val (.ref a1), .val (.int (5 : Int32)), .val (.int (0 : Int32))] [(.int (5 : Int32)), (.int (0 : Int32))])
  refine own_by (fun t k => XS.icmpNo X3.here hx rfl (hb hby d1_15) rfl (tlt (by decide)).2.1 k) ?_
  show ORun p e below s _ _ _ T3 (mkF m 18 #[.val (.ref a1), .val (.int (5 : Int32)), .val (.int (0 : Int32))] [])
  refine own_by (fun t k => XS.aloadN X3.here hx rfl (hb hby d1_18) rfl rfl k) ?_
  show ORun p e below s _ _ _ T3 (mkF m 19 #[.val (.ref a1), .val (.int (5 : Int32)), .val (.int (0 : Int32))] [(.ref a1)])
  obtain ⟨T4, X4, e4, st4⟩ := getF X3 hx hZ hown (host := "") (Or.inl (hw _ (List.mem_of_getElem? (i := 10) rfl))) Via.refl e3 Fw3 (g := (mkF m 19 #[.val (.ref a1), .val (.int (5 : Int32)), .val (.int (0 : Int32))] [(.ref a1)])) rfl rfl (hb hby d1_19)
  refine own_by st4 ?_
  show ORun p e below s _ _ _ T4 (mkF m 22 #[.val (.ref a1), .val (.int (5 : Int32)), .val (.int (0 : Int32))] [(.ref b2)])
  refine own_by (fun t k => XS.iloadN X4.here hx rfl (hb hby d1_22) rfl k) ?_
  show ORun p e below s _ _ _ T4 (mkF m 23 #[.val (.ref a1), .val (.int (5 : Int32)), .val (.int (0 : Int32))] [(.int (0 : Int32)), (.ref b2)])
  refine own_by (fun t k => XS.iloadN X4.here hx rfl (hb hby d1_23) rfl k) ?_
  show ORun p e below s _ _ _ T4 (mkF m 24 #[.val (.ref a1), .val (.int (5 : Int32)), .val (.int (0 : Int32))] [(.int (0 : Int32)), (.int (0 : Int32)), (.ref b2)])
  refine own_iastore X4 hx hZ e4 (V2.other W3 (Ne.symm ne_a1_b2)) (i := 0) (by decide) (by omega) (hb hby d1_24) ?_
  intro T5 h5 L5 X5 e5 W5 hL5 V5
  have len5 : L5.length = 5 := by rw [hL5, List.length_set]; exact len2
  have N5 := Fr.snoc X5 N3 old_b2
  obtain rfl : [(0 : Int32), (0 : Int32), (0 : Int32), (0 : Int32), (0 : Int32)] = L5 := hL5.symm
  show ORun p e below s _ _ _ T5 (mkF m 25 #[.val (.ref a1), .val (.int (5 : Int32)), .val (.int (0 : Int32))] [])
  refine own_by (fun t k => XS.iinc X5.here hx rfl (hb hby d1_25) rfl (l' := #[.val (.ref a1), .val (.int (5 : Int32)), .val (.int (1 : Int32))]) rfl k) ?_
  show ORun p e below s _ _ _ T5 (mkF m 28 #[.val (.ref a1), .val (.int (5 : Int32)), .val (.int (1 : Int32))] [])
  refine own_by (fun t k => XS.goto X5.here hx rfl (pc0 := 28) (pc' := 13) rfl (hb hby d1_28) (by decide) (by decide) k) ?_
  show ORun p e below s _ _ _ T5 (mkF m 13 #[.val (.ref a1), .val (.int (5 : Int32)), .val (.int (1 : Int32))] [])
  refine own_by (fun t k => XS.iloadN X5.here hx rfl (hb hby d1_13) rfl k) ?_
  show ORun p e below s _ _ _ T5 (mkF m 14 #[.val (.ref a1), .val (.int (5 : Int32)), .val (.int (1 : Int32))] [(.int (1 : Int32))])
  refine own_by (fun t k => XS.iloadN X5.here hx rfl (hb hby d1_14) rfl k) ?_
  show ORun p e below s _ _ _ T5 (mkF m 15 #[.val (.ref a1), .val (.int (5 : Int32)), .val (.int (1 : Int32))] [(.int (5 : Int32)), (.int (1 : Int32))])
  refine own_by (fun t k => XS.icmpNo X5.here hx rfl (hb hby d1_15) rfl (tlt (by decide)).2.1 k) ?_
  show ORun p e below s _ _ _ T5 (mkF m 18 #[.val (.ref a1), .val (.int (5 : Int32)), .val (.int (1 : Int32))] [])
  refine own_by (fun t k => XS.aloadN X5.here hx rfl (hb hby d1_18) rfl rfl k) ?_
  show ORun p e below s _ _ _ T5 (mkF m 19 #[.val (.ref a1), .val (.int (5 : Int32)), .val (.int (1 : Int32))] [(.ref a1)])
  obtain ⟨T6, X6, e6, st6⟩ := getF X5 hx hZ hown (host := "") (Or.inl (hw _ (List.mem_of_getElem? (i := 10) rfl))) Via.refl e5 (Fw3.other W5 (Or.inl ne_a1_b2)) (g := (mkF m 19 #[.val (.ref a1), .val (.int (5 : Int32)), .val (.int (1 : Int32))] [(.ref a1)])) rfl rfl (hb hby d1_19)
  refine own_by st6 ?_
  show ORun p e below s _ _ _ T6 (mkF m 22 #[.val (.ref a1), .val (.int (5 : Int32)), .val (.int (1 : Int32))] [(.ref b2)])
  refine own_by (fun t k => XS.iloadN X6.here hx rfl (hb hby d1_22) rfl k) ?_
  show ORun p e below s _ _ _ T6 (mkF m 23 #[.val (.ref a1), .val (.int (5 : Int32)), .val (.int (1 : Int32))] [(.int (1 : Int32)), (.ref b2)])
  refine own_by (fun t k => XS.iloadN X6.here hx rfl (hb hby d1_23) rfl k) ?_
  show ORun p e below s _ _ _ T6 (mkF m 24 #[.val (.ref a1), .val (.int (5 : Int32)), .val (.int (1 : Int32))] [(.int (1 : Int32)), (.int (1 : Int32)), (.ref b2)])
  refine own_iastore X6 hx hZ e6 V5 (i := 1) (by decide) (by omega) (hb hby d1_24) ?_
  intro T7 h7 L7 X7 e7 W7 hL7 V7
  have len7 : L7.length = 5 := by rw [hL7, List.length_set]; exact len5
  have N7 := Fr.snoc X7 N5 old_b2
  obtain rfl : [(0 : Int32), (1 : Int32), (0 : Int32), (0 : Int32), (0 : Int32)] = L7 := hL7.symm
  show ORun p e below s _ _ _ T7 (mkF m 25 #[.val (.ref a1), .val (.int (5 : Int32)), .val (.int (1 : Int32))] [])
  refine own_by (fun t k => XS.iinc X7.here hx rfl (hb hby d1_25) rfl (l' := #[.val (.ref a1), .val (.int (5 : Int32)), .val (.int (2 : Int32))]) rfl k) ?_
  show ORun p e below s _ _ _ T7 (mkF m 28 #[.val (.ref a1), .val (.int (5 : Int32)), .val (.int (2 : Int32))] [])
  refine own_by (fun t k => XS.goto X7.here hx rfl (pc0 := 28) (pc' := 13) rfl (hb hby d1_28) (by decide) (by decide) k) ?_
  show ORun p e below s _ _ _ T7 (mkF m 13 #[.val (.ref a1), .val (.int (5 : Int32)), .val (.int (2 : Int32))] [])
  refine own_by (fun t k => XS.iloadN X7.here hx rfl (hb hby d1_13) rfl k) ?_
  show ORun p e below s _ _ _ T7 (mkF m 14 #[.val (.ref a1), .val (.int (5 : Int32)), .val (.int (2 : Int32))] [(.int (2 : Int32))])
  refine own_by (fun t k => XS.iloadN X7.here hx rfl (hb hby d1_14) rfl k) ?_
  show ORun p e below s _ _ _ T7 (mkF m 15 #[.val (.ref a1), .val (.int (5 : Int32)), .val (.int (2 : Int32))] [(.int (5 : Int32)), (.int (2 : Int32))])
  refine own_by (fun t k => XS.icmpNo X7.here hx rfl (hb hby d1_15) rfl (tlt (by decide)).2.1 k) ?_
  show ORun p e below s _ _ _ T7 (mkF m 18 #[.val (.ref a1), .val (.int (5 : Int32)), .val (.int (2 : Int32))] [])
  refine own_by (fun t k => XS.aloadN X7.here hx rfl (hb hby d1_18) rfl rfl k) ?_
  show ORun p e below s _ _ _ T7 (mkF m 19 #[.val (.ref a1), .val (.int (5 : Int32)), .val (.int (2 : Int32))] [(.ref a1)])
  obtain ⟨T8, X8, e8, st8⟩ := getF X7 hx hZ hown (host := "") (Or.inl (hw _ (List.mem_of_getElem? (i := 10) rfl))) Via.refl e7 ((Fw3.other W5 (Or.inl ne_a1_b2)).other W7 (Or.inl ne_a1_b2)) (g := (mkF m 19 #[.val (.ref a1), .val (.int (5 : Int32)), .val (.int (2 : Int32))] [(.ref a1)])) rfl rfl (hb hby d1_19)
  refine own_by st8 ?_
  show ORun p e below s _ _ _ T8 (mkF m 22 #[.val (.ref a1), .val (.int (5 : Int32)), .val (.int (2 : Int32))] [(.ref b2)])
  refine own_by (fun t k => XS.iloadN X8.here hx rfl (hb hby d1_22) rfl k) ?_
  show ORun p e below s _ _ _ T8 (mkF m 23 #[.val (.ref a1), .val (.int (5 : Int32)), .val (.int (2 : Int32))] [(.int (2 : Int32)), (.ref b2)])
  refine own_by (fun t k => XS.iloadN X8.here hx rfl (hb hby d1_23) rfl k) ?_
  show ORun p e below s _ _ _ T8 (mkF m 24 #[.val (.ref a1), .val (.int (5 : Int32)), .val (.int (2 : Int32))] [(.int (2 : Int32)), (.int (2 : Int32)), (.ref b2)])
  refine own_iastore X8 hx hZ e8 V7 (i := 2) (by decide) (by omega) (hb hby d1_24) ?_
  intro T9 h9 L9 X9 e9 W9 hL9 V9
  have len9 : L9.length = 5 := by rw [hL9, List.length_set]; exact len7
  have N9 := Fr.snoc X9 N7 old_b2
  obtain rfl : [(0 : Int32), (1 : Int32), (2 : Int32), (0 : Int32), (0 : Int32)] = L9 := hL9.symm
  show ORun p e below s _ _ _ T9 (mkF m 25 #[.val (.ref a1), .val (.int (5 : Int32)), .val (.int (2 : Int32))] [])
  refine own_by (fun t k => XS.iinc X9.here hx rfl (hb hby d1_25) rfl (l' := #[.val (.ref a1), .val (.int (5 : Int32)), .val (.int (3 : Int32))]) rfl k) ?_
  show ORun p e below s _ _ _ T9 (mkF m 28 #[.val (.ref a1), .val (.int (5 : Int32)), .val (.int (3 : Int32))] [])
  refine own_by (fun t k => XS.goto X9.here hx rfl (pc0 := 28) (pc' := 13) rfl (hb hby d1_28) (by decide) (by decide) k) ?_
  show ORun p e below s _ _ _ T9 (mkF m 13 #[.val (.ref a1), .val (.int (5 : Int32)), .val (.int (3 : Int32))] [])
  refine own_by (fun t k => XS.iloadN X9.here hx rfl (hb hby d1_13) rfl k) ?_
  show ORun p e below s _ _ _ T9 (mkF m 14 #[.val (.ref a1), .val (.int (5 : Int32)), .val (.int (3 : Int32))] [(.int (3 : Int32))])
  refine own_by (fun t k => XS.iloadN X9.here hx rfl (hb hby d1_14) rfl k) ?_
  show ORun p e below s _ _ _ T9 (mkF m 15 #[.val (.ref a1), .val (.int (5 : Int32)), .val (.int (3 : Int32))] [(.int (5 : Int32)), (.int (3 : Int32))])
  refine own_by (fun t k => XS.icmpNo X9.here hx rfl (hb hby d1_15) rfl (tlt (by decide)).2.1 k) ?_
  show ORun p e below s _ _ _ T9 (mkF m 18 #[.val (.ref a1), .val (.int (5 : Int32)), .val (.int (3 : Int32))] [])
  refine own_by (fun t k => XS.aloadN X9.here hx rfl (hb hby d1_18) rfl rfl k) ?_
  show ORun p e below s _ _ _ T9 (mkF m 19 #[.val (.ref a1), .val (.int (5 : Int32)), .val (.int (3 : Int32))] [(.ref a1)])
  obtain ⟨T10, X10, e10, st10⟩ := getF X9 hx hZ hown (host := "") (Or.inl (hw _ (List.mem_of_getElem? (i := 10) rfl))) Via.refl e9 (((Fw3.other W5 (Or.inl ne_a1_b2)).other W7 (Or.inl ne_a1_b2)).other W9 (Or.inl ne_a1_b2)) (g := (mkF m 19 #[.val (.ref a1), .val (.int (5 : Int32)), .val (.int (3 : Int32))] [(.ref a1)])) rfl rfl (hb hby d1_19)
  refine own_by st10 ?_
  show ORun p e below s _ _ _ T10 (mkF m 22 #[.val (.ref a1), .val (.int (5 : Int32)), .val (.int (3 : Int32))] [(.ref b2)])
  refine own_by (fun t k => XS.iloadN X10.here hx rfl (hb hby d1_22) rfl k) ?_
  show ORun p e below s _ _ _ T10 (mkF m 23 #[.val (.ref a1), .val (.int (5 : Int32)), .val (.int (3 : Int32))] [(.int (3 : Int32)), (.ref b2)])
  refine own_by (fun t k => XS.iloadN X10.here hx rfl (hb hby d1_23) rfl k) ?_
  show ORun p e below s _ _ _ T10 (mkF m 24 #[.val (.ref a1), .val (.int (5 : Int32)), .val (.int (3 : Int32))] [(.int (3 : Int32)), (.int (3 : Int32)), (.ref b2)])
  refine own_iastore X10 hx hZ e10 V9 (i := 3) (by decide) (by omega) (hb hby d1_24) ?_
  intro T11 h11 L11 X11 e11 W11 hL11 V11
  have len11 : L11.length = 5 := by rw [hL11, List.length_set]; exact len9
  have N11 := Fr.snoc X11 N9 old_b2
  obtain rfl : [(0 : Int32), (1 : Int32), (2 : Int32), (3 : Int32), (0 : Int32)] = L11 := hL11.symm
  show ORun p e below s _ _ _ T11 (mkF m 25 #[.val (.ref a1), .val (.int (5 : Int32)), .val (.int (3 : Int32))] [])
  refine own_by (fun t k => XS.iinc X11.here hx rfl (hb hby d1_25) rfl (l' := #[.val (.ref a1), .val (.int (5 : Int32)), .val (.int (4 : Int32))]) rfl k) ?_
  show ORun p e below s _ _ _ T11 (mkF m 28 #[.val (.ref a1), .val (.int (5 : Int32)), .val (.int (4 : Int32))] [])
  refine own_by (fun t k => XS.goto X11.here hx rfl (pc0 := 28) (pc' := 13) rfl (hb hby d1_28) (by decide) (by decide) k) ?_
  show ORun p e below s _ _ _ T11 (mkF m 13 #[.val (.ref a1), .val (.int (5 : Int32)), .val (.int (4 : Int32))] [])
  refine own_by (fun t k => XS.iloadN X11.here hx rfl (hb hby d1_13) rfl k) ?_
  show ORun p e below s _ _ _ T11 (mkF m 14 #[.val (.ref a1), .val (.int (5 : Int32)), .val (.int (4 : Int32))] [(.int (4 : Int32))])
  refine own_by (fun t k => XS.iloadN X11.here hx rfl (hb hby d1_14) rfl k) ?_
  show ORun p e below s _ _ _ T11 (mkF m 15 #[.val (.ref a1), .val (.int (5 : Int32)), .val (.int (4 : Int32))] [(.int (5 : Int32)), (.int (4 : Int32))])
  refine own_by (fun t k => XS.icmpNo X11.here hx rfl (hb hby d1_15) rfl (tlt (by decide)).2.1 k) ?_
  show ORun p e below s _ _ _ T11 (mkF m 18 #[.val (.ref a1), .val (.int (5 : Int32)), .val (.int (4 : Int32))] [])
  refine own_by (fun t k => XS.aloadN X11.here hx rfl (hb hby d1_18) rfl rfl k) ?_
  show ORun p e below s _ _ _ T11 (mkF m 19 #[.val (.ref a1), .val (.int (5 : Int32)), .val (.int (4 : Int32))] [(.ref a1)])
  obtain ⟨T12, X12, e12, st12⟩ := getF X11 hx hZ hown (host := "") (Or.inl (hw _ (List.mem_of_getElem? (i := 10) rfl))) Via.refl e11 ((((Fw3.other W5 (Or.inl ne_a1_b2)).other W7 (Or.inl ne_a1_b2)).other W9 (Or.inl ne_a1_b2)).other W11 (Or.inl ne_a1_b2)) (g := (mkF m 19 #[.val (.ref a1), .val (.int (5 : Int32)), .val (.int (4 : Int32))] [(.ref a1)])) rfl rfl (hb hby d1_19)
  refine own_by st12 ?_
  show ORun p e below s _ _ _ T12 (mkF m 22 #[.val (.ref a1), .val (.int (5 : Int32)), .val (.int (4 : Int32))] [(.ref b2)])
  refine own_by (fun t k => XS.iloadN X12.here hx rfl (hb hby d1_22) rfl k) ?_
  show ORun p e below s _ _ _ T12 (mkF m 23 #[.val (.ref a1), .val (.int (5 : Int32)), .val (.int (4 : Int32))] [(.int (4 : Int32)), (.ref b2)])
  refine own_by (fun t k => XS.iloadN X12.here hx rfl (hb hby d1_23) rfl k) ?_
  show ORun p e below s _ _ _ T12 (mkF m 24 #[.val (.ref a1), .val (.int (5 : Int32)), .val (.int (4 : Int32))] [(.int (4 : Int32)), (.int (4 : Int32)), (.ref b2)])
  refine own_iastore X12 hx hZ e12 V11 (i := 4) (by decide) (by omega) (hb hby d1_24) ?_
  intro T13 h13 L13 X13 e13 W13 hL13 V13
  have len13 : L13.length = 5 := by rw [hL13, List.length_set]; exact len11
  have N13 := Fr.snoc X13 N11 old_b2
  obtain rfl : [(0 : Int32), (1 : Int32), (2 : Int32), (3 : Int32), (4 : Int32)] = L13 := hL13.symm
  show ORun p e below s _ _ _ T13 (mkF m 25 #[.val (.ref a1), .val (.int (5 : Int32)), .val (.int (4 : Int32))] [])
  refine own_by (fun t k => XS.iinc X13.here hx rfl (hb hby d1_25) rfl (l' := #[.val (.ref a1), .val (.int (5 : Int32)), .val (.int (5 : Int32))]) rfl k) ?_
  show ORun p e below s _ _ _ T13 (mkF m 28 #[.val (.ref a1), .val (.int (5 : Int32)), .val (.int (5 : Int32))] [])
  refine own_by (fun t k => XS.goto X13.here hx rfl (pc0 := 28) (pc' := 13) rfl (hb hby d1_28) (by decide) (by decide) k) ?_
  show ORun p e below s _ _ _ T13 (mkF m 13 #[.val (.ref a1), .val (.int (5 : Int32)), .val (.int (5 : Int32))] [])
  refine own_by (fun t k => XS.iloadN X13.here hx rfl (hb hby d1_13) rfl k) ?_
  show ORun p e below s _ _ _ T13 (mkF m 14 #[.val (.ref a1), .val (.int (5 : Int32)), .val (.int (5 : Int32))] [(.int (5 : Int32))])
  refine own_by (fun t k => XS.iloadN X13.here hx rfl (hb hby d1_14) rfl k) ?_
  show ORun p e below s _ _ _ T13 (mkF m 15 #[.val (.ref a1), .val (.int (5 : Int32)), .val (.int (5 : Int32))] [(.int (5 : Int32)), (.int (5 : Int32))])
  refine own_by (fun t k => XS.icmpYes X13.here hx rfl (pc0 := 15) (pc' := 31) rfl (hb hby d1_15) rfl (flt (by decide)).2.1 (by decide) (by decide) k) ?_
  show ORun p e below s _ _ _ T13 (mkF m 31 #[.val (.ref a1), .val (.int (5 : Int32)), .val (.int (5 : Int32))] [])
  refine own_retV X13 hx hret hlk (hb hby d1_31) (by decide) (by decide) ?_
  rw [e13]
  exact ⟨rfl, N13, ((((((((Keep.refl h0 [a1]).ext E2).wr W3 (Or.inl (List.mem_of_getElem? (i := 0) rfl))).wr W5 (Or.inr sz_b2)).wr W7 (Or.inr sz_b2)).wr W9 (Or.inr sz_b2)).wr W11 (Or.inr sz_b2)).wr W13 (Or.inr sz_b2)), b2, sz_b2, (((((((E_a1.ext E2).wr W3).wr W5).wr W7).wr W9).wr W11).wr W13), (((((Fw3.other W5 (Or.inl ne_a1_b2)).other W7 (Or.inl ne_a1_b2)).other W9 (Or.inl ne_a1_b2)).other W11 (Or.inl ne_a1_b2)).other W13 (Or.inl ne_a1_b2)), V13⟩
theorem d11_0 : decode jdk_22_method_1_code 0 = .ok (.aload_n 0, 1) := by decide +kernel
theorem d11_1 : decode jdk_22_method_1_code 1 = .ok (.invokespecial 1, 3) := by decide +kernel
theorem d11_4 : decode jdk_22_method_1_code 4 = .ok (.return_, 1) := by decide +kernel
theorem pn_rm11 : plainName "java/util/AbstractCollection" = true := by first | (simp [plainName, overriddenIn]; done) | decide +kernel
theorem ef_rm11 (m : MethodId) (x0 : Addr) : entryFrame m #[(.ref x0)] 1 = mkF m 0 #[.val (.ref x0)] [] := by first | (simp [entryFrame, mkF, argsToLocals, Value.category]; done) | rfl
set_option maxRecDepth 65536 in
set_option maxHeartbeats 40000000 in
theorem rm11 (l : Launch) (Z : State) (a0 : Array Value) (hw : ∀ d ∈ tables_1, d.before a0 Z = true) (ws : List Jvm.Cond) (h0 : Heap) (n0 : Nat) (Z0 : n0 ≤ h0.size) (a1 : Addr) :
    OMet l (⟨"java/util/AbstractCollection", "<init>", "()V"⟩ : MethodName) jdk_22_method_1_code 1 none ws ({ frames := 1, cells := 0, slots := 0, locals := 20 } : Room) #[(.ref a1)] Z h0 (fun v h L' => v = none ∧ Fr n0 L' ∧ h = h0) := by
  refine own_met (plainFor_of_name pn_rm11) ?_
  intro p e s m below meth c s₁ X0 hx hby hml hown hnm hret hlk hZ e0
  rw [ef_rm11]
  have N0 := Fr.nil n0
  show ORun p e below s _ _ _ s₁ (mkF m 0 #[.val (.ref a1)] [])
  refine own_by (fun t k => XS.aloadN X0.here hx rfl (hb hby d11_0) rfl rfl k) ?_
  show ORun p e below s _ _ _ s₁ (mkF m 1 #[.val (.ref a1)] [(.ref a1)])
  obtain ⟨T1, X1, e1, st1⟩ := initO X0 hx hZ hown (hw _ (List.mem_of_getElem? (i := 55) rfl)) (hw _ (List.mem_of_getElem? (i := 7) rfl)) (hw _ (List.mem_of_getElem? (i := 8) rfl)) e0 (g := (mkF m 1 #[.val (.ref a1)] [(.ref a1)])) rfl (by rw [hml]; rfl) rfl (hb hby d11_1) (by decide) (W := 0) (by show 2 * 0 + _ ≤ _; exact Nat.le_of_eq rfl) (by decide)
  refine own_by st1 ?_
  show ORun p e below s _ _ _ T1 (mkF m 4 #[.val (.ref a1)] [])
  refine own_retV X1 hx hret hlk (hb hby d11_4) (by decide) (by decide) ?_
  exact ⟨rfl, N0, e1⟩
theorem d10_0 : decode jdk_39_method_1_code 0 = .ok (.aload_n 0, 1) := by decide +kernel
theorem d10_1 : decode jdk_39_method_1_code 1 = .ok (.invokespecial 1, 3) := by decide +kernel
theorem d10_4 : decode jdk_39_method_1_code 4 = .ok (.aload_n 0, 1) := by decide +kernel
theorem d10_5 : decode jdk_39_method_1_code 5 = .ok (.iconst 0, 1) := by decide +kernel
theorem d10_6 : decode jdk_39_method_1_code 6 = .ok (.putfield 7, 3) := by decide +kernel
theorem d10_9 : decode jdk_39_method_1_code 9 = .ok (.return_, 1) := by decide +kernel
theorem pn_rm10 : plainName "java/util/AbstractList" = true := by first | (simp [plainName, overriddenIn]; done) | decide +kernel
theorem ef_rm10 (m : MethodId) (x0 : Addr) : entryFrame m #[(.ref x0)] 1 = mkF m 0 #[.val (.ref x0)] [] := by first | (simp [entryFrame, mkF, argsToLocals, Value.category]; done) | rfl
set_option maxRecDepth 65536 in
set_option maxHeartbeats 40000000 in
theorem rm10 (l : Launch) (Z : State) (a0 : Array Value) (hw : ∀ d ∈ tables_1, d.before a0 Z = true) (ws : List Jvm.Cond) (h0 : Heap) (n0 : Nat) (Z0 : n0 ≤ h0.size) (a1 : Addr) (E_a1 : Exa Z h0 a1 "java/util/ArrayList") (g_a1 : n0 ≤ a1) (Fe : Fld Z h0 a1 "java/util/ArrayList" "elementData" "[Ljava/lang/Object;" .null) (Fs : Fld Z h0 a1 "java/util/ArrayList" "size" "I" (.int 0)) (Fm : Fld Z h0 a1 "java/util/AbstractList" "modCount" "I" (.int 0)) :
    OMet l (⟨"java/util/AbstractList", "<init>", "()V"⟩ : MethodName) jdk_39_method_1_code 1 none ws ({ frames := 2, cells := 0, slots := 0, locals := 40 } : Room) #[(.ref a1)] Z h0 (fun v h L' => v = none ∧ Fr n0 L' ∧ Keep h0 h [a1] ∧ Exa Z h a1 "java/util/ArrayList" ∧ Fld Z h a1 "java/util/ArrayList" "elementData" "[Ljava/lang/Object;" .null ∧ Fld Z h a1 "java/util/ArrayList" "size" "I" (.int 0) ∧ Fld Z h a1 "java/util/AbstractList" "modCount" "I" (.int 0)) := by
  refine own_met (plainFor_of_name pn_rm10) ?_
  intro p e s m below meth c s₁ X0 hx hby hml hown hnm hret hlk hZ e0
  rw [ef_rm10]
  have N0 := Fr.nil n0
  show ORun p e below s _ _ _ s₁ (mkF m 0 #[.val (.ref a1)] [])
  refine own_by (fun t k => XS.aloadN X0.here hx rfl (hb hby d10_0) rfl rfl k) ?_
  show ORun p e below s _ _ _ s₁ (mkF m 1 #[.val (.ref a1)] [(.ref a1)])
  refine own_callC X0 hx hZ hown rfl (hw _ (List.mem_of_getElem? (i := 49) rfl)) (hw _ (List.mem_of_getElem? (i := 50) rfl)) (hw _ (List.mem_of_getElem? (i := 53) rfl)) (hw _ (List.mem_of_getElem? (i := 54) rfl)) (by decide) (rm11 l Z a0 hw [] h0 n0 Z0 a1) e0 (by decide) (W := 0) (by decide) (by decide) (by decide) (b := a1) (argsL := []) (rest := []) (by rw [hml]; rfl) (lenOf pd_4 rfl) rfl rfl (Nat.le_of_eq rfl) (hb hby d10_1) ?_
  intro T1 L1 u1 X1 hQ1
  obtain ⟨rfl, Nq1, e1⟩ := hQ1
  have N1 := Fr.app N0 Nq1
  show ORun p e below s _ _ _ T1 (mkF m 4 #[.val (.ref a1)] [])
  refine own_by (fun t k => XS.aloadN X1.here hx rfl (hb hby d10_4) rfl rfl k) ?_
  show ORun p e below s _ _ _ T1 (mkF m 5 #[.val (.ref a1)] [(.ref a1)])
  refine own_by (fun t k => XS.iconst X1.here hx rfl (hb hby d10_5) k) ?_
  show ORun p e below s _ _ _ T1 (mkF m 6 #[.val (.ref a1)] [(.int (0 : Int32)), (.ref a1)])
  obtain ⟨T2, h2, X2, e2, W2, st2⟩ := putF X1 hx hZ hown (host := "") (Or.inl (hw _ (List.mem_of_getElem? (i := 56) rfl))) Via.refl e1 Fm E_a1 (Or.inl (hw _ (List.mem_of_getElem? (i := 57) rfl))) (hw _ (List.mem_of_getElem? (i := 38) rfl)) (ty := .int) (by decide) rfl rfl (g := (mkF m 6 #[.val (.ref a1)] [(.int (0 : Int32)), (.ref a1)])) rfl rfl (hb hby d10_6)
  have Fw2 := Fld.same W2 Fm
  have N2 := Fr.snoc X2 N1 g_a1
  refine own_by st2 ?_
  show ORun p e below s _ _ _ T2 (mkF m 9 #[.val (.ref a1)] [])
  refine own_retV X2 hx hret hlk (hb hby d10_9) (by decide) (by decide) ?_
  rw [e2]
  exact ⟨rfl, N2, ((Keep.refl h0 [a1]).wr W2 (Or.inl (List.mem_of_getElem? (i := 0) rfl))), (E_a1.wr W2), (Fe.other W2 (Or.inr (slot_ne (Or.inl (hw _ (List.mem_of_getElem? (i := 60) rfl))) (Or.inl (hw _ (List.mem_of_getElem? (i := 57) rfl))) (by decide) (t := (.array (.object "java/lang/Object"))) (t' := .int) (by decide) (by decide)))), (Fs.other W2 (Or.inr (slot_ne (Or.inl (hw _ (List.mem_of_getElem? (i := 76) rfl))) (Or.inl (hw _ (List.mem_of_getElem? (i := 57) rfl))) (by decide) (t := .int) (t' := .int) (by decide) (by decide)))), Fw2⟩
theorem d9_0 : decode jdk_38_method_2_code 0 = .ok (.aload_n 0, 1) := by decide +kernel
theorem d9_1 : decode jdk_38_method_2_code 1 = .ok (.invokespecial 1, 3) := by decide +kernel
theorem d9_4 : decode jdk_38_method_2_code 4 = .ok (.aload_n 0, 1) := by decide +kernel
theorem d9_5 : decode jdk_38_method_2_code 5 = .ok (.getstatic 39, 3) := by decide +kernel
theorem d9_8 : decode jdk_38_method_2_code 8 = .ok (.putfield 9, 3) := by decide +kernel
theorem d9_11 : decode jdk_38_method_2_code 11 = .ok (.return_, 1) := by decide +kernel
theorem pn_rm9 : plainName "java/util/ArrayList" = true := by first | (simp [plainName, overriddenIn]; done) | decide +kernel
theorem ef_rm9 (m : MethodId) (x0 : Addr) : entryFrame m #[(.ref x0)] 1 = mkF m 0 #[.val (.ref x0)] [] := by first | (simp [entryFrame, mkF, argsToLocals, Value.category]; done) | rfl
set_option maxRecDepth 65536 in
set_option maxHeartbeats 40000000 in
theorem rm9 (l : Launch) (Z : State) (a0 : Array Value) (hw : ∀ d ∈ tables_1, d.before a0 Z = true) (ws : List Jvm.Cond) (h0 : Heap) (n0 : Nat) (Z0 : n0 ≤ h0.size) (a1 de : Addr) (Sd : Sta Z h0 "java/util/ArrayList" "DEFAULTCAPACITY_EMPTY_ELEMENTDATA" "[Ljava/lang/Object;" (.ref de)) (E_a1 : Exa Z h0 a1 "java/util/ArrayList") (g_a1 : n0 ≤ a1) (Fe : Fld Z h0 a1 "java/util/ArrayList" "elementData" "[Ljava/lang/Object;" .null) (Fs : Fld Z h0 a1 "java/util/ArrayList" "size" "I" (.int 0)) (Fm : Fld Z h0 a1 "java/util/AbstractList" "modCount" "I" (.int 0)) :
    OMet l (⟨"java/util/ArrayList", "<init>", "()V"⟩ : MethodName) jdk_38_method_2_code 1 none ws ({ frames := 3, cells := 0, slots := 0, locals := 60 } : Room) #[(.ref a1)] Z h0 (fun v h L' => v = none ∧ Fr n0 L' ∧ Keep h0 h [a1] ∧ Exa Z h a1 "java/util/ArrayList" ∧ Fld Z h a1 "java/util/ArrayList" "elementData" "[Ljava/lang/Object;" (.ref de) ∧ Fld Z h a1 "java/util/ArrayList" "size" "I" (.int 0) ∧ Fld Z h a1 "java/util/AbstractList" "modCount" "I" (.int 0)) := by
  refine own_met (plainFor_of_name pn_rm9) ?_
  intro p e s m below meth c s₁ X0 hx hby hml hown hnm hret hlk hZ e0
  rw [ef_rm9]
  have N0 := Fr.nil n0
  show ORun p e below s _ _ _ s₁ (mkF m 0 #[.val (.ref a1)] [])
  refine own_by (fun t k => XS.aloadN X0.here hx rfl (hb hby d9_0) rfl rfl k) ?_
  show ORun p e below s _ _ _ s₁ (mkF m 1 #[.val (.ref a1)] [(.ref a1)])
  refine own_callC X0 hx hZ hown rfl (hw _ (List.mem_of_getElem? (i := 43) rfl)) (hw _ (List.mem_of_getElem? (i := 44) rfl)) (hw _ (List.mem_of_getElem? (i := 47) rfl)) (hw _ (List.mem_of_getElem? (i := 48) rfl)) (by decide) (rm10 l Z a0 hw [] h0 n0 Z0 a1 E_a1 g_a1 Fe Fs Fm) e0 (by decide) (W := 0) (by decide) (by decide) (by decide) (b := a1) (argsL := []) (rest := []) (by rw [hml]; rfl) (lenOf pd_4 rfl) rfl rfl (Nat.le_of_eq rfl) (hb hby d9_1) ?_
  intro T1 L1 u1 X1 hQ1
  obtain ⟨rfl, Nq1, K1, En1, Fe1, Fs1, Fm1⟩ := hQ1
  have N1 := Fr.app N0 Nq1
  show ORun p e below s _ _ _ T1 (mkF m 4 #[.val (.ref a1)] [])
  refine own_by (fun t k => XS.aloadN X1.here hx rfl (hb hby d9_4) rfl rfl k) ?_
  show ORun p e below s _ _ _ T1 (mkF m 5 #[.val (.ref a1)] [(.ref a1)])
  obtain ⟨T2, X2, e2, st2⟩ := getS2 X1 hx hZ hown (host := "") (Or.inl (hw _ (List.mem_of_getElem? (i := 58) rfl))) Via.refl rfl (own_staK Sd K1 (nsS (own_nsE E_a1) ns0)) (g := (mkF m 5 #[.val (.ref a1)] [(.ref a1)])) rfl (hb hby d9_5)
  refine own_by st2 ?_
  show ORun p e below s _ _ _ T2 (mkF m 8 #[.val (.ref a1)] [(.ref de), (.ref a1)])
  obtain ⟨T3, h3, X3, e3, W3, st3⟩ := putF X2 hx hZ hown (host := "") (Or.inl (hw _ (List.mem_of_getElem? (i := 59) rfl))) Via.refl e2 Fe1 En1 (Or.inl (hw _ (List.mem_of_getElem? (i := 60) rfl))) (hw _ (List.mem_of_getElem? (i := 38) rfl)) (ty := (.array (.object "java/lang/Object"))) (by decide) rfl rfl (g := (mkF m 8 #[.val (.ref a1)] [(.ref de), (.ref a1)])) rfl rfl (hb hby d9_8)
  have Fw3 := Fld.same W3 Fe1
  have N3 := Fr.snoc X3 N1 g_a1
  refine own_by st3 ?_
  show ORun p e below s _ _ _ T3 (mkF m 11 #[.val (.ref a1)] [])
  refine own_retV X3 hx hret hlk (hb hby d9_11) (by decide) (by decide) ?_
  rw [e3]
  exact ⟨rfl, N3, (((Keep.refl h0 [a1]).trans K1 (allS (Or.inl (List.mem_of_getElem? (i := 0) rfl)) all0)).wr W3 (Or.inl (List.mem_of_getElem? (i := 0) rfl))), (En1.wr W3), Fw3, (Fs1.other W3 (Or.inr (slot_ne (Or.inl (hw _ (List.mem_of_getElem? (i := 76) rfl))) (Or.inl (hw _ (List.mem_of_getElem? (i := 60) rfl))) (by decide) (t := .int) (t' := (.array (.object "java/lang/Object"))) (by decide) (by decide)))), (Fm1.other W3 (Or.inr (slot_ne (Or.inl (hw _ (List.mem_of_getElem? (i := 57) rfl))) (Or.inl (hw _ (List.mem_of_getElem? (i := 60) rfl))) (by decide) (t := .int) (t' := (.array (.object "java/lang/Object"))) (by decide) (by decide))))⟩
theorem d16_0 : decode jdk_29_method_65_code 0 = .ok (.iload_n 0, 1) := by decide +kernel
theorem d16_1 : decode jdk_29_method_65_code 1 = .ok (.iload_n 1, 1) := by decide +kernel
theorem d16_2 : decode jdk_29_method_65_code 2 = .ok (.if_icmp .lt 7, 3) := by decide +kernel
theorem d16_5 : decode jdk_29_method_65_code 5 = .ok (.iload_n 0, 1) := by decide +kernel
theorem d16_6 : decode jdk_29_method_65_code 6 = .ok (.goto 4, 3) := by decide +kernel
theorem d16_9 : decode jdk_29_method_65_code 9 = .ok (.iload_n 1, 1) := by decide +kernel
theorem d16_10 : decode jdk_29_method_65_code 10 = .ok (.ireturn, 1) := by decide +kernel
theorem pn_rm16 : plainFor (⟨"java/lang/Math", "max", "(II)I"⟩ : MethodName) = true := Jvm.Free.JP.mathPlain rfl (by decide +kernel)
theorem ef_rm16 (m : MethodId) (x0 : Int32) (x1 : Int32) : entryFrame m #[(.int x0), (.int x1)] 2 = mkF m 0 #[.val (.int x0), .val (.int x1)] [] := by first | (simp [entryFrame, mkF, argsToLocals, Value.category]; done) | rfl
set_option maxRecDepth 65536 in
set_option maxHeartbeats 40000000 in
theorem rm16 (l : Launch) (Z : State) (a0 : Array Value) (hw : ∀ d ∈ tables_1, d.before a0 Z = true) (ws : List Jvm.Cond) (h0 : Heap) (n0 : Nat) (Z0 : n0 ≤ h0.size) (p1 p2 : Int32) :
    OMet l (⟨"java/lang/Math", "max", "(II)I"⟩ : MethodName) jdk_29_method_65_code 2 (some .int) ws ({ frames := 0, cells := 0, slots := 0, locals := 0 } : Room) #[(.int p1), (.int p2)] Z h0 (fun v h L' => ∃ r : Int32, v = some (.int r) ∧ ((r.toInt = p1.toInt ∧ p2.toInt ≤ p1.toInt) ∨ (r.toInt = p2.toInt ∧ p1.toInt ≤ p2.toInt)) ∧ Fr n0 L' ∧ h = h0) := by
  refine own_met pn_rm16 ?_
  intro p e s m below meth c s₁ X0 hx hby hml hown hnm hret hlk hZ e0
  rw [ef_rm16]
  have N0 := Fr.nil n0
  have rg_p1 := rng32 p1
  have rg_p2 := rng32 p2
  show ORun p e below s _ _ _ s₁ (mkF m 0 #[.val (.int p1), .val (.int p2)] [])
  refine own_by (fun t k => XS.iloadN X0.here hx rfl (hb hby d16_0) rfl k) ?_
  show ORun p e below s _ _ _ s₁ (mkF m 1 #[.val (.int p1), .val (.int p2)] [(.int p1)])
  refine own_by (fun t k => XS.iloadN X0.here hx rfl (hb hby d16_1) rfl k) ?_
  show ORun p e below s _ _ _ s₁ (mkF m 2 #[.val (.int p1), .val (.int p2)] [(.int p2), (.int p1)])
  by_cases hc1 : p1 < p2
  · have t1 := own_lt hc1 (a := p1.toInt) (b := p2.toInt) rfl rfl
    refine own_by (fun t k => XS.icmpYes X0.here hx rfl (pc0 := 2) (pc' := 9) rfl (hb hby d16_2) rfl (tlt hc1).1 (by decide) (by decide) k) ?_
    show ORun p e below s _ _ _ s₁ (mkF m 9 #[.val (.int p1), .val (.int p2)] [])
    refine own_by (fun t k => XS.iloadN X0.here hx rfl (hb hby d16_9) rfl k) ?_
    show ORun p e below s _ _ _ s₁ (mkF m 10 #[.val (.int p1), .val (.int p2)] [(.int p2)])
    refine own_retI X0 hx hret hlk (hb hby d16_10) (by decide) (by decide) ?_
    exact ⟨p2, rfl, by omega, N0, e0⟩
  · have t1 := own_nlt hc1 (a := p1.toInt) (b := p2.toInt) rfl rfl
    refine own_by (fun t k => XS.icmpNo X0.here hx rfl (hb hby d16_2) rfl (flt hc1).1 k) ?_
    show ORun p e below s _ _ _ s₁ (mkF m 5 #[.val (.int p1), .val (.int p2)] [])
    refine own_by (fun t k => XS.iloadN X0.here hx rfl (hb hby d16_5) rfl k) ?_
    show ORun p e below s _ _ _ s₁ (mkF m 6 #[.val (.int p1), .val (.int p2)] [(.int p1)])
    refine own_by (fun t k => XS.goto X0.here hx rfl (pc0 := 6) (pc' := 10) rfl (hb hby d16_6) (by decide) (by decide) k) ?_
    show ORun p e below s _ _ _ s₁ (mkF m 10 #[.val (.int p1), .val (.int p2)] [(.int p1)])
    refine own_retI X0 hx hret hlk (hb hby d16_10) (by decide) (by decide) ?_
    exact ⟨p1, rfl, by omega, N0, e0⟩
theorem d15_0 : decode jdk_38_method_6_code 0 = .ok (.aload_n 0, 1) := by decide +kernel
theorem d15_1 : decode jdk_38_method_6_code 1 = .ok (.getfield 9, 3) := by decide +kernel
theorem d15_4 : decode jdk_38_method_6_code 4 = .ok (.arraylength, 1) := by decide +kernel
theorem d15_5 : decode jdk_38_method_6_code 5 = .ok (.istore_n 2, 1) := by decide +kernel
theorem d15_6 : decode jdk_38_method_6_code 6 = .ok (.iload_n 2, 1) := by decide +kernel
theorem d15_7 : decode jdk_38_method_6_code 7 = .ok (.ifCond .gt 13, 3) := by decide +kernel
theorem d15_10 : decode jdk_38_method_6_code 10 = .ok (.aload_n 0, 1) := by decide +kernel
theorem d15_11 : decode jdk_38_method_6_code 11 = .ok (.getfield 9, 3) := by decide +kernel
theorem d15_14 : decode jdk_38_method_6_code 14 = .ok (.getstatic 39, 3) := by decide +kernel
theorem d15_17 : decode jdk_38_method_6_code 17 = .ok (.if_acmp .eq 28, 3) := by decide +kernel
theorem d15_45 : decode jdk_38_method_6_code 45 = .ok (.aload_n 0, 1) := by decide +kernel
theorem d15_46 : decode jdk_38_method_6_code 46 = .ok (.bipush 10, 2) := by decide +kernel
theorem d15_48 : decode jdk_38_method_6_code 48 = .ok (.iload_n 1, 1) := by decide +kernel
theorem d15_49 : decode jdk_38_method_6_code 49 = .ok (.invokestatic 79, 3) := by decide +kernel
theorem d15_52 : decode jdk_38_method_6_code 52 = .ok (.anewarray 7, 3) := by decide +kernel
theorem d15_55 : decode jdk_38_method_6_code 55 = .ok (.dup_x1, 1) := by decide +kernel
theorem d15_56 : decode jdk_38_method_6_code 56 = .ok (.putfield 9, 3) := by decide +kernel
theorem d15_59 : decode jdk_38_method_6_code 59 = .ok (.areturn, 1) := by decide +kernel
theorem pn_rm15 : plainName "java/util/ArrayList" = true := by first | (simp [plainName, overriddenIn]; done) | decide +kernel
theorem ef_rm15 (m : MethodId) (x0 : Addr) (x1 : Int32) : entryFrame m #[(.ref x0), (.int x1)] 4 = mkF m 0 #[.val (.ref x0), .val (.int x1), .unset, .unset] [] := by first | (simp [entryFrame, mkF, argsToLocals, Value.category]; done) | rfl
set_option maxRecDepth 65536 in
set_option maxHeartbeats 40000000 in
theorem rm15 (l : Launch) (Z : State) (a0 : Array Value) (hw : ∀ d ∈ tables_1, d.before a0 Z = true) (ws : List Jvm.Cond) (h0 : Heap) (n0 : Nat) (Z0 : n0 ≤ h0.size) (a1 de : Addr) (mc : Int32) (Sd : Sta Z h0 "java/util/ArrayList" "DEFAULTCAPACITY_EMPTY_ELEMENTDATA" "[Ljava/lang/Object;" (.ref de)) (Vd : OVecR Z h0 de "java/lang/Object" []) (E_a1 : Exa Z h0 a1 "java/util/ArrayList") (g_a1 : n0 ≤ a1) (Fe : Fld Z h0 a1 "java/util/ArrayList" "elementData" "[Ljava/lang/Object;" (.ref de)) (Fs : Fld Z h0 a1 "java/util/ArrayList" "size" "I" (.int 0)) (Fm : Fld Z h0 a1 "java/util/AbstractList" "modCount" "I" (.int mc)) (ned : de ≠ a1) :
    OMet l (⟨"java/util/ArrayList", "grow", "(I)[Ljava/lang/Object;"⟩ : MethodName) jdk_38_method_6_code 4 (some (.array (.object "java/lang/Object"))) ws ({ frames := 1, cells := 1, slots := 10, locals := 20 } : Room) #[(.ref a1), (.int (1 : Int32))] Z h0 (fun v h L' => ∃ ed : Addr, v = some (.ref ed) ∧ Fr n0 L' ∧ Keep h0 h [a1] ∧ h0.size ≤ ed ∧ Exa Z h a1 "java/util/ArrayList" ∧ Fld Z h a1 "java/util/ArrayList" "elementData" "[Ljava/lang/Object;" (.ref ed) ∧ Fld Z h a1 "java/util/ArrayList" "size" "I" (.int 0) ∧ Fld Z h a1 "java/util/AbstractList" "modCount" "I" (.int mc) ∧ OVecR Z h ed "java/lang/Object" (List.replicate 10 .null)) := by
  refine own_met (plainFor_of_name pn_rm15) ?_
  intro p e s m below meth c s₁ X0 hx hby hml hown hnm hret hlk hZ e0
  rw [ef_rm15]
  have N0 := Fr.nil n0
  show ORun p e below s _ _ _ s₁ (mkF m 0 #[.val (.ref a1), .val (.int (1 : Int32)), .unset, .unset] [])
  refine own_by (fun t k => XS.aloadN X0.here hx rfl (hb hby d15_0) rfl rfl k) ?_
  show ORun p e below s _ _ _ s₁ (mkF m 1 #[.val (.ref a1), .val (.int (1 : Int32)), .unset, .unset] [(.ref a1)])
  obtain ⟨T1, X1, e1, st1⟩ := getF X0 hx hZ hown (host := "") (Or.inl (hw _ (List.mem_of_getElem? (i := 59) rfl))) Via.refl e0 Fe (g := (mkF m 1 #[.val (.ref a1), .val (.int (1 : Int32)), .unset, .unset] [(.ref a1)])) rfl rfl (hb hby d15_1)
  refine own_by st1 ?_
  show ORun p e below s _ _ _ T1 (mkF m 4 #[.val (.ref a1), .val (.int (1 : Int32)), .unset, .unset] [(.ref de)])
  refine own_alen X1 hx hZ e1 Vd (n := 0) rfl (hb hby d15_4) ?_
  show ORun p e below s _ _ _ T1 (mkF m 5 #[.val (.ref a1), .val (.int (1 : Int32)), .unset, .unset] [(.int (0 : Int32))])
  refine own_by (fun t k => XS.istoreN X1.here hx rfl (hb hby d15_5) rfl (l' := #[.val (.ref a1), .val (.int (1 : Int32)), .val (.int (0 : Int32)), .unset]) rfl k) ?_
  show ORun p e below s _ _ _ T1 (mkF m 6 #[.val (.ref a1), .val (.int (1 : Int32)), .val (.int (0 : Int32)), .unset] [])
  refine own_by (fun t k => XS.iloadN X1.here hx rfl (hb hby d15_6) rfl k) ?_
  show ORun p e below s _ _ _ T1 (mkF m 7 #[.val (.ref a1), .val (.int (1 : Int32)), .val (.int (0 : Int32)), .unset] [(.int (0 : Int32))])
  refine own_by (fun t k => XS.ifNo X1.here hx rfl (hb hby d15_7) rfl ((if0 _ _).trans (flt (by decide)).2.2.1) k) ?_
  show ORun p e below s _ _ _ T1 (mkF m 10 #[.val (.ref a1), .val (.int (1 : Int32)), .val (.int (0 : Int32)), .unset] [])
  refine own_by (fun t k => XS.aloadN X1.here hx rfl (hb hby d15_10) rfl rfl k) ?_
  show ORun p e below s _ _ _ T1 (mkF m 11 #[.val (.ref a1), .val (.int (1 : Int32)), .val (.int (0 : Int32)), .unset] [(.ref a1)])
  obtain ⟨T2, X2, e2, st2⟩ := getF X1 hx hZ hown (host := "") (Or.inl (hw _ (List.mem_of_getElem? (i := 59) rfl))) Via.refl e1 Fe (g := (mkF m 11 #[.val (.ref a1), .val (.int (1 : Int32)), .val (.int (0 : Int32)), .unset] [(.ref a1)])) rfl rfl (hb hby d15_11)
  refine own_by st2 ?_
  show ORun p e below s _ _ _ T2 (mkF m 14 #[.val (.ref a1), .val (.int (1 : Int32)), .val (.int (0 : Int32)), .unset] [(.ref de)])
  obtain ⟨T3, X3, e3, st3⟩ := getS2 X2 hx hZ hown (host := "") (Or.inl (hw _ (List.mem_of_getElem? (i := 58) rfl))) Via.refl e2 Sd (g := (mkF m 14 #[.val (.ref a1), .val (.int (1 : Int32)), .val (.int (0 : Int32)), .unset] [(.ref de)])) rfl (hb hby d15_14)
  refine own_by st3 ?_
  show ORun p e below s _ _ _ T3 (mkF m 17 #[.val (.ref a1), .val (.int (1 : Int32)), .val (.int (0 : Int32)), .unset] [(.ref de), (.ref de)])
  refine own_by (fun t k => Jvm.RoadKit.acmp (g := (mkF m 17 #[.val (.ref a1), .val (.int (1 : Int32)), .val (.int (0 : Int32)), .unset] [(.ref de), (.ref de)])) X3 hx rfl rfl rfl (pc0 := 17) (pc' := 45) (same := true) rfl (hb hby d15_17) rfl (decide_eq_true rfl) (by decide) (by decide) k) ?_
  show ORun p e below s _ _ _ T3 (mkF m 45 #[.val (.ref a1), .val (.int (1 : Int32)), .val (.int (0 : Int32)), .unset] [])
  refine own_by (fun t k => XS.aloadN X3.here hx rfl (hb hby d15_45) rfl rfl k) ?_
  show ORun p e below s _ _ _ T3 (mkF m 46 #[.val (.ref a1), .val (.int (1 : Int32)), .val (.int (0 : Int32)), .unset] [(.ref a1)])
  refine own_by (fun t k => XS.bipush X3.here hx rfl (hb hby d15_46) k) ?_
  show ORun p e below s _ _ _ T3 (mkF m 48 #[.val (.ref a1), .val (.int (1 : Int32)), .val (.int (0 : Int32)), .unset] [(.int (10 : Int32)), (.ref a1)])
  refine own_by (fun t k => XS.iloadN X3.here hx rfl (hb hby d15_48) rfl k) ?_
  show ORun p e below s _ _ _ T3 (mkF m 49 #[.val (.ref a1), .val (.int (1 : Int32)), .val (.int (0 : Int32)), .unset] [(.int (1 : Int32)), (.int (10 : Int32)), (.ref a1)])
  refine own_callS X3 hx hZ hown (hw _ (List.mem_of_getElem? (i := 92) rfl)) (hw _ (List.mem_of_getElem? (i := 93) rfl)) (hw _ (List.mem_of_getElem? (i := 94) rfl)) (hw _ (List.mem_of_getElem? (i := 95) rfl)) (by decide) (rm16 l Z a0 hw [] h0 n0 Z0 (10 : Int32) (1 : Int32)) e3 (by decide) (W := 1) (by decide) (by decide) (by decide) (argsL := [(.int (10 : Int32)), (.int (1 : Int32))]) (rest := [(.ref a1)]) (by rw [hml]; rfl) (lenOf pd_5 rfl) rfl rfl (Nat.le_of_eq rfl) (hb hby d15_49) ?_
  intro T4 L4 u4 X4 hQ4
  obtain ⟨y4, rfl, hy4, Nq4, e4⟩ := hQ4
  have N4 := Fr.app N0 Nq4
  have tz4_0 : ((10 : Int32)).toInt = 10 := by decide
  have tz4_1 : ((1 : Int32)).toInt = 1 := by decide
  show ORun p e below s _ _ _ T4 (mkF m 52 #[.val (.ref a1), .val (.int (1 : Int32)), .val (.int (0 : Int32)), .unset] [(.int y4), (.ref a1)])
  refine own_newR X4 hx hZ hown (hw _ (List.mem_of_getElem? (i := 96) rfl)) (hw _ (List.mem_of_getElem? (i := 97) rfl)) e4 (N := 10) (cap := 10) (by omega) (Nat.le_refl _) (by decide) (by decide) (by decide) (hb hby d15_52) ?_
  intro T5 h5 b5 g5 X5 e5 E5 V5
  have old_b5 : n0 ≤ b5 := Nat.le_trans Z0 (Nat.le_of_eq g5.symm)
  have sz_b5 : h0.size ≤ b5 := Nat.le_trans (Nat.le_refl h0.size) (Nat.le_of_eq g5.symm)
  have ne_a1_b5 : a1 ≠ b5 := Nat.ne_of_lt (Nat.lt_of_lt_of_le E_a1.lt (Nat.le_of_eq g5.symm))
  have ne_de_b5 : de ≠ b5 := Nat.ne_of_lt (Nat.lt_of_lt_of_le Vd.lt (Nat.le_of_eq g5.symm))
  show ORun p e below s _ _ _ T5 (mkF m 55 #[.val (.ref a1), .val (.int (1 : Int32)), .val (.int (0 : Int32)), .unset] [(.ref b5), (.ref a1)])
  refine own_by (fun t k => XS.dupX1 X5.here hx rfl (hb hby d15_55) rfl rfl rfl k) ?_
  show ORun p e below s _ _ _ T5 (mkF m 56 #[.val (.ref a1), .val (.int (1 : Int32)), .val (.int (0 : Int32)), .unset] [(.ref b5), (.ref a1), (.ref b5)])
  obtain ⟨T6, h6, X6, e6, W6, st6⟩ := putF X5 hx hZ hown (host := "") (Or.inl (hw _ (List.mem_of_getElem? (i := 59) rfl))) Via.refl e5 (Fe.ext E5) (E_a1.ext E5) (Or.inl (hw _ (List.mem_of_getElem? (i := 60) rfl))) (hw _ (List.mem_of_getElem? (i := 38) rfl)) (ty := (.array (.object "java/lang/Object"))) (by decide) rfl rfl (g := (mkF m 56 #[.val (.ref a1), .val (.int (1 : Int32)), .val (.int (0 : Int32)), .unset] [(.ref b5), (.ref a1), (.ref b5)])) rfl rfl (hb hby d15_56)
  have Fw6 := Fld.same W6 (Fe.ext E5)
  have N6 := Fr.snoc X6 N4 g_a1
  refine own_by st6 ?_
  show ORun p e below s _ _ _ T6 (mkF m 59 #[.val (.ref a1), .val (.int (1 : Int32)), .val (.int (0 : Int32)), .unset] [(.ref b5)])
  refine own_retA X6 hx hret rfl rfl rfl hlk (hb hby d15_59) (by decide) (by decide) ?_
  rw [e6]
  exact ⟨b5, rfl, N6, (((Keep.refl h0 [a1]).ext E5).wr W6 (Or.inl (List.mem_of_getElem? (i := 0) rfl))), sz_b5, ((E_a1.ext E5).wr W6), Fw6, ((Fs.ext E5).other W6 (Or.inr (slot_ne (Or.inl (hw _ (List.mem_of_getElem? (i := 76) rfl))) (Or.inl (hw _ (List.mem_of_getElem? (i := 60) rfl))) (by decide) (t := .int) (t' := (.array (.object "java/lang/Object"))) (by decide) (by decide)))), ((Fm.ext E5).other W6 (Or.inr (slot_ne (Or.inl (hw _ (List.mem_of_getElem? (i := 57) rfl))) (Or.inl (hw _ (List.mem_of_getElem? (i := 60) rfl))) (by decide) (t := .int) (t' := (.array (.object "java/lang/Object"))) (by decide) (by decide)))), (V5.other W6 (Ne.symm ne_a1_b5))⟩
theorem d14_0 : decode jdk_38_method_7_code 0 = .ok (.aload_n 0, 1) := by decide +kernel
theorem d14_1 : decode jdk_38_method_7_code 1 = .ok (.aload_n 0, 1) := by decide +kernel
theorem d14_2 : decode jdk_38_method_7_code 2 = .ok (.getfield 48, 3) := by decide +kernel
theorem d14_5 : decode jdk_38_method_7_code 5 = .ok (.iconst 1, 1) := by decide +kernel
theorem d14_6 : decode jdk_38_method_7_code 6 = .ok (.iadd, 1) := by decide +kernel
theorem d14_7 : decode jdk_38_method_7_code 7 = .ok (.invokevirtual 69, 3) := by decide +kernel
theorem d14_10 : decode jdk_38_method_7_code 10 = .ok (.areturn, 1) := by decide +kernel
theorem pn_rm14 : plainName "java/util/ArrayList" = true := by first | (simp [plainName, overriddenIn]; done) | decide +kernel
theorem ef_rm14 (m : MethodId) (x0 : Addr) : entryFrame m #[(.ref x0)] 1 = mkF m 0 #[.val (.ref x0)] [] := by first | (simp [entryFrame, mkF, argsToLocals, Value.category]; done) | rfl
set_option maxRecDepth 65536 in
set_option maxHeartbeats 40000000 in
theorem rm14 (l : Launch) (Z : State) (a0 : Array Value) (hw : ∀ d ∈ tables_1, d.before a0 Z = true) (ws : List Jvm.Cond) (h0 : Heap) (n0 : Nat) (Z0 : n0 ≤ h0.size) (a1 de : Addr) (mc : Int32) (Sd : Sta Z h0 "java/util/ArrayList" "DEFAULTCAPACITY_EMPTY_ELEMENTDATA" "[Ljava/lang/Object;" (.ref de)) (Vd : OVecR Z h0 de "java/lang/Object" []) (E_a1 : Exa Z h0 a1 "java/util/ArrayList") (g_a1 : n0 ≤ a1) (Fe : Fld Z h0 a1 "java/util/ArrayList" "elementData" "[Ljava/lang/Object;" (.ref de)) (Fs : Fld Z h0 a1 "java/util/ArrayList" "size" "I" (.int 0)) (Fm : Fld Z h0 a1 "java/util/AbstractList" "modCount" "I" (.int mc)) (ned : de ≠ a1) :
    OMet l (⟨"java/util/ArrayList", "grow", "()[Ljava/lang/Object;"⟩ : MethodName) jdk_38_method_7_code 1 (some (.array (.object "java/lang/Object"))) ws ({ frames := 2, cells := 1, slots := 10, locals := 50 } : Room) #[(.ref a1)] Z h0 (fun v h L' => ∃ ed : Addr, v = some (.ref ed) ∧ Fr n0 L' ∧ Keep h0 h [a1] ∧ h0.size ≤ ed ∧ Exa Z h a1 "java/util/ArrayList" ∧ Fld Z h a1 "java/util/ArrayList" "elementData" "[Ljava/lang/Object;" (.ref ed) ∧ Fld Z h a1 "java/util/ArrayList" "size" "I" (.int 0) ∧ Fld Z h a1 "java/util/AbstractList" "modCount" "I" (.int mc) ∧ OVecR Z h ed "java/lang/Object" (List.replicate 10 .null)) := by
  refine own_met (plainFor_of_name pn_rm14) ?_
  intro p e s m below meth c s₁ X0 hx hby hml hown hnm hret hlk hZ e0
  rw [ef_rm14]
  have N0 := Fr.nil n0
  show ORun p e below s _ _ _ s₁ (mkF m 0 #[.val (.ref a1)] [])
  refine own_by (fun t k => XS.aloadN X0.here hx rfl (hb hby d14_0) rfl rfl k) ?_
  show ORun p e below s _ _ _ s₁ (mkF m 1 #[.val (.ref a1)] [(.ref a1)])
  refine own_by (fun t k => XS.aloadN X0.here hx rfl (hb hby d14_1) rfl rfl k) ?_
  show ORun p e below s _ _ _ s₁ (mkF m 2 #[.val (.ref a1)] [(.ref a1), (.ref a1)])
  obtain ⟨T1, X1, e1, st1⟩ := getF X0 hx hZ hown (host := "") (Or.inl (hw _ (List.mem_of_getElem? (i := 75) rfl))) Via.refl e0 Fs (g := (mkF m 2 #[.val (.ref a1)] [(.ref a1), (.ref a1)])) rfl rfl (hb hby d14_2)
  refine own_by st1 ?_
  show ORun p e below s _ _ _ T1 (mkF m 5 #[.val (.ref a1)] [(.int (0 : Int32)), (.ref a1)])
  refine own_by (fun t k => XS.iconst X1.here hx rfl (hb hby d14_5) k) ?_
  show ORun p e below s _ _ _ T1 (mkF m 6 #[.val (.ref a1)] [(.int (1 : Int32)), (.int (0 : Int32)), (.ref a1)])
  refine own_by (fun t k => XS.iadd X1.here hx rfl (hb hby d14_6) rfl k) ?_
  show ORun p e below s _ _ _ T1 (mkF m 7 #[.val (.ref a1)] [(.int (1 : Int32)), (.ref a1)])
  refine own_callP X1 hx hZ hown E_a1 (hw _ (List.mem_of_getElem? (i := 87) rfl)) (hw _ (List.mem_of_getElem? (i := 88) rfl)) (hw _ (List.mem_of_getElem? (i := 90) rfl)) (hw _ (List.mem_of_getElem? (i := 89) rfl)) (hw _ (List.mem_of_getElem? (i := 39) rfl)) (hw _ (List.mem_of_getElem? (i := 91) rfl)) (by decide) (rm15 l Z a0 hw [] h0 n0 Z0 a1 de mc Sd Vd E_a1 g_a1 Fe Fs Fm ned) e1 (by decide) (W := 0) (by decide) (by decide) (by decide) (argsL := [(.int (1 : Int32))]) (rest := []) (by rw [hml]; rfl) (lenOf pd_6 rfl) rfl rfl (Nat.le_of_eq rfl) (hb hby d14_7) ?_
  intro T2 L2 u2 X2 hQ2
  obtain ⟨o2, rfl, Nq2, K2, sz_q2, En2, Fe2, Fs2, Fm2, Vq2⟩ := hQ2
  have sz_o2 : h0.size ≤ o2 := Nat.le_trans (Nat.le_refl h0.size) sz_q2
  have old_o2 : n0 ≤ o2 := Nat.le_trans Z0 sz_o2
  have ne_a1_o2 : a1 ≠ o2 := Nat.ne_of_lt (Nat.lt_of_lt_of_le E_a1.lt sz_q2)
  have N2 := Fr.app N0 Nq2
  show ORun p e below s _ _ _ T2 (mkF m 10 #[.val (.ref a1)] [(.ref o2)])
  refine own_retA X2 hx hret rfl rfl rfl hlk (hb hby d14_10) (by decide) (by decide) ?_
  exact ⟨o2, rfl, N2, ((Keep.refl h0 [a1]).trans K2 (allS (Or.inl (List.mem_of_getElem? (i := 0) rfl)) all0)), sz_o2, En2, Fe2, Fs2, Fm2, Vq2⟩
theorem d13_0 : decode jdk_38_method_24_code 0 = .ok (.iload_n 3, 1) := by decide +kernel
theorem d13_1 : decode jdk_38_method_24_code 1 = .ok (.aload_n 2, 1) := by decide +kernel
theorem d13_2 : decode jdk_38_method_24_code 2 = .ok (.arraylength, 1) := by decide +kernel
theorem d13_3 : decode jdk_38_method_24_code 3 = .ok (.if_icmp .ne 8, 3) := by decide +kernel
theorem d13_6 : decode jdk_38_method_24_code 6 = .ok (.aload_n 0, 1) := by decide +kernel
theorem d13_7 : decode jdk_38_method_24_code 7 = .ok (.invokevirtual 129, 3) := by decide +kernel
theorem d13_10 : decode jdk_38_method_24_code 10 = .ok (.astore_n 2, 1) := by decide +kernel
theorem d13_11 : decode jdk_38_method_24_code 11 = .ok (.aload_n 2, 1) := by decide +kernel
theorem d13_12 : decode jdk_38_method_24_code 12 = .ok (.iload_n 3, 1) := by decide +kernel
theorem d13_13 : decode jdk_38_method_24_code 13 = .ok (.aload_n 1, 1) := by decide +kernel
theorem d13_14 : decode jdk_38_method_24_code 14 = .ok (.aastore, 1) := by decide +kernel
theorem d13_15 : decode jdk_38_method_24_code 15 = .ok (.aload_n 0, 1) := by decide +kernel
theorem d13_16 : decode jdk_38_method_24_code 16 = .ok (.iload_n 3, 1) := by decide +kernel
theorem d13_17 : decode jdk_38_method_24_code 17 = .ok (.iconst 1, 1) := by decide +kernel
theorem d13_18 : decode jdk_38_method_24_code 18 = .ok (.iadd, 1) := by decide +kernel
theorem d13_19 : decode jdk_38_method_24_code 19 = .ok (.putfield 48, 3) := by decide +kernel
theorem d13_22 : decode jdk_38_method_24_code 22 = .ok (.return_, 1) := by decide +kernel
theorem pn_rmadA : plainName "java/util/ArrayList" = true := by first | (simp [plainName, overriddenIn]; done) | decide +kernel
theorem ef_rmadA (m : MethodId) (x0 : Addr) (x1 : Addr) (x2 : Addr) (x3 : Int32) : entryFrame m #[(.ref x0), (.ref x1), (.ref x2), (.int x3)] 4 = mkF m 0 #[.val (.ref x0), .val (.ref x1), .val (.ref x2), .val (.int x3)] [] := by first | (simp [entryFrame, mkF, argsToLocals, Value.category]; done) | rfl
set_option maxRecDepth 65536 in
set_option maxHeartbeats 40000000 in
theorem rmadA (l : Launch) (Z : State) (a0 : Array Value) (hw : ∀ d ∈ tables_1, d.before a0 Z = true) (ws : List Jvm.Cond) (h0 : Heap) (n0 : Nat) (Z0 : n0 ≤ h0.size) (a1 de : Addr) (mc : Int32) (Sd : Sta Z h0 "java/util/ArrayList" "DEFAULTCAPACITY_EMPTY_ELEMENTDATA" "[Ljava/lang/Object;" (.ref de)) (Vd : OVecR Z h0 de "java/lang/Object" []) (E_a1 : Exa Z h0 a1 "java/util/ArrayList") (g_a1 : n0 ≤ a1) (Fe : Fld Z h0 a1 "java/util/ArrayList" "elementData" "[Ljava/lang/Object;" (.ref de)) (Fs : Fld Z h0 a1 "java/util/ArrayList" "size" "I" (.int 0)) (Fm : Fld Z h0 a1 "java/util/AbstractList" "modCount" "I" (.int mc)) (ned : de ≠ a1) (x : Addr) (Ex : Exa Z h0 x "[I") (nex : x ≠ a1) :
    OMet l (⟨"java/util/ArrayList", "add", "(Ljava/lang/Object;[Ljava/lang/Object;I)V"⟩ : MethodName) jdk_38_method_24_code 4 none ws ({ frames := 3, cells := 1, slots := 10, locals := 80 } : Room) #[(.ref a1), (.ref x), (.ref de), (.int (0 : Int32))] Z h0 (fun v h L' => v = none ∧ Fr n0 L' ∧ Keep h0 h [a1] ∧ ∃ ed : Addr, h0.size ≤ ed ∧ Exa Z h a1 "java/util/ArrayList" ∧ Fld Z h a1 "java/util/ArrayList" "elementData" "[Ljava/lang/Object;" (.ref ed) ∧ Fld Z h a1 "java/util/ArrayList" "size" "I" (.int 1) ∧ Fld Z h a1 "java/util/AbstractList" "modCount" "I" (.int mc) ∧ OVecR Z h ed "java/lang/Object" [.ref x, .null, .null, .null, .null, .null, .null, .null, .null, .null]) := by
  refine own_met (plainFor_of_name pn_rmadA) ?_
  intro p e s m below meth c s₁ X0 hx hby hml hown hnm hret hlk hZ e0
  rw [ef_rmadA]
  have N0 := Fr.nil n0
  show ORun p e below s _ _ _ s₁ (mkF m 0 #[.val (.ref a1), .val (.ref x), .val (.ref de), .val (.int (0 : Int32))] [])
  refine own_by (fun t k => XS.iloadN X0.here hx rfl (hb hby d13_0) rfl k) ?_
  show ORun p e below s _ _ _ s₁ (mkF m 1 #[.val (.ref a1), .val (.ref x), .val (.ref de), .val (.int (0 : Int32))] [(.int (0 : Int32))])
  refine own_by (fun t k => XS.aloadN X0.here hx rfl (hb hby d13_1) rfl rfl k) ?_
  show ORun p e below s _ _ _ s₁ (mkF m 2 #[.val (.ref a1), .val (.ref x), .val (.ref de), .val (.int (0 : Int32))] [(.ref de), (.int (0 : Int32))])
  refine own_alen X0 hx hZ e0 Vd (n := 0) rfl (hb hby d13_2) ?_
  show ORun p e below s _ _ _ s₁ (mkF m 3 #[.val (.ref a1), .val (.ref x), .val (.ref de), .val (.int (0 : Int32))] [(.int (0 : Int32)), (.int (0 : Int32))])
  refine own_by (fun t k => XS.icmpNo X0.here hx rfl (hb hby d13_3) rfl (teq (by decide)).2 k) ?_
  show ORun p e below s _ _ _ s₁ (mkF m 6 #[.val (.ref a1), .val (.ref x), .val (.ref de), .val (.int (0 : Int32))] [])
  refine own_by (fun t k => XS.aloadN X0.here hx rfl (hb hby d13_6) rfl rfl k) ?_
  show ORun p e below s _ _ _ s₁ (mkF m 7 #[.val (.ref a1), .val (.ref x), .val (.ref de), .val (.int (0 : Int32))] [(.ref a1)])
  refine own_callP X0 hx hZ hown E_a1 (hw _ (List.mem_of_getElem? (i := 82) rfl)) (hw _ (List.mem_of_getElem? (i := 83) rfl)) (hw _ (List.mem_of_getElem? (i := 85) rfl)) (hw _ (List.mem_of_getElem? (i := 84) rfl)) (hw _ (List.mem_of_getElem? (i := 39) rfl)) (hw _ (List.mem_of_getElem? (i := 86) rfl)) (by decide) (rm14 l Z a0 hw [] h0 n0 Z0 a1 de mc Sd Vd E_a1 g_a1 Fe Fs Fm ned) e0 (by decide) (W := 0) (by decide) (by decide) (by decide) (argsL := []) (rest := []) (by rw [hml]; rfl) (lenOf pd_7 rfl) rfl rfl (Nat.le_of_eq rfl) (hb hby d13_7) ?_
  intro T1 L1 u1 X1 hQ1
  obtain ⟨o1, rfl, Nq1, K1, sz_q1, En1, Fe1, Fs1, Fm1, Vq1⟩ := hQ1
  have sz_o1 : h0.size ≤ o1 := Nat.le_trans (Nat.le_refl h0.size) sz_q1
  have old_o1 : n0 ≤ o1 := Nat.le_trans Z0 sz_o1
  have ne_a1_o1 : a1 ≠ o1 := Nat.ne_of_lt (Nat.lt_of_lt_of_le E_a1.lt sz_q1)
  have N1 := Fr.app N0 Nq1
  show ORun p e below s _ _ _ T1 (mkF m 10 #[.val (.ref a1), .val (.ref x), .val (.ref de), .val (.int (0 : Int32))] [(.ref o1)])
  refine own_by (fun t k => XS.astoreN X1.here hx rfl (hb hby d13_10) rfl rfl (l' := #[.val (.ref a1), .val (.ref x), .val (.ref o1), .val (.int (0 : Int32))]) rfl k) ?_
  show ORun p e below s _ _ _ T1 (mkF m 11 #[.val (.ref a1), .val (.ref x), .val (.ref o1), .val (.int (0 : Int32))] [])
  refine own_by (fun t k => XS.aloadN X1.here hx rfl (hb hby d13_11) rfl rfl k) ?_
  show ORun p e below s _ _ _ T1 (mkF m 12 #[.val (.ref a1), .val (.ref x), .val (.ref o1), .val (.int (0 : Int32))] [(.ref o1)])
  refine own_by (fun t k => XS.iloadN X1.here hx rfl (hb hby d13_12) rfl k) ?_
  show ORun p e below s _ _ _ T1 (mkF m 13 #[.val (.ref a1), .val (.ref x), .val (.ref o1), .val (.int (0 : Int32))] [(.int (0 : Int32)), (.ref o1)])
  refine own_by (fun t k => XS.aloadN X1.here hx rfl (hb hby d13_13) rfl rfl k) ?_
  show ORun p e below s _ _ _ T1 (mkF m 14 #[.val (.ref a1), .val (.ref x), .val (.ref o1), .val (.int (0 : Int32))] [(.ref x), (.int (0 : Int32)), (.ref o1)])
  refine own_aastore X1 hx hZ rfl Vq1 (Ins.of_exa (Ex.keep K1) (hw _ (List.mem_of_getElem? (i := 98) rfl))) (i := 0) (by decide) (by simp) (hb hby d13_14) ?_
  intro T2 h2 X2 e2 W2 V2
  have N2 := Fr.snoc X2 N1 old_o1
  show ORun p e below s _ _ _ T2 (mkF m 15 #[.val (.ref a1), .val (.ref x), .val (.ref o1), .val (.int (0 : Int32))] [])
  refine own_by (fun t k => XS.aloadN X2.here hx rfl (hb hby d13_15) rfl rfl k) ?_
  show ORun p e below s _ _ _ T2 (mkF m 16 #[.val (.ref a1), .val (.ref x), .val (.ref o1), .val (.int (0 : Int32))] [(.ref a1)])
  refine own_by (fun t k => XS.iloadN X2.here hx rfl (hb hby d13_16) rfl k) ?_
  show ORun p e below s _ _ _ T2 (mkF m 17 #[.val (.ref a1), .val (.ref x), .val (.ref o1), .val (.int (0 : Int32))] [(.int (0 : Int32)), (.ref a1)])
  refine own_by (fun t k => XS.iconst X2.here hx rfl (hb hby d13_17) k) ?_
  show ORun p e below s _ _ _ T2 (mkF m 18 #[.val (.ref a1), .val (.ref x), .val (.ref o1), .val (.int (0 : Int32))] [(.int (1 : Int32)), (.int (0 : Int32)), (.ref a1)])
  refine own_by (fun t k => XS.iadd X2.here hx rfl (hb hby d13_18) rfl k) ?_
  show ORun p e below s _ _ _ T2 (mkF m 19 #[.val (.ref a1), .val (.ref x), .val (.ref o1), .val (.int (0 : Int32))] [(.int (1 : Int32)), (.ref a1)])
  obtain ⟨T3, h3, X3, e3, W3, st3⟩ := putF X2 hx hZ hown (host := "") (Or.inl (hw _ (List.mem_of_getElem? (i := 75) rfl))) Via.refl e2 (Fs1.other W2 (Or.inl ne_a1_o1)) (En1.wr W2) (Or.inl (hw _ (List.mem_of_getElem? (i := 76) rfl))) (hw _ (List.mem_of_getElem? (i := 38) rfl)) (ty := .int) (by decide) rfl rfl (g := (mkF m 19 #[.val (.ref a1), .val (.ref x), .val (.ref o1), .val (.int (0 : Int32))] [(.int (1 : Int32)), (.ref a1)])) rfl rfl (hb hby d13_19)
  have Fw3 := Fld.same W3 (Fs1.other W2 (Or.inl ne_a1_o1))
  have N3 := Fr.snoc X3 N2 g_a1
  refine own_by st3 ?_
  show ORun p e below s _ _ _ T3 (mkF m 22 #[.val (.ref a1), .val (.ref x), .val (.ref o1), .val (.int (0 : Int32))] [])
  refine own_retV X3 hx hret hlk (hb hby d13_22) (by decide) (by decide) ?_
  rw [e3]
  exact ⟨rfl, N3, ((((Keep.refl h0 [a1]).trans K1 (allS (Or.inl (List.mem_of_getElem? (i := 0) rfl)) all0)).wr W2 (Or.inr sz_o1)).wr W3 (Or.inl (List.mem_of_getElem? (i := 0) rfl))), o1, sz_o1, ((En1.wr W2).wr W3), ((Fe1.other W2 (Or.inl ne_a1_o1)).other W3 (Or.inr (slot_ne (Or.inl (hw _ (List.mem_of_getElem? (i := 60) rfl))) (Or.inl (hw _ (List.mem_of_getElem? (i := 76) rfl))) (by decide) (t := (.array (.object "java/lang/Object"))) (t' := .int) (by decide) (by decide)))), Fw3, ((Fm1.other W2 (Or.inl ne_a1_o1)).other W3 (Or.inr (slot_ne (Or.inl (hw _ (List.mem_of_getElem? (i := 57) rfl))) (Or.inl (hw _ (List.mem_of_getElem? (i := 76) rfl))) (by decide) (t := .int) (t' := .int) (by decide) (by decide)))), (V2.other W3 (Ne.symm ne_a1_o1))⟩
theorem pn_rmadB : plainName "java/util/ArrayList" = true := by first | (simp [plainName, overriddenIn]; done) | decide +kernel
theorem ef_rmadB (m : MethodId) (x0 : Addr) (x1 : Addr) (x2 : Addr) (x3 : Int32) : entryFrame m #[(.ref x0), (.ref x1), (.ref x2), (.int x3)] 4 = mkF m 0 #[.val (.ref x0), .val (.ref x1), .val (.ref x2), .val (.int x3)] [] := by first | (simp [entryFrame, mkF, argsToLocals, Value.category]; done) | rfl
set_option maxRecDepth 65536 in
set_option maxHeartbeats 40000000 in
theorem rmadB (l : Launch) (Z : State) (a0 : Array Value) (hw : ∀ d ∈ tables_1, d.before a0 Z = true) (ws : List Jvm.Cond) (h0 : Heap) (n0 : Nat) (Z0 : n0 ≤ h0.size) (a1 ed0 : Addr) (mc : Int32) (x0 : Addr) (g_ed : n0 ≤ ed0) (Vd : OVecR Z h0 ed0 "java/lang/Object" [.ref x0, .null, .null, .null, .null, .null, .null, .null, .null, .null]) (E_a1 : Exa Z h0 a1 "java/util/ArrayList") (g_a1 : n0 ≤ a1) (Fe : Fld Z h0 a1 "java/util/ArrayList" "elementData" "[Ljava/lang/Object;" (.ref ed0)) (Fs : Fld Z h0 a1 "java/util/ArrayList" "size" "I" (.int 1)) (Fm : Fld Z h0 a1 "java/util/AbstractList" "modCount" "I" (.int mc)) (ned : ed0 ≠ a1) (x : Addr) (Ex : Exa Z h0 x "[I") (nex : x ≠ a1) :
    OMet l (⟨"java/util/ArrayList", "add", "(Ljava/lang/Object;[Ljava/lang/Object;I)V"⟩ : MethodName) jdk_38_method_24_code 4 none ws ({ frames := 3, cells := 1, slots := 10, locals := 80 } : Room) #[(.ref a1), (.ref x), (.ref ed0), (.int (1 : Int32))] Z h0 (fun v h L' => v = none ∧ Fr n0 L' ∧ Keep h0 h [a1, ed0] ∧ ∃ ed : Addr, ed = ed0 ∧ Exa Z h a1 "java/util/ArrayList" ∧ Fld Z h a1 "java/util/ArrayList" "elementData" "[Ljava/lang/Object;" (.ref ed) ∧ Fld Z h a1 "java/util/ArrayList" "size" "I" (.int 2) ∧ Fld Z h a1 "java/util/AbstractList" "modCount" "I" (.int mc) ∧ OVecR Z h ed "java/lang/Object" [.ref x0, .ref x, .null, .null, .null, .null, .null, .null, .null, .null]) := by
  refine own_met (plainFor_of_name pn_rmadB) ?_
  intro p e s m below meth c s₁ X0 hx hby hml hown hnm hret hlk hZ e0
  rw [ef_rmadB]
  have N0 := Fr.nil n0
  show ORun p e below s _ _ _ s₁ (mkF m 0 #[.val (.ref a1), .val (.ref x), .val (.ref ed0), .val (.int (1 : Int32))] [])
  refine own_by (fun t k => XS.iloadN X0.here hx rfl (hb hby d13_0) rfl k) ?_
  show ORun p e below s _ _ _ s₁ (mkF m 1 #[.val (.ref a1), .val (.ref x), .val (.ref ed0), .val (.int (1 : Int32))] [(.int (1 : Int32))])
  refine own_by (fun t k => XS.aloadN X0.here hx rfl (hb hby d13_1) rfl rfl k) ?_
  show ORun p e below s _ _ _ s₁ (mkF m 2 #[.val (.ref a1), .val (.ref x), .val (.ref ed0), .val (.int (1 : Int32))] [(.ref ed0), (.int (1 : Int32))])
  refine own_alen X0 hx hZ e0 Vd (n := 10) rfl (hb hby d13_2) ?_
  show ORun p e below s _ _ _ s₁ (mkF m 3 #[.val (.ref a1), .val (.ref x), .val (.ref ed0), .val (.int (1 : Int32))] [(.int (10 : Int32)), (.int (1 : Int32))])
  refine own_by (fun t k => XS.icmpYes X0.here hx rfl (pc0 := 3) (pc' := 11) rfl (hb hby d13_3) rfl (feq (by decide)).2 (by decide) (by decide) k) ?_
  show ORun p e below s _ _ _ s₁ (mkF m 11 #[.val (.ref a1), .val (.ref x), .val (.ref ed0), .val (.int (1 : Int32))] [])
  refine own_by (fun t k => XS.aloadN X0.here hx rfl (hb hby d13_11) rfl rfl k) ?_
  show ORun p e below s _ _ _ s₁ (mkF m 12 #[.val (.ref a1), .val (.ref x), .val (.ref ed0), .val (.int (1 : Int32))] [(.ref ed0)])
  refine own_by (fun t k => XS.iloadN X0.here hx rfl (hb hby d13_12) rfl k) ?_
  show ORun p e below s _ _ _ s₁ (mkF m 13 #[.val (.ref a1), .val (.ref x), .val (.ref ed0), .val (.int (1 : Int32))] [(.int (1 : Int32)), (.ref ed0)])
  refine own_by (fun t k => XS.aloadN X0.here hx rfl (hb hby d13_13) rfl rfl k) ?_
  show ORun p e below s _ _ _ s₁ (mkF m 14 #[.val (.ref a1), .val (.ref x), .val (.ref ed0), .val (.int (1 : Int32))] [(.ref x), (.int (1 : Int32)), (.ref ed0)])
  refine own_aastore X0 hx hZ e0 Vd (Ins.of_exa Ex (hw _ (List.mem_of_getElem? (i := 98) rfl))) (i := 1) (by decide) (by simp) (hb hby d13_14) ?_
  intro T1 h1 X1 e1 W1 V1
  have N1 := Fr.snoc X1 N0 g_ed
  show ORun p e below s _ _ _ T1 (mkF m 15 #[.val (.ref a1), .val (.ref x), .val (.ref ed0), .val (.int (1 : Int32))] [])
  refine own_by (fun t k => XS.aloadN X1.here hx rfl (hb hby d13_15) rfl rfl k) ?_
  show ORun p e below s _ _ _ T1 (mkF m 16 #[.val (.ref a1), .val (.ref x), .val (.ref ed0), .val (.int (1 : Int32))] [(.ref a1)])
  refine own_by (fun t k => XS.iloadN X1.here hx rfl (hb hby d13_16) rfl k) ?_
  show ORun p e below s _ _ _ T1 (mkF m 17 #[.val (.ref a1), .val (.ref x), .val (.ref ed0), .val (.int (1 : Int32))] [(.int (1 : Int32)), (.ref a1)])
  refine own_by (fun t k => XS.iconst X1.here hx rfl (hb hby d13_17) k) ?_
  show ORun p e below s _ _ _ T1 (mkF m 18 #[.val (.ref a1), .val (.ref x), .val (.ref ed0), .val (.int (1 : Int32))] [(.int (1 : Int32)), (.int (1 : Int32)), (.ref a1)])
  refine own_by (fun t k => XS.iadd X1.here hx rfl (hb hby d13_18) rfl k) ?_
  show ORun p e below s _ _ _ T1 (mkF m 19 #[.val (.ref a1), .val (.ref x), .val (.ref ed0), .val (.int (1 : Int32))] [(.int (2 : Int32)), (.ref a1)])
  obtain ⟨T2, h2, X2, e2, W2, st2⟩ := putF X1 hx hZ hown (host := "") (Or.inl (hw _ (List.mem_of_getElem? (i := 75) rfl))) Via.refl e1 (Fs.other W1 (Or.inl (Ne.symm ned))) (E_a1.wr W1) (Or.inl (hw _ (List.mem_of_getElem? (i := 76) rfl))) (hw _ (List.mem_of_getElem? (i := 38) rfl)) (ty := .int) (by decide) rfl rfl (g := (mkF m 19 #[.val (.ref a1), .val (.ref x), .val (.ref ed0), .val (.int (1 : Int32))] [(.int (2 : Int32)), (.ref a1)])) rfl rfl (hb hby d13_19)
  have Fw2 := Fld.same W2 (Fs.other W1 (Or.inl (Ne.symm ned)))
  have N2 := Fr.snoc X2 N1 g_a1
  refine own_by st2 ?_
  show ORun p e below s _ _ _ T2 (mkF m 22 #[.val (.ref a1), .val (.ref x), .val (.ref ed0), .val (.int (1 : Int32))] [])
  refine own_retV X2 hx hret hlk (hb hby d13_22) (by decide) (by decide) ?_
  rw [e2]
  exact ⟨rfl, N2, (((Keep.refl h0 [a1, ed0]).wr W1 (Or.inl (List.mem_of_getElem? (i := 1) rfl))).wr W2 (Or.inl (List.mem_of_getElem? (i := 0) rfl))), ed0, rfl, ((E_a1.wr W1).wr W2), ((Fe.other W1 (Or.inl (Ne.symm ned))).other W2 (Or.inr (slot_ne (Or.inl (hw _ (List.mem_of_getElem? (i := 60) rfl))) (Or.inl (hw _ (List.mem_of_getElem? (i := 76) rfl))) (by decide) (t := (.array (.object "java/lang/Object"))) (t' := .int) (by decide) (by decide)))), Fw2, ((Fm.other W1 (Or.inl (Ne.symm ned))).other W2 (Or.inr (slot_ne (Or.inl (hw _ (List.mem_of_getElem? (i := 57) rfl))) (Or.inl (hw _ (List.mem_of_getElem? (i := 76) rfl))) (by decide) (t := .int) (t' := .int) (by decide) (by decide)))), (V1.other W2 ned)⟩
theorem d12_0 : decode jdk_38_method_25_code 0 = .ok (.aload_n 0, 1) := by decide +kernel
theorem d12_1 : decode jdk_38_method_25_code 1 = .ok (.dup, 1) := by decide +kernel
theorem d12_2 : decode jdk_38_method_25_code 2 = .ok (.getfield 63, 3) := by decide +kernel
theorem d12_5 : decode jdk_38_method_25_code 5 = .ok (.iconst 1, 1) := by decide +kernel
theorem d12_6 : decode jdk_38_method_25_code 6 = .ok (.iadd, 1) := by decide +kernel
theorem d12_7 : decode jdk_38_method_25_code 7 = .ok (.putfield 63, 3) := by decide +kernel
theorem d12_10 : decode jdk_38_method_25_code 10 = .ok (.aload_n 0, 1) := by decide +kernel
theorem d12_11 : decode jdk_38_method_25_code 11 = .ok (.aload_n 1, 1) := by decide +kernel
theorem d12_12 : decode jdk_38_method_25_code 12 = .ok (.aload_n 0, 1) := by decide +kernel
theorem d12_13 : decode jdk_38_method_25_code 13 = .ok (.getfield 9, 3) := by decide +kernel
theorem d12_16 : decode jdk_38_method_25_code 16 = .ok (.aload_n 0, 1) := by decide +kernel
theorem d12_17 : decode jdk_38_method_25_code 17 = .ok (.getfield 48, 3) := by decide +kernel
theorem d12_20 : decode jdk_38_method_25_code 20 = .ok (.invokevirtual 131, 3) := by decide +kernel
theorem d12_23 : decode jdk_38_method_25_code 23 = .ok (.iconst 1, 1) := by decide +kernel
theorem d12_24 : decode jdk_38_method_25_code 24 = .ok (.ireturn, 1) := by decide +kernel
theorem pn_rmaddA : plainName "java/util/ArrayList" = true := by first | (simp [plainName, overriddenIn]; done) | decide +kernel
theorem ef_rmaddA (m : MethodId) (x0 : Addr) (x1 : Addr) : entryFrame m #[(.ref x0), (.ref x1)] 2 = mkF m 0 #[.val (.ref x0), .val (.ref x1)] [] := by first | (simp [entryFrame, mkF, argsToLocals, Value.category]; done) | rfl
set_option maxRecDepth 65536 in
set_option maxHeartbeats 40000000 in
theorem rmaddA (l : Launch) (Z : State) (a0 : Array Value) (hw : ∀ d ∈ tables_1, d.before a0 Z = true) (ws : List Jvm.Cond) (h0 : Heap) (n0 : Nat) (Z0 : n0 ≤ h0.size) (a1 de : Addr) (mc : Int32) (Sd : Sta Z h0 "java/util/ArrayList" "DEFAULTCAPACITY_EMPTY_ELEMENTDATA" "[Ljava/lang/Object;" (.ref de)) (Vd : OVecR Z h0 de "java/lang/Object" []) (E_a1 : Exa Z h0 a1 "java/util/ArrayList") (g_a1 : n0 ≤ a1) (Fe : Fld Z h0 a1 "java/util/ArrayList" "elementData" "[Ljava/lang/Object;" (.ref de)) (Fs : Fld Z h0 a1 "java/util/ArrayList" "size" "I" (.int 0)) (Fm : Fld Z h0 a1 "java/util/AbstractList" "modCount" "I" (.int mc)) (ned : de ≠ a1) (x : Addr) (Ex : Exa Z h0 x "[I") (nex : x ≠ a1) :
    OMet l (⟨"java/util/ArrayList", "add", "(Ljava/lang/Object;)Z"⟩ : MethodName) jdk_38_method_25_code 2 (some .boolean) ws ({ frames := 4, cells := 1, slots := 10, locals := 110 } : Room) #[(.ref a1), (.ref x)] Z h0 (fun v h L' => v = some (.int 1) ∧ Fr n0 L' ∧ Keep h0 h [a1] ∧ ∃ (ed : Addr) (mc' : Int32), h0.size ≤ ed ∧ Exa Z h a1 "java/util/ArrayList" ∧ Fld Z h a1 "java/util/ArrayList" "elementData" "[Ljava/lang/Object;" (.ref ed) ∧ Fld Z h a1 "java/util/ArrayList" "size" "I" (.int 1) ∧ Fld Z h a1 "java/util/AbstractList" "modCount" "I" (.int mc') ∧ OVecR Z h ed "java/lang/Object" [.ref x, .null, .null, .null, .null, .null, .null, .null, .null, .null]) := by
  refine own_met (plainFor_of_name pn_rmaddA) ?_
  intro p e s m below meth c s₁ X0 hx hby hml hown hnm hret hlk hZ e0
  rw [ef_rmaddA]
  have N0 := Fr.nil n0
  show ORun p e below s _ _ _ s₁ (mkF m 0 #[.val (.ref a1), .val (.ref x)] [])
  refine own_by (fun t k => XS.aloadN X0.here hx rfl (hb hby d12_0) rfl rfl k) ?_
  show ORun p e below s _ _ _ s₁ (mkF m 1 #[.val (.ref a1), .val (.ref x)] [(.ref a1)])
  refine own_by (fun t k => XS.dup X0.here hx rfl (hb hby d12_1) rfl rfl k) ?_
  show ORun p e below s _ _ _ s₁ (mkF m 2 #[.val (.ref a1), .val (.ref x)] [(.ref a1), (.ref a1)])
  obtain ⟨T1, X1, e1, st1⟩ := getF X0 hx hZ hown (host := "") (Or.inl (hw _ (List.mem_of_getElem? (i := 73) rfl))) (Via.of (hw _ (List.mem_of_getElem? (i := 74) rfl))) e0 Fm (g := (mkF m 2 #[.val (.ref a1), .val (.ref x)] [(.ref a1), (.ref a1)])) rfl rfl (hb hby d12_2)
  refine own_by st1 ?_
  show ORun p e below s _ _ _ T1 (mkF m 5 #[.val (.ref a1), .val (.ref x)] [(.int mc), (.ref a1)])
  refine own_by (fun t k => XS.iconst X1.here hx rfl (hb hby d12_5) k) ?_
  show ORun p e below s _ _ _ T1 (mkF m 6 #[.val (.ref a1), .val (.ref x)] [(.int (1 : Int32)), (.int mc), (.ref a1)])
  refine own_by (fun t k => XS.iadd X1.here hx rfl (hb hby d12_6) rfl k) (own_letI (f := (fun z => (mkF m 7 #[.val (.ref a1), .val (.ref x)] [(.int z), (.ref a1)]))) (mc + (1 : Int32)) fun v2 hv2 => ?_)
  show ORun p e below s _ _ _ T1 (mkF m 7 #[.val (.ref a1), .val (.ref x)] [(.int v2), (.ref a1)])
  have a2a : (v2.toInt - (mc.toInt + 1)) % 4294967296 = 0 := by rw [hv2]; exact c_iadd mc (1 : Int32)
  have r2 := rng32 v2
  obtain ⟨T3, h3, X3, e3, W3, st3⟩ := putF X1 hx hZ hown (host := "") (Or.inl (hw _ (List.mem_of_getElem? (i := 73) rfl))) (Via.of (hw _ (List.mem_of_getElem? (i := 74) rfl))) e1 Fm E_a1 (Or.inl (hw _ (List.mem_of_getElem? (i := 57) rfl))) (hw _ (List.mem_of_getElem? (i := 38) rfl)) (ty := .int) (by decide) rfl rfl (g := (mkF m 7 #[.val (.ref a1), .val (.ref x)] [(.int v2), (.ref a1)])) rfl rfl (hb hby d12_7)
  have Fw3 := Fld.same W3 Fm
  have N3 := Fr.snoc X3 N0 g_a1
  refine own_by st3 ?_
  show ORun p e below s _ _ _ T3 (mkF m 10 #[.val (.ref a1), .val (.ref x)] [])
  refine own_by (fun t k => XS.aloadN X3.here hx rfl (hb hby d12_10) rfl rfl k) ?_
  show ORun p e below s _ _ _ T3 (mkF m 11 #[.val (.ref a1), .val (.ref x)] [(.ref a1)])
  refine own_by (fun t k => XS.aloadN X3.here hx rfl (hb hby d12_11) rfl rfl k) ?_
  show ORun p e below s _ _ _ T3 (mkF m 12 #[.val (.ref a1), .val (.ref x)] [(.ref x), (.ref a1)])
  refine own_by (fun t k => XS.aloadN X3.here hx rfl (hb hby d12_12) rfl rfl k) ?_
  show ORun p e below s _ _ _ T3 (mkF m 13 #[.val (.ref a1), .val (.ref x)] [(.ref a1), (.ref x), (.ref a1)])
  obtain ⟨T4, X4, e4, st4⟩ := getF X3 hx hZ hown (host := "") (Or.inl (hw _ (List.mem_of_getElem? (i := 59) rfl))) Via.refl e3 (Fe.other W3 (Or.inr (slot_ne (Or.inl (hw _ (List.mem_of_getElem? (i := 60) rfl))) (Or.inl (hw _ (List.mem_of_getElem? (i := 57) rfl))) (by decide) (t := (.array (.object "java/lang/Object"))) (t' := .int) (by decide) (by decide)))) (g := (mkF m 13 #[.val (.ref a1), .val (.ref x)] [(.ref a1), (.ref x), (.ref a1)])) rfl rfl (hb hby d12_13)
  refine own_by st4 ?_
  show ORun p e below s _ _ _ T4 (mkF m 16 #[.val (.ref a1), .val (.ref x)] [(.ref de), (.ref x), (.ref a1)])
  refine own_by (fun t k => XS.aloadN X4.here hx rfl (hb hby d12_16) rfl rfl k) ?_
  show ORun p e below s _ _ _ T4 (mkF m 17 #[.val (.ref a1), .val (.ref x)] [(.ref a1), (.ref de), (.ref x), (.ref a1)])
  obtain ⟨T5, X5, e5, st5⟩ := getF X4 hx hZ hown (host := "") (Or.inl (hw _ (List.mem_of_getElem? (i := 75) rfl))) Via.refl e4 (Fs.other W3 (Or.inr (slot_ne (Or.inl (hw _ (List.mem_of_getElem? (i := 76) rfl))) (Or.inl (hw _ (List.mem_of_getElem? (i := 57) rfl))) (by decide) (t := .int) (t' := .int) (by decide) (by decide)))) (g := (mkF m 17 #[.val (.ref a1), .val (.ref x)] [(.ref a1), (.ref de), (.ref x), (.ref a1)])) rfl rfl (hb hby d12_17)
  refine own_by st5 ?_
  show ORun p e below s _ _ _ T5 (mkF m 20 #[.val (.ref a1), .val (.ref x)] [(.int (0 : Int32)), (.ref de), (.ref x), (.ref a1)])
  refine own_callP X5 hx hZ hown (E_a1.wr W3) (hw _ (List.mem_of_getElem? (i := 77) rfl)) (hw _ (List.mem_of_getElem? (i := 78) rfl)) (hw _ (List.mem_of_getElem? (i := 80) rfl)) (hw _ (List.mem_of_getElem? (i := 79) rfl)) (hw _ (List.mem_of_getElem? (i := 39) rfl)) (hw _ (List.mem_of_getElem? (i := 81) rfl)) (by decide) (rmadA l Z a0 hw [] h3 n0 (Nat.le_trans Z0 (Keep.of_wr W3).1) a1 de v2 (Sd.wr W3) (Vd.other W3 ned) (E_a1.wr W3) g_a1 (Fe.other W3 (Or.inr (slot_ne (Or.inl (hw _ (List.mem_of_getElem? (i := 60) rfl))) (Or.inl (hw _ (List.mem_of_getElem? (i := 57) rfl))) (by decide) (t := (.array (.object "java/lang/Object"))) (t' := .int) (by decide) (by decide)))) (Fs.other W3 (Or.inr (slot_ne (Or.inl (hw _ (List.mem_of_getElem? (i := 76) rfl))) (Or.inl (hw _ (List.mem_of_getElem? (i := 57) rfl))) (by decide) (t := .int) (t' := .int) (by decide) (by decide)))) Fw3 ned x (Ex.wr W3) nex) e5 (by decide) (W := 0) (by decide) (by decide) (by decide) (argsL := [(.ref x), (.ref de), (.int (0 : Int32))]) (rest := []) (by rw [hml]; rfl) (lenOf pd_8 rfl) rfl rfl (Nat.le_of_eq rfl) (hb hby d12_20) ?_
  intro T6 L6 u6 X6 hQ6
  obtain ⟨rfl, Nq6, K6, ed6, sz_q6, En6, Fe6, Fs6, Fm6, Vq6⟩ := hQ6
  have N6 := Fr.app N3 Nq6
  have sz_ed6 : h0.size ≤ ed6 := Nat.le_trans (Nat.le_trans (Nat.le_refl h0.size) (Keep.of_wr W3).1) sz_q6
  show ORun p e below s _ _ _ T6 (mkF m 23 #[.val (.ref a1), .val (.ref x)] [])
  refine own_by (fun t k => XS.iconst X6.here hx rfl (hb hby d12_23) k) ?_
  show ORun p e below s _ _ _ T6 (mkF m 24 #[.val (.ref a1), .val (.ref x)] [(.int (1 : Int32))])
  refine own_retN X6 hx (t := .boolean) hret (by simp) hlk (hb hby d12_24) (by decide) (by decide) ?_
  exact ⟨rfl, N6, (((Keep.refl h0 [a1]).wr W3 (Or.inl (List.mem_of_getElem? (i := 0) rfl))).trans K6 (allS (Or.inl (List.mem_of_getElem? (i := 0) rfl)) all0)), ed6, _, sz_ed6, En6, Fe6, Fs6, Fm6, Vq6⟩
theorem pn_rmaddB : plainName "java/util/ArrayList" = true := by first | (simp [plainName, overriddenIn]; done) | decide +kernel
theorem ef_rmaddB (m : MethodId) (x0 : Addr) (x1 : Addr) : entryFrame m #[(.ref x0), (.ref x1)] 2 = mkF m 0 #[.val (.ref x0), .val (.ref x1)] [] := by first | (simp [entryFrame, mkF, argsToLocals, Value.category]; done) | rfl
set_option maxRecDepth 65536 in
set_option maxHeartbeats 40000000 in
theorem rmaddB (l : Launch) (Z : State) (a0 : Array Value) (hw : ∀ d ∈ tables_1, d.before a0 Z = true) (ws : List Jvm.Cond) (h0 : Heap) (n0 : Nat) (Z0 : n0 ≤ h0.size) (a1 ed0 : Addr) (mc : Int32) (x0 : Addr) (g_ed : n0 ≤ ed0) (Vd : OVecR Z h0 ed0 "java/lang/Object" [.ref x0, .null, .null, .null, .null, .null, .null, .null, .null, .null]) (E_a1 : Exa Z h0 a1 "java/util/ArrayList") (g_a1 : n0 ≤ a1) (Fe : Fld Z h0 a1 "java/util/ArrayList" "elementData" "[Ljava/lang/Object;" (.ref ed0)) (Fs : Fld Z h0 a1 "java/util/ArrayList" "size" "I" (.int 1)) (Fm : Fld Z h0 a1 "java/util/AbstractList" "modCount" "I" (.int mc)) (ned : ed0 ≠ a1) (x : Addr) (Ex : Exa Z h0 x "[I") (nex : x ≠ a1) :
    OMet l (⟨"java/util/ArrayList", "add", "(Ljava/lang/Object;)Z"⟩ : MethodName) jdk_38_method_25_code 2 (some .boolean) ws ({ frames := 4, cells := 1, slots := 10, locals := 110 } : Room) #[(.ref a1), (.ref x)] Z h0 (fun v h L' => v = some (.int 1) ∧ Fr n0 L' ∧ Keep h0 h [a1, ed0] ∧ ∃ (ed : Addr) (mc' : Int32), ed = ed0 ∧ Exa Z h a1 "java/util/ArrayList" ∧ Fld Z h a1 "java/util/ArrayList" "elementData" "[Ljava/lang/Object;" (.ref ed) ∧ Fld Z h a1 "java/util/ArrayList" "size" "I" (.int 2) ∧ Fld Z h a1 "java/util/AbstractList" "modCount" "I" (.int mc') ∧ OVecR Z h ed "java/lang/Object" [.ref x0, .ref x, .null, .null, .null, .null, .null, .null, .null, .null]) := by
  refine own_met (plainFor_of_name pn_rmaddB) ?_
  intro p e s m below meth c s₁ X0 hx hby hml hown hnm hret hlk hZ e0
  rw [ef_rmaddB]
  have N0 := Fr.nil n0
  show ORun p e below s _ _ _ s₁ (mkF m 0 #[.val (.ref a1), .val (.ref x)] [])
  refine own_by (fun t k => XS.aloadN X0.here hx rfl (hb hby d12_0) rfl rfl k) ?_
  show ORun p e below s _ _ _ s₁ (mkF m 1 #[.val (.ref a1), .val (.ref x)] [(.ref a1)])
  refine own_by (fun t k => XS.dup X0.here hx rfl (hb hby d12_1) rfl rfl k) ?_
  show ORun p e below s _ _ _ s₁ (mkF m 2 #[.val (.ref a1), .val (.ref x)] [(.ref a1), (.ref a1)])
  obtain ⟨T1, X1, e1, st1⟩ := getF X0 hx hZ hown (host := "") (Or.inl (hw _ (List.mem_of_getElem? (i := 73) rfl))) (Via.of (hw _ (List.mem_of_getElem? (i := 74) rfl))) e0 Fm (g := (mkF m 2 #[.val (.ref a1), .val (.ref x)] [(.ref a1), (.ref a1)])) rfl rfl (hb hby d12_2)
  refine own_by st1 ?_
  show ORun p e below s _ _ _ T1 (mkF m 5 #[.val (.ref a1), .val (.ref x)] [(.int mc), (.ref a1)])
  refine own_by (fun t k => XS.iconst X1.here hx rfl (hb hby d12_5) k) ?_
  show ORun p e below s _ _ _ T1 (mkF m 6 #[.val (.ref a1), .val (.ref x)] [(.int (1 : Int32)), (.int mc), (.ref a1)])
  refine own_by (fun t k => XS.iadd X1.here hx rfl (hb hby d12_6) rfl k) (own_letI (f := (fun z => (mkF m 7 #[.val (.ref a1), .val (.ref x)] [(.int z), (.ref a1)]))) (mc + (1 : Int32)) fun v2 hv2 => ?_)
  show ORun p e below s _ _ _ T1 (mkF m 7 #[.val (.ref a1), .val (.ref x)] [(.int v2), (.ref a1)])
  have a2a : (v2.toInt - (mc.toInt + 1)) % 4294967296 = 0 := by rw [hv2]; exact c_iadd mc (1 : Int32)
  have r2 := rng32 v2
  obtain ⟨T3, h3, X3, e3, W3, st3⟩ := putF X1 hx hZ hown (host := "") (Or.inl (hw _ (List.mem_of_getElem? (i := 73) rfl))) (Via.of (hw _ (List.mem_of_getElem? (i := 74) rfl))) e1 Fm E_a1 (Or.inl (hw _ (List.mem_of_getElem? (i := 57) rfl))) (hw _ (List.mem_of_getElem? (i := 38) rfl)) (ty := .int) (by decide) rfl rfl (g := (mkF m 7 #[.val (.ref a1), .val (.ref x)] [(.int v2), (.ref a1)])) rfl rfl (hb hby d12_7)
  have Fw3 := Fld.same W3 Fm
  have N3 := Fr.snoc X3 N0 g_a1
  refine own_by st3 ?_
  show ORun p e below s _ _ _ T3 (mkF m 10 #[.val (.ref a1), .val (.ref x)] [])
  refine own_by (fun t k => XS.aloadN X3.here hx rfl (hb hby d12_10) rfl rfl k) ?_
  show ORun p e below s _ _ _ T3 (mkF m 11 #[.val (.ref a1), .val (.ref x)] [(.ref a1)])
  refine own_by (fun t k => XS.aloadN X3.here hx rfl (hb hby d12_11) rfl rfl k) ?_
  show ORun p e below s _ _ _ T3 (mkF m 12 #[.val (.ref a1), .val (.ref x)] [(.ref x), (.ref a1)])
  refine own_by (fun t k => XS.aloadN X3.here hx rfl (hb hby d12_12) rfl rfl k) ?_
  show ORun p e below s _ _ _ T3 (mkF m 13 #[.val (.ref a1), .val (.ref x)] [(.ref a1), (.ref x), (.ref a1)])
  obtain ⟨T4, X4, e4, st4⟩ := getF X3 hx hZ hown (host := "") (Or.inl (hw _ (List.mem_of_getElem? (i := 59) rfl))) Via.refl e3 (Fe.other W3 (Or.inr (slot_ne (Or.inl (hw _ (List.mem_of_getElem? (i := 60) rfl))) (Or.inl (hw _ (List.mem_of_getElem? (i := 57) rfl))) (by decide) (t := (.array (.object "java/lang/Object"))) (t' := .int) (by decide) (by decide)))) (g := (mkF m 13 #[.val (.ref a1), .val (.ref x)] [(.ref a1), (.ref x), (.ref a1)])) rfl rfl (hb hby d12_13)
  refine own_by st4 ?_
  show ORun p e below s _ _ _ T4 (mkF m 16 #[.val (.ref a1), .val (.ref x)] [(.ref ed0), (.ref x), (.ref a1)])
  refine own_by (fun t k => XS.aloadN X4.here hx rfl (hb hby d12_16) rfl rfl k) ?_
  show ORun p e below s _ _ _ T4 (mkF m 17 #[.val (.ref a1), .val (.ref x)] [(.ref a1), (.ref ed0), (.ref x), (.ref a1)])
  obtain ⟨T5, X5, e5, st5⟩ := getF X4 hx hZ hown (host := "") (Or.inl (hw _ (List.mem_of_getElem? (i := 75) rfl))) Via.refl e4 (Fs.other W3 (Or.inr (slot_ne (Or.inl (hw _ (List.mem_of_getElem? (i := 76) rfl))) (Or.inl (hw _ (List.mem_of_getElem? (i := 57) rfl))) (by decide) (t := .int) (t' := .int) (by decide) (by decide)))) (g := (mkF m 17 #[.val (.ref a1), .val (.ref x)] [(.ref a1), (.ref ed0), (.ref x), (.ref a1)])) rfl rfl (hb hby d12_17)
  refine own_by st5 ?_
  show ORun p e below s _ _ _ T5 (mkF m 20 #[.val (.ref a1), .val (.ref x)] [(.int (1 : Int32)), (.ref ed0), (.ref x), (.ref a1)])
  refine own_callP X5 hx hZ hown (E_a1.wr W3) (hw _ (List.mem_of_getElem? (i := 77) rfl)) (hw _ (List.mem_of_getElem? (i := 78) rfl)) (hw _ (List.mem_of_getElem? (i := 80) rfl)) (hw _ (List.mem_of_getElem? (i := 79) rfl)) (hw _ (List.mem_of_getElem? (i := 39) rfl)) (hw _ (List.mem_of_getElem? (i := 81) rfl)) (by decide) (rmadB l Z a0 hw [] h3 n0 (Nat.le_trans Z0 (Keep.of_wr W3).1) a1 ed0 v2 x0 g_ed (Vd.other W3 ned) (E_a1.wr W3) g_a1 (Fe.other W3 (Or.inr (slot_ne (Or.inl (hw _ (List.mem_of_getElem? (i := 60) rfl))) (Or.inl (hw _ (List.mem_of_getElem? (i := 57) rfl))) (by decide) (t := (.array (.object "java/lang/Object"))) (t' := .int) (by decide) (by decide)))) (Fs.other W3 (Or.inr (slot_ne (Or.inl (hw _ (List.mem_of_getElem? (i := 76) rfl))) (Or.inl (hw _ (List.mem_of_getElem? (i := 57) rfl))) (by decide) (t := .int) (t' := .int) (by decide) (by decide)))) Fw3 ned x (Ex.wr W3) nex) e5 (by decide) (W := 0) (by decide) (by decide) (by decide) (argsL := [(.ref x), (.ref ed0), (.int (1 : Int32))]) (rest := []) (by rw [hml]; rfl) (lenOf pd_8 rfl) rfl rfl (Nat.le_of_eq rfl) (hb hby d12_20) ?_
  intro T6 L6 u6 X6 hQ6
  obtain ⟨rfl, Nq6, K6, ed6, sz_q6, En6, Fe6, Fs6, Fm6, Vq6⟩ := hQ6
  have N6 := Fr.app N3 Nq6
  rw [sz_q6] at Fe6 Vq6
  show ORun p e below s _ _ _ T6 (mkF m 23 #[.val (.ref a1), .val (.ref x)] [])
  refine own_by (fun t k => XS.iconst X6.here hx rfl (hb hby d12_23) k) ?_
  show ORun p e below s _ _ _ T6 (mkF m 24 #[.val (.ref a1), .val (.ref x)] [(.int (1 : Int32))])
  refine own_retN X6 hx (t := .boolean) hret (by simp) hlk (hb hby d12_24) (by decide) (by decide) ?_
  exact ⟨rfl, N6, (((Keep.refl h0 [a1, ed0]).wr W3 (Or.inl (List.mem_of_getElem? (i := 0) rfl))).trans K6 (allS (Or.inl (List.mem_of_getElem? (i := 0) rfl)) (allS (Or.inl (List.mem_of_getElem? (i := 1) rfl)) all0))), ed0, _, rfl, En6, Fe6, Fs6, Fm6, Vq6⟩
theorem d20_0 : decode jdk_38_method_8_code 0 = .ok (.aload_n 0, 1) := by decide +kernel
theorem d20_1 : decode jdk_38_method_8_code 1 = .ok (.getfield 48, 3) := by decide +kernel
theorem d20_4 : decode jdk_38_method_8_code 4 = .ok (.ireturn, 1) := by decide +kernel
theorem pn_rm20 : plainName "java/util/ArrayList" = true := by first | (simp [plainName, overriddenIn]; done) | decide +kernel
theorem ef_rm20 (m : MethodId) (x0 : Addr) : entryFrame m #[(.ref x0)] 1 = mkF m 0 #[.val (.ref x0)] [] := by first | (simp [entryFrame, mkF, argsToLocals, Value.category]; done) | rfl
set_option maxRecDepth 65536 in
set_option maxHeartbeats 40000000 in
theorem rm20 (l : Launch) (Z : State) (a0 : Array Value) (hw : ∀ d ∈ tables_1, d.before a0 Z = true) (ws : List Jvm.Cond) (h0 : Heap) (n0 : Nat) (Z0 : n0 ≤ h0.size) (a1 : Addr) (nz : Int32) (Fs : Fld Z h0 a1 "java/util/ArrayList" "size" "I" (.int nz)) :
    OMet l (⟨"java/util/ArrayList", "size", "()I"⟩ : MethodName) jdk_38_method_8_code 1 (some .int) ws ({ frames := 0, cells := 0, slots := 0, locals := 0 } : Room) #[(.ref a1)] Z h0 (fun v h L' => v = some (.int nz) ∧ Fr n0 L' ∧ h = h0) := by
  refine own_met (plainFor_of_name pn_rm20) ?_
  intro p e s m below meth c s₁ X0 hx hby hml hown hnm hret hlk hZ e0
  rw [ef_rm20]
  have N0 := Fr.nil n0
  show ORun p e below s _ _ _ s₁ (mkF m 0 #[.val (.ref a1)] [])
  refine own_by (fun t k => XS.aloadN X0.here hx rfl (hb hby d20_0) rfl rfl k) ?_
  show ORun p e below s _ _ _ s₁ (mkF m 1 #[.val (.ref a1)] [(.ref a1)])
  obtain ⟨T1, X1, e1, st1⟩ := getF X0 hx hZ hown (host := "") (Or.inl (hw _ (List.mem_of_getElem? (i := 75) rfl))) Via.refl e0 Fs (g := (mkF m 1 #[.val (.ref a1)] [(.ref a1)])) rfl rfl (hb hby d20_1)
  refine own_by st1 ?_
  show ORun p e below s _ _ _ T1 (mkF m 4 #[.val (.ref a1)] [(.int nz)])
  refine own_retI X1 hx hret hlk (hb hby d20_4) (by decide) (by decide) ?_
  exact ⟨rfl, N0, e1⟩
theorem d23_0 : decode jdk_41_method_11_code 0 = .ok (.iload_n 0, 1) := by decide +kernel
theorem d23_1 : decode jdk_41_method_11_code 1 = .ok (.ifCond .lt 8, 3) := by decide +kernel
theorem d23_4 : decode jdk_41_method_11_code 4 = .ok (.iload_n 0, 1) := by decide +kernel
theorem d23_5 : decode jdk_41_method_11_code 5 = .ok (.iload_n 1, 1) := by decide +kernel
theorem d23_6 : decode jdk_41_method_11_code 6 = .ok (.if_icmp .lt 10, 3) := by decide +kernel
theorem d23_16 : decode jdk_41_method_11_code 16 = .ok (.iload_n 0, 1) := by decide +kernel
theorem d23_17 : decode jdk_41_method_11_code 17 = .ok (.ireturn, 1) := by decide +kernel
theorem pn_rm23 : plainName "jdk/internal/util/Preconditions" = true := by first | (simp [plainName, overriddenIn]; done) | decide +kernel
theorem ef_rm23 (m : MethodId) (x0 : Int32) (x1 : Int32) : entryFrame m #[(.int x0), (.int x1), .null] 3 = mkF m 0 #[.val (.int x0), .val (.int x1), .val .null] [] := by first | (simp [entryFrame, mkF, argsToLocals, Value.category]; done) | rfl
set_option maxRecDepth 65536 in
set_option maxHeartbeats 40000000 in
theorem rm23 (l : Launch) (Z : State) (a0 : Array Value) (hw : ∀ d ∈ tables_1, d.before a0 Z = true) (ws : List Jvm.Cond) (h0 : Heap) (n0 : Nat) (Z0 : n0 ≤ h0.size) (p1 p2 : Int32) (hbd : 0 ≤ p1.toInt ∧ p1.toInt < p2.toInt) :
    OMet l (⟨"jdk/internal/util/Preconditions", "checkIndex", "(IILjava/util/function/BiFunction;)I"⟩ : MethodName) jdk_41_method_11_code 3 (some .int) ws ({ frames := 0, cells := 0, slots := 0, locals := 0 } : Room) #[(.int p1), (.int p2), .null] Z h0 (fun v h L' => v = some (.int p1) ∧ Fr n0 L' ∧ h = h0) := by
  refine own_met (plainFor_of_name pn_rm23) ?_
  intro p e s m below meth c s₁ X0 hx hby hml hown hnm hret hlk hZ e0
  rw [ef_rm23]
  have N0 := Fr.nil n0
  have rg_p1 := rng32 p1
  have rg_p2 := rng32 p2
  show ORun p e below s _ _ _ s₁ (mkF m 0 #[.val (.int p1), .val (.int p2), .val .null] [])
  refine own_by (fun t k => XS.iloadN X0.here hx rfl (hb hby d23_0) rfl k) ?_
  show ORun p e below s _ _ _ s₁ (mkF m 1 #[.val (.int p1), .val (.int p2), .val .null] [(.int p1)])
  by_cases hc1 : p1 < (0 : Int32)
  · have t1 := own_lt hc1 (a := p1.toInt) (b := 0) rfl (by decide)
    exfalso
    omega
  · have t1 := own_nlt hc1 (a := p1.toInt) (b := 0) rfl (by decide)
    refine own_by (fun t k => XS.ifNo X0.here hx rfl (hb hby d23_1) rfl ((if0 _ _).trans (flt hc1).1) k) ?_
    show ORun p e below s _ _ _ s₁ (mkF m 4 #[.val (.int p1), .val (.int p2), .val .null] [])
    refine own_by (fun t k => XS.iloadN X0.here hx rfl (hb hby d23_4) rfl k) ?_
    show ORun p e below s _ _ _ s₁ (mkF m 5 #[.val (.int p1), .val (.int p2), .val .null] [(.int p1)])
    refine own_by (fun t k => XS.iloadN X0.here hx rfl (hb hby d23_5) rfl k) ?_
    show ORun p e below s _ _ _ s₁ (mkF m 6 #[.val (.int p1), .val (.int p2), .val .null] [(.int p2), (.int p1)])
    by_cases hc2 : p1 < p2
    · have t2 := own_lt hc2 (a := p1.toInt) (b := p2.toInt) rfl rfl
      refine own_by (fun t k => XS.icmpYes X0.here hx rfl (pc0 := 6) (pc' := 16) rfl (hb hby d23_6) rfl (tlt hc2).1 (by decide) (by decide) k) ?_
      show ORun p e below s _ _ _ s₁ (mkF m 16 #[.val (.int p1), .val (.int p2), .val .null] [])
      refine own_by (fun t k => XS.iloadN X0.here hx rfl (hb hby d23_16) rfl k) ?_
      show ORun p e below s _ _ _ s₁ (mkF m 17 #[.val (.int p1), .val (.int p2), .val .null] [(.int p1)])
      refine own_retI X0 hx hret hlk (hb hby d23_17) (by decide) (by decide) ?_
      exact ⟨rfl, N0, e0⟩
    · have t2 := own_nlt hc2 (a := p1.toInt) (b := p2.toInt) rfl rfl
      exfalso
      omega
theorem d22_0 : decode jdk_31_method_17_code 0 = .ok (.iload_n 0, 1) := by decide +kernel
theorem d22_1 : decode jdk_31_method_17_code 1 = .ok (.iload_n 1, 1) := by decide +kernel
theorem d22_2 : decode jdk_31_method_17_code 2 = .ok (.aconst_null, 1) := by decide +kernel
theorem d22_3 : decode jdk_31_method_17_code 3 = .ok (.invokestatic 105, 3) := by decide +kernel
theorem d22_6 : decode jdk_31_method_17_code 6 = .ok (.ireturn, 1) := by decide +kernel
theorem pn_rm22 : plainName "java/util/Objects" = true := by first | (simp [plainName, overriddenIn]; done) | decide +kernel
theorem ef_rm22 (m : MethodId) (x0 : Int32) (x1 : Int32) : entryFrame m #[(.int x0), (.int x1)] 2 = mkF m 0 #[.val (.int x0), .val (.int x1)] [] := by first | (simp [entryFrame, mkF, argsToLocals, Value.category]; done) | rfl
set_option maxRecDepth 65536 in
set_option maxHeartbeats 40000000 in
theorem rm22 (l : Launch) (Z : State) (a0 : Array Value) (hw : ∀ d ∈ tables_1, d.before a0 Z = true) (ws : List Jvm.Cond) (h0 : Heap) (n0 : Nat) (Z0 : n0 ≤ h0.size) (p1 p2 : Int32) (hbd : 0 ≤ p1.toInt ∧ p1.toInt < p2.toInt) :
    OMet l (⟨"java/util/Objects", "checkIndex", "(II)I"⟩ : MethodName) jdk_31_method_17_code 2 (some .int) ws ({ frames := 1, cells := 0, slots := 0, locals := 20 } : Room) #[(.int p1), (.int p2)] Z h0 (fun v h L' => v = some (.int p1) ∧ Fr n0 L' ∧ h = h0) := by
  refine own_met (plainFor_of_name pn_rm22) ?_
  intro p e s m below meth c s₁ X0 hx hby hml hown hnm hret hlk hZ e0
  rw [ef_rm22]
  have N0 := Fr.nil n0
  have rg_p1 := rng32 p1
  have rg_p2 := rng32 p2
  show ORun p e below s _ _ _ s₁ (mkF m 0 #[.val (.int p1), .val (.int p2)] [])
  refine own_by (fun t k => XS.iloadN X0.here hx rfl (hb hby d22_0) rfl k) ?_
  show ORun p e below s _ _ _ s₁ (mkF m 1 #[.val (.int p1), .val (.int p2)] [(.int p1)])
  refine own_by (fun t k => XS.iloadN X0.here hx rfl (hb hby d22_1) rfl k) ?_
  show ORun p e below s _ _ _ s₁ (mkF m 2 #[.val (.int p1), .val (.int p2)] [(.int p2), (.int p1)])
  refine own_by (fun t k => XS.aconstNull X0.here hx rfl (hb hby d22_2) k) ?_
  show ORun p e below s _ _ _ s₁ (mkF m 3 #[.val (.int p1), .val (.int p2)] [.null, (.int p2), (.int p1)])
  refine own_callS X0 hx hZ hown (hw _ (List.mem_of_getElem? (i := 128) rfl)) (hw _ (List.mem_of_getElem? (i := 129) rfl)) (hw _ (List.mem_of_getElem? (i := 130) rfl)) (hw _ (List.mem_of_getElem? (i := 131) rfl)) (by decide) (rm23 l Z a0 hw [] h0 n0 Z0 p1 p2 hbd) e0 (by decide) (W := 0) (by decide) (by decide) (by decide) (argsL := [(.int p1), (.int p2), .null]) (rest := []) (by rw [hml]; rfl) (lenOf pd_9 rfl) rfl rfl (Nat.le_of_eq rfl) (hb hby d22_3) ?_
  intro T1 L1 u1 X1 hQ1
  obtain ⟨rfl, Nq1, e1⟩ := hQ1
  have N1 := Fr.app N0 Nq1
  show ORun p e below s _ _ _ T1 (mkF m 6 #[.val (.int p1), .val (.int p2)] [(.int p1)])
  refine own_retI X1 hx hret hlk (hb hby d22_6) (by decide) (by decide) ?_
  exact ⟨rfl, N1, e1⟩
theorem d24_0 : decode jdk_38_method_18_code 0 = .ok (.aload_n 0, 1) := by decide +kernel
theorem d24_1 : decode jdk_38_method_18_code 1 = .ok (.getfield 9, 3) := by decide +kernel
theorem d24_4 : decode jdk_38_method_18_code 4 = .ok (.iload_n 1, 1) := by decide +kernel
theorem d24_5 : decode jdk_38_method_18_code 5 = .ok (.aaload, 1) := by decide +kernel
theorem d24_6 : decode jdk_38_method_18_code 6 = .ok (.areturn, 1) := by decide +kernel
theorem pn_rm24 : plainName "java/util/ArrayList" = true := by first | (simp [plainName, overriddenIn]; done) | decide +kernel
theorem ef_rm24 (m : MethodId) (x0 : Addr) (x1 : Int32) : entryFrame m #[(.ref x0), (.int x1)] 2 = mkF m 0 #[.val (.ref x0), .val (.int x1)] [] := by first | (simp [entryFrame, mkF, argsToLocals, Value.category]; done) | rfl
set_option maxRecDepth 65536 in
set_option maxHeartbeats 40000000 in
theorem rm24 (l : Launch) (Z : State) (a0 : Array Value) (hw : ∀ d ∈ tables_1, d.before a0 Z = true) (ws : List Jvm.Cond) (h0 : Heap) (n0 : Nat) (Z0 : n0 ≤ h0.size) (a1 ed0 x : Addr) (p2 nz : Int32) (Lr : List Value) (E_a1 : Exa Z h0 a1 "java/util/ArrayList") (Fs : Fld Z h0 a1 "java/util/ArrayList" "size" "I" (.int nz)) (Fe : Fld Z h0 a1 "java/util/ArrayList" "elementData" "[Ljava/lang/Object;" (.ref ed0)) (Ve : OVecR Z h0 ed0 "java/lang/Object" Lr) (hx0 : Lr[p2.toInt.toNat]? = some (.ref x)) (hbd : 0 ≤ p2.toInt ∧ p2.toInt < nz.toInt) :
    OMet l (⟨"java/util/ArrayList", "elementData", "(I)Ljava/lang/Object;"⟩ : MethodName) jdk_38_method_18_code 2 (some (.object "java/lang/Object")) ws ({ frames := 0, cells := 0, slots := 0, locals := 0 } : Room) #[(.ref a1), (.int p2)] Z h0 (fun v h L' => v = some (.ref x) ∧ Fr n0 L' ∧ h = h0) := by
  refine own_met (plainFor_of_name pn_rm24) ?_
  intro p e s m below meth c s₁ X0 hx hby hml hown hnm hret hlk hZ e0
  rw [ef_rm24]
  have N0 := Fr.nil n0
  have rg_p2 := rng32 p2
  show ORun p e below s _ _ _ s₁ (mkF m 0 #[.val (.ref a1), .val (.int p2)] [])
  refine own_by (fun t k => XS.aloadN X0.here hx rfl (hb hby d24_0) rfl rfl k) ?_
  show ORun p e below s _ _ _ s₁ (mkF m 1 #[.val (.ref a1), .val (.int p2)] [(.ref a1)])
  obtain ⟨T1, X1, e1, st1⟩ := getF X0 hx hZ hown (host := "") (Or.inl (hw _ (List.mem_of_getElem? (i := 59) rfl))) Via.refl e0 Fe (g := (mkF m 1 #[.val (.ref a1), .val (.int p2)] [(.ref a1)])) rfl rfl (hb hby d24_1)
  refine own_by st1 ?_
  show ORun p e below s _ _ _ T1 (mkF m 4 #[.val (.ref a1), .val (.int p2)] [(.ref ed0)])
  refine own_by (fun t k => XS.iloadN X1.here hx rfl (hb hby d24_4) rfl k) ?_
  show ORun p e below s _ _ _ T1 (mkF m 5 #[.val (.ref a1), .val (.int p2)] [(.int p2), (.ref ed0)])
  refine own_aaload X1 hx hZ e1 Ve (i := p2.toInt.toNat) (by omega) hx0 (hb hby d24_5) ?_
  show ORun p e below s _ _ _ T1 (mkF m 6 #[.val (.ref a1), .val (.int p2)] [(.ref x)])
  refine own_retA X1 hx hret rfl rfl rfl hlk (hb hby d24_6) (by decide) (by decide) ?_
  exact ⟨rfl, N0, e1⟩
theorem d21_0 : decode jdk_38_method_20_code 0 = .ok (.iload_n 1, 1) := by decide +kernel
theorem d21_1 : decode jdk_38_method_20_code 1 = .ok (.aload_n 0, 1) := by decide +kernel
theorem d21_2 : decode jdk_38_method_20_code 2 = .ok (.getfield 48, 3) := by decide +kernel
theorem d21_5 : decode jdk_38_method_20_code 5 = .ok (.invokestatic 118, 3) := by decide +kernel
theorem d21_8 : decode jdk_38_method_20_code 8 = .ok (.pop, 1) := by decide +kernel
theorem d21_9 : decode jdk_38_method_20_code 9 = .ok (.aload_n 0, 1) := by decide +kernel
theorem d21_10 : decode jdk_38_method_20_code 10 = .ok (.iload_n 1, 1) := by decide +kernel
theorem d21_11 : decode jdk_38_method_20_code 11 = .ok (.invokevirtual 123, 3) := by decide +kernel
theorem d21_14 : decode jdk_38_method_20_code 14 = .ok (.areturn, 1) := by decide +kernel
theorem pn_rm21 : plainName "java/util/ArrayList" = true := by first | (simp [plainName, overriddenIn]; done) | decide +kernel
theorem ef_rm21 (m : MethodId) (x0 : Addr) (x1 : Int32) : entryFrame m #[(.ref x0), (.int x1)] 2 = mkF m 0 #[.val (.ref x0), .val (.int x1)] [] := by first | (simp [entryFrame, mkF, argsToLocals, Value.category]; done) | rfl
set_option maxRecDepth 65536 in
set_option maxHeartbeats 40000000 in
theorem rm21 (l : Launch) (Z : State) (a0 : Array Value) (hw : ∀ d ∈ tables_1, d.before a0 Z = true) (ws : List Jvm.Cond) (h0 : Heap) (n0 : Nat) (Z0 : n0 ≤ h0.size) (a1 ed0 x : Addr) (p2 nz : Int32) (Lr : List Value) (E_a1 : Exa Z h0 a1 "java/util/ArrayList") (Fs : Fld Z h0 a1 "java/util/ArrayList" "size" "I" (.int nz)) (Fe : Fld Z h0 a1 "java/util/ArrayList" "elementData" "[Ljava/lang/Object;" (.ref ed0)) (Ve : OVecR Z h0 ed0 "java/lang/Object" Lr) (hx0 : Lr[p2.toInt.toNat]? = some (.ref x)) (hbd : 0 ≤ p2.toInt ∧ p2.toInt < nz.toInt) :
    OMet l (⟨"java/util/ArrayList", "get", "(I)Ljava/lang/Object;"⟩ : MethodName) jdk_38_method_20_code 2 (some (.object "java/lang/Object")) ws ({ frames := 2, cells := 0, slots := 0, locals := 50 } : Room) #[(.ref a1), (.int p2)] Z h0 (fun v h L' => v = some (.ref x) ∧ Fr n0 L' ∧ h = h0) := by
  refine own_met (plainFor_of_name pn_rm21) ?_
  intro p e s m below meth c s₁ X0 hx hby hml hown hnm hret hlk hZ e0
  rw [ef_rm21]
  have N0 := Fr.nil n0
  have rg_p2 := rng32 p2
  show ORun p e below s _ _ _ s₁ (mkF m 0 #[.val (.ref a1), .val (.int p2)] [])
  refine own_by (fun t k => XS.iloadN X0.here hx rfl (hb hby d21_0) rfl k) ?_
  show ORun p e below s _ _ _ s₁ (mkF m 1 #[.val (.ref a1), .val (.int p2)] [(.int p2)])
  refine own_by (fun t k => XS.aloadN X0.here hx rfl (hb hby d21_1) rfl rfl k) ?_
  show ORun p e below s _ _ _ s₁ (mkF m 2 #[.val (.ref a1), .val (.int p2)] [(.ref a1), (.int p2)])
  obtain ⟨T1, X1, e1, st1⟩ := getF X0 hx hZ hown (host := "") (Or.inl (hw _ (List.mem_of_getElem? (i := 75) rfl))) Via.refl e0 Fs (g := (mkF m 2 #[.val (.ref a1), .val (.int p2)] [(.ref a1), (.int p2)])) rfl rfl (hb hby d21_2)
  refine own_by st1 ?_
  show ORun p e below s _ _ _ T1 (mkF m 5 #[.val (.ref a1), .val (.int p2)] [(.int nz), (.int p2)])
  refine own_callS X1 hx hZ hown (hw _ (List.mem_of_getElem? (i := 124) rfl)) (hw _ (List.mem_of_getElem? (i := 125) rfl)) (hw _ (List.mem_of_getElem? (i := 126) rfl)) (hw _ (List.mem_of_getElem? (i := 127) rfl)) (by decide) (rm22 l Z a0 hw [] h0 n0 Z0 p2 nz hbd) e1 (by decide) (W := 0) (by decide) (by decide) (by decide) (argsL := [(.int p2), (.int nz)]) (rest := []) (by rw [hml]; rfl) (lenOf pd_5 rfl) rfl rfl (Nat.le_of_eq rfl) (hb hby d21_5) ?_
  intro T2 L2 u2 X2 hQ2
  obtain ⟨rfl, Nq2, e2⟩ := hQ2
  have N2 := Fr.app N0 Nq2
  show ORun p e below s _ _ _ T2 (mkF m 8 #[.val (.ref a1), .val (.int p2)] [(.int p2)])
  refine own_by (fun t k => XS.pop X2.here hx rfl (hb hby d21_8) rfl rfl k) ?_
  show ORun p e below s _ _ _ T2 (mkF m 9 #[.val (.ref a1), .val (.int p2)] [])
  refine own_by (fun t k => XS.aloadN X2.here hx rfl (hb hby d21_9) rfl rfl k) ?_
  show ORun p e below s _ _ _ T2 (mkF m 10 #[.val (.ref a1), .val (.int p2)] [(.ref a1)])
  refine own_by (fun t k => XS.iloadN X2.here hx rfl (hb hby d21_10) rfl k) ?_
  show ORun p e below s _ _ _ T2 (mkF m 11 #[.val (.ref a1), .val (.int p2)] [(.int p2), (.ref a1)])
  refine own_callV X2 hx hZ hown E_a1 (hw _ (List.mem_of_getElem? (i := 132) rfl)) (hw _ (List.mem_of_getElem? (i := 133) rfl)) (notFace_of_selects (args := #[]) (mvT hZ (hw _ (List.mem_of_getElem? (i := 135) rfl)))) (hw _ (List.mem_of_getElem? (i := 135) rfl)) (hw _ (List.mem_of_getElem? (i := 134) rfl)) (hw _ (List.mem_of_getElem? (i := 39) rfl)) (hw _ (List.mem_of_getElem? (i := 136) rfl)) (by decide) (rm24 l Z a0 hw [] h0 n0 Z0 a1 ed0 x p2 nz Lr E_a1 Fs Fe Ve hx0 hbd) e2 (by decide) (W := 0) (by decide) (by decide) (by decide) (argsL := [(.int p2)]) (rest := []) (by rw [hml]; rfl) (lenOf pd_10 rfl) rfl rfl (Nat.le_of_eq rfl) (hb hby d21_11) ?_
  intro T3 L3 u3 X3 hQ3
  obtain ⟨rfl, Nq3, e3⟩ := hQ3
  have N3 := Fr.app N2 Nq3
  show ORun p e below s _ _ _ T3 (mkF m 14 #[.val (.ref a1), .val (.int p2)] [(.ref x)])
  refine own_retA X3 hx hret rfl rfl rfl hlk (hb hby d21_14) (by decide) (by decide) ?_
  exact ⟨rfl, N3, e3⟩
theorem d18_0 : decode method_5_code 0 = .ok (.iconst 0, 1) := by decide +kernel
theorem d18_1 : decode method_5_code 1 = .ok (.istore_n 2, 1) := by decide +kernel
theorem d18_2 : decode method_5_code 2 = .ok (.aload_n 0, 1) := by decide +kernel
theorem d18_3 : decode method_5_code 3 = .ok (.iconst 0, 1) := by decide +kernel
theorem d18_4 : decode method_5_code 4 = .ok (.iaload, 1) := by decide +kernel
theorem d18_5 : decode method_5_code 5 = .ok (.aload_n 0, 1) := by decide +kernel
theorem d18_6 : decode method_5_code 6 = .ok (.iload_n 1, 1) := by decide +kernel
theorem d18_7 : decode method_5_code 7 = .ok (.iaload, 1) := by decide +kernel
theorem d18_8 : decode method_5_code 8 = .ok (.if_icmp .ne 6, 3) := by decide +kernel
theorem d18_11 : decode method_5_code 11 = .ok (.iinc 2 1, 3) := by decide +kernel
theorem d18_14 : decode method_5_code 14 = .ok (.aload_n 0, 1) := by decide +kernel
theorem d18_15 : decode method_5_code 15 = .ok (.iconst 1, 1) := by decide +kernel
theorem d18_16 : decode method_5_code 16 = .ok (.iaload, 1) := by decide +kernel
theorem d18_17 : decode method_5_code 17 = .ok (.aload_n 0, 1) := by decide +kernel
theorem d18_18 : decode method_5_code 18 = .ok (.iload_n 1, 1) := by decide +kernel
theorem d18_19 : decode method_5_code 19 = .ok (.iaload, 1) := by decide +kernel
theorem d18_20 : decode method_5_code 20 = .ok (.if_icmp .ne 6, 3) := by decide +kernel
theorem d18_23 : decode method_5_code 23 = .ok (.iinc 2 1, 3) := by decide +kernel
theorem d18_26 : decode method_5_code 26 = .ok (.aload_n 0, 1) := by decide +kernel
theorem d18_27 : decode method_5_code 27 = .ok (.iconst 2, 1) := by decide +kernel
theorem d18_28 : decode method_5_code 28 = .ok (.iaload, 1) := by decide +kernel
theorem d18_29 : decode method_5_code 29 = .ok (.aload_n 0, 1) := by decide +kernel
theorem d18_30 : decode method_5_code 30 = .ok (.iload_n 1, 1) := by decide +kernel
theorem d18_31 : decode method_5_code 31 = .ok (.iaload, 1) := by decide +kernel
theorem d18_32 : decode method_5_code 32 = .ok (.if_icmp .ne 6, 3) := by decide +kernel
theorem d18_35 : decode method_5_code 35 = .ok (.iinc 2 1, 3) := by decide +kernel
theorem d18_38 : decode method_5_code 38 = .ok (.aload_n 0, 1) := by decide +kernel
theorem d18_39 : decode method_5_code 39 = .ok (.iconst 3, 1) := by decide +kernel
theorem d18_40 : decode method_5_code 40 = .ok (.iaload, 1) := by decide +kernel
theorem d18_41 : decode method_5_code 41 = .ok (.aload_n 0, 1) := by decide +kernel
theorem d18_42 : decode method_5_code 42 = .ok (.iload_n 1, 1) := by decide +kernel
theorem d18_43 : decode method_5_code 43 = .ok (.iaload, 1) := by decide +kernel
theorem d18_44 : decode method_5_code 44 = .ok (.if_icmp .ne 6, 3) := by decide +kernel
theorem d18_47 : decode method_5_code 47 = .ok (.iinc 2 1, 3) := by decide +kernel
theorem d18_50 : decode method_5_code 50 = .ok (.aload_n 0, 1) := by decide +kernel
theorem d18_51 : decode method_5_code 51 = .ok (.iconst 4, 1) := by decide +kernel
theorem d18_52 : decode method_5_code 52 = .ok (.iaload, 1) := by decide +kernel
theorem d18_53 : decode method_5_code 53 = .ok (.aload_n 0, 1) := by decide +kernel
theorem d18_54 : decode method_5_code 54 = .ok (.iload_n 1, 1) := by decide +kernel
theorem d18_55 : decode method_5_code 55 = .ok (.iaload, 1) := by decide +kernel
theorem d18_56 : decode method_5_code 56 = .ok (.if_icmp .ne 6, 3) := by decide +kernel
theorem d18_59 : decode method_5_code 59 = .ok (.iinc 2 1, 3) := by decide +kernel
theorem d18_62 : decode method_5_code 62 = .ok (.iload_n 2, 1) := by decide +kernel
theorem d18_63 : decode method_5_code 63 = .ok (.ireturn, 1) := by decide +kernel
theorem pn_rm18 : plainName "com/example/kembar/kembar/cluster/ClustersJoinPinLaw" = true := by first | (simp [plainName, overriddenIn]; done) | decide +kernel
theorem ef_rm18 (m : MethodId) (x0 : Addr) (x1 : Int32) : entryFrame m #[(.ref x0), (.int x1)] 3 = mkF m 0 #[.val (.ref x0), .val (.int x1), .unset] [] := by first | (simp [entryFrame, mkF, argsToLocals, Value.category]; done) | rfl
set_option maxRecDepth 65536 in
set_option maxHeartbeats 40000000 in
theorem rm18 (l : Launch) (Z : State) (a0 : Array Value) (hw : ∀ d ∈ tables_1, d.before a0 Z = true) (ws : List Jvm.Cond) (h0 : Heap) (n0 : Nat) (Z0 : n0 ≤ h0.size) (a1 : Addr) (p2 l0 l1 l2 l3 l4 : Int32) (V1 : OVec Z h0 a1 .int [l0, l1, l2, l3, l4]) (hp : 0 ≤ p2.toInt ∧ p2.toInt < 5) :
    OMet l (⟨"com/example/kembar/kembar/cluster/ClustersJoinPinLaw", "size", "([II)I"⟩ : MethodName) method_5_code 3 (some .int) ws ({ frames := 0, cells := 0, slots := 0, locals := 0 } : Room) #[(.ref a1), (.int p2)] Z h0 (fun v h L' => v = some (.int (Int32.ofNat (own_cnt [l0, l1, l2, l3, l4] ([l0, l1, l2, l3, l4].getD p2.toInt.toNat 0)))) ∧ Fr n0 L' ∧ h = h0) := by
  refine own_met (plainFor_of_name pn_rm18) ?_
  intro p e s m below meth c s₁ X0 hx hby hml hown hnm hret hlk hZ e0
  rw [ef_rm18]
  have N0 := Fr.nil n0
  have rg_p2 := rng32 p2
  have hlL : [l0, l1, l2, l3, l4].length = 5 := rfl
  show ORun p e below s _ _ _ s₁ (mkF m 0 #[.val (.ref a1), .val (.int p2), .unset] [])
  refine own_by (fun t k => XS.iconst X0.here hx rfl (hb hby d18_0) k) ?_
  show ORun p e below s _ _ _ s₁ (mkF m 1 #[.val (.ref a1), .val (.int p2), .unset] [(.int (0 : Int32))])
  refine own_by (fun t k => XS.istoreN X0.here hx rfl (hb hby d18_1) rfl (l' := #[.val (.ref a1), .val (.int p2), .val (.int (0 : Int32))]) rfl k) ?_
  show ORun p e below s _ _ _ s₁ (mkF m 2 #[.val (.ref a1), .val (.int p2), .val (.int (0 : Int32))] [])
  refine own_by (fun t k => XS.aloadN X0.here hx rfl (hb hby d18_2) rfl rfl k) ?_
  show ORun p e below s _ _ _ s₁ (mkF m 3 #[.val (.ref a1), .val (.int p2), .val (.int (0 : Int32))] [(.ref a1)])
  refine own_by (fun t k => XS.iconst X0.here hx rfl (hb hby d18_3) k) ?_
  show ORun p e below s _ _ _ s₁ (mkF m 4 #[.val (.ref a1), .val (.int p2), .val (.int (0 : Int32))] [(.int (0 : Int32)), (.ref a1)])
  refine own_iaload X0 hx hZ e0 V1 (i := 0) (by decide) (by omega) (hb hby d18_4) ?_
  intro v1 hv1
  obtain rfl : l0 = v1 := hv1.symm
  show ORun p e below s _ _ _ s₁ (mkF m 5 #[.val (.ref a1), .val (.int p2), .val (.int (0 : Int32))] [(.int l0)])
  refine own_by (fun t k => XS.aloadN X0.here hx rfl (hb hby d18_5) rfl rfl k) ?_
  show ORun p e below s _ _ _ s₁ (mkF m 6 #[.val (.ref a1), .val (.int p2), .val (.int (0 : Int32))] [(.ref a1), (.int l0)])
  refine own_by (fun t k => XS.iloadN X0.here hx rfl (hb hby d18_6) rfl k) ?_
  show ORun p e below s _ _ _ s₁ (mkF m 7 #[.val (.ref a1), .val (.int p2), .val (.int (0 : Int32))] [(.int p2), (.ref a1), (.int l0)])
  refine own_iaload X0 hx hZ e0 V1 (i := p2.toInt.toNat) (by omega) (by show p2.toInt.toNat < 5; omega) (hb hby d18_7) ?_
  intro v2 hv2
  have r2 := rng32 v2
  show ORun p e below s _ _ _ s₁ (mkF m 8 #[.val (.ref a1), .val (.int p2), .val (.int (0 : Int32))] [(.int v2), (.int l0)])
  by_cases hc3 : l0 = v2
  · have t3 := own_eq hc3 (a := l0.toInt) (b := v2.toInt) rfl rfl
    refine own_by (fun t k => XS.icmpNo X0.here hx rfl (hb hby d18_8) rfl (teq hc3).2 k) ?_
    show ORun p e below s _ _ _ s₁ (mkF m 11 #[.val (.ref a1), .val (.int p2), .val (.int (0 : Int32))] [])
    refine own_by (fun t k => XS.iinc X0.here hx rfl (hb hby d18_11) rfl (l' := #[.val (.ref a1), .val (.int p2), .val (.int (1 : Int32))]) rfl k) ?_
    show ORun p e below s _ _ _ s₁ (mkF m 14 #[.val (.ref a1), .val (.int p2), .val (.int (1 : Int32))] [])
    refine own_by (fun t k => XS.aloadN X0.here hx rfl (hb hby d18_14) rfl rfl k) ?_
    show ORun p e below s _ _ _ s₁ (mkF m 15 #[.val (.ref a1), .val (.int p2), .val (.int (1 : Int32))] [(.ref a1)])
    refine own_by (fun t k => XS.iconst X0.here hx rfl (hb hby d18_15) k) ?_
    show ORun p e below s _ _ _ s₁ (mkF m 16 #[.val (.ref a1), .val (.int p2), .val (.int (1 : Int32))] [(.int (1 : Int32)), (.ref a1)])
    refine own_iaload X0 hx hZ e0 V1 (i := 1) (by decide) (by omega) (hb hby d18_16) ?_
    intro v4 hv4
    obtain rfl : l1 = v4 := hv4.symm
    show ORun p e below s _ _ _ s₁ (mkF m 17 #[.val (.ref a1), .val (.int p2), .val (.int (1 : Int32))] [(.int l1)])
    refine own_by (fun t k => XS.aloadN X0.here hx rfl (hb hby d18_17) rfl rfl k) ?_
    show ORun p e below s _ _ _ s₁ (mkF m 18 #[.val (.ref a1), .val (.int p2), .val (.int (1 : Int32))] [(.ref a1), (.int l1)])
    refine own_by (fun t k => XS.iloadN X0.here hx rfl (hb hby d18_18) rfl k) ?_
    show ORun p e below s _ _ _ s₁ (mkF m 19 #[.val (.ref a1), .val (.int p2), .val (.int (1 : Int32))] [(.int p2), (.ref a1), (.int l1)])
    refine own_iaload X0 hx hZ e0 V1 (i := p2.toInt.toNat) (by omega) (by show p2.toInt.toNat < 5; omega) (hb hby d18_19) ?_
    intro v5 hv5
    have r5 := rng32 v5
    show ORun p e below s _ _ _ s₁ (mkF m 20 #[.val (.ref a1), .val (.int p2), .val (.int (1 : Int32))] [(.int v5), (.int l1)])
    by_cases hc6 : l1 = v5
    · have t6 := own_eq hc6 (a := l1.toInt) (b := v5.toInt) rfl rfl
      refine own_by (fun t k => XS.icmpNo X0.here hx rfl (hb hby d18_20) rfl (teq hc6).2 k) ?_
      show ORun p e below s _ _ _ s₁ (mkF m 23 #[.val (.ref a1), .val (.int p2), .val (.int (1 : Int32))] [])
      refine own_by (fun t k => XS.iinc X0.here hx rfl (hb hby d18_23) rfl (l' := #[.val (.ref a1), .val (.int p2), .val (.int (2 : Int32))]) rfl k) ?_
      show ORun p e below s _ _ _ s₁ (mkF m 26 #[.val (.ref a1), .val (.int p2), .val (.int (2 : Int32))] [])
      refine own_by (fun t k => XS.aloadN X0.here hx rfl (hb hby d18_26) rfl rfl k) ?_
      show ORun p e below s _ _ _ s₁ (mkF m 27 #[.val (.ref a1), .val (.int p2), .val (.int (2 : Int32))] [(.ref a1)])
      refine own_by (fun t k => XS.iconst X0.here hx rfl (hb hby d18_27) k) ?_
      show ORun p e below s _ _ _ s₁ (mkF m 28 #[.val (.ref a1), .val (.int p2), .val (.int (2 : Int32))] [(.int (2 : Int32)), (.ref a1)])
      refine own_iaload X0 hx hZ e0 V1 (i := 2) (by decide) (by omega) (hb hby d18_28) ?_
      intro v7 hv7
      obtain rfl : l2 = v7 := hv7.symm
      show ORun p e below s _ _ _ s₁ (mkF m 29 #[.val (.ref a1), .val (.int p2), .val (.int (2 : Int32))] [(.int l2)])
      refine own_by (fun t k => XS.aloadN X0.here hx rfl (hb hby d18_29) rfl rfl k) ?_
      show ORun p e below s _ _ _ s₁ (mkF m 30 #[.val (.ref a1), .val (.int p2), .val (.int (2 : Int32))] [(.ref a1), (.int l2)])
      refine own_by (fun t k => XS.iloadN X0.here hx rfl (hb hby d18_30) rfl k) ?_
      show ORun p e below s _ _ _ s₁ (mkF m 31 #[.val (.ref a1), .val (.int p2), .val (.int (2 : Int32))] [(.int p2), (.ref a1), (.int l2)])
      refine own_iaload X0 hx hZ e0 V1 (i := p2.toInt.toNat) (by omega) (by show p2.toInt.toNat < 5; omega) (hb hby d18_31) ?_
      intro v8 hv8
      have r8 := rng32 v8
      show ORun p e below s _ _ _ s₁ (mkF m 32 #[.val (.ref a1), .val (.int p2), .val (.int (2 : Int32))] [(.int v8), (.int l2)])
      by_cases hc9 : l2 = v8
      · have t9 := own_eq hc9 (a := l2.toInt) (b := v8.toInt) rfl rfl
        refine own_by (fun t k => XS.icmpNo X0.here hx rfl (hb hby d18_32) rfl (teq hc9).2 k) ?_
        show ORun p e below s _ _ _ s₁ (mkF m 35 #[.val (.ref a1), .val (.int p2), .val (.int (2 : Int32))] [])
        refine own_by (fun t k => XS.iinc X0.here hx rfl (hb hby d18_35) rfl (l' := #[.val (.ref a1), .val (.int p2), .val (.int (3 : Int32))]) rfl k) ?_
        show ORun p e below s _ _ _ s₁ (mkF m 38 #[.val (.ref a1), .val (.int p2), .val (.int (3 : Int32))] [])
        refine own_by (fun t k => XS.aloadN X0.here hx rfl (hb hby d18_38) rfl rfl k) ?_
        show ORun p e below s _ _ _ s₁ (mkF m 39 #[.val (.ref a1), .val (.int p2), .val (.int (3 : Int32))] [(.ref a1)])
        refine own_by (fun t k => XS.iconst X0.here hx rfl (hb hby d18_39) k) ?_
        show ORun p e below s _ _ _ s₁ (mkF m 40 #[.val (.ref a1), .val (.int p2), .val (.int (3 : Int32))] [(.int (3 : Int32)), (.ref a1)])
        refine own_iaload X0 hx hZ e0 V1 (i := 3) (by decide) (by omega) (hb hby d18_40) ?_
        intro v10 hv10
        obtain rfl : l3 = v10 := hv10.symm
        show ORun p e below s _ _ _ s₁ (mkF m 41 #[.val (.ref a1), .val (.int p2), .val (.int (3 : Int32))] [(.int l3)])
        refine own_by (fun t k => XS.aloadN X0.here hx rfl (hb hby d18_41) rfl rfl k) ?_
        show ORun p e below s _ _ _ s₁ (mkF m 42 #[.val (.ref a1), .val (.int p2), .val (.int (3 : Int32))] [(.ref a1), (.int l3)])
        refine own_by (fun t k => XS.iloadN X0.here hx rfl (hb hby d18_42) rfl k) ?_
        show ORun p e below s _ _ _ s₁ (mkF m 43 #[.val (.ref a1), .val (.int p2), .val (.int (3 : Int32))] [(.int p2), (.ref a1), (.int l3)])
        refine own_iaload X0 hx hZ e0 V1 (i := p2.toInt.toNat) (by omega) (by show p2.toInt.toNat < 5; omega) (hb hby d18_43) ?_
        intro v11 hv11
        have r11 := rng32 v11
        show ORun p e below s _ _ _ s₁ (mkF m 44 #[.val (.ref a1), .val (.int p2), .val (.int (3 : Int32))] [(.int v11), (.int l3)])
        by_cases hc12 : l3 = v11
        · have t12 := own_eq hc12 (a := l3.toInt) (b := v11.toInt) rfl rfl
          refine own_by (fun t k => XS.icmpNo X0.here hx rfl (hb hby d18_44) rfl (teq hc12).2 k) ?_
          show ORun p e below s _ _ _ s₁ (mkF m 47 #[.val (.ref a1), .val (.int p2), .val (.int (3 : Int32))] [])
          refine own_by (fun t k => XS.iinc X0.here hx rfl (hb hby d18_47) rfl (l' := #[.val (.ref a1), .val (.int p2), .val (.int (4 : Int32))]) rfl k) ?_
          show ORun p e below s _ _ _ s₁ (mkF m 50 #[.val (.ref a1), .val (.int p2), .val (.int (4 : Int32))] [])
          refine own_by (fun t k => XS.aloadN X0.here hx rfl (hb hby d18_50) rfl rfl k) ?_
          show ORun p e below s _ _ _ s₁ (mkF m 51 #[.val (.ref a1), .val (.int p2), .val (.int (4 : Int32))] [(.ref a1)])
          refine own_by (fun t k => XS.iconst X0.here hx rfl (hb hby d18_51) k) ?_
          show ORun p e below s _ _ _ s₁ (mkF m 52 #[.val (.ref a1), .val (.int p2), .val (.int (4 : Int32))] [(.int (4 : Int32)), (.ref a1)])
          refine own_iaload X0 hx hZ e0 V1 (i := 4) (by decide) (by omega) (hb hby d18_52) ?_
          intro v13 hv13
          obtain rfl : l4 = v13 := hv13.symm
          show ORun p e below s _ _ _ s₁ (mkF m 53 #[.val (.ref a1), .val (.int p2), .val (.int (4 : Int32))] [(.int l4)])
          refine own_by (fun t k => XS.aloadN X0.here hx rfl (hb hby d18_53) rfl rfl k) ?_
          show ORun p e below s _ _ _ s₁ (mkF m 54 #[.val (.ref a1), .val (.int p2), .val (.int (4 : Int32))] [(.ref a1), (.int l4)])
          refine own_by (fun t k => XS.iloadN X0.here hx rfl (hb hby d18_54) rfl k) ?_
          show ORun p e below s _ _ _ s₁ (mkF m 55 #[.val (.ref a1), .val (.int p2), .val (.int (4 : Int32))] [(.int p2), (.ref a1), (.int l4)])
          refine own_iaload X0 hx hZ e0 V1 (i := p2.toInt.toNat) (by omega) (by show p2.toInt.toNat < 5; omega) (hb hby d18_55) ?_
          intro v14 hv14
          have r14 := rng32 v14
          show ORun p e below s _ _ _ s₁ (mkF m 56 #[.val (.ref a1), .val (.int p2), .val (.int (4 : Int32))] [(.int v14), (.int l4)])
          by_cases hc15 : l4 = v14
          · have t15 := own_eq hc15 (a := l4.toInt) (b := v14.toInt) rfl rfl
            refine own_by (fun t k => XS.icmpNo X0.here hx rfl (hb hby d18_56) rfl (teq hc15).2 k) ?_
            show ORun p e below s _ _ _ s₁ (mkF m 59 #[.val (.ref a1), .val (.int p2), .val (.int (4 : Int32))] [])
            refine own_by (fun t k => XS.iinc X0.here hx rfl (hb hby d18_59) rfl (l' := #[.val (.ref a1), .val (.int p2), .val (.int (5 : Int32))]) rfl k) ?_
            show ORun p e below s _ _ _ s₁ (mkF m 62 #[.val (.ref a1), .val (.int p2), .val (.int (5 : Int32))] [])
            refine own_by (fun t k => XS.iloadN X0.here hx rfl (hb hby d18_62) rfl k) ?_
            show ORun p e below s _ _ _ s₁ (mkF m 63 #[.val (.ref a1), .val (.int p2), .val (.int (5 : Int32))] [(.int (5 : Int32))])
            refine own_retI X0 hx hret hlk (hb hby d18_63) (by decide) (by decide) ?_
            rw [hv2] at hc3
            rw [hv5] at hc6
            rw [hv8] at hc9
            rw [hv11] at hc12
            rw [hv14] at hc15
            have ez : own_cnt [l0, l1, l2, l3, l4] ([l0, l1, l2, l3, l4].getD p2.toInt.toNat 0) = 5 := by
              show (if l0 = _ then 1 else 0) + ((if l1 = _ then 1 else 0) + ((if l2 = _ then 1 else 0) + ((if l3 = _ then 1 else 0) + ((if l4 = _ then 1 else 0) + 0)))) = _
              rw [if_pos hc3, if_pos hc6, if_pos hc9, if_pos hc12, if_pos hc15]
            exact ⟨by rw [ez]; rfl, N0, e0⟩
          · have t15 := own_ne hc15 (a := l4.toInt) (b := v14.toInt) rfl rfl
            refine own_by (fun t k => XS.icmpYes X0.here hx rfl (pc0 := 56) (pc' := 62) rfl (hb hby d18_56) rfl (feq hc15).2 (by decide) (by decide) k) ?_
            show ORun p e below s _ _ _ s₁ (mkF m 62 #[.val (.ref a1), .val (.int p2), .val (.int (4 : Int32))] [])
            refine own_by (fun t k => XS.iloadN X0.here hx rfl (hb hby d18_62) rfl k) ?_
            show ORun p e below s _ _ _ s₁ (mkF m 63 #[.val (.ref a1), .val (.int p2), .val (.int (4 : Int32))] [(.int (4 : Int32))])
            refine own_retI X0 hx hret hlk (hb hby d18_63) (by decide) (by decide) ?_
            rw [hv2] at hc3
            rw [hv5] at hc6
            rw [hv8] at hc9
            rw [hv11] at hc12
            rw [hv14] at hc15
            have ez : own_cnt [l0, l1, l2, l3, l4] ([l0, l1, l2, l3, l4].getD p2.toInt.toNat 0) = 4 := by
              show (if l0 = _ then 1 else 0) + ((if l1 = _ then 1 else 0) + ((if l2 = _ then 1 else 0) + ((if l3 = _ then 1 else 0) + ((if l4 = _ then 1 else 0) + 0)))) = _
              rw [if_pos hc3, if_pos hc6, if_pos hc9, if_pos hc12, if_neg hc15]
            exact ⟨by rw [ez]; rfl, N0, e0⟩
        · have t12 := own_ne hc12 (a := l3.toInt) (b := v11.toInt) rfl rfl
          refine own_by (fun t k => XS.icmpYes X0.here hx rfl (pc0 := 44) (pc' := 50) rfl (hb hby d18_44) rfl (feq hc12).2 (by decide) (by decide) k) ?_
          show ORun p e below s _ _ _ s₁ (mkF m 50 #[.val (.ref a1), .val (.int p2), .val (.int (3 : Int32))] [])
          refine own_by (fun t k => XS.aloadN X0.here hx rfl (hb hby d18_50) rfl rfl k) ?_
          show ORun p e below s _ _ _ s₁ (mkF m 51 #[.val (.ref a1), .val (.int p2), .val (.int (3 : Int32))] [(.ref a1)])
          refine own_by (fun t k => XS.iconst X0.here hx rfl (hb hby d18_51) k) ?_
          show ORun p e below s _ _ _ s₁ (mkF m 52 #[.val (.ref a1), .val (.int p2), .val (.int (3 : Int32))] [(.int (4 : Int32)), (.ref a1)])
          refine own_iaload X0 hx hZ e0 V1 (i := 4) (by decide) (by omega) (hb hby d18_52) ?_
          intro v16 hv16
          obtain rfl : l4 = v16 := hv16.symm
          show ORun p e below s _ _ _ s₁ (mkF m 53 #[.val (.ref a1), .val (.int p2), .val (.int (3 : Int32))] [(.int l4)])
          refine own_by (fun t k => XS.aloadN X0.here hx rfl (hb hby d18_53) rfl rfl k) ?_
          show ORun p e below s _ _ _ s₁ (mkF m 54 #[.val (.ref a1), .val (.int p2), .val (.int (3 : Int32))] [(.ref a1), (.int l4)])
          refine own_by (fun t k => XS.iloadN X0.here hx rfl (hb hby d18_54) rfl k) ?_
          show ORun p e below s _ _ _ s₁ (mkF m 55 #[.val (.ref a1), .val (.int p2), .val (.int (3 : Int32))] [(.int p2), (.ref a1), (.int l4)])
          refine own_iaload X0 hx hZ e0 V1 (i := p2.toInt.toNat) (by omega) (by show p2.toInt.toNat < 5; omega) (hb hby d18_55) ?_
          intro v17 hv17
          have r17 := rng32 v17
          show ORun p e below s _ _ _ s₁ (mkF m 56 #[.val (.ref a1), .val (.int p2), .val (.int (3 : Int32))] [(.int v17), (.int l4)])
          by_cases hc18 : l4 = v17
          · have t18 := own_eq hc18 (a := l4.toInt) (b := v17.toInt) rfl rfl
            refine own_by (fun t k => XS.icmpNo X0.here hx rfl (hb hby d18_56) rfl (teq hc18).2 k) ?_
            show ORun p e below s _ _ _ s₁ (mkF m 59 #[.val (.ref a1), .val (.int p2), .val (.int (3 : Int32))] [])
            refine own_by (fun t k => XS.iinc X0.here hx rfl (hb hby d18_59) rfl (l' := #[.val (.ref a1), .val (.int p2), .val (.int (4 : Int32))]) rfl k) ?_
            show ORun p e below s _ _ _ s₁ (mkF m 62 #[.val (.ref a1), .val (.int p2), .val (.int (4 : Int32))] [])
            refine own_by (fun t k => XS.iloadN X0.here hx rfl (hb hby d18_62) rfl k) ?_
            show ORun p e below s _ _ _ s₁ (mkF m 63 #[.val (.ref a1), .val (.int p2), .val (.int (4 : Int32))] [(.int (4 : Int32))])
            refine own_retI X0 hx hret hlk (hb hby d18_63) (by decide) (by decide) ?_
            rw [hv2] at hc3
            rw [hv5] at hc6
            rw [hv8] at hc9
            rw [hv11] at hc12
            rw [hv17] at hc18
            have ez : own_cnt [l0, l1, l2, l3, l4] ([l0, l1, l2, l3, l4].getD p2.toInt.toNat 0) = 4 := by
              show (if l0 = _ then 1 else 0) + ((if l1 = _ then 1 else 0) + ((if l2 = _ then 1 else 0) + ((if l3 = _ then 1 else 0) + ((if l4 = _ then 1 else 0) + 0)))) = _
              rw [if_pos hc3, if_pos hc6, if_pos hc9, if_neg hc12, if_pos hc18]
            exact ⟨by rw [ez]; rfl, N0, e0⟩
          · have t18 := own_ne hc18 (a := l4.toInt) (b := v17.toInt) rfl rfl
            refine own_by (fun t k => XS.icmpYes X0.here hx rfl (pc0 := 56) (pc' := 62) rfl (hb hby d18_56) rfl (feq hc18).2 (by decide) (by decide) k) ?_
            show ORun p e below s _ _ _ s₁ (mkF m 62 #[.val (.ref a1), .val (.int p2), .val (.int (3 : Int32))] [])
            refine own_by (fun t k => XS.iloadN X0.here hx rfl (hb hby d18_62) rfl k) ?_
            show ORun p e below s _ _ _ s₁ (mkF m 63 #[.val (.ref a1), .val (.int p2), .val (.int (3 : Int32))] [(.int (3 : Int32))])
            refine own_retI X0 hx hret hlk (hb hby d18_63) (by decide) (by decide) ?_
            rw [hv2] at hc3
            rw [hv5] at hc6
            rw [hv8] at hc9
            rw [hv11] at hc12
            rw [hv17] at hc18
            have ez : own_cnt [l0, l1, l2, l3, l4] ([l0, l1, l2, l3, l4].getD p2.toInt.toNat 0) = 3 := by
              show (if l0 = _ then 1 else 0) + ((if l1 = _ then 1 else 0) + ((if l2 = _ then 1 else 0) + ((if l3 = _ then 1 else 0) + ((if l4 = _ then 1 else 0) + 0)))) = _
              rw [if_pos hc3, if_pos hc6, if_pos hc9, if_neg hc12, if_neg hc18]
            exact ⟨by rw [ez]; rfl, N0, e0⟩
      · have t9 := own_ne hc9 (a := l2.toInt) (b := v8.toInt) rfl rfl
        refine own_by (fun t k => XS.icmpYes X0.here hx rfl (pc0 := 32) (pc' := 38) rfl (hb hby d18_32) rfl (feq hc9).2 (by decide) (by decide) k) ?_
        show ORun p e below s _ _ _ s₁ (mkF m 38 #[.val (.ref a1), .val (.int p2), .val (.int (2 : Int32))] [])
        refine own_by (fun t k => XS.aloadN X0.here hx rfl (hb hby d18_38) rfl rfl k) ?_
        show ORun p e below s _ _ _ s₁ (mkF m 39 #[.val (.ref a1), .val (.int p2), .val (.int (2 : Int32))] [(.ref a1)])
        refine own_by (fun t k => XS.iconst X0.here hx rfl (hb hby d18_39) k) ?_
        show ORun p e below s _ _ _ s₁ (mkF m 40 #[.val (.ref a1), .val (.int p2), .val (.int (2 : Int32))] [(.int (3 : Int32)), (.ref a1)])
        refine own_iaload X0 hx hZ e0 V1 (i := 3) (by decide) (by omega) (hb hby d18_40) ?_
        intro v19 hv19
        obtain rfl : l3 = v19 := hv19.symm
        show ORun p e below s _ _ _ s₁ (mkF m 41 #[.val (.ref a1), .val (.int p2), .val (.int (2 : Int32))] [(.int l3)])
        refine own_by (fun t k => XS.aloadN X0.here hx rfl (hb hby d18_41) rfl rfl k) ?_
        show ORun p e below s _ _ _ s₁ (mkF m 42 #[.val (.ref a1), .val (.int p2), .val (.int (2 : Int32))] [(.ref a1), (.int l3)])
        refine own_by (fun t k => XS.iloadN X0.here hx rfl (hb hby d18_42) rfl k) ?_
        show ORun p e below s _ _ _ s₁ (mkF m 43 #[.val (.ref a1), .val (.int p2), .val (.int (2 : Int32))] [(.int p2), (.ref a1), (.int l3)])
        refine own_iaload X0 hx hZ e0 V1 (i := p2.toInt.toNat) (by omega) (by show p2.toInt.toNat < 5; omega) (hb hby d18_43) ?_
        intro v20 hv20
        have r20 := rng32 v20
        show ORun p e below s _ _ _ s₁ (mkF m 44 #[.val (.ref a1), .val (.int p2), .val (.int (2 : Int32))] [(.int v20), (.int l3)])
        by_cases hc21 : l3 = v20
        · have t21 := own_eq hc21 (a := l3.toInt) (b := v20.toInt) rfl rfl
          refine own_by (fun t k => XS.icmpNo X0.here hx rfl (hb hby d18_44) rfl (teq hc21).2 k) ?_
          show ORun p e below s _ _ _ s₁ (mkF m 47 #[.val (.ref a1), .val (.int p2), .val (.int (2 : Int32))] [])
          refine own_by (fun t k => XS.iinc X0.here hx rfl (hb hby d18_47) rfl (l' := #[.val (.ref a1), .val (.int p2), .val (.int (3 : Int32))]) rfl k) ?_
          show ORun p e below s _ _ _ s₁ (mkF m 50 #[.val (.ref a1), .val (.int p2), .val (.int (3 : Int32))] [])
          refine own_by (fun t k => XS.aloadN X0.here hx rfl (hb hby d18_50) rfl rfl k) ?_
          show ORun p e below s _ _ _ s₁ (mkF m 51 #[.val (.ref a1), .val (.int p2), .val (.int (3 : Int32))] [(.ref a1)])
          refine own_by (fun t k => XS.iconst X0.here hx rfl (hb hby d18_51) k) ?_
          show ORun p e below s _ _ _ s₁ (mkF m 52 #[.val (.ref a1), .val (.int p2), .val (.int (3 : Int32))] [(.int (4 : Int32)), (.ref a1)])
          refine own_iaload X0 hx hZ e0 V1 (i := 4) (by decide) (by omega) (hb hby d18_52) ?_
          intro v22 hv22
          obtain rfl : l4 = v22 := hv22.symm
          show ORun p e below s _ _ _ s₁ (mkF m 53 #[.val (.ref a1), .val (.int p2), .val (.int (3 : Int32))] [(.int l4)])
          refine own_by (fun t k => XS.aloadN X0.here hx rfl (hb hby d18_53) rfl rfl k) ?_
          show ORun p e below s _ _ _ s₁ (mkF m 54 #[.val (.ref a1), .val (.int p2), .val (.int (3 : Int32))] [(.ref a1), (.int l4)])
          refine own_by (fun t k => XS.iloadN X0.here hx rfl (hb hby d18_54) rfl k) ?_
          show ORun p e below s _ _ _ s₁ (mkF m 55 #[.val (.ref a1), .val (.int p2), .val (.int (3 : Int32))] [(.int p2), (.ref a1), (.int l4)])
          refine own_iaload X0 hx hZ e0 V1 (i := p2.toInt.toNat) (by omega) (by show p2.toInt.toNat < 5; omega) (hb hby d18_55) ?_
          intro v23 hv23
          have r23 := rng32 v23
          show ORun p e below s _ _ _ s₁ (mkF m 56 #[.val (.ref a1), .val (.int p2), .val (.int (3 : Int32))] [(.int v23), (.int l4)])
          by_cases hc24 : l4 = v23
          · have t24 := own_eq hc24 (a := l4.toInt) (b := v23.toInt) rfl rfl
            refine own_by (fun t k => XS.icmpNo X0.here hx rfl (hb hby d18_56) rfl (teq hc24).2 k) ?_
            show ORun p e below s _ _ _ s₁ (mkF m 59 #[.val (.ref a1), .val (.int p2), .val (.int (3 : Int32))] [])
            refine own_by (fun t k => XS.iinc X0.here hx rfl (hb hby d18_59) rfl (l' := #[.val (.ref a1), .val (.int p2), .val (.int (4 : Int32))]) rfl k) ?_
            show ORun p e below s _ _ _ s₁ (mkF m 62 #[.val (.ref a1), .val (.int p2), .val (.int (4 : Int32))] [])
            refine own_by (fun t k => XS.iloadN X0.here hx rfl (hb hby d18_62) rfl k) ?_
            show ORun p e below s _ _ _ s₁ (mkF m 63 #[.val (.ref a1), .val (.int p2), .val (.int (4 : Int32))] [(.int (4 : Int32))])
            refine own_retI X0 hx hret hlk (hb hby d18_63) (by decide) (by decide) ?_
            rw [hv2] at hc3
            rw [hv5] at hc6
            rw [hv8] at hc9
            rw [hv20] at hc21
            rw [hv23] at hc24
            have ez : own_cnt [l0, l1, l2, l3, l4] ([l0, l1, l2, l3, l4].getD p2.toInt.toNat 0) = 4 := by
              show (if l0 = _ then 1 else 0) + ((if l1 = _ then 1 else 0) + ((if l2 = _ then 1 else 0) + ((if l3 = _ then 1 else 0) + ((if l4 = _ then 1 else 0) + 0)))) = _
              rw [if_pos hc3, if_pos hc6, if_neg hc9, if_pos hc21, if_pos hc24]
            exact ⟨by rw [ez]; rfl, N0, e0⟩
          · have t24 := own_ne hc24 (a := l4.toInt) (b := v23.toInt) rfl rfl
            refine own_by (fun t k => XS.icmpYes X0.here hx rfl (pc0 := 56) (pc' := 62) rfl (hb hby d18_56) rfl (feq hc24).2 (by decide) (by decide) k) ?_
            show ORun p e below s _ _ _ s₁ (mkF m 62 #[.val (.ref a1), .val (.int p2), .val (.int (3 : Int32))] [])
            refine own_by (fun t k => XS.iloadN X0.here hx rfl (hb hby d18_62) rfl k) ?_
            show ORun p e below s _ _ _ s₁ (mkF m 63 #[.val (.ref a1), .val (.int p2), .val (.int (3 : Int32))] [(.int (3 : Int32))])
            refine own_retI X0 hx hret hlk (hb hby d18_63) (by decide) (by decide) ?_
            rw [hv2] at hc3
            rw [hv5] at hc6
            rw [hv8] at hc9
            rw [hv20] at hc21
            rw [hv23] at hc24
            have ez : own_cnt [l0, l1, l2, l3, l4] ([l0, l1, l2, l3, l4].getD p2.toInt.toNat 0) = 3 := by
              show (if l0 = _ then 1 else 0) + ((if l1 = _ then 1 else 0) + ((if l2 = _ then 1 else 0) + ((if l3 = _ then 1 else 0) + ((if l4 = _ then 1 else 0) + 0)))) = _
              rw [if_pos hc3, if_pos hc6, if_neg hc9, if_pos hc21, if_neg hc24]
            exact ⟨by rw [ez]; rfl, N0, e0⟩
        · have t21 := own_ne hc21 (a := l3.toInt) (b := v20.toInt) rfl rfl
          refine own_by (fun t k => XS.icmpYes X0.here hx rfl (pc0 := 44) (pc' := 50) rfl (hb hby d18_44) rfl (feq hc21).2 (by decide) (by decide) k) ?_
          show ORun p e below s _ _ _ s₁ (mkF m 50 #[.val (.ref a1), .val (.int p2), .val (.int (2 : Int32))] [])
          refine own_by (fun t k => XS.aloadN X0.here hx rfl (hb hby d18_50) rfl rfl k) ?_
          show ORun p e below s _ _ _ s₁ (mkF m 51 #[.val (.ref a1), .val (.int p2), .val (.int (2 : Int32))] [(.ref a1)])
          refine own_by (fun t k => XS.iconst X0.here hx rfl (hb hby d18_51) k) ?_
          show ORun p e below s _ _ _ s₁ (mkF m 52 #[.val (.ref a1), .val (.int p2), .val (.int (2 : Int32))] [(.int (4 : Int32)), (.ref a1)])
          refine own_iaload X0 hx hZ e0 V1 (i := 4) (by decide) (by omega) (hb hby d18_52) ?_
          intro v25 hv25
          obtain rfl : l4 = v25 := hv25.symm
          show ORun p e below s _ _ _ s₁ (mkF m 53 #[.val (.ref a1), .val (.int p2), .val (.int (2 : Int32))] [(.int l4)])
          refine own_by (fun t k => XS.aloadN X0.here hx rfl (hb hby d18_53) rfl rfl k) ?_
          show ORun p e below s _ _ _ s₁ (mkF m 54 #[.val (.ref a1), .val (.int p2), .val (.int (2 : Int32))] [(.ref a1), (.int l4)])
          refine own_by (fun t k => XS.iloadN X0.here hx rfl (hb hby d18_54) rfl k) ?_
          show ORun p e below s _ _ _ s₁ (mkF m 55 #[.val (.ref a1), .val (.int p2), .val (.int (2 : Int32))] [(.int p2), (.ref a1), (.int l4)])
          refine own_iaload X0 hx hZ e0 V1 (i := p2.toInt.toNat) (by omega) (by show p2.toInt.toNat < 5; omega) (hb hby d18_55) ?_
          intro v26 hv26
          have r26 := rng32 v26
          show ORun p e below s _ _ _ s₁ (mkF m 56 #[.val (.ref a1), .val (.int p2), .val (.int (2 : Int32))] [(.int v26), (.int l4)])
          by_cases hc27 : l4 = v26
          · have t27 := own_eq hc27 (a := l4.toInt) (b := v26.toInt) rfl rfl
            refine own_by (fun t k => XS.icmpNo X0.here hx rfl (hb hby d18_56) rfl (teq hc27).2 k) ?_
            show ORun p e below s _ _ _ s₁ (mkF m 59 #[.val (.ref a1), .val (.int p2), .val (.int (2 : Int32))] [])
            refine own_by (fun t k => XS.iinc X0.here hx rfl (hb hby d18_59) rfl (l' := #[.val (.ref a1), .val (.int p2), .val (.int (3 : Int32))]) rfl k) ?_
            show ORun p e below s _ _ _ s₁ (mkF m 62 #[.val (.ref a1), .val (.int p2), .val (.int (3 : Int32))] [])
            refine own_by (fun t k => XS.iloadN X0.here hx rfl (hb hby d18_62) rfl k) ?_
            show ORun p e below s _ _ _ s₁ (mkF m 63 #[.val (.ref a1), .val (.int p2), .val (.int (3 : Int32))] [(.int (3 : Int32))])
            refine own_retI X0 hx hret hlk (hb hby d18_63) (by decide) (by decide) ?_
            rw [hv2] at hc3
            rw [hv5] at hc6
            rw [hv8] at hc9
            rw [hv20] at hc21
            rw [hv26] at hc27
            have ez : own_cnt [l0, l1, l2, l3, l4] ([l0, l1, l2, l3, l4].getD p2.toInt.toNat 0) = 3 := by
              show (if l0 = _ then 1 else 0) + ((if l1 = _ then 1 else 0) + ((if l2 = _ then 1 else 0) + ((if l3 = _ then 1 else 0) + ((if l4 = _ then 1 else 0) + 0)))) = _
              rw [if_pos hc3, if_pos hc6, if_neg hc9, if_neg hc21, if_pos hc27]
            exact ⟨by rw [ez]; rfl, N0, e0⟩
          · have t27 := own_ne hc27 (a := l4.toInt) (b := v26.toInt) rfl rfl
            refine own_by (fun t k => XS.icmpYes X0.here hx rfl (pc0 := 56) (pc' := 62) rfl (hb hby d18_56) rfl (feq hc27).2 (by decide) (by decide) k) ?_
            show ORun p e below s _ _ _ s₁ (mkF m 62 #[.val (.ref a1), .val (.int p2), .val (.int (2 : Int32))] [])
            refine own_by (fun t k => XS.iloadN X0.here hx rfl (hb hby d18_62) rfl k) ?_
            show ORun p e below s _ _ _ s₁ (mkF m 63 #[.val (.ref a1), .val (.int p2), .val (.int (2 : Int32))] [(.int (2 : Int32))])
            refine own_retI X0 hx hret hlk (hb hby d18_63) (by decide) (by decide) ?_
            rw [hv2] at hc3
            rw [hv5] at hc6
            rw [hv8] at hc9
            rw [hv20] at hc21
            rw [hv26] at hc27
            have ez : own_cnt [l0, l1, l2, l3, l4] ([l0, l1, l2, l3, l4].getD p2.toInt.toNat 0) = 2 := by
              show (if l0 = _ then 1 else 0) + ((if l1 = _ then 1 else 0) + ((if l2 = _ then 1 else 0) + ((if l3 = _ then 1 else 0) + ((if l4 = _ then 1 else 0) + 0)))) = _
              rw [if_pos hc3, if_pos hc6, if_neg hc9, if_neg hc21, if_neg hc27]
            exact ⟨by rw [ez]; rfl, N0, e0⟩
    · have t6 := own_ne hc6 (a := l1.toInt) (b := v5.toInt) rfl rfl
      refine own_by (fun t k => XS.icmpYes X0.here hx rfl (pc0 := 20) (pc' := 26) rfl (hb hby d18_20) rfl (feq hc6).2 (by decide) (by decide) k) ?_
      show ORun p e below s _ _ _ s₁ (mkF m 26 #[.val (.ref a1), .val (.int p2), .val (.int (1 : Int32))] [])
      refine own_by (fun t k => XS.aloadN X0.here hx rfl (hb hby d18_26) rfl rfl k) ?_
      show ORun p e below s _ _ _ s₁ (mkF m 27 #[.val (.ref a1), .val (.int p2), .val (.int (1 : Int32))] [(.ref a1)])
      refine own_by (fun t k => XS.iconst X0.here hx rfl (hb hby d18_27) k) ?_
      show ORun p e below s _ _ _ s₁ (mkF m 28 #[.val (.ref a1), .val (.int p2), .val (.int (1 : Int32))] [(.int (2 : Int32)), (.ref a1)])
      refine own_iaload X0 hx hZ e0 V1 (i := 2) (by decide) (by omega) (hb hby d18_28) ?_
      intro v28 hv28
      obtain rfl : l2 = v28 := hv28.symm
      show ORun p e below s _ _ _ s₁ (mkF m 29 #[.val (.ref a1), .val (.int p2), .val (.int (1 : Int32))] [(.int l2)])
      refine own_by (fun t k => XS.aloadN X0.here hx rfl (hb hby d18_29) rfl rfl k) ?_
      show ORun p e below s _ _ _ s₁ (mkF m 30 #[.val (.ref a1), .val (.int p2), .val (.int (1 : Int32))] [(.ref a1), (.int l2)])
      refine own_by (fun t k => XS.iloadN X0.here hx rfl (hb hby d18_30) rfl k) ?_
      show ORun p e below s _ _ _ s₁ (mkF m 31 #[.val (.ref a1), .val (.int p2), .val (.int (1 : Int32))] [(.int p2), (.ref a1), (.int l2)])
      refine own_iaload X0 hx hZ e0 V1 (i := p2.toInt.toNat) (by omega) (by show p2.toInt.toNat < 5; omega) (hb hby d18_31) ?_
      intro v29 hv29
      have r29 := rng32 v29
      show ORun p e below s _ _ _ s₁ (mkF m 32 #[.val (.ref a1), .val (.int p2), .val (.int (1 : Int32))] [(.int v29), (.int l2)])
      by_cases hc30 : l2 = v29
      · have t30 := own_eq hc30 (a := l2.toInt) (b := v29.toInt) rfl rfl
        refine own_by (fun t k => XS.icmpNo X0.here hx rfl (hb hby d18_32) rfl (teq hc30).2 k) ?_
        show ORun p e below s _ _ _ s₁ (mkF m 35 #[.val (.ref a1), .val (.int p2), .val (.int (1 : Int32))] [])
        refine own_by (fun t k => XS.iinc X0.here hx rfl (hb hby d18_35) rfl (l' := #[.val (.ref a1), .val (.int p2), .val (.int (2 : Int32))]) rfl k) ?_
        show ORun p e below s _ _ _ s₁ (mkF m 38 #[.val (.ref a1), .val (.int p2), .val (.int (2 : Int32))] [])
        refine own_by (fun t k => XS.aloadN X0.here hx rfl (hb hby d18_38) rfl rfl k) ?_
        show ORun p e below s _ _ _ s₁ (mkF m 39 #[.val (.ref a1), .val (.int p2), .val (.int (2 : Int32))] [(.ref a1)])
        refine own_by (fun t k => XS.iconst X0.here hx rfl (hb hby d18_39) k) ?_
        show ORun p e below s _ _ _ s₁ (mkF m 40 #[.val (.ref a1), .val (.int p2), .val (.int (2 : Int32))] [(.int (3 : Int32)), (.ref a1)])
        refine own_iaload X0 hx hZ e0 V1 (i := 3) (by decide) (by omega) (hb hby d18_40) ?_
        intro v31 hv31
        obtain rfl : l3 = v31 := hv31.symm
        show ORun p e below s _ _ _ s₁ (mkF m 41 #[.val (.ref a1), .val (.int p2), .val (.int (2 : Int32))] [(.int l3)])
        refine own_by (fun t k => XS.aloadN X0.here hx rfl (hb hby d18_41) rfl rfl k) ?_
        show ORun p e below s _ _ _ s₁ (mkF m 42 #[.val (.ref a1), .val (.int p2), .val (.int (2 : Int32))] [(.ref a1), (.int l3)])
        refine own_by (fun t k => XS.iloadN X0.here hx rfl (hb hby d18_42) rfl k) ?_
        show ORun p e below s _ _ _ s₁ (mkF m 43 #[.val (.ref a1), .val (.int p2), .val (.int (2 : Int32))] [(.int p2), (.ref a1), (.int l3)])
        refine own_iaload X0 hx hZ e0 V1 (i := p2.toInt.toNat) (by omega) (by show p2.toInt.toNat < 5; omega) (hb hby d18_43) ?_
        intro v32 hv32
        have r32 := rng32 v32
        show ORun p e below s _ _ _ s₁ (mkF m 44 #[.val (.ref a1), .val (.int p2), .val (.int (2 : Int32))] [(.int v32), (.int l3)])
        by_cases hc33 : l3 = v32
        · have t33 := own_eq hc33 (a := l3.toInt) (b := v32.toInt) rfl rfl
          refine own_by (fun t k => XS.icmpNo X0.here hx rfl (hb hby d18_44) rfl (teq hc33).2 k) ?_
          show ORun p e below s _ _ _ s₁ (mkF m 47 #[.val (.ref a1), .val (.int p2), .val (.int (2 : Int32))] [])
          refine own_by (fun t k => XS.iinc X0.here hx rfl (hb hby d18_47) rfl (l' := #[.val (.ref a1), .val (.int p2), .val (.int (3 : Int32))]) rfl k) ?_
          show ORun p e below s _ _ _ s₁ (mkF m 50 #[.val (.ref a1), .val (.int p2), .val (.int (3 : Int32))] [])
          refine own_by (fun t k => XS.aloadN X0.here hx rfl (hb hby d18_50) rfl rfl k) ?_
          show ORun p e below s _ _ _ s₁ (mkF m 51 #[.val (.ref a1), .val (.int p2), .val (.int (3 : Int32))] [(.ref a1)])
          refine own_by (fun t k => XS.iconst X0.here hx rfl (hb hby d18_51) k) ?_
          show ORun p e below s _ _ _ s₁ (mkF m 52 #[.val (.ref a1), .val (.int p2), .val (.int (3 : Int32))] [(.int (4 : Int32)), (.ref a1)])
          refine own_iaload X0 hx hZ e0 V1 (i := 4) (by decide) (by omega) (hb hby d18_52) ?_
          intro v34 hv34
          obtain rfl : l4 = v34 := hv34.symm
          show ORun p e below s _ _ _ s₁ (mkF m 53 #[.val (.ref a1), .val (.int p2), .val (.int (3 : Int32))] [(.int l4)])
          refine own_by (fun t k => XS.aloadN X0.here hx rfl (hb hby d18_53) rfl rfl k) ?_
          show ORun p e below s _ _ _ s₁ (mkF m 54 #[.val (.ref a1), .val (.int p2), .val (.int (3 : Int32))] [(.ref a1), (.int l4)])
          refine own_by (fun t k => XS.iloadN X0.here hx rfl (hb hby d18_54) rfl k) ?_
          show ORun p e below s _ _ _ s₁ (mkF m 55 #[.val (.ref a1), .val (.int p2), .val (.int (3 : Int32))] [(.int p2), (.ref a1), (.int l4)])
          refine own_iaload X0 hx hZ e0 V1 (i := p2.toInt.toNat) (by omega) (by show p2.toInt.toNat < 5; omega) (hb hby d18_55) ?_
          intro v35 hv35
          have r35 := rng32 v35
          show ORun p e below s _ _ _ s₁ (mkF m 56 #[.val (.ref a1), .val (.int p2), .val (.int (3 : Int32))] [(.int v35), (.int l4)])
          by_cases hc36 : l4 = v35
          · have t36 := own_eq hc36 (a := l4.toInt) (b := v35.toInt) rfl rfl
            refine own_by (fun t k => XS.icmpNo X0.here hx rfl (hb hby d18_56) rfl (teq hc36).2 k) ?_
            show ORun p e below s _ _ _ s₁ (mkF m 59 #[.val (.ref a1), .val (.int p2), .val (.int (3 : Int32))] [])
            refine own_by (fun t k => XS.iinc X0.here hx rfl (hb hby d18_59) rfl (l' := #[.val (.ref a1), .val (.int p2), .val (.int (4 : Int32))]) rfl k) ?_
            show ORun p e below s _ _ _ s₁ (mkF m 62 #[.val (.ref a1), .val (.int p2), .val (.int (4 : Int32))] [])
            refine own_by (fun t k => XS.iloadN X0.here hx rfl (hb hby d18_62) rfl k) ?_
            show ORun p e below s _ _ _ s₁ (mkF m 63 #[.val (.ref a1), .val (.int p2), .val (.int (4 : Int32))] [(.int (4 : Int32))])
            refine own_retI X0 hx hret hlk (hb hby d18_63) (by decide) (by decide) ?_
            rw [hv2] at hc3
            rw [hv5] at hc6
            rw [hv29] at hc30
            rw [hv32] at hc33
            rw [hv35] at hc36
            have ez : own_cnt [l0, l1, l2, l3, l4] ([l0, l1, l2, l3, l4].getD p2.toInt.toNat 0) = 4 := by
              show (if l0 = _ then 1 else 0) + ((if l1 = _ then 1 else 0) + ((if l2 = _ then 1 else 0) + ((if l3 = _ then 1 else 0) + ((if l4 = _ then 1 else 0) + 0)))) = _
              rw [if_pos hc3, if_neg hc6, if_pos hc30, if_pos hc33, if_pos hc36]
            exact ⟨by rw [ez]; rfl, N0, e0⟩
          · have t36 := own_ne hc36 (a := l4.toInt) (b := v35.toInt) rfl rfl
            refine own_by (fun t k => XS.icmpYes X0.here hx rfl (pc0 := 56) (pc' := 62) rfl (hb hby d18_56) rfl (feq hc36).2 (by decide) (by decide) k) ?_
            show ORun p e below s _ _ _ s₁ (mkF m 62 #[.val (.ref a1), .val (.int p2), .val (.int (3 : Int32))] [])
            refine own_by (fun t k => XS.iloadN X0.here hx rfl (hb hby d18_62) rfl k) ?_
            show ORun p e below s _ _ _ s₁ (mkF m 63 #[.val (.ref a1), .val (.int p2), .val (.int (3 : Int32))] [(.int (3 : Int32))])
            refine own_retI X0 hx hret hlk (hb hby d18_63) (by decide) (by decide) ?_
            rw [hv2] at hc3
            rw [hv5] at hc6
            rw [hv29] at hc30
            rw [hv32] at hc33
            rw [hv35] at hc36
            have ez : own_cnt [l0, l1, l2, l3, l4] ([l0, l1, l2, l3, l4].getD p2.toInt.toNat 0) = 3 := by
              show (if l0 = _ then 1 else 0) + ((if l1 = _ then 1 else 0) + ((if l2 = _ then 1 else 0) + ((if l3 = _ then 1 else 0) + ((if l4 = _ then 1 else 0) + 0)))) = _
              rw [if_pos hc3, if_neg hc6, if_pos hc30, if_pos hc33, if_neg hc36]
            exact ⟨by rw [ez]; rfl, N0, e0⟩
        · have t33 := own_ne hc33 (a := l3.toInt) (b := v32.toInt) rfl rfl
          refine own_by (fun t k => XS.icmpYes X0.here hx rfl (pc0 := 44) (pc' := 50) rfl (hb hby d18_44) rfl (feq hc33).2 (by decide) (by decide) k) ?_
          show ORun p e below s _ _ _ s₁ (mkF m 50 #[.val (.ref a1), .val (.int p2), .val (.int (2 : Int32))] [])
          refine own_by (fun t k => XS.aloadN X0.here hx rfl (hb hby d18_50) rfl rfl k) ?_
          show ORun p e below s _ _ _ s₁ (mkF m 51 #[.val (.ref a1), .val (.int p2), .val (.int (2 : Int32))] [(.ref a1)])
          refine own_by (fun t k => XS.iconst X0.here hx rfl (hb hby d18_51) k) ?_
          show ORun p e below s _ _ _ s₁ (mkF m 52 #[.val (.ref a1), .val (.int p2), .val (.int (2 : Int32))] [(.int (4 : Int32)), (.ref a1)])
          refine own_iaload X0 hx hZ e0 V1 (i := 4) (by decide) (by omega) (hb hby d18_52) ?_
          intro v37 hv37
          obtain rfl : l4 = v37 := hv37.symm
          show ORun p e below s _ _ _ s₁ (mkF m 53 #[.val (.ref a1), .val (.int p2), .val (.int (2 : Int32))] [(.int l4)])
          refine own_by (fun t k => XS.aloadN X0.here hx rfl (hb hby d18_53) rfl rfl k) ?_
          show ORun p e below s _ _ _ s₁ (mkF m 54 #[.val (.ref a1), .val (.int p2), .val (.int (2 : Int32))] [(.ref a1), (.int l4)])
          refine own_by (fun t k => XS.iloadN X0.here hx rfl (hb hby d18_54) rfl k) ?_
          show ORun p e below s _ _ _ s₁ (mkF m 55 #[.val (.ref a1), .val (.int p2), .val (.int (2 : Int32))] [(.int p2), (.ref a1), (.int l4)])
          refine own_iaload X0 hx hZ e0 V1 (i := p2.toInt.toNat) (by omega) (by show p2.toInt.toNat < 5; omega) (hb hby d18_55) ?_
          intro v38 hv38
          have r38 := rng32 v38
          show ORun p e below s _ _ _ s₁ (mkF m 56 #[.val (.ref a1), .val (.int p2), .val (.int (2 : Int32))] [(.int v38), (.int l4)])
          by_cases hc39 : l4 = v38
          · have t39 := own_eq hc39 (a := l4.toInt) (b := v38.toInt) rfl rfl
            refine own_by (fun t k => XS.icmpNo X0.here hx rfl (hb hby d18_56) rfl (teq hc39).2 k) ?_
            show ORun p e below s _ _ _ s₁ (mkF m 59 #[.val (.ref a1), .val (.int p2), .val (.int (2 : Int32))] [])
            refine own_by (fun t k => XS.iinc X0.here hx rfl (hb hby d18_59) rfl (l' := #[.val (.ref a1), .val (.int p2), .val (.int (3 : Int32))]) rfl k) ?_
            show ORun p e below s _ _ _ s₁ (mkF m 62 #[.val (.ref a1), .val (.int p2), .val (.int (3 : Int32))] [])
            refine own_by (fun t k => XS.iloadN X0.here hx rfl (hb hby d18_62) rfl k) ?_
            show ORun p e below s _ _ _ s₁ (mkF m 63 #[.val (.ref a1), .val (.int p2), .val (.int (3 : Int32))] [(.int (3 : Int32))])
            refine own_retI X0 hx hret hlk (hb hby d18_63) (by decide) (by decide) ?_
            rw [hv2] at hc3
            rw [hv5] at hc6
            rw [hv29] at hc30
            rw [hv32] at hc33
            rw [hv38] at hc39
            have ez : own_cnt [l0, l1, l2, l3, l4] ([l0, l1, l2, l3, l4].getD p2.toInt.toNat 0) = 3 := by
              show (if l0 = _ then 1 else 0) + ((if l1 = _ then 1 else 0) + ((if l2 = _ then 1 else 0) + ((if l3 = _ then 1 else 0) + ((if l4 = _ then 1 else 0) + 0)))) = _
              rw [if_pos hc3, if_neg hc6, if_pos hc30, if_neg hc33, if_pos hc39]
            exact ⟨by rw [ez]; rfl, N0, e0⟩
          · have t39 := own_ne hc39 (a := l4.toInt) (b := v38.toInt) rfl rfl
            refine own_by (fun t k => XS.icmpYes X0.here hx rfl (pc0 := 56) (pc' := 62) rfl (hb hby d18_56) rfl (feq hc39).2 (by decide) (by decide) k) ?_
            show ORun p e below s _ _ _ s₁ (mkF m 62 #[.val (.ref a1), .val (.int p2), .val (.int (2 : Int32))] [])
            refine own_by (fun t k => XS.iloadN X0.here hx rfl (hb hby d18_62) rfl k) ?_
            show ORun p e below s _ _ _ s₁ (mkF m 63 #[.val (.ref a1), .val (.int p2), .val (.int (2 : Int32))] [(.int (2 : Int32))])
            refine own_retI X0 hx hret hlk (hb hby d18_63) (by decide) (by decide) ?_
            rw [hv2] at hc3
            rw [hv5] at hc6
            rw [hv29] at hc30
            rw [hv32] at hc33
            rw [hv38] at hc39
            have ez : own_cnt [l0, l1, l2, l3, l4] ([l0, l1, l2, l3, l4].getD p2.toInt.toNat 0) = 2 := by
              show (if l0 = _ then 1 else 0) + ((if l1 = _ then 1 else 0) + ((if l2 = _ then 1 else 0) + ((if l3 = _ then 1 else 0) + ((if l4 = _ then 1 else 0) + 0)))) = _
              rw [if_pos hc3, if_neg hc6, if_pos hc30, if_neg hc33, if_neg hc39]
            exact ⟨by rw [ez]; rfl, N0, e0⟩
      · have t30 := own_ne hc30 (a := l2.toInt) (b := v29.toInt) rfl rfl
        refine own_by (fun t k => XS.icmpYes X0.here hx rfl (pc0 := 32) (pc' := 38) rfl (hb hby d18_32) rfl (feq hc30).2 (by decide) (by decide) k) ?_
        show ORun p e below s _ _ _ s₁ (mkF m 38 #[.val (.ref a1), .val (.int p2), .val (.int (1 : Int32))] [])
        refine own_by (fun t k => XS.aloadN X0.here hx rfl (hb hby d18_38) rfl rfl k) ?_
        show ORun p e below s _ _ _ s₁ (mkF m 39 #[.val (.ref a1), .val (.int p2), .val (.int (1 : Int32))] [(.ref a1)])
        refine own_by (fun t k => XS.iconst X0.here hx rfl (hb hby d18_39) k) ?_
        show ORun p e below s _ _ _ s₁ (mkF m 40 #[.val (.ref a1), .val (.int p2), .val (.int (1 : Int32))] [(.int (3 : Int32)), (.ref a1)])
        refine own_iaload X0 hx hZ e0 V1 (i := 3) (by decide) (by omega) (hb hby d18_40) ?_
        intro v40 hv40
        obtain rfl : l3 = v40 := hv40.symm
        show ORun p e below s _ _ _ s₁ (mkF m 41 #[.val (.ref a1), .val (.int p2), .val (.int (1 : Int32))] [(.int l3)])
        refine own_by (fun t k => XS.aloadN X0.here hx rfl (hb hby d18_41) rfl rfl k) ?_
        show ORun p e below s _ _ _ s₁ (mkF m 42 #[.val (.ref a1), .val (.int p2), .val (.int (1 : Int32))] [(.ref a1), (.int l3)])
        refine own_by (fun t k => XS.iloadN X0.here hx rfl (hb hby d18_42) rfl k) ?_
        show ORun p e below s _ _ _ s₁ (mkF m 43 #[.val (.ref a1), .val (.int p2), .val (.int (1 : Int32))] [(.int p2), (.ref a1), (.int l3)])
        refine own_iaload X0 hx hZ e0 V1 (i := p2.toInt.toNat) (by omega) (by show p2.toInt.toNat < 5; omega) (hb hby d18_43) ?_
        intro v41 hv41
        have r41 := rng32 v41
        show ORun p e below s _ _ _ s₁ (mkF m 44 #[.val (.ref a1), .val (.int p2), .val (.int (1 : Int32))] [(.int v41), (.int l3)])
        by_cases hc42 : l3 = v41
        · have t42 := own_eq hc42 (a := l3.toInt) (b := v41.toInt) rfl rfl
          refine own_by (fun t k => XS.icmpNo X0.here hx rfl (hb hby d18_44) rfl (teq hc42).2 k) ?_
          show ORun p e below s _ _ _ s₁ (mkF m 47 #[.val (.ref a1), .val (.int p2), .val (.int (1 : Int32))] [])
          refine own_by (fun t k => XS.iinc X0.here hx rfl (hb hby d18_47) rfl (l' := #[.val (.ref a1), .val (.int p2), .val (.int (2 : Int32))]) rfl k) ?_
          show ORun p e below s _ _ _ s₁ (mkF m 50 #[.val (.ref a1), .val (.int p2), .val (.int (2 : Int32))] [])
          refine own_by (fun t k => XS.aloadN X0.here hx rfl (hb hby d18_50) rfl rfl k) ?_
          show ORun p e below s _ _ _ s₁ (mkF m 51 #[.val (.ref a1), .val (.int p2), .val (.int (2 : Int32))] [(.ref a1)])
          refine own_by (fun t k => XS.iconst X0.here hx rfl (hb hby d18_51) k) ?_
          show ORun p e below s _ _ _ s₁ (mkF m 52 #[.val (.ref a1), .val (.int p2), .val (.int (2 : Int32))] [(.int (4 : Int32)), (.ref a1)])
          refine own_iaload X0 hx hZ e0 V1 (i := 4) (by decide) (by omega) (hb hby d18_52) ?_
          intro v43 hv43
          obtain rfl : l4 = v43 := hv43.symm
          show ORun p e below s _ _ _ s₁ (mkF m 53 #[.val (.ref a1), .val (.int p2), .val (.int (2 : Int32))] [(.int l4)])
          refine own_by (fun t k => XS.aloadN X0.here hx rfl (hb hby d18_53) rfl rfl k) ?_
          show ORun p e below s _ _ _ s₁ (mkF m 54 #[.val (.ref a1), .val (.int p2), .val (.int (2 : Int32))] [(.ref a1), (.int l4)])
          refine own_by (fun t k => XS.iloadN X0.here hx rfl (hb hby d18_54) rfl k) ?_
          show ORun p e below s _ _ _ s₁ (mkF m 55 #[.val (.ref a1), .val (.int p2), .val (.int (2 : Int32))] [(.int p2), (.ref a1), (.int l4)])
          refine own_iaload X0 hx hZ e0 V1 (i := p2.toInt.toNat) (by omega) (by show p2.toInt.toNat < 5; omega) (hb hby d18_55) ?_
          intro v44 hv44
          have r44 := rng32 v44
          show ORun p e below s _ _ _ s₁ (mkF m 56 #[.val (.ref a1), .val (.int p2), .val (.int (2 : Int32))] [(.int v44), (.int l4)])
          by_cases hc45 : l4 = v44
          · have t45 := own_eq hc45 (a := l4.toInt) (b := v44.toInt) rfl rfl
            refine own_by (fun t k => XS.icmpNo X0.here hx rfl (hb hby d18_56) rfl (teq hc45).2 k) ?_
            show ORun p e below s _ _ _ s₁ (mkF m 59 #[.val (.ref a1), .val (.int p2), .val (.int (2 : Int32))] [])
            refine own_by (fun t k => XS.iinc X0.here hx rfl (hb hby d18_59) rfl (l' := #[.val (.ref a1), .val (.int p2), .val (.int (3 : Int32))]) rfl k) ?_
            show ORun p e below s _ _ _ s₁ (mkF m 62 #[.val (.ref a1), .val (.int p2), .val (.int (3 : Int32))] [])
            refine own_by (fun t k => XS.iloadN X0.here hx rfl (hb hby d18_62) rfl k) ?_
            show ORun p e below s _ _ _ s₁ (mkF m 63 #[.val (.ref a1), .val (.int p2), .val (.int (3 : Int32))] [(.int (3 : Int32))])
            refine own_retI X0 hx hret hlk (hb hby d18_63) (by decide) (by decide) ?_
            rw [hv2] at hc3
            rw [hv5] at hc6
            rw [hv29] at hc30
            rw [hv41] at hc42
            rw [hv44] at hc45
            have ez : own_cnt [l0, l1, l2, l3, l4] ([l0, l1, l2, l3, l4].getD p2.toInt.toNat 0) = 3 := by
              show (if l0 = _ then 1 else 0) + ((if l1 = _ then 1 else 0) + ((if l2 = _ then 1 else 0) + ((if l3 = _ then 1 else 0) + ((if l4 = _ then 1 else 0) + 0)))) = _
              rw [if_pos hc3, if_neg hc6, if_neg hc30, if_pos hc42, if_pos hc45]
            exact ⟨by rw [ez]; rfl, N0, e0⟩
          · have t45 := own_ne hc45 (a := l4.toInt) (b := v44.toInt) rfl rfl
            refine own_by (fun t k => XS.icmpYes X0.here hx rfl (pc0 := 56) (pc' := 62) rfl (hb hby d18_56) rfl (feq hc45).2 (by decide) (by decide) k) ?_
            show ORun p e below s _ _ _ s₁ (mkF m 62 #[.val (.ref a1), .val (.int p2), .val (.int (2 : Int32))] [])
            refine own_by (fun t k => XS.iloadN X0.here hx rfl (hb hby d18_62) rfl k) ?_
            show ORun p e below s _ _ _ s₁ (mkF m 63 #[.val (.ref a1), .val (.int p2), .val (.int (2 : Int32))] [(.int (2 : Int32))])
            refine own_retI X0 hx hret hlk (hb hby d18_63) (by decide) (by decide) ?_
            rw [hv2] at hc3
            rw [hv5] at hc6
            rw [hv29] at hc30
            rw [hv41] at hc42
            rw [hv44] at hc45
            have ez : own_cnt [l0, l1, l2, l3, l4] ([l0, l1, l2, l3, l4].getD p2.toInt.toNat 0) = 2 := by
              show (if l0 = _ then 1 else 0) + ((if l1 = _ then 1 else 0) + ((if l2 = _ then 1 else 0) + ((if l3 = _ then 1 else 0) + ((if l4 = _ then 1 else 0) + 0)))) = _
              rw [if_pos hc3, if_neg hc6, if_neg hc30, if_pos hc42, if_neg hc45]
            exact ⟨by rw [ez]; rfl, N0, e0⟩
        · have t42 := own_ne hc42 (a := l3.toInt) (b := v41.toInt) rfl rfl
          refine own_by (fun t k => XS.icmpYes X0.here hx rfl (pc0 := 44) (pc' := 50) rfl (hb hby d18_44) rfl (feq hc42).2 (by decide) (by decide) k) ?_
          show ORun p e below s _ _ _ s₁ (mkF m 50 #[.val (.ref a1), .val (.int p2), .val (.int (1 : Int32))] [])
          refine own_by (fun t k => XS.aloadN X0.here hx rfl (hb hby d18_50) rfl rfl k) ?_
          show ORun p e below s _ _ _ s₁ (mkF m 51 #[.val (.ref a1), .val (.int p2), .val (.int (1 : Int32))] [(.ref a1)])
          refine own_by (fun t k => XS.iconst X0.here hx rfl (hb hby d18_51) k) ?_
          show ORun p e below s _ _ _ s₁ (mkF m 52 #[.val (.ref a1), .val (.int p2), .val (.int (1 : Int32))] [(.int (4 : Int32)), (.ref a1)])
          refine own_iaload X0 hx hZ e0 V1 (i := 4) (by decide) (by omega) (hb hby d18_52) ?_
          intro v46 hv46
          obtain rfl : l4 = v46 := hv46.symm
          show ORun p e below s _ _ _ s₁ (mkF m 53 #[.val (.ref a1), .val (.int p2), .val (.int (1 : Int32))] [(.int l4)])
          refine own_by (fun t k => XS.aloadN X0.here hx rfl (hb hby d18_53) rfl rfl k) ?_
          show ORun p e below s _ _ _ s₁ (mkF m 54 #[.val (.ref a1), .val (.int p2), .val (.int (1 : Int32))] [(.ref a1), (.int l4)])
          refine own_by (fun t k => XS.iloadN X0.here hx rfl (hb hby d18_54) rfl k) ?_
          show ORun p e below s _ _ _ s₁ (mkF m 55 #[.val (.ref a1), .val (.int p2), .val (.int (1 : Int32))] [(.int p2), (.ref a1), (.int l4)])
          refine own_iaload X0 hx hZ e0 V1 (i := p2.toInt.toNat) (by omega) (by show p2.toInt.toNat < 5; omega) (hb hby d18_55) ?_
          intro v47 hv47
          have r47 := rng32 v47
          show ORun p e below s _ _ _ s₁ (mkF m 56 #[.val (.ref a1), .val (.int p2), .val (.int (1 : Int32))] [(.int v47), (.int l4)])
          by_cases hc48 : l4 = v47
          · have t48 := own_eq hc48 (a := l4.toInt) (b := v47.toInt) rfl rfl
            refine own_by (fun t k => XS.icmpNo X0.here hx rfl (hb hby d18_56) rfl (teq hc48).2 k) ?_
            show ORun p e below s _ _ _ s₁ (mkF m 59 #[.val (.ref a1), .val (.int p2), .val (.int (1 : Int32))] [])
            refine own_by (fun t k => XS.iinc X0.here hx rfl (hb hby d18_59) rfl (l' := #[.val (.ref a1), .val (.int p2), .val (.int (2 : Int32))]) rfl k) ?_
            show ORun p e below s _ _ _ s₁ (mkF m 62 #[.val (.ref a1), .val (.int p2), .val (.int (2 : Int32))] [])
            refine own_by (fun t k => XS.iloadN X0.here hx rfl (hb hby d18_62) rfl k) ?_
            show ORun p e below s _ _ _ s₁ (mkF m 63 #[.val (.ref a1), .val (.int p2), .val (.int (2 : Int32))] [(.int (2 : Int32))])
            refine own_retI X0 hx hret hlk (hb hby d18_63) (by decide) (by decide) ?_
            rw [hv2] at hc3
            rw [hv5] at hc6
            rw [hv29] at hc30
            rw [hv41] at hc42
            rw [hv47] at hc48
            have ez : own_cnt [l0, l1, l2, l3, l4] ([l0, l1, l2, l3, l4].getD p2.toInt.toNat 0) = 2 := by
              show (if l0 = _ then 1 else 0) + ((if l1 = _ then 1 else 0) + ((if l2 = _ then 1 else 0) + ((if l3 = _ then 1 else 0) + ((if l4 = _ then 1 else 0) + 0)))) = _
              rw [if_pos hc3, if_neg hc6, if_neg hc30, if_neg hc42, if_pos hc48]
            exact ⟨by rw [ez]; rfl, N0, e0⟩
          · have t48 := own_ne hc48 (a := l4.toInt) (b := v47.toInt) rfl rfl
            refine own_by (fun t k => XS.icmpYes X0.here hx rfl (pc0 := 56) (pc' := 62) rfl (hb hby d18_56) rfl (feq hc48).2 (by decide) (by decide) k) ?_
            show ORun p e below s _ _ _ s₁ (mkF m 62 #[.val (.ref a1), .val (.int p2), .val (.int (1 : Int32))] [])
            refine own_by (fun t k => XS.iloadN X0.here hx rfl (hb hby d18_62) rfl k) ?_
            show ORun p e below s _ _ _ s₁ (mkF m 63 #[.val (.ref a1), .val (.int p2), .val (.int (1 : Int32))] [(.int (1 : Int32))])
            refine own_retI X0 hx hret hlk (hb hby d18_63) (by decide) (by decide) ?_
            rw [hv2] at hc3
            rw [hv5] at hc6
            rw [hv29] at hc30
            rw [hv41] at hc42
            rw [hv47] at hc48
            have ez : own_cnt [l0, l1, l2, l3, l4] ([l0, l1, l2, l3, l4].getD p2.toInt.toNat 0) = 1 := by
              show (if l0 = _ then 1 else 0) + ((if l1 = _ then 1 else 0) + ((if l2 = _ then 1 else 0) + ((if l3 = _ then 1 else 0) + ((if l4 = _ then 1 else 0) + 0)))) = _
              rw [if_pos hc3, if_neg hc6, if_neg hc30, if_neg hc42, if_neg hc48]
            exact ⟨by rw [ez]; rfl, N0, e0⟩
  · have t3 := own_ne hc3 (a := l0.toInt) (b := v2.toInt) rfl rfl
    refine own_by (fun t k => XS.icmpYes X0.here hx rfl (pc0 := 8) (pc' := 14) rfl (hb hby d18_8) rfl (feq hc3).2 (by decide) (by decide) k) ?_
    show ORun p e below s _ _ _ s₁ (mkF m 14 #[.val (.ref a1), .val (.int p2), .val (.int (0 : Int32))] [])
    refine own_by (fun t k => XS.aloadN X0.here hx rfl (hb hby d18_14) rfl rfl k) ?_
    show ORun p e below s _ _ _ s₁ (mkF m 15 #[.val (.ref a1), .val (.int p2), .val (.int (0 : Int32))] [(.ref a1)])
    refine own_by (fun t k => XS.iconst X0.here hx rfl (hb hby d18_15) k) ?_
    show ORun p e below s _ _ _ s₁ (mkF m 16 #[.val (.ref a1), .val (.int p2), .val (.int (0 : Int32))] [(.int (1 : Int32)), (.ref a1)])
    refine own_iaload X0 hx hZ e0 V1 (i := 1) (by decide) (by omega) (hb hby d18_16) ?_
    intro v49 hv49
    obtain rfl : l1 = v49 := hv49.symm
    show ORun p e below s _ _ _ s₁ (mkF m 17 #[.val (.ref a1), .val (.int p2), .val (.int (0 : Int32))] [(.int l1)])
    refine own_by (fun t k => XS.aloadN X0.here hx rfl (hb hby d18_17) rfl rfl k) ?_
    show ORun p e below s _ _ _ s₁ (mkF m 18 #[.val (.ref a1), .val (.int p2), .val (.int (0 : Int32))] [(.ref a1), (.int l1)])
    refine own_by (fun t k => XS.iloadN X0.here hx rfl (hb hby d18_18) rfl k) ?_
    show ORun p e below s _ _ _ s₁ (mkF m 19 #[.val (.ref a1), .val (.int p2), .val (.int (0 : Int32))] [(.int p2), (.ref a1), (.int l1)])
    refine own_iaload X0 hx hZ e0 V1 (i := p2.toInt.toNat) (by omega) (by show p2.toInt.toNat < 5; omega) (hb hby d18_19) ?_
    intro v50 hv50
    have r50 := rng32 v50
    show ORun p e below s _ _ _ s₁ (mkF m 20 #[.val (.ref a1), .val (.int p2), .val (.int (0 : Int32))] [(.int v50), (.int l1)])
    by_cases hc51 : l1 = v50
    · have t51 := own_eq hc51 (a := l1.toInt) (b := v50.toInt) rfl rfl
      refine own_by (fun t k => XS.icmpNo X0.here hx rfl (hb hby d18_20) rfl (teq hc51).2 k) ?_
      show ORun p e below s _ _ _ s₁ (mkF m 23 #[.val (.ref a1), .val (.int p2), .val (.int (0 : Int32))] [])
      refine own_by (fun t k => XS.iinc X0.here hx rfl (hb hby d18_23) rfl (l' := #[.val (.ref a1), .val (.int p2), .val (.int (1 : Int32))]) rfl k) ?_
      show ORun p e below s _ _ _ s₁ (mkF m 26 #[.val (.ref a1), .val (.int p2), .val (.int (1 : Int32))] [])
      refine own_by (fun t k => XS.aloadN X0.here hx rfl (hb hby d18_26) rfl rfl k) ?_
      show ORun p e below s _ _ _ s₁ (mkF m 27 #[.val (.ref a1), .val (.int p2), .val (.int (1 : Int32))] [(.ref a1)])
      refine own_by (fun t k => XS.iconst X0.here hx rfl (hb hby d18_27) k) ?_
      show ORun p e below s _ _ _ s₁ (mkF m 28 #[.val (.ref a1), .val (.int p2), .val (.int (1 : Int32))] [(.int (2 : Int32)), (.ref a1)])
      refine own_iaload X0 hx hZ e0 V1 (i := 2) (by decide) (by omega) (hb hby d18_28) ?_
      intro v52 hv52
      obtain rfl : l2 = v52 := hv52.symm
      show ORun p e below s _ _ _ s₁ (mkF m 29 #[.val (.ref a1), .val (.int p2), .val (.int (1 : Int32))] [(.int l2)])
      refine own_by (fun t k => XS.aloadN X0.here hx rfl (hb hby d18_29) rfl rfl k) ?_
      show ORun p e below s _ _ _ s₁ (mkF m 30 #[.val (.ref a1), .val (.int p2), .val (.int (1 : Int32))] [(.ref a1), (.int l2)])
      refine own_by (fun t k => XS.iloadN X0.here hx rfl (hb hby d18_30) rfl k) ?_
      show ORun p e below s _ _ _ s₁ (mkF m 31 #[.val (.ref a1), .val (.int p2), .val (.int (1 : Int32))] [(.int p2), (.ref a1), (.int l2)])
      refine own_iaload X0 hx hZ e0 V1 (i := p2.toInt.toNat) (by omega) (by show p2.toInt.toNat < 5; omega) (hb hby d18_31) ?_
      intro v53 hv53
      have r53 := rng32 v53
      show ORun p e below s _ _ _ s₁ (mkF m 32 #[.val (.ref a1), .val (.int p2), .val (.int (1 : Int32))] [(.int v53), (.int l2)])
      by_cases hc54 : l2 = v53
      · have t54 := own_eq hc54 (a := l2.toInt) (b := v53.toInt) rfl rfl
        refine own_by (fun t k => XS.icmpNo X0.here hx rfl (hb hby d18_32) rfl (teq hc54).2 k) ?_
        show ORun p e below s _ _ _ s₁ (mkF m 35 #[.val (.ref a1), .val (.int p2), .val (.int (1 : Int32))] [])
        refine own_by (fun t k => XS.iinc X0.here hx rfl (hb hby d18_35) rfl (l' := #[.val (.ref a1), .val (.int p2), .val (.int (2 : Int32))]) rfl k) ?_
        show ORun p e below s _ _ _ s₁ (mkF m 38 #[.val (.ref a1), .val (.int p2), .val (.int (2 : Int32))] [])
        refine own_by (fun t k => XS.aloadN X0.here hx rfl (hb hby d18_38) rfl rfl k) ?_
        show ORun p e below s _ _ _ s₁ (mkF m 39 #[.val (.ref a1), .val (.int p2), .val (.int (2 : Int32))] [(.ref a1)])
        refine own_by (fun t k => XS.iconst X0.here hx rfl (hb hby d18_39) k) ?_
        show ORun p e below s _ _ _ s₁ (mkF m 40 #[.val (.ref a1), .val (.int p2), .val (.int (2 : Int32))] [(.int (3 : Int32)), (.ref a1)])
        refine own_iaload X0 hx hZ e0 V1 (i := 3) (by decide) (by omega) (hb hby d18_40) ?_
        intro v55 hv55
        obtain rfl : l3 = v55 := hv55.symm
        show ORun p e below s _ _ _ s₁ (mkF m 41 #[.val (.ref a1), .val (.int p2), .val (.int (2 : Int32))] [(.int l3)])
        refine own_by (fun t k => XS.aloadN X0.here hx rfl (hb hby d18_41) rfl rfl k) ?_
        show ORun p e below s _ _ _ s₁ (mkF m 42 #[.val (.ref a1), .val (.int p2), .val (.int (2 : Int32))] [(.ref a1), (.int l3)])
        refine own_by (fun t k => XS.iloadN X0.here hx rfl (hb hby d18_42) rfl k) ?_
        show ORun p e below s _ _ _ s₁ (mkF m 43 #[.val (.ref a1), .val (.int p2), .val (.int (2 : Int32))] [(.int p2), (.ref a1), (.int l3)])
        refine own_iaload X0 hx hZ e0 V1 (i := p2.toInt.toNat) (by omega) (by show p2.toInt.toNat < 5; omega) (hb hby d18_43) ?_
        intro v56 hv56
        have r56 := rng32 v56
        show ORun p e below s _ _ _ s₁ (mkF m 44 #[.val (.ref a1), .val (.int p2), .val (.int (2 : Int32))] [(.int v56), (.int l3)])
        by_cases hc57 : l3 = v56
        · have t57 := own_eq hc57 (a := l3.toInt) (b := v56.toInt) rfl rfl
          refine own_by (fun t k => XS.icmpNo X0.here hx rfl (hb hby d18_44) rfl (teq hc57).2 k) ?_
          show ORun p e below s _ _ _ s₁ (mkF m 47 #[.val (.ref a1), .val (.int p2), .val (.int (2 : Int32))] [])
          refine own_by (fun t k => XS.iinc X0.here hx rfl (hb hby d18_47) rfl (l' := #[.val (.ref a1), .val (.int p2), .val (.int (3 : Int32))]) rfl k) ?_
          show ORun p e below s _ _ _ s₁ (mkF m 50 #[.val (.ref a1), .val (.int p2), .val (.int (3 : Int32))] [])
          refine own_by (fun t k => XS.aloadN X0.here hx rfl (hb hby d18_50) rfl rfl k) ?_
          show ORun p e below s _ _ _ s₁ (mkF m 51 #[.val (.ref a1), .val (.int p2), .val (.int (3 : Int32))] [(.ref a1)])
          refine own_by (fun t k => XS.iconst X0.here hx rfl (hb hby d18_51) k) ?_
          show ORun p e below s _ _ _ s₁ (mkF m 52 #[.val (.ref a1), .val (.int p2), .val (.int (3 : Int32))] [(.int (4 : Int32)), (.ref a1)])
          refine own_iaload X0 hx hZ e0 V1 (i := 4) (by decide) (by omega) (hb hby d18_52) ?_
          intro v58 hv58
          obtain rfl : l4 = v58 := hv58.symm
          show ORun p e below s _ _ _ s₁ (mkF m 53 #[.val (.ref a1), .val (.int p2), .val (.int (3 : Int32))] [(.int l4)])
          refine own_by (fun t k => XS.aloadN X0.here hx rfl (hb hby d18_53) rfl rfl k) ?_
          show ORun p e below s _ _ _ s₁ (mkF m 54 #[.val (.ref a1), .val (.int p2), .val (.int (3 : Int32))] [(.ref a1), (.int l4)])
          refine own_by (fun t k => XS.iloadN X0.here hx rfl (hb hby d18_54) rfl k) ?_
          show ORun p e below s _ _ _ s₁ (mkF m 55 #[.val (.ref a1), .val (.int p2), .val (.int (3 : Int32))] [(.int p2), (.ref a1), (.int l4)])
          refine own_iaload X0 hx hZ e0 V1 (i := p2.toInt.toNat) (by omega) (by show p2.toInt.toNat < 5; omega) (hb hby d18_55) ?_
          intro v59 hv59
          have r59 := rng32 v59
          show ORun p e below s _ _ _ s₁ (mkF m 56 #[.val (.ref a1), .val (.int p2), .val (.int (3 : Int32))] [(.int v59), (.int l4)])
          by_cases hc60 : l4 = v59
          · have t60 := own_eq hc60 (a := l4.toInt) (b := v59.toInt) rfl rfl
            refine own_by (fun t k => XS.icmpNo X0.here hx rfl (hb hby d18_56) rfl (teq hc60).2 k) ?_
            show ORun p e below s _ _ _ s₁ (mkF m 59 #[.val (.ref a1), .val (.int p2), .val (.int (3 : Int32))] [])
            refine own_by (fun t k => XS.iinc X0.here hx rfl (hb hby d18_59) rfl (l' := #[.val (.ref a1), .val (.int p2), .val (.int (4 : Int32))]) rfl k) ?_
            show ORun p e below s _ _ _ s₁ (mkF m 62 #[.val (.ref a1), .val (.int p2), .val (.int (4 : Int32))] [])
            refine own_by (fun t k => XS.iloadN X0.here hx rfl (hb hby d18_62) rfl k) ?_
            show ORun p e below s _ _ _ s₁ (mkF m 63 #[.val (.ref a1), .val (.int p2), .val (.int (4 : Int32))] [(.int (4 : Int32))])
            refine own_retI X0 hx hret hlk (hb hby d18_63) (by decide) (by decide) ?_
            rw [hv2] at hc3
            rw [hv50] at hc51
            rw [hv53] at hc54
            rw [hv56] at hc57
            rw [hv59] at hc60
            have ez : own_cnt [l0, l1, l2, l3, l4] ([l0, l1, l2, l3, l4].getD p2.toInt.toNat 0) = 4 := by
              show (if l0 = _ then 1 else 0) + ((if l1 = _ then 1 else 0) + ((if l2 = _ then 1 else 0) + ((if l3 = _ then 1 else 0) + ((if l4 = _ then 1 else 0) + 0)))) = _
              rw [if_neg hc3, if_pos hc51, if_pos hc54, if_pos hc57, if_pos hc60]
            exact ⟨by rw [ez]; rfl, N0, e0⟩
          · have t60 := own_ne hc60 (a := l4.toInt) (b := v59.toInt) rfl rfl
            refine own_by (fun t k => XS.icmpYes X0.here hx rfl (pc0 := 56) (pc' := 62) rfl (hb hby d18_56) rfl (feq hc60).2 (by decide) (by decide) k) ?_
            show ORun p e below s _ _ _ s₁ (mkF m 62 #[.val (.ref a1), .val (.int p2), .val (.int (3 : Int32))] [])
            refine own_by (fun t k => XS.iloadN X0.here hx rfl (hb hby d18_62) rfl k) ?_
            show ORun p e below s _ _ _ s₁ (mkF m 63 #[.val (.ref a1), .val (.int p2), .val (.int (3 : Int32))] [(.int (3 : Int32))])
            refine own_retI X0 hx hret hlk (hb hby d18_63) (by decide) (by decide) ?_
            rw [hv2] at hc3
            rw [hv50] at hc51
            rw [hv53] at hc54
            rw [hv56] at hc57
            rw [hv59] at hc60
            have ez : own_cnt [l0, l1, l2, l3, l4] ([l0, l1, l2, l3, l4].getD p2.toInt.toNat 0) = 3 := by
              show (if l0 = _ then 1 else 0) + ((if l1 = _ then 1 else 0) + ((if l2 = _ then 1 else 0) + ((if l3 = _ then 1 else 0) + ((if l4 = _ then 1 else 0) + 0)))) = _
              rw [if_neg hc3, if_pos hc51, if_pos hc54, if_pos hc57, if_neg hc60]
            exact ⟨by rw [ez]; rfl, N0, e0⟩
        · have t57 := own_ne hc57 (a := l3.toInt) (b := v56.toInt) rfl rfl
          refine own_by (fun t k => XS.icmpYes X0.here hx rfl (pc0 := 44) (pc' := 50) rfl (hb hby d18_44) rfl (feq hc57).2 (by decide) (by decide) k) ?_
          show ORun p e below s _ _ _ s₁ (mkF m 50 #[.val (.ref a1), .val (.int p2), .val (.int (2 : Int32))] [])
          refine own_by (fun t k => XS.aloadN X0.here hx rfl (hb hby d18_50) rfl rfl k) ?_
          show ORun p e below s _ _ _ s₁ (mkF m 51 #[.val (.ref a1), .val (.int p2), .val (.int (2 : Int32))] [(.ref a1)])
          refine own_by (fun t k => XS.iconst X0.here hx rfl (hb hby d18_51) k) ?_
          show ORun p e below s _ _ _ s₁ (mkF m 52 #[.val (.ref a1), .val (.int p2), .val (.int (2 : Int32))] [(.int (4 : Int32)), (.ref a1)])
          refine own_iaload X0 hx hZ e0 V1 (i := 4) (by decide) (by omega) (hb hby d18_52) ?_
          intro v61 hv61
          obtain rfl : l4 = v61 := hv61.symm
          show ORun p e below s _ _ _ s₁ (mkF m 53 #[.val (.ref a1), .val (.int p2), .val (.int (2 : Int32))] [(.int l4)])
          refine own_by (fun t k => XS.aloadN X0.here hx rfl (hb hby d18_53) rfl rfl k) ?_
          show ORun p e below s _ _ _ s₁ (mkF m 54 #[.val (.ref a1), .val (.int p2), .val (.int (2 : Int32))] [(.ref a1), (.int l4)])
          refine own_by (fun t k => XS.iloadN X0.here hx rfl (hb hby d18_54) rfl k) ?_
          show ORun p e below s _ _ _ s₁ (mkF m 55 #[.val (.ref a1), .val (.int p2), .val (.int (2 : Int32))] [(.int p2), (.ref a1), (.int l4)])
          refine own_iaload X0 hx hZ e0 V1 (i := p2.toInt.toNat) (by omega) (by show p2.toInt.toNat < 5; omega) (hb hby d18_55) ?_
          intro v62 hv62
          have r62 := rng32 v62
          show ORun p e below s _ _ _ s₁ (mkF m 56 #[.val (.ref a1), .val (.int p2), .val (.int (2 : Int32))] [(.int v62), (.int l4)])
          by_cases hc63 : l4 = v62
          · have t63 := own_eq hc63 (a := l4.toInt) (b := v62.toInt) rfl rfl
            refine own_by (fun t k => XS.icmpNo X0.here hx rfl (hb hby d18_56) rfl (teq hc63).2 k) ?_
            show ORun p e below s _ _ _ s₁ (mkF m 59 #[.val (.ref a1), .val (.int p2), .val (.int (2 : Int32))] [])
            refine own_by (fun t k => XS.iinc X0.here hx rfl (hb hby d18_59) rfl (l' := #[.val (.ref a1), .val (.int p2), .val (.int (3 : Int32))]) rfl k) ?_
            show ORun p e below s _ _ _ s₁ (mkF m 62 #[.val (.ref a1), .val (.int p2), .val (.int (3 : Int32))] [])
            refine own_by (fun t k => XS.iloadN X0.here hx rfl (hb hby d18_62) rfl k) ?_
            show ORun p e below s _ _ _ s₁ (mkF m 63 #[.val (.ref a1), .val (.int p2), .val (.int (3 : Int32))] [(.int (3 : Int32))])
            refine own_retI X0 hx hret hlk (hb hby d18_63) (by decide) (by decide) ?_
            rw [hv2] at hc3
            rw [hv50] at hc51
            rw [hv53] at hc54
            rw [hv56] at hc57
            rw [hv62] at hc63
            have ez : own_cnt [l0, l1, l2, l3, l4] ([l0, l1, l2, l3, l4].getD p2.toInt.toNat 0) = 3 := by
              show (if l0 = _ then 1 else 0) + ((if l1 = _ then 1 else 0) + ((if l2 = _ then 1 else 0) + ((if l3 = _ then 1 else 0) + ((if l4 = _ then 1 else 0) + 0)))) = _
              rw [if_neg hc3, if_pos hc51, if_pos hc54, if_neg hc57, if_pos hc63]
            exact ⟨by rw [ez]; rfl, N0, e0⟩
          · have t63 := own_ne hc63 (a := l4.toInt) (b := v62.toInt) rfl rfl
            refine own_by (fun t k => XS.icmpYes X0.here hx rfl (pc0 := 56) (pc' := 62) rfl (hb hby d18_56) rfl (feq hc63).2 (by decide) (by decide) k) ?_
            show ORun p e below s _ _ _ s₁ (mkF m 62 #[.val (.ref a1), .val (.int p2), .val (.int (2 : Int32))] [])
            refine own_by (fun t k => XS.iloadN X0.here hx rfl (hb hby d18_62) rfl k) ?_
            show ORun p e below s _ _ _ s₁ (mkF m 63 #[.val (.ref a1), .val (.int p2), .val (.int (2 : Int32))] [(.int (2 : Int32))])
            refine own_retI X0 hx hret hlk (hb hby d18_63) (by decide) (by decide) ?_
            rw [hv2] at hc3
            rw [hv50] at hc51
            rw [hv53] at hc54
            rw [hv56] at hc57
            rw [hv62] at hc63
            have ez : own_cnt [l0, l1, l2, l3, l4] ([l0, l1, l2, l3, l4].getD p2.toInt.toNat 0) = 2 := by
              show (if l0 = _ then 1 else 0) + ((if l1 = _ then 1 else 0) + ((if l2 = _ then 1 else 0) + ((if l3 = _ then 1 else 0) + ((if l4 = _ then 1 else 0) + 0)))) = _
              rw [if_neg hc3, if_pos hc51, if_pos hc54, if_neg hc57, if_neg hc63]
            exact ⟨by rw [ez]; rfl, N0, e0⟩
      · have t54 := own_ne hc54 (a := l2.toInt) (b := v53.toInt) rfl rfl
        refine own_by (fun t k => XS.icmpYes X0.here hx rfl (pc0 := 32) (pc' := 38) rfl (hb hby d18_32) rfl (feq hc54).2 (by decide) (by decide) k) ?_
        show ORun p e below s _ _ _ s₁ (mkF m 38 #[.val (.ref a1), .val (.int p2), .val (.int (1 : Int32))] [])
        refine own_by (fun t k => XS.aloadN X0.here hx rfl (hb hby d18_38) rfl rfl k) ?_
        show ORun p e below s _ _ _ s₁ (mkF m 39 #[.val (.ref a1), .val (.int p2), .val (.int (1 : Int32))] [(.ref a1)])
        refine own_by (fun t k => XS.iconst X0.here hx rfl (hb hby d18_39) k) ?_
        show ORun p e below s _ _ _ s₁ (mkF m 40 #[.val (.ref a1), .val (.int p2), .val (.int (1 : Int32))] [(.int (3 : Int32)), (.ref a1)])
        refine own_iaload X0 hx hZ e0 V1 (i := 3) (by decide) (by omega) (hb hby d18_40) ?_
        intro v64 hv64
        obtain rfl : l3 = v64 := hv64.symm
        show ORun p e below s _ _ _ s₁ (mkF m 41 #[.val (.ref a1), .val (.int p2), .val (.int (1 : Int32))] [(.int l3)])
        refine own_by (fun t k => XS.aloadN X0.here hx rfl (hb hby d18_41) rfl rfl k) ?_
        show ORun p e below s _ _ _ s₁ (mkF m 42 #[.val (.ref a1), .val (.int p2), .val (.int (1 : Int32))] [(.ref a1), (.int l3)])
        refine own_by (fun t k => XS.iloadN X0.here hx rfl (hb hby d18_42) rfl k) ?_
        show ORun p e below s _ _ _ s₁ (mkF m 43 #[.val (.ref a1), .val (.int p2), .val (.int (1 : Int32))] [(.int p2), (.ref a1), (.int l3)])
        refine own_iaload X0 hx hZ e0 V1 (i := p2.toInt.toNat) (by omega) (by show p2.toInt.toNat < 5; omega) (hb hby d18_43) ?_
        intro v65 hv65
        have r65 := rng32 v65
        show ORun p e below s _ _ _ s₁ (mkF m 44 #[.val (.ref a1), .val (.int p2), .val (.int (1 : Int32))] [(.int v65), (.int l3)])
        by_cases hc66 : l3 = v65
        · have t66 := own_eq hc66 (a := l3.toInt) (b := v65.toInt) rfl rfl
          refine own_by (fun t k => XS.icmpNo X0.here hx rfl (hb hby d18_44) rfl (teq hc66).2 k) ?_
          show ORun p e below s _ _ _ s₁ (mkF m 47 #[.val (.ref a1), .val (.int p2), .val (.int (1 : Int32))] [])
          refine own_by (fun t k => XS.iinc X0.here hx rfl (hb hby d18_47) rfl (l' := #[.val (.ref a1), .val (.int p2), .val (.int (2 : Int32))]) rfl k) ?_
          show ORun p e below s _ _ _ s₁ (mkF m 50 #[.val (.ref a1), .val (.int p2), .val (.int (2 : Int32))] [])
          refine own_by (fun t k => XS.aloadN X0.here hx rfl (hb hby d18_50) rfl rfl k) ?_
          show ORun p e below s _ _ _ s₁ (mkF m 51 #[.val (.ref a1), .val (.int p2), .val (.int (2 : Int32))] [(.ref a1)])
          refine own_by (fun t k => XS.iconst X0.here hx rfl (hb hby d18_51) k) ?_
          show ORun p e below s _ _ _ s₁ (mkF m 52 #[.val (.ref a1), .val (.int p2), .val (.int (2 : Int32))] [(.int (4 : Int32)), (.ref a1)])
          refine own_iaload X0 hx hZ e0 V1 (i := 4) (by decide) (by omega) (hb hby d18_52) ?_
          intro v67 hv67
          obtain rfl : l4 = v67 := hv67.symm
          show ORun p e below s _ _ _ s₁ (mkF m 53 #[.val (.ref a1), .val (.int p2), .val (.int (2 : Int32))] [(.int l4)])
          refine own_by (fun t k => XS.aloadN X0.here hx rfl (hb hby d18_53) rfl rfl k) ?_
          show ORun p e below s _ _ _ s₁ (mkF m 54 #[.val (.ref a1), .val (.int p2), .val (.int (2 : Int32))] [(.ref a1), (.int l4)])
          refine own_by (fun t k => XS.iloadN X0.here hx rfl (hb hby d18_54) rfl k) ?_
          show ORun p e below s _ _ _ s₁ (mkF m 55 #[.val (.ref a1), .val (.int p2), .val (.int (2 : Int32))] [(.int p2), (.ref a1), (.int l4)])
          refine own_iaload X0 hx hZ e0 V1 (i := p2.toInt.toNat) (by omega) (by show p2.toInt.toNat < 5; omega) (hb hby d18_55) ?_
          intro v68 hv68
          have r68 := rng32 v68
          show ORun p e below s _ _ _ s₁ (mkF m 56 #[.val (.ref a1), .val (.int p2), .val (.int (2 : Int32))] [(.int v68), (.int l4)])
          by_cases hc69 : l4 = v68
          · have t69 := own_eq hc69 (a := l4.toInt) (b := v68.toInt) rfl rfl
            refine own_by (fun t k => XS.icmpNo X0.here hx rfl (hb hby d18_56) rfl (teq hc69).2 k) ?_
            show ORun p e below s _ _ _ s₁ (mkF m 59 #[.val (.ref a1), .val (.int p2), .val (.int (2 : Int32))] [])
            refine own_by (fun t k => XS.iinc X0.here hx rfl (hb hby d18_59) rfl (l' := #[.val (.ref a1), .val (.int p2), .val (.int (3 : Int32))]) rfl k) ?_
            show ORun p e below s _ _ _ s₁ (mkF m 62 #[.val (.ref a1), .val (.int p2), .val (.int (3 : Int32))] [])
            refine own_by (fun t k => XS.iloadN X0.here hx rfl (hb hby d18_62) rfl k) ?_
            show ORun p e below s _ _ _ s₁ (mkF m 63 #[.val (.ref a1), .val (.int p2), .val (.int (3 : Int32))] [(.int (3 : Int32))])
            refine own_retI X0 hx hret hlk (hb hby d18_63) (by decide) (by decide) ?_
            rw [hv2] at hc3
            rw [hv50] at hc51
            rw [hv53] at hc54
            rw [hv65] at hc66
            rw [hv68] at hc69
            have ez : own_cnt [l0, l1, l2, l3, l4] ([l0, l1, l2, l3, l4].getD p2.toInt.toNat 0) = 3 := by
              show (if l0 = _ then 1 else 0) + ((if l1 = _ then 1 else 0) + ((if l2 = _ then 1 else 0) + ((if l3 = _ then 1 else 0) + ((if l4 = _ then 1 else 0) + 0)))) = _
              rw [if_neg hc3, if_pos hc51, if_neg hc54, if_pos hc66, if_pos hc69]
            exact ⟨by rw [ez]; rfl, N0, e0⟩
          · have t69 := own_ne hc69 (a := l4.toInt) (b := v68.toInt) rfl rfl
            refine own_by (fun t k => XS.icmpYes X0.here hx rfl (pc0 := 56) (pc' := 62) rfl (hb hby d18_56) rfl (feq hc69).2 (by decide) (by decide) k) ?_
            show ORun p e below s _ _ _ s₁ (mkF m 62 #[.val (.ref a1), .val (.int p2), .val (.int (2 : Int32))] [])
            refine own_by (fun t k => XS.iloadN X0.here hx rfl (hb hby d18_62) rfl k) ?_
            show ORun p e below s _ _ _ s₁ (mkF m 63 #[.val (.ref a1), .val (.int p2), .val (.int (2 : Int32))] [(.int (2 : Int32))])
            refine own_retI X0 hx hret hlk (hb hby d18_63) (by decide) (by decide) ?_
            rw [hv2] at hc3
            rw [hv50] at hc51
            rw [hv53] at hc54
            rw [hv65] at hc66
            rw [hv68] at hc69
            have ez : own_cnt [l0, l1, l2, l3, l4] ([l0, l1, l2, l3, l4].getD p2.toInt.toNat 0) = 2 := by
              show (if l0 = _ then 1 else 0) + ((if l1 = _ then 1 else 0) + ((if l2 = _ then 1 else 0) + ((if l3 = _ then 1 else 0) + ((if l4 = _ then 1 else 0) + 0)))) = _
              rw [if_neg hc3, if_pos hc51, if_neg hc54, if_pos hc66, if_neg hc69]
            exact ⟨by rw [ez]; rfl, N0, e0⟩
        · have t66 := own_ne hc66 (a := l3.toInt) (b := v65.toInt) rfl rfl
          refine own_by (fun t k => XS.icmpYes X0.here hx rfl (pc0 := 44) (pc' := 50) rfl (hb hby d18_44) rfl (feq hc66).2 (by decide) (by decide) k) ?_
          show ORun p e below s _ _ _ s₁ (mkF m 50 #[.val (.ref a1), .val (.int p2), .val (.int (1 : Int32))] [])
          refine own_by (fun t k => XS.aloadN X0.here hx rfl (hb hby d18_50) rfl rfl k) ?_
          show ORun p e below s _ _ _ s₁ (mkF m 51 #[.val (.ref a1), .val (.int p2), .val (.int (1 : Int32))] [(.ref a1)])
          refine own_by (fun t k => XS.iconst X0.here hx rfl (hb hby d18_51) k) ?_
          show ORun p e below s _ _ _ s₁ (mkF m 52 #[.val (.ref a1), .val (.int p2), .val (.int (1 : Int32))] [(.int (4 : Int32)), (.ref a1)])
          refine own_iaload X0 hx hZ e0 V1 (i := 4) (by decide) (by omega) (hb hby d18_52) ?_
          intro v70 hv70
          obtain rfl : l4 = v70 := hv70.symm
          show ORun p e below s _ _ _ s₁ (mkF m 53 #[.val (.ref a1), .val (.int p2), .val (.int (1 : Int32))] [(.int l4)])
          refine own_by (fun t k => XS.aloadN X0.here hx rfl (hb hby d18_53) rfl rfl k) ?_
          show ORun p e below s _ _ _ s₁ (mkF m 54 #[.val (.ref a1), .val (.int p2), .val (.int (1 : Int32))] [(.ref a1), (.int l4)])
          refine own_by (fun t k => XS.iloadN X0.here hx rfl (hb hby d18_54) rfl k) ?_
          show ORun p e below s _ _ _ s₁ (mkF m 55 #[.val (.ref a1), .val (.int p2), .val (.int (1 : Int32))] [(.int p2), (.ref a1), (.int l4)])
          refine own_iaload X0 hx hZ e0 V1 (i := p2.toInt.toNat) (by omega) (by show p2.toInt.toNat < 5; omega) (hb hby d18_55) ?_
          intro v71 hv71
          have r71 := rng32 v71
          show ORun p e below s _ _ _ s₁ (mkF m 56 #[.val (.ref a1), .val (.int p2), .val (.int (1 : Int32))] [(.int v71), (.int l4)])
          by_cases hc72 : l4 = v71
          · have t72 := own_eq hc72 (a := l4.toInt) (b := v71.toInt) rfl rfl
            refine own_by (fun t k => XS.icmpNo X0.here hx rfl (hb hby d18_56) rfl (teq hc72).2 k) ?_
            show ORun p e below s _ _ _ s₁ (mkF m 59 #[.val (.ref a1), .val (.int p2), .val (.int (1 : Int32))] [])
            refine own_by (fun t k => XS.iinc X0.here hx rfl (hb hby d18_59) rfl (l' := #[.val (.ref a1), .val (.int p2), .val (.int (2 : Int32))]) rfl k) ?_
            show ORun p e below s _ _ _ s₁ (mkF m 62 #[.val (.ref a1), .val (.int p2), .val (.int (2 : Int32))] [])
            refine own_by (fun t k => XS.iloadN X0.here hx rfl (hb hby d18_62) rfl k) ?_
            show ORun p e below s _ _ _ s₁ (mkF m 63 #[.val (.ref a1), .val (.int p2), .val (.int (2 : Int32))] [(.int (2 : Int32))])
            refine own_retI X0 hx hret hlk (hb hby d18_63) (by decide) (by decide) ?_
            rw [hv2] at hc3
            rw [hv50] at hc51
            rw [hv53] at hc54
            rw [hv65] at hc66
            rw [hv71] at hc72
            have ez : own_cnt [l0, l1, l2, l3, l4] ([l0, l1, l2, l3, l4].getD p2.toInt.toNat 0) = 2 := by
              show (if l0 = _ then 1 else 0) + ((if l1 = _ then 1 else 0) + ((if l2 = _ then 1 else 0) + ((if l3 = _ then 1 else 0) + ((if l4 = _ then 1 else 0) + 0)))) = _
              rw [if_neg hc3, if_pos hc51, if_neg hc54, if_neg hc66, if_pos hc72]
            exact ⟨by rw [ez]; rfl, N0, e0⟩
          · have t72 := own_ne hc72 (a := l4.toInt) (b := v71.toInt) rfl rfl
            refine own_by (fun t k => XS.icmpYes X0.here hx rfl (pc0 := 56) (pc' := 62) rfl (hb hby d18_56) rfl (feq hc72).2 (by decide) (by decide) k) ?_
            show ORun p e below s _ _ _ s₁ (mkF m 62 #[.val (.ref a1), .val (.int p2), .val (.int (1 : Int32))] [])
            refine own_by (fun t k => XS.iloadN X0.here hx rfl (hb hby d18_62) rfl k) ?_
            show ORun p e below s _ _ _ s₁ (mkF m 63 #[.val (.ref a1), .val (.int p2), .val (.int (1 : Int32))] [(.int (1 : Int32))])
            refine own_retI X0 hx hret hlk (hb hby d18_63) (by decide) (by decide) ?_
            rw [hv2] at hc3
            rw [hv50] at hc51
            rw [hv53] at hc54
            rw [hv65] at hc66
            rw [hv71] at hc72
            have ez : own_cnt [l0, l1, l2, l3, l4] ([l0, l1, l2, l3, l4].getD p2.toInt.toNat 0) = 1 := by
              show (if l0 = _ then 1 else 0) + ((if l1 = _ then 1 else 0) + ((if l2 = _ then 1 else 0) + ((if l3 = _ then 1 else 0) + ((if l4 = _ then 1 else 0) + 0)))) = _
              rw [if_neg hc3, if_pos hc51, if_neg hc54, if_neg hc66, if_neg hc72]
            exact ⟨by rw [ez]; rfl, N0, e0⟩
    · have t51 := own_ne hc51 (a := l1.toInt) (b := v50.toInt) rfl rfl
      refine own_by (fun t k => XS.icmpYes X0.here hx rfl (pc0 := 20) (pc' := 26) rfl (hb hby d18_20) rfl (feq hc51).2 (by decide) (by decide) k) ?_
      show ORun p e below s _ _ _ s₁ (mkF m 26 #[.val (.ref a1), .val (.int p2), .val (.int (0 : Int32))] [])
      refine own_by (fun t k => XS.aloadN X0.here hx rfl (hb hby d18_26) rfl rfl k) ?_
      show ORun p e below s _ _ _ s₁ (mkF m 27 #[.val (.ref a1), .val (.int p2), .val (.int (0 : Int32))] [(.ref a1)])
      refine own_by (fun t k => XS.iconst X0.here hx rfl (hb hby d18_27) k) ?_
      show ORun p e below s _ _ _ s₁ (mkF m 28 #[.val (.ref a1), .val (.int p2), .val (.int (0 : Int32))] [(.int (2 : Int32)), (.ref a1)])
      refine own_iaload X0 hx hZ e0 V1 (i := 2) (by decide) (by omega) (hb hby d18_28) ?_
      intro v73 hv73
      obtain rfl : l2 = v73 := hv73.symm
      show ORun p e below s _ _ _ s₁ (mkF m 29 #[.val (.ref a1), .val (.int p2), .val (.int (0 : Int32))] [(.int l2)])
      refine own_by (fun t k => XS.aloadN X0.here hx rfl (hb hby d18_29) rfl rfl k) ?_
      show ORun p e below s _ _ _ s₁ (mkF m 30 #[.val (.ref a1), .val (.int p2), .val (.int (0 : Int32))] [(.ref a1), (.int l2)])
      refine own_by (fun t k => XS.iloadN X0.here hx rfl (hb hby d18_30) rfl k) ?_
      show ORun p e below s _ _ _ s₁ (mkF m 31 #[.val (.ref a1), .val (.int p2), .val (.int (0 : Int32))] [(.int p2), (.ref a1), (.int l2)])
      refine own_iaload X0 hx hZ e0 V1 (i := p2.toInt.toNat) (by omega) (by show p2.toInt.toNat < 5; omega) (hb hby d18_31) ?_
      intro v74 hv74
      have r74 := rng32 v74
      show ORun p e below s _ _ _ s₁ (mkF m 32 #[.val (.ref a1), .val (.int p2), .val (.int (0 : Int32))] [(.int v74), (.int l2)])
      by_cases hc75 : l2 = v74
      · have t75 := own_eq hc75 (a := l2.toInt) (b := v74.toInt) rfl rfl
        refine own_by (fun t k => XS.icmpNo X0.here hx rfl (hb hby d18_32) rfl (teq hc75).2 k) ?_
        show ORun p e below s _ _ _ s₁ (mkF m 35 #[.val (.ref a1), .val (.int p2), .val (.int (0 : Int32))] [])
        refine own_by (fun t k => XS.iinc X0.here hx rfl (hb hby d18_35) rfl (l' := #[.val (.ref a1), .val (.int p2), .val (.int (1 : Int32))]) rfl k) ?_
        show ORun p e below s _ _ _ s₁ (mkF m 38 #[.val (.ref a1), .val (.int p2), .val (.int (1 : Int32))] [])
        refine own_by (fun t k => XS.aloadN X0.here hx rfl (hb hby d18_38) rfl rfl k) ?_
        show ORun p e below s _ _ _ s₁ (mkF m 39 #[.val (.ref a1), .val (.int p2), .val (.int (1 : Int32))] [(.ref a1)])
        refine own_by (fun t k => XS.iconst X0.here hx rfl (hb hby d18_39) k) ?_
        show ORun p e below s _ _ _ s₁ (mkF m 40 #[.val (.ref a1), .val (.int p2), .val (.int (1 : Int32))] [(.int (3 : Int32)), (.ref a1)])
        refine own_iaload X0 hx hZ e0 V1 (i := 3) (by decide) (by omega) (hb hby d18_40) ?_
        intro v76 hv76
        obtain rfl : l3 = v76 := hv76.symm
        show ORun p e below s _ _ _ s₁ (mkF m 41 #[.val (.ref a1), .val (.int p2), .val (.int (1 : Int32))] [(.int l3)])
        refine own_by (fun t k => XS.aloadN X0.here hx rfl (hb hby d18_41) rfl rfl k) ?_
        show ORun p e below s _ _ _ s₁ (mkF m 42 #[.val (.ref a1), .val (.int p2), .val (.int (1 : Int32))] [(.ref a1), (.int l3)])
        refine own_by (fun t k => XS.iloadN X0.here hx rfl (hb hby d18_42) rfl k) ?_
        show ORun p e below s _ _ _ s₁ (mkF m 43 #[.val (.ref a1), .val (.int p2), .val (.int (1 : Int32))] [(.int p2), (.ref a1), (.int l3)])
        refine own_iaload X0 hx hZ e0 V1 (i := p2.toInt.toNat) (by omega) (by show p2.toInt.toNat < 5; omega) (hb hby d18_43) ?_
        intro v77 hv77
        have r77 := rng32 v77
        show ORun p e below s _ _ _ s₁ (mkF m 44 #[.val (.ref a1), .val (.int p2), .val (.int (1 : Int32))] [(.int v77), (.int l3)])
        by_cases hc78 : l3 = v77
        · have t78 := own_eq hc78 (a := l3.toInt) (b := v77.toInt) rfl rfl
          refine own_by (fun t k => XS.icmpNo X0.here hx rfl (hb hby d18_44) rfl (teq hc78).2 k) ?_
          show ORun p e below s _ _ _ s₁ (mkF m 47 #[.val (.ref a1), .val (.int p2), .val (.int (1 : Int32))] [])
          refine own_by (fun t k => XS.iinc X0.here hx rfl (hb hby d18_47) rfl (l' := #[.val (.ref a1), .val (.int p2), .val (.int (2 : Int32))]) rfl k) ?_
          show ORun p e below s _ _ _ s₁ (mkF m 50 #[.val (.ref a1), .val (.int p2), .val (.int (2 : Int32))] [])
          refine own_by (fun t k => XS.aloadN X0.here hx rfl (hb hby d18_50) rfl rfl k) ?_
          show ORun p e below s _ _ _ s₁ (mkF m 51 #[.val (.ref a1), .val (.int p2), .val (.int (2 : Int32))] [(.ref a1)])
          refine own_by (fun t k => XS.iconst X0.here hx rfl (hb hby d18_51) k) ?_
          show ORun p e below s _ _ _ s₁ (mkF m 52 #[.val (.ref a1), .val (.int p2), .val (.int (2 : Int32))] [(.int (4 : Int32)), (.ref a1)])
          refine own_iaload X0 hx hZ e0 V1 (i := 4) (by decide) (by omega) (hb hby d18_52) ?_
          intro v79 hv79
          obtain rfl : l4 = v79 := hv79.symm
          show ORun p e below s _ _ _ s₁ (mkF m 53 #[.val (.ref a1), .val (.int p2), .val (.int (2 : Int32))] [(.int l4)])
          refine own_by (fun t k => XS.aloadN X0.here hx rfl (hb hby d18_53) rfl rfl k) ?_
          show ORun p e below s _ _ _ s₁ (mkF m 54 #[.val (.ref a1), .val (.int p2), .val (.int (2 : Int32))] [(.ref a1), (.int l4)])
          refine own_by (fun t k => XS.iloadN X0.here hx rfl (hb hby d18_54) rfl k) ?_
          show ORun p e below s _ _ _ s₁ (mkF m 55 #[.val (.ref a1), .val (.int p2), .val (.int (2 : Int32))] [(.int p2), (.ref a1), (.int l4)])
          refine own_iaload X0 hx hZ e0 V1 (i := p2.toInt.toNat) (by omega) (by show p2.toInt.toNat < 5; omega) (hb hby d18_55) ?_
          intro v80 hv80
          have r80 := rng32 v80
          show ORun p e below s _ _ _ s₁ (mkF m 56 #[.val (.ref a1), .val (.int p2), .val (.int (2 : Int32))] [(.int v80), (.int l4)])
          by_cases hc81 : l4 = v80
          · have t81 := own_eq hc81 (a := l4.toInt) (b := v80.toInt) rfl rfl
            refine own_by (fun t k => XS.icmpNo X0.here hx rfl (hb hby d18_56) rfl (teq hc81).2 k) ?_
            show ORun p e below s _ _ _ s₁ (mkF m 59 #[.val (.ref a1), .val (.int p2), .val (.int (2 : Int32))] [])
            refine own_by (fun t k => XS.iinc X0.here hx rfl (hb hby d18_59) rfl (l' := #[.val (.ref a1), .val (.int p2), .val (.int (3 : Int32))]) rfl k) ?_
            show ORun p e below s _ _ _ s₁ (mkF m 62 #[.val (.ref a1), .val (.int p2), .val (.int (3 : Int32))] [])
            refine own_by (fun t k => XS.iloadN X0.here hx rfl (hb hby d18_62) rfl k) ?_
            show ORun p e below s _ _ _ s₁ (mkF m 63 #[.val (.ref a1), .val (.int p2), .val (.int (3 : Int32))] [(.int (3 : Int32))])
            refine own_retI X0 hx hret hlk (hb hby d18_63) (by decide) (by decide) ?_
            rw [hv2] at hc3
            rw [hv50] at hc51
            rw [hv74] at hc75
            rw [hv77] at hc78
            rw [hv80] at hc81
            have ez : own_cnt [l0, l1, l2, l3, l4] ([l0, l1, l2, l3, l4].getD p2.toInt.toNat 0) = 3 := by
              show (if l0 = _ then 1 else 0) + ((if l1 = _ then 1 else 0) + ((if l2 = _ then 1 else 0) + ((if l3 = _ then 1 else 0) + ((if l4 = _ then 1 else 0) + 0)))) = _
              rw [if_neg hc3, if_neg hc51, if_pos hc75, if_pos hc78, if_pos hc81]
            exact ⟨by rw [ez]; rfl, N0, e0⟩
          · have t81 := own_ne hc81 (a := l4.toInt) (b := v80.toInt) rfl rfl
            refine own_by (fun t k => XS.icmpYes X0.here hx rfl (pc0 := 56) (pc' := 62) rfl (hb hby d18_56) rfl (feq hc81).2 (by decide) (by decide) k) ?_
            show ORun p e below s _ _ _ s₁ (mkF m 62 #[.val (.ref a1), .val (.int p2), .val (.int (2 : Int32))] [])
            refine own_by (fun t k => XS.iloadN X0.here hx rfl (hb hby d18_62) rfl k) ?_
            show ORun p e below s _ _ _ s₁ (mkF m 63 #[.val (.ref a1), .val (.int p2), .val (.int (2 : Int32))] [(.int (2 : Int32))])
            refine own_retI X0 hx hret hlk (hb hby d18_63) (by decide) (by decide) ?_
            rw [hv2] at hc3
            rw [hv50] at hc51
            rw [hv74] at hc75
            rw [hv77] at hc78
            rw [hv80] at hc81
            have ez : own_cnt [l0, l1, l2, l3, l4] ([l0, l1, l2, l3, l4].getD p2.toInt.toNat 0) = 2 := by
              show (if l0 = _ then 1 else 0) + ((if l1 = _ then 1 else 0) + ((if l2 = _ then 1 else 0) + ((if l3 = _ then 1 else 0) + ((if l4 = _ then 1 else 0) + 0)))) = _
              rw [if_neg hc3, if_neg hc51, if_pos hc75, if_pos hc78, if_neg hc81]
            exact ⟨by rw [ez]; rfl, N0, e0⟩
        · have t78 := own_ne hc78 (a := l3.toInt) (b := v77.toInt) rfl rfl
          refine own_by (fun t k => XS.icmpYes X0.here hx rfl (pc0 := 44) (pc' := 50) rfl (hb hby d18_44) rfl (feq hc78).2 (by decide) (by decide) k) ?_
          show ORun p e below s _ _ _ s₁ (mkF m 50 #[.val (.ref a1), .val (.int p2), .val (.int (1 : Int32))] [])
          refine own_by (fun t k => XS.aloadN X0.here hx rfl (hb hby d18_50) rfl rfl k) ?_
          show ORun p e below s _ _ _ s₁ (mkF m 51 #[.val (.ref a1), .val (.int p2), .val (.int (1 : Int32))] [(.ref a1)])
          refine own_by (fun t k => XS.iconst X0.here hx rfl (hb hby d18_51) k) ?_
          show ORun p e below s _ _ _ s₁ (mkF m 52 #[.val (.ref a1), .val (.int p2), .val (.int (1 : Int32))] [(.int (4 : Int32)), (.ref a1)])
          refine own_iaload X0 hx hZ e0 V1 (i := 4) (by decide) (by omega) (hb hby d18_52) ?_
          intro v82 hv82
          obtain rfl : l4 = v82 := hv82.symm
          show ORun p e below s _ _ _ s₁ (mkF m 53 #[.val (.ref a1), .val (.int p2), .val (.int (1 : Int32))] [(.int l4)])
          refine own_by (fun t k => XS.aloadN X0.here hx rfl (hb hby d18_53) rfl rfl k) ?_
          show ORun p e below s _ _ _ s₁ (mkF m 54 #[.val (.ref a1), .val (.int p2), .val (.int (1 : Int32))] [(.ref a1), (.int l4)])
          refine own_by (fun t k => XS.iloadN X0.here hx rfl (hb hby d18_54) rfl k) ?_
          show ORun p e below s _ _ _ s₁ (mkF m 55 #[.val (.ref a1), .val (.int p2), .val (.int (1 : Int32))] [(.int p2), (.ref a1), (.int l4)])
          refine own_iaload X0 hx hZ e0 V1 (i := p2.toInt.toNat) (by omega) (by show p2.toInt.toNat < 5; omega) (hb hby d18_55) ?_
          intro v83 hv83
          have r83 := rng32 v83
          show ORun p e below s _ _ _ s₁ (mkF m 56 #[.val (.ref a1), .val (.int p2), .val (.int (1 : Int32))] [(.int v83), (.int l4)])
          by_cases hc84 : l4 = v83
          · have t84 := own_eq hc84 (a := l4.toInt) (b := v83.toInt) rfl rfl
            refine own_by (fun t k => XS.icmpNo X0.here hx rfl (hb hby d18_56) rfl (teq hc84).2 k) ?_
            show ORun p e below s _ _ _ s₁ (mkF m 59 #[.val (.ref a1), .val (.int p2), .val (.int (1 : Int32))] [])
            refine own_by (fun t k => XS.iinc X0.here hx rfl (hb hby d18_59) rfl (l' := #[.val (.ref a1), .val (.int p2), .val (.int (2 : Int32))]) rfl k) ?_
            show ORun p e below s _ _ _ s₁ (mkF m 62 #[.val (.ref a1), .val (.int p2), .val (.int (2 : Int32))] [])
            refine own_by (fun t k => XS.iloadN X0.here hx rfl (hb hby d18_62) rfl k) ?_
            show ORun p e below s _ _ _ s₁ (mkF m 63 #[.val (.ref a1), .val (.int p2), .val (.int (2 : Int32))] [(.int (2 : Int32))])
            refine own_retI X0 hx hret hlk (hb hby d18_63) (by decide) (by decide) ?_
            rw [hv2] at hc3
            rw [hv50] at hc51
            rw [hv74] at hc75
            rw [hv77] at hc78
            rw [hv83] at hc84
            have ez : own_cnt [l0, l1, l2, l3, l4] ([l0, l1, l2, l3, l4].getD p2.toInt.toNat 0) = 2 := by
              show (if l0 = _ then 1 else 0) + ((if l1 = _ then 1 else 0) + ((if l2 = _ then 1 else 0) + ((if l3 = _ then 1 else 0) + ((if l4 = _ then 1 else 0) + 0)))) = _
              rw [if_neg hc3, if_neg hc51, if_pos hc75, if_neg hc78, if_pos hc84]
            exact ⟨by rw [ez]; rfl, N0, e0⟩
          · have t84 := own_ne hc84 (a := l4.toInt) (b := v83.toInt) rfl rfl
            refine own_by (fun t k => XS.icmpYes X0.here hx rfl (pc0 := 56) (pc' := 62) rfl (hb hby d18_56) rfl (feq hc84).2 (by decide) (by decide) k) ?_
            show ORun p e below s _ _ _ s₁ (mkF m 62 #[.val (.ref a1), .val (.int p2), .val (.int (1 : Int32))] [])
            refine own_by (fun t k => XS.iloadN X0.here hx rfl (hb hby d18_62) rfl k) ?_
            show ORun p e below s _ _ _ s₁ (mkF m 63 #[.val (.ref a1), .val (.int p2), .val (.int (1 : Int32))] [(.int (1 : Int32))])
            refine own_retI X0 hx hret hlk (hb hby d18_63) (by decide) (by decide) ?_
            rw [hv2] at hc3
            rw [hv50] at hc51
            rw [hv74] at hc75
            rw [hv77] at hc78
            rw [hv83] at hc84
            have ez : own_cnt [l0, l1, l2, l3, l4] ([l0, l1, l2, l3, l4].getD p2.toInt.toNat 0) = 1 := by
              show (if l0 = _ then 1 else 0) + ((if l1 = _ then 1 else 0) + ((if l2 = _ then 1 else 0) + ((if l3 = _ then 1 else 0) + ((if l4 = _ then 1 else 0) + 0)))) = _
              rw [if_neg hc3, if_neg hc51, if_pos hc75, if_neg hc78, if_neg hc84]
            exact ⟨by rw [ez]; rfl, N0, e0⟩
      · have t75 := own_ne hc75 (a := l2.toInt) (b := v74.toInt) rfl rfl
        refine own_by (fun t k => XS.icmpYes X0.here hx rfl (pc0 := 32) (pc' := 38) rfl (hb hby d18_32) rfl (feq hc75).2 (by decide) (by decide) k) ?_
        show ORun p e below s _ _ _ s₁ (mkF m 38 #[.val (.ref a1), .val (.int p2), .val (.int (0 : Int32))] [])
        refine own_by (fun t k => XS.aloadN X0.here hx rfl (hb hby d18_38) rfl rfl k) ?_
        show ORun p e below s _ _ _ s₁ (mkF m 39 #[.val (.ref a1), .val (.int p2), .val (.int (0 : Int32))] [(.ref a1)])
        refine own_by (fun t k => XS.iconst X0.here hx rfl (hb hby d18_39) k) ?_
        show ORun p e below s _ _ _ s₁ (mkF m 40 #[.val (.ref a1), .val (.int p2), .val (.int (0 : Int32))] [(.int (3 : Int32)), (.ref a1)])
        refine own_iaload X0 hx hZ e0 V1 (i := 3) (by decide) (by omega) (hb hby d18_40) ?_
        intro v85 hv85
        obtain rfl : l3 = v85 := hv85.symm
        show ORun p e below s _ _ _ s₁ (mkF m 41 #[.val (.ref a1), .val (.int p2), .val (.int (0 : Int32))] [(.int l3)])
        refine own_by (fun t k => XS.aloadN X0.here hx rfl (hb hby d18_41) rfl rfl k) ?_
        show ORun p e below s _ _ _ s₁ (mkF m 42 #[.val (.ref a1), .val (.int p2), .val (.int (0 : Int32))] [(.ref a1), (.int l3)])
        refine own_by (fun t k => XS.iloadN X0.here hx rfl (hb hby d18_42) rfl k) ?_
        show ORun p e below s _ _ _ s₁ (mkF m 43 #[.val (.ref a1), .val (.int p2), .val (.int (0 : Int32))] [(.int p2), (.ref a1), (.int l3)])
        refine own_iaload X0 hx hZ e0 V1 (i := p2.toInt.toNat) (by omega) (by show p2.toInt.toNat < 5; omega) (hb hby d18_43) ?_
        intro v86 hv86
        have r86 := rng32 v86
        show ORun p e below s _ _ _ s₁ (mkF m 44 #[.val (.ref a1), .val (.int p2), .val (.int (0 : Int32))] [(.int v86), (.int l3)])
        by_cases hc87 : l3 = v86
        · have t87 := own_eq hc87 (a := l3.toInt) (b := v86.toInt) rfl rfl
          refine own_by (fun t k => XS.icmpNo X0.here hx rfl (hb hby d18_44) rfl (teq hc87).2 k) ?_
          show ORun p e below s _ _ _ s₁ (mkF m 47 #[.val (.ref a1), .val (.int p2), .val (.int (0 : Int32))] [])
          refine own_by (fun t k => XS.iinc X0.here hx rfl (hb hby d18_47) rfl (l' := #[.val (.ref a1), .val (.int p2), .val (.int (1 : Int32))]) rfl k) ?_
          show ORun p e below s _ _ _ s₁ (mkF m 50 #[.val (.ref a1), .val (.int p2), .val (.int (1 : Int32))] [])
          refine own_by (fun t k => XS.aloadN X0.here hx rfl (hb hby d18_50) rfl rfl k) ?_
          show ORun p e below s _ _ _ s₁ (mkF m 51 #[.val (.ref a1), .val (.int p2), .val (.int (1 : Int32))] [(.ref a1)])
          refine own_by (fun t k => XS.iconst X0.here hx rfl (hb hby d18_51) k) ?_
          show ORun p e below s _ _ _ s₁ (mkF m 52 #[.val (.ref a1), .val (.int p2), .val (.int (1 : Int32))] [(.int (4 : Int32)), (.ref a1)])
          refine own_iaload X0 hx hZ e0 V1 (i := 4) (by decide) (by omega) (hb hby d18_52) ?_
          intro v88 hv88
          obtain rfl : l4 = v88 := hv88.symm
          show ORun p e below s _ _ _ s₁ (mkF m 53 #[.val (.ref a1), .val (.int p2), .val (.int (1 : Int32))] [(.int l4)])
          refine own_by (fun t k => XS.aloadN X0.here hx rfl (hb hby d18_53) rfl rfl k) ?_
          show ORun p e below s _ _ _ s₁ (mkF m 54 #[.val (.ref a1), .val (.int p2), .val (.int (1 : Int32))] [(.ref a1), (.int l4)])
          refine own_by (fun t k => XS.iloadN X0.here hx rfl (hb hby d18_54) rfl k) ?_
          show ORun p e below s _ _ _ s₁ (mkF m 55 #[.val (.ref a1), .val (.int p2), .val (.int (1 : Int32))] [(.int p2), (.ref a1), (.int l4)])
          refine own_iaload X0 hx hZ e0 V1 (i := p2.toInt.toNat) (by omega) (by show p2.toInt.toNat < 5; omega) (hb hby d18_55) ?_
          intro v89 hv89
          have r89 := rng32 v89
          show ORun p e below s _ _ _ s₁ (mkF m 56 #[.val (.ref a1), .val (.int p2), .val (.int (1 : Int32))] [(.int v89), (.int l4)])
          by_cases hc90 : l4 = v89
          · have t90 := own_eq hc90 (a := l4.toInt) (b := v89.toInt) rfl rfl
            refine own_by (fun t k => XS.icmpNo X0.here hx rfl (hb hby d18_56) rfl (teq hc90).2 k) ?_
            show ORun p e below s _ _ _ s₁ (mkF m 59 #[.val (.ref a1), .val (.int p2), .val (.int (1 : Int32))] [])
            refine own_by (fun t k => XS.iinc X0.here hx rfl (hb hby d18_59) rfl (l' := #[.val (.ref a1), .val (.int p2), .val (.int (2 : Int32))]) rfl k) ?_
            show ORun p e below s _ _ _ s₁ (mkF m 62 #[.val (.ref a1), .val (.int p2), .val (.int (2 : Int32))] [])
            refine own_by (fun t k => XS.iloadN X0.here hx rfl (hb hby d18_62) rfl k) ?_
            show ORun p e below s _ _ _ s₁ (mkF m 63 #[.val (.ref a1), .val (.int p2), .val (.int (2 : Int32))] [(.int (2 : Int32))])
            refine own_retI X0 hx hret hlk (hb hby d18_63) (by decide) (by decide) ?_
            rw [hv2] at hc3
            rw [hv50] at hc51
            rw [hv74] at hc75
            rw [hv86] at hc87
            rw [hv89] at hc90
            have ez : own_cnt [l0, l1, l2, l3, l4] ([l0, l1, l2, l3, l4].getD p2.toInt.toNat 0) = 2 := by
              show (if l0 = _ then 1 else 0) + ((if l1 = _ then 1 else 0) + ((if l2 = _ then 1 else 0) + ((if l3 = _ then 1 else 0) + ((if l4 = _ then 1 else 0) + 0)))) = _
              rw [if_neg hc3, if_neg hc51, if_neg hc75, if_pos hc87, if_pos hc90]
            exact ⟨by rw [ez]; rfl, N0, e0⟩
          · have t90 := own_ne hc90 (a := l4.toInt) (b := v89.toInt) rfl rfl
            refine own_by (fun t k => XS.icmpYes X0.here hx rfl (pc0 := 56) (pc' := 62) rfl (hb hby d18_56) rfl (feq hc90).2 (by decide) (by decide) k) ?_
            show ORun p e below s _ _ _ s₁ (mkF m 62 #[.val (.ref a1), .val (.int p2), .val (.int (1 : Int32))] [])
            refine own_by (fun t k => XS.iloadN X0.here hx rfl (hb hby d18_62) rfl k) ?_
            show ORun p e below s _ _ _ s₁ (mkF m 63 #[.val (.ref a1), .val (.int p2), .val (.int (1 : Int32))] [(.int (1 : Int32))])
            refine own_retI X0 hx hret hlk (hb hby d18_63) (by decide) (by decide) ?_
            rw [hv2] at hc3
            rw [hv50] at hc51
            rw [hv74] at hc75
            rw [hv86] at hc87
            rw [hv89] at hc90
            have ez : own_cnt [l0, l1, l2, l3, l4] ([l0, l1, l2, l3, l4].getD p2.toInt.toNat 0) = 1 := by
              show (if l0 = _ then 1 else 0) + ((if l1 = _ then 1 else 0) + ((if l2 = _ then 1 else 0) + ((if l3 = _ then 1 else 0) + ((if l4 = _ then 1 else 0) + 0)))) = _
              rw [if_neg hc3, if_neg hc51, if_neg hc75, if_pos hc87, if_neg hc90]
            exact ⟨by rw [ez]; rfl, N0, e0⟩
        · have t87 := own_ne hc87 (a := l3.toInt) (b := v86.toInt) rfl rfl
          refine own_by (fun t k => XS.icmpYes X0.here hx rfl (pc0 := 44) (pc' := 50) rfl (hb hby d18_44) rfl (feq hc87).2 (by decide) (by decide) k) ?_
          show ORun p e below s _ _ _ s₁ (mkF m 50 #[.val (.ref a1), .val (.int p2), .val (.int (0 : Int32))] [])
          refine own_by (fun t k => XS.aloadN X0.here hx rfl (hb hby d18_50) rfl rfl k) ?_
          show ORun p e below s _ _ _ s₁ (mkF m 51 #[.val (.ref a1), .val (.int p2), .val (.int (0 : Int32))] [(.ref a1)])
          refine own_by (fun t k => XS.iconst X0.here hx rfl (hb hby d18_51) k) ?_
          show ORun p e below s _ _ _ s₁ (mkF m 52 #[.val (.ref a1), .val (.int p2), .val (.int (0 : Int32))] [(.int (4 : Int32)), (.ref a1)])
          refine own_iaload X0 hx hZ e0 V1 (i := 4) (by decide) (by omega) (hb hby d18_52) ?_
          intro v91 hv91
          obtain rfl : l4 = v91 := hv91.symm
          show ORun p e below s _ _ _ s₁ (mkF m 53 #[.val (.ref a1), .val (.int p2), .val (.int (0 : Int32))] [(.int l4)])
          refine own_by (fun t k => XS.aloadN X0.here hx rfl (hb hby d18_53) rfl rfl k) ?_
          show ORun p e below s _ _ _ s₁ (mkF m 54 #[.val (.ref a1), .val (.int p2), .val (.int (0 : Int32))] [(.ref a1), (.int l4)])
          refine own_by (fun t k => XS.iloadN X0.here hx rfl (hb hby d18_54) rfl k) ?_
          show ORun p e below s _ _ _ s₁ (mkF m 55 #[.val (.ref a1), .val (.int p2), .val (.int (0 : Int32))] [(.int p2), (.ref a1), (.int l4)])
          refine own_iaload X0 hx hZ e0 V1 (i := p2.toInt.toNat) (by omega) (by show p2.toInt.toNat < 5; omega) (hb hby d18_55) ?_
          intro v92 hv92
          have r92 := rng32 v92
          show ORun p e below s _ _ _ s₁ (mkF m 56 #[.val (.ref a1), .val (.int p2), .val (.int (0 : Int32))] [(.int v92), (.int l4)])
          by_cases hc93 : l4 = v92
          · have t93 := own_eq hc93 (a := l4.toInt) (b := v92.toInt) rfl rfl
            refine own_by (fun t k => XS.icmpNo X0.here hx rfl (hb hby d18_56) rfl (teq hc93).2 k) ?_
            show ORun p e below s _ _ _ s₁ (mkF m 59 #[.val (.ref a1), .val (.int p2), .val (.int (0 : Int32))] [])
            refine own_by (fun t k => XS.iinc X0.here hx rfl (hb hby d18_59) rfl (l' := #[.val (.ref a1), .val (.int p2), .val (.int (1 : Int32))]) rfl k) ?_
            show ORun p e below s _ _ _ s₁ (mkF m 62 #[.val (.ref a1), .val (.int p2), .val (.int (1 : Int32))] [])
            refine own_by (fun t k => XS.iloadN X0.here hx rfl (hb hby d18_62) rfl k) ?_
            show ORun p e below s _ _ _ s₁ (mkF m 63 #[.val (.ref a1), .val (.int p2), .val (.int (1 : Int32))] [(.int (1 : Int32))])
            refine own_retI X0 hx hret hlk (hb hby d18_63) (by decide) (by decide) ?_
            rw [hv2] at hc3
            rw [hv50] at hc51
            rw [hv74] at hc75
            rw [hv86] at hc87
            rw [hv92] at hc93
            have ez : own_cnt [l0, l1, l2, l3, l4] ([l0, l1, l2, l3, l4].getD p2.toInt.toNat 0) = 1 := by
              show (if l0 = _ then 1 else 0) + ((if l1 = _ then 1 else 0) + ((if l2 = _ then 1 else 0) + ((if l3 = _ then 1 else 0) + ((if l4 = _ then 1 else 0) + 0)))) = _
              rw [if_neg hc3, if_neg hc51, if_neg hc75, if_neg hc87, if_pos hc93]
            exact ⟨by rw [ez]; rfl, N0, e0⟩
          · have t93 := own_ne hc93 (a := l4.toInt) (b := v92.toInt) rfl rfl
            refine own_by (fun t k => XS.icmpYes X0.here hx rfl (pc0 := 56) (pc' := 62) rfl (hb hby d18_56) rfl (feq hc93).2 (by decide) (by decide) k) ?_
            show ORun p e below s _ _ _ s₁ (mkF m 62 #[.val (.ref a1), .val (.int p2), .val (.int (0 : Int32))] [])
            refine own_by (fun t k => XS.iloadN X0.here hx rfl (hb hby d18_62) rfl k) ?_
            show ORun p e below s _ _ _ s₁ (mkF m 63 #[.val (.ref a1), .val (.int p2), .val (.int (0 : Int32))] [(.int (0 : Int32))])
            refine own_retI X0 hx hret hlk (hb hby d18_63) (by decide) (by decide) ?_
            rw [hv2] at hc3
            rw [hv50] at hc51
            rw [hv74] at hc75
            rw [hv86] at hc87
            rw [hv92] at hc93
            have ez : own_cnt [l0, l1, l2, l3, l4] ([l0, l1, l2, l3, l4].getD p2.toInt.toNat 0) = 0 := by
              show (if l0 = _ then 1 else 0) + ((if l1 = _ then 1 else 0) + ((if l2 = _ then 1 else 0) + ((if l3 = _ then 1 else 0) + ((if l4 = _ then 1 else 0) + 0)))) = _
              rw [if_neg hc3, if_neg hc51, if_neg hc75, if_neg hc87, if_neg hc93]
            exact ⟨by rw [ez]; rfl, N0, e0⟩
theorem d19_0 : decode method_6_code 0 = .ok (.aload_n 0, 1) := by decide +kernel
theorem d19_1 : decode method_6_code 1 = .ok (.iconst 0, 1) := by decide +kernel
theorem d19_2 : decode method_6_code 2 = .ok (.iaload, 1) := by decide +kernel
theorem d19_3 : decode method_6_code 3 = .ok (.aload_n 0, 1) := by decide +kernel
theorem d19_4 : decode method_6_code 4 = .ok (.iload_n 1, 1) := by decide +kernel
theorem d19_5 : decode method_6_code 5 = .ok (.iaload, 1) := by decide +kernel
theorem d19_6 : decode method_6_code 6 = .ok (.if_icmp .ne 5, 3) := by decide +kernel
theorem d19_9 : decode method_6_code 9 = .ok (.iconst 0, 1) := by decide +kernel
theorem d19_10 : decode method_6_code 10 = .ok (.ireturn, 1) := by decide +kernel
theorem d19_11 : decode method_6_code 11 = .ok (.aload_n 0, 1) := by decide +kernel
theorem d19_12 : decode method_6_code 12 = .ok (.iconst 1, 1) := by decide +kernel
theorem d19_13 : decode method_6_code 13 = .ok (.iaload, 1) := by decide +kernel
theorem d19_14 : decode method_6_code 14 = .ok (.aload_n 0, 1) := by decide +kernel
theorem d19_15 : decode method_6_code 15 = .ok (.iload_n 1, 1) := by decide +kernel
theorem d19_16 : decode method_6_code 16 = .ok (.iaload, 1) := by decide +kernel
theorem d19_17 : decode method_6_code 17 = .ok (.if_icmp .ne 5, 3) := by decide +kernel
theorem d19_20 : decode method_6_code 20 = .ok (.iconst 1, 1) := by decide +kernel
theorem d19_21 : decode method_6_code 21 = .ok (.ireturn, 1) := by decide +kernel
theorem d19_22 : decode method_6_code 22 = .ok (.aload_n 0, 1) := by decide +kernel
theorem d19_23 : decode method_6_code 23 = .ok (.iconst 2, 1) := by decide +kernel
theorem d19_24 : decode method_6_code 24 = .ok (.iaload, 1) := by decide +kernel
theorem d19_25 : decode method_6_code 25 = .ok (.aload_n 0, 1) := by decide +kernel
theorem d19_26 : decode method_6_code 26 = .ok (.iload_n 1, 1) := by decide +kernel
theorem d19_27 : decode method_6_code 27 = .ok (.iaload, 1) := by decide +kernel
theorem d19_28 : decode method_6_code 28 = .ok (.if_icmp .ne 5, 3) := by decide +kernel
theorem d19_31 : decode method_6_code 31 = .ok (.iconst 2, 1) := by decide +kernel
theorem d19_32 : decode method_6_code 32 = .ok (.ireturn, 1) := by decide +kernel
theorem d19_33 : decode method_6_code 33 = .ok (.aload_n 0, 1) := by decide +kernel
theorem d19_34 : decode method_6_code 34 = .ok (.iconst 3, 1) := by decide +kernel
theorem d19_35 : decode method_6_code 35 = .ok (.iaload, 1) := by decide +kernel
theorem d19_36 : decode method_6_code 36 = .ok (.aload_n 0, 1) := by decide +kernel
theorem d19_37 : decode method_6_code 37 = .ok (.iload_n 1, 1) := by decide +kernel
theorem d19_38 : decode method_6_code 38 = .ok (.iaload, 1) := by decide +kernel
theorem d19_39 : decode method_6_code 39 = .ok (.if_icmp .ne 5, 3) := by decide +kernel
theorem d19_42 : decode method_6_code 42 = .ok (.iconst 3, 1) := by decide +kernel
theorem d19_43 : decode method_6_code 43 = .ok (.ireturn, 1) := by decide +kernel
theorem d19_44 : decode method_6_code 44 = .ok (.iconst 4, 1) := by decide +kernel
theorem d19_45 : decode method_6_code 45 = .ok (.ireturn, 1) := by decide +kernel
theorem pn_rm19 : plainName "com/example/kembar/kembar/cluster/ClustersJoinPinLaw" = true := by first | (simp [plainName, overriddenIn]; done) | decide +kernel
theorem ef_rm19 (m : MethodId) (x0 : Addr) (x1 : Int32) : entryFrame m #[(.ref x0), (.int x1)] 2 = mkF m 0 #[.val (.ref x0), .val (.int x1)] [] := by first | (simp [entryFrame, mkF, argsToLocals, Value.category]; done) | rfl
set_option maxRecDepth 65536 in
set_option maxHeartbeats 40000000 in
theorem rm19 (l : Launch) (Z : State) (a0 : Array Value) (hw : ∀ d ∈ tables_1, d.before a0 Z = true) (ws : List Jvm.Cond) (h0 : Heap) (n0 : Nat) (Z0 : n0 ≤ h0.size) (a1 : Addr) (p2 l0 l1 l2 l3 l4 : Int32) (V1 : OVec Z h0 a1 .int [l0, l1, l2, l3, l4]) (hp : 0 ≤ p2.toInt ∧ p2.toInt < 5) :
    OMet l (⟨"com/example/kembar/kembar/cluster/ClustersJoinPinLaw", "first", "([II)I"⟩ : MethodName) method_6_code 2 (some .int) ws ({ frames := 0, cells := 0, slots := 0, locals := 0 } : Room) #[(.ref a1), (.int p2)] Z h0 (fun v h L' => v = some (.int (own_fst [l0, l1, l2, l3, l4] ([l0, l1, l2, l3, l4].getD p2.toInt.toNat 0))) ∧ Fr n0 L' ∧ h = h0) := by
  refine own_met (plainFor_of_name pn_rm19) ?_
  intro p e s m below meth c s₁ X0 hx hby hml hown hnm hret hlk hZ e0
  rw [ef_rm19]
  have N0 := Fr.nil n0
  have rg_p2 := rng32 p2
  have hlL : [l0, l1, l2, l3, l4].length = 5 := rfl
  show ORun p e below s _ _ _ s₁ (mkF m 0 #[.val (.ref a1), .val (.int p2)] [])
  refine own_by (fun t k => XS.aloadN X0.here hx rfl (hb hby d19_0) rfl rfl k) ?_
  show ORun p e below s _ _ _ s₁ (mkF m 1 #[.val (.ref a1), .val (.int p2)] [(.ref a1)])
  refine own_by (fun t k => XS.iconst X0.here hx rfl (hb hby d19_1) k) ?_
  show ORun p e below s _ _ _ s₁ (mkF m 2 #[.val (.ref a1), .val (.int p2)] [(.int (0 : Int32)), (.ref a1)])
  refine own_iaload X0 hx hZ e0 V1 (i := 0) (by decide) (by omega) (hb hby d19_2) ?_
  intro v1 hv1
  obtain rfl : l0 = v1 := hv1.symm
  show ORun p e below s _ _ _ s₁ (mkF m 3 #[.val (.ref a1), .val (.int p2)] [(.int l0)])
  refine own_by (fun t k => XS.aloadN X0.here hx rfl (hb hby d19_3) rfl rfl k) ?_
  show ORun p e below s _ _ _ s₁ (mkF m 4 #[.val (.ref a1), .val (.int p2)] [(.ref a1), (.int l0)])
  refine own_by (fun t k => XS.iloadN X0.here hx rfl (hb hby d19_4) rfl k) ?_
  show ORun p e below s _ _ _ s₁ (mkF m 5 #[.val (.ref a1), .val (.int p2)] [(.int p2), (.ref a1), (.int l0)])
  refine own_iaload X0 hx hZ e0 V1 (i := p2.toInt.toNat) (by omega) (by show p2.toInt.toNat < 5; omega) (hb hby d19_5) ?_
  intro v2 hv2
  have r2 := rng32 v2
  show ORun p e below s _ _ _ s₁ (mkF m 6 #[.val (.ref a1), .val (.int p2)] [(.int v2), (.int l0)])
  by_cases hc3 : l0 = v2
  · have t3 := own_eq hc3 (a := l0.toInt) (b := v2.toInt) rfl rfl
    refine own_by (fun t k => XS.icmpNo X0.here hx rfl (hb hby d19_6) rfl (teq hc3).2 k) ?_
    show ORun p e below s _ _ _ s₁ (mkF m 9 #[.val (.ref a1), .val (.int p2)] [])
    refine own_by (fun t k => XS.iconst X0.here hx rfl (hb hby d19_9) k) ?_
    show ORun p e below s _ _ _ s₁ (mkF m 10 #[.val (.ref a1), .val (.int p2)] [(.int (0 : Int32))])
    refine own_retI X0 hx hret hlk (hb hby d19_10) (by decide) (by decide) ?_
    rw [hv2] at hc3
    have ez : own_fst [l0, l1, l2, l3, l4] ([l0, l1, l2, l3, l4].getD p2.toInt.toNat 0) = (0 : Int32) := by
      show (if l0 = _ then 0 else if l1 = _ then 1 else if l2 = _ then 2 else if l3 = _ then 3 else 4) = _
      rw [if_pos hc3]
    exact ⟨by rw [ez], N0, e0⟩
  · have t3 := own_ne hc3 (a := l0.toInt) (b := v2.toInt) rfl rfl
    refine own_by (fun t k => XS.icmpYes X0.here hx rfl (pc0 := 6) (pc' := 11) rfl (hb hby d19_6) rfl (feq hc3).2 (by decide) (by decide) k) ?_
    show ORun p e below s _ _ _ s₁ (mkF m 11 #[.val (.ref a1), .val (.int p2)] [])
    refine own_by (fun t k => XS.aloadN X0.here hx rfl (hb hby d19_11) rfl rfl k) ?_
    show ORun p e below s _ _ _ s₁ (mkF m 12 #[.val (.ref a1), .val (.int p2)] [(.ref a1)])
    refine own_by (fun t k => XS.iconst X0.here hx rfl (hb hby d19_12) k) ?_
    show ORun p e below s _ _ _ s₁ (mkF m 13 #[.val (.ref a1), .val (.int p2)] [(.int (1 : Int32)), (.ref a1)])
    refine own_iaload X0 hx hZ e0 V1 (i := 1) (by decide) (by omega) (hb hby d19_13) ?_
    intro v4 hv4
    obtain rfl : l1 = v4 := hv4.symm
    show ORun p e below s _ _ _ s₁ (mkF m 14 #[.val (.ref a1), .val (.int p2)] [(.int l1)])
    refine own_by (fun t k => XS.aloadN X0.here hx rfl (hb hby d19_14) rfl rfl k) ?_
    show ORun p e below s _ _ _ s₁ (mkF m 15 #[.val (.ref a1), .val (.int p2)] [(.ref a1), (.int l1)])
    refine own_by (fun t k => XS.iloadN X0.here hx rfl (hb hby d19_15) rfl k) ?_
    show ORun p e below s _ _ _ s₁ (mkF m 16 #[.val (.ref a1), .val (.int p2)] [(.int p2), (.ref a1), (.int l1)])
    refine own_iaload X0 hx hZ e0 V1 (i := p2.toInt.toNat) (by omega) (by show p2.toInt.toNat < 5; omega) (hb hby d19_16) ?_
    intro v5 hv5
    have r5 := rng32 v5
    show ORun p e below s _ _ _ s₁ (mkF m 17 #[.val (.ref a1), .val (.int p2)] [(.int v5), (.int l1)])
    by_cases hc6 : l1 = v5
    · have t6 := own_eq hc6 (a := l1.toInt) (b := v5.toInt) rfl rfl
      refine own_by (fun t k => XS.icmpNo X0.here hx rfl (hb hby d19_17) rfl (teq hc6).2 k) ?_
      show ORun p e below s _ _ _ s₁ (mkF m 20 #[.val (.ref a1), .val (.int p2)] [])
      refine own_by (fun t k => XS.iconst X0.here hx rfl (hb hby d19_20) k) ?_
      show ORun p e below s _ _ _ s₁ (mkF m 21 #[.val (.ref a1), .val (.int p2)] [(.int (1 : Int32))])
      refine own_retI X0 hx hret hlk (hb hby d19_21) (by decide) (by decide) ?_
      rw [hv2] at hc3
      rw [hv5] at hc6
      have ez : own_fst [l0, l1, l2, l3, l4] ([l0, l1, l2, l3, l4].getD p2.toInt.toNat 0) = (1 : Int32) := by
        show (if l0 = _ then 0 else if l1 = _ then 1 else if l2 = _ then 2 else if l3 = _ then 3 else 4) = _
        rw [if_neg hc3, if_pos hc6]
      exact ⟨by rw [ez], N0, e0⟩
    · have t6 := own_ne hc6 (a := l1.toInt) (b := v5.toInt) rfl rfl
      refine own_by (fun t k => XS.icmpYes X0.here hx rfl (pc0 := 17) (pc' := 22) rfl (hb hby d19_17) rfl (feq hc6).2 (by decide) (by decide) k) ?_
      show ORun p e below s _ _ _ s₁ (mkF m 22 #[.val (.ref a1), .val (.int p2)] [])
      refine own_by (fun t k => XS.aloadN X0.here hx rfl (hb hby d19_22) rfl rfl k) ?_
      show ORun p e below s _ _ _ s₁ (mkF m 23 #[.val (.ref a1), .val (.int p2)] [(.ref a1)])
      refine own_by (fun t k => XS.iconst X0.here hx rfl (hb hby d19_23) k) ?_
      show ORun p e below s _ _ _ s₁ (mkF m 24 #[.val (.ref a1), .val (.int p2)] [(.int (2 : Int32)), (.ref a1)])
      refine own_iaload X0 hx hZ e0 V1 (i := 2) (by decide) (by omega) (hb hby d19_24) ?_
      intro v7 hv7
      obtain rfl : l2 = v7 := hv7.symm
      show ORun p e below s _ _ _ s₁ (mkF m 25 #[.val (.ref a1), .val (.int p2)] [(.int l2)])
      refine own_by (fun t k => XS.aloadN X0.here hx rfl (hb hby d19_25) rfl rfl k) ?_
      show ORun p e below s _ _ _ s₁ (mkF m 26 #[.val (.ref a1), .val (.int p2)] [(.ref a1), (.int l2)])
      refine own_by (fun t k => XS.iloadN X0.here hx rfl (hb hby d19_26) rfl k) ?_
      show ORun p e below s _ _ _ s₁ (mkF m 27 #[.val (.ref a1), .val (.int p2)] [(.int p2), (.ref a1), (.int l2)])
      refine own_iaload X0 hx hZ e0 V1 (i := p2.toInt.toNat) (by omega) (by show p2.toInt.toNat < 5; omega) (hb hby d19_27) ?_
      intro v8 hv8
      have r8 := rng32 v8
      show ORun p e below s _ _ _ s₁ (mkF m 28 #[.val (.ref a1), .val (.int p2)] [(.int v8), (.int l2)])
      by_cases hc9 : l2 = v8
      · have t9 := own_eq hc9 (a := l2.toInt) (b := v8.toInt) rfl rfl
        refine own_by (fun t k => XS.icmpNo X0.here hx rfl (hb hby d19_28) rfl (teq hc9).2 k) ?_
        show ORun p e below s _ _ _ s₁ (mkF m 31 #[.val (.ref a1), .val (.int p2)] [])
        refine own_by (fun t k => XS.iconst X0.here hx rfl (hb hby d19_31) k) ?_
        show ORun p e below s _ _ _ s₁ (mkF m 32 #[.val (.ref a1), .val (.int p2)] [(.int (2 : Int32))])
        refine own_retI X0 hx hret hlk (hb hby d19_32) (by decide) (by decide) ?_
        rw [hv2] at hc3
        rw [hv5] at hc6
        rw [hv8] at hc9
        have ez : own_fst [l0, l1, l2, l3, l4] ([l0, l1, l2, l3, l4].getD p2.toInt.toNat 0) = (2 : Int32) := by
          show (if l0 = _ then 0 else if l1 = _ then 1 else if l2 = _ then 2 else if l3 = _ then 3 else 4) = _
          rw [if_neg hc3, if_neg hc6, if_pos hc9]
        exact ⟨by rw [ez], N0, e0⟩
      · have t9 := own_ne hc9 (a := l2.toInt) (b := v8.toInt) rfl rfl
        refine own_by (fun t k => XS.icmpYes X0.here hx rfl (pc0 := 28) (pc' := 33) rfl (hb hby d19_28) rfl (feq hc9).2 (by decide) (by decide) k) ?_
        show ORun p e below s _ _ _ s₁ (mkF m 33 #[.val (.ref a1), .val (.int p2)] [])
        refine own_by (fun t k => XS.aloadN X0.here hx rfl (hb hby d19_33) rfl rfl k) ?_
        show ORun p e below s _ _ _ s₁ (mkF m 34 #[.val (.ref a1), .val (.int p2)] [(.ref a1)])
        refine own_by (fun t k => XS.iconst X0.here hx rfl (hb hby d19_34) k) ?_
        show ORun p e below s _ _ _ s₁ (mkF m 35 #[.val (.ref a1), .val (.int p2)] [(.int (3 : Int32)), (.ref a1)])
        refine own_iaload X0 hx hZ e0 V1 (i := 3) (by decide) (by omega) (hb hby d19_35) ?_
        intro v10 hv10
        obtain rfl : l3 = v10 := hv10.symm
        show ORun p e below s _ _ _ s₁ (mkF m 36 #[.val (.ref a1), .val (.int p2)] [(.int l3)])
        refine own_by (fun t k => XS.aloadN X0.here hx rfl (hb hby d19_36) rfl rfl k) ?_
        show ORun p e below s _ _ _ s₁ (mkF m 37 #[.val (.ref a1), .val (.int p2)] [(.ref a1), (.int l3)])
        refine own_by (fun t k => XS.iloadN X0.here hx rfl (hb hby d19_37) rfl k) ?_
        show ORun p e below s _ _ _ s₁ (mkF m 38 #[.val (.ref a1), .val (.int p2)] [(.int p2), (.ref a1), (.int l3)])
        refine own_iaload X0 hx hZ e0 V1 (i := p2.toInt.toNat) (by omega) (by show p2.toInt.toNat < 5; omega) (hb hby d19_38) ?_
        intro v11 hv11
        have r11 := rng32 v11
        show ORun p e below s _ _ _ s₁ (mkF m 39 #[.val (.ref a1), .val (.int p2)] [(.int v11), (.int l3)])
        by_cases hc12 : l3 = v11
        · have t12 := own_eq hc12 (a := l3.toInt) (b := v11.toInt) rfl rfl
          refine own_by (fun t k => XS.icmpNo X0.here hx rfl (hb hby d19_39) rfl (teq hc12).2 k) ?_
          show ORun p e below s _ _ _ s₁ (mkF m 42 #[.val (.ref a1), .val (.int p2)] [])
          refine own_by (fun t k => XS.iconst X0.here hx rfl (hb hby d19_42) k) ?_
          show ORun p e below s _ _ _ s₁ (mkF m 43 #[.val (.ref a1), .val (.int p2)] [(.int (3 : Int32))])
          refine own_retI X0 hx hret hlk (hb hby d19_43) (by decide) (by decide) ?_
          rw [hv2] at hc3
          rw [hv5] at hc6
          rw [hv8] at hc9
          rw [hv11] at hc12
          have ez : own_fst [l0, l1, l2, l3, l4] ([l0, l1, l2, l3, l4].getD p2.toInt.toNat 0) = (3 : Int32) := by
            show (if l0 = _ then 0 else if l1 = _ then 1 else if l2 = _ then 2 else if l3 = _ then 3 else 4) = _
            rw [if_neg hc3, if_neg hc6, if_neg hc9, if_pos hc12]
          exact ⟨by rw [ez], N0, e0⟩
        · have t12 := own_ne hc12 (a := l3.toInt) (b := v11.toInt) rfl rfl
          refine own_by (fun t k => XS.icmpYes X0.here hx rfl (pc0 := 39) (pc' := 44) rfl (hb hby d19_39) rfl (feq hc12).2 (by decide) (by decide) k) ?_
          show ORun p e below s _ _ _ s₁ (mkF m 44 #[.val (.ref a1), .val (.int p2)] [])
          refine own_by (fun t k => XS.iconst X0.here hx rfl (hb hby d19_44) k) ?_
          show ORun p e below s _ _ _ s₁ (mkF m 45 #[.val (.ref a1), .val (.int p2)] [(.int (4 : Int32))])
          refine own_retI X0 hx hret hlk (hb hby d19_45) (by decide) (by decide) ?_
          rw [hv2] at hc3
          rw [hv5] at hc6
          rw [hv8] at hc9
          rw [hv11] at hc12
          have ez : own_fst [l0, l1, l2, l3, l4] ([l0, l1, l2, l3, l4].getD p2.toInt.toNat 0) = (4 : Int32) := by
            show (if l0 = _ then 0 else if l1 = _ then 1 else if l2 = _ then 2 else if l3 = _ then 3 else 4) = _
            rw [if_neg hc3, if_neg hc6, if_neg hc9, if_neg hc12]
          exact ⟨by rw [ez], N0, e0⟩
theorem d17_0 : decode method_7_code 0 = .ok (.aload_n 0, 1) := by decide +kernel
theorem d17_1 : decode method_7_code 1 = .ok (.iload_n 2, 1) := by decide +kernel
theorem d17_2 : decode method_7_code 2 = .ok (.invokestatic 24, 3) := by decide +kernel
theorem d17_5 : decode method_7_code 5 = .ok (.iconst 2, 1) := by decide +kernel
theorem d17_6 : decode method_7_code 6 = .ok (.if_icmp .lt 22, 3) := by decide +kernel
theorem d17_9 : decode method_7_code 9 = .ok (.aload_n 0, 1) := by decide +kernel
theorem d17_10 : decode method_7_code 10 = .ok (.iload_n 2, 1) := by decide +kernel
theorem d17_11 : decode method_7_code 11 = .ok (.invokestatic 28, 3) := by decide +kernel
theorem d17_14 : decode method_7_code 14 = .ok (.iload_n 2, 1) := by decide +kernel
theorem d17_15 : decode method_7_code 15 = .ok (.if_icmp .ne 13, 3) := by decide +kernel
theorem d17_18 : decode method_7_code 18 = .ok (.aload_n 1, 1) := by decide +kernel
theorem d17_19 : decode method_7_code 19 = .ok (.iload_n 2, 1) := by decide +kernel
theorem d17_20 : decode method_7_code 20 = .ok (.iload_n 3, 1) := by decide +kernel
theorem d17_21 : decode method_7_code 21 = .ok (.iconst 1, 1) := by decide +kernel
theorem d17_22 : decode method_7_code 22 = .ok (.iadd, 1) := by decide +kernel
theorem d17_23 : decode method_7_code 23 = .ok (.iastore, 1) := by decide +kernel
theorem d17_24 : decode method_7_code 24 = .ok (.iload_n 3, 1) := by decide +kernel
theorem d17_25 : decode method_7_code 25 = .ok (.iconst 1, 1) := by decide +kernel
theorem d17_26 : decode method_7_code 26 = .ok (.iadd, 1) := by decide +kernel
theorem d17_27 : decode method_7_code 27 = .ok (.ireturn, 1) := by decide +kernel
theorem d17_28 : decode method_7_code 28 = .ok (.iload_n 3, 1) := by decide +kernel
theorem d17_29 : decode method_7_code 29 = .ok (.ireturn, 1) := by decide +kernel
theorem pn_rm17 : plainName "com/example/kembar/kembar/cluster/ClustersJoinPinLaw" = true := by first | (simp [plainName, overriddenIn]; done) | decide +kernel
theorem ef_rm17 (m : MethodId) (x0 : Addr) (x1 : Addr) (x2 : Int32) (x3 : Int32) : entryFrame m #[(.ref x0), (.ref x1), (.int x2), (.int x3)] 4 = mkF m 0 #[.val (.ref x0), .val (.ref x1), .val (.int x2), .val (.int x3)] [] := by first | (simp [entryFrame, mkF, argsToLocals, Value.category]; done) | rfl
set_option maxRecDepth 65536 in
set_option maxHeartbeats 40000000 in
theorem rm17 (l : Launch) (Z : State) (a0 : Array Value) (hw : ∀ d ∈ tables_1, d.before a0 Z = true) (ws : List Jvm.Cond) (h0 : Heap) (n0 : Nat) (Z0 : n0 ≤ h0.size) (a1 a2 : Addr) (p3 p4 l0 l1 l2 l3 l4 : Int32) (R : List Int32) (V1 : OVec Z h0 a1 .int [l0, l1, l2, l3, l4]) (V2 : OVec Z h0 a2 .int R) (hR : R.length = 5) (g2 : n0 ≤ a2) (hp : 0 ≤ p3.toInt ∧ p3.toInt < 5) :
    OMet l (⟨"com/example/kembar/kembar/cluster/ClustersJoinPinLaw", "rankStep", "([I[III)I"⟩ : MethodName) method_7_code 4 (some .int) ws ({ frames := 1, cells := 0, slots := 0, locals := 20 } : Room) #[(.ref a1), (.ref a2), (.int p3), (.int p4)] Z h0 (fun v h L' => v = some (.int (own_rk [l0, l1, l2, l3, l4] R p3 p4).2) ∧ Fr n0 L' ∧ Keep h0 h [a2] ∧ OVec Z h a2 .int (own_rk [l0, l1, l2, l3, l4] R p3 p4).1) := by
  refine own_met (plainFor_of_name pn_rm17) ?_
  intro p e s m below meth c s₁ X0 hx hby hml hown hnm hret hlk hZ e0
  rw [ef_rm17]
  have N0 := Fr.nil n0
  have rg_p3 := rng32 p3
  have rg_p4 := rng32 p4
  show ORun p e below s _ _ _ s₁ (mkF m 0 #[.val (.ref a1), .val (.ref a2), .val (.int p3), .val (.int p4)] [])
  refine own_by (fun t k => XS.aloadN X0.here hx rfl (hb hby d17_0) rfl rfl k) ?_
  show ORun p e below s _ _ _ s₁ (mkF m 1 #[.val (.ref a1), .val (.ref a2), .val (.int p3), .val (.int p4)] [(.ref a1)])
  refine own_by (fun t k => XS.iloadN X0.here hx rfl (hb hby d17_1) rfl k) ?_
  show ORun p e below s _ _ _ s₁ (mkF m 2 #[.val (.ref a1), .val (.ref a2), .val (.int p3), .val (.int p4)] [(.int p3), (.ref a1)])
  refine own_callS X0 hx hZ hown (hw _ (List.mem_of_getElem? (i := 102) rfl)) (hw _ (List.mem_of_getElem? (i := 103) rfl)) (hw _ (List.mem_of_getElem? (i := 14) rfl)) (hw _ (List.mem_of_getElem? (i := 104) rfl)) (by decide) (rm18 l Z a0 hw [] h0 n0 Z0 a1 p3 l0 l1 l2 l3 l4 V1 hp) e0 (by decide) (W := 0) (by decide) (by decide) (by decide) (argsL := [(.ref a1), (.int p3)]) (rest := []) (by rw [hml]; rfl) (lenOf pd_11 rfl) rfl rfl (Nat.le_of_eq rfl) (hb hby d17_2) ?_
  intro T1 L1 u1 X1 hQ1
  obtain ⟨rfl, Nq1, e1⟩ := hQ1
  refine own_letI (f := fun z => (mkF m 5 #[.val (.ref a1), .val (.ref a2), .val (.int p3), .val (.int p4)] [(.int z)])) (Int32.ofNat (own_cnt [l0, l1, l2, l3, l4] ([l0, l1, l2, l3, l4].getD (p3).toInt.toNat 0))) fun y1 hy1 => ?_
  have hyt1 : y1.toInt = own_cnt [l0, l1, l2, l3, l4] ([l0, l1, l2, l3, l4].getD (p3).toInt.toNat 0) := by rw [hy1]; exact own_cntI _ _ _ _ _ _
  have N1 := Fr.app N0 Nq1
  show ORun p e below s _ _ _ T1 (mkF m 5 #[.val (.ref a1), .val (.ref a2), .val (.int p3), .val (.int p4)] [(.int y1)])
  refine own_by (fun t k => XS.iconst X1.here hx rfl (hb hby d17_5) k) ?_
  show ORun p e below s _ _ _ T1 (mkF m 6 #[.val (.ref a1), .val (.ref a2), .val (.int p3), .val (.int p4)] [(.int (2 : Int32)), (.int y1)])
  by_cases hc2 : y1 < (2 : Int32)
  · have t2 := own_lt hc2 (a := y1.toInt) (b := 2) rfl (by decide)
    refine own_by (fun t k => XS.icmpYes X1.here hx rfl (pc0 := 6) (pc' := 28) rfl (hb hby d17_6) rfl (tlt hc2).1 (by decide) (by decide) k) ?_
    show ORun p e below s _ _ _ T1 (mkF m 28 #[.val (.ref a1), .val (.ref a2), .val (.int p3), .val (.int p4)] [])
    refine own_by (fun t k => XS.iloadN X1.here hx rfl (hb hby d17_28) rfl k) ?_
    show ORun p e below s _ _ _ T1 (mkF m 29 #[.val (.ref a1), .val (.ref a2), .val (.int p3), .val (.int p4)] [(.int p4)])
    refine own_retI X1 hx hret hlk (hb hby d17_29) (by decide) (by decide) ?_
    have pz : ¬ (2 ≤ own_cnt [l0, l1, l2, l3, l4] ([l0, l1, l2, l3, l4].getD p3.toInt.toNat 0) ∧ own_fst [l0, l1, l2, l3, l4] ([l0, l1, l2, l3, l4].getD p3.toInt.toNat 0) = p3) := by
      rintro ⟨q1, q2⟩
      omega
    have ek : own_rk [l0, l1, l2, l3, l4] R p3 p4 = (R, p4) := if_neg pz
    rw [e1]
    rw [ek]
    exact ⟨rfl, N1, (Keep.refl h0 [a2]), V2⟩
  · have t2 := own_nlt hc2 (a := y1.toInt) (b := 2) rfl (by decide)
    refine own_by (fun t k => XS.icmpNo X1.here hx rfl (hb hby d17_6) rfl (flt hc2).1 k) ?_
    show ORun p e below s _ _ _ T1 (mkF m 9 #[.val (.ref a1), .val (.ref a2), .val (.int p3), .val (.int p4)] [])
    refine own_by (fun t k => XS.aloadN X1.here hx rfl (hb hby d17_9) rfl rfl k) ?_
    show ORun p e below s _ _ _ T1 (mkF m 10 #[.val (.ref a1), .val (.ref a2), .val (.int p3), .val (.int p4)] [(.ref a1)])
    refine own_by (fun t k => XS.iloadN X1.here hx rfl (hb hby d17_10) rfl k) ?_
    show ORun p e below s _ _ _ T1 (mkF m 11 #[.val (.ref a1), .val (.ref a2), .val (.int p3), .val (.int p4)] [(.int p3), (.ref a1)])
    refine own_callS X1 hx hZ hown (hw _ (List.mem_of_getElem? (i := 105) rfl)) (hw _ (List.mem_of_getElem? (i := 106) rfl)) (hw _ (List.mem_of_getElem? (i := 14) rfl)) (hw _ (List.mem_of_getElem? (i := 107) rfl)) (by decide) (rm19 l Z a0 hw [] h0 n0 Z0 a1 p3 l0 l1 l2 l3 l4 V1 hp) e1 (by decide) (W := 0) (by decide) (by decide) (by decide) (argsL := [(.ref a1), (.int p3)]) (rest := []) (by rw [hml]; rfl) (lenOf pd_11 rfl) rfl rfl (Nat.le_of_eq rfl) (hb hby d17_11) ?_
    intro T3 L3 u3 X3 hQ3
    obtain ⟨rfl, Nq3, e3⟩ := hQ3
    refine own_letI (f := fun z => (mkF m 14 #[.val (.ref a1), .val (.ref a2), .val (.int p3), .val (.int p4)] [(.int z)])) (own_fst [l0, l1, l2, l3, l4] ([l0, l1, l2, l3, l4].getD (p3).toInt.toNat 0)) fun y3 hy3 => ?_
    have hyf3 : 0 ≤ y3.toInt ∧ y3.toInt < 5 := by rw [hy3]; exact own_fstI _ _
    have N3 := Fr.app N1 Nq3
    show ORun p e below s _ _ _ T3 (mkF m 14 #[.val (.ref a1), .val (.ref a2), .val (.int p3), .val (.int p4)] [(.int y3)])
    refine own_by (fun t k => XS.iloadN X3.here hx rfl (hb hby d17_14) rfl k) ?_
    show ORun p e below s _ _ _ T3 (mkF m 15 #[.val (.ref a1), .val (.ref a2), .val (.int p3), .val (.int p4)] [(.int p3), (.int y3)])
    by_cases hc4 : y3 = p3
    · have t4 := own_eq hc4 (a := y3.toInt) (b := p3.toInt) rfl rfl
      refine own_by (fun t k => XS.icmpNo X3.here hx rfl (hb hby d17_15) rfl (teq hc4).2 k) ?_
      show ORun p e below s _ _ _ T3 (mkF m 18 #[.val (.ref a1), .val (.ref a2), .val (.int p3), .val (.int p4)] [])
      refine own_by (fun t k => XS.aloadN X3.here hx rfl (hb hby d17_18) rfl rfl k) ?_
      show ORun p e below s _ _ _ T3 (mkF m 19 #[.val (.ref a1), .val (.ref a2), .val (.int p3), .val (.int p4)] [(.ref a2)])
      refine own_by (fun t k => XS.iloadN X3.here hx rfl (hb hby d17_19) rfl k) ?_
      show ORun p e below s _ _ _ T3 (mkF m 20 #[.val (.ref a1), .val (.ref a2), .val (.int p3), .val (.int p4)] [(.int p3), (.ref a2)])
      refine own_by (fun t k => XS.iloadN X3.here hx rfl (hb hby d17_20) rfl k) ?_
      show ORun p e below s _ _ _ T3 (mkF m 21 #[.val (.ref a1), .val (.ref a2), .val (.int p3), .val (.int p4)] [(.int p4), (.int p3), (.ref a2)])
      refine own_by (fun t k => XS.iconst X3.here hx rfl (hb hby d17_21) k) ?_
      show ORun p e below s _ _ _ T3 (mkF m 22 #[.val (.ref a1), .val (.ref a2), .val (.int p3), .val (.int p4)] [(.int (1 : Int32)), (.int p4), (.int p3), (.ref a2)])
      refine own_by (fun t k => XS.iadd X3.here hx rfl (hb hby d17_22) rfl k) (own_letI (f := (fun z => (mkF m 23 #[.val (.ref a1), .val (.ref a2), .val (.int p3), .val (.int p4)] [(.int z), (.int p3), (.ref a2)]))) (p4 + (1 : Int32)) fun v5 hv5 => ?_)
      show ORun p e below s _ _ _ T3 (mkF m 23 #[.val (.ref a1), .val (.ref a2), .val (.int p3), .val (.int p4)] [(.int v5), (.int p3), (.ref a2)])
      have a5a : (v5.toInt - (p4.toInt + 1)) % 4294967296 = 0 := by rw [hv5]; exact c_iadd p4 (1 : Int32)
      have r5 := rng32 v5
      refine own_iastore X3 hx hZ e3 V2 (i := p3.toInt.toNat) (by omega) (by omega) (hb hby d17_23) ?_
      intro T6 h6 L6 X6 e6 W6 hL6 V6
      have len6 : L6.length = 5 := by rw [hL6, List.length_set]; exact hR
      have N6 := Fr.snoc X6 N3 g2
      show ORun p e below s _ _ _ T6 (mkF m 24 #[.val (.ref a1), .val (.ref a2), .val (.int p3), .val (.int p4)] [])
      refine own_by (fun t k => XS.iloadN X6.here hx rfl (hb hby d17_24) rfl k) ?_
      show ORun p e below s _ _ _ T6 (mkF m 25 #[.val (.ref a1), .val (.ref a2), .val (.int p3), .val (.int p4)] [(.int p4)])
      refine own_by (fun t k => XS.iconst X6.here hx rfl (hb hby d17_25) k) ?_
      show ORun p e below s _ _ _ T6 (mkF m 26 #[.val (.ref a1), .val (.ref a2), .val (.int p3), .val (.int p4)] [(.int (1 : Int32)), (.int p4)])
      refine own_by (fun t k => XS.iadd X6.here hx rfl (hb hby d17_26) rfl k) (own_letI (f := (fun z => (mkF m 27 #[.val (.ref a1), .val (.ref a2), .val (.int p3), .val (.int p4)] [(.int z)]))) (p4 + (1 : Int32)) fun v7 hv7 => ?_)
      show ORun p e below s _ _ _ T6 (mkF m 27 #[.val (.ref a1), .val (.ref a2), .val (.int p3), .val (.int p4)] [(.int v7)])
      have a7a : (v7.toInt - (p4.toInt + 1)) % 4294967296 = 0 := by rw [hv7]; exact c_iadd p4 (1 : Int32)
      have r7 := rng32 v7
      refine own_retI X6 hx hret hlk (hb hby d17_27) (by decide) (by decide) ?_
      have pz : (2 ≤ own_cnt [l0, l1, l2, l3, l4] ([l0, l1, l2, l3, l4].getD p3.toInt.toNat 0) ∧ own_fst [l0, l1, l2, l3, l4] ([l0, l1, l2, l3, l4].getD p3.toInt.toNat 0) = p3) := ⟨by omega, by rw [← hy3]; exact hc4⟩
      have ek : own_rk [l0, l1, l2, l3, l4] R p3 p4 = (R.set p3.toInt.toNat (p4 + 1), p4 + 1) := if_pos pz
      rw [e6]
      rw [ek]
      exact ⟨by rw [hv7], N6, ((Keep.refl h0 [a2]).wr W6 (Or.inl (List.mem_of_getElem? (i := 0) rfl))), (by have q := V6; rw [hL6] at q; simpa only [hv5] using q)⟩
    · have t4 := own_ne hc4 (a := y3.toInt) (b := p3.toInt) rfl rfl
      refine own_by (fun t k => XS.icmpYes X3.here hx rfl (pc0 := 15) (pc' := 28) rfl (hb hby d17_15) rfl (feq hc4).2 (by decide) (by decide) k) ?_
      show ORun p e below s _ _ _ T3 (mkF m 28 #[.val (.ref a1), .val (.ref a2), .val (.int p3), .val (.int p4)] [])
      refine own_by (fun t k => XS.iloadN X3.here hx rfl (hb hby d17_28) rfl k) ?_
      show ORun p e below s _ _ _ T3 (mkF m 29 #[.val (.ref a1), .val (.ref a2), .val (.int p3), .val (.int p4)] [(.int p4)])
      refine own_retI X3 hx hret hlk (hb hby d17_29) (by decide) (by decide) ?_
      have pz : ¬ (2 ≤ own_cnt [l0, l1, l2, l3, l4] ([l0, l1, l2, l3, l4].getD p3.toInt.toNat 0) ∧ own_fst [l0, l1, l2, l3, l4] ([l0, l1, l2, l3, l4].getD p3.toInt.toNat 0) = p3) := by
        rintro ⟨q1, q2⟩
        exact hc4 (by rw [hy3]; exact q2)
      have ek : own_rk [l0, l1, l2, l3, l4] R p3 p4 = (R, p4) := if_neg pz
      rw [e3]
      rw [ek]
      exact ⟨rfl, N3, (Keep.refl h0 [a2]), V2⟩
theorem d27_0 : decode method_8_code 0 = .ok (.aload_n 0, 1) := by decide +kernel
theorem d27_1 : decode method_8_code 1 = .ok (.iload_n 2, 1) := by decide +kernel
theorem d27_2 : decode method_8_code 2 = .ok (.invokestatic 24, 3) := by decide +kernel
theorem d27_5 : decode method_8_code 5 = .ok (.iconst 2, 1) := by decide +kernel
theorem d27_6 : decode method_8_code 6 = .ok (.if_icmp .lt 11, 3) := by decide +kernel
theorem d27_9 : decode method_8_code 9 = .ok (.aload_n 1, 1) := by decide +kernel
theorem d27_10 : decode method_8_code 10 = .ok (.aload_n 0, 1) := by decide +kernel
theorem d27_11 : decode method_8_code 11 = .ok (.iload_n 2, 1) := by decide +kernel
theorem d27_12 : decode method_8_code 12 = .ok (.invokestatic 28, 3) := by decide +kernel
theorem d27_15 : decode method_8_code 15 = .ok (.iaload, 1) := by decide +kernel
theorem d27_16 : decode method_8_code 16 = .ok (.ireturn, 1) := by decide +kernel
theorem d27_17 : decode method_8_code 17 = .ok (.iconst 0, 1) := by decide +kernel
theorem d27_18 : decode method_8_code 18 = .ok (.ireturn, 1) := by decide +kernel
theorem pn_rm27 : plainName "com/example/kembar/kembar/cluster/ClustersJoinPinLaw" = true := by first | (simp [plainName, overriddenIn]; done) | decide +kernel
theorem ef_rm27 (m : MethodId) (x0 : Addr) (x1 : Addr) (x2 : Int32) : entryFrame m #[(.ref x0), (.ref x1), (.int x2)] 3 = mkF m 0 #[.val (.ref x0), .val (.ref x1), .val (.int x2)] [] := by first | (simp [entryFrame, mkF, argsToLocals, Value.category]; done) | rfl
set_option maxRecDepth 65536 in
set_option maxHeartbeats 40000000 in
theorem rm27 (l : Launch) (Z : State) (a0 : Array Value) (hw : ∀ d ∈ tables_1, d.before a0 Z = true) (ws : List Jvm.Cond) (h0 : Heap) (n0 : Nat) (Z0 : n0 ≤ h0.size) (a1 a2 : Addr) (p3 l0 l1 l2 l3 l4 : Int32) (R : List Int32) (V1 : OVec Z h0 a1 .int [l0, l1, l2, l3, l4]) (V2 : OVec Z h0 a2 .int R) (hR : R.length = 5) (hp : 0 ≤ p3.toInt ∧ p3.toInt < 5) :
    OMet l (⟨"com/example/kembar/kembar/cluster/ClustersJoinPinLaw", "expect", "([I[II)I"⟩ : MethodName) method_8_code 3 (some .int) ws ({ frames := 1, cells := 0, slots := 0, locals := 20 } : Room) #[(.ref a1), (.ref a2), (.int p3)] Z h0 (fun v h L' => v = some (.int (own_ex [l0, l1, l2, l3, l4] R p3)) ∧ Fr n0 L' ∧ h = h0) := by
  refine own_met (plainFor_of_name pn_rm27) ?_
  intro p e s m below meth c s₁ X0 hx hby hml hown hnm hret hlk hZ e0
  rw [ef_rm27]
  have N0 := Fr.nil n0
  have rg_p3 := rng32 p3
  show ORun p e below s _ _ _ s₁ (mkF m 0 #[.val (.ref a1), .val (.ref a2), .val (.int p3)] [])
  refine own_by (fun t k => XS.aloadN X0.here hx rfl (hb hby d27_0) rfl rfl k) ?_
  show ORun p e below s _ _ _ s₁ (mkF m 1 #[.val (.ref a1), .val (.ref a2), .val (.int p3)] [(.ref a1)])
  refine own_by (fun t k => XS.iloadN X0.here hx rfl (hb hby d27_1) rfl k) ?_
  show ORun p e below s _ _ _ s₁ (mkF m 2 #[.val (.ref a1), .val (.ref a2), .val (.int p3)] [(.int p3), (.ref a1)])
  refine own_callS X0 hx hZ hown (hw _ (List.mem_of_getElem? (i := 102) rfl)) (hw _ (List.mem_of_getElem? (i := 103) rfl)) (hw _ (List.mem_of_getElem? (i := 14) rfl)) (hw _ (List.mem_of_getElem? (i := 104) rfl)) (by decide) (rm18 l Z a0 hw [] h0 n0 Z0 a1 p3 l0 l1 l2 l3 l4 V1 hp) e0 (by decide) (W := 0) (by decide) (by decide) (by decide) (argsL := [(.ref a1), (.int p3)]) (rest := []) (by rw [hml]; rfl) (lenOf pd_11 rfl) rfl rfl (Nat.le_of_eq rfl) (hb hby d27_2) ?_
  intro T1 L1 u1 X1 hQ1
  obtain ⟨rfl, Nq1, e1⟩ := hQ1
  refine own_letI (f := fun z => (mkF m 5 #[.val (.ref a1), .val (.ref a2), .val (.int p3)] [(.int z)])) (Int32.ofNat (own_cnt [l0, l1, l2, l3, l4] ([l0, l1, l2, l3, l4].getD (p3).toInt.toNat 0))) fun y1 hy1 => ?_
  have hyt1 : y1.toInt = own_cnt [l0, l1, l2, l3, l4] ([l0, l1, l2, l3, l4].getD (p3).toInt.toNat 0) := by rw [hy1]; exact own_cntI _ _ _ _ _ _
  have N1 := Fr.app N0 Nq1
  show ORun p e below s _ _ _ T1 (mkF m 5 #[.val (.ref a1), .val (.ref a2), .val (.int p3)] [(.int y1)])
  refine own_by (fun t k => XS.iconst X1.here hx rfl (hb hby d27_5) k) ?_
  show ORun p e below s _ _ _ T1 (mkF m 6 #[.val (.ref a1), .val (.ref a2), .val (.int p3)] [(.int (2 : Int32)), (.int y1)])
  by_cases hc2 : y1 < (2 : Int32)
  · have t2 := own_lt hc2 (a := y1.toInt) (b := 2) rfl (by decide)
    refine own_by (fun t k => XS.icmpYes X1.here hx rfl (pc0 := 6) (pc' := 17) rfl (hb hby d27_6) rfl (tlt hc2).1 (by decide) (by decide) k) ?_
    show ORun p e below s _ _ _ T1 (mkF m 17 #[.val (.ref a1), .val (.ref a2), .val (.int p3)] [])
    refine own_by (fun t k => XS.iconst X1.here hx rfl (hb hby d27_17) k) ?_
    show ORun p e below s _ _ _ T1 (mkF m 18 #[.val (.ref a1), .val (.ref a2), .val (.int p3)] [(.int (0 : Int32))])
    refine own_retI X1 hx hret hlk (hb hby d27_18) (by decide) (by decide) ?_
    have pz : ¬ 2 ≤ own_cnt [l0, l1, l2, l3, l4] ([l0, l1, l2, l3, l4].getD p3.toInt.toNat 0) := by omega
    exact ⟨by unfold own_ex; rw [if_neg pz], N1, e1⟩
  · have t2 := own_nlt hc2 (a := y1.toInt) (b := 2) rfl (by decide)
    refine own_by (fun t k => XS.icmpNo X1.here hx rfl (hb hby d27_6) rfl (flt hc2).1 k) ?_
    show ORun p e below s _ _ _ T1 (mkF m 9 #[.val (.ref a1), .val (.ref a2), .val (.int p3)] [])
    refine own_by (fun t k => XS.aloadN X1.here hx rfl (hb hby d27_9) rfl rfl k) ?_
    show ORun p e below s _ _ _ T1 (mkF m 10 #[.val (.ref a1), .val (.ref a2), .val (.int p3)] [(.ref a2)])
    refine own_by (fun t k => XS.aloadN X1.here hx rfl (hb hby d27_10) rfl rfl k) ?_
    show ORun p e below s _ _ _ T1 (mkF m 11 #[.val (.ref a1), .val (.ref a2), .val (.int p3)] [(.ref a1), (.ref a2)])
    refine own_by (fun t k => XS.iloadN X1.here hx rfl (hb hby d27_11) rfl k) ?_
    show ORun p e below s _ _ _ T1 (mkF m 12 #[.val (.ref a1), .val (.ref a2), .val (.int p3)] [(.int p3), (.ref a1), (.ref a2)])
    refine own_callS X1 hx hZ hown (hw _ (List.mem_of_getElem? (i := 105) rfl)) (hw _ (List.mem_of_getElem? (i := 106) rfl)) (hw _ (List.mem_of_getElem? (i := 14) rfl)) (hw _ (List.mem_of_getElem? (i := 107) rfl)) (by decide) (rm19 l Z a0 hw [] h0 n0 Z0 a1 p3 l0 l1 l2 l3 l4 V1 hp) e1 (by decide) (W := 1) (by decide) (by decide) (by decide) (argsL := [(.ref a1), (.int p3)]) (rest := [(.ref a2)]) (by rw [hml]; rfl) (lenOf pd_11 rfl) rfl rfl (Nat.le_of_eq rfl) (hb hby d27_12) ?_
    intro T3 L3 u3 X3 hQ3
    obtain ⟨rfl, Nq3, e3⟩ := hQ3
    refine own_letI (f := fun z => (mkF m 15 #[.val (.ref a1), .val (.ref a2), .val (.int p3)] [(.int z), (.ref a2)])) (own_fst [l0, l1, l2, l3, l4] ([l0, l1, l2, l3, l4].getD (p3).toInt.toNat 0)) fun y3 hy3 => ?_
    have hyf3 : 0 ≤ y3.toInt ∧ y3.toInt < 5 := by rw [hy3]; exact own_fstI _ _
    have N3 := Fr.app N1 Nq3
    show ORun p e below s _ _ _ T3 (mkF m 15 #[.val (.ref a1), .val (.ref a2), .val (.int p3)] [(.int y3), (.ref a2)])
    refine own_iaload X3 hx hZ e3 V2 (i := y3.toInt.toNat) (by omega) (by omega) (hb hby d27_15) ?_
    intro v4 hv4
    have r4 := rng32 v4
    show ORun p e below s _ _ _ T3 (mkF m 16 #[.val (.ref a1), .val (.ref a2), .val (.int p3)] [(.int v4)])
    refine own_retI X3 hx hret hlk (hb hby d27_16) (by decide) (by decide) ?_
    have pz : 2 ≤ own_cnt [l0, l1, l2, l3, l4] ([l0, l1, l2, l3, l4].getD p3.toInt.toNat 0) := by omega
    exact ⟨by unfold own_ex; rw [if_pos pz, hv4, hy3], N3, e3⟩
theorem d26_0 : decode method_9_code 0 = .ok (.iload_n 2, 1) := by decide +kernel
theorem d26_1 : decode method_9_code 1 = .ok (.aload_n 1, 1) := by decide +kernel
theorem d26_2 : decode method_9_code 2 = .ok (.arraylength, 1) := by decide +kernel
theorem d26_3 : decode method_9_code 3 = .ok (.if_icmp .lt 5, 3) := by decide +kernel
theorem d26_6 : decode method_9_code 6 = .ok (.iconst 1, 1) := by decide +kernel
theorem d26_7 : decode method_9_code 7 = .ok (.ireturn, 1) := by decide +kernel
theorem d26_8 : decode method_9_code 8 = .ok (.aload_n 1, 1) := by decide +kernel
theorem d26_9 : decode method_9_code 9 = .ok (.iload_n 2, 1) := by decide +kernel
theorem d26_10 : decode method_9_code 10 = .ok (.iaload, 1) := by decide +kernel
theorem d26_11 : decode method_9_code 11 = .ok (.istore 4, 2) := by decide +kernel
theorem d26_13 : decode method_9_code 13 = .ok (.iload 4, 2) := by decide +kernel
theorem d26_15 : decode method_9_code 15 = .ok (.ifCond .lt 9, 3) := by decide +kernel
theorem d26_18 : decode method_9_code 18 = .ok (.iload 4, 2) := by decide +kernel
theorem d26_20 : decode method_9_code 20 = .ok (.iconst 4, 1) := by decide +kernel
theorem d26_21 : decode method_9_code 21 = .ok (.if_icmp .le 5, 3) := by decide +kernel
theorem d26_26 : decode method_9_code 26 = .ok (.iload_n 2, 1) := by decide +kernel
theorem d26_27 : decode method_9_code 27 = .ok (.ifCond .le 15, 3) := by decide +kernel
theorem d26_30 : decode method_9_code 30 = .ok (.aload_n 1, 1) := by decide +kernel
theorem d26_31 : decode method_9_code 31 = .ok (.iload_n 2, 1) := by decide +kernel
theorem d26_32 : decode method_9_code 32 = .ok (.iconst 1, 1) := by decide +kernel
theorem d26_33 : decode method_9_code 33 = .ok (.isub, 1) := by decide +kernel
theorem d26_34 : decode method_9_code 34 = .ok (.iaload, 1) := by decide +kernel
theorem d26_35 : decode method_9_code 35 = .ok (.iload 4, 2) := by decide +kernel
theorem d26_37 : decode method_9_code 37 = .ok (.if_icmp .lt 5, 3) := by decide +kernel
theorem d26_42 : decode method_9_code 42 = .ok (.aload_n 0, 1) := by decide +kernel
theorem d26_43 : decode method_9_code 43 = .ok (.iload 4, 2) := by decide +kernel
theorem d26_45 : decode method_9_code 45 = .ok (.iaload, 1) := by decide +kernel
theorem d26_46 : decode method_9_code 46 = .ok (.ifCond .eq 5, 3) := by decide +kernel
theorem d26_51 : decode method_9_code 51 = .ok (.aload_n 0, 1) := by decide +kernel
theorem d26_52 : decode method_9_code 52 = .ok (.iload 4, 2) := by decide +kernel
theorem d26_54 : decode method_9_code 54 = .ok (.iload_n 3, 1) := by decide +kernel
theorem d26_55 : decode method_9_code 55 = .ok (.iastore, 1) := by decide +kernel
theorem d26_56 : decode method_9_code 56 = .ok (.iconst 1, 1) := by decide +kernel
theorem d26_57 : decode method_9_code 57 = .ok (.ireturn, 1) := by decide +kernel
theorem pn_rm26 : plainName "com/example/kembar/kembar/cluster/ClustersJoinPinLaw" = true := by first | (simp [plainName, overriddenIn]; done) | decide +kernel
theorem ef_rm26 (m : MethodId) (x0 : Addr) (x1 : Addr) (x2 : Int32) (x3 : Int32) : entryFrame m #[(.ref x0), (.ref x1), (.int x2), (.int x3)] 5 = mkF m 0 #[.val (.ref x0), .val (.ref x1), .val (.int x2), .val (.int x3), .unset] [] := by first | (simp [entryFrame, mkF, argsToLocals, Value.category]; done) | rfl
set_option maxRecDepth 65536 in
set_option maxHeartbeats 40000000 in
theorem rm26 (l : Launch) (Z : State) (a0 : Array Value) (hw : ∀ d ∈ tables_1, d.before a0 Z = true) (ws : List Jvm.Cond) (h0 : Heap) (n0 : Nat) (Z0 : n0 ≤ h0.size) (a1 a2 : Addr) (p3 p4 : Int32) (i N : Nat) (Cc G : List Int32) (V1 : OVec Z h0 a1 .int Cc) (hC : Cc.length = 5) (g1 : n0 ≤ a1) (V2 : OVec Z h0 a2 .int G) (hG : G.length = N) (hN : N ≤ 5) (hi : p3.toInt = (i : Int)) (ok : own_ok Cc G i) :
    OMet l (⟨"com/example/kembar/kembar/cluster/ClustersJoinPinLaw", "step", "([I[III)Z"⟩ : MethodName) method_9_code 5 (some .boolean) ws ({ frames := 0, cells := 0, slots := 0, locals := 0 } : Room) #[(.ref a1), (.ref a2), (.int p3), (.int p4)] Z h0 (fun v h L' => v = some (.int 1) ∧ Fr n0 L' ∧ Keep h0 h [a1] ∧ OVec Z h a1 .int (own_st Cc G p4 i)) := by
  refine own_met (plainFor_of_name pn_rm26) ?_
  intro p e s m below meth c s₁ X0 hx hby hml hown hnm hret hlk hZ e0
  rw [ef_rm26]
  have N0 := Fr.nil n0
  have rg_p3 := rng32 p3
  have rg_p4 := rng32 p4
  show ORun p e below s _ _ _ s₁ (mkF m 0 #[.val (.ref a1), .val (.ref a2), .val (.int p3), .val (.int p4), .unset] [])
  refine own_by (fun t k => XS.iloadN X0.here hx rfl (hb hby d26_0) rfl k) ?_
  show ORun p e below s _ _ _ s₁ (mkF m 1 #[.val (.ref a1), .val (.ref a2), .val (.int p3), .val (.int p4), .unset] [(.int p3)])
  refine own_by (fun t k => XS.aloadN X0.here hx rfl (hb hby d26_1) rfl rfl k) ?_
  show ORun p e below s _ _ _ s₁ (mkF m 2 #[.val (.ref a1), .val (.ref a2), .val (.int p3), .val (.int p4), .unset] [(.ref a2), (.int p3)])
  refine own_lenv X0 hx hZ e0 V2 (n := N) hG (by omega) (hb hby d26_2) ?_
  intro v1 hv1
  show ORun p e below s _ _ _ s₁ (mkF m 3 #[.val (.ref a1), .val (.ref a2), .val (.int p3), .val (.int p4), .unset] [(.int v1), (.int p3)])
  by_cases hc2 : p3 < v1
  · have t2 := own_lt hc2 (a := p3.toInt) (b := v1.toInt) rfl rfl
    refine own_by (fun t k => XS.icmpYes X0.here hx rfl (pc0 := 3) (pc' := 8) rfl (hb hby d26_3) rfl (tlt hc2).1 (by decide) (by decide) k) ?_
    show ORun p e below s _ _ _ s₁ (mkF m 8 #[.val (.ref a1), .val (.ref a2), .val (.int p3), .val (.int p4), .unset] [])
    obtain ⟨o1, o2, o3, o4⟩ := ok (by omega)
    have ei : p3.toInt.toNat = i := by omega
    refine own_by (fun t k => XS.aloadN X0.here hx rfl (hb hby d26_8) rfl rfl k) ?_
    show ORun p e below s _ _ _ s₁ (mkF m 9 #[.val (.ref a1), .val (.ref a2), .val (.int p3), .val (.int p4), .unset] [(.ref a2)])
    refine own_by (fun t k => XS.iloadN X0.here hx rfl (hb hby d26_9) rfl k) ?_
    show ORun p e below s _ _ _ s₁ (mkF m 10 #[.val (.ref a1), .val (.ref a2), .val (.int p3), .val (.int p4), .unset] [(.int p3), (.ref a2)])
    refine own_iaload X0 hx hZ e0 V2 (i := p3.toInt.toNat) (by omega) (by omega) (hb hby d26_10) ?_
    intro v3 hv3
    have r3 := rng32 v3
    show ORun p e below s _ _ _ s₁ (mkF m 11 #[.val (.ref a1), .val (.ref a2), .val (.int p3), .val (.int p4), .unset] [(.int v3)])
    rw [ei] at hv3
    rw [← hv3] at o1 o2 o3 o4
    refine own_by (fun t k => XS.istore X0.here hx rfl (hb hby d26_11) rfl (l' := #[.val (.ref a1), .val (.ref a2), .val (.int p3), .val (.int p4), .val (.int v3)]) rfl k) ?_
    show ORun p e below s _ _ _ s₁ (mkF m 13 #[.val (.ref a1), .val (.ref a2), .val (.int p3), .val (.int p4), .val (.int v3)] [])
    refine own_by (fun t k => XS.iload X0.here hx rfl (hb hby d26_13) rfl k) ?_
    show ORun p e below s _ _ _ s₁ (mkF m 15 #[.val (.ref a1), .val (.ref a2), .val (.int p3), .val (.int p4), .val (.int v3)] [(.int v3)])
    by_cases hc4 : v3 < (0 : Int32)
    · have t4 := own_lt hc4 (a := v3.toInt) (b := 0) rfl (by decide)
      exfalso
      omega
    · have t4 := own_nlt hc4 (a := v3.toInt) (b := 0) rfl (by decide)
      refine own_by (fun t k => XS.ifNo X0.here hx rfl (hb hby d26_15) rfl ((if0 _ _).trans (flt hc4).1) k) ?_
      show ORun p e below s _ _ _ s₁ (mkF m 18 #[.val (.ref a1), .val (.ref a2), .val (.int p3), .val (.int p4), .val (.int v3)] [])
      refine own_by (fun t k => XS.iload X0.here hx rfl (hb hby d26_18) rfl k) ?_
      show ORun p e below s _ _ _ s₁ (mkF m 20 #[.val (.ref a1), .val (.ref a2), .val (.int p3), .val (.int p4), .val (.int v3)] [(.int v3)])
      refine own_by (fun t k => XS.iconst X0.here hx rfl (hb hby d26_20) k) ?_
      show ORun p e below s _ _ _ s₁ (mkF m 21 #[.val (.ref a1), .val (.ref a2), .val (.int p3), .val (.int p4), .val (.int v3)] [(.int (4 : Int32)), (.int v3)])
      by_cases hc5 : (4 : Int32) < v3
      · have t5 := own_lt hc5 (a := 4) (b := v3.toInt) (by decide) rfl
        exfalso
        omega
      · have t5 := own_nlt hc5 (a := 4) (b := v3.toInt) (by decide) rfl
        refine own_by (fun t k => XS.icmpYes X0.here hx rfl (pc0 := 21) (pc' := 26) rfl (hb hby d26_21) rfl (flt hc5).2.2.2 (by decide) (by decide) k) ?_
        show ORun p e below s _ _ _ s₁ (mkF m 26 #[.val (.ref a1), .val (.ref a2), .val (.int p3), .val (.int p4), .val (.int v3)] [])
        refine own_by (fun t k => XS.iloadN X0.here hx rfl (hb hby d26_26) rfl k) ?_
        show ORun p e below s _ _ _ s₁ (mkF m 27 #[.val (.ref a1), .val (.ref a2), .val (.int p3), .val (.int p4), .val (.int v3)] [(.int p3)])
        by_cases hc6 : (0 : Int32) < p3
        · have t6 := own_lt hc6 (a := 0) (b := p3.toInt) (by decide) rfl
          refine own_by (fun t k => XS.ifNo X0.here hx rfl (hb hby d26_27) rfl ((if0 _ _).trans (tlt hc6).2.2.2) k) ?_
          show ORun p e below s _ _ _ s₁ (mkF m 30 #[.val (.ref a1), .val (.ref a2), .val (.int p3), .val (.int p4), .val (.int v3)] [])
          refine own_by (fun t k => XS.aloadN X0.here hx rfl (hb hby d26_30) rfl rfl k) ?_
          show ORun p e below s _ _ _ s₁ (mkF m 31 #[.val (.ref a1), .val (.ref a2), .val (.int p3), .val (.int p4), .val (.int v3)] [(.ref a2)])
          refine own_by (fun t k => XS.iloadN X0.here hx rfl (hb hby d26_31) rfl k) ?_
          show ORun p e below s _ _ _ s₁ (mkF m 32 #[.val (.ref a1), .val (.ref a2), .val (.int p3), .val (.int p4), .val (.int v3)] [(.int p3), (.ref a2)])
          refine own_by (fun t k => XS.iconst X0.here hx rfl (hb hby d26_32) k) ?_
          show ORun p e below s _ _ _ s₁ (mkF m 33 #[.val (.ref a1), .val (.ref a2), .val (.int p3), .val (.int p4), .val (.int v3)] [(.int (1 : Int32)), (.int p3), (.ref a2)])
          refine own_by (fun t k => XS.isub X0.here hx rfl (hb hby d26_33) rfl k) (own_letI (f := (fun z => (mkF m 34 #[.val (.ref a1), .val (.ref a2), .val (.int p3), .val (.int p4), .val (.int v3)] [(.int z), (.ref a2)]))) (p3 - (1 : Int32)) fun v7 hv7 => ?_)
          show ORun p e below s _ _ _ s₁ (mkF m 34 #[.val (.ref a1), .val (.ref a2), .val (.int p3), .val (.int p4), .val (.int v3)] [(.int v7), (.ref a2)])
          have r7 := rng32 v7
          have a7 : v7.toInt = p3.toInt - 1 := by
            have q : (v7.toInt - (p3.toInt - 1)) % 4294967296 = 0 := by rw [hv7]; exact c_isub p3 (1 : Int32)
            omega
          refine own_iaload X0 hx hZ e0 V2 (i := v7.toInt.toNat) (by omega) (by omega) (hb hby d26_34) ?_
          intro v8 hv8
          have r8 := rng32 v8
          show ORun p e below s _ _ _ s₁ (mkF m 35 #[.val (.ref a1), .val (.ref a2), .val (.int p3), .val (.int p4), .val (.int v3)] [(.int v8)])
          refine own_by (fun t k => XS.iload X0.here hx rfl (hb hby d26_35) rfl k) ?_
          show ORun p e below s _ _ _ s₁ (mkF m 37 #[.val (.ref a1), .val (.ref a2), .val (.int p3), .val (.int p4), .val (.int v3)] [(.int v3), (.int v8)])
          by_cases hc9 : v8 < v3
          · have t9 := own_lt hc9 (a := v8.toInt) (b := v3.toInt) rfl rfl
            refine own_by (fun t k => XS.icmpYes X0.here hx rfl (pc0 := 37) (pc' := 42) rfl (hb hby d26_37) rfl (tlt hc9).1 (by decide) (by decide) k) ?_
            show ORun p e below s _ _ _ s₁ (mkF m 42 #[.val (.ref a1), .val (.ref a2), .val (.int p3), .val (.int p4), .val (.int v3)] [])
            refine own_by (fun t k => XS.aloadN X0.here hx rfl (hb hby d26_42) rfl rfl k) ?_
            show ORun p e below s _ _ _ s₁ (mkF m 43 #[.val (.ref a1), .val (.ref a2), .val (.int p3), .val (.int p4), .val (.int v3)] [(.ref a1)])
            refine own_by (fun t k => XS.iload X0.here hx rfl (hb hby d26_43) rfl k) ?_
            show ORun p e below s _ _ _ s₁ (mkF m 45 #[.val (.ref a1), .val (.ref a2), .val (.int p3), .val (.int p4), .val (.int v3)] [(.int v3), (.ref a1)])
            refine own_iaload X0 hx hZ e0 V1 (i := v3.toInt.toNat) (by omega) (by omega) (hb hby d26_45) ?_
            intro v10 hv10
            have r10 := rng32 v10
            show ORun p e below s _ _ _ s₁ (mkF m 46 #[.val (.ref a1), .val (.ref a2), .val (.int p3), .val (.int p4), .val (.int v3)] [(.int v10)])
            by_cases hc11 : v10 = (0 : Int32)
            · have t11 := own_eq hc11 (a := v10.toInt) (b := 0) rfl (by decide)
              refine own_by (fun t k => XS.ifYes X0.here hx rfl (pc0 := 46) (pc' := 51) rfl (hb hby d26_46) rfl ((if0 _ _).trans (teq hc11).1) (by decide) (by decide) k) ?_
              show ORun p e below s _ _ _ s₁ (mkF m 51 #[.val (.ref a1), .val (.ref a2), .val (.int p3), .val (.int p4), .val (.int v3)] [])
              refine own_by (fun t k => XS.aloadN X0.here hx rfl (hb hby d26_51) rfl rfl k) ?_
              show ORun p e below s _ _ _ s₁ (mkF m 52 #[.val (.ref a1), .val (.ref a2), .val (.int p3), .val (.int p4), .val (.int v3)] [(.ref a1)])
              refine own_by (fun t k => XS.iload X0.here hx rfl (hb hby d26_52) rfl k) ?_
              show ORun p e below s _ _ _ s₁ (mkF m 54 #[.val (.ref a1), .val (.ref a2), .val (.int p3), .val (.int p4), .val (.int v3)] [(.int v3), (.ref a1)])
              refine own_by (fun t k => XS.iloadN X0.here hx rfl (hb hby d26_54) rfl k) ?_
              show ORun p e below s _ _ _ s₁ (mkF m 55 #[.val (.ref a1), .val (.ref a2), .val (.int p3), .val (.int p4), .val (.int v3)] [(.int p4), (.int v3), (.ref a1)])
              refine own_iastore X0 hx hZ e0 V1 (i := v3.toInt.toNat) (by omega) (by omega) (hb hby d26_55) ?_
              intro T12 h12 L12 X12 e12 W12 hL12 V12
              have len12 : L12.length = 5 := by rw [hL12, List.length_set]; exact hC
              have N12 := Fr.snoc X12 N0 g1
              show ORun p e below s _ _ _ T12 (mkF m 56 #[.val (.ref a1), .val (.ref a2), .val (.int p3), .val (.int p4), .val (.int v3)] [])
              refine own_by (fun t k => XS.iconst X12.here hx rfl (hb hby d26_56) k) ?_
              show ORun p e below s _ _ _ T12 (mkF m 57 #[.val (.ref a1), .val (.ref a2), .val (.int p3), .val (.int p4), .val (.int v3)] [(.int (1 : Int32))])
              refine own_retN X12 hx (t := .boolean) hret (by simp) hlk (hb hby d26_57) (by decide) (by decide) ?_
              have en : i < G.length := by omega
              rw [e12]
              refine ⟨rfl, N12, ((Keep.refl h0 [a1]).wr W12 (Or.inl (List.mem_of_getElem? (i := 0) rfl))), ?_⟩
              unfold own_st
              rw [if_pos en, ← hv3, ← hL12]
              exact V12
            · have t11 := own_ne hc11 (a := v10.toInt) (b := 0) rfl (by decide)
              exact absurd (hv10.trans o4) hc11
          · have t9 := own_nlt hc9 (a := v8.toInt) (b := v3.toInt) rfl rfl
            exfalso
            have oz := o3 (by omega)
            have ej : v7.toInt.toNat = i - 1 := by omega
            rw [ej] at hv8
            rw [← hv8] at oz
            omega
        · have t6 := own_nlt hc6 (a := 0) (b := p3.toInt) (by decide) rfl
          refine own_by (fun t k => XS.ifYes X0.here hx rfl (pc0 := 27) (pc' := 42) rfl (hb hby d26_27) rfl ((if0 _ _).trans (flt hc6).2.2.2) (by decide) (by decide) k) ?_
          show ORun p e below s _ _ _ s₁ (mkF m 42 #[.val (.ref a1), .val (.ref a2), .val (.int p3), .val (.int p4), .val (.int v3)] [])
          refine own_by (fun t k => XS.aloadN X0.here hx rfl (hb hby d26_42) rfl rfl k) ?_
          show ORun p e below s _ _ _ s₁ (mkF m 43 #[.val (.ref a1), .val (.ref a2), .val (.int p3), .val (.int p4), .val (.int v3)] [(.ref a1)])
          refine own_by (fun t k => XS.iload X0.here hx rfl (hb hby d26_43) rfl k) ?_
          show ORun p e below s _ _ _ s₁ (mkF m 45 #[.val (.ref a1), .val (.ref a2), .val (.int p3), .val (.int p4), .val (.int v3)] [(.int v3), (.ref a1)])
          refine own_iaload X0 hx hZ e0 V1 (i := v3.toInt.toNat) (by omega) (by omega) (hb hby d26_45) ?_
          intro v13 hv13
          have r13 := rng32 v13
          show ORun p e below s _ _ _ s₁ (mkF m 46 #[.val (.ref a1), .val (.ref a2), .val (.int p3), .val (.int p4), .val (.int v3)] [(.int v13)])
          by_cases hc14 : v13 = (0 : Int32)
          · have t14 := own_eq hc14 (a := v13.toInt) (b := 0) rfl (by decide)
            refine own_by (fun t k => XS.ifYes X0.here hx rfl (pc0 := 46) (pc' := 51) rfl (hb hby d26_46) rfl ((if0 _ _).trans (teq hc14).1) (by decide) (by decide) k) ?_
            show ORun p e below s _ _ _ s₁ (mkF m 51 #[.val (.ref a1), .val (.ref a2), .val (.int p3), .val (.int p4), .val (.int v3)] [])
            refine own_by (fun t k => XS.aloadN X0.here hx rfl (hb hby d26_51) rfl rfl k) ?_
            show ORun p e below s _ _ _ s₁ (mkF m 52 #[.val (.ref a1), .val (.ref a2), .val (.int p3), .val (.int p4), .val (.int v3)] [(.ref a1)])
            refine own_by (fun t k => XS.iload X0.here hx rfl (hb hby d26_52) rfl k) ?_
            show ORun p e below s _ _ _ s₁ (mkF m 54 #[.val (.ref a1), .val (.ref a2), .val (.int p3), .val (.int p4), .val (.int v3)] [(.int v3), (.ref a1)])
            refine own_by (fun t k => XS.iloadN X0.here hx rfl (hb hby d26_54) rfl k) ?_
            show ORun p e below s _ _ _ s₁ (mkF m 55 #[.val (.ref a1), .val (.ref a2), .val (.int p3), .val (.int p4), .val (.int v3)] [(.int p4), (.int v3), (.ref a1)])
            refine own_iastore X0 hx hZ e0 V1 (i := v3.toInt.toNat) (by omega) (by omega) (hb hby d26_55) ?_
            intro T15 h15 L15 X15 e15 W15 hL15 V15
            have len15 : L15.length = 5 := by rw [hL15, List.length_set]; exact hC
            have N15 := Fr.snoc X15 N0 g1
            show ORun p e below s _ _ _ T15 (mkF m 56 #[.val (.ref a1), .val (.ref a2), .val (.int p3), .val (.int p4), .val (.int v3)] [])
            refine own_by (fun t k => XS.iconst X15.here hx rfl (hb hby d26_56) k) ?_
            show ORun p e below s _ _ _ T15 (mkF m 57 #[.val (.ref a1), .val (.ref a2), .val (.int p3), .val (.int p4), .val (.int v3)] [(.int (1 : Int32))])
            refine own_retN X15 hx (t := .boolean) hret (by simp) hlk (hb hby d26_57) (by decide) (by decide) ?_
            have en : i < G.length := by omega
            rw [e15]
            refine ⟨rfl, N15, ((Keep.refl h0 [a1]).wr W15 (Or.inl (List.mem_of_getElem? (i := 0) rfl))), ?_⟩
            unfold own_st
            rw [if_pos en, ← hv3, ← hL15]
            exact V15
          · have t14 := own_ne hc14 (a := v13.toInt) (b := 0) rfl (by decide)
            exact absurd (hv13.trans o4) hc14
  · have t2 := own_nlt hc2 (a := p3.toInt) (b := v1.toInt) rfl rfl
    refine own_by (fun t k => XS.icmpNo X0.here hx rfl (hb hby d26_3) rfl (flt hc2).1 k) ?_
    show ORun p e below s _ _ _ s₁ (mkF m 6 #[.val (.ref a1), .val (.ref a2), .val (.int p3), .val (.int p4), .unset] [])
    refine own_by (fun t k => XS.iconst X0.here hx rfl (hb hby d26_6) k) ?_
    show ORun p e below s _ _ _ s₁ (mkF m 7 #[.val (.ref a1), .val (.ref a2), .val (.int p3), .val (.int p4), .unset] [(.int (1 : Int32))])
    refine own_retN X0 hx (t := .boolean) hret (by simp) hlk (hb hby d26_7) (by decide) (by decide) ?_
    have en : ¬ i < G.length := by omega
    rw [e0]
    refine ⟨rfl, N0, (Keep.refl h0 [a1]), ?_⟩
    unfold own_st
    rw [if_neg en]
    exact V1
theorem d25_0 : decode method_10_code 0 = .ok (.aload_n 1, 1) := by decide +kernel
theorem d25_1 : decode method_10_code 1 = .ok (.ifnonnull 5, 3) := by decide +kernel
theorem d25_6 : decode method_10_code 6 = .ok (.aload_n 1, 1) := by decide +kernel
theorem d25_7 : decode method_10_code 7 = .ok (.arraylength, 1) := by decide +kernel
theorem d25_8 : decode method_10_code 8 = .ok (.iconst 2, 1) := by decide +kernel
theorem d25_9 : decode method_10_code 9 = .ok (.if_icmp .lt 9, 3) := by decide +kernel
theorem d25_12 : decode method_10_code 12 = .ok (.aload_n 1, 1) := by decide +kernel
theorem d25_13 : decode method_10_code 13 = .ok (.arraylength, 1) := by decide +kernel
theorem d25_14 : decode method_10_code 14 = .ok (.iconst 5, 1) := by decide +kernel
theorem d25_15 : decode method_10_code 15 = .ok (.if_icmp .le 5, 3) := by decide +kernel
theorem d25_20 : decode method_10_code 20 = .ok (.aload_n 0, 1) := by decide +kernel
theorem d25_21 : decode method_10_code 21 = .ok (.aload_n 1, 1) := by decide +kernel
theorem d25_22 : decode method_10_code 22 = .ok (.iconst 0, 1) := by decide +kernel
theorem d25_23 : decode method_10_code 23 = .ok (.iload_n 2, 1) := by decide +kernel
theorem d25_24 : decode method_10_code 24 = .ok (.invokestatic 31, 3) := by decide +kernel
theorem d25_27 : decode method_10_code 27 = .ok (.ifCond .eq 47, 3) := by decide +kernel
theorem d25_30 : decode method_10_code 30 = .ok (.aload_n 0, 1) := by decide +kernel
theorem d25_31 : decode method_10_code 31 = .ok (.aload_n 1, 1) := by decide +kernel
theorem d25_32 : decode method_10_code 32 = .ok (.iconst 1, 1) := by decide +kernel
theorem d25_33 : decode method_10_code 33 = .ok (.iload_n 2, 1) := by decide +kernel
theorem d25_34 : decode method_10_code 34 = .ok (.invokestatic 31, 3) := by decide +kernel
theorem d25_37 : decode method_10_code 37 = .ok (.ifCond .eq 37, 3) := by decide +kernel
theorem d25_40 : decode method_10_code 40 = .ok (.aload_n 0, 1) := by decide +kernel
theorem d25_41 : decode method_10_code 41 = .ok (.aload_n 1, 1) := by decide +kernel
theorem d25_42 : decode method_10_code 42 = .ok (.iconst 2, 1) := by decide +kernel
theorem d25_43 : decode method_10_code 43 = .ok (.iload_n 2, 1) := by decide +kernel
theorem d25_44 : decode method_10_code 44 = .ok (.invokestatic 31, 3) := by decide +kernel
theorem d25_47 : decode method_10_code 47 = .ok (.ifCond .eq 27, 3) := by decide +kernel
theorem d25_50 : decode method_10_code 50 = .ok (.aload_n 0, 1) := by decide +kernel
theorem d25_51 : decode method_10_code 51 = .ok (.aload_n 1, 1) := by decide +kernel
theorem d25_52 : decode method_10_code 52 = .ok (.iconst 3, 1) := by decide +kernel
theorem d25_53 : decode method_10_code 53 = .ok (.iload_n 2, 1) := by decide +kernel
theorem d25_54 : decode method_10_code 54 = .ok (.invokestatic 31, 3) := by decide +kernel
theorem d25_57 : decode method_10_code 57 = .ok (.ifCond .eq 17, 3) := by decide +kernel
theorem d25_60 : decode method_10_code 60 = .ok (.aload_n 0, 1) := by decide +kernel
theorem d25_61 : decode method_10_code 61 = .ok (.aload_n 1, 1) := by decide +kernel
theorem d25_62 : decode method_10_code 62 = .ok (.iconst 4, 1) := by decide +kernel
theorem d25_63 : decode method_10_code 63 = .ok (.iload_n 2, 1) := by decide +kernel
theorem d25_64 : decode method_10_code 64 = .ok (.invokestatic 31, 3) := by decide +kernel
theorem d25_67 : decode method_10_code 67 = .ok (.ifCond .eq 7, 3) := by decide +kernel
theorem d25_70 : decode method_10_code 70 = .ok (.iconst 1, 1) := by decide +kernel
theorem d25_71 : decode method_10_code 71 = .ok (.goto 4, 3) := by decide +kernel
theorem d25_75 : decode method_10_code 75 = .ok (.ireturn, 1) := by decide +kernel
theorem pn_rm25 : plainName "com/example/kembar/kembar/cluster/ClustersJoinPinLaw" = true := by first | (simp [plainName, overriddenIn]; done) | decide +kernel
theorem ef_rm25 (m : MethodId) (x0 : Addr) (x1 : Addr) (x2 : Int32) : entryFrame m #[(.ref x0), (.ref x1), (.int x2)] 3 = mkF m 0 #[.val (.ref x0), .val (.ref x1), .val (.int x2)] [] := by first | (simp [entryFrame, mkF, argsToLocals, Value.category]; done) | rfl
set_option maxRecDepth 65536 in
set_option maxHeartbeats 40000000 in
theorem rm25 (l : Launch) (Z : State) (a0 : Array Value) (hw : ∀ d ∈ tables_1, d.before a0 Z = true) (ws : List Jvm.Cond) (h0 : Heap) (n0 : Nat) (Z0 : n0 ≤ h0.size) (a1 a2 : Addr) (p3 : Int32) (N : Nat) (Cc G : List Int32) (V1 : OVec Z h0 a1 .int Cc) (hC : Cc.length = 5) (g1 : n0 ≤ a1) (V2 : OVec Z h0 a2 .int G) (hG : G.length = N) (hN : 2 ≤ N ∧ N ≤ 5) (ne21 : a2 ≠ a1) (ok0 : own_ok Cc G 0) (ok1 : own_ok (own_mk Cc G p3 1) G 1) (ok2 : own_ok (own_mk Cc G p3 2) G 2) (ok3 : own_ok (own_mk Cc G p3 3) G 3) (ok4 : own_ok (own_mk Cc G p3 4) G 4) :
    OMet l (⟨"com/example/kembar/kembar/cluster/ClustersJoinPinLaw", "mark", "([I[II)Z"⟩ : MethodName) method_10_code 3 (some .boolean) ws ({ frames := 1, cells := 0, slots := 0, locals := 20 } : Room) #[(.ref a1), (.ref a2), (.int p3)] Z h0 (fun v h L' => v = some (.int 1) ∧ Fr n0 L' ∧ Keep h0 h [a1] ∧ OVec Z h a1 .int (own_mk Cc G p3 5)) := by
  refine own_met (plainFor_of_name pn_rm25) ?_
  intro p e s m below meth c s₁ X0 hx hby hml hown hnm hret hlk hZ e0
  rw [ef_rm25]
  have N0 := Fr.nil n0
  have rg_p3 := rng32 p3
  show ORun p e below s _ _ _ s₁ (mkF m 0 #[.val (.ref a1), .val (.ref a2), .val (.int p3)] [])
  refine own_by (fun t k => XS.aloadN X0.here hx rfl (hb hby d25_0) rfl rfl k) ?_
  show ORun p e below s _ _ _ s₁ (mkF m 1 #[.val (.ref a1), .val (.ref a2), .val (.int p3)] [(.ref a2)])
  refine own_by (fun t k => XS.ifnonnullYes X0.here hx rfl (pc0 := 1) (pc' := 6) rfl (hb hby d25_1) rfl (by decide) (by decide) k) ?_
  show ORun p e below s _ _ _ s₁ (mkF m 6 #[.val (.ref a1), .val (.ref a2), .val (.int p3)] [])
  refine own_by (fun t k => XS.aloadN X0.here hx rfl (hb hby d25_6) rfl rfl k) ?_
  show ORun p e below s _ _ _ s₁ (mkF m 7 #[.val (.ref a1), .val (.ref a2), .val (.int p3)] [(.ref a2)])
  refine own_lenv X0 hx hZ e0 V2 (n := N) hG (by omega) (hb hby d25_7) ?_
  intro v1 hv1
  show ORun p e below s _ _ _ s₁ (mkF m 8 #[.val (.ref a1), .val (.ref a2), .val (.int p3)] [(.int v1)])
  refine own_by (fun t k => XS.iconst X0.here hx rfl (hb hby d25_8) k) ?_
  show ORun p e below s _ _ _ s₁ (mkF m 9 #[.val (.ref a1), .val (.ref a2), .val (.int p3)] [(.int (2 : Int32)), (.int v1)])
  by_cases hc2 : v1 < (2 : Int32)
  · have t2 := own_lt hc2 (a := v1.toInt) (b := 2) rfl (by decide)
    exfalso
    omega
  · have t2 := own_nlt hc2 (a := v1.toInt) (b := 2) rfl (by decide)
    refine own_by (fun t k => XS.icmpNo X0.here hx rfl (hb hby d25_9) rfl (flt hc2).1 k) ?_
    show ORun p e below s _ _ _ s₁ (mkF m 12 #[.val (.ref a1), .val (.ref a2), .val (.int p3)] [])
    refine own_by (fun t k => XS.aloadN X0.here hx rfl (hb hby d25_12) rfl rfl k) ?_
    show ORun p e below s _ _ _ s₁ (mkF m 13 #[.val (.ref a1), .val (.ref a2), .val (.int p3)] [(.ref a2)])
    refine own_lenv X0 hx hZ e0 V2 (n := N) hG (by omega) (hb hby d25_13) ?_
    intro v3 hv3
    show ORun p e below s _ _ _ s₁ (mkF m 14 #[.val (.ref a1), .val (.ref a2), .val (.int p3)] [(.int v3)])
    refine own_by (fun t k => XS.iconst X0.here hx rfl (hb hby d25_14) k) ?_
    show ORun p e below s _ _ _ s₁ (mkF m 15 #[.val (.ref a1), .val (.ref a2), .val (.int p3)] [(.int (5 : Int32)), (.int v3)])
    by_cases hc4 : (5 : Int32) < v3
    · have t4 := own_lt hc4 (a := 5) (b := v3.toInt) (by decide) rfl
      exfalso
      omega
    · have t4 := own_nlt hc4 (a := 5) (b := v3.toInt) (by decide) rfl
      refine own_by (fun t k => XS.icmpYes X0.here hx rfl (pc0 := 15) (pc' := 20) rfl (hb hby d25_15) rfl (flt hc4).2.2.2 (by decide) (by decide) k) ?_
      show ORun p e below s _ _ _ s₁ (mkF m 20 #[.val (.ref a1), .val (.ref a2), .val (.int p3)] [])
      refine own_by (fun t k => XS.aloadN X0.here hx rfl (hb hby d25_20) rfl rfl k) ?_
      show ORun p e below s _ _ _ s₁ (mkF m 21 #[.val (.ref a1), .val (.ref a2), .val (.int p3)] [(.ref a1)])
      refine own_by (fun t k => XS.aloadN X0.here hx rfl (hb hby d25_21) rfl rfl k) ?_
      show ORun p e below s _ _ _ s₁ (mkF m 22 #[.val (.ref a1), .val (.ref a2), .val (.int p3)] [(.ref a2), (.ref a1)])
      refine own_by (fun t k => XS.iconst X0.here hx rfl (hb hby d25_22) k) ?_
      show ORun p e below s _ _ _ s₁ (mkF m 23 #[.val (.ref a1), .val (.ref a2), .val (.int p3)] [(.int (0 : Int32)), (.ref a2), (.ref a1)])
      refine own_by (fun t k => XS.iloadN X0.here hx rfl (hb hby d25_23) rfl k) ?_
      show ORun p e below s _ _ _ s₁ (mkF m 24 #[.val (.ref a1), .val (.ref a2), .val (.int p3)] [(.int p3), (.int (0 : Int32)), (.ref a2), (.ref a1)])
      refine own_callS X0 hx hZ hown (hw _ (List.mem_of_getElem? (i := 141) rfl)) (hw _ (List.mem_of_getElem? (i := 142) rfl)) (hw _ (List.mem_of_getElem? (i := 14) rfl)) (hw _ (List.mem_of_getElem? (i := 143) rfl)) (by decide) (rm26 l Z a0 hw [] h0 n0 Z0 a1 a2 (0 : Int32) p3 0 N Cc G V1 hC g1 V2 hG hN.2 (by decide) ok0) e0 (by decide) (W := 0) (by decide) (by decide) (by decide) (argsL := [(.ref a1), (.ref a2), (.int (0 : Int32)), (.int p3)]) (rest := []) (by rw [hml]; rfl) (lenOf pd_12 rfl) rfl rfl (Nat.le_of_eq rfl) (hb hby d25_24) ?_
      intro T5 L5 u5 X5 hQ5
      obtain ⟨rfl, Nq5, K5, Vq5⟩ := hQ5
      have Vz5 : OVec Z T5.heap a1 .int (own_mk Cc G p3 1) := Vq5
      have N5 := Fr.app N0 Nq5
      show ORun p e below s _ _ _ T5 (mkF m 27 #[.val (.ref a1), .val (.ref a2), .val (.int p3)] [(.int (1 : Int32))])
      refine own_by (fun t k => XS.ifNo X5.here hx rfl (hb hby d25_27) rfl ((if0 _ _).trans (feq (by decide)).1) k) ?_
      show ORun p e below s _ _ _ T5 (mkF m 30 #[.val (.ref a1), .val (.ref a2), .val (.int p3)] [])
      refine own_by (fun t k => XS.aloadN X5.here hx rfl (hb hby d25_30) rfl rfl k) ?_
      show ORun p e below s _ _ _ T5 (mkF m 31 #[.val (.ref a1), .val (.ref a2), .val (.int p3)] [(.ref a1)])
      refine own_by (fun t k => XS.aloadN X5.here hx rfl (hb hby d25_31) rfl rfl k) ?_
      show ORun p e below s _ _ _ T5 (mkF m 32 #[.val (.ref a1), .val (.ref a2), .val (.int p3)] [(.ref a2), (.ref a1)])
      refine own_by (fun t k => XS.iconst X5.here hx rfl (hb hby d25_32) k) ?_
      show ORun p e below s _ _ _ T5 (mkF m 33 #[.val (.ref a1), .val (.ref a2), .val (.int p3)] [(.int (1 : Int32)), (.ref a2), (.ref a1)])
      refine own_by (fun t k => XS.iloadN X5.here hx rfl (hb hby d25_33) rfl k) ?_
      show ORun p e below s _ _ _ T5 (mkF m 34 #[.val (.ref a1), .val (.ref a2), .val (.int p3)] [(.int p3), (.int (1 : Int32)), (.ref a2), (.ref a1)])
      refine own_callS X5 hx hZ hown (hw _ (List.mem_of_getElem? (i := 141) rfl)) (hw _ (List.mem_of_getElem? (i := 142) rfl)) (hw _ (List.mem_of_getElem? (i := 14) rfl)) (hw _ (List.mem_of_getElem? (i := 143) rfl)) (by decide) (rm26 l Z a0 hw [] T5.heap n0 (Nat.le_trans Z0 K5.1) a1 a2 (1 : Int32) p3 1 N (own_mk Cc G p3 1) G Vz5 (by rw [own_mklen]; exact hC) g1 (V2.keep K5 (ninS ne21 nin0)) hG hN.2 (by decide) ok1) rfl (by decide) (W := 0) (by decide) (by decide) (by decide) (argsL := [(.ref a1), (.ref a2), (.int (1 : Int32)), (.int p3)]) (rest := []) (by rw [hml]; rfl) (lenOf pd_12 rfl) rfl rfl (Nat.le_of_eq rfl) (hb hby d25_34) ?_
      intro T6 L6 u6 X6 hQ6
      obtain ⟨rfl, Nq6, K6, Vq6⟩ := hQ6
      have Vz6 : OVec Z T6.heap a1 .int (own_mk Cc G p3 2) := Vq6
      have N6 := Fr.app N5 Nq6
      show ORun p e below s _ _ _ T6 (mkF m 37 #[.val (.ref a1), .val (.ref a2), .val (.int p3)] [(.int (1 : Int32))])
      refine own_by (fun t k => XS.ifNo X6.here hx rfl (hb hby d25_37) rfl ((if0 _ _).trans (feq (by decide)).1) k) ?_
      show ORun p e below s _ _ _ T6 (mkF m 40 #[.val (.ref a1), .val (.ref a2), .val (.int p3)] [])
      refine own_by (fun t k => XS.aloadN X6.here hx rfl (hb hby d25_40) rfl rfl k) ?_
      show ORun p e below s _ _ _ T6 (mkF m 41 #[.val (.ref a1), .val (.ref a2), .val (.int p3)] [(.ref a1)])
      refine own_by (fun t k => XS.aloadN X6.here hx rfl (hb hby d25_41) rfl rfl k) ?_
      show ORun p e below s _ _ _ T6 (mkF m 42 #[.val (.ref a1), .val (.ref a2), .val (.int p3)] [(.ref a2), (.ref a1)])
      refine own_by (fun t k => XS.iconst X6.here hx rfl (hb hby d25_42) k) ?_
      show ORun p e below s _ _ _ T6 (mkF m 43 #[.val (.ref a1), .val (.ref a2), .val (.int p3)] [(.int (2 : Int32)), (.ref a2), (.ref a1)])
      refine own_by (fun t k => XS.iloadN X6.here hx rfl (hb hby d25_43) rfl k) ?_
      show ORun p e below s _ _ _ T6 (mkF m 44 #[.val (.ref a1), .val (.ref a2), .val (.int p3)] [(.int p3), (.int (2 : Int32)), (.ref a2), (.ref a1)])
      refine own_callS X6 hx hZ hown (hw _ (List.mem_of_getElem? (i := 141) rfl)) (hw _ (List.mem_of_getElem? (i := 142) rfl)) (hw _ (List.mem_of_getElem? (i := 14) rfl)) (hw _ (List.mem_of_getElem? (i := 143) rfl)) (by decide) (rm26 l Z a0 hw [] T6.heap n0 (Nat.le_trans (Nat.le_trans Z0 K5.1) K6.1) a1 a2 (2 : Int32) p3 2 N (own_mk Cc G p3 2) G Vz6 (by rw [own_mklen]; exact hC) g1 ((V2.keep K5 (ninS ne21 nin0)).keep K6 (ninS ne21 nin0)) hG hN.2 (by decide) ok2) rfl (by decide) (W := 0) (by decide) (by decide) (by decide) (argsL := [(.ref a1), (.ref a2), (.int (2 : Int32)), (.int p3)]) (rest := []) (by rw [hml]; rfl) (lenOf pd_12 rfl) rfl rfl (Nat.le_of_eq rfl) (hb hby d25_44) ?_
      intro T7 L7 u7 X7 hQ7
      obtain ⟨rfl, Nq7, K7, Vq7⟩ := hQ7
      have Vz7 : OVec Z T7.heap a1 .int (own_mk Cc G p3 3) := Vq7
      have N7 := Fr.app N6 Nq7
      show ORun p e below s _ _ _ T7 (mkF m 47 #[.val (.ref a1), .val (.ref a2), .val (.int p3)] [(.int (1 : Int32))])
      refine own_by (fun t k => XS.ifNo X7.here hx rfl (hb hby d25_47) rfl ((if0 _ _).trans (feq (by decide)).1) k) ?_
      show ORun p e below s _ _ _ T7 (mkF m 50 #[.val (.ref a1), .val (.ref a2), .val (.int p3)] [])
      refine own_by (fun t k => XS.aloadN X7.here hx rfl (hb hby d25_50) rfl rfl k) ?_
      show ORun p e below s _ _ _ T7 (mkF m 51 #[.val (.ref a1), .val (.ref a2), .val (.int p3)] [(.ref a1)])
      refine own_by (fun t k => XS.aloadN X7.here hx rfl (hb hby d25_51) rfl rfl k) ?_
      show ORun p e below s _ _ _ T7 (mkF m 52 #[.val (.ref a1), .val (.ref a2), .val (.int p3)] [(.ref a2), (.ref a1)])
      refine own_by (fun t k => XS.iconst X7.here hx rfl (hb hby d25_52) k) ?_
      show ORun p e below s _ _ _ T7 (mkF m 53 #[.val (.ref a1), .val (.ref a2), .val (.int p3)] [(.int (3 : Int32)), (.ref a2), (.ref a1)])
      refine own_by (fun t k => XS.iloadN X7.here hx rfl (hb hby d25_53) rfl k) ?_
      show ORun p e below s _ _ _ T7 (mkF m 54 #[.val (.ref a1), .val (.ref a2), .val (.int p3)] [(.int p3), (.int (3 : Int32)), (.ref a2), (.ref a1)])
      refine own_callS X7 hx hZ hown (hw _ (List.mem_of_getElem? (i := 141) rfl)) (hw _ (List.mem_of_getElem? (i := 142) rfl)) (hw _ (List.mem_of_getElem? (i := 14) rfl)) (hw _ (List.mem_of_getElem? (i := 143) rfl)) (by decide) (rm26 l Z a0 hw [] T7.heap n0 (Nat.le_trans (Nat.le_trans (Nat.le_trans Z0 K5.1) K6.1) K7.1) a1 a2 (3 : Int32) p3 3 N (own_mk Cc G p3 3) G Vz7 (by rw [own_mklen]; exact hC) g1 (((V2.keep K5 (ninS ne21 nin0)).keep K6 (ninS ne21 nin0)).keep K7 (ninS ne21 nin0)) hG hN.2 (by decide) ok3) rfl (by decide) (W := 0) (by decide) (by decide) (by decide) (argsL := [(.ref a1), (.ref a2), (.int (3 : Int32)), (.int p3)]) (rest := []) (by rw [hml]; rfl) (lenOf pd_12 rfl) rfl rfl (Nat.le_of_eq rfl) (hb hby d25_54) ?_
      intro T8 L8 u8 X8 hQ8
      obtain ⟨rfl, Nq8, K8, Vq8⟩ := hQ8
      have Vz8 : OVec Z T8.heap a1 .int (own_mk Cc G p3 4) := Vq8
      have N8 := Fr.app N7 Nq8
      show ORun p e below s _ _ _ T8 (mkF m 57 #[.val (.ref a1), .val (.ref a2), .val (.int p3)] [(.int (1 : Int32))])
      refine own_by (fun t k => XS.ifNo X8.here hx rfl (hb hby d25_57) rfl ((if0 _ _).trans (feq (by decide)).1) k) ?_
      show ORun p e below s _ _ _ T8 (mkF m 60 #[.val (.ref a1), .val (.ref a2), .val (.int p3)] [])
      refine own_by (fun t k => XS.aloadN X8.here hx rfl (hb hby d25_60) rfl rfl k) ?_
      show ORun p e below s _ _ _ T8 (mkF m 61 #[.val (.ref a1), .val (.ref a2), .val (.int p3)] [(.ref a1)])
      refine own_by (fun t k => XS.aloadN X8.here hx rfl (hb hby d25_61) rfl rfl k) ?_
      show ORun p e below s _ _ _ T8 (mkF m 62 #[.val (.ref a1), .val (.ref a2), .val (.int p3)] [(.ref a2), (.ref a1)])
      refine own_by (fun t k => XS.iconst X8.here hx rfl (hb hby d25_62) k) ?_
      show ORun p e below s _ _ _ T8 (mkF m 63 #[.val (.ref a1), .val (.ref a2), .val (.int p3)] [(.int (4 : Int32)), (.ref a2), (.ref a1)])
      refine own_by (fun t k => XS.iloadN X8.here hx rfl (hb hby d25_63) rfl k) ?_
      show ORun p e below s _ _ _ T8 (mkF m 64 #[.val (.ref a1), .val (.ref a2), .val (.int p3)] [(.int p3), (.int (4 : Int32)), (.ref a2), (.ref a1)])
      refine own_callS X8 hx hZ hown (hw _ (List.mem_of_getElem? (i := 141) rfl)) (hw _ (List.mem_of_getElem? (i := 142) rfl)) (hw _ (List.mem_of_getElem? (i := 14) rfl)) (hw _ (List.mem_of_getElem? (i := 143) rfl)) (by decide) (rm26 l Z a0 hw [] T8.heap n0 (Nat.le_trans (Nat.le_trans (Nat.le_trans (Nat.le_trans Z0 K5.1) K6.1) K7.1) K8.1) a1 a2 (4 : Int32) p3 4 N (own_mk Cc G p3 4) G Vz8 (by rw [own_mklen]; exact hC) g1 ((((V2.keep K5 (ninS ne21 nin0)).keep K6 (ninS ne21 nin0)).keep K7 (ninS ne21 nin0)).keep K8 (ninS ne21 nin0)) hG hN.2 (by decide) ok4) rfl (by decide) (W := 0) (by decide) (by decide) (by decide) (argsL := [(.ref a1), (.ref a2), (.int (4 : Int32)), (.int p3)]) (rest := []) (by rw [hml]; rfl) (lenOf pd_12 rfl) rfl rfl (Nat.le_of_eq rfl) (hb hby d25_64) ?_
      intro T9 L9 u9 X9 hQ9
      obtain ⟨rfl, Nq9, K9, Vq9⟩ := hQ9
      have Vz9 : OVec Z T9.heap a1 .int (own_mk Cc G p3 5) := Vq9
      have N9 := Fr.app N8 Nq9
      show ORun p e below s _ _ _ T9 (mkF m 67 #[.val (.ref a1), .val (.ref a2), .val (.int p3)] [(.int (1 : Int32))])
      refine own_by (fun t k => XS.ifNo X9.here hx rfl (hb hby d25_67) rfl ((if0 _ _).trans (feq (by decide)).1) k) ?_
      show ORun p e below s _ _ _ T9 (mkF m 70 #[.val (.ref a1), .val (.ref a2), .val (.int p3)] [])
      refine own_by (fun t k => XS.iconst X9.here hx rfl (hb hby d25_70) k) ?_
      show ORun p e below s _ _ _ T9 (mkF m 71 #[.val (.ref a1), .val (.ref a2), .val (.int p3)] [(.int (1 : Int32))])
      refine own_by (fun t k => XS.goto X9.here hx rfl (pc0 := 71) (pc' := 75) rfl (hb hby d25_71) (by decide) (by decide) k) ?_
      show ORun p e below s _ _ _ T9 (mkF m 75 #[.val (.ref a1), .val (.ref a2), .val (.int p3)] [(.int (1 : Int32))])
      refine own_retN X9 hx (t := .boolean) hret (by simp) hlk (hb hby d25_75) (by decide) (by decide) ?_
      exact ⟨rfl, N9, ((((((Keep.refl h0 [a1]).trans K5 (allS (Or.inl (List.mem_of_getElem? (i := 0) rfl)) all0)).trans K6 (allS (Or.inl (List.mem_of_getElem? (i := 0) rfl)) all0)).trans K7 (allS (Or.inl (List.mem_of_getElem? (i := 0) rfl)) all0)).trans K8 (allS (Or.inl (List.mem_of_getElem? (i := 0) rfl)) all0)).trans K9 (allS (Or.inl (List.mem_of_getElem? (i := 0) rfl)) all0)), Vz9⟩
theorem d8_0 : decode prog_4_method_3_code 0 = .ok (.aload_n 0, 1) := by decide +kernel
theorem d8_1 : decode prog_4_method_3_code 1 = .ok (.getfield 7, 3) := by decide +kernel
theorem d8_4 : decode prog_4_method_3_code 4 = .ok (.arraylength, 1) := by decide +kernel
theorem d8_5 : decode prog_4_method_3_code 5 = .ok (.newarray .int, 2) := by decide +kernel
theorem d8_7 : decode prog_4_method_3_code 7 = .ok (.astore_n 1, 1) := by decide +kernel
theorem d8_8 : decode prog_4_method_3_code 8 = .ok (.iconst 0, 1) := by decide +kernel
theorem d8_9 : decode prog_4_method_3_code 9 = .ok (.istore_n 2, 1) := by decide +kernel
theorem d8_10 : decode prog_4_method_3_code 10 = .ok (.iload_n 2, 1) := by decide +kernel
theorem d8_11 : decode prog_4_method_3_code 11 = .ok (.aload_n 0, 1) := by decide +kernel
theorem d8_12 : decode prog_4_method_3_code 12 = .ok (.getfield 7, 3) := by decide +kernel
theorem d8_15 : decode prog_4_method_3_code 15 = .ok (.arraylength, 1) := by decide +kernel
theorem d8_16 : decode prog_4_method_3_code 16 = .ok (.if_icmp .ge 20, 3) := by decide +kernel
theorem d8_19 : decode prog_4_method_3_code 19 = .ok (.aload_n 1, 1) := by decide +kernel
theorem d8_20 : decode prog_4_method_3_code 20 = .ok (.aload_n 0, 1) := by decide +kernel
theorem d8_21 : decode prog_4_method_3_code 21 = .ok (.iload_n 2, 1) := by decide +kernel
theorem d8_22 : decode prog_4_method_3_code 22 = .ok (.invokevirtual 13, 3) := by decide +kernel
theorem d8_25 : decode prog_4_method_3_code 25 = .ok (.dup2, 1) := by decide +kernel
theorem d8_26 : decode prog_4_method_3_code 26 = .ok (.iaload, 1) := by decide +kernel
theorem d8_27 : decode prog_4_method_3_code 27 = .ok (.iconst 1, 1) := by decide +kernel
theorem d8_28 : decode prog_4_method_3_code 28 = .ok (.iadd, 1) := by decide +kernel
theorem d8_29 : decode prog_4_method_3_code 29 = .ok (.iastore, 1) := by decide +kernel
theorem d8_30 : decode prog_4_method_3_code 30 = .ok (.iinc 2 1, 3) := by decide +kernel
theorem d8_33 : decode prog_4_method_3_code 33 = .ok (.goto (-23), 3) := by decide +kernel
theorem d8_36 : decode prog_4_method_3_code 36 = .ok (.new 17, 3) := by decide +kernel
theorem d8_39 : decode prog_4_method_3_code 39 = .ok (.dup, 1) := by decide +kernel
theorem d8_40 : decode prog_4_method_3_code 40 = .ok (.invokespecial 19, 3) := by decide +kernel
theorem d8_43 : decode prog_4_method_3_code 43 = .ok (.astore_n 2, 1) := by decide +kernel
theorem d8_44 : decode prog_4_method_3_code 44 = .ok (.aload_n 0, 1) := by decide +kernel
theorem d8_45 : decode prog_4_method_3_code 45 = .ok (.getfield 7, 3) := by decide +kernel
theorem d8_48 : decode prog_4_method_3_code 48 = .ok (.arraylength, 1) := by decide +kernel
theorem d8_49 : decode prog_4_method_3_code 49 = .ok (.anewarray 20, 3) := by decide +kernel
theorem d8_52 : decode prog_4_method_3_code 52 = .ok (.astore_n 3, 1) := by decide +kernel
theorem d8_53 : decode prog_4_method_3_code 53 = .ok (.aload_n 0, 1) := by decide +kernel
theorem d8_54 : decode prog_4_method_3_code 54 = .ok (.getfield 7, 3) := by decide +kernel
theorem d8_57 : decode prog_4_method_3_code 57 = .ok (.arraylength, 1) := by decide +kernel
theorem d8_58 : decode prog_4_method_3_code 58 = .ok (.newarray .int, 2) := by decide +kernel
theorem d8_60 : decode prog_4_method_3_code 60 = .ok (.astore 4, 2) := by decide +kernel
theorem d8_62 : decode prog_4_method_3_code 62 = .ok (.iconst 0, 1) := by decide +kernel
theorem d8_63 : decode prog_4_method_3_code 63 = .ok (.istore 5, 2) := by decide +kernel
theorem d8_65 : decode prog_4_method_3_code 65 = .ok (.iload 5, 2) := by decide +kernel
theorem d8_67 : decode prog_4_method_3_code 67 = .ok (.aload_n 0, 1) := by decide +kernel
theorem d8_68 : decode prog_4_method_3_code 68 = .ok (.getfield 7, 3) := by decide +kernel
theorem d8_71 : decode prog_4_method_3_code 71 = .ok (.arraylength, 1) := by decide +kernel
theorem d8_72 : decode prog_4_method_3_code 72 = .ok (.if_icmp .ge 77, 3) := by decide +kernel
theorem d8_75 : decode prog_4_method_3_code 75 = .ok (.aload_n 0, 1) := by decide +kernel
theorem d8_76 : decode prog_4_method_3_code 76 = .ok (.iload 5, 2) := by decide +kernel
theorem d8_78 : decode prog_4_method_3_code 78 = .ok (.invokevirtual 13, 3) := by decide +kernel
theorem d8_81 : decode prog_4_method_3_code 81 = .ok (.istore 6, 2) := by decide +kernel
theorem d8_83 : decode prog_4_method_3_code 83 = .ok (.aload_n 1, 1) := by decide +kernel
theorem d8_84 : decode prog_4_method_3_code 84 = .ok (.iload 6, 2) := by decide +kernel
theorem d8_86 : decode prog_4_method_3_code 86 = .ok (.iaload, 1) := by decide +kernel
theorem d8_87 : decode prog_4_method_3_code 87 = .ok (.iconst 2, 1) := by decide +kernel
theorem d8_88 : decode prog_4_method_3_code 88 = .ok (.if_icmp .ge 6, 3) := by decide +kernel
theorem d8_91 : decode prog_4_method_3_code 91 = .ok (.goto 52, 3) := by decide +kernel
theorem d8_94 : decode prog_4_method_3_code 94 = .ok (.aload_n 3, 1) := by decide +kernel
theorem d8_95 : decode prog_4_method_3_code 95 = .ok (.iload 6, 2) := by decide +kernel
theorem d8_97 : decode prog_4_method_3_code 97 = .ok (.aaload, 1) := by decide +kernel
theorem d8_98 : decode prog_4_method_3_code 98 = .ok (.ifnonnull 24, 3) := by decide +kernel
theorem d8_101 : decode prog_4_method_3_code 101 = .ok (.aload_n 3, 1) := by decide +kernel
theorem d8_102 : decode prog_4_method_3_code 102 = .ok (.iload 6, 2) := by decide +kernel
theorem d8_104 : decode prog_4_method_3_code 104 = .ok (.aload_n 1, 1) := by decide +kernel
theorem d8_105 : decode prog_4_method_3_code 105 = .ok (.iload 6, 2) := by decide +kernel
theorem d8_107 : decode prog_4_method_3_code 107 = .ok (.iaload, 1) := by decide +kernel
theorem d8_108 : decode prog_4_method_3_code 108 = .ok (.newarray .int, 2) := by decide +kernel
theorem d8_110 : decode prog_4_method_3_code 110 = .ok (.aastore, 1) := by decide +kernel
theorem d8_111 : decode prog_4_method_3_code 111 = .ok (.aload_n 2, 1) := by decide +kernel
theorem d8_112 : decode prog_4_method_3_code 112 = .ok (.aload_n 3, 1) := by decide +kernel
theorem d8_113 : decode prog_4_method_3_code 113 = .ok (.iload 6, 2) := by decide +kernel
theorem d8_115 : decode prog_4_method_3_code 115 = .ok (.aaload, 1) := by decide +kernel
theorem d8_116 : decode prog_4_method_3_code 116 = .ok (.invokeinterface 21 2, 5) := by decide +kernel
theorem d8_121 : decode prog_4_method_3_code 121 = .ok (.pop, 1) := by decide +kernel
theorem d8_122 : decode prog_4_method_3_code 122 = .ok (.aload_n 3, 1) := by decide +kernel
theorem d8_123 : decode prog_4_method_3_code 123 = .ok (.iload 6, 2) := by decide +kernel
theorem d8_125 : decode prog_4_method_3_code 125 = .ok (.aaload, 1) := by decide +kernel
theorem d8_126 : decode prog_4_method_3_code 126 = .ok (.aload 4, 2) := by decide +kernel
theorem d8_128 : decode prog_4_method_3_code 128 = .ok (.iload 6, 2) := by decide +kernel
theorem d8_130 : decode prog_4_method_3_code 130 = .ok (.iaload, 1) := by decide +kernel
theorem d8_131 : decode prog_4_method_3_code 131 = .ok (.iload 5, 2) := by decide +kernel
theorem d8_133 : decode prog_4_method_3_code 133 = .ok (.iastore, 1) := by decide +kernel
theorem d8_134 : decode prog_4_method_3_code 134 = .ok (.aload 4, 2) := by decide +kernel
theorem d8_136 : decode prog_4_method_3_code 136 = .ok (.iload 6, 2) := by decide +kernel
theorem d8_138 : decode prog_4_method_3_code 138 = .ok (.dup2, 1) := by decide +kernel
theorem d8_139 : decode prog_4_method_3_code 139 = .ok (.iaload, 1) := by decide +kernel
theorem d8_140 : decode prog_4_method_3_code 140 = .ok (.iconst 1, 1) := by decide +kernel
theorem d8_141 : decode prog_4_method_3_code 141 = .ok (.iadd, 1) := by decide +kernel
theorem d8_142 : decode prog_4_method_3_code 142 = .ok (.iastore, 1) := by decide +kernel
theorem d8_143 : decode prog_4_method_3_code 143 = .ok (.iinc 5 1, 3) := by decide +kernel
theorem d8_146 : decode prog_4_method_3_code 146 = .ok (.goto (-81), 3) := by decide +kernel
theorem d8_149 : decode prog_4_method_3_code 149 = .ok (.aload_n 2, 1) := by decide +kernel
theorem d8_150 : decode prog_4_method_3_code 150 = .ok (.areturn, 1) := by decide +kernel
theorem pn_rm8 : plainName "com/example/kembar/kembar/cluster/Clusters" = true := by first | (simp [plainName, overriddenIn]; done) | decide +kernel
theorem ef_rm8 (m : MethodId) (x0 : Addr) : entryFrame m #[(.ref x0)] 7 = mkF m 0 #[.val (.ref x0), .unset, .unset, .unset, .unset, .unset, .unset] [] := by first | (simp [entryFrame, mkF, argsToLocals, Value.category]; done) | rfl
set_option maxRecDepth 65536 in
set_option maxHeartbeats 40000000 in
theorem rm8 (l : Launch) (Z : State) (a0 : Array Value) (hw : ∀ d ∈ tables_1, d.before a0 Z = true) (ws : List Jvm.Cond) (h0 : Heap) (n0 : Nat) (Z0 : n0 ≤ h0.size) (a1 pa de : Addr) (P L : List Int32) (r : Nat → Nat) (E_a1 : Exa Z h0 a1 "com/example/kembar/kembar/cluster/Clusters") (F_a1 : Fld Z h0 a1 "com/example/kembar/kembar/cluster/Clusters" "parents" "[I" (.ref pa)) (V_pa : OVec Z h0 pa .int P) (hP : P.length = 5) (gp : n0 ≤ pa) (nep : a1 ≠ pa) (hL : L.length = 5) (I : InvR P L r) (Sd : Sta Z h0 "java/util/ArrayList" "DEFAULTCAPACITY_EMPTY_ELEMENTDATA" "[Ljava/lang/Object;" (.ref de)) (Vd : OVecR Z h0 de "java/lang/Object" []) (ned1 : de ≠ a1) (nedp : de ≠ pa) (ht : ∀ d, d < 5 → own_turn L d) (he : ∀ p ∈ own_gr L 5, p.2.length = ((own_S L).getD p.1 0).toInt.toNat) :
    OMet l (⟨"com/example/kembar/kembar/cluster/Clusters", "groups", "()Ljava/util/List;"⟩ : MethodName) prog_4_method_3_code 7 (some (.object "java/util/List")) ws ({ frames := 5, cells := 8, slots := 60, locals := 160 } : Room) #[(.ref a1)] Z h0 (fun v h L' => ∃ al : Addr, v = some (.ref al) ∧ Fr n0 L' ∧ Keep h0 h [pa] ∧ h0.size ≤ al ∧ Exa Z h al "java/util/ArrayList" ∧ ((own_gr L 5 = [] ∧ Fld Z h al "java/util/ArrayList" "size" "I" (.int 0)) ∨ (∃ (ed gA : Addr) (q0 : Nat) (m0 : List Int32), own_gr L 5 = [(q0, m0)] ∧ Fld Z h al "java/util/ArrayList" "size" "I" (.int 1) ∧ Fld Z h al "java/util/ArrayList" "elementData" "[Ljava/lang/Object;" (.ref ed) ∧ OVecR Z h ed "java/lang/Object" [.ref gA, .null, .null, .null, .null, .null, .null, .null, .null, .null] ∧ OVec Z h gA .int m0 ∧ Exa Z h gA "[I") ∨ (∃ (ed gA gB : Addr) (q0 q1 : Nat) (m0 m1 : List Int32), own_gr L 5 = [(q0, m0), (q1, m1)] ∧ Fld Z h al "java/util/ArrayList" "size" "I" (.int 2) ∧ Fld Z h al "java/util/ArrayList" "elementData" "[Ljava/lang/Object;" (.ref ed) ∧ OVecR Z h ed "java/lang/Object" [.ref gA, .ref gB, .null, .null, .null, .null, .null, .null, .null, .null] ∧ OVec Z h gA .int m0 ∧ Exa Z h gA "[I" ∧ OVec Z h gB .int m1 ∧ Exa Z h gB "[I"))) := by
  refine own_met (plainFor_of_name pn_rm8) ?_
  intro p e s m below meth c s₁ X0 hx hby hml hown hnm hret hlk hZ e0
  rw [ef_rm8]
  have N0 := Fr.nil n0
  show ORun p e below s _ _ _ s₁ (mkF m 0 #[.val (.ref a1), .unset, .unset, .unset, .unset, .unset, .unset] [])
  refine own_by (fun t k => XS.aloadN X0.here hx rfl (hb hby d8_0) rfl rfl k) ?_
  show ORun p e below s _ _ _ s₁ (mkF m 1 #[.val (.ref a1), .unset, .unset, .unset, .unset, .unset, .unset] [(.ref a1)])
  obtain ⟨T1, X1, e1, st1⟩ := getF X0 hx hZ hown (host := "") (Or.inl (hw _ (List.mem_of_getElem? (i := 10) rfl))) Via.refl e0 F_a1 (g := (mkF m 1 #[.val (.ref a1), .unset, .unset, .unset, .unset, .unset, .unset] [(.ref a1)])) rfl rfl (hb hby d8_1)
  refine own_by st1 ?_
  show ORun p e below s _ _ _ T1 (mkF m 4 #[.val (.ref a1), .unset, .unset, .unset, .unset, .unset, .unset] [(.ref pa)])
  refine own_len X1 hx hZ e1 V_pa (n := 5) hP (hb hby d8_4) ?_
  show ORun p e below s _ _ _ T1 (mkF m 5 #[.val (.ref a1), .unset, .unset, .unset, .unset, .unset, .unset] [(.int (5 : Int32))])
  refine own_newarray X1 hx hZ (aty := .int) (hw _ (List.mem_of_getElem? (i := 9) rfl)) e1 rfl (N := 5) (cap := 5) (by decide) (Nat.le_refl _) (by decide) (by decide) (by decide) (ad := "[I") (by decide) (hb hby d8_5) ?_
  intro T2 h2 b2 L2 g2 X2 e2 E2 hL2 V2 Ex2
  have len2 : L2.length = 5 := by rw [hL2]; exact List.length_replicate
  have old_b2 : n0 ≤ b2 := Nat.le_trans Z0 (Nat.le_of_eq g2.symm)
  have sz_b2 : h0.size ≤ b2 := Nat.le_trans (Nat.le_refl h0.size) (Nat.le_of_eq g2.symm)
  have ne_a1_b2 : a1 ≠ b2 := Nat.ne_of_lt (Nat.lt_of_lt_of_le E_a1.lt (Nat.le_of_eq g2.symm))
  have ne_pa_b2 : pa ≠ b2 := Nat.ne_of_lt (Nat.lt_of_lt_of_le V_pa.lt (Nat.le_of_eq g2.symm))
  have ne_de_b2 : de ≠ b2 := Nat.ne_of_lt (Nat.lt_of_lt_of_le Vd.lt (Nat.le_of_eq g2.symm))
  show ORun p e below s _ _ _ T2 (mkF m 7 #[.val (.ref a1), .unset, .unset, .unset, .unset, .unset, .unset] [(.ref b2)])
  refine own_by (fun t k => XS.astoreN X2.here hx rfl (hb hby d8_7) rfl rfl (l' := #[.val (.ref a1), .val (.ref b2), .unset, .unset, .unset, .unset, .unset]) rfl k) ?_
  show ORun p e below s _ _ _ T2 (mkF m 8 #[.val (.ref a1), .val (.ref b2), .unset, .unset, .unset, .unset, .unset] [])
  refine own_by (fun t k => XS.iconst X2.here hx rfl (hb hby d8_8) k) ?_
  show ORun p e below s _ _ _ T2 (mkF m 9 #[.val (.ref a1), .val (.ref b2), .unset, .unset, .unset, .unset, .unset] [(.int (0 : Int32))])
  refine own_by (fun t k => XS.istoreN X2.here hx rfl (hb hby d8_9) rfl (l' := #[.val (.ref a1), .val (.ref b2), .val (.int (0 : Int32)), .unset, .unset, .unset, .unset]) rfl k) ?_
  show ORun p e below s _ _ _ T2 (mkF m 10 #[.val (.ref a1), .val (.ref b2), .val (.int (0 : Int32)), .unset, .unset, .unset, .unset] [])
  refine own_by (fun t k => XS.iloadN X2.here hx rfl (hb hby d8_10) rfl k) ?_
  show ORun p e below s _ _ _ T2 (mkF m 11 #[.val (.ref a1), .val (.ref b2), .val (.int (0 : Int32)), .unset, .unset, .unset, .unset] [(.int (0 : Int32))])
  refine own_by (fun t k => XS.aloadN X2.here hx rfl (hb hby d8_11) rfl rfl k) ?_
  show ORun p e below s _ _ _ T2 (mkF m 12 #[.val (.ref a1), .val (.ref b2), .val (.int (0 : Int32)), .unset, .unset, .unset, .unset] [(.ref a1), (.int (0 : Int32))])
  obtain ⟨T3, X3, e3, st3⟩ := getF X2 hx hZ hown (host := "") (Or.inl (hw _ (List.mem_of_getElem? (i := 10) rfl))) Via.refl e2 (F_a1.ext E2) (g := (mkF m 12 #[.val (.ref a1), .val (.ref b2), .val (.int (0 : Int32)), .unset, .unset, .unset, .unset] [(.ref a1), (.int (0 : Int32))])) rfl rfl (hb hby d8_12)
  refine own_by st3 ?_
  show ORun p e below s _ _ _ T3 (mkF m 15 #[.val (.ref a1), .val (.ref b2), .val (.int (0 : Int32)), .unset, .unset, .unset, .unset] [(.ref pa), (.int (0 : Int32))])
  refine own_len X3 hx hZ e3 (V_pa.ext E2) (n := 5) hP (hb hby d8_15) ?_
  show ORun p e below s _ _ _ T3 (mkF m 16 #[.val (.ref a1), .val (.ref b2), .val (.int (0 : Int32)), .unset, .unset, .unset, .unset] [(.int (5 : Int32)), (.int (0 : Int32))])
  refine own_by (fun t k => XS.icmpNo X3.here hx rfl (hb hby d8_16) rfl (tlt (by decide)).2.1 k) ?_
  show ORun p e below s _ _ _ T3 (mkF m 19 #[.val (.ref a1), .val (.ref b2), .val (.int (0 : Int32)), .unset, .unset, .unset, .unset] [])
  refine own_by (fun t k => XS.aloadN X3.here hx rfl (hb hby d8_19) rfl rfl k) ?_
  show ORun p e below s _ _ _ T3 (mkF m 20 #[.val (.ref a1), .val (.ref b2), .val (.int (0 : Int32)), .unset, .unset, .unset, .unset] [(.ref b2)])
  refine own_by (fun t k => XS.aloadN X3.here hx rfl (hb hby d8_20) rfl rfl k) ?_
  show ORun p e below s _ _ _ T3 (mkF m 21 #[.val (.ref a1), .val (.ref b2), .val (.int (0 : Int32)), .unset, .unset, .unset, .unset] [(.ref a1), (.ref b2)])
  refine own_by (fun t k => XS.iloadN X3.here hx rfl (hb hby d8_21) rfl k) ?_
  show ORun p e below s _ _ _ T3 (mkF m 22 #[.val (.ref a1), .val (.ref b2), .val (.int (0 : Int32)), .unset, .unset, .unset, .unset] [(.int (0 : Int32)), (.ref a1), (.ref b2)])
  refine own_callP X3 hx hZ hown (E_a1.ext E2) (hw _ (List.mem_of_getElem? (i := 22) rfl)) (hw _ (List.mem_of_getElem? (i := 23) rfl)) (own_selP (x := ({ cls := "com/example/kembar/kembar/cluster/Clusters", name := "join", desc := "(II)V" } : Jvm.MethodName)) rfl (hw _ (List.mem_of_getElem? (i := 20) rfl)) (hw _ (List.mem_of_getElem? (i := 24) rfl)) (hw _ (List.mem_of_getElem? (i := 23) rfl)) (by decide)) (hw _ (List.mem_of_getElem? (i := 24) rfl)) (hw _ (List.mem_of_getElem? (i := 2) rfl)) (hw _ (List.mem_of_getElem? (i := 25) rfl)) (by decide) (rm5 l Z a0 hw [] h2 n0 (Nat.le_trans Z0 E2.1) a1 pa (0 : Int32) P L r (E_a1.ext E2) (F_a1.ext E2) (V_pa.ext E2) hP gp nep I (by decide)) e3 (by decide) (W := 1) (by decide) (by decide) (by decide) (argsL := [(.int (0 : Int32))]) (rest := [(.ref b2)]) (by rw [hml]; rfl) (lenOf pd_1 rfl) rfl rfl (Nat.le_of_eq rfl) (hb hby d8_22) ?_
  intro T4 L4 u4 X4 hQ4
  obtain ⟨P4, rfl, Nq4, K4, Vq4, hP4, I4⟩ := hQ4
  refine own_letI (f := fun z => (mkF m 25 #[.val (.ref a1), .val (.ref b2), .val (.int (0 : Int32)), .unset, .unset, .unset, .unset] [(.int z), (.ref b2)])) ((L : List Int32).getD ((0 : Int32)).toInt.toNat 0) fun y4 hy4 => ?_
  have N4 := Fr.app N0 Nq4
  have hyb4 : 0 ≤ y4.toInt ∧ y4.toInt < 5 := by rw [hy4]; exact (I4 0 (by decide)).2.1
  show ORun p e below s _ _ _ T4 (mkF m 25 #[.val (.ref a1), .val (.ref b2), .val (.int (0 : Int32)), .unset, .unset, .unset, .unset] [(.int y4), (.ref b2)])
  refine own_by (fun t k => XT.dup2 X4.here hx rfl (hb hby d8_25) rfl rfl rfl k) ?_
  show ORun p e below s _ _ _ T4 (mkF m 26 #[.val (.ref a1), .val (.ref b2), .val (.int (0 : Int32)), .unset, .unset, .unset, .unset] [(.int y4), (.ref b2), (.int y4), (.ref b2)])
  refine own_iaload X4 hx hZ rfl (V2.keep K4 (ninS (Ne.symm ne_pa_b2) nin0)) (i := y4.toInt.toNat) (by omega) (by omega) (hb hby d8_26) ?_
  intro v5 hv5
  have r5 := rng32 v5
  show ORun p e below s _ _ _ T4 (mkF m 27 #[.val (.ref a1), .val (.ref b2), .val (.int (0 : Int32)), .unset, .unset, .unset, .unset] [(.int v5), (.int y4), (.ref b2)])
  refine own_by (fun t k => XS.iconst X4.here hx rfl (hb hby d8_27) k) ?_
  show ORun p e below s _ _ _ T4 (mkF m 28 #[.val (.ref a1), .val (.ref b2), .val (.int (0 : Int32)), .unset, .unset, .unset, .unset] [(.int (1 : Int32)), (.int v5), (.int y4), (.ref b2)])
  refine own_by (fun t k => XS.iadd X4.here hx rfl (hb hby d8_28) rfl k) (own_letI (f := (fun z => (mkF m 29 #[.val (.ref a1), .val (.ref b2), .val (.int (0 : Int32)), .unset, .unset, .unset, .unset] [(.int z), (.int y4), (.ref b2)]))) (v5 + (1 : Int32)) fun v6 hv6 => ?_)
  show ORun p e below s _ _ _ T4 (mkF m 29 #[.val (.ref a1), .val (.ref b2), .val (.int (0 : Int32)), .unset, .unset, .unset, .unset] [(.int v6), (.int y4), (.ref b2)])
  have a6a : (v6.toInt - (v5.toInt + 1)) % 4294967296 = 0 := by rw [hv6]; exact c_iadd v5 (1 : Int32)
  have r6 := rng32 v6
  refine own_iastore X4 hx hZ rfl (V2.keep K4 (ninS (Ne.symm ne_pa_b2) nin0)) (i := y4.toInt.toNat) (by omega) (by omega) (hb hby d8_29) ?_
  intro T7 h7 L7 X7 e7 W7 hL7 V7
  have len7 : L7.length = 5 := by rw [hL7, List.length_set]; exact len2
  have N7 := Fr.snoc X7 N4 old_b2
  show ORun p e below s _ _ _ T7 (mkF m 30 #[.val (.ref a1), .val (.ref b2), .val (.int (0 : Int32)), .unset, .unset, .unset, .unset] [])
  have hS8 : L7 = own_szs L 1 := by rw [hL7, hv6, hv5, hy4, hL2]; rfl
  refine own_by (fun t k => XS.iinc X7.here hx rfl (hb hby d8_30) rfl (l' := #[.val (.ref a1), .val (.ref b2), .val (.int (1 : Int32)), .unset, .unset, .unset, .unset]) rfl k) ?_
  show ORun p e below s _ _ _ T7 (mkF m 33 #[.val (.ref a1), .val (.ref b2), .val (.int (1 : Int32)), .unset, .unset, .unset, .unset] [])
  refine own_by (fun t k => XS.goto X7.here hx rfl (pc0 := 33) (pc' := 10) rfl (hb hby d8_33) (by decide) (by decide) k) ?_
  show ORun p e below s _ _ _ T7 (mkF m 10 #[.val (.ref a1), .val (.ref b2), .val (.int (1 : Int32)), .unset, .unset, .unset, .unset] [])
  refine own_by (fun t k => XS.iloadN X7.here hx rfl (hb hby d8_10) rfl k) ?_
  show ORun p e below s _ _ _ T7 (mkF m 11 #[.val (.ref a1), .val (.ref b2), .val (.int (1 : Int32)), .unset, .unset, .unset, .unset] [(.int (1 : Int32))])
  refine own_by (fun t k => XS.aloadN X7.here hx rfl (hb hby d8_11) rfl rfl k) ?_
  show ORun p e below s _ _ _ T7 (mkF m 12 #[.val (.ref a1), .val (.ref b2), .val (.int (1 : Int32)), .unset, .unset, .unset, .unset] [(.ref a1), (.int (1 : Int32))])
  obtain ⟨T9, X9, e9, st9⟩ := getF X7 hx hZ hown (host := "") (Or.inl (hw _ (List.mem_of_getElem? (i := 10) rfl))) Via.refl e7 (((F_a1.ext E2).keep K4 (ninS nep nin0)).other W7 (Or.inl ne_a1_b2)) (g := (mkF m 12 #[.val (.ref a1), .val (.ref b2), .val (.int (1 : Int32)), .unset, .unset, .unset, .unset] [(.ref a1), (.int (1 : Int32))])) rfl rfl (hb hby d8_12)
  refine own_by st9 ?_
  show ORun p e below s _ _ _ T9 (mkF m 15 #[.val (.ref a1), .val (.ref b2), .val (.int (1 : Int32)), .unset, .unset, .unset, .unset] [(.ref pa), (.int (1 : Int32))])
  refine own_len X9 hx hZ e9 (Vq4.other W7 ne_pa_b2) (n := 5) hP4 (hb hby d8_15) ?_
  show ORun p e below s _ _ _ T9 (mkF m 16 #[.val (.ref a1), .val (.ref b2), .val (.int (1 : Int32)), .unset, .unset, .unset, .unset] [(.int (5 : Int32)), (.int (1 : Int32))])
  refine own_by (fun t k => XS.icmpNo X9.here hx rfl (hb hby d8_16) rfl (tlt (by decide)).2.1 k) ?_
  show ORun p e below s _ _ _ T9 (mkF m 19 #[.val (.ref a1), .val (.ref b2), .val (.int (1 : Int32)), .unset, .unset, .unset, .unset] [])
  refine own_by (fun t k => XS.aloadN X9.here hx rfl (hb hby d8_19) rfl rfl k) ?_
  show ORun p e below s _ _ _ T9 (mkF m 20 #[.val (.ref a1), .val (.ref b2), .val (.int (1 : Int32)), .unset, .unset, .unset, .unset] [(.ref b2)])
  refine own_by (fun t k => XS.aloadN X9.here hx rfl (hb hby d8_20) rfl rfl k) ?_
  show ORun p e below s _ _ _ T9 (mkF m 21 #[.val (.ref a1), .val (.ref b2), .val (.int (1 : Int32)), .unset, .unset, .unset, .unset] [(.ref a1), (.ref b2)])
  refine own_by (fun t k => XS.iloadN X9.here hx rfl (hb hby d8_21) rfl k) ?_
  show ORun p e below s _ _ _ T9 (mkF m 22 #[.val (.ref a1), .val (.ref b2), .val (.int (1 : Int32)), .unset, .unset, .unset, .unset] [(.int (1 : Int32)), (.ref a1), (.ref b2)])
  refine own_callP X9 hx hZ hown (((E_a1.ext E2).keep K4).wr W7) (hw _ (List.mem_of_getElem? (i := 22) rfl)) (hw _ (List.mem_of_getElem? (i := 23) rfl)) (own_selP (x := ({ cls := "com/example/kembar/kembar/cluster/Clusters", name := "join", desc := "(II)V" } : Jvm.MethodName)) rfl (hw _ (List.mem_of_getElem? (i := 20) rfl)) (hw _ (List.mem_of_getElem? (i := 24) rfl)) (hw _ (List.mem_of_getElem? (i := 23) rfl)) (by decide)) (hw _ (List.mem_of_getElem? (i := 24) rfl)) (hw _ (List.mem_of_getElem? (i := 2) rfl)) (hw _ (List.mem_of_getElem? (i := 25) rfl)) (by decide) (rm5 l Z a0 hw [] h7 n0 (Nat.le_trans (Nat.le_trans (Nat.le_trans Z0 E2.1) K4.1) (Keep.of_wr W7).1) a1 pa (1 : Int32) P4 L r (((E_a1.ext E2).keep K4).wr W7) (((F_a1.ext E2).keep K4 (ninS nep nin0)).other W7 (Or.inl ne_a1_b2)) (Vq4.other W7 ne_pa_b2) hP4 gp nep I4 (by decide)) e9 (by decide) (W := 1) (by decide) (by decide) (by decide) (argsL := [(.int (1 : Int32))]) (rest := [(.ref b2)]) (by rw [hml]; rfl) (lenOf pd_1 rfl) rfl rfl (Nat.le_of_eq rfl) (hb hby d8_22) ?_
  intro T10 L10 u10 X10 hQ10
  obtain ⟨P10, rfl, Nq10, K10, Vq10, hP10, I10⟩ := hQ10
  refine own_letI (f := fun z => (mkF m 25 #[.val (.ref a1), .val (.ref b2), .val (.int (1 : Int32)), .unset, .unset, .unset, .unset] [(.int z), (.ref b2)])) ((L : List Int32).getD ((1 : Int32)).toInt.toNat 0) fun y10 hy10 => ?_
  have N10 := Fr.app N7 Nq10
  have hyb10 : 0 ≤ y10.toInt ∧ y10.toInt < 5 := by rw [hy10]; exact (I10 1 (by decide)).2.1
  show ORun p e below s _ _ _ T10 (mkF m 25 #[.val (.ref a1), .val (.ref b2), .val (.int (1 : Int32)), .unset, .unset, .unset, .unset] [(.int y10), (.ref b2)])
  refine own_by (fun t k => XT.dup2 X10.here hx rfl (hb hby d8_25) rfl rfl rfl k) ?_
  show ORun p e below s _ _ _ T10 (mkF m 26 #[.val (.ref a1), .val (.ref b2), .val (.int (1 : Int32)), .unset, .unset, .unset, .unset] [(.int y10), (.ref b2), (.int y10), (.ref b2)])
  refine own_iaload X10 hx hZ rfl (V7.keep K10 (ninS (Ne.symm ne_pa_b2) nin0)) (i := y10.toInt.toNat) (by omega) (by omega) (hb hby d8_26) ?_
  intro v11 hv11
  have r11 := rng32 v11
  show ORun p e below s _ _ _ T10 (mkF m 27 #[.val (.ref a1), .val (.ref b2), .val (.int (1 : Int32)), .unset, .unset, .unset, .unset] [(.int v11), (.int y10), (.ref b2)])
  refine own_by (fun t k => XS.iconst X10.here hx rfl (hb hby d8_27) k) ?_
  show ORun p e below s _ _ _ T10 (mkF m 28 #[.val (.ref a1), .val (.ref b2), .val (.int (1 : Int32)), .unset, .unset, .unset, .unset] [(.int (1 : Int32)), (.int v11), (.int y10), (.ref b2)])
  refine own_by (fun t k => XS.iadd X10.here hx rfl (hb hby d8_28) rfl k) (own_letI (f := (fun z => (mkF m 29 #[.val (.ref a1), .val (.ref b2), .val (.int (1 : Int32)), .unset, .unset, .unset, .unset] [(.int z), (.int y10), (.ref b2)]))) (v11 + (1 : Int32)) fun v12 hv12 => ?_)
  show ORun p e below s _ _ _ T10 (mkF m 29 #[.val (.ref a1), .val (.ref b2), .val (.int (1 : Int32)), .unset, .unset, .unset, .unset] [(.int v12), (.int y10), (.ref b2)])
  have a12a : (v12.toInt - (v11.toInt + 1)) % 4294967296 = 0 := by rw [hv12]; exact c_iadd v11 (1 : Int32)
  have r12 := rng32 v12
  refine own_iastore X10 hx hZ rfl (V7.keep K10 (ninS (Ne.symm ne_pa_b2) nin0)) (i := y10.toInt.toNat) (by omega) (by omega) (hb hby d8_29) ?_
  intro T13 h13 L13 X13 e13 W13 hL13 V13
  have len13 : L13.length = 5 := by rw [hL13, List.length_set]; exact len7
  have N13 := Fr.snoc X13 N10 old_b2
  show ORun p e below s _ _ _ T13 (mkF m 30 #[.val (.ref a1), .val (.ref b2), .val (.int (1 : Int32)), .unset, .unset, .unset, .unset] [])
  have hS14 : L13 = own_szs L 2 := by rw [hL13, hv12, hv11, hy10, hS8]; rfl
  refine own_by (fun t k => XS.iinc X13.here hx rfl (hb hby d8_30) rfl (l' := #[.val (.ref a1), .val (.ref b2), .val (.int (2 : Int32)), .unset, .unset, .unset, .unset]) rfl k) ?_
  show ORun p e below s _ _ _ T13 (mkF m 33 #[.val (.ref a1), .val (.ref b2), .val (.int (2 : Int32)), .unset, .unset, .unset, .unset] [])
  refine own_by (fun t k => XS.goto X13.here hx rfl (pc0 := 33) (pc' := 10) rfl (hb hby d8_33) (by decide) (by decide) k) ?_
  show ORun p e below s _ _ _ T13 (mkF m 10 #[.val (.ref a1), .val (.ref b2), .val (.int (2 : Int32)), .unset, .unset, .unset, .unset] [])
  refine own_by (fun t k => XS.iloadN X13.here hx rfl (hb hby d8_10) rfl k) ?_
  show ORun p e below s _ _ _ T13 (mkF m 11 #[.val (.ref a1), .val (.ref b2), .val (.int (2 : Int32)), .unset, .unset, .unset, .unset] [(.int (2 : Int32))])
  refine own_by (fun t k => XS.aloadN X13.here hx rfl (hb hby d8_11) rfl rfl k) ?_
  show ORun p e below s _ _ _ T13 (mkF m 12 #[.val (.ref a1), .val (.ref b2), .val (.int (2 : Int32)), .unset, .unset, .unset, .unset] [(.ref a1), (.int (2 : Int32))])
  obtain ⟨T15, X15, e15, st15⟩ := getF X13 hx hZ hown (host := "") (Or.inl (hw _ (List.mem_of_getElem? (i := 10) rfl))) Via.refl e13 (((((F_a1.ext E2).keep K4 (ninS nep nin0)).other W7 (Or.inl ne_a1_b2)).keep K10 (ninS nep nin0)).other W13 (Or.inl ne_a1_b2)) (g := (mkF m 12 #[.val (.ref a1), .val (.ref b2), .val (.int (2 : Int32)), .unset, .unset, .unset, .unset] [(.ref a1), (.int (2 : Int32))])) rfl rfl (hb hby d8_12)
  refine own_by st15 ?_
  show ORun p e below s _ _ _ T15 (mkF m 15 #[.val (.ref a1), .val (.ref b2), .val (.int (2 : Int32)), .unset, .unset, .unset, .unset] [(.ref pa), (.int (2 : Int32))])
  refine own_len X15 hx hZ e15 (Vq10.other W13 ne_pa_b2) (n := 5) hP10 (hb hby d8_15) ?_
  show ORun p e below s _ _ _ T15 (mkF m 16 #[.val (.ref a1), .val (.ref b2), .val (.int (2 : Int32)), .unset, .unset, .unset, .unset] [(.int (5 : Int32)), (.int (2 : Int32))])
  refine own_by (fun t k => XS.icmpNo X15.here hx rfl (hb hby d8_16) rfl (tlt (by decide)).2.1 k) ?_
  show ORun p e below s _ _ _ T15 (mkF m 19 #[.val (.ref a1), .val (.ref b2), .val (.int (2 : Int32)), .unset, .unset, .unset, .unset] [])
  refine own_by (fun t k => XS.aloadN X15.here hx rfl (hb hby d8_19) rfl rfl k) ?_
  show ORun p e below s _ _ _ T15 (mkF m 20 #[.val (.ref a1), .val (.ref b2), .val (.int (2 : Int32)), .unset, .unset, .unset, .unset] [(.ref b2)])
  refine own_by (fun t k => XS.aloadN X15.here hx rfl (hb hby d8_20) rfl rfl k) ?_
  show ORun p e below s _ _ _ T15 (mkF m 21 #[.val (.ref a1), .val (.ref b2), .val (.int (2 : Int32)), .unset, .unset, .unset, .unset] [(.ref a1), (.ref b2)])
  refine own_by (fun t k => XS.iloadN X15.here hx rfl (hb hby d8_21) rfl k) ?_
  show ORun p e below s _ _ _ T15 (mkF m 22 #[.val (.ref a1), .val (.ref b2), .val (.int (2 : Int32)), .unset, .unset, .unset, .unset] [(.int (2 : Int32)), (.ref a1), (.ref b2)])
  refine own_callP X15 hx hZ hown (((((E_a1.ext E2).keep K4).wr W7).keep K10).wr W13) (hw _ (List.mem_of_getElem? (i := 22) rfl)) (hw _ (List.mem_of_getElem? (i := 23) rfl)) (own_selP (x := ({ cls := "com/example/kembar/kembar/cluster/Clusters", name := "join", desc := "(II)V" } : Jvm.MethodName)) rfl (hw _ (List.mem_of_getElem? (i := 20) rfl)) (hw _ (List.mem_of_getElem? (i := 24) rfl)) (hw _ (List.mem_of_getElem? (i := 23) rfl)) (by decide)) (hw _ (List.mem_of_getElem? (i := 24) rfl)) (hw _ (List.mem_of_getElem? (i := 2) rfl)) (hw _ (List.mem_of_getElem? (i := 25) rfl)) (by decide) (rm5 l Z a0 hw [] h13 n0 (Nat.le_trans (Nat.le_trans (Nat.le_trans (Nat.le_trans (Nat.le_trans Z0 E2.1) K4.1) (Keep.of_wr W7).1) K10.1) (Keep.of_wr W13).1) a1 pa (2 : Int32) P10 L r (((((E_a1.ext E2).keep K4).wr W7).keep K10).wr W13) (((((F_a1.ext E2).keep K4 (ninS nep nin0)).other W7 (Or.inl ne_a1_b2)).keep K10 (ninS nep nin0)).other W13 (Or.inl ne_a1_b2)) (Vq10.other W13 ne_pa_b2) hP10 gp nep I10 (by decide)) e15 (by decide) (W := 1) (by decide) (by decide) (by decide) (argsL := [(.int (2 : Int32))]) (rest := [(.ref b2)]) (by rw [hml]; rfl) (lenOf pd_1 rfl) rfl rfl (Nat.le_of_eq rfl) (hb hby d8_22) ?_
  intro T16 L16 u16 X16 hQ16
  obtain ⟨P16, rfl, Nq16, K16, Vq16, hP16, I16⟩ := hQ16
  refine own_letI (f := fun z => (mkF m 25 #[.val (.ref a1), .val (.ref b2), .val (.int (2 : Int32)), .unset, .unset, .unset, .unset] [(.int z), (.ref b2)])) ((L : List Int32).getD ((2 : Int32)).toInt.toNat 0) fun y16 hy16 => ?_
  have N16 := Fr.app N13 Nq16
  have hyb16 : 0 ≤ y16.toInt ∧ y16.toInt < 5 := by rw [hy16]; exact (I16 2 (by decide)).2.1
  show ORun p e below s _ _ _ T16 (mkF m 25 #[.val (.ref a1), .val (.ref b2), .val (.int (2 : Int32)), .unset, .unset, .unset, .unset] [(.int y16), (.ref b2)])
  refine own_by (fun t k => XT.dup2 X16.here hx rfl (hb hby d8_25) rfl rfl rfl k) ?_
  show ORun p e below s _ _ _ T16 (mkF m 26 #[.val (.ref a1), .val (.ref b2), .val (.int (2 : Int32)), .unset, .unset, .unset, .unset] [(.int y16), (.ref b2), (.int y16), (.ref b2)])
  refine own_iaload X16 hx hZ rfl (V13.keep K16 (ninS (Ne.symm ne_pa_b2) nin0)) (i := y16.toInt.toNat) (by omega) (by omega) (hb hby d8_26) ?_
  intro v17 hv17
  have r17 := rng32 v17
  show ORun p e below s _ _ _ T16 (mkF m 27 #[.val (.ref a1), .val (.ref b2), .val (.int (2 : Int32)), .unset, .unset, .unset, .unset] [(.int v17), (.int y16), (.ref b2)])
  refine own_by (fun t k => XS.iconst X16.here hx rfl (hb hby d8_27) k) ?_
  show ORun p e below s _ _ _ T16 (mkF m 28 #[.val (.ref a1), .val (.ref b2), .val (.int (2 : Int32)), .unset, .unset, .unset, .unset] [(.int (1 : Int32)), (.int v17), (.int y16), (.ref b2)])
  refine own_by (fun t k => XS.iadd X16.here hx rfl (hb hby d8_28) rfl k) (own_letI (f := (fun z => (mkF m 29 #[.val (.ref a1), .val (.ref b2), .val (.int (2 : Int32)), .unset, .unset, .unset, .unset] [(.int z), (.int y16), (.ref b2)]))) (v17 + (1 : Int32)) fun v18 hv18 => ?_)
  show ORun p e below s _ _ _ T16 (mkF m 29 #[.val (.ref a1), .val (.ref b2), .val (.int (2 : Int32)), .unset, .unset, .unset, .unset] [(.int v18), (.int y16), (.ref b2)])
  have a18a : (v18.toInt - (v17.toInt + 1)) % 4294967296 = 0 := by rw [hv18]; exact c_iadd v17 (1 : Int32)
  have r18 := rng32 v18
  refine own_iastore X16 hx hZ rfl (V13.keep K16 (ninS (Ne.symm ne_pa_b2) nin0)) (i := y16.toInt.toNat) (by omega) (by omega) (hb hby d8_29) ?_
  intro T19 h19 L19 X19 e19 W19 hL19 V19
  have len19 : L19.length = 5 := by rw [hL19, List.length_set]; exact len13
  have N19 := Fr.snoc X19 N16 old_b2
  show ORun p e below s _ _ _ T19 (mkF m 30 #[.val (.ref a1), .val (.ref b2), .val (.int (2 : Int32)), .unset, .unset, .unset, .unset] [])
  have hS20 : L19 = own_szs L 3 := by rw [hL19, hv18, hv17, hy16, hS14]; rfl
  refine own_by (fun t k => XS.iinc X19.here hx rfl (hb hby d8_30) rfl (l' := #[.val (.ref a1), .val (.ref b2), .val (.int (3 : Int32)), .unset, .unset, .unset, .unset]) rfl k) ?_
  show ORun p e below s _ _ _ T19 (mkF m 33 #[.val (.ref a1), .val (.ref b2), .val (.int (3 : Int32)), .unset, .unset, .unset, .unset] [])
  refine own_by (fun t k => XS.goto X19.here hx rfl (pc0 := 33) (pc' := 10) rfl (hb hby d8_33) (by decide) (by decide) k) ?_
  show ORun p e below s _ _ _ T19 (mkF m 10 #[.val (.ref a1), .val (.ref b2), .val (.int (3 : Int32)), .unset, .unset, .unset, .unset] [])
  refine own_by (fun t k => XS.iloadN X19.here hx rfl (hb hby d8_10) rfl k) ?_
  show ORun p e below s _ _ _ T19 (mkF m 11 #[.val (.ref a1), .val (.ref b2), .val (.int (3 : Int32)), .unset, .unset, .unset, .unset] [(.int (3 : Int32))])
  refine own_by (fun t k => XS.aloadN X19.here hx rfl (hb hby d8_11) rfl rfl k) ?_
  show ORun p e below s _ _ _ T19 (mkF m 12 #[.val (.ref a1), .val (.ref b2), .val (.int (3 : Int32)), .unset, .unset, .unset, .unset] [(.ref a1), (.int (3 : Int32))])
  obtain ⟨T21, X21, e21, st21⟩ := getF X19 hx hZ hown (host := "") (Or.inl (hw _ (List.mem_of_getElem? (i := 10) rfl))) Via.refl e19 (((((((F_a1.ext E2).keep K4 (ninS nep nin0)).other W7 (Or.inl ne_a1_b2)).keep K10 (ninS nep nin0)).other W13 (Or.inl ne_a1_b2)).keep K16 (ninS nep nin0)).other W19 (Or.inl ne_a1_b2)) (g := (mkF m 12 #[.val (.ref a1), .val (.ref b2), .val (.int (3 : Int32)), .unset, .unset, .unset, .unset] [(.ref a1), (.int (3 : Int32))])) rfl rfl (hb hby d8_12)
  refine own_by st21 ?_
  show ORun p e below s _ _ _ T21 (mkF m 15 #[.val (.ref a1), .val (.ref b2), .val (.int (3 : Int32)), .unset, .unset, .unset, .unset] [(.ref pa), (.int (3 : Int32))])
  refine own_len X21 hx hZ e21 (Vq16.other W19 ne_pa_b2) (n := 5) hP16 (hb hby d8_15) ?_
  show ORun p e below s _ _ _ T21 (mkF m 16 #[.val (.ref a1), .val (.ref b2), .val (.int (3 : Int32)), .unset, .unset, .unset, .unset] [(.int (5 : Int32)), (.int (3 : Int32))])
  refine own_by (fun t k => XS.icmpNo X21.here hx rfl (hb hby d8_16) rfl (tlt (by decide)).2.1 k) ?_
  show ORun p e below s _ _ _ T21 (mkF m 19 #[.val (.ref a1), .val (.ref b2), .val (.int (3 : Int32)), .unset, .unset, .unset, .unset] [])
  refine own_by (fun t k => XS.aloadN X21.here hx rfl (hb hby d8_19) rfl rfl k) ?_
  show ORun p e below s _ _ _ T21 (mkF m 20 #[.val (.ref a1), .val (.ref b2), .val (.int (3 : Int32)), .unset, .unset, .unset, .unset] [(.ref b2)])
  refine own_by (fun t k => XS.aloadN X21.here hx rfl (hb hby d8_20) rfl rfl k) ?_
  show ORun p e below s _ _ _ T21 (mkF m 21 #[.val (.ref a1), .val (.ref b2), .val (.int (3 : Int32)), .unset, .unset, .unset, .unset] [(.ref a1), (.ref b2)])
  refine own_by (fun t k => XS.iloadN X21.here hx rfl (hb hby d8_21) rfl k) ?_
  show ORun p e below s _ _ _ T21 (mkF m 22 #[.val (.ref a1), .val (.ref b2), .val (.int (3 : Int32)), .unset, .unset, .unset, .unset] [(.int (3 : Int32)), (.ref a1), (.ref b2)])
  refine own_callP X21 hx hZ hown (((((((E_a1.ext E2).keep K4).wr W7).keep K10).wr W13).keep K16).wr W19) (hw _ (List.mem_of_getElem? (i := 22) rfl)) (hw _ (List.mem_of_getElem? (i := 23) rfl)) (own_selP (x := ({ cls := "com/example/kembar/kembar/cluster/Clusters", name := "join", desc := "(II)V" } : Jvm.MethodName)) rfl (hw _ (List.mem_of_getElem? (i := 20) rfl)) (hw _ (List.mem_of_getElem? (i := 24) rfl)) (hw _ (List.mem_of_getElem? (i := 23) rfl)) (by decide)) (hw _ (List.mem_of_getElem? (i := 24) rfl)) (hw _ (List.mem_of_getElem? (i := 2) rfl)) (hw _ (List.mem_of_getElem? (i := 25) rfl)) (by decide) (rm5 l Z a0 hw [] h19 n0 (Nat.le_trans (Nat.le_trans (Nat.le_trans (Nat.le_trans (Nat.le_trans (Nat.le_trans (Nat.le_trans Z0 E2.1) K4.1) (Keep.of_wr W7).1) K10.1) (Keep.of_wr W13).1) K16.1) (Keep.of_wr W19).1) a1 pa (3 : Int32) P16 L r (((((((E_a1.ext E2).keep K4).wr W7).keep K10).wr W13).keep K16).wr W19) (((((((F_a1.ext E2).keep K4 (ninS nep nin0)).other W7 (Or.inl ne_a1_b2)).keep K10 (ninS nep nin0)).other W13 (Or.inl ne_a1_b2)).keep K16 (ninS nep nin0)).other W19 (Or.inl ne_a1_b2)) (Vq16.other W19 ne_pa_b2) hP16 gp nep I16 (by decide)) e21 (by decide) (W := 1) (by decide) (by decide) (by decide) (argsL := [(.int (3 : Int32))]) (rest := [(.ref b2)]) (by rw [hml]; rfl) (lenOf pd_1 rfl) rfl rfl (Nat.le_of_eq rfl) (hb hby d8_22) ?_
  intro T22 L22 u22 X22 hQ22
  obtain ⟨P22, rfl, Nq22, K22, Vq22, hP22, I22⟩ := hQ22
  refine own_letI (f := fun z => (mkF m 25 #[.val (.ref a1), .val (.ref b2), .val (.int (3 : Int32)), .unset, .unset, .unset, .unset] [(.int z), (.ref b2)])) ((L : List Int32).getD ((3 : Int32)).toInt.toNat 0) fun y22 hy22 => ?_
  have N22 := Fr.app N19 Nq22
  have hyb22 : 0 ≤ y22.toInt ∧ y22.toInt < 5 := by rw [hy22]; exact (I22 3 (by decide)).2.1
  show ORun p e below s _ _ _ T22 (mkF m 25 #[.val (.ref a1), .val (.ref b2), .val (.int (3 : Int32)), .unset, .unset, .unset, .unset] [(.int y22), (.ref b2)])
  refine own_by (fun t k => XT.dup2 X22.here hx rfl (hb hby d8_25) rfl rfl rfl k) ?_
  show ORun p e below s _ _ _ T22 (mkF m 26 #[.val (.ref a1), .val (.ref b2), .val (.int (3 : Int32)), .unset, .unset, .unset, .unset] [(.int y22), (.ref b2), (.int y22), (.ref b2)])
  refine own_iaload X22 hx hZ rfl (V19.keep K22 (ninS (Ne.symm ne_pa_b2) nin0)) (i := y22.toInt.toNat) (by omega) (by omega) (hb hby d8_26) ?_
  intro v23 hv23
  have r23 := rng32 v23
  show ORun p e below s _ _ _ T22 (mkF m 27 #[.val (.ref a1), .val (.ref b2), .val (.int (3 : Int32)), .unset, .unset, .unset, .unset] [(.int v23), (.int y22), (.ref b2)])
  refine own_by (fun t k => XS.iconst X22.here hx rfl (hb hby d8_27) k) ?_
  show ORun p e below s _ _ _ T22 (mkF m 28 #[.val (.ref a1), .val (.ref b2), .val (.int (3 : Int32)), .unset, .unset, .unset, .unset] [(.int (1 : Int32)), (.int v23), (.int y22), (.ref b2)])
  refine own_by (fun t k => XS.iadd X22.here hx rfl (hb hby d8_28) rfl k) (own_letI (f := (fun z => (mkF m 29 #[.val (.ref a1), .val (.ref b2), .val (.int (3 : Int32)), .unset, .unset, .unset, .unset] [(.int z), (.int y22), (.ref b2)]))) (v23 + (1 : Int32)) fun v24 hv24 => ?_)
  show ORun p e below s _ _ _ T22 (mkF m 29 #[.val (.ref a1), .val (.ref b2), .val (.int (3 : Int32)), .unset, .unset, .unset, .unset] [(.int v24), (.int y22), (.ref b2)])
  have a24a : (v24.toInt - (v23.toInt + 1)) % 4294967296 = 0 := by rw [hv24]; exact c_iadd v23 (1 : Int32)
  have r24 := rng32 v24
  refine own_iastore X22 hx hZ rfl (V19.keep K22 (ninS (Ne.symm ne_pa_b2) nin0)) (i := y22.toInt.toNat) (by omega) (by omega) (hb hby d8_29) ?_
  intro T25 h25 L25 X25 e25 W25 hL25 V25
  have len25 : L25.length = 5 := by rw [hL25, List.length_set]; exact len19
  have N25 := Fr.snoc X25 N22 old_b2
  show ORun p e below s _ _ _ T25 (mkF m 30 #[.val (.ref a1), .val (.ref b2), .val (.int (3 : Int32)), .unset, .unset, .unset, .unset] [])
  have hS26 : L25 = own_szs L 4 := by rw [hL25, hv24, hv23, hy22, hS20]; rfl
  refine own_by (fun t k => XS.iinc X25.here hx rfl (hb hby d8_30) rfl (l' := #[.val (.ref a1), .val (.ref b2), .val (.int (4 : Int32)), .unset, .unset, .unset, .unset]) rfl k) ?_
  show ORun p e below s _ _ _ T25 (mkF m 33 #[.val (.ref a1), .val (.ref b2), .val (.int (4 : Int32)), .unset, .unset, .unset, .unset] [])
  refine own_by (fun t k => XS.goto X25.here hx rfl (pc0 := 33) (pc' := 10) rfl (hb hby d8_33) (by decide) (by decide) k) ?_
  show ORun p e below s _ _ _ T25 (mkF m 10 #[.val (.ref a1), .val (.ref b2), .val (.int (4 : Int32)), .unset, .unset, .unset, .unset] [])
  refine own_by (fun t k => XS.iloadN X25.here hx rfl (hb hby d8_10) rfl k) ?_
  show ORun p e below s _ _ _ T25 (mkF m 11 #[.val (.ref a1), .val (.ref b2), .val (.int (4 : Int32)), .unset, .unset, .unset, .unset] [(.int (4 : Int32))])
  refine own_by (fun t k => XS.aloadN X25.here hx rfl (hb hby d8_11) rfl rfl k) ?_
  show ORun p e below s _ _ _ T25 (mkF m 12 #[.val (.ref a1), .val (.ref b2), .val (.int (4 : Int32)), .unset, .unset, .unset, .unset] [(.ref a1), (.int (4 : Int32))])
  obtain ⟨T27, X27, e27, st27⟩ := getF X25 hx hZ hown (host := "") (Or.inl (hw _ (List.mem_of_getElem? (i := 10) rfl))) Via.refl e25 (((((((((F_a1.ext E2).keep K4 (ninS nep nin0)).other W7 (Or.inl ne_a1_b2)).keep K10 (ninS nep nin0)).other W13 (Or.inl ne_a1_b2)).keep K16 (ninS nep nin0)).other W19 (Or.inl ne_a1_b2)).keep K22 (ninS nep nin0)).other W25 (Or.inl ne_a1_b2)) (g := (mkF m 12 #[.val (.ref a1), .val (.ref b2), .val (.int (4 : Int32)), .unset, .unset, .unset, .unset] [(.ref a1), (.int (4 : Int32))])) rfl rfl (hb hby d8_12)
  refine own_by st27 ?_
  show ORun p e below s _ _ _ T27 (mkF m 15 #[.val (.ref a1), .val (.ref b2), .val (.int (4 : Int32)), .unset, .unset, .unset, .unset] [(.ref pa), (.int (4 : Int32))])
  refine own_len X27 hx hZ e27 (Vq22.other W25 ne_pa_b2) (n := 5) hP22 (hb hby d8_15) ?_
  show ORun p e below s _ _ _ T27 (mkF m 16 #[.val (.ref a1), .val (.ref b2), .val (.int (4 : Int32)), .unset, .unset, .unset, .unset] [(.int (5 : Int32)), (.int (4 : Int32))])
  refine own_by (fun t k => XS.icmpNo X27.here hx rfl (hb hby d8_16) rfl (tlt (by decide)).2.1 k) ?_
  show ORun p e below s _ _ _ T27 (mkF m 19 #[.val (.ref a1), .val (.ref b2), .val (.int (4 : Int32)), .unset, .unset, .unset, .unset] [])
  refine own_by (fun t k => XS.aloadN X27.here hx rfl (hb hby d8_19) rfl rfl k) ?_
  show ORun p e below s _ _ _ T27 (mkF m 20 #[.val (.ref a1), .val (.ref b2), .val (.int (4 : Int32)), .unset, .unset, .unset, .unset] [(.ref b2)])
  refine own_by (fun t k => XS.aloadN X27.here hx rfl (hb hby d8_20) rfl rfl k) ?_
  show ORun p e below s _ _ _ T27 (mkF m 21 #[.val (.ref a1), .val (.ref b2), .val (.int (4 : Int32)), .unset, .unset, .unset, .unset] [(.ref a1), (.ref b2)])
  refine own_by (fun t k => XS.iloadN X27.here hx rfl (hb hby d8_21) rfl k) ?_
  show ORun p e below s _ _ _ T27 (mkF m 22 #[.val (.ref a1), .val (.ref b2), .val (.int (4 : Int32)), .unset, .unset, .unset, .unset] [(.int (4 : Int32)), (.ref a1), (.ref b2)])
  refine own_callP X27 hx hZ hown (((((((((E_a1.ext E2).keep K4).wr W7).keep K10).wr W13).keep K16).wr W19).keep K22).wr W25) (hw _ (List.mem_of_getElem? (i := 22) rfl)) (hw _ (List.mem_of_getElem? (i := 23) rfl)) (own_selP (x := ({ cls := "com/example/kembar/kembar/cluster/Clusters", name := "join", desc := "(II)V" } : Jvm.MethodName)) rfl (hw _ (List.mem_of_getElem? (i := 20) rfl)) (hw _ (List.mem_of_getElem? (i := 24) rfl)) (hw _ (List.mem_of_getElem? (i := 23) rfl)) (by decide)) (hw _ (List.mem_of_getElem? (i := 24) rfl)) (hw _ (List.mem_of_getElem? (i := 2) rfl)) (hw _ (List.mem_of_getElem? (i := 25) rfl)) (by decide) (rm5 l Z a0 hw [] h25 n0 (Nat.le_trans (Nat.le_trans (Nat.le_trans (Nat.le_trans (Nat.le_trans (Nat.le_trans (Nat.le_trans (Nat.le_trans (Nat.le_trans Z0 E2.1) K4.1) (Keep.of_wr W7).1) K10.1) (Keep.of_wr W13).1) K16.1) (Keep.of_wr W19).1) K22.1) (Keep.of_wr W25).1) a1 pa (4 : Int32) P22 L r (((((((((E_a1.ext E2).keep K4).wr W7).keep K10).wr W13).keep K16).wr W19).keep K22).wr W25) (((((((((F_a1.ext E2).keep K4 (ninS nep nin0)).other W7 (Or.inl ne_a1_b2)).keep K10 (ninS nep nin0)).other W13 (Or.inl ne_a1_b2)).keep K16 (ninS nep nin0)).other W19 (Or.inl ne_a1_b2)).keep K22 (ninS nep nin0)).other W25 (Or.inl ne_a1_b2)) (Vq22.other W25 ne_pa_b2) hP22 gp nep I22 (by decide)) e27 (by decide) (W := 1) (by decide) (by decide) (by decide) (argsL := [(.int (4 : Int32))]) (rest := [(.ref b2)]) (by rw [hml]; rfl) (lenOf pd_1 rfl) rfl rfl (Nat.le_of_eq rfl) (hb hby d8_22) ?_
  intro T28 L28 u28 X28 hQ28
  obtain ⟨P28, rfl, Nq28, K28, Vq28, hP28, I28⟩ := hQ28
  refine own_letI (f := fun z => (mkF m 25 #[.val (.ref a1), .val (.ref b2), .val (.int (4 : Int32)), .unset, .unset, .unset, .unset] [(.int z), (.ref b2)])) ((L : List Int32).getD ((4 : Int32)).toInt.toNat 0) fun y28 hy28 => ?_
  have N28 := Fr.app N25 Nq28
  have hyb28 : 0 ≤ y28.toInt ∧ y28.toInt < 5 := by rw [hy28]; exact (I28 4 (by decide)).2.1
  show ORun p e below s _ _ _ T28 (mkF m 25 #[.val (.ref a1), .val (.ref b2), .val (.int (4 : Int32)), .unset, .unset, .unset, .unset] [(.int y28), (.ref b2)])
  refine own_by (fun t k => XT.dup2 X28.here hx rfl (hb hby d8_25) rfl rfl rfl k) ?_
  show ORun p e below s _ _ _ T28 (mkF m 26 #[.val (.ref a1), .val (.ref b2), .val (.int (4 : Int32)), .unset, .unset, .unset, .unset] [(.int y28), (.ref b2), (.int y28), (.ref b2)])
  refine own_iaload X28 hx hZ rfl (V25.keep K28 (ninS (Ne.symm ne_pa_b2) nin0)) (i := y28.toInt.toNat) (by omega) (by omega) (hb hby d8_26) ?_
  intro v29 hv29
  have r29 := rng32 v29
  show ORun p e below s _ _ _ T28 (mkF m 27 #[.val (.ref a1), .val (.ref b2), .val (.int (4 : Int32)), .unset, .unset, .unset, .unset] [(.int v29), (.int y28), (.ref b2)])
  refine own_by (fun t k => XS.iconst X28.here hx rfl (hb hby d8_27) k) ?_
  show ORun p e below s _ _ _ T28 (mkF m 28 #[.val (.ref a1), .val (.ref b2), .val (.int (4 : Int32)), .unset, .unset, .unset, .unset] [(.int (1 : Int32)), (.int v29), (.int y28), (.ref b2)])
  refine own_by (fun t k => XS.iadd X28.here hx rfl (hb hby d8_28) rfl k) (own_letI (f := (fun z => (mkF m 29 #[.val (.ref a1), .val (.ref b2), .val (.int (4 : Int32)), .unset, .unset, .unset, .unset] [(.int z), (.int y28), (.ref b2)]))) (v29 + (1 : Int32)) fun v30 hv30 => ?_)
  show ORun p e below s _ _ _ T28 (mkF m 29 #[.val (.ref a1), .val (.ref b2), .val (.int (4 : Int32)), .unset, .unset, .unset, .unset] [(.int v30), (.int y28), (.ref b2)])
  have a30a : (v30.toInt - (v29.toInt + 1)) % 4294967296 = 0 := by rw [hv30]; exact c_iadd v29 (1 : Int32)
  have r30 := rng32 v30
  refine own_iastore X28 hx hZ rfl (V25.keep K28 (ninS (Ne.symm ne_pa_b2) nin0)) (i := y28.toInt.toNat) (by omega) (by omega) (hb hby d8_29) ?_
  intro T31 h31 L31 X31 e31 W31 hL31 V31
  have len31 : L31.length = 5 := by rw [hL31, List.length_set]; exact len25
  have N31 := Fr.snoc X31 N28 old_b2
  show ORun p e below s _ _ _ T31 (mkF m 30 #[.val (.ref a1), .val (.ref b2), .val (.int (4 : Int32)), .unset, .unset, .unset, .unset] [])
  have hS32 : L31 = own_szs L 5 := by rw [hL31, hv30, hv29, hy28, hS26]; rfl
  refine own_by (fun t k => XS.iinc X31.here hx rfl (hb hby d8_30) rfl (l' := #[.val (.ref a1), .val (.ref b2), .val (.int (5 : Int32)), .unset, .unset, .unset, .unset]) rfl k) ?_
  show ORun p e below s _ _ _ T31 (mkF m 33 #[.val (.ref a1), .val (.ref b2), .val (.int (5 : Int32)), .unset, .unset, .unset, .unset] [])
  refine own_by (fun t k => XS.goto X31.here hx rfl (pc0 := 33) (pc' := 10) rfl (hb hby d8_33) (by decide) (by decide) k) ?_
  show ORun p e below s _ _ _ T31 (mkF m 10 #[.val (.ref a1), .val (.ref b2), .val (.int (5 : Int32)), .unset, .unset, .unset, .unset] [])
  refine own_by (fun t k => XS.iloadN X31.here hx rfl (hb hby d8_10) rfl k) ?_
  show ORun p e below s _ _ _ T31 (mkF m 11 #[.val (.ref a1), .val (.ref b2), .val (.int (5 : Int32)), .unset, .unset, .unset, .unset] [(.int (5 : Int32))])
  refine own_by (fun t k => XS.aloadN X31.here hx rfl (hb hby d8_11) rfl rfl k) ?_
  show ORun p e below s _ _ _ T31 (mkF m 12 #[.val (.ref a1), .val (.ref b2), .val (.int (5 : Int32)), .unset, .unset, .unset, .unset] [(.ref a1), (.int (5 : Int32))])
  obtain ⟨T33, X33, e33, st33⟩ := getF X31 hx hZ hown (host := "") (Or.inl (hw _ (List.mem_of_getElem? (i := 10) rfl))) Via.refl e31 (((((((((((F_a1.ext E2).keep K4 (ninS nep nin0)).other W7 (Or.inl ne_a1_b2)).keep K10 (ninS nep nin0)).other W13 (Or.inl ne_a1_b2)).keep K16 (ninS nep nin0)).other W19 (Or.inl ne_a1_b2)).keep K22 (ninS nep nin0)).other W25 (Or.inl ne_a1_b2)).keep K28 (ninS nep nin0)).other W31 (Or.inl ne_a1_b2)) (g := (mkF m 12 #[.val (.ref a1), .val (.ref b2), .val (.int (5 : Int32)), .unset, .unset, .unset, .unset] [(.ref a1), (.int (5 : Int32))])) rfl rfl (hb hby d8_12)
  refine own_by st33 ?_
  show ORun p e below s _ _ _ T33 (mkF m 15 #[.val (.ref a1), .val (.ref b2), .val (.int (5 : Int32)), .unset, .unset, .unset, .unset] [(.ref pa), (.int (5 : Int32))])
  refine own_len X33 hx hZ e33 (Vq28.other W31 ne_pa_b2) (n := 5) hP28 (hb hby d8_15) ?_
  show ORun p e below s _ _ _ T33 (mkF m 16 #[.val (.ref a1), .val (.ref b2), .val (.int (5 : Int32)), .unset, .unset, .unset, .unset] [(.int (5 : Int32)), (.int (5 : Int32))])
  refine own_by (fun t k => XS.icmpYes X33.here hx rfl (pc0 := 16) (pc' := 36) rfl (hb hby d8_16) rfl (flt (by decide)).2.1 (by decide) (by decide) k) ?_
  show ORun p e below s _ _ _ T33 (mkF m 36 #[.val (.ref a1), .val (.ref b2), .val (.int (5 : Int32)), .unset, .unset, .unset, .unset] [])
  have VS : OVec Z h31 b2 .int (own_S L) := by have z := V31; rw [hS32] at z; exact z
  have lenS : (own_S L).length = 5 := own_szlen L 5
  clear r5 a6a r6 r11 a12a r12 r17 a18a r18 r23 a24a r24 r29 a30a r30 hyb4 hyb10 hyb16 hyb22 hyb28
  have SdS := ((own_staK ((own_staK ((own_staK ((own_staK ((own_staK (Sd.ext E2) K4 (nsS (own_nsV (V_pa.ext E2)) ns0)).wr W7) K10 (nsS (own_nsV (Vq4.other W7 ne_pa_b2)) ns0)).wr W13) K16 (nsS (own_nsV (Vq10.other W13 ne_pa_b2)) ns0)).wr W19) K22 (nsS (own_nsV (Vq16.other W19 ne_pa_b2)) ns0)).wr W25) K28 (nsS (own_nsV (Vq22.other W25 ne_pa_b2)) ns0)).wr W31)
  have Kz34 : Keep h0 h31 [pa] := ((((((((((((Keep.refl h0 [pa]).ext E2).trans K4 (allS (Or.inl (List.mem_of_getElem? (i := 0) rfl)) all0)).wr W7 (Or.inr sz_b2)).trans K10 (allS (Or.inl (List.mem_of_getElem? (i := 0) rfl)) all0)).wr W13 (Or.inr sz_b2)).trans K16 (allS (Or.inl (List.mem_of_getElem? (i := 0) rfl)) all0)).wr W19 (Or.inr sz_b2)).trans K22 (allS (Or.inl (List.mem_of_getElem? (i := 0) rfl)) all0)).wr W25 (Or.inr sz_b2)).trans K28 (allS (Or.inl (List.mem_of_getElem? (i := 0) rfl)) all0)).wr W31 (Or.inr sz_b2))
  have fz34_0 := (((((((((((E_a1.ext E2).keep K4).wr W7).keep K10).wr W13).keep K16).wr W19).keep K22).wr W25).keep K28).wr W31)
  have fz34_1 := (((((((((((F_a1.ext E2).keep K4 (ninS nep nin0)).other W7 (Or.inl ne_a1_b2)).keep K10 (ninS nep nin0)).other W13 (Or.inl ne_a1_b2)).keep K16 (ninS nep nin0)).other W19 (Or.inl ne_a1_b2)).keep K22 (ninS nep nin0)).other W25 (Or.inl ne_a1_b2)).keep K28 (ninS nep nin0)).other W31 (Or.inl ne_a1_b2))
  have fz34_2 := (Vq28.other W31 ne_pa_b2)
  have fz34_3 := (((((((((((Vd.ext E2).keep K4 (ninS nedp nin0)).other W7 ne_de_b2).keep K10 (ninS nedp nin0)).other W13 ne_de_b2).keep K16 (ninS nedp nin0)).other W19 ne_de_b2).keep K22 (ninS nedp nin0)).other W25 ne_de_b2).keep K28 (ninS nedp nin0)).other W31 ne_de_b2)
  have fz34_5 := ((((((((((Ex2.keep K4).wr W7).keep K10).wr W13).keep K16).wr W19).keep K22).wr W25).keep K28).wr W31)
  obtain ⟨T35, h35, X35, e35, E35, A35, D35, -, st35⟩ := newO X33 hx hZ hown (hw _ (List.mem_of_getElem? (i := 37) rfl)) (hw _ (List.mem_of_getElem? (i := 38) rfl)) (hw _ (List.mem_of_getElem? (i := 39) rfl)) e33 (g := (mkF m 36 #[.val (.ref a1), .val (.ref b2), .val (.int (5 : Int32)), .unset, .unset, .unset, .unset] [])) rfl (hb hby d8_36) (by decide) (by decide)
  obtain ⟨b35, g35⟩ : ∃ z, z = h31.size := ⟨_, rfl⟩
  rw [← g35] at A35 D35 st35
  have old_b35 : n0 ≤ b35 := Nat.le_trans (Nat.le_trans Z0 Kz34.1) (Nat.le_of_eq g35.symm)
  have sz_b35 : h0.size ≤ b35 := Nat.le_trans (Nat.le_trans (Nat.le_refl h0.size) Kz34.1) (Nat.le_of_eq g35.symm)
  have ne_a1_b35 : a1 ≠ b35 := Nat.ne_of_lt (Nat.lt_of_lt_of_le fz34_0.lt (Nat.le_of_eq g35.symm))
  have ne_pa_b35 : pa ≠ b35 := Nat.ne_of_lt (Nat.lt_of_lt_of_le fz34_2.lt (Nat.le_of_eq g35.symm))
  have ne_de_b35 : de ≠ b35 := Nat.ne_of_lt (Nat.lt_of_lt_of_le fz34_3.lt (Nat.le_of_eq g35.symm))
  have ne_b2_b35 : b2 ≠ b35 := Nat.ne_of_lt (Nat.lt_of_lt_of_le VS.lt (Nat.le_of_eq g35.symm))
  have F35_57 : Fld Z h35 b35 "java/util/AbstractList" "modCount" "I" (.int (0 : Int32)) := D35 (Or.inl (hw _ (List.mem_of_getElem? (i := 57) rfl))) (ty := .int) (by decide)
  have F35_60 : Fld Z h35 b35 "java/util/ArrayList" "elementData" "[Ljava/lang/Object;" .null := D35 (Or.inl (hw _ (List.mem_of_getElem? (i := 60) rfl))) (ty := (.array (.object "java/lang/Object"))) (by decide)
  have F35_76 : Fld Z h35 b35 "java/util/ArrayList" "size" "I" (.int (0 : Int32)) := D35 (Or.inl (hw _ (List.mem_of_getElem? (i := 76) rfl))) (ty := .int) (by decide)
  refine own_by st35 ?_
  show ORun p e below s _ _ _ T35 (mkF m 39 #[.val (.ref a1), .val (.ref b2), .val (.int (5 : Int32)), .unset, .unset, .unset, .unset] [(.ref b35)])
  refine own_by (fun t k => XS.dup X35.here hx rfl (hb hby d8_39) rfl rfl k) ?_
  show ORun p e below s _ _ _ T35 (mkF m 40 #[.val (.ref a1), .val (.ref b2), .val (.int (5 : Int32)), .unset, .unset, .unset, .unset] [(.ref b35), (.ref b35)])
  refine own_callC X35 hx hZ hown rfl (hw _ (List.mem_of_getElem? (i := 40) rfl)) (hw _ (List.mem_of_getElem? (i := 41) rfl)) (hw _ (List.mem_of_getElem? (i := 39) rfl)) (hw _ (List.mem_of_getElem? (i := 42) rfl)) (by decide) (rm9 l Z a0 hw [] h35 n0 (Nat.le_trans (Nat.le_trans Z0 Kz34.1) E35.1) b35 de (SdS.ext E35) A35 old_b35 F35_60 F35_76 F35_57) e35 (by decide) (W := 1) (by decide) (by decide) (by decide) (b := b35) (argsL := []) (rest := [(.ref b35)]) (by rw [hml]; rfl) (lenOf pd_4 rfl) rfl rfl (Nat.le_of_eq rfl) (hb hby d8_40) ?_
  intro T36 L36 u36 X36 hQ36
  obtain ⟨rfl, Nq36, K36, En36, Fe36, Fs36, Fm36⟩ := hQ36
  have N36 := Fr.app N31 Nq36
  show ORun p e below s _ _ _ T36 (mkF m 43 #[.val (.ref a1), .val (.ref b2), .val (.int (5 : Int32)), .unset, .unset, .unset, .unset] [(.ref b35)])
  refine own_by (fun t k => XS.astoreN X36.here hx rfl (hb hby d8_43) rfl rfl (l' := #[.val (.ref a1), .val (.ref b2), .val (.ref b35), .unset, .unset, .unset, .unset]) rfl k) ?_
  show ORun p e below s _ _ _ T36 (mkF m 44 #[.val (.ref a1), .val (.ref b2), .val (.ref b35), .unset, .unset, .unset, .unset] [])
  refine own_by (fun t k => XS.aloadN X36.here hx rfl (hb hby d8_44) rfl rfl k) ?_
  show ORun p e below s _ _ _ T36 (mkF m 45 #[.val (.ref a1), .val (.ref b2), .val (.ref b35), .unset, .unset, .unset, .unset] [(.ref a1)])
  obtain ⟨T37, X37, e37, st37⟩ := getF X36 hx hZ hown (host := "") (Or.inl (hw _ (List.mem_of_getElem? (i := 10) rfl))) Via.refl rfl ((fz34_1.ext E35).keep K36 (ninS ne_a1_b35 nin0)) (g := (mkF m 45 #[.val (.ref a1), .val (.ref b2), .val (.ref b35), .unset, .unset, .unset, .unset] [(.ref a1)])) rfl rfl (hb hby d8_45)
  refine own_by st37 ?_
  show ORun p e below s _ _ _ T37 (mkF m 48 #[.val (.ref a1), .val (.ref b2), .val (.ref b35), .unset, .unset, .unset, .unset] [(.ref pa)])
  refine own_len X37 hx hZ e37 ((fz34_2.ext E35).keep K36 (ninS ne_pa_b35 nin0)) (n := 5) hP28 (hb hby d8_48) ?_
  show ORun p e below s _ _ _ T37 (mkF m 49 #[.val (.ref a1), .val (.ref b2), .val (.ref b35), .unset, .unset, .unset, .unset] [(.int (5 : Int32))])
  refine own_newA X37 hx hZ hown (hw _ (List.mem_of_getElem? (i := 61) rfl)) (hw _ (List.mem_of_getElem? (i := 62) rfl)) e37 (N := 5) (cap := 5) (by decide) (Nat.le_refl _) (by decide) (by decide) (by decide) (hb hby d8_49) ?_
  intro T38 h38 b38 g38 X38 e38 E38 V38
  have old_b38 : n0 ≤ b38 := Nat.le_trans (Nat.le_trans (Nat.le_trans (Nat.le_trans Z0 Kz34.1) E35.1) K36.1) (Nat.le_of_eq g38.symm)
  have sz_b38 : h0.size ≤ b38 := Nat.le_trans (Nat.le_trans (Nat.le_trans (Nat.le_trans (Nat.le_refl h0.size) Kz34.1) E35.1) K36.1) (Nat.le_of_eq g38.symm)
  have ne_a1_b38 : a1 ≠ b38 := Nat.ne_of_lt (Nat.lt_of_lt_of_le ((fz34_0.ext E35).keep K36).lt (Nat.le_of_eq g38.symm))
  have ne_pa_b38 : pa ≠ b38 := Nat.ne_of_lt (Nat.lt_of_lt_of_le ((fz34_2.ext E35).keep K36 (ninS ne_pa_b35 nin0)).lt (Nat.le_of_eq g38.symm))
  have ne_de_b38 : de ≠ b38 := Nat.ne_of_lt (Nat.lt_of_lt_of_le ((fz34_3.ext E35).keep K36 (ninS ne_de_b35 nin0)).lt (Nat.le_of_eq g38.symm))
  have ne_b2_b38 : b2 ≠ b38 := Nat.ne_of_lt (Nat.lt_of_lt_of_le ((VS.ext E35).keep K36 (ninS ne_b2_b35 nin0)).lt (Nat.le_of_eq g38.symm))
  have ne_b35_b38 : b35 ≠ b38 := Nat.ne_of_lt (Nat.lt_of_lt_of_le En36.lt (Nat.le_of_eq g38.symm))
  show ORun p e below s _ _ _ T38 (mkF m 52 #[.val (.ref a1), .val (.ref b2), .val (.ref b35), .unset, .unset, .unset, .unset] [(.ref b38)])
  refine own_by (fun t k => XS.astoreN X38.here hx rfl (hb hby d8_52) rfl rfl (l' := #[.val (.ref a1), .val (.ref b2), .val (.ref b35), .val (.ref b38), .unset, .unset, .unset]) rfl k) ?_
  show ORun p e below s _ _ _ T38 (mkF m 53 #[.val (.ref a1), .val (.ref b2), .val (.ref b35), .val (.ref b38), .unset, .unset, .unset] [])
  refine own_by (fun t k => XS.aloadN X38.here hx rfl (hb hby d8_53) rfl rfl k) ?_
  show ORun p e below s _ _ _ T38 (mkF m 54 #[.val (.ref a1), .val (.ref b2), .val (.ref b35), .val (.ref b38), .unset, .unset, .unset] [(.ref a1)])
  obtain ⟨T39, X39, e39, st39⟩ := getF X38 hx hZ hown (host := "") (Or.inl (hw _ (List.mem_of_getElem? (i := 10) rfl))) Via.refl e38 (((fz34_1.ext E35).keep K36 (ninS ne_a1_b35 nin0)).ext E38) (g := (mkF m 54 #[.val (.ref a1), .val (.ref b2), .val (.ref b35), .val (.ref b38), .unset, .unset, .unset] [(.ref a1)])) rfl rfl (hb hby d8_54)
  refine own_by st39 ?_
  show ORun p e below s _ _ _ T39 (mkF m 57 #[.val (.ref a1), .val (.ref b2), .val (.ref b35), .val (.ref b38), .unset, .unset, .unset] [(.ref pa)])
  refine own_len X39 hx hZ e39 (((fz34_2.ext E35).keep K36 (ninS ne_pa_b35 nin0)).ext E38) (n := 5) hP28 (hb hby d8_57) ?_
  show ORun p e below s _ _ _ T39 (mkF m 58 #[.val (.ref a1), .val (.ref b2), .val (.ref b35), .val (.ref b38), .unset, .unset, .unset] [(.int (5 : Int32))])
  refine own_newarray X39 hx hZ (aty := .int) (hw _ (List.mem_of_getElem? (i := 9) rfl)) e39 rfl (N := 5) (cap := 5) (by decide) (Nat.le_refl _) (by decide) (by decide) (by decide) (ad := "[I") (by decide) (hb hby d8_58) ?_
  intro T40 h40 b40 L40 g40 X40 e40 E40 hL40 V40 Ex40
  have len40 : L40.length = 5 := by rw [hL40]; exact List.length_replicate
  have old_b40 : n0 ≤ b40 := Nat.le_trans (Nat.le_trans (Nat.le_trans (Nat.le_trans (Nat.le_trans Z0 Kz34.1) E35.1) K36.1) E38.1) (Nat.le_of_eq g40.symm)
  have sz_b40 : h0.size ≤ b40 := Nat.le_trans (Nat.le_trans (Nat.le_trans (Nat.le_trans (Nat.le_trans (Nat.le_refl h0.size) Kz34.1) E35.1) K36.1) E38.1) (Nat.le_of_eq g40.symm)
  have ne_a1_b40 : a1 ≠ b40 := Nat.ne_of_lt (Nat.lt_of_lt_of_le (((fz34_0.ext E35).keep K36).ext E38).lt (Nat.le_of_eq g40.symm))
  have ne_pa_b40 : pa ≠ b40 := Nat.ne_of_lt (Nat.lt_of_lt_of_le (((fz34_2.ext E35).keep K36 (ninS ne_pa_b35 nin0)).ext E38).lt (Nat.le_of_eq g40.symm))
  have ne_de_b40 : de ≠ b40 := Nat.ne_of_lt (Nat.lt_of_lt_of_le (((fz34_3.ext E35).keep K36 (ninS ne_de_b35 nin0)).ext E38).lt (Nat.le_of_eq g40.symm))
  have ne_b2_b40 : b2 ≠ b40 := Nat.ne_of_lt (Nat.lt_of_lt_of_le (((VS.ext E35).keep K36 (ninS ne_b2_b35 nin0)).ext E38).lt (Nat.le_of_eq g40.symm))
  have ne_b35_b40 : b35 ≠ b40 := Nat.ne_of_lt (Nat.lt_of_lt_of_le (En36.ext E38).lt (Nat.le_of_eq g40.symm))
  have ne_b38_b40 : b38 ≠ b40 := Nat.ne_of_lt (Nat.lt_of_lt_of_le V38.lt (Nat.le_of_eq g40.symm))
  show ORun p e below s _ _ _ T40 (mkF m 60 #[.val (.ref a1), .val (.ref b2), .val (.ref b35), .val (.ref b38), .unset, .unset, .unset] [(.ref b40)])
  refine own_by (fun t k => XS.astore X40.here hx rfl (hb hby d8_60) rfl rfl (l' := #[.val (.ref a1), .val (.ref b2), .val (.ref b35), .val (.ref b38), .val (.ref b40), .unset, .unset]) rfl k) ?_
  show ORun p e below s _ _ _ T40 (mkF m 62 #[.val (.ref a1), .val (.ref b2), .val (.ref b35), .val (.ref b38), .val (.ref b40), .unset, .unset] [])
  refine own_by (fun t k => XS.iconst X40.here hx rfl (hb hby d8_62) k) ?_
  show ORun p e below s _ _ _ T40 (mkF m 63 #[.val (.ref a1), .val (.ref b2), .val (.ref b35), .val (.ref b38), .val (.ref b40), .unset, .unset] [(.int (0 : Int32))])
  refine own_by (fun t k => XS.istore X40.here hx rfl (hb hby d8_63) rfl (l' := #[.val (.ref a1), .val (.ref b2), .val (.ref b35), .val (.ref b38), .val (.ref b40), .val (.int (0 : Int32)), .unset]) rfl k) ?_
  show ORun p e below s _ _ _ T40 (mkF m 65 #[.val (.ref a1), .val (.ref b2), .val (.ref b35), .val (.ref b38), .val (.ref b40), .val (.int (0 : Int32)), .unset] [])
  have Vp0 : OVec Z h40 b40 .int (own_pl L 0) := by have z := V40; rw [hL40] at z; exact z
  have LP2 : ∀ (kk : Nat) (Tl : State) (hl : Heap) (lo : List Loc) (dv : Int32) (s6 : Slot) (d : Nat) (P1 : List Int32) (mcx : Int32) (ed gA : Addr) (q0 : Nat) (m0 : List Int32) (gB : Addr) (q1 : Nat) (m1 : List Int32), (5 - d = kk) → (s6 = .unset ∨ ∃ w, s6 = .val w ∧ w.category = 1) → (dv.toInt = d) → (d ≤ 5) → (Stand p l e ({ frames := 5, cells := 8, slots := 60, locals := 160 } : Room) s m #[(.ref a1)] below meth c Tl lo 8 48) → (Tl.heap = hl) → (Fr n0 lo) → (Keep h0 hl [pa]) → (OVec Z hl pa .int P1) → (P1.length = 5) → (InvR P1 L r) → (Exa Z hl a1 "com/example/kembar/kembar/cluster/Clusters") → (Fld Z hl a1 "com/example/kembar/kembar/cluster/Clusters" "parents" "[I" (.ref pa)) → (OVec Z hl b2 .int (own_S L)) → (Exa Z hl b35 "java/util/ArrayList") → (Fld Z hl b35 "java/util/ArrayList" "elementData" "[Ljava/lang/Object;" (.ref ed)) → (Fld Z hl b35 "java/util/ArrayList" "size" "I" (.int 2)) → (Fld Z hl b35 "java/util/AbstractList" "modCount" "I" (.int mcx)) → (OVecA Z hl b38 (((List.replicate 5 Value.null).set q0 (.ref gA)).set q1 (.ref gB))) → (OVec Z hl b40 .int (own_pl L d)) → (own_gr L d = [(q0, m0), (q1, m1)]) → (OVecR Z hl ed "java/lang/Object" [.ref gA, .ref gB, .null, .null, .null, .null, .null, .null, .null, .null]) → (OVec Z hl gA .int (m0 ++ List.replicate (((own_S L).getD q0 0).toInt.toNat - m0.length) 0)) → (Exa Z hl gA "[I") → (h0.size ≤ ed) → (h0.size ≤ gA) → (q0 < 5) → (OVec Z hl gB .int (m1 ++ List.replicate (((own_S L).getD q1 0).toInt.toNat - m1.length) 0)) → (Exa Z hl gB "[I") → (h0.size ≤ gB) → (q1 < 5) → (q0 ≠ q1) → (gA ≠ a1) → (gA ≠ pa) → (gA ≠ b2) → (gA ≠ b35) → (gA ≠ b38) → (gA ≠ b40) → (ed ≠ a1) → (ed ≠ pa) → (ed ≠ b2) → (ed ≠ b35) → (ed ≠ b38) → (ed ≠ b40) → (ed ≠ gA) → (gB ≠ a1) → (gB ≠ pa) → (gB ≠ b2) → (gB ≠ b35) → (gB ≠ b38) → (gB ≠ b40) → (gB ≠ ed) → (gB ≠ gA) → ORun p e below s (fun v h L' => ∃ al : Addr, v = some (.ref al) ∧ Fr n0 L' ∧ Keep h0 h [pa] ∧ h0.size ≤ al ∧ Exa Z h al "java/util/ArrayList" ∧ ((own_gr L 5 = [] ∧ Fld Z h al "java/util/ArrayList" "size" "I" (.int 0)) ∨ (∃ (ed gA : Addr) (q0 : Nat) (m0 : List Int32), own_gr L 5 = [(q0, m0)] ∧ Fld Z h al "java/util/ArrayList" "size" "I" (.int 1) ∧ Fld Z h al "java/util/ArrayList" "elementData" "[Ljava/lang/Object;" (.ref ed) ∧ OVecR Z h ed "java/lang/Object" [.ref gA, .null, .null, .null, .null, .null, .null, .null, .null, .null] ∧ OVec Z h gA .int m0 ∧ Exa Z h gA "[I") ∨ (∃ (ed gA gB : Addr) (q0 q1 : Nat) (m0 m1 : List Int32), own_gr L 5 = [(q0, m0), (q1, m1)] ∧ Fld Z h al "java/util/ArrayList" "size" "I" (.int 2) ∧ Fld Z h al "java/util/ArrayList" "elementData" "[Ljava/lang/Object;" (.ref ed) ∧ OVecR Z h ed "java/lang/Object" [.ref gA, .ref gB, .null, .null, .null, .null, .null, .null, .null, .null] ∧ OVec Z h gA .int m0 ∧ Exa Z h gA "[I" ∧ OVec Z h gB .int m1 ∧ Exa Z h gB "[I"))) ({ frames := 5, cells := 8, slots := 60, locals := 160 } : Room).cells ({ frames := 5, cells := 8, slots := 60, locals := 160 } : Room).slots Tl (mkF m 65 #[.val (.ref a1), .val (.ref b2), .val (.ref b35), .val (.ref b38), .val (.ref b40), .val (.int dv), s6] []) := by
    intro kk
    induction kk using Nat.strongRecOn with
    | _ kk ih =>
      intro Tl hl lo dv s6 d P1 mcx ed gA q0 m0 gB q1 m1 hk hs6 hdv hd5 Xl el Nl Kl VP hP1 I1 E1 F1 VSl Enl Fel Fsl Fml VM VPl hgr Vel VA EA sze szA hq0 VB EB szB hq1 hq01 ne_gA_a1 ne_gA_pa ne_gA_b2 ne_gA_b35 ne_gA_b38 ne_gA_b40 ne_ed_a1 ne_ed_pa ne_ed_b2 ne_ed_b35 ne_ed_b38 ne_ed_b40 ne_ed_gA ne_gB_a1 ne_gB_pa ne_gB_b2 ne_gB_b35 ne_gB_b38 ne_gB_b40 ne_gB_ed ne_gB_gA
      have lenp : (own_pl L d).length = 5 := own_pllen L d
      show ORun p e below s _ _ _ Tl (mkF m 65 #[.val (.ref a1), .val (.ref b2), .val (.ref b35), .val (.ref b38), .val (.ref b40), .val (.int dv), s6] [])
      refine own_by (fun t k => XS.iload Xl.here hx rfl (hb hby d8_65) rfl k) ?_
      show ORun p e below s _ _ _ Tl (mkF m 67 #[.val (.ref a1), .val (.ref b2), .val (.ref b35), .val (.ref b38), .val (.ref b40), .val (.int dv), s6] [(.int dv)])
      refine own_by (fun t k => XS.aloadN Xl.here hx rfl (hb hby d8_67) rfl rfl k) ?_
      show ORun p e below s _ _ _ Tl (mkF m 68 #[.val (.ref a1), .val (.ref b2), .val (.ref b35), .val (.ref b38), .val (.ref b40), .val (.int dv), s6] [(.ref a1), (.int dv)])
      obtain ⟨T41, X41, e41, st41⟩ := getF Xl hx hZ hown (host := "") (Or.inl (hw _ (List.mem_of_getElem? (i := 10) rfl))) Via.refl el F1 (g := (mkF m 68 #[.val (.ref a1), .val (.ref b2), .val (.ref b35), .val (.ref b38), .val (.ref b40), .val (.int dv), s6] [(.ref a1), (.int dv)])) rfl rfl (hb hby d8_68)
      refine own_by st41 ?_
      show ORun p e below s _ _ _ T41 (mkF m 71 #[.val (.ref a1), .val (.ref b2), .val (.ref b35), .val (.ref b38), .val (.ref b40), .val (.int dv), s6] [(.ref pa), (.int dv)])
      refine own_len X41 hx hZ e41 VP (n := 5) hP1 (hb hby d8_71) ?_
      show ORun p e below s _ _ _ T41 (mkF m 72 #[.val (.ref a1), .val (.ref b2), .val (.ref b35), .val (.ref b38), .val (.ref b40), .val (.int dv), s6] [(.int (5 : Int32)), (.int dv)])
      by_cases hc42 : dv < (5 : Int32)
      · have t42 := own_lt hc42 (a := dv.toInt) (b := 5) rfl (by decide)
        refine own_by (fun t k => XS.icmpNo X41.here hx rfl (hb hby d8_72) rfl (tlt hc42).2.1 k) ?_
        show ORun p e below s _ _ _ T41 (mkF m 75 #[.val (.ref a1), .val (.ref b2), .val (.ref b35), .val (.ref b38), .val (.ref b40), .val (.int dv), s6] [])
        refine own_by (fun t k => XS.aloadN X41.here hx rfl (hb hby d8_75) rfl rfl k) ?_
        show ORun p e below s _ _ _ T41 (mkF m 76 #[.val (.ref a1), .val (.ref b2), .val (.ref b35), .val (.ref b38), .val (.ref b40), .val (.int dv), s6] [(.ref a1)])
        refine own_by (fun t k => XS.iload X41.here hx rfl (hb hby d8_76) rfl k) ?_
        show ORun p e below s _ _ _ T41 (mkF m 78 #[.val (.ref a1), .val (.ref b2), .val (.ref b35), .val (.ref b38), .val (.ref b40), .val (.int dv), s6] [(.int dv), (.ref a1)])
        refine own_callP X41 hx hZ hown E1 (hw _ (List.mem_of_getElem? (i := 22) rfl)) (hw _ (List.mem_of_getElem? (i := 23) rfl)) (own_selP (x := ({ cls := "com/example/kembar/kembar/cluster/Clusters", name := "join", desc := "(II)V" } : Jvm.MethodName)) rfl (hw _ (List.mem_of_getElem? (i := 20) rfl)) (hw _ (List.mem_of_getElem? (i := 24) rfl)) (hw _ (List.mem_of_getElem? (i := 23) rfl)) (by decide)) (hw _ (List.mem_of_getElem? (i := 24) rfl)) (hw _ (List.mem_of_getElem? (i := 2) rfl)) (hw _ (List.mem_of_getElem? (i := 25) rfl)) (by decide) (rm5 l Z a0 hw [] hl n0 (Nat.le_trans Z0 Kl.1) a1 pa dv P1 L r E1 F1 VP hP1 gp nep I1 (by omega)) e41 (by decide) (W := 0) (by decide) (by decide) (by decide) (argsL := [(.int dv)]) (rest := []) (by rw [hml]; rfl) (lenOf pd_1 rfl) rfl rfl (Nat.le_of_eq rfl) (hb hby d8_78) ?_
        intro T43 L43 u43 X43 hQ43
        obtain ⟨P43, rfl, Nq43, K43, Vq43, hP43, I43⟩ := hQ43
        refine own_letI (f := fun z => (mkF m 81 #[.val (.ref a1), .val (.ref b2), .val (.ref b35), .val (.ref b38), .val (.ref b40), .val (.int dv), s6] [(.int z)])) ((L : List Int32).getD (dv).toInt.toNat 0) fun y43 hy43 => ?_
        have N43 := Fr.app Nl Nq43
        have hyb43 : 0 ≤ y43.toInt ∧ y43.toInt < 5 := by rw [hy43]; exact (I43 dv.toInt.toNat (by omega)).2.1
        show ORun p e below s _ _ _ T43 (mkF m 81 #[.val (.ref a1), .val (.ref b2), .val (.ref b35), .val (.ref b38), .val (.ref b40), .val (.int dv), s6] [(.int y43)])
        refine own_by (fun t k => XS.istore X43.here hx rfl (hb hby d8_81) rfl (l' := #[.val (.ref a1), .val (.ref b2), .val (.ref b35), .val (.ref b38), .val (.ref b40), .val (.int dv), .val (.int y43)]) (XS.store1 rfl hs6 rfl) k) ?_
        show ORun p e below s _ _ _ T43 (mkF m 83 #[.val (.ref a1), .val (.ref b2), .val (.ref b35), .val (.ref b38), .val (.ref b40), .val (.int dv), .val (.int y43)] [])
        have hdt : dv.toInt.toNat = d := by omega
        rw [hdt] at hy43
        obtain ⟨q, eq⟩ : ∃ z, z = own_g L d := ⟨_, rfl⟩
        have ey : y43.toInt.toNat = q := by rw [hy43, eq]; rfl
        have hq5 : q < 5 := by omega
        have eyq : y43.toInt = (q : Int) := by omega
        refine own_by (fun t k => XS.aloadN X43.here hx rfl (hb hby d8_83) rfl rfl k) ?_
        show ORun p e below s _ _ _ T43 (mkF m 84 #[.val (.ref a1), .val (.ref b2), .val (.ref b35), .val (.ref b38), .val (.ref b40), .val (.int dv), .val (.int y43)] [(.ref b2)])
        refine own_by (fun t k => XS.iload X43.here hx rfl (hb hby d8_84) rfl k) ?_
        show ORun p e below s _ _ _ T43 (mkF m 86 #[.val (.ref a1), .val (.ref b2), .val (.ref b35), .val (.ref b38), .val (.ref b40), .val (.int dv), .val (.int y43)] [(.int y43), (.ref b2)])
        refine own_iaload X43 hx hZ rfl (VSl.keep K43 (ninS (Ne.symm ne_pa_b2) nin0)) (i := q) eyq (by omega) (hb hby d8_86) ?_
        intro v44 hv44
        have r44 := rng32 v44
        show ORun p e below s _ _ _ T43 (mkF m 87 #[.val (.ref a1), .val (.ref b2), .val (.ref b35), .val (.ref b38), .val (.ref b40), .val (.int dv), .val (.int y43)] [(.int v44)])
        refine own_by (fun t k => XS.iconst X43.here hx rfl (hb hby d8_87) k) ?_
        show ORun p e below s _ _ _ T43 (mkF m 88 #[.val (.ref a1), .val (.ref b2), .val (.ref b35), .val (.ref b38), .val (.ref b40), .val (.int dv), .val (.int y43)] [(.int (2 : Int32)), (.int v44)])
        by_cases hc45 : v44 < (2 : Int32)
        · have t45 := own_lt hc45 (a := v44.toInt) (b := 2) rfl (by decide)
          refine own_by (fun t k => XS.icmpNo X43.here hx rfl (hb hby d8_88) rfl (tlt hc45).2.1 k) ?_
          show ORun p e below s _ _ _ T43 (mkF m 91 #[.val (.ref a1), .val (.ref b2), .val (.ref b35), .val (.ref b38), .val (.ref b40), .val (.int dv), .val (.int y43)] [])
          have hlt : ((own_S L).getD (own_g L d) 0).toInt < 2 := by rw [← eq, ← hv44]; omega
          have hgr2 : own_gr L (d + 1) = [(q0, m0), (q1, m1)] := by rw [← hgr]; exact if_pos hlt
          have hpl2 : own_pl L (d + 1) = own_pl L d := if_pos hlt
          refine own_by (fun t k => XS.goto X43.here hx rfl (pc0 := 91) (pc' := 143) rfl (hb hby d8_91) (by decide) (by decide) k) ?_
          show ORun p e below s _ _ _ T43 (mkF m 143 #[.val (.ref a1), .val (.ref b2), .val (.ref b35), .val (.ref b38), .val (.ref b40), .val (.int dv), .val (.int y43)] [])
          have hd6 : d + 1 ≤ 5 := by omega
          refine own_by (fun t k => XS.iinc X43.here hx rfl (hb hby d8_143) rfl (l' := #[.val (.ref a1), .val (.ref b2), .val (.ref b35), .val (.ref b38), .val (.ref b40), .val (.int (dv + (1 : Int32))), .val (.int y43)]) rfl k) (own_letI (f := (fun z => (mkF m 146 #[.val (.ref a1), .val (.ref b2), .val (.ref b35), .val (.ref b38), .val (.ref b40), .val (.int z), .val (.int y43)] []))) (dv + (1 : Int32)) fun v46 hv46 => ?_)
          show ORun p e below s _ _ _ T43 (mkF m 146 #[.val (.ref a1), .val (.ref b2), .val (.ref b35), .val (.ref b38), .val (.ref b40), .val (.int v46), .val (.int y43)] [])
          have r46 := rng32 v46
          have a46 : v46.toInt = dv.toInt + 1 := by have q : (v46.toInt - (dv.toInt + 1)) % 4294967296 = 0 := (by rw [hv46]; exact c_iadd dv (1 : Int32)); omega
          have hdn : v46.toInt = ((d + 1 : Nat) : Int) := by omega
          refine own_by (fun t k => XS.goto X43.here hx rfl (pc0 := 146) (pc' := 65) rfl (hb hby d8_146) (by decide) (by decide) k) ?_
          show ORun p e below s _ _ _ T43 (mkF m 65 #[.val (.ref a1), .val (.ref b2), .val (.ref b35), .val (.ref b38), .val (.ref b40), .val (.int v46), .val (.int y43)] [])
          exact ih _ (by omega) T43 T43.heap _ v46 (.val (.int y43)) (d + 1) P43 mcx ed gA q0 m0 gB q1 m1 rfl (Or.inr ⟨_, rfl, rfl⟩) hdn hd6 X43 rfl N43 (((Keep.refl h0 [pa]).trans Kl (allS (Or.inl (List.mem_of_getElem? (i := 0) rfl)) all0)).trans K43 (allS (Or.inl (List.mem_of_getElem? (i := 0) rfl)) all0)) Vq43 hP43 I43 (E1.keep K43) (F1.keep K43 (ninS nep nin0)) (VSl.keep K43 (ninS (Ne.symm ne_pa_b2) nin0)) (Enl.keep K43) (Fel.keep K43 (ninS (Ne.symm ne_pa_b35) nin0)) (Fsl.keep K43 (ninS (Ne.symm ne_pa_b35) nin0)) (Fml.keep K43 (ninS (Ne.symm ne_pa_b35) nin0)) (VM.keep K43 (ninS (Ne.symm ne_pa_b38) nin0)) (by rw [hpl2]; exact (VPl.keep K43 (ninS (Ne.symm ne_pa_b40) nin0))) hgr2 (Vel.keep K43 (ninS ne_ed_pa nin0)) (VA.keep K43 (ninS ne_gA_pa nin0)) (EA.keep K43) sze szA hq0 (VB.keep K43 (ninS ne_gB_pa nin0)) (EB.keep K43) szB hq1 hq01 ne_gA_a1 ne_gA_pa ne_gA_b2 ne_gA_b35 ne_gA_b38 ne_gA_b40 ne_ed_a1 ne_ed_pa ne_ed_b2 ne_ed_b35 ne_ed_b38 ne_ed_b40 ne_ed_gA ne_gB_a1 ne_gB_pa ne_gB_b2 ne_gB_b35 ne_gB_b38 ne_gB_b40 ne_gB_ed ne_gB_gA
        · have t45 := own_nlt hc45 (a := v44.toInt) (b := 2) rfl (by decide)
          refine own_by (fun t k => XS.icmpYes X43.here hx rfl (pc0 := 88) (pc' := 94) rfl (hb hby d8_88) rfl (flt hc45).2.1 (by decide) (by decide) k) ?_
          show ORun p e below s _ _ _ T43 (mkF m 94 #[.val (.ref a1), .val (.ref b2), .val (.ref b35), .val (.ref b38), .val (.ref b40), .val (.int dv), .val (.int y43)] [])
          have hge : 2 ≤ ((own_S L).getD q 0).toInt := by rw [← hv44]; omega
          obtain ⟨t1, t2, t3, t4, t5⟩ := ht d (by omega) (by rw [← eq]; exact hge)
          have hnlt : ¬ ((own_S L).getD (own_g L d) 0).toInt < 2 := by rw [← eq]; omega
          have hgr2 : own_gr L (d + 1) = own_add (own_g L d) (Int32.ofNat d) (own_gr L d) := if_neg hnlt
          have hpl2 : own_pl L (d + 1) = (own_pl L d).set (own_g L d) ((own_pl L d).getD (own_g L d) 0 + 1) := if_neg hnlt
          rw [← eq] at t1 t2 t3 hgr2 hpl2
          rw [hgr] at t2 t3 hgr2
          have edv : dv = Int32.ofNat d := Int32.toInt_inj.mp (by rw [hdv, Int32.toInt_ofNat_of_lt (by omega)])
          by_cases n0q : q0 = q
          · subst n0q
            have em : own_mem q0 [(q0, m0), (q1, m1)] = m0 := if_pos rfl
            rw [em] at t2 t3
            have hgr3 : own_gr L (d + 1) = [(q0, m0 ++ [Int32.ofNat d]), (q1, m1)] := by rw [hgr2]; exact if_pos rfl
            have lenG : (m0 ++ List.replicate (((own_S L).getD q0 0).toInt.toNat - m0.length) 0).length = ((own_S L).getD q0 0).toInt.toNat := by rw [List.length_append, List.length_replicate]; omega
            refine own_by (fun t k => XS.aloadN X43.here hx rfl (hb hby d8_94) rfl rfl k) ?_
            show ORun p e below s _ _ _ T43 (mkF m 95 #[.val (.ref a1), .val (.ref b2), .val (.ref b35), .val (.ref b38), .val (.ref b40), .val (.int dv), .val (.int y43)] [(.ref b38)])
            refine own_by (fun t k => XS.iload X43.here hx rfl (hb hby d8_95) rfl k) ?_
            show ORun p e below s _ _ _ T43 (mkF m 97 #[.val (.ref a1), .val (.ref b2), .val (.ref b35), .val (.ref b38), .val (.ref b40), .val (.int dv), .val (.int y43)] [(.int y43), (.ref b38)])
            refine own_aaloadA X43 hx hZ rfl (VM.keep K43 (ninS (Ne.symm ne_pa_b38) nin0)) (i := q0) eyq (v := Value.ref gA) ((own_setO hq01.symm).trans (own_setS (by simpa using hq0))) (hb hby d8_97) ?_
            show ORun p e below s _ _ _ T43 (mkF m 98 #[.val (.ref a1), .val (.ref b2), .val (.ref b35), .val (.ref b38), .val (.ref b40), .val (.int dv), .val (.int y43)] [(.ref gA)])
            refine own_by (fun t k => XS.ifnonnullYes X43.here hx rfl (pc0 := 98) (pc' := 122) rfl (hb hby d8_98) rfl (by decide) (by decide) k) ?_
            show ORun p e below s _ _ _ T43 (mkF m 122 #[.val (.ref a1), .val (.ref b2), .val (.ref b35), .val (.ref b38), .val (.ref b40), .val (.int dv), .val (.int y43)] [])
            refine own_by (fun t k => XS.aloadN X43.here hx rfl (hb hby d8_122) rfl rfl k) ?_
            show ORun p e below s _ _ _ T43 (mkF m 123 #[.val (.ref a1), .val (.ref b2), .val (.ref b35), .val (.ref b38), .val (.ref b40), .val (.int dv), .val (.int y43)] [(.ref b38)])
            refine own_by (fun t k => XS.iload X43.here hx rfl (hb hby d8_123) rfl k) ?_
            show ORun p e below s _ _ _ T43 (mkF m 125 #[.val (.ref a1), .val (.ref b2), .val (.ref b35), .val (.ref b38), .val (.ref b40), .val (.int dv), .val (.int y43)] [(.int y43), (.ref b38)])
            refine own_aaloadA X43 hx hZ rfl (VM.keep K43 (ninS (Ne.symm ne_pa_b38) nin0)) (i := q0) eyq (v := Value.ref gA) ((own_setO hq01.symm).trans (own_setS (by simpa using hq0))) (hb hby d8_125) ?_
            show ORun p e below s _ _ _ T43 (mkF m 126 #[.val (.ref a1), .val (.ref b2), .val (.ref b35), .val (.ref b38), .val (.ref b40), .val (.int dv), .val (.int y43)] [(.ref gA)])
            refine own_by (fun t k => XS.aload X43.here hx rfl (hb hby d8_126) rfl rfl k) ?_
            show ORun p e below s _ _ _ T43 (mkF m 128 #[.val (.ref a1), .val (.ref b2), .val (.ref b35), .val (.ref b38), .val (.ref b40), .val (.int dv), .val (.int y43)] [(.ref b40), (.ref gA)])
            refine own_by (fun t k => XS.iload X43.here hx rfl (hb hby d8_128) rfl k) ?_
            show ORun p e below s _ _ _ T43 (mkF m 130 #[.val (.ref a1), .val (.ref b2), .val (.ref b35), .val (.ref b38), .val (.ref b40), .val (.int dv), .val (.int y43)] [(.int y43), (.ref b40), (.ref gA)])
            refine own_iaload X43 hx hZ rfl (VPl.keep K43 (ninS (Ne.symm ne_pa_b40) nin0)) (i := q0) eyq (by omega) (hb hby d8_130) ?_
            intro v47 hv47
            have r47 := rng32 v47
            show ORun p e below s _ _ _ T43 (mkF m 131 #[.val (.ref a1), .val (.ref b2), .val (.ref b35), .val (.ref b38), .val (.ref b40), .val (.int dv), .val (.int y43)] [(.int v47), (.ref gA)])
            rw [t3] at hv47
            have iv : v47.toInt = (m0.length : Int) := by rw [hv47]; exact Int32.toInt_ofNat_of_lt (by omega)
            refine own_by (fun t k => XS.iload X43.here hx rfl (hb hby d8_131) rfl k) ?_
            show ORun p e below s _ _ _ T43 (mkF m 133 #[.val (.ref a1), .val (.ref b2), .val (.ref b35), .val (.ref b38), .val (.ref b40), .val (.int dv), .val (.int y43)] [(.int dv), (.int v47), (.ref gA)])
            refine own_iastore X43 hx hZ rfl (VA.keep K43 (ninS ne_gA_pa nin0)) (i := m0.length) iv (by rw [lenG]; exact t2) (hb hby d8_133) ?_
            intro T48 h48 L48 X48 e48 W48 hL48 V48
            have len48 : L48.length = ((own_S L).getD q0 0).toInt.toNat := by rw [hL48, List.length_set]; exact lenG
            have N48 := Fr.snoc X48 N43 (Nat.le_trans Z0 szA)
            show ORun p e below s _ _ _ T48 (mkF m 134 #[.val (.ref a1), .val (.ref b2), .val (.ref b35), .val (.ref b38), .val (.ref b40), .val (.int dv), .val (.int y43)] [])
            have hG2 : L48 = ((m0 ++ [Int32.ofNat d]) ++ List.replicate (((own_S L).getD q0 0).toInt.toNat - (m0 ++ [Int32.ofNat d]).length) 0) := by rw [hL48, edv]; exact own_app m0 _ t2
            refine own_by (fun t k => XS.aload X48.here hx rfl (hb hby d8_134) rfl rfl k) ?_
            show ORun p e below s _ _ _ T48 (mkF m 136 #[.val (.ref a1), .val (.ref b2), .val (.ref b35), .val (.ref b38), .val (.ref b40), .val (.int dv), .val (.int y43)] [(.ref b40)])
            refine own_by (fun t k => XS.iload X48.here hx rfl (hb hby d8_136) rfl k) ?_
            show ORun p e below s _ _ _ T48 (mkF m 138 #[.val (.ref a1), .val (.ref b2), .val (.ref b35), .val (.ref b38), .val (.ref b40), .val (.int dv), .val (.int y43)] [(.int y43), (.ref b40)])
            refine own_by (fun t k => XT.dup2 X48.here hx rfl (hb hby d8_138) rfl rfl rfl k) ?_
            show ORun p e below s _ _ _ T48 (mkF m 139 #[.val (.ref a1), .val (.ref b2), .val (.ref b35), .val (.ref b38), .val (.ref b40), .val (.int dv), .val (.int y43)] [(.int y43), (.ref b40), (.int y43), (.ref b40)])
            refine own_iaload X48 hx hZ e48 ((VPl.keep K43 (ninS (Ne.symm ne_pa_b40) nin0)).other W48 (Ne.symm ne_gA_b40)) (i := q0) eyq (by omega) (hb hby d8_139) ?_
            intro v49 hv49
            have r49 := rng32 v49
            show ORun p e below s _ _ _ T48 (mkF m 140 #[.val (.ref a1), .val (.ref b2), .val (.ref b35), .val (.ref b38), .val (.ref b40), .val (.int dv), .val (.int y43)] [(.int v49), (.int y43), (.ref b40)])
            refine own_by (fun t k => XS.iconst X48.here hx rfl (hb hby d8_140) k) ?_
            show ORun p e below s _ _ _ T48 (mkF m 141 #[.val (.ref a1), .val (.ref b2), .val (.ref b35), .val (.ref b38), .val (.ref b40), .val (.int dv), .val (.int y43)] [(.int (1 : Int32)), (.int v49), (.int y43), (.ref b40)])
            refine own_by (fun t k => XS.iadd X48.here hx rfl (hb hby d8_141) rfl k) (own_letI (f := (fun z => (mkF m 142 #[.val (.ref a1), .val (.ref b2), .val (.ref b35), .val (.ref b38), .val (.ref b40), .val (.int dv), .val (.int y43)] [(.int z), (.int y43), (.ref b40)]))) (v49 + (1 : Int32)) fun v50 hv50 => ?_)
            show ORun p e below s _ _ _ T48 (mkF m 142 #[.val (.ref a1), .val (.ref b2), .val (.ref b35), .val (.ref b38), .val (.ref b40), .val (.int dv), .val (.int y43)] [(.int v50), (.int y43), (.ref b40)])
            have a50a : (v50.toInt - (v49.toInt + 1)) % 4294967296 = 0 := by rw [hv50]; exact c_iadd v49 (1 : Int32)
            have r50 := rng32 v50
            refine own_iastore X48 hx hZ e48 ((VPl.keep K43 (ninS (Ne.symm ne_pa_b40) nin0)).other W48 (Ne.symm ne_gA_b40)) (i := q0) eyq (by omega) (hb hby d8_142) ?_
            intro T51 h51 L51 X51 e51 W51 hL51 V51
            have len51 : L51.length = 5 := by rw [hL51, List.length_set]; exact lenp
            have N51 := Fr.snoc X51 N48 old_b40
            show ORun p e below s _ _ _ T51 (mkF m 143 #[.val (.ref a1), .val (.ref b2), .val (.ref b35), .val (.ref b38), .val (.ref b40), .val (.int dv), .val (.int y43)] [])
            have hPl2 : L51 = own_pl L (d + 1) := by rw [hL51, hv50, hv49, hpl2]
            have hd6 : d + 1 ≤ 5 := by omega
            refine own_by (fun t k => XS.iinc X51.here hx rfl (hb hby d8_143) rfl (l' := #[.val (.ref a1), .val (.ref b2), .val (.ref b35), .val (.ref b38), .val (.ref b40), .val (.int (dv + (1 : Int32))), .val (.int y43)]) rfl k) (own_letI (f := (fun z => (mkF m 146 #[.val (.ref a1), .val (.ref b2), .val (.ref b35), .val (.ref b38), .val (.ref b40), .val (.int z), .val (.int y43)] []))) (dv + (1 : Int32)) fun v52 hv52 => ?_)
            show ORun p e below s _ _ _ T51 (mkF m 146 #[.val (.ref a1), .val (.ref b2), .val (.ref b35), .val (.ref b38), .val (.ref b40), .val (.int v52), .val (.int y43)] [])
            have r52 := rng32 v52
            have a52 : v52.toInt = dv.toInt + 1 := by have q : (v52.toInt - (dv.toInt + 1)) % 4294967296 = 0 := (by rw [hv52]; exact c_iadd dv (1 : Int32)); omega
            have hdn : v52.toInt = ((d + 1 : Nat) : Int) := by omega
            refine own_by (fun t k => XS.goto X51.here hx rfl (pc0 := 146) (pc' := 65) rfl (hb hby d8_146) (by decide) (by decide) k) ?_
            show ORun p e below s _ _ _ T51 (mkF m 65 #[.val (.ref a1), .val (.ref b2), .val (.ref b35), .val (.ref b38), .val (.ref b40), .val (.int v52), .val (.int y43)] [])
            exact ih _ (by omega) T51 h51 _ v52 (.val (.int y43)) (d + 1) P43 mcx ed gA q0 (m0 ++ [Int32.ofNat d]) gB q1 m1 rfl (Or.inr ⟨_, rfl, rfl⟩) hdn hd6 X51 e51 N51 (((((Keep.refl h0 [pa]).trans Kl (allS (Or.inl (List.mem_of_getElem? (i := 0) rfl)) all0)).trans K43 (allS (Or.inl (List.mem_of_getElem? (i := 0) rfl)) all0)).wr W48 (Or.inr szA)).wr W51 (Or.inr sz_b40)) ((Vq43.other W48 (Ne.symm ne_gA_pa)).other W51 ne_pa_b40) hP43 I43 (((E1.keep K43).wr W48).wr W51) (((F1.keep K43 (ninS nep nin0)).other W48 (Or.inl (Ne.symm ne_gA_a1))).other W51 (Or.inl ne_a1_b40)) (((VSl.keep K43 (ninS (Ne.symm ne_pa_b2) nin0)).other W48 (Ne.symm ne_gA_b2)).other W51 ne_b2_b40) (((Enl.keep K43).wr W48).wr W51) (((Fel.keep K43 (ninS (Ne.symm ne_pa_b35) nin0)).other W48 (Or.inl (Ne.symm ne_gA_b35))).other W51 (Or.inl ne_b35_b40)) (((Fsl.keep K43 (ninS (Ne.symm ne_pa_b35) nin0)).other W48 (Or.inl (Ne.symm ne_gA_b35))).other W51 (Or.inl ne_b35_b40)) (((Fml.keep K43 (ninS (Ne.symm ne_pa_b35) nin0)).other W48 (Or.inl (Ne.symm ne_gA_b35))).other W51 (Or.inl ne_b35_b40)) (((VM.keep K43 (ninS (Ne.symm ne_pa_b38) nin0)).other W48 (Ne.symm ne_gA_b38)).other W51 ne_b38_b40) (by have z := V51; rw [hPl2] at z; exact z) hgr3 (((Vel.keep K43 (ninS ne_ed_pa nin0)).other W48 ne_ed_gA).other W51 ne_ed_b40) (by have z := (V48.other W51 ne_gA_b40); rw [hG2] at z; exact z) (((EA.keep K43).wr W48).wr W51) sze szA hq0 (((VB.keep K43 (ninS ne_gB_pa nin0)).other W48 ne_gB_gA).other W51 ne_gB_b40) (((EB.keep K43).wr W48).wr W51) szB hq1 hq01 ne_gA_a1 ne_gA_pa ne_gA_b2 ne_gA_b35 ne_gA_b38 ne_gA_b40 ne_ed_a1 ne_ed_pa ne_ed_b2 ne_ed_b35 ne_ed_b38 ne_ed_b40 ne_ed_gA ne_gB_a1 ne_gB_pa ne_gB_b2 ne_gB_b35 ne_gB_b38 ne_gB_b40 ne_gB_ed ne_gB_gA
          · by_cases n1q : q1 = q
            · subst n1q
              have em : own_mem q1 [(q0, m0), (q1, m1)] = m1 := (if_neg hq01).trans (if_pos rfl)
              rw [em] at t2 t3
              have hgr3 : own_gr L (d + 1) = [(q0, m0), (q1, m1 ++ [Int32.ofNat d])] := by
                rw [hgr2]; show (if q0 = q1 then _ else (q0, m0) :: (if q1 = q1 then _ else _)) = _
                rw [if_neg hq01, if_pos rfl]
              have lenG : (m1 ++ List.replicate (((own_S L).getD q1 0).toInt.toNat - m1.length) 0).length = ((own_S L).getD q1 0).toInt.toNat := by rw [List.length_append, List.length_replicate]; omega
              refine own_by (fun t k => XS.aloadN X43.here hx rfl (hb hby d8_94) rfl rfl k) ?_
              show ORun p e below s _ _ _ T43 (mkF m 95 #[.val (.ref a1), .val (.ref b2), .val (.ref b35), .val (.ref b38), .val (.ref b40), .val (.int dv), .val (.int y43)] [(.ref b38)])
              refine own_by (fun t k => XS.iload X43.here hx rfl (hb hby d8_95) rfl k) ?_
              show ORun p e below s _ _ _ T43 (mkF m 97 #[.val (.ref a1), .val (.ref b2), .val (.ref b35), .val (.ref b38), .val (.ref b40), .val (.int dv), .val (.int y43)] [(.int y43), (.ref b38)])
              refine own_aaloadA X43 hx hZ rfl (VM.keep K43 (ninS (Ne.symm ne_pa_b38) nin0)) (i := q1) eyq (v := Value.ref gB) (own_setS (by simpa using hq1)) (hb hby d8_97) ?_
              show ORun p e below s _ _ _ T43 (mkF m 98 #[.val (.ref a1), .val (.ref b2), .val (.ref b35), .val (.ref b38), .val (.ref b40), .val (.int dv), .val (.int y43)] [(.ref gB)])
              refine own_by (fun t k => XS.ifnonnullYes X43.here hx rfl (pc0 := 98) (pc' := 122) rfl (hb hby d8_98) rfl (by decide) (by decide) k) ?_
              show ORun p e below s _ _ _ T43 (mkF m 122 #[.val (.ref a1), .val (.ref b2), .val (.ref b35), .val (.ref b38), .val (.ref b40), .val (.int dv), .val (.int y43)] [])
              refine own_by (fun t k => XS.aloadN X43.here hx rfl (hb hby d8_122) rfl rfl k) ?_
              show ORun p e below s _ _ _ T43 (mkF m 123 #[.val (.ref a1), .val (.ref b2), .val (.ref b35), .val (.ref b38), .val (.ref b40), .val (.int dv), .val (.int y43)] [(.ref b38)])
              refine own_by (fun t k => XS.iload X43.here hx rfl (hb hby d8_123) rfl k) ?_
              show ORun p e below s _ _ _ T43 (mkF m 125 #[.val (.ref a1), .val (.ref b2), .val (.ref b35), .val (.ref b38), .val (.ref b40), .val (.int dv), .val (.int y43)] [(.int y43), (.ref b38)])
              refine own_aaloadA X43 hx hZ rfl (VM.keep K43 (ninS (Ne.symm ne_pa_b38) nin0)) (i := q1) eyq (v := Value.ref gB) (own_setS (by simpa using hq1)) (hb hby d8_125) ?_
              show ORun p e below s _ _ _ T43 (mkF m 126 #[.val (.ref a1), .val (.ref b2), .val (.ref b35), .val (.ref b38), .val (.ref b40), .val (.int dv), .val (.int y43)] [(.ref gB)])
              refine own_by (fun t k => XS.aload X43.here hx rfl (hb hby d8_126) rfl rfl k) ?_
              show ORun p e below s _ _ _ T43 (mkF m 128 #[.val (.ref a1), .val (.ref b2), .val (.ref b35), .val (.ref b38), .val (.ref b40), .val (.int dv), .val (.int y43)] [(.ref b40), (.ref gB)])
              refine own_by (fun t k => XS.iload X43.here hx rfl (hb hby d8_128) rfl k) ?_
              show ORun p e below s _ _ _ T43 (mkF m 130 #[.val (.ref a1), .val (.ref b2), .val (.ref b35), .val (.ref b38), .val (.ref b40), .val (.int dv), .val (.int y43)] [(.int y43), (.ref b40), (.ref gB)])
              refine own_iaload X43 hx hZ rfl (VPl.keep K43 (ninS (Ne.symm ne_pa_b40) nin0)) (i := q1) eyq (by omega) (hb hby d8_130) ?_
              intro v53 hv53
              have r53 := rng32 v53
              show ORun p e below s _ _ _ T43 (mkF m 131 #[.val (.ref a1), .val (.ref b2), .val (.ref b35), .val (.ref b38), .val (.ref b40), .val (.int dv), .val (.int y43)] [(.int v53), (.ref gB)])
              rw [t3] at hv53
              have iv : v53.toInt = (m1.length : Int) := by rw [hv53]; exact Int32.toInt_ofNat_of_lt (by omega)
              refine own_by (fun t k => XS.iload X43.here hx rfl (hb hby d8_131) rfl k) ?_
              show ORun p e below s _ _ _ T43 (mkF m 133 #[.val (.ref a1), .val (.ref b2), .val (.ref b35), .val (.ref b38), .val (.ref b40), .val (.int dv), .val (.int y43)] [(.int dv), (.int v53), (.ref gB)])
              refine own_iastore X43 hx hZ rfl (VB.keep K43 (ninS ne_gB_pa nin0)) (i := m1.length) iv (by rw [lenG]; exact t2) (hb hby d8_133) ?_
              intro T54 h54 L54 X54 e54 W54 hL54 V54
              have len54 : L54.length = ((own_S L).getD q1 0).toInt.toNat := by rw [hL54, List.length_set]; exact lenG
              have N54 := Fr.snoc X54 N43 (Nat.le_trans Z0 szB)
              show ORun p e below s _ _ _ T54 (mkF m 134 #[.val (.ref a1), .val (.ref b2), .val (.ref b35), .val (.ref b38), .val (.ref b40), .val (.int dv), .val (.int y43)] [])
              have hG2 : L54 = ((m1 ++ [Int32.ofNat d]) ++ List.replicate (((own_S L).getD q1 0).toInt.toNat - (m1 ++ [Int32.ofNat d]).length) 0) := by rw [hL54, edv]; exact own_app m1 _ t2
              refine own_by (fun t k => XS.aload X54.here hx rfl (hb hby d8_134) rfl rfl k) ?_
              show ORun p e below s _ _ _ T54 (mkF m 136 #[.val (.ref a1), .val (.ref b2), .val (.ref b35), .val (.ref b38), .val (.ref b40), .val (.int dv), .val (.int y43)] [(.ref b40)])
              refine own_by (fun t k => XS.iload X54.here hx rfl (hb hby d8_136) rfl k) ?_
              show ORun p e below s _ _ _ T54 (mkF m 138 #[.val (.ref a1), .val (.ref b2), .val (.ref b35), .val (.ref b38), .val (.ref b40), .val (.int dv), .val (.int y43)] [(.int y43), (.ref b40)])
              refine own_by (fun t k => XT.dup2 X54.here hx rfl (hb hby d8_138) rfl rfl rfl k) ?_
              show ORun p e below s _ _ _ T54 (mkF m 139 #[.val (.ref a1), .val (.ref b2), .val (.ref b35), .val (.ref b38), .val (.ref b40), .val (.int dv), .val (.int y43)] [(.int y43), (.ref b40), (.int y43), (.ref b40)])
              refine own_iaload X54 hx hZ e54 ((VPl.keep K43 (ninS (Ne.symm ne_pa_b40) nin0)).other W54 (Ne.symm ne_gB_b40)) (i := q1) eyq (by omega) (hb hby d8_139) ?_
              intro v55 hv55
              have r55 := rng32 v55
              show ORun p e below s _ _ _ T54 (mkF m 140 #[.val (.ref a1), .val (.ref b2), .val (.ref b35), .val (.ref b38), .val (.ref b40), .val (.int dv), .val (.int y43)] [(.int v55), (.int y43), (.ref b40)])
              refine own_by (fun t k => XS.iconst X54.here hx rfl (hb hby d8_140) k) ?_
              show ORun p e below s _ _ _ T54 (mkF m 141 #[.val (.ref a1), .val (.ref b2), .val (.ref b35), .val (.ref b38), .val (.ref b40), .val (.int dv), .val (.int y43)] [(.int (1 : Int32)), (.int v55), (.int y43), (.ref b40)])
              refine own_by (fun t k => XS.iadd X54.here hx rfl (hb hby d8_141) rfl k) (own_letI (f := (fun z => (mkF m 142 #[.val (.ref a1), .val (.ref b2), .val (.ref b35), .val (.ref b38), .val (.ref b40), .val (.int dv), .val (.int y43)] [(.int z), (.int y43), (.ref b40)]))) (v55 + (1 : Int32)) fun v56 hv56 => ?_)
              show ORun p e below s _ _ _ T54 (mkF m 142 #[.val (.ref a1), .val (.ref b2), .val (.ref b35), .val (.ref b38), .val (.ref b40), .val (.int dv), .val (.int y43)] [(.int v56), (.int y43), (.ref b40)])
              have a56a : (v56.toInt - (v55.toInt + 1)) % 4294967296 = 0 := by rw [hv56]; exact c_iadd v55 (1 : Int32)
              have r56 := rng32 v56
              refine own_iastore X54 hx hZ e54 ((VPl.keep K43 (ninS (Ne.symm ne_pa_b40) nin0)).other W54 (Ne.symm ne_gB_b40)) (i := q1) eyq (by omega) (hb hby d8_142) ?_
              intro T57 h57 L57 X57 e57 W57 hL57 V57
              have len57 : L57.length = 5 := by rw [hL57, List.length_set]; exact lenp
              have N57 := Fr.snoc X57 N54 old_b40
              show ORun p e below s _ _ _ T57 (mkF m 143 #[.val (.ref a1), .val (.ref b2), .val (.ref b35), .val (.ref b38), .val (.ref b40), .val (.int dv), .val (.int y43)] [])
              have hPl2 : L57 = own_pl L (d + 1) := by rw [hL57, hv56, hv55, hpl2]
              have hd6 : d + 1 ≤ 5 := by omega
              refine own_by (fun t k => XS.iinc X57.here hx rfl (hb hby d8_143) rfl (l' := #[.val (.ref a1), .val (.ref b2), .val (.ref b35), .val (.ref b38), .val (.ref b40), .val (.int (dv + (1 : Int32))), .val (.int y43)]) rfl k) (own_letI (f := (fun z => (mkF m 146 #[.val (.ref a1), .val (.ref b2), .val (.ref b35), .val (.ref b38), .val (.ref b40), .val (.int z), .val (.int y43)] []))) (dv + (1 : Int32)) fun v58 hv58 => ?_)
              show ORun p e below s _ _ _ T57 (mkF m 146 #[.val (.ref a1), .val (.ref b2), .val (.ref b35), .val (.ref b38), .val (.ref b40), .val (.int v58), .val (.int y43)] [])
              have r58 := rng32 v58
              have a58 : v58.toInt = dv.toInt + 1 := by have q : (v58.toInt - (dv.toInt + 1)) % 4294967296 = 0 := (by rw [hv58]; exact c_iadd dv (1 : Int32)); omega
              have hdn : v58.toInt = ((d + 1 : Nat) : Int) := by omega
              refine own_by (fun t k => XS.goto X57.here hx rfl (pc0 := 146) (pc' := 65) rfl (hb hby d8_146) (by decide) (by decide) k) ?_
              show ORun p e below s _ _ _ T57 (mkF m 65 #[.val (.ref a1), .val (.ref b2), .val (.ref b35), .val (.ref b38), .val (.ref b40), .val (.int v58), .val (.int y43)] [])
              exact ih _ (by omega) T57 h57 _ v58 (.val (.int y43)) (d + 1) P43 mcx ed gA q0 m0 gB q1 (m1 ++ [Int32.ofNat d]) rfl (Or.inr ⟨_, rfl, rfl⟩) hdn hd6 X57 e57 N57 (((((Keep.refl h0 [pa]).trans Kl (allS (Or.inl (List.mem_of_getElem? (i := 0) rfl)) all0)).trans K43 (allS (Or.inl (List.mem_of_getElem? (i := 0) rfl)) all0)).wr W54 (Or.inr szB)).wr W57 (Or.inr sz_b40)) ((Vq43.other W54 (Ne.symm ne_gB_pa)).other W57 ne_pa_b40) hP43 I43 (((E1.keep K43).wr W54).wr W57) (((F1.keep K43 (ninS nep nin0)).other W54 (Or.inl (Ne.symm ne_gB_a1))).other W57 (Or.inl ne_a1_b40)) (((VSl.keep K43 (ninS (Ne.symm ne_pa_b2) nin0)).other W54 (Ne.symm ne_gB_b2)).other W57 ne_b2_b40) (((Enl.keep K43).wr W54).wr W57) (((Fel.keep K43 (ninS (Ne.symm ne_pa_b35) nin0)).other W54 (Or.inl (Ne.symm ne_gB_b35))).other W57 (Or.inl ne_b35_b40)) (((Fsl.keep K43 (ninS (Ne.symm ne_pa_b35) nin0)).other W54 (Or.inl (Ne.symm ne_gB_b35))).other W57 (Or.inl ne_b35_b40)) (((Fml.keep K43 (ninS (Ne.symm ne_pa_b35) nin0)).other W54 (Or.inl (Ne.symm ne_gB_b35))).other W57 (Or.inl ne_b35_b40)) (((VM.keep K43 (ninS (Ne.symm ne_pa_b38) nin0)).other W54 (Ne.symm ne_gB_b38)).other W57 ne_b38_b40) (by have z := V57; rw [hPl2] at z; exact z) hgr3 (((Vel.keep K43 (ninS ne_ed_pa nin0)).other W54 (Ne.symm ne_gB_ed)).other W57 ne_ed_b40) (((VA.keep K43 (ninS ne_gA_pa nin0)).other W54 (Ne.symm ne_gB_gA)).other W57 ne_gA_b40) (((EA.keep K43).wr W54).wr W57) sze szA hq0 (by have z := (V54.other W57 ne_gB_b40); rw [hG2] at z; exact z) (((EB.keep K43).wr W54).wr W57) szB hq1 hq01 ne_gA_a1 ne_gA_pa ne_gA_b2 ne_gA_b35 ne_gA_b38 ne_gA_b40 ne_ed_a1 ne_ed_pa ne_ed_b2 ne_ed_b35 ne_ed_b38 ne_ed_b40 ne_ed_gA ne_gB_a1 ne_gB_pa ne_gB_b2 ne_gB_b35 ne_gB_b38 ne_gB_b40 ne_gB_ed ne_gB_gA
            · have em : own_mem q [(q0, m0), (q1, m1)] = [] := (if_neg n0q).trans (if_neg n1q)
              rw [em] at t2 t3
              exfalso
              have eg : own_gr L (d + 1) = [(q0, m0), (q1, m1), (q, [Int32.ofNat d])] := by
                rw [hgr2]; show (if q0 = q then _ else (q0, m0) :: (if q1 = q then _ else (q1, m1) :: [(q, [Int32.ofNat d])])) = _
                rw [if_neg n0q, if_neg n1q]
              rw [eg] at t5
              exact absurd t5 (show ¬ (3 ≤ 2) by decide)
      · have t42 := own_nlt hc42 (a := dv.toInt) (b := 5) rfl (by decide)
        refine own_by (fun t k => XS.icmpYes X41.here hx rfl (pc0 := 72) (pc' := 149) rfl (hb hby d8_72) rfl (flt hc42).2.1 (by decide) (by decide) k) ?_
        show ORun p e below s _ _ _ T41 (mkF m 149 #[.val (.ref a1), .val (.ref b2), .val (.ref b35), .val (.ref b38), .val (.ref b40), .val (.int dv), s6] [])
        refine own_by (fun t k => XS.aloadN X41.here hx rfl (hb hby d8_149) rfl rfl k) ?_
        show ORun p e below s _ _ _ T41 (mkF m 150 #[.val (.ref a1), .val (.ref b2), .val (.ref b35), .val (.ref b38), .val (.ref b40), .val (.int dv), s6] [(.ref b35)])
        refine own_retA X41 hx hret rfl rfl rfl hlk (hb hby d8_150) (by decide) (by decide) ?_
        have hdd : d = 5 := by omega
        rw [hdd] at hgr
        have he0 : m0.length = ((own_S L).getD q0 0).toInt.toNat := he (q0, m0) (by rw [hgr]; simp)
        have he1 : m1.length = ((own_S L).getD q1 0).toInt.toNat := he (q1, m1) (by rw [hgr]; simp)
        rw [e41]
        exact ⟨b35, rfl, Nl, ((Keep.refl h0 [pa]).trans Kl (allS (Or.inl (List.mem_of_getElem? (i := 0) rfl)) all0)), sz_b35, Enl, Or.inr (Or.inr ⟨ed, gA, gB, q0, q1, m0, m1, hgr, Fsl, Fel, Vel, (by have z := VA; rw [he0, Nat.sub_self, List.replicate_zero, List.append_nil] at z; exact z), EA, (by have z := VB; rw [he1, Nat.sub_self, List.replicate_zero, List.append_nil] at z; exact z), EB⟩)⟩
  have LP1 : ∀ (kk : Nat) (Tl : State) (hl : Heap) (lo : List Loc) (dv : Int32) (s6 : Slot) (d : Nat) (P1 : List Int32) (mcx : Int32) (ed gA : Addr) (q0 : Nat) (m0 : List Int32), (5 - d = kk) → (s6 = .unset ∨ ∃ w, s6 = .val w ∧ w.category = 1) → (dv.toInt = d) → (d ≤ 5) → (Stand p l e ({ frames := 5, cells := 8, slots := 60, locals := 160 } : Room) s m #[(.ref a1)] below meth c Tl lo 6 33) → (Tl.heap = hl) → (Fr n0 lo) → (Keep h0 hl [pa]) → (OVec Z hl pa .int P1) → (P1.length = 5) → (InvR P1 L r) → (Exa Z hl a1 "com/example/kembar/kembar/cluster/Clusters") → (Fld Z hl a1 "com/example/kembar/kembar/cluster/Clusters" "parents" "[I" (.ref pa)) → (OVec Z hl b2 .int (own_S L)) → (Exa Z hl b35 "java/util/ArrayList") → (Fld Z hl b35 "java/util/ArrayList" "elementData" "[Ljava/lang/Object;" (.ref ed)) → (Fld Z hl b35 "java/util/ArrayList" "size" "I" (.int 1)) → (Fld Z hl b35 "java/util/AbstractList" "modCount" "I" (.int mcx)) → (OVecA Z hl b38 ((List.replicate 5 Value.null).set q0 (.ref gA))) → (OVec Z hl b40 .int (own_pl L d)) → (own_gr L d = [(q0, m0)]) → (OVecR Z hl ed "java/lang/Object" [.ref gA, .null, .null, .null, .null, .null, .null, .null, .null, .null]) → (OVec Z hl gA .int (m0 ++ List.replicate (((own_S L).getD q0 0).toInt.toNat - m0.length) 0)) → (Exa Z hl gA "[I") → (h0.size ≤ ed) → (h0.size ≤ gA) → (q0 < 5) → (gA ≠ a1) → (gA ≠ pa) → (gA ≠ b2) → (gA ≠ b35) → (gA ≠ b38) → (gA ≠ b40) → (ed ≠ a1) → (ed ≠ pa) → (ed ≠ b2) → (ed ≠ b35) → (ed ≠ b38) → (ed ≠ b40) → (ed ≠ gA) → ORun p e below s (fun v h L' => ∃ al : Addr, v = some (.ref al) ∧ Fr n0 L' ∧ Keep h0 h [pa] ∧ h0.size ≤ al ∧ Exa Z h al "java/util/ArrayList" ∧ ((own_gr L 5 = [] ∧ Fld Z h al "java/util/ArrayList" "size" "I" (.int 0)) ∨ (∃ (ed gA : Addr) (q0 : Nat) (m0 : List Int32), own_gr L 5 = [(q0, m0)] ∧ Fld Z h al "java/util/ArrayList" "size" "I" (.int 1) ∧ Fld Z h al "java/util/ArrayList" "elementData" "[Ljava/lang/Object;" (.ref ed) ∧ OVecR Z h ed "java/lang/Object" [.ref gA, .null, .null, .null, .null, .null, .null, .null, .null, .null] ∧ OVec Z h gA .int m0 ∧ Exa Z h gA "[I") ∨ (∃ (ed gA gB : Addr) (q0 q1 : Nat) (m0 m1 : List Int32), own_gr L 5 = [(q0, m0), (q1, m1)] ∧ Fld Z h al "java/util/ArrayList" "size" "I" (.int 2) ∧ Fld Z h al "java/util/ArrayList" "elementData" "[Ljava/lang/Object;" (.ref ed) ∧ OVecR Z h ed "java/lang/Object" [.ref gA, .ref gB, .null, .null, .null, .null, .null, .null, .null, .null] ∧ OVec Z h gA .int m0 ∧ Exa Z h gA "[I" ∧ OVec Z h gB .int m1 ∧ Exa Z h gB "[I"))) ({ frames := 5, cells := 8, slots := 60, locals := 160 } : Room).cells ({ frames := 5, cells := 8, slots := 60, locals := 160 } : Room).slots Tl (mkF m 65 #[.val (.ref a1), .val (.ref b2), .val (.ref b35), .val (.ref b38), .val (.ref b40), .val (.int dv), s6] []) := by
    intro kk
    induction kk using Nat.strongRecOn with
    | _ kk ih =>
      intro Tl hl lo dv s6 d P1 mcx ed gA q0 m0 hk hs6 hdv hd5 Xl el Nl Kl VP hP1 I1 E1 F1 VSl Enl Fel Fsl Fml VM VPl hgr Vel VA EA sze szA hq0 ne_gA_a1 ne_gA_pa ne_gA_b2 ne_gA_b35 ne_gA_b38 ne_gA_b40 ne_ed_a1 ne_ed_pa ne_ed_b2 ne_ed_b35 ne_ed_b38 ne_ed_b40 ne_ed_gA
      have lenp : (own_pl L d).length = 5 := own_pllen L d
      show ORun p e below s _ _ _ Tl (mkF m 65 #[.val (.ref a1), .val (.ref b2), .val (.ref b35), .val (.ref b38), .val (.ref b40), .val (.int dv), s6] [])
      refine own_by (fun t k => XS.iload Xl.here hx rfl (hb hby d8_65) rfl k) ?_
      show ORun p e below s _ _ _ Tl (mkF m 67 #[.val (.ref a1), .val (.ref b2), .val (.ref b35), .val (.ref b38), .val (.ref b40), .val (.int dv), s6] [(.int dv)])
      refine own_by (fun t k => XS.aloadN Xl.here hx rfl (hb hby d8_67) rfl rfl k) ?_
      show ORun p e below s _ _ _ Tl (mkF m 68 #[.val (.ref a1), .val (.ref b2), .val (.ref b35), .val (.ref b38), .val (.ref b40), .val (.int dv), s6] [(.ref a1), (.int dv)])
      obtain ⟨T59, X59, e59, st59⟩ := getF Xl hx hZ hown (host := "") (Or.inl (hw _ (List.mem_of_getElem? (i := 10) rfl))) Via.refl el F1 (g := (mkF m 68 #[.val (.ref a1), .val (.ref b2), .val (.ref b35), .val (.ref b38), .val (.ref b40), .val (.int dv), s6] [(.ref a1), (.int dv)])) rfl rfl (hb hby d8_68)
      refine own_by st59 ?_
      show ORun p e below s _ _ _ T59 (mkF m 71 #[.val (.ref a1), .val (.ref b2), .val (.ref b35), .val (.ref b38), .val (.ref b40), .val (.int dv), s6] [(.ref pa), (.int dv)])
      refine own_len X59 hx hZ e59 VP (n := 5) hP1 (hb hby d8_71) ?_
      show ORun p e below s _ _ _ T59 (mkF m 72 #[.val (.ref a1), .val (.ref b2), .val (.ref b35), .val (.ref b38), .val (.ref b40), .val (.int dv), s6] [(.int (5 : Int32)), (.int dv)])
      by_cases hc60 : dv < (5 : Int32)
      · have t60 := own_lt hc60 (a := dv.toInt) (b := 5) rfl (by decide)
        refine own_by (fun t k => XS.icmpNo X59.here hx rfl (hb hby d8_72) rfl (tlt hc60).2.1 k) ?_
        show ORun p e below s _ _ _ T59 (mkF m 75 #[.val (.ref a1), .val (.ref b2), .val (.ref b35), .val (.ref b38), .val (.ref b40), .val (.int dv), s6] [])
        refine own_by (fun t k => XS.aloadN X59.here hx rfl (hb hby d8_75) rfl rfl k) ?_
        show ORun p e below s _ _ _ T59 (mkF m 76 #[.val (.ref a1), .val (.ref b2), .val (.ref b35), .val (.ref b38), .val (.ref b40), .val (.int dv), s6] [(.ref a1)])
        refine own_by (fun t k => XS.iload X59.here hx rfl (hb hby d8_76) rfl k) ?_
        show ORun p e below s _ _ _ T59 (mkF m 78 #[.val (.ref a1), .val (.ref b2), .val (.ref b35), .val (.ref b38), .val (.ref b40), .val (.int dv), s6] [(.int dv), (.ref a1)])
        refine own_callP X59 hx hZ hown E1 (hw _ (List.mem_of_getElem? (i := 22) rfl)) (hw _ (List.mem_of_getElem? (i := 23) rfl)) (own_selP (x := ({ cls := "com/example/kembar/kembar/cluster/Clusters", name := "join", desc := "(II)V" } : Jvm.MethodName)) rfl (hw _ (List.mem_of_getElem? (i := 20) rfl)) (hw _ (List.mem_of_getElem? (i := 24) rfl)) (hw _ (List.mem_of_getElem? (i := 23) rfl)) (by decide)) (hw _ (List.mem_of_getElem? (i := 24) rfl)) (hw _ (List.mem_of_getElem? (i := 2) rfl)) (hw _ (List.mem_of_getElem? (i := 25) rfl)) (by decide) (rm5 l Z a0 hw [] hl n0 (Nat.le_trans Z0 Kl.1) a1 pa dv P1 L r E1 F1 VP hP1 gp nep I1 (by omega)) e59 (by decide) (W := 0) (by decide) (by decide) (by decide) (argsL := [(.int dv)]) (rest := []) (by rw [hml]; rfl) (lenOf pd_1 rfl) rfl rfl (Nat.le_of_eq rfl) (hb hby d8_78) ?_
        intro T61 L61 u61 X61 hQ61
        obtain ⟨P61, rfl, Nq61, K61, Vq61, hP61, I61⟩ := hQ61
        refine own_letI (f := fun z => (mkF m 81 #[.val (.ref a1), .val (.ref b2), .val (.ref b35), .val (.ref b38), .val (.ref b40), .val (.int dv), s6] [(.int z)])) ((L : List Int32).getD (dv).toInt.toNat 0) fun y61 hy61 => ?_
        have N61 := Fr.app Nl Nq61
        have hyb61 : 0 ≤ y61.toInt ∧ y61.toInt < 5 := by rw [hy61]; exact (I61 dv.toInt.toNat (by omega)).2.1
        show ORun p e below s _ _ _ T61 (mkF m 81 #[.val (.ref a1), .val (.ref b2), .val (.ref b35), .val (.ref b38), .val (.ref b40), .val (.int dv), s6] [(.int y61)])
        refine own_by (fun t k => XS.istore X61.here hx rfl (hb hby d8_81) rfl (l' := #[.val (.ref a1), .val (.ref b2), .val (.ref b35), .val (.ref b38), .val (.ref b40), .val (.int dv), .val (.int y61)]) (XS.store1 rfl hs6 rfl) k) ?_
        show ORun p e below s _ _ _ T61 (mkF m 83 #[.val (.ref a1), .val (.ref b2), .val (.ref b35), .val (.ref b38), .val (.ref b40), .val (.int dv), .val (.int y61)] [])
        have hdt : dv.toInt.toNat = d := by omega
        rw [hdt] at hy61
        obtain ⟨q, eq⟩ : ∃ z, z = own_g L d := ⟨_, rfl⟩
        have ey : y61.toInt.toNat = q := by rw [hy61, eq]; rfl
        have hq5 : q < 5 := by omega
        have eyq : y61.toInt = (q : Int) := by omega
        refine own_by (fun t k => XS.aloadN X61.here hx rfl (hb hby d8_83) rfl rfl k) ?_
        show ORun p e below s _ _ _ T61 (mkF m 84 #[.val (.ref a1), .val (.ref b2), .val (.ref b35), .val (.ref b38), .val (.ref b40), .val (.int dv), .val (.int y61)] [(.ref b2)])
        refine own_by (fun t k => XS.iload X61.here hx rfl (hb hby d8_84) rfl k) ?_
        show ORun p e below s _ _ _ T61 (mkF m 86 #[.val (.ref a1), .val (.ref b2), .val (.ref b35), .val (.ref b38), .val (.ref b40), .val (.int dv), .val (.int y61)] [(.int y61), (.ref b2)])
        refine own_iaload X61 hx hZ rfl (VSl.keep K61 (ninS (Ne.symm ne_pa_b2) nin0)) (i := q) eyq (by omega) (hb hby d8_86) ?_
        intro v62 hv62
        have r62 := rng32 v62
        show ORun p e below s _ _ _ T61 (mkF m 87 #[.val (.ref a1), .val (.ref b2), .val (.ref b35), .val (.ref b38), .val (.ref b40), .val (.int dv), .val (.int y61)] [(.int v62)])
        refine own_by (fun t k => XS.iconst X61.here hx rfl (hb hby d8_87) k) ?_
        show ORun p e below s _ _ _ T61 (mkF m 88 #[.val (.ref a1), .val (.ref b2), .val (.ref b35), .val (.ref b38), .val (.ref b40), .val (.int dv), .val (.int y61)] [(.int (2 : Int32)), (.int v62)])
        by_cases hc63 : v62 < (2 : Int32)
        · have t63 := own_lt hc63 (a := v62.toInt) (b := 2) rfl (by decide)
          refine own_by (fun t k => XS.icmpNo X61.here hx rfl (hb hby d8_88) rfl (tlt hc63).2.1 k) ?_
          show ORun p e below s _ _ _ T61 (mkF m 91 #[.val (.ref a1), .val (.ref b2), .val (.ref b35), .val (.ref b38), .val (.ref b40), .val (.int dv), .val (.int y61)] [])
          have hlt : ((own_S L).getD (own_g L d) 0).toInt < 2 := by rw [← eq, ← hv62]; omega
          have hgr2 : own_gr L (d + 1) = [(q0, m0)] := by rw [← hgr]; exact if_pos hlt
          have hpl2 : own_pl L (d + 1) = own_pl L d := if_pos hlt
          refine own_by (fun t k => XS.goto X61.here hx rfl (pc0 := 91) (pc' := 143) rfl (hb hby d8_91) (by decide) (by decide) k) ?_
          show ORun p e below s _ _ _ T61 (mkF m 143 #[.val (.ref a1), .val (.ref b2), .val (.ref b35), .val (.ref b38), .val (.ref b40), .val (.int dv), .val (.int y61)] [])
          have hd6 : d + 1 ≤ 5 := by omega
          refine own_by (fun t k => XS.iinc X61.here hx rfl (hb hby d8_143) rfl (l' := #[.val (.ref a1), .val (.ref b2), .val (.ref b35), .val (.ref b38), .val (.ref b40), .val (.int (dv + (1 : Int32))), .val (.int y61)]) rfl k) (own_letI (f := (fun z => (mkF m 146 #[.val (.ref a1), .val (.ref b2), .val (.ref b35), .val (.ref b38), .val (.ref b40), .val (.int z), .val (.int y61)] []))) (dv + (1 : Int32)) fun v64 hv64 => ?_)
          show ORun p e below s _ _ _ T61 (mkF m 146 #[.val (.ref a1), .val (.ref b2), .val (.ref b35), .val (.ref b38), .val (.ref b40), .val (.int v64), .val (.int y61)] [])
          have r64 := rng32 v64
          have a64 : v64.toInt = dv.toInt + 1 := by have q : (v64.toInt - (dv.toInt + 1)) % 4294967296 = 0 := (by rw [hv64]; exact c_iadd dv (1 : Int32)); omega
          have hdn : v64.toInt = ((d + 1 : Nat) : Int) := by omega
          refine own_by (fun t k => XS.goto X61.here hx rfl (pc0 := 146) (pc' := 65) rfl (hb hby d8_146) (by decide) (by decide) k) ?_
          show ORun p e below s _ _ _ T61 (mkF m 65 #[.val (.ref a1), .val (.ref b2), .val (.ref b35), .val (.ref b38), .val (.ref b40), .val (.int v64), .val (.int y61)] [])
          exact ih _ (by omega) T61 T61.heap _ v64 (.val (.int y61)) (d + 1) P61 mcx ed gA q0 m0 rfl (Or.inr ⟨_, rfl, rfl⟩) hdn hd6 X61 rfl N61 (((Keep.refl h0 [pa]).trans Kl (allS (Or.inl (List.mem_of_getElem? (i := 0) rfl)) all0)).trans K61 (allS (Or.inl (List.mem_of_getElem? (i := 0) rfl)) all0)) Vq61 hP61 I61 (E1.keep K61) (F1.keep K61 (ninS nep nin0)) (VSl.keep K61 (ninS (Ne.symm ne_pa_b2) nin0)) (Enl.keep K61) (Fel.keep K61 (ninS (Ne.symm ne_pa_b35) nin0)) (Fsl.keep K61 (ninS (Ne.symm ne_pa_b35) nin0)) (Fml.keep K61 (ninS (Ne.symm ne_pa_b35) nin0)) (VM.keep K61 (ninS (Ne.symm ne_pa_b38) nin0)) (by rw [hpl2]; exact (VPl.keep K61 (ninS (Ne.symm ne_pa_b40) nin0))) hgr2 (Vel.keep K61 (ninS ne_ed_pa nin0)) (VA.keep K61 (ninS ne_gA_pa nin0)) (EA.keep K61) sze szA hq0 ne_gA_a1 ne_gA_pa ne_gA_b2 ne_gA_b35 ne_gA_b38 ne_gA_b40 ne_ed_a1 ne_ed_pa ne_ed_b2 ne_ed_b35 ne_ed_b38 ne_ed_b40 ne_ed_gA
        · have t63 := own_nlt hc63 (a := v62.toInt) (b := 2) rfl (by decide)
          refine own_by (fun t k => XS.icmpYes X61.here hx rfl (pc0 := 88) (pc' := 94) rfl (hb hby d8_88) rfl (flt hc63).2.1 (by decide) (by decide) k) ?_
          show ORun p e below s _ _ _ T61 (mkF m 94 #[.val (.ref a1), .val (.ref b2), .val (.ref b35), .val (.ref b38), .val (.ref b40), .val (.int dv), .val (.int y61)] [])
          have hge : 2 ≤ ((own_S L).getD q 0).toInt := by rw [← hv62]; omega
          obtain ⟨t1, t2, t3, t4, t5⟩ := ht d (by omega) (by rw [← eq]; exact hge)
          have hnlt : ¬ ((own_S L).getD (own_g L d) 0).toInt < 2 := by rw [← eq]; omega
          have hgr2 : own_gr L (d + 1) = own_add (own_g L d) (Int32.ofNat d) (own_gr L d) := if_neg hnlt
          have hpl2 : own_pl L (d + 1) = (own_pl L d).set (own_g L d) ((own_pl L d).getD (own_g L d) 0 + 1) := if_neg hnlt
          rw [← eq] at t1 t2 t3 hgr2 hpl2
          rw [hgr] at t2 t3 hgr2
          have edv : dv = Int32.ofNat d := Int32.toInt_inj.mp (by rw [hdv, Int32.toInt_ofNat_of_lt (by omega)])
          by_cases n0q : q0 = q
          · subst n0q
            have em : own_mem q0 [(q0, m0)] = m0 := if_pos rfl
            rw [em] at t2 t3
            have hgr3 : own_gr L (d + 1) = [(q0, m0 ++ [Int32.ofNat d])] := by rw [hgr2]; exact if_pos rfl
            have lenG : (m0 ++ List.replicate (((own_S L).getD q0 0).toInt.toNat - m0.length) 0).length = ((own_S L).getD q0 0).toInt.toNat := by rw [List.length_append, List.length_replicate]; omega
            refine own_by (fun t k => XS.aloadN X61.here hx rfl (hb hby d8_94) rfl rfl k) ?_
            show ORun p e below s _ _ _ T61 (mkF m 95 #[.val (.ref a1), .val (.ref b2), .val (.ref b35), .val (.ref b38), .val (.ref b40), .val (.int dv), .val (.int y61)] [(.ref b38)])
            refine own_by (fun t k => XS.iload X61.here hx rfl (hb hby d8_95) rfl k) ?_
            show ORun p e below s _ _ _ T61 (mkF m 97 #[.val (.ref a1), .val (.ref b2), .val (.ref b35), .val (.ref b38), .val (.ref b40), .val (.int dv), .val (.int y61)] [(.int y61), (.ref b38)])
            refine own_aaloadA X61 hx hZ rfl (VM.keep K61 (ninS (Ne.symm ne_pa_b38) nin0)) (i := q0) eyq (v := Value.ref gA) (own_setS (by simpa using hq0)) (hb hby d8_97) ?_
            show ORun p e below s _ _ _ T61 (mkF m 98 #[.val (.ref a1), .val (.ref b2), .val (.ref b35), .val (.ref b38), .val (.ref b40), .val (.int dv), .val (.int y61)] [(.ref gA)])
            refine own_by (fun t k => XS.ifnonnullYes X61.here hx rfl (pc0 := 98) (pc' := 122) rfl (hb hby d8_98) rfl (by decide) (by decide) k) ?_
            show ORun p e below s _ _ _ T61 (mkF m 122 #[.val (.ref a1), .val (.ref b2), .val (.ref b35), .val (.ref b38), .val (.ref b40), .val (.int dv), .val (.int y61)] [])
            refine own_by (fun t k => XS.aloadN X61.here hx rfl (hb hby d8_122) rfl rfl k) ?_
            show ORun p e below s _ _ _ T61 (mkF m 123 #[.val (.ref a1), .val (.ref b2), .val (.ref b35), .val (.ref b38), .val (.ref b40), .val (.int dv), .val (.int y61)] [(.ref b38)])
            refine own_by (fun t k => XS.iload X61.here hx rfl (hb hby d8_123) rfl k) ?_
            show ORun p e below s _ _ _ T61 (mkF m 125 #[.val (.ref a1), .val (.ref b2), .val (.ref b35), .val (.ref b38), .val (.ref b40), .val (.int dv), .val (.int y61)] [(.int y61), (.ref b38)])
            refine own_aaloadA X61 hx hZ rfl (VM.keep K61 (ninS (Ne.symm ne_pa_b38) nin0)) (i := q0) eyq (v := Value.ref gA) (own_setS (by simpa using hq0)) (hb hby d8_125) ?_
            show ORun p e below s _ _ _ T61 (mkF m 126 #[.val (.ref a1), .val (.ref b2), .val (.ref b35), .val (.ref b38), .val (.ref b40), .val (.int dv), .val (.int y61)] [(.ref gA)])
            refine own_by (fun t k => XS.aload X61.here hx rfl (hb hby d8_126) rfl rfl k) ?_
            show ORun p e below s _ _ _ T61 (mkF m 128 #[.val (.ref a1), .val (.ref b2), .val (.ref b35), .val (.ref b38), .val (.ref b40), .val (.int dv), .val (.int y61)] [(.ref b40), (.ref gA)])
            refine own_by (fun t k => XS.iload X61.here hx rfl (hb hby d8_128) rfl k) ?_
            show ORun p e below s _ _ _ T61 (mkF m 130 #[.val (.ref a1), .val (.ref b2), .val (.ref b35), .val (.ref b38), .val (.ref b40), .val (.int dv), .val (.int y61)] [(.int y61), (.ref b40), (.ref gA)])
            refine own_iaload X61 hx hZ rfl (VPl.keep K61 (ninS (Ne.symm ne_pa_b40) nin0)) (i := q0) eyq (by omega) (hb hby d8_130) ?_
            intro v65 hv65
            have r65 := rng32 v65
            show ORun p e below s _ _ _ T61 (mkF m 131 #[.val (.ref a1), .val (.ref b2), .val (.ref b35), .val (.ref b38), .val (.ref b40), .val (.int dv), .val (.int y61)] [(.int v65), (.ref gA)])
            rw [t3] at hv65
            have iv : v65.toInt = (m0.length : Int) := by rw [hv65]; exact Int32.toInt_ofNat_of_lt (by omega)
            refine own_by (fun t k => XS.iload X61.here hx rfl (hb hby d8_131) rfl k) ?_
            show ORun p e below s _ _ _ T61 (mkF m 133 #[.val (.ref a1), .val (.ref b2), .val (.ref b35), .val (.ref b38), .val (.ref b40), .val (.int dv), .val (.int y61)] [(.int dv), (.int v65), (.ref gA)])
            refine own_iastore X61 hx hZ rfl (VA.keep K61 (ninS ne_gA_pa nin0)) (i := m0.length) iv (by rw [lenG]; exact t2) (hb hby d8_133) ?_
            intro T66 h66 L66 X66 e66 W66 hL66 V66
            have len66 : L66.length = ((own_S L).getD q0 0).toInt.toNat := by rw [hL66, List.length_set]; exact lenG
            have N66 := Fr.snoc X66 N61 (Nat.le_trans Z0 szA)
            show ORun p e below s _ _ _ T66 (mkF m 134 #[.val (.ref a1), .val (.ref b2), .val (.ref b35), .val (.ref b38), .val (.ref b40), .val (.int dv), .val (.int y61)] [])
            have hG2 : L66 = ((m0 ++ [Int32.ofNat d]) ++ List.replicate (((own_S L).getD q0 0).toInt.toNat - (m0 ++ [Int32.ofNat d]).length) 0) := by rw [hL66, edv]; exact own_app m0 _ t2
            refine own_by (fun t k => XS.aload X66.here hx rfl (hb hby d8_134) rfl rfl k) ?_
            show ORun p e below s _ _ _ T66 (mkF m 136 #[.val (.ref a1), .val (.ref b2), .val (.ref b35), .val (.ref b38), .val (.ref b40), .val (.int dv), .val (.int y61)] [(.ref b40)])
            refine own_by (fun t k => XS.iload X66.here hx rfl (hb hby d8_136) rfl k) ?_
            show ORun p e below s _ _ _ T66 (mkF m 138 #[.val (.ref a1), .val (.ref b2), .val (.ref b35), .val (.ref b38), .val (.ref b40), .val (.int dv), .val (.int y61)] [(.int y61), (.ref b40)])
            refine own_by (fun t k => XT.dup2 X66.here hx rfl (hb hby d8_138) rfl rfl rfl k) ?_
            show ORun p e below s _ _ _ T66 (mkF m 139 #[.val (.ref a1), .val (.ref b2), .val (.ref b35), .val (.ref b38), .val (.ref b40), .val (.int dv), .val (.int y61)] [(.int y61), (.ref b40), (.int y61), (.ref b40)])
            refine own_iaload X66 hx hZ e66 ((VPl.keep K61 (ninS (Ne.symm ne_pa_b40) nin0)).other W66 (Ne.symm ne_gA_b40)) (i := q0) eyq (by omega) (hb hby d8_139) ?_
            intro v67 hv67
            have r67 := rng32 v67
            show ORun p e below s _ _ _ T66 (mkF m 140 #[.val (.ref a1), .val (.ref b2), .val (.ref b35), .val (.ref b38), .val (.ref b40), .val (.int dv), .val (.int y61)] [(.int v67), (.int y61), (.ref b40)])
            refine own_by (fun t k => XS.iconst X66.here hx rfl (hb hby d8_140) k) ?_
            show ORun p e below s _ _ _ T66 (mkF m 141 #[.val (.ref a1), .val (.ref b2), .val (.ref b35), .val (.ref b38), .val (.ref b40), .val (.int dv), .val (.int y61)] [(.int (1 : Int32)), (.int v67), (.int y61), (.ref b40)])
            refine own_by (fun t k => XS.iadd X66.here hx rfl (hb hby d8_141) rfl k) (own_letI (f := (fun z => (mkF m 142 #[.val (.ref a1), .val (.ref b2), .val (.ref b35), .val (.ref b38), .val (.ref b40), .val (.int dv), .val (.int y61)] [(.int z), (.int y61), (.ref b40)]))) (v67 + (1 : Int32)) fun v68 hv68 => ?_)
            show ORun p e below s _ _ _ T66 (mkF m 142 #[.val (.ref a1), .val (.ref b2), .val (.ref b35), .val (.ref b38), .val (.ref b40), .val (.int dv), .val (.int y61)] [(.int v68), (.int y61), (.ref b40)])
            have a68a : (v68.toInt - (v67.toInt + 1)) % 4294967296 = 0 := by rw [hv68]; exact c_iadd v67 (1 : Int32)
            have r68 := rng32 v68
            refine own_iastore X66 hx hZ e66 ((VPl.keep K61 (ninS (Ne.symm ne_pa_b40) nin0)).other W66 (Ne.symm ne_gA_b40)) (i := q0) eyq (by omega) (hb hby d8_142) ?_
            intro T69 h69 L69 X69 e69 W69 hL69 V69
            have len69 : L69.length = 5 := by rw [hL69, List.length_set]; exact lenp
            have N69 := Fr.snoc X69 N66 old_b40
            show ORun p e below s _ _ _ T69 (mkF m 143 #[.val (.ref a1), .val (.ref b2), .val (.ref b35), .val (.ref b38), .val (.ref b40), .val (.int dv), .val (.int y61)] [])
            have hPl2 : L69 = own_pl L (d + 1) := by rw [hL69, hv68, hv67, hpl2]
            have hd6 : d + 1 ≤ 5 := by omega
            refine own_by (fun t k => XS.iinc X69.here hx rfl (hb hby d8_143) rfl (l' := #[.val (.ref a1), .val (.ref b2), .val (.ref b35), .val (.ref b38), .val (.ref b40), .val (.int (dv + (1 : Int32))), .val (.int y61)]) rfl k) (own_letI (f := (fun z => (mkF m 146 #[.val (.ref a1), .val (.ref b2), .val (.ref b35), .val (.ref b38), .val (.ref b40), .val (.int z), .val (.int y61)] []))) (dv + (1 : Int32)) fun v70 hv70 => ?_)
            show ORun p e below s _ _ _ T69 (mkF m 146 #[.val (.ref a1), .val (.ref b2), .val (.ref b35), .val (.ref b38), .val (.ref b40), .val (.int v70), .val (.int y61)] [])
            have r70 := rng32 v70
            have a70 : v70.toInt = dv.toInt + 1 := by have q : (v70.toInt - (dv.toInt + 1)) % 4294967296 = 0 := (by rw [hv70]; exact c_iadd dv (1 : Int32)); omega
            have hdn : v70.toInt = ((d + 1 : Nat) : Int) := by omega
            refine own_by (fun t k => XS.goto X69.here hx rfl (pc0 := 146) (pc' := 65) rfl (hb hby d8_146) (by decide) (by decide) k) ?_
            show ORun p e below s _ _ _ T69 (mkF m 65 #[.val (.ref a1), .val (.ref b2), .val (.ref b35), .val (.ref b38), .val (.ref b40), .val (.int v70), .val (.int y61)] [])
            exact ih _ (by omega) T69 h69 _ v70 (.val (.int y61)) (d + 1) P61 mcx ed gA q0 (m0 ++ [Int32.ofNat d]) rfl (Or.inr ⟨_, rfl, rfl⟩) hdn hd6 X69 e69 N69 (((((Keep.refl h0 [pa]).trans Kl (allS (Or.inl (List.mem_of_getElem? (i := 0) rfl)) all0)).trans K61 (allS (Or.inl (List.mem_of_getElem? (i := 0) rfl)) all0)).wr W66 (Or.inr szA)).wr W69 (Or.inr sz_b40)) ((Vq61.other W66 (Ne.symm ne_gA_pa)).other W69 ne_pa_b40) hP61 I61 (((E1.keep K61).wr W66).wr W69) (((F1.keep K61 (ninS nep nin0)).other W66 (Or.inl (Ne.symm ne_gA_a1))).other W69 (Or.inl ne_a1_b40)) (((VSl.keep K61 (ninS (Ne.symm ne_pa_b2) nin0)).other W66 (Ne.symm ne_gA_b2)).other W69 ne_b2_b40) (((Enl.keep K61).wr W66).wr W69) (((Fel.keep K61 (ninS (Ne.symm ne_pa_b35) nin0)).other W66 (Or.inl (Ne.symm ne_gA_b35))).other W69 (Or.inl ne_b35_b40)) (((Fsl.keep K61 (ninS (Ne.symm ne_pa_b35) nin0)).other W66 (Or.inl (Ne.symm ne_gA_b35))).other W69 (Or.inl ne_b35_b40)) (((Fml.keep K61 (ninS (Ne.symm ne_pa_b35) nin0)).other W66 (Or.inl (Ne.symm ne_gA_b35))).other W69 (Or.inl ne_b35_b40)) (((VM.keep K61 (ninS (Ne.symm ne_pa_b38) nin0)).other W66 (Ne.symm ne_gA_b38)).other W69 ne_b38_b40) (by have z := V69; rw [hPl2] at z; exact z) hgr3 (((Vel.keep K61 (ninS ne_ed_pa nin0)).other W66 ne_ed_gA).other W69 ne_ed_b40) (by have z := (V66.other W69 ne_gA_b40); rw [hG2] at z; exact z) (((EA.keep K61).wr W66).wr W69) sze szA hq0 ne_gA_a1 ne_gA_pa ne_gA_b2 ne_gA_b35 ne_gA_b38 ne_gA_b40 ne_ed_a1 ne_ed_pa ne_ed_b2 ne_ed_b35 ne_ed_b38 ne_ed_b40 ne_ed_gA
          · have em : own_mem q [(q0, m0)] = [] := if_neg n0q
            rw [em] at t2 t3
            have hgr3 : own_gr L (d + 1) = [(q0, m0), (q, [Int32.ofNat d])] := by
              rw [hgr2]; show (if q0 = q then _ else (q0, m0) :: [(q, [Int32.ofNat d])]) = _
              rw [if_neg n0q]
            refine own_by (fun t k => XS.aloadN X61.here hx rfl (hb hby d8_94) rfl rfl k) ?_
            show ORun p e below s _ _ _ T61 (mkF m 95 #[.val (.ref a1), .val (.ref b2), .val (.ref b35), .val (.ref b38), .val (.ref b40), .val (.int dv), .val (.int y61)] [(.ref b38)])
            refine own_by (fun t k => XS.iload X61.here hx rfl (hb hby d8_95) rfl k) ?_
            show ORun p e below s _ _ _ T61 (mkF m 97 #[.val (.ref a1), .val (.ref b2), .val (.ref b35), .val (.ref b38), .val (.ref b40), .val (.int dv), .val (.int y61)] [(.int y61), (.ref b38)])
            refine own_aaloadA X61 hx hZ rfl (VM.keep K61 (ninS (Ne.symm ne_pa_b38) nin0)) (i := q) eyq (v := Value.null) ((own_setO n0q).trans (own_rep hq5)) (hb hby d8_97) ?_
            show ORun p e below s _ _ _ T61 (mkF m 98 #[.val (.ref a1), .val (.ref b2), .val (.ref b35), .val (.ref b38), .val (.ref b40), .val (.int dv), .val (.int y61)] [.null])
            refine own_by (fun t k => XS.ifnonnullNo X61.here hx rfl (hb hby d8_98) rfl k) ?_
            show ORun p e below s _ _ _ T61 (mkF m 101 #[.val (.ref a1), .val (.ref b2), .val (.ref b35), .val (.ref b38), .val (.ref b40), .val (.int dv), .val (.int y61)] [])
            refine own_by (fun t k => XS.aloadN X61.here hx rfl (hb hby d8_101) rfl rfl k) ?_
            show ORun p e below s _ _ _ T61 (mkF m 102 #[.val (.ref a1), .val (.ref b2), .val (.ref b35), .val (.ref b38), .val (.ref b40), .val (.int dv), .val (.int y61)] [(.ref b38)])
            refine own_by (fun t k => XS.iload X61.here hx rfl (hb hby d8_102) rfl k) ?_
            show ORun p e below s _ _ _ T61 (mkF m 104 #[.val (.ref a1), .val (.ref b2), .val (.ref b35), .val (.ref b38), .val (.ref b40), .val (.int dv), .val (.int y61)] [(.int y61), (.ref b38)])
            refine own_by (fun t k => XS.aloadN X61.here hx rfl (hb hby d8_104) rfl rfl k) ?_
            show ORun p e below s _ _ _ T61 (mkF m 105 #[.val (.ref a1), .val (.ref b2), .val (.ref b35), .val (.ref b38), .val (.ref b40), .val (.int dv), .val (.int y61)] [(.ref b2), (.int y61), (.ref b38)])
            refine own_by (fun t k => XS.iload X61.here hx rfl (hb hby d8_105) rfl k) ?_
            show ORun p e below s _ _ _ T61 (mkF m 107 #[.val (.ref a1), .val (.ref b2), .val (.ref b35), .val (.ref b38), .val (.ref b40), .val (.int dv), .val (.int y61)] [(.int y61), (.ref b2), (.int y61), (.ref b38)])
            refine own_iaload X61 hx hZ rfl (VSl.keep K61 (ninS (Ne.symm ne_pa_b2) nin0)) (i := q) eyq (by omega) (hb hby d8_107) ?_
            intro v71 hv71
            have r71 := rng32 v71
            show ORun p e below s _ _ _ T61 (mkF m 108 #[.val (.ref a1), .val (.ref b2), .val (.ref b35), .val (.ref b38), .val (.ref b40), .val (.int dv), .val (.int y61)] [(.int v71), (.int y61), (.ref b38)])
            have nv : v71.toInt = (((own_S L).getD q 0).toInt.toNat : Int) := by rw [hv71]; omega
            refine own_newarray X61 hx hZ (aty := .int) (hw _ (List.mem_of_getElem? (i := 9) rfl)) rfl rfl (N := ((own_S L).getD q 0).toInt.toNat) (cap := 5) nv (by omega) (by decide) (by decide) (by decide) (ad := "[I") (by decide) (hb hby d8_108) ?_
            intro T72 h72 b72 L72 g72 X72 e72 E72 hL72 V72 Ex72
            have len72 : L72.length = ((own_S L).getD q 0).toInt.toNat := by rw [hL72]; exact List.length_replicate
            have old_b72 : n0 ≤ b72 := Nat.le_trans (Nat.le_trans (Nat.le_trans Z0 Kl.1) K61.1) (Nat.le_of_eq g72.symm)
            have sz_b72 : h0.size ≤ b72 := Nat.le_trans (Nat.le_trans (Nat.le_trans (Nat.le_refl h0.size) Kl.1) K61.1) (Nat.le_of_eq g72.symm)
            have ne_pa_b72 : pa ≠ b72 := Nat.ne_of_lt (Nat.lt_of_lt_of_le Vq61.lt (Nat.le_of_eq g72.symm))
            have ne_a1_b72 : a1 ≠ b72 := Nat.ne_of_lt (Nat.lt_of_lt_of_le (E1.keep K61).lt (Nat.le_of_eq g72.symm))
            have ne_b2_b72 : b2 ≠ b72 := Nat.ne_of_lt (Nat.lt_of_lt_of_le (VSl.keep K61 (ninS (Ne.symm ne_pa_b2) nin0)).lt (Nat.le_of_eq g72.symm))
            have ne_b35_b72 : b35 ≠ b72 := Nat.ne_of_lt (Nat.lt_of_lt_of_le (Enl.keep K61).lt (Nat.le_of_eq g72.symm))
            have ne_b38_b72 : b38 ≠ b72 := Nat.ne_of_lt (Nat.lt_of_lt_of_le (VM.keep K61 (ninS (Ne.symm ne_pa_b38) nin0)).lt (Nat.le_of_eq g72.symm))
            have ne_b40_b72 : b40 ≠ b72 := Nat.ne_of_lt (Nat.lt_of_lt_of_le (VPl.keep K61 (ninS (Ne.symm ne_pa_b40) nin0)).lt (Nat.le_of_eq g72.symm))
            have ne_ed_b72 : ed ≠ b72 := Nat.ne_of_lt (Nat.lt_of_lt_of_le (Vel.keep K61 (ninS ne_ed_pa nin0)).lt (Nat.le_of_eq g72.symm))
            have ne_gA_b72 : gA ≠ b72 := Nat.ne_of_lt (Nat.lt_of_lt_of_le (VA.keep K61 (ninS ne_gA_pa nin0)).lt (Nat.le_of_eq g72.symm))
            show ORun p e below s _ _ _ T72 (mkF m 110 #[.val (.ref a1), .val (.ref b2), .val (.ref b35), .val (.ref b38), .val (.ref b40), .val (.int dv), .val (.int y61)] [(.ref b72), (.int y61), (.ref b38)])
            refine own_aastoreA X72 hx hZ e72 ((VM.keep K61 (ninS (Ne.symm ne_pa_b38) nin0)).ext E72) (Ins.self Ex72) (i := q) eyq (by simpa using hq5) (hb hby d8_110) ?_
            intro T73 h73 X73 e73 W73 V73
            have N73 := Fr.snoc X73 N61 old_b38
            show ORun p e below s _ _ _ T73 (mkF m 111 #[.val (.ref a1), .val (.ref b2), .val (.ref b35), .val (.ref b38), .val (.ref b40), .val (.int dv), .val (.int y61)] [])
            refine own_by (fun t k => XS.aloadN X73.here hx rfl (hb hby d8_111) rfl rfl k) ?_
            show ORun p e below s _ _ _ T73 (mkF m 112 #[.val (.ref a1), .val (.ref b2), .val (.ref b35), .val (.ref b38), .val (.ref b40), .val (.int dv), .val (.int y61)] [(.ref b35)])
            refine own_by (fun t k => XS.aloadN X73.here hx rfl (hb hby d8_112) rfl rfl k) ?_
            show ORun p e below s _ _ _ T73 (mkF m 113 #[.val (.ref a1), .val (.ref b2), .val (.ref b35), .val (.ref b38), .val (.ref b40), .val (.int dv), .val (.int y61)] [(.ref b38), (.ref b35)])
            refine own_by (fun t k => XS.iload X73.here hx rfl (hb hby d8_113) rfl k) ?_
            show ORun p e below s _ _ _ T73 (mkF m 115 #[.val (.ref a1), .val (.ref b2), .val (.ref b35), .val (.ref b38), .val (.ref b40), .val (.int dv), .val (.int y61)] [(.int y61), (.ref b38), (.ref b35)])
            refine own_aaloadA X73 hx hZ e73 V73 (i := q) eyq (v := Value.ref b72) (own_setS (by simpa using hq5)) (hb hby d8_115) ?_
            show ORun p e below s _ _ _ T73 (mkF m 116 #[.val (.ref a1), .val (.ref b2), .val (.ref b35), .val (.ref b38), .val (.ref b40), .val (.int dv), .val (.int y61)] [(.ref b72), (.ref b35)])
            refine own_callI X73 hx hZ hown (((Enl.keep K61).ext E72).wr W73) (hw _ (List.mem_of_getElem? (i := 64) rfl)) (hw _ (List.mem_of_getElem? (i := 65) rfl)) (hw _ (List.mem_of_getElem? (i := 66) rfl)) (by first | rfl | simp [Cond.onTables, Cond.keepsFace, Cond.keeps, Cond.steady]) (hw _ (List.mem_of_getElem? (i := 67) rfl)) (hw _ (List.mem_of_getElem? (i := 68) rfl)) (hw _ (List.mem_of_getElem? (i := 69) rfl)) (hw _ (List.mem_of_getElem? (i := 70) rfl)) (hw _ (List.mem_of_getElem? (i := 71) rfl)) (hw _ (List.mem_of_getElem? (i := 39) rfl)) (hw _ (List.mem_of_getElem? (i := 72) rfl)) (by decide) (rmaddB l Z a0 hw [] h73 n0 (Nat.le_trans (Nat.le_trans (Nat.le_trans (Nat.le_trans Z0 Kl.1) K61.1) E72.1) (Keep.of_wr W73).1) b35 ed mcx gA (Nat.le_trans Z0 sze) (((Vel.keep K61 (ninS ne_ed_pa nin0)).ext E72).other W73 ne_ed_b38) (((Enl.keep K61).ext E72).wr W73) old_b35 (((Fel.keep K61 (ninS (Ne.symm ne_pa_b35) nin0)).ext E72).other W73 (Or.inl ne_b35_b38)) (((Fsl.keep K61 (ninS (Ne.symm ne_pa_b35) nin0)).ext E72).other W73 (Or.inl ne_b35_b38)) (((Fml.keep K61 (ninS (Ne.symm ne_pa_b35) nin0)).ext E72).other W73 (Or.inl ne_b35_b38)) ne_ed_b35 b72 (Ex72.wr W73) (Ne.symm ne_b35_b72)) e73 (by decide) (W := 0) (by decide) (by decide) (by decide) (argsL := [(.ref b72)]) (rest := []) (by rw [hml]; rfl) (lenOf pd_13 rfl) rfl rfl (Nat.le_of_eq rfl) (hb hby d8_116) ?_
            intro T74 L74 u74 X74 hQ74
            obtain ⟨rfl, Nq74, K74, ed74, mc74, sz_q74, En74, Fe74, Fs74, Fm74, Vq74⟩ := hQ74
            have N74 := Fr.app N73 Nq74
            rw [sz_q74] at Fe74 Vq74
            show ORun p e below s _ _ _ T74 (mkF m 121 #[.val (.ref a1), .val (.ref b2), .val (.ref b35), .val (.ref b38), .val (.ref b40), .val (.int dv), .val (.int y61)] [(.int (1 : Int32))])
            refine own_by (fun t k => XS.pop X74.here hx rfl (hb hby d8_121) rfl rfl k) ?_
            show ORun p e below s _ _ _ T74 (mkF m 122 #[.val (.ref a1), .val (.ref b2), .val (.ref b35), .val (.ref b38), .val (.ref b40), .val (.int dv), .val (.int y61)] [])
            refine own_by (fun t k => XS.aloadN X74.here hx rfl (hb hby d8_122) rfl rfl k) ?_
            show ORun p e below s _ _ _ T74 (mkF m 123 #[.val (.ref a1), .val (.ref b2), .val (.ref b35), .val (.ref b38), .val (.ref b40), .val (.int dv), .val (.int y61)] [(.ref b38)])
            refine own_by (fun t k => XS.iload X74.here hx rfl (hb hby d8_123) rfl k) ?_
            show ORun p e below s _ _ _ T74 (mkF m 125 #[.val (.ref a1), .val (.ref b2), .val (.ref b35), .val (.ref b38), .val (.ref b40), .val (.int dv), .val (.int y61)] [(.int y61), (.ref b38)])
            refine own_aaloadA X74 hx hZ rfl (V73.keep K74 (ninS (Ne.symm ne_b35_b38) (ninS (Ne.symm ne_ed_b38) nin0))) (i := q) eyq (v := Value.ref b72) (own_setS (by simpa using hq5)) (hb hby d8_125) ?_
            show ORun p e below s _ _ _ T74 (mkF m 126 #[.val (.ref a1), .val (.ref b2), .val (.ref b35), .val (.ref b38), .val (.ref b40), .val (.int dv), .val (.int y61)] [(.ref b72)])
            refine own_by (fun t k => XS.aload X74.here hx rfl (hb hby d8_126) rfl rfl k) ?_
            show ORun p e below s _ _ _ T74 (mkF m 128 #[.val (.ref a1), .val (.ref b2), .val (.ref b35), .val (.ref b38), .val (.ref b40), .val (.int dv), .val (.int y61)] [(.ref b40), (.ref b72)])
            refine own_by (fun t k => XS.iload X74.here hx rfl (hb hby d8_128) rfl k) ?_
            show ORun p e below s _ _ _ T74 (mkF m 130 #[.val (.ref a1), .val (.ref b2), .val (.ref b35), .val (.ref b38), .val (.ref b40), .val (.int dv), .val (.int y61)] [(.int y61), (.ref b40), (.ref b72)])
            refine own_iaload X74 hx hZ rfl ((((VPl.keep K61 (ninS (Ne.symm ne_pa_b40) nin0)).ext E72).other W73 (Ne.symm ne_b38_b40)).keep K74 (ninS (Ne.symm ne_b35_b40) (ninS (Ne.symm ne_ed_b40) nin0))) (i := q) eyq (by omega) (hb hby d8_130) ?_
            intro v75 hv75
            have r75 := rng32 v75
            show ORun p e below s _ _ _ T74 (mkF m 131 #[.val (.ref a1), .val (.ref b2), .val (.ref b35), .val (.ref b38), .val (.ref b40), .val (.int dv), .val (.int y61)] [(.int v75), (.ref b72)])
            rw [t3] at hv75
            have iv : v75.toInt = (([] : List Int32).length : Int) := by rw [hv75]; exact Int32.toInt_ofNat_of_lt (by omega)
            refine own_by (fun t k => XS.iload X74.here hx rfl (hb hby d8_131) rfl k) ?_
            show ORun p e below s _ _ _ T74 (mkF m 133 #[.val (.ref a1), .val (.ref b2), .val (.ref b35), .val (.ref b38), .val (.ref b40), .val (.int dv), .val (.int y61)] [(.int dv), (.int v75), (.ref b72)])
            refine own_iastore X74 hx hZ rfl ((V72.other W73 (Ne.symm ne_b38_b72)).keep K74 (ninS (Ne.symm ne_b35_b72) (ninS (Ne.symm ne_ed_b72) nin0))) (i := ([] : List Int32).length) iv (by rw [len72]; exact t2) (hb hby d8_133) ?_
            intro T76 h76 L76 X76 e76 W76 hL76 V76
            have len76 : L76.length = ((own_S L).getD q 0).toInt.toNat := by rw [hL76, List.length_set]; exact len72
            have N76 := Fr.snoc X76 N74 old_b72
            show ORun p e below s _ _ _ T76 (mkF m 134 #[.val (.ref a1), .val (.ref b2), .val (.ref b35), .val (.ref b38), .val (.ref b40), .val (.int dv), .val (.int y61)] [])
            have hG2 : L76 = (([Int32.ofNat d] : List Int32) ++ List.replicate (((own_S L).getD q 0).toInt.toNat - ([Int32.ofNat d] : List Int32).length) 0) := by rw [hL76, hL72, edv]; exact own_app [] _ t2
            refine own_by (fun t k => XS.aload X76.here hx rfl (hb hby d8_134) rfl rfl k) ?_
            show ORun p e below s _ _ _ T76 (mkF m 136 #[.val (.ref a1), .val (.ref b2), .val (.ref b35), .val (.ref b38), .val (.ref b40), .val (.int dv), .val (.int y61)] [(.ref b40)])
            refine own_by (fun t k => XS.iload X76.here hx rfl (hb hby d8_136) rfl k) ?_
            show ORun p e below s _ _ _ T76 (mkF m 138 #[.val (.ref a1), .val (.ref b2), .val (.ref b35), .val (.ref b38), .val (.ref b40), .val (.int dv), .val (.int y61)] [(.int y61), (.ref b40)])
            refine own_by (fun t k => XT.dup2 X76.here hx rfl (hb hby d8_138) rfl rfl rfl k) ?_
            show ORun p e below s _ _ _ T76 (mkF m 139 #[.val (.ref a1), .val (.ref b2), .val (.ref b35), .val (.ref b38), .val (.ref b40), .val (.int dv), .val (.int y61)] [(.int y61), (.ref b40), (.int y61), (.ref b40)])
            refine own_iaload X76 hx hZ e76 (((((VPl.keep K61 (ninS (Ne.symm ne_pa_b40) nin0)).ext E72).other W73 (Ne.symm ne_b38_b40)).keep K74 (ninS (Ne.symm ne_b35_b40) (ninS (Ne.symm ne_ed_b40) nin0))).other W76 ne_b40_b72) (i := q) eyq (by omega) (hb hby d8_139) ?_
            intro v77 hv77
            have r77 := rng32 v77
            show ORun p e below s _ _ _ T76 (mkF m 140 #[.val (.ref a1), .val (.ref b2), .val (.ref b35), .val (.ref b38), .val (.ref b40), .val (.int dv), .val (.int y61)] [(.int v77), (.int y61), (.ref b40)])
            refine own_by (fun t k => XS.iconst X76.here hx rfl (hb hby d8_140) k) ?_
            show ORun p e below s _ _ _ T76 (mkF m 141 #[.val (.ref a1), .val (.ref b2), .val (.ref b35), .val (.ref b38), .val (.ref b40), .val (.int dv), .val (.int y61)] [(.int (1 : Int32)), (.int v77), (.int y61), (.ref b40)])
            refine own_by (fun t k => XS.iadd X76.here hx rfl (hb hby d8_141) rfl k) (own_letI (f := (fun z => (mkF m 142 #[.val (.ref a1), .val (.ref b2), .val (.ref b35), .val (.ref b38), .val (.ref b40), .val (.int dv), .val (.int y61)] [(.int z), (.int y61), (.ref b40)]))) (v77 + (1 : Int32)) fun v78 hv78 => ?_)
            show ORun p e below s _ _ _ T76 (mkF m 142 #[.val (.ref a1), .val (.ref b2), .val (.ref b35), .val (.ref b38), .val (.ref b40), .val (.int dv), .val (.int y61)] [(.int v78), (.int y61), (.ref b40)])
            have a78a : (v78.toInt - (v77.toInt + 1)) % 4294967296 = 0 := by rw [hv78]; exact c_iadd v77 (1 : Int32)
            have r78 := rng32 v78
            refine own_iastore X76 hx hZ e76 (((((VPl.keep K61 (ninS (Ne.symm ne_pa_b40) nin0)).ext E72).other W73 (Ne.symm ne_b38_b40)).keep K74 (ninS (Ne.symm ne_b35_b40) (ninS (Ne.symm ne_ed_b40) nin0))).other W76 ne_b40_b72) (i := q) eyq (by omega) (hb hby d8_142) ?_
            intro T79 h79 L79 X79 e79 W79 hL79 V79
            have len79 : L79.length = 5 := by rw [hL79, List.length_set]; exact lenp
            have N79 := Fr.snoc X79 N76 old_b40
            show ORun p e below s _ _ _ T79 (mkF m 143 #[.val (.ref a1), .val (.ref b2), .val (.ref b35), .val (.ref b38), .val (.ref b40), .val (.int dv), .val (.int y61)] [])
            have hPl2 : L79 = own_pl L (d + 1) := by rw [hL79, hv78, hv77, hpl2]
            have hd6 : d + 1 ≤ 5 := by omega
            refine own_by (fun t k => XS.iinc X79.here hx rfl (hb hby d8_143) rfl (l' := #[.val (.ref a1), .val (.ref b2), .val (.ref b35), .val (.ref b38), .val (.ref b40), .val (.int (dv + (1 : Int32))), .val (.int y61)]) rfl k) (own_letI (f := (fun z => (mkF m 146 #[.val (.ref a1), .val (.ref b2), .val (.ref b35), .val (.ref b38), .val (.ref b40), .val (.int z), .val (.int y61)] []))) (dv + (1 : Int32)) fun v80 hv80 => ?_)
            show ORun p e below s _ _ _ T79 (mkF m 146 #[.val (.ref a1), .val (.ref b2), .val (.ref b35), .val (.ref b38), .val (.ref b40), .val (.int v80), .val (.int y61)] [])
            have r80 := rng32 v80
            have a80 : v80.toInt = dv.toInt + 1 := by have q : (v80.toInt - (dv.toInt + 1)) % 4294967296 = 0 := (by rw [hv80]; exact c_iadd dv (1 : Int32)); omega
            have hdn : v80.toInt = ((d + 1 : Nat) : Int) := by omega
            refine own_by (fun t k => XS.goto X79.here hx rfl (pc0 := 146) (pc' := 65) rfl (hb hby d8_146) (by decide) (by decide) k) ?_
            show ORun p e below s _ _ _ T79 (mkF m 65 #[.val (.ref a1), .val (.ref b2), .val (.ref b35), .val (.ref b38), .val (.ref b40), .val (.int v80), .val (.int y61)] [])
            exact LP2 _ T79 h79 _ v80 (.val (.int y61)) (d + 1) P61 mc74 ed gA q0 m0 b72 q ([Int32.ofNat d] : List Int32) rfl (Or.inr ⟨_, rfl, rfl⟩) hdn hd6 X79 e79 N79 ((((((((Keep.refl h0 [pa]).trans Kl (allS (Or.inl (List.mem_of_getElem? (i := 0) rfl)) all0)).trans K61 (allS (Or.inl (List.mem_of_getElem? (i := 0) rfl)) all0)).ext E72).wr W73 (Or.inr sz_b38)).trans K74 (allS (Or.inr sz_b35) (allS (Or.inr sze) all0))).wr W76 (Or.inr sz_b72)).wr W79 (Or.inr sz_b40)) (((((Vq61.ext E72).other W73 ne_pa_b38).keep K74 (ninS ne_pa_b35 (ninS (Ne.symm ne_ed_pa) nin0))).other W76 ne_pa_b72).other W79 ne_pa_b40) hP61 I61 ((((((E1.keep K61).ext E72).wr W73).keep K74).wr W76).wr W79) ((((((F1.keep K61 (ninS nep nin0)).ext E72).other W73 (Or.inl ne_a1_b38)).keep K74 (ninS ne_a1_b35 (ninS (Ne.symm ne_ed_a1) nin0))).other W76 (Or.inl ne_a1_b72)).other W79 (Or.inl ne_a1_b40)) ((((((VSl.keep K61 (ninS (Ne.symm ne_pa_b2) nin0)).ext E72).other W73 ne_b2_b38).keep K74 (ninS ne_b2_b35 (ninS (Ne.symm ne_ed_b2) nin0))).other W76 ne_b2_b72).other W79 ne_b2_b40) ((En74.wr W76).wr W79) ((Fe74.other W76 (Or.inl ne_b35_b72)).other W79 (Or.inl ne_b35_b40)) ((Fs74.other W76 (Or.inl ne_b35_b72)).other W79 (Or.inl ne_b35_b40)) ((Fm74.other W76 (Or.inl ne_b35_b72)).other W79 (Or.inl ne_b35_b40)) (((V73.keep K74 (ninS (Ne.symm ne_b35_b38) (ninS (Ne.symm ne_ed_b38) nin0))).other W76 ne_b38_b72).other W79 ne_b38_b40) (by have z := V79; rw [hPl2] at z; exact z) hgr3 ((Vq74.other W76 ne_ed_b72).other W79 ne_ed_b40) ((((((VA.keep K61 (ninS ne_gA_pa nin0)).ext E72).other W73 ne_gA_b38).keep K74 (ninS ne_gA_b35 (ninS (Ne.symm ne_ed_gA) nin0))).other W76 ne_gA_b72).other W79 ne_gA_b40) ((((((EA.keep K61).ext E72).wr W73).keep K74).wr W76).wr W79) sze szA hq0 (by have z := (V76.other W79 (Ne.symm ne_b40_b72)); rw [hG2] at z; exact z) ((((Ex72.wr W73).keep K74).wr W76).wr W79) sz_b72 hq5 n0q ne_gA_a1 ne_gA_pa ne_gA_b2 ne_gA_b35 ne_gA_b38 ne_gA_b40 ne_ed_a1 ne_ed_pa ne_ed_b2 ne_ed_b35 ne_ed_b38 ne_ed_b40 ne_ed_gA (Ne.symm ne_a1_b72) (Ne.symm ne_pa_b72) (Ne.symm ne_b2_b72) (Ne.symm ne_b35_b72) (Ne.symm ne_b38_b72) (Ne.symm ne_b40_b72) (Ne.symm ne_ed_b72) (Ne.symm ne_gA_b72)
      · have t60 := own_nlt hc60 (a := dv.toInt) (b := 5) rfl (by decide)
        refine own_by (fun t k => XS.icmpYes X59.here hx rfl (pc0 := 72) (pc' := 149) rfl (hb hby d8_72) rfl (flt hc60).2.1 (by decide) (by decide) k) ?_
        show ORun p e below s _ _ _ T59 (mkF m 149 #[.val (.ref a1), .val (.ref b2), .val (.ref b35), .val (.ref b38), .val (.ref b40), .val (.int dv), s6] [])
        refine own_by (fun t k => XS.aloadN X59.here hx rfl (hb hby d8_149) rfl rfl k) ?_
        show ORun p e below s _ _ _ T59 (mkF m 150 #[.val (.ref a1), .val (.ref b2), .val (.ref b35), .val (.ref b38), .val (.ref b40), .val (.int dv), s6] [(.ref b35)])
        refine own_retA X59 hx hret rfl rfl rfl hlk (hb hby d8_150) (by decide) (by decide) ?_
        have hdd : d = 5 := by omega
        rw [hdd] at hgr
        have he0 : m0.length = ((own_S L).getD q0 0).toInt.toNat := he (q0, m0) (by rw [hgr]; simp)
        rw [e59]
        exact ⟨b35, rfl, Nl, ((Keep.refl h0 [pa]).trans Kl (allS (Or.inl (List.mem_of_getElem? (i := 0) rfl)) all0)), sz_b35, Enl, Or.inr (Or.inl ⟨ed, gA, q0, m0, hgr, Fsl, Fel, Vel, (by have z := VA; rw [he0, Nat.sub_self, List.replicate_zero, List.append_nil] at z; exact z), EA⟩)⟩
  have LP0 : ∀ (kk : Nat) (Tl : State) (hl : Heap) (lo : List Loc) (dv : Int32) (s6 : Slot) (d : Nat) (P1 : List Int32) (mcx : Int32), (5 - d = kk) → (s6 = .unset ∨ ∃ w, s6 = .val w ∧ w.category = 1) → (dv.toInt = d) → (d ≤ 5) → (Stand p l e ({ frames := 5, cells := 8, slots := 60, locals := 160 } : Room) s m #[(.ref a1)] below meth c Tl lo 4 18) → (Tl.heap = hl) → (Fr n0 lo) → (Keep h0 hl [pa]) → (OVec Z hl pa .int P1) → (P1.length = 5) → (InvR P1 L r) → (Exa Z hl a1 "com/example/kembar/kembar/cluster/Clusters") → (Fld Z hl a1 "com/example/kembar/kembar/cluster/Clusters" "parents" "[I" (.ref pa)) → (OVec Z hl b2 .int (own_S L)) → (Exa Z hl b35 "java/util/ArrayList") → (Fld Z hl b35 "java/util/ArrayList" "elementData" "[Ljava/lang/Object;" (.ref de)) → (Fld Z hl b35 "java/util/ArrayList" "size" "I" (.int 0)) → (Fld Z hl b35 "java/util/AbstractList" "modCount" "I" (.int mcx)) → (OVecA Z hl b38 (List.replicate 5 Value.null)) → (OVec Z hl b40 .int (own_pl L d)) → (own_gr L d = []) → (Sta Z hl "java/util/ArrayList" "DEFAULTCAPACITY_EMPTY_ELEMENTDATA" "[Ljava/lang/Object;" (.ref de)) → (OVecR Z hl de "java/lang/Object" []) → ORun p e below s (fun v h L' => ∃ al : Addr, v = some (.ref al) ∧ Fr n0 L' ∧ Keep h0 h [pa] ∧ h0.size ≤ al ∧ Exa Z h al "java/util/ArrayList" ∧ ((own_gr L 5 = [] ∧ Fld Z h al "java/util/ArrayList" "size" "I" (.int 0)) ∨ (∃ (ed gA : Addr) (q0 : Nat) (m0 : List Int32), own_gr L 5 = [(q0, m0)] ∧ Fld Z h al "java/util/ArrayList" "size" "I" (.int 1) ∧ Fld Z h al "java/util/ArrayList" "elementData" "[Ljava/lang/Object;" (.ref ed) ∧ OVecR Z h ed "java/lang/Object" [.ref gA, .null, .null, .null, .null, .null, .null, .null, .null, .null] ∧ OVec Z h gA .int m0 ∧ Exa Z h gA "[I") ∨ (∃ (ed gA gB : Addr) (q0 q1 : Nat) (m0 m1 : List Int32), own_gr L 5 = [(q0, m0), (q1, m1)] ∧ Fld Z h al "java/util/ArrayList" "size" "I" (.int 2) ∧ Fld Z h al "java/util/ArrayList" "elementData" "[Ljava/lang/Object;" (.ref ed) ∧ OVecR Z h ed "java/lang/Object" [.ref gA, .ref gB, .null, .null, .null, .null, .null, .null, .null, .null] ∧ OVec Z h gA .int m0 ∧ Exa Z h gA "[I" ∧ OVec Z h gB .int m1 ∧ Exa Z h gB "[I"))) ({ frames := 5, cells := 8, slots := 60, locals := 160 } : Room).cells ({ frames := 5, cells := 8, slots := 60, locals := 160 } : Room).slots Tl (mkF m 65 #[.val (.ref a1), .val (.ref b2), .val (.ref b35), .val (.ref b38), .val (.ref b40), .val (.int dv), s6] []) := by
    intro kk
    induction kk using Nat.strongRecOn with
    | _ kk ih =>
      intro Tl hl lo dv s6 d P1 mcx hk hs6 hdv hd5 Xl el Nl Kl VP hP1 I1 E1 F1 VSl Enl Fel Fsl Fml VM VPl hgr Sdl Vdl
      have lenp : (own_pl L d).length = 5 := own_pllen L d
      show ORun p e below s _ _ _ Tl (mkF m 65 #[.val (.ref a1), .val (.ref b2), .val (.ref b35), .val (.ref b38), .val (.ref b40), .val (.int dv), s6] [])
      refine own_by (fun t k => XS.iload Xl.here hx rfl (hb hby d8_65) rfl k) ?_
      show ORun p e below s _ _ _ Tl (mkF m 67 #[.val (.ref a1), .val (.ref b2), .val (.ref b35), .val (.ref b38), .val (.ref b40), .val (.int dv), s6] [(.int dv)])
      refine own_by (fun t k => XS.aloadN Xl.here hx rfl (hb hby d8_67) rfl rfl k) ?_
      show ORun p e below s _ _ _ Tl (mkF m 68 #[.val (.ref a1), .val (.ref b2), .val (.ref b35), .val (.ref b38), .val (.ref b40), .val (.int dv), s6] [(.ref a1), (.int dv)])
      obtain ⟨T81, X81, e81, st81⟩ := getF Xl hx hZ hown (host := "") (Or.inl (hw _ (List.mem_of_getElem? (i := 10) rfl))) Via.refl el F1 (g := (mkF m 68 #[.val (.ref a1), .val (.ref b2), .val (.ref b35), .val (.ref b38), .val (.ref b40), .val (.int dv), s6] [(.ref a1), (.int dv)])) rfl rfl (hb hby d8_68)
      refine own_by st81 ?_
      show ORun p e below s _ _ _ T81 (mkF m 71 #[.val (.ref a1), .val (.ref b2), .val (.ref b35), .val (.ref b38), .val (.ref b40), .val (.int dv), s6] [(.ref pa), (.int dv)])
      refine own_len X81 hx hZ e81 VP (n := 5) hP1 (hb hby d8_71) ?_
      show ORun p e below s _ _ _ T81 (mkF m 72 #[.val (.ref a1), .val (.ref b2), .val (.ref b35), .val (.ref b38), .val (.ref b40), .val (.int dv), s6] [(.int (5 : Int32)), (.int dv)])
      by_cases hc82 : dv < (5 : Int32)
      · have t82 := own_lt hc82 (a := dv.toInt) (b := 5) rfl (by decide)
        refine own_by (fun t k => XS.icmpNo X81.here hx rfl (hb hby d8_72) rfl (tlt hc82).2.1 k) ?_
        show ORun p e below s _ _ _ T81 (mkF m 75 #[.val (.ref a1), .val (.ref b2), .val (.ref b35), .val (.ref b38), .val (.ref b40), .val (.int dv), s6] [])
        refine own_by (fun t k => XS.aloadN X81.here hx rfl (hb hby d8_75) rfl rfl k) ?_
        show ORun p e below s _ _ _ T81 (mkF m 76 #[.val (.ref a1), .val (.ref b2), .val (.ref b35), .val (.ref b38), .val (.ref b40), .val (.int dv), s6] [(.ref a1)])
        refine own_by (fun t k => XS.iload X81.here hx rfl (hb hby d8_76) rfl k) ?_
        show ORun p e below s _ _ _ T81 (mkF m 78 #[.val (.ref a1), .val (.ref b2), .val (.ref b35), .val (.ref b38), .val (.ref b40), .val (.int dv), s6] [(.int dv), (.ref a1)])
        refine own_callP X81 hx hZ hown E1 (hw _ (List.mem_of_getElem? (i := 22) rfl)) (hw _ (List.mem_of_getElem? (i := 23) rfl)) (own_selP (x := ({ cls := "com/example/kembar/kembar/cluster/Clusters", name := "join", desc := "(II)V" } : Jvm.MethodName)) rfl (hw _ (List.mem_of_getElem? (i := 20) rfl)) (hw _ (List.mem_of_getElem? (i := 24) rfl)) (hw _ (List.mem_of_getElem? (i := 23) rfl)) (by decide)) (hw _ (List.mem_of_getElem? (i := 24) rfl)) (hw _ (List.mem_of_getElem? (i := 2) rfl)) (hw _ (List.mem_of_getElem? (i := 25) rfl)) (by decide) (rm5 l Z a0 hw [] hl n0 (Nat.le_trans Z0 Kl.1) a1 pa dv P1 L r E1 F1 VP hP1 gp nep I1 (by omega)) e81 (by decide) (W := 0) (by decide) (by decide) (by decide) (argsL := [(.int dv)]) (rest := []) (by rw [hml]; rfl) (lenOf pd_1 rfl) rfl rfl (Nat.le_of_eq rfl) (hb hby d8_78) ?_
        intro T83 L83 u83 X83 hQ83
        obtain ⟨P83, rfl, Nq83, K83, Vq83, hP83, I83⟩ := hQ83
        refine own_letI (f := fun z => (mkF m 81 #[.val (.ref a1), .val (.ref b2), .val (.ref b35), .val (.ref b38), .val (.ref b40), .val (.int dv), s6] [(.int z)])) ((L : List Int32).getD (dv).toInt.toNat 0) fun y83 hy83 => ?_
        have N83 := Fr.app Nl Nq83
        have hyb83 : 0 ≤ y83.toInt ∧ y83.toInt < 5 := by rw [hy83]; exact (I83 dv.toInt.toNat (by omega)).2.1
        show ORun p e below s _ _ _ T83 (mkF m 81 #[.val (.ref a1), .val (.ref b2), .val (.ref b35), .val (.ref b38), .val (.ref b40), .val (.int dv), s6] [(.int y83)])
        refine own_by (fun t k => XS.istore X83.here hx rfl (hb hby d8_81) rfl (l' := #[.val (.ref a1), .val (.ref b2), .val (.ref b35), .val (.ref b38), .val (.ref b40), .val (.int dv), .val (.int y83)]) (XS.store1 rfl hs6 rfl) k) ?_
        show ORun p e below s _ _ _ T83 (mkF m 83 #[.val (.ref a1), .val (.ref b2), .val (.ref b35), .val (.ref b38), .val (.ref b40), .val (.int dv), .val (.int y83)] [])
        have hdt : dv.toInt.toNat = d := by omega
        rw [hdt] at hy83
        obtain ⟨q, eq⟩ : ∃ z, z = own_g L d := ⟨_, rfl⟩
        have ey : y83.toInt.toNat = q := by rw [hy83, eq]; rfl
        have hq5 : q < 5 := by omega
        have eyq : y83.toInt = (q : Int) := by omega
        refine own_by (fun t k => XS.aloadN X83.here hx rfl (hb hby d8_83) rfl rfl k) ?_
        show ORun p e below s _ _ _ T83 (mkF m 84 #[.val (.ref a1), .val (.ref b2), .val (.ref b35), .val (.ref b38), .val (.ref b40), .val (.int dv), .val (.int y83)] [(.ref b2)])
        refine own_by (fun t k => XS.iload X83.here hx rfl (hb hby d8_84) rfl k) ?_
        show ORun p e below s _ _ _ T83 (mkF m 86 #[.val (.ref a1), .val (.ref b2), .val (.ref b35), .val (.ref b38), .val (.ref b40), .val (.int dv), .val (.int y83)] [(.int y83), (.ref b2)])
        refine own_iaload X83 hx hZ rfl (VSl.keep K83 (ninS (Ne.symm ne_pa_b2) nin0)) (i := q) eyq (by omega) (hb hby d8_86) ?_
        intro v84 hv84
        have r84 := rng32 v84
        show ORun p e below s _ _ _ T83 (mkF m 87 #[.val (.ref a1), .val (.ref b2), .val (.ref b35), .val (.ref b38), .val (.ref b40), .val (.int dv), .val (.int y83)] [(.int v84)])
        refine own_by (fun t k => XS.iconst X83.here hx rfl (hb hby d8_87) k) ?_
        show ORun p e below s _ _ _ T83 (mkF m 88 #[.val (.ref a1), .val (.ref b2), .val (.ref b35), .val (.ref b38), .val (.ref b40), .val (.int dv), .val (.int y83)] [(.int (2 : Int32)), (.int v84)])
        by_cases hc85 : v84 < (2 : Int32)
        · have t85 := own_lt hc85 (a := v84.toInt) (b := 2) rfl (by decide)
          refine own_by (fun t k => XS.icmpNo X83.here hx rfl (hb hby d8_88) rfl (tlt hc85).2.1 k) ?_
          show ORun p e below s _ _ _ T83 (mkF m 91 #[.val (.ref a1), .val (.ref b2), .val (.ref b35), .val (.ref b38), .val (.ref b40), .val (.int dv), .val (.int y83)] [])
          have hlt : ((own_S L).getD (own_g L d) 0).toInt < 2 := by rw [← eq, ← hv84]; omega
          have hgr2 : own_gr L (d + 1) = [] := by rw [← hgr]; exact if_pos hlt
          have hpl2 : own_pl L (d + 1) = own_pl L d := if_pos hlt
          refine own_by (fun t k => XS.goto X83.here hx rfl (pc0 := 91) (pc' := 143) rfl (hb hby d8_91) (by decide) (by decide) k) ?_
          show ORun p e below s _ _ _ T83 (mkF m 143 #[.val (.ref a1), .val (.ref b2), .val (.ref b35), .val (.ref b38), .val (.ref b40), .val (.int dv), .val (.int y83)] [])
          have hd6 : d + 1 ≤ 5 := by omega
          refine own_by (fun t k => XS.iinc X83.here hx rfl (hb hby d8_143) rfl (l' := #[.val (.ref a1), .val (.ref b2), .val (.ref b35), .val (.ref b38), .val (.ref b40), .val (.int (dv + (1 : Int32))), .val (.int y83)]) rfl k) (own_letI (f := (fun z => (mkF m 146 #[.val (.ref a1), .val (.ref b2), .val (.ref b35), .val (.ref b38), .val (.ref b40), .val (.int z), .val (.int y83)] []))) (dv + (1 : Int32)) fun v86 hv86 => ?_)
          show ORun p e below s _ _ _ T83 (mkF m 146 #[.val (.ref a1), .val (.ref b2), .val (.ref b35), .val (.ref b38), .val (.ref b40), .val (.int v86), .val (.int y83)] [])
          have r86 := rng32 v86
          have a86 : v86.toInt = dv.toInt + 1 := by have q : (v86.toInt - (dv.toInt + 1)) % 4294967296 = 0 := (by rw [hv86]; exact c_iadd dv (1 : Int32)); omega
          have hdn : v86.toInt = ((d + 1 : Nat) : Int) := by omega
          refine own_by (fun t k => XS.goto X83.here hx rfl (pc0 := 146) (pc' := 65) rfl (hb hby d8_146) (by decide) (by decide) k) ?_
          show ORun p e below s _ _ _ T83 (mkF m 65 #[.val (.ref a1), .val (.ref b2), .val (.ref b35), .val (.ref b38), .val (.ref b40), .val (.int v86), .val (.int y83)] [])
          exact ih _ (by omega) T83 T83.heap _ v86 (.val (.int y83)) (d + 1) P83 mcx rfl (Or.inr ⟨_, rfl, rfl⟩) hdn hd6 X83 rfl N83 (((Keep.refl h0 [pa]).trans Kl (allS (Or.inl (List.mem_of_getElem? (i := 0) rfl)) all0)).trans K83 (allS (Or.inl (List.mem_of_getElem? (i := 0) rfl)) all0)) Vq83 hP83 I83 (E1.keep K83) (F1.keep K83 (ninS nep nin0)) (VSl.keep K83 (ninS (Ne.symm ne_pa_b2) nin0)) (Enl.keep K83) (Fel.keep K83 (ninS (Ne.symm ne_pa_b35) nin0)) (Fsl.keep K83 (ninS (Ne.symm ne_pa_b35) nin0)) (Fml.keep K83 (ninS (Ne.symm ne_pa_b35) nin0)) (VM.keep K83 (ninS (Ne.symm ne_pa_b38) nin0)) (by rw [hpl2]; exact (VPl.keep K83 (ninS (Ne.symm ne_pa_b40) nin0))) hgr2 (own_staK Sdl K83 (nsS (own_nsV VP) ns0)) (Vdl.keep K83 (ninS nedp nin0))
        · have t85 := own_nlt hc85 (a := v84.toInt) (b := 2) rfl (by decide)
          refine own_by (fun t k => XS.icmpYes X83.here hx rfl (pc0 := 88) (pc' := 94) rfl (hb hby d8_88) rfl (flt hc85).2.1 (by decide) (by decide) k) ?_
          show ORun p e below s _ _ _ T83 (mkF m 94 #[.val (.ref a1), .val (.ref b2), .val (.ref b35), .val (.ref b38), .val (.ref b40), .val (.int dv), .val (.int y83)] [])
          have hge : 2 ≤ ((own_S L).getD q 0).toInt := by rw [← hv84]; omega
          obtain ⟨t1, t2, t3, t4, t5⟩ := ht d (by omega) (by rw [← eq]; exact hge)
          have hnlt : ¬ ((own_S L).getD (own_g L d) 0).toInt < 2 := by rw [← eq]; omega
          have hgr2 : own_gr L (d + 1) = own_add (own_g L d) (Int32.ofNat d) (own_gr L d) := if_neg hnlt
          have hpl2 : own_pl L (d + 1) = (own_pl L d).set (own_g L d) ((own_pl L d).getD (own_g L d) 0 + 1) := if_neg hnlt
          rw [← eq] at t1 t2 t3 hgr2 hpl2
          rw [hgr] at t2 t3 hgr2
          have edv : dv = Int32.ofNat d := Int32.toInt_inj.mp (by rw [hdv, Int32.toInt_ofNat_of_lt (by omega)])
          have em : own_mem q [] = [] := rfl
          rw [em] at t2 t3
          have hgr3 : own_gr L (d + 1) = [(q, [Int32.ofNat d])] := hgr2
          refine own_by (fun t k => XS.aloadN X83.here hx rfl (hb hby d8_94) rfl rfl k) ?_
          show ORun p e below s _ _ _ T83 (mkF m 95 #[.val (.ref a1), .val (.ref b2), .val (.ref b35), .val (.ref b38), .val (.ref b40), .val (.int dv), .val (.int y83)] [(.ref b38)])
          refine own_by (fun t k => XS.iload X83.here hx rfl (hb hby d8_95) rfl k) ?_
          show ORun p e below s _ _ _ T83 (mkF m 97 #[.val (.ref a1), .val (.ref b2), .val (.ref b35), .val (.ref b38), .val (.ref b40), .val (.int dv), .val (.int y83)] [(.int y83), (.ref b38)])
          refine own_aaloadA X83 hx hZ rfl (VM.keep K83 (ninS (Ne.symm ne_pa_b38) nin0)) (i := q) eyq (v := Value.null) (own_rep hq5) (hb hby d8_97) ?_
          show ORun p e below s _ _ _ T83 (mkF m 98 #[.val (.ref a1), .val (.ref b2), .val (.ref b35), .val (.ref b38), .val (.ref b40), .val (.int dv), .val (.int y83)] [.null])
          refine own_by (fun t k => XS.ifnonnullNo X83.here hx rfl (hb hby d8_98) rfl k) ?_
          show ORun p e below s _ _ _ T83 (mkF m 101 #[.val (.ref a1), .val (.ref b2), .val (.ref b35), .val (.ref b38), .val (.ref b40), .val (.int dv), .val (.int y83)] [])
          refine own_by (fun t k => XS.aloadN X83.here hx rfl (hb hby d8_101) rfl rfl k) ?_
          show ORun p e below s _ _ _ T83 (mkF m 102 #[.val (.ref a1), .val (.ref b2), .val (.ref b35), .val (.ref b38), .val (.ref b40), .val (.int dv), .val (.int y83)] [(.ref b38)])
          refine own_by (fun t k => XS.iload X83.here hx rfl (hb hby d8_102) rfl k) ?_
          show ORun p e below s _ _ _ T83 (mkF m 104 #[.val (.ref a1), .val (.ref b2), .val (.ref b35), .val (.ref b38), .val (.ref b40), .val (.int dv), .val (.int y83)] [(.int y83), (.ref b38)])
          refine own_by (fun t k => XS.aloadN X83.here hx rfl (hb hby d8_104) rfl rfl k) ?_
          show ORun p e below s _ _ _ T83 (mkF m 105 #[.val (.ref a1), .val (.ref b2), .val (.ref b35), .val (.ref b38), .val (.ref b40), .val (.int dv), .val (.int y83)] [(.ref b2), (.int y83), (.ref b38)])
          refine own_by (fun t k => XS.iload X83.here hx rfl (hb hby d8_105) rfl k) ?_
          show ORun p e below s _ _ _ T83 (mkF m 107 #[.val (.ref a1), .val (.ref b2), .val (.ref b35), .val (.ref b38), .val (.ref b40), .val (.int dv), .val (.int y83)] [(.int y83), (.ref b2), (.int y83), (.ref b38)])
          refine own_iaload X83 hx hZ rfl (VSl.keep K83 (ninS (Ne.symm ne_pa_b2) nin0)) (i := q) eyq (by omega) (hb hby d8_107) ?_
          intro v87 hv87
          have r87 := rng32 v87
          show ORun p e below s _ _ _ T83 (mkF m 108 #[.val (.ref a1), .val (.ref b2), .val (.ref b35), .val (.ref b38), .val (.ref b40), .val (.int dv), .val (.int y83)] [(.int v87), (.int y83), (.ref b38)])
          have nv : v87.toInt = (((own_S L).getD q 0).toInt.toNat : Int) := by rw [hv87]; omega
          refine own_newarray X83 hx hZ (aty := .int) (hw _ (List.mem_of_getElem? (i := 9) rfl)) rfl rfl (N := ((own_S L).getD q 0).toInt.toNat) (cap := 5) nv (by omega) (by decide) (by decide) (by decide) (ad := "[I") (by decide) (hb hby d8_108) ?_
          intro T88 h88 b88 L88 g88 X88 e88 E88 hL88 V88 Ex88
          have len88 : L88.length = ((own_S L).getD q 0).toInt.toNat := by rw [hL88]; exact List.length_replicate
          have old_b88 : n0 ≤ b88 := Nat.le_trans (Nat.le_trans (Nat.le_trans Z0 Kl.1) K83.1) (Nat.le_of_eq g88.symm)
          have sz_b88 : h0.size ≤ b88 := Nat.le_trans (Nat.le_trans (Nat.le_trans (Nat.le_refl h0.size) Kl.1) K83.1) (Nat.le_of_eq g88.symm)
          have ne_pa_b88 : pa ≠ b88 := Nat.ne_of_lt (Nat.lt_of_lt_of_le Vq83.lt (Nat.le_of_eq g88.symm))
          have ne_a1_b88 : a1 ≠ b88 := Nat.ne_of_lt (Nat.lt_of_lt_of_le (E1.keep K83).lt (Nat.le_of_eq g88.symm))
          have ne_b2_b88 : b2 ≠ b88 := Nat.ne_of_lt (Nat.lt_of_lt_of_le (VSl.keep K83 (ninS (Ne.symm ne_pa_b2) nin0)).lt (Nat.le_of_eq g88.symm))
          have ne_b35_b88 : b35 ≠ b88 := Nat.ne_of_lt (Nat.lt_of_lt_of_le (Enl.keep K83).lt (Nat.le_of_eq g88.symm))
          have ne_b38_b88 : b38 ≠ b88 := Nat.ne_of_lt (Nat.lt_of_lt_of_le (VM.keep K83 (ninS (Ne.symm ne_pa_b38) nin0)).lt (Nat.le_of_eq g88.symm))
          have ne_b40_b88 : b40 ≠ b88 := Nat.ne_of_lt (Nat.lt_of_lt_of_le (VPl.keep K83 (ninS (Ne.symm ne_pa_b40) nin0)).lt (Nat.le_of_eq g88.symm))
          have ne_de_b88 : de ≠ b88 := Nat.ne_of_lt (Nat.lt_of_lt_of_le (Vdl.keep K83 (ninS nedp nin0)).lt (Nat.le_of_eq g88.symm))
          show ORun p e below s _ _ _ T88 (mkF m 110 #[.val (.ref a1), .val (.ref b2), .val (.ref b35), .val (.ref b38), .val (.ref b40), .val (.int dv), .val (.int y83)] [(.ref b88), (.int y83), (.ref b38)])
          refine own_aastoreA X88 hx hZ e88 ((VM.keep K83 (ninS (Ne.symm ne_pa_b38) nin0)).ext E88) (Ins.self Ex88) (i := q) eyq (by simpa using hq5) (hb hby d8_110) ?_
          intro T89 h89 X89 e89 W89 V89
          have N89 := Fr.snoc X89 N83 old_b38
          show ORun p e below s _ _ _ T89 (mkF m 111 #[.val (.ref a1), .val (.ref b2), .val (.ref b35), .val (.ref b38), .val (.ref b40), .val (.int dv), .val (.int y83)] [])
          refine own_by (fun t k => XS.aloadN X89.here hx rfl (hb hby d8_111) rfl rfl k) ?_
          show ORun p e below s _ _ _ T89 (mkF m 112 #[.val (.ref a1), .val (.ref b2), .val (.ref b35), .val (.ref b38), .val (.ref b40), .val (.int dv), .val (.int y83)] [(.ref b35)])
          refine own_by (fun t k => XS.aloadN X89.here hx rfl (hb hby d8_112) rfl rfl k) ?_
          show ORun p e below s _ _ _ T89 (mkF m 113 #[.val (.ref a1), .val (.ref b2), .val (.ref b35), .val (.ref b38), .val (.ref b40), .val (.int dv), .val (.int y83)] [(.ref b38), (.ref b35)])
          refine own_by (fun t k => XS.iload X89.here hx rfl (hb hby d8_113) rfl k) ?_
          show ORun p e below s _ _ _ T89 (mkF m 115 #[.val (.ref a1), .val (.ref b2), .val (.ref b35), .val (.ref b38), .val (.ref b40), .val (.int dv), .val (.int y83)] [(.int y83), (.ref b38), (.ref b35)])
          refine own_aaloadA X89 hx hZ e89 V89 (i := q) eyq (v := Value.ref b88) (own_setS (by simpa using hq5)) (hb hby d8_115) ?_
          show ORun p e below s _ _ _ T89 (mkF m 116 #[.val (.ref a1), .val (.ref b2), .val (.ref b35), .val (.ref b38), .val (.ref b40), .val (.int dv), .val (.int y83)] [(.ref b88), (.ref b35)])
          refine own_callI X89 hx hZ hown (((Enl.keep K83).ext E88).wr W89) (hw _ (List.mem_of_getElem? (i := 64) rfl)) (hw _ (List.mem_of_getElem? (i := 65) rfl)) (hw _ (List.mem_of_getElem? (i := 66) rfl)) (by first | rfl | simp [Cond.onTables, Cond.keepsFace, Cond.keeps, Cond.steady]) (hw _ (List.mem_of_getElem? (i := 67) rfl)) (hw _ (List.mem_of_getElem? (i := 68) rfl)) (hw _ (List.mem_of_getElem? (i := 69) rfl)) (hw _ (List.mem_of_getElem? (i := 70) rfl)) (hw _ (List.mem_of_getElem? (i := 71) rfl)) (hw _ (List.mem_of_getElem? (i := 39) rfl)) (hw _ (List.mem_of_getElem? (i := 72) rfl)) (by decide) (rmaddA l Z a0 hw [] h89 n0 (Nat.le_trans (Nat.le_trans (Nat.le_trans (Nat.le_trans Z0 Kl.1) K83.1) E88.1) (Keep.of_wr W89).1) b35 de mcx (((own_staK Sdl K83 (nsS (own_nsV VP) ns0)).ext E88).wr W89) (((Vdl.keep K83 (ninS nedp nin0)).ext E88).other W89 ne_de_b38) (((Enl.keep K83).ext E88).wr W89) old_b35 (((Fel.keep K83 (ninS (Ne.symm ne_pa_b35) nin0)).ext E88).other W89 (Or.inl ne_b35_b38)) (((Fsl.keep K83 (ninS (Ne.symm ne_pa_b35) nin0)).ext E88).other W89 (Or.inl ne_b35_b38)) (((Fml.keep K83 (ninS (Ne.symm ne_pa_b35) nin0)).ext E88).other W89 (Or.inl ne_b35_b38)) ne_de_b35 b88 (Ex88.wr W89) (Ne.symm ne_b35_b88)) e89 (by decide) (W := 0) (by decide) (by decide) (by decide) (argsL := [(.ref b88)]) (rest := []) (by rw [hml]; rfl) (lenOf pd_13 rfl) rfl rfl (Nat.le_of_eq rfl) (hb hby d8_116) ?_
          intro T90 L90 u90 X90 hQ90
          obtain ⟨rfl, Nq90, K90, ed90, mc90, sz_q90, En90, Fe90, Fs90, Fm90, Vq90⟩ := hQ90
          have N90 := Fr.app N89 Nq90
          have sz_ed90 : h0.size ≤ ed90 := Nat.le_trans (Nat.le_trans (Nat.le_trans (Nat.le_trans (Nat.le_trans (Nat.le_refl h0.size) Kl.1) K83.1) E88.1) (Keep.of_wr W89).1) sz_q90
          have ne_a1_ed90 : a1 ≠ ed90 := Nat.ne_of_lt (Nat.lt_of_lt_of_le (((E1.keep K83).ext E88).wr W89).lt sz_q90)
          have ne_b2_ed90 : b2 ≠ ed90 := Nat.ne_of_lt (Nat.lt_of_lt_of_le (((VSl.keep K83 (ninS (Ne.symm ne_pa_b2) nin0)).ext E88).other W89 ne_b2_b38).lt sz_q90)
          have ne_b35_ed90 : b35 ≠ ed90 := Nat.ne_of_lt (Nat.lt_of_lt_of_le (((Enl.keep K83).ext E88).wr W89).lt sz_q90)
          have ne_b38_ed90 : b38 ≠ ed90 := Nat.ne_of_lt (Nat.lt_of_lt_of_le V89.lt sz_q90)
          have ne_b40_ed90 : b40 ≠ ed90 := Nat.ne_of_lt (Nat.lt_of_lt_of_le (((VPl.keep K83 (ninS (Ne.symm ne_pa_b40) nin0)).ext E88).other W89 (Ne.symm ne_b38_b40)).lt sz_q90)
          have ne_b88_ed90 : b88 ≠ ed90 := Nat.ne_of_lt (Nat.lt_of_lt_of_le (V88.other W89 (Ne.symm ne_b38_b88)).lt sz_q90)
          have ne_de_ed90 : de ≠ ed90 := Nat.ne_of_lt (Nat.lt_of_lt_of_le (((Vdl.keep K83 (ninS nedp nin0)).ext E88).other W89 ne_de_b38).lt sz_q90)
          have ne_pa_ed90 : pa ≠ ed90 := Nat.ne_of_lt (Nat.lt_of_lt_of_le ((Vq83.ext E88).other W89 ne_pa_b38).lt sz_q90)
          show ORun p e below s _ _ _ T90 (mkF m 121 #[.val (.ref a1), .val (.ref b2), .val (.ref b35), .val (.ref b38), .val (.ref b40), .val (.int dv), .val (.int y83)] [(.int (1 : Int32))])
          refine own_by (fun t k => XS.pop X90.here hx rfl (hb hby d8_121) rfl rfl k) ?_
          show ORun p e below s _ _ _ T90 (mkF m 122 #[.val (.ref a1), .val (.ref b2), .val (.ref b35), .val (.ref b38), .val (.ref b40), .val (.int dv), .val (.int y83)] [])
          refine own_by (fun t k => XS.aloadN X90.here hx rfl (hb hby d8_122) rfl rfl k) ?_
          show ORun p e below s _ _ _ T90 (mkF m 123 #[.val (.ref a1), .val (.ref b2), .val (.ref b35), .val (.ref b38), .val (.ref b40), .val (.int dv), .val (.int y83)] [(.ref b38)])
          refine own_by (fun t k => XS.iload X90.here hx rfl (hb hby d8_123) rfl k) ?_
          show ORun p e below s _ _ _ T90 (mkF m 125 #[.val (.ref a1), .val (.ref b2), .val (.ref b35), .val (.ref b38), .val (.ref b40), .val (.int dv), .val (.int y83)] [(.int y83), (.ref b38)])
          refine own_aaloadA X90 hx hZ rfl (V89.keep K90 (ninS (Ne.symm ne_b35_b38) nin0)) (i := q) eyq (v := Value.ref b88) (own_setS (by simpa using hq5)) (hb hby d8_125) ?_
          show ORun p e below s _ _ _ T90 (mkF m 126 #[.val (.ref a1), .val (.ref b2), .val (.ref b35), .val (.ref b38), .val (.ref b40), .val (.int dv), .val (.int y83)] [(.ref b88)])
          refine own_by (fun t k => XS.aload X90.here hx rfl (hb hby d8_126) rfl rfl k) ?_
          show ORun p e below s _ _ _ T90 (mkF m 128 #[.val (.ref a1), .val (.ref b2), .val (.ref b35), .val (.ref b38), .val (.ref b40), .val (.int dv), .val (.int y83)] [(.ref b40), (.ref b88)])
          refine own_by (fun t k => XS.iload X90.here hx rfl (hb hby d8_128) rfl k) ?_
          show ORun p e below s _ _ _ T90 (mkF m 130 #[.val (.ref a1), .val (.ref b2), .val (.ref b35), .val (.ref b38), .val (.ref b40), .val (.int dv), .val (.int y83)] [(.int y83), (.ref b40), (.ref b88)])
          refine own_iaload X90 hx hZ rfl ((((VPl.keep K83 (ninS (Ne.symm ne_pa_b40) nin0)).ext E88).other W89 (Ne.symm ne_b38_b40)).keep K90 (ninS (Ne.symm ne_b35_b40) nin0)) (i := q) eyq (by omega) (hb hby d8_130) ?_
          intro v91 hv91
          have r91 := rng32 v91
          show ORun p e below s _ _ _ T90 (mkF m 131 #[.val (.ref a1), .val (.ref b2), .val (.ref b35), .val (.ref b38), .val (.ref b40), .val (.int dv), .val (.int y83)] [(.int v91), (.ref b88)])
          rw [t3] at hv91
          have iv : v91.toInt = (([] : List Int32).length : Int) := by rw [hv91]; exact Int32.toInt_ofNat_of_lt (by omega)
          refine own_by (fun t k => XS.iload X90.here hx rfl (hb hby d8_131) rfl k) ?_
          show ORun p e below s _ _ _ T90 (mkF m 133 #[.val (.ref a1), .val (.ref b2), .val (.ref b35), .val (.ref b38), .val (.ref b40), .val (.int dv), .val (.int y83)] [(.int dv), (.int v91), (.ref b88)])
          refine own_iastore X90 hx hZ rfl ((V88.other W89 (Ne.symm ne_b38_b88)).keep K90 (ninS (Ne.symm ne_b35_b88) nin0)) (i := ([] : List Int32).length) iv (by rw [len88]; exact t2) (hb hby d8_133) ?_
          intro T92 h92 L92 X92 e92 W92 hL92 V92
          have len92 : L92.length = ((own_S L).getD q 0).toInt.toNat := by rw [hL92, List.length_set]; exact len88
          have N92 := Fr.snoc X92 N90 old_b88
          show ORun p e below s _ _ _ T92 (mkF m 134 #[.val (.ref a1), .val (.ref b2), .val (.ref b35), .val (.ref b38), .val (.ref b40), .val (.int dv), .val (.int y83)] [])
          have hG2 : L92 = (([Int32.ofNat d] : List Int32) ++ List.replicate (((own_S L).getD q 0).toInt.toNat - ([Int32.ofNat d] : List Int32).length) 0) := by rw [hL92, hL88, edv]; exact own_app [] _ t2
          refine own_by (fun t k => XS.aload X92.here hx rfl (hb hby d8_134) rfl rfl k) ?_
          show ORun p e below s _ _ _ T92 (mkF m 136 #[.val (.ref a1), .val (.ref b2), .val (.ref b35), .val (.ref b38), .val (.ref b40), .val (.int dv), .val (.int y83)] [(.ref b40)])
          refine own_by (fun t k => XS.iload X92.here hx rfl (hb hby d8_136) rfl k) ?_
          show ORun p e below s _ _ _ T92 (mkF m 138 #[.val (.ref a1), .val (.ref b2), .val (.ref b35), .val (.ref b38), .val (.ref b40), .val (.int dv), .val (.int y83)] [(.int y83), (.ref b40)])
          refine own_by (fun t k => XT.dup2 X92.here hx rfl (hb hby d8_138) rfl rfl rfl k) ?_
          show ORun p e below s _ _ _ T92 (mkF m 139 #[.val (.ref a1), .val (.ref b2), .val (.ref b35), .val (.ref b38), .val (.ref b40), .val (.int dv), .val (.int y83)] [(.int y83), (.ref b40), (.int y83), (.ref b40)])
          refine own_iaload X92 hx hZ e92 (((((VPl.keep K83 (ninS (Ne.symm ne_pa_b40) nin0)).ext E88).other W89 (Ne.symm ne_b38_b40)).keep K90 (ninS (Ne.symm ne_b35_b40) nin0)).other W92 ne_b40_b88) (i := q) eyq (by omega) (hb hby d8_139) ?_
          intro v93 hv93
          have r93 := rng32 v93
          show ORun p e below s _ _ _ T92 (mkF m 140 #[.val (.ref a1), .val (.ref b2), .val (.ref b35), .val (.ref b38), .val (.ref b40), .val (.int dv), .val (.int y83)] [(.int v93), (.int y83), (.ref b40)])
          refine own_by (fun t k => XS.iconst X92.here hx rfl (hb hby d8_140) k) ?_
          show ORun p e below s _ _ _ T92 (mkF m 141 #[.val (.ref a1), .val (.ref b2), .val (.ref b35), .val (.ref b38), .val (.ref b40), .val (.int dv), .val (.int y83)] [(.int (1 : Int32)), (.int v93), (.int y83), (.ref b40)])
          refine own_by (fun t k => XS.iadd X92.here hx rfl (hb hby d8_141) rfl k) (own_letI (f := (fun z => (mkF m 142 #[.val (.ref a1), .val (.ref b2), .val (.ref b35), .val (.ref b38), .val (.ref b40), .val (.int dv), .val (.int y83)] [(.int z), (.int y83), (.ref b40)]))) (v93 + (1 : Int32)) fun v94 hv94 => ?_)
          show ORun p e below s _ _ _ T92 (mkF m 142 #[.val (.ref a1), .val (.ref b2), .val (.ref b35), .val (.ref b38), .val (.ref b40), .val (.int dv), .val (.int y83)] [(.int v94), (.int y83), (.ref b40)])
          have a94a : (v94.toInt - (v93.toInt + 1)) % 4294967296 = 0 := by rw [hv94]; exact c_iadd v93 (1 : Int32)
          have r94 := rng32 v94
          refine own_iastore X92 hx hZ e92 (((((VPl.keep K83 (ninS (Ne.symm ne_pa_b40) nin0)).ext E88).other W89 (Ne.symm ne_b38_b40)).keep K90 (ninS (Ne.symm ne_b35_b40) nin0)).other W92 ne_b40_b88) (i := q) eyq (by omega) (hb hby d8_142) ?_
          intro T95 h95 L95 X95 e95 W95 hL95 V95
          have len95 : L95.length = 5 := by rw [hL95, List.length_set]; exact lenp
          have N95 := Fr.snoc X95 N92 old_b40
          show ORun p e below s _ _ _ T95 (mkF m 143 #[.val (.ref a1), .val (.ref b2), .val (.ref b35), .val (.ref b38), .val (.ref b40), .val (.int dv), .val (.int y83)] [])
          have hPl2 : L95 = own_pl L (d + 1) := by rw [hL95, hv94, hv93, hpl2]
          have hd6 : d + 1 ≤ 5 := by omega
          refine own_by (fun t k => XS.iinc X95.here hx rfl (hb hby d8_143) rfl (l' := #[.val (.ref a1), .val (.ref b2), .val (.ref b35), .val (.ref b38), .val (.ref b40), .val (.int (dv + (1 : Int32))), .val (.int y83)]) rfl k) (own_letI (f := (fun z => (mkF m 146 #[.val (.ref a1), .val (.ref b2), .val (.ref b35), .val (.ref b38), .val (.ref b40), .val (.int z), .val (.int y83)] []))) (dv + (1 : Int32)) fun v96 hv96 => ?_)
          show ORun p e below s _ _ _ T95 (mkF m 146 #[.val (.ref a1), .val (.ref b2), .val (.ref b35), .val (.ref b38), .val (.ref b40), .val (.int v96), .val (.int y83)] [])
          have r96 := rng32 v96
          have a96 : v96.toInt = dv.toInt + 1 := by have q : (v96.toInt - (dv.toInt + 1)) % 4294967296 = 0 := (by rw [hv96]; exact c_iadd dv (1 : Int32)); omega
          have hdn : v96.toInt = ((d + 1 : Nat) : Int) := by omega
          refine own_by (fun t k => XS.goto X95.here hx rfl (pc0 := 146) (pc' := 65) rfl (hb hby d8_146) (by decide) (by decide) k) ?_
          show ORun p e below s _ _ _ T95 (mkF m 65 #[.val (.ref a1), .val (.ref b2), .val (.ref b35), .val (.ref b38), .val (.ref b40), .val (.int v96), .val (.int y83)] [])
          exact LP1 _ T95 h95 _ v96 (.val (.int y83)) (d + 1) P83 mc90 ed90 b88 q ([Int32.ofNat d] : List Int32) rfl (Or.inr ⟨_, rfl, rfl⟩) hdn hd6 X95 e95 N95 ((((((((Keep.refl h0 [pa]).trans Kl (allS (Or.inl (List.mem_of_getElem? (i := 0) rfl)) all0)).trans K83 (allS (Or.inl (List.mem_of_getElem? (i := 0) rfl)) all0)).ext E88).wr W89 (Or.inr sz_b38)).trans K90 (allS (Or.inr sz_b35) all0)).wr W92 (Or.inr sz_b88)).wr W95 (Or.inr sz_b40)) (((((Vq83.ext E88).other W89 ne_pa_b38).keep K90 (ninS ne_pa_b35 nin0)).other W92 ne_pa_b88).other W95 ne_pa_b40) hP83 I83 ((((((E1.keep K83).ext E88).wr W89).keep K90).wr W92).wr W95) ((((((F1.keep K83 (ninS nep nin0)).ext E88).other W89 (Or.inl ne_a1_b38)).keep K90 (ninS ne_a1_b35 nin0)).other W92 (Or.inl ne_a1_b88)).other W95 (Or.inl ne_a1_b40)) ((((((VSl.keep K83 (ninS (Ne.symm ne_pa_b2) nin0)).ext E88).other W89 ne_b2_b38).keep K90 (ninS ne_b2_b35 nin0)).other W92 ne_b2_b88).other W95 ne_b2_b40) ((En90.wr W92).wr W95) ((Fe90.other W92 (Or.inl ne_b35_b88)).other W95 (Or.inl ne_b35_b40)) ((Fs90.other W92 (Or.inl ne_b35_b88)).other W95 (Or.inl ne_b35_b40)) ((Fm90.other W92 (Or.inl ne_b35_b88)).other W95 (Or.inl ne_b35_b40)) (((V89.keep K90 (ninS (Ne.symm ne_b35_b38) nin0)).other W92 ne_b38_b88).other W95 ne_b38_b40) (by have z := V95; rw [hPl2] at z; exact z) hgr3 ((Vq90.other W92 (Ne.symm ne_b88_ed90)).other W95 (Ne.symm ne_b40_ed90)) (by have z := (V92.other W95 (Ne.symm ne_b40_b88)); rw [hG2] at z; exact z) ((((Ex88.wr W89).keep K90).wr W92).wr W95) sz_ed90 sz_b88 hq5 (Ne.symm ne_a1_b88) (Ne.symm ne_pa_b88) (Ne.symm ne_b2_b88) (Ne.symm ne_b35_b88) (Ne.symm ne_b38_b88) (Ne.symm ne_b40_b88) (Ne.symm ne_a1_ed90) (Ne.symm ne_pa_ed90) (Ne.symm ne_b2_ed90) (Ne.symm ne_b35_ed90) (Ne.symm ne_b38_ed90) (Ne.symm ne_b40_ed90) (Ne.symm ne_b88_ed90)
      · have t82 := own_nlt hc82 (a := dv.toInt) (b := 5) rfl (by decide)
        refine own_by (fun t k => XS.icmpYes X81.here hx rfl (pc0 := 72) (pc' := 149) rfl (hb hby d8_72) rfl (flt hc82).2.1 (by decide) (by decide) k) ?_
        show ORun p e below s _ _ _ T81 (mkF m 149 #[.val (.ref a1), .val (.ref b2), .val (.ref b35), .val (.ref b38), .val (.ref b40), .val (.int dv), s6] [])
        refine own_by (fun t k => XS.aloadN X81.here hx rfl (hb hby d8_149) rfl rfl k) ?_
        show ORun p e below s _ _ _ T81 (mkF m 150 #[.val (.ref a1), .val (.ref b2), .val (.ref b35), .val (.ref b38), .val (.ref b40), .val (.int dv), s6] [(.ref b35)])
        refine own_retA X81 hx hret rfl rfl rfl hlk (hb hby d8_150) (by decide) (by decide) ?_
        have hdd : d = 5 := by omega
        rw [hdd] at hgr
        rw [e81]
        exact ⟨b35, rfl, Nl, ((Keep.refl h0 [pa]).trans Kl (allS (Or.inl (List.mem_of_getElem? (i := 0) rfl)) all0)), sz_b35, Enl, Or.inl ⟨hgr, Fsl⟩⟩
  exact LP0 _ T40 h40 _ (0 : Int32) .unset 0 P28 (0 : Int32) rfl (Or.inl rfl) (by decide) (by decide) X40 e40 N36 ((((((Keep.refl h0 [pa]).trans Kz34 (allS (Or.inl (List.mem_of_getElem? (i := 0) rfl)) all0)).ext E35).trans K36 (allS (Or.inr sz_b35) all0)).ext E38).ext E40) ((((fz34_2.ext E35).keep K36 (ninS ne_pa_b35 nin0)).ext E38).ext E40) hP28 I28 ((((fz34_0.ext E35).keep K36).ext E38).ext E40) ((((fz34_1.ext E35).keep K36 (ninS ne_a1_b35 nin0)).ext E38).ext E40) ((((VS.ext E35).keep K36 (ninS ne_b2_b35 nin0)).ext E38).ext E40) ((En36.ext E38).ext E40) ((Fe36.ext E38).ext E40) ((Fs36.ext E38).ext E40) ((Fm36.ext E38).ext E40) (V38.ext E40) Vp0 rfl (((own_staK (SdS.ext E35) K36 (nsS (own_nsE A35) ns0)).ext E38).ext E40) ((((fz34_3.ext E35).keep K36 (ninS ne_de_b35 nin0)).ext E38).ext E40)
theorem pn_rm0 : plainName "com/example/kembar/kembar/cluster/ClustersJoinPinLaw" = true := by first | (simp [plainName, overriddenIn]; done) | decide +kernel
theorem ef_rm0 (m : MethodId) (x0 : Int32) (x1 : Int32) (x2 : Int32) (x3 : Int32) (x4 : Int32) (x5 : Int32) : entryFrame m #[(.int x0), (.int x1), (.int x2), (.int x3), (.int x4), (.int x5)] maxLocals = mkF m 0 #[.val (.int x0), .val (.int x1), .val (.int x2), .val (.int x3), .val (.int x4), .val (.int x5), .unset, .unset, .unset, .unset, .unset, .unset] [] := by first | (simp [entryFrame, mkF, argsToLocals, Value.category, maxLocals]; done) | rfl
set_option maxRecDepth 65536 in
set_option maxHeartbeats 40000000 in
theorem rm0 (l : Launch) (Z : State) (a0 : Array Value) (hw : ∀ d ∈ tables_1, d.before a0 Z = true) (ws : List Jvm.Cond) (h0 : Heap) (n0 : Nat) (Z0 : n0 ≤ h0.size) (p1 p2 p3 p4 p5 p6 : Int32) (de : Addr) (Sd : Sta Z h0 "java/util/ArrayList" "DEFAULTCAPACITY_EMPTY_ELEMENTDATA" "[Ljava/lang/Object;" (.ref de)) (Vd : OVecR Z h0 de "java/lang/Object" []) :
    OMet l x code maxLocals ret ws room_1 #[(.int p1), (.int p2), (.int p3), (.int p4), (.int p5), (.int p6)] Z h0 (fun v h L => v = some (.int 1) ∧ Fr n0 L) := by
  refine own_met (plainFor_of_name pn_rm0) ?_
  intro p e s m below meth c s₁ X0 hx hby hml hown hnm hret hlk hZ e0
  rw [ef_rm0]
  have N0 := Fr.nil n0
  have rg_p1 := rng32 p1
  have rg_p2 := rng32 p2
  have rg_p3 := rng32 p3
  have rg_p4 := rng32 p4
  have rg_p5 := rng32 p5
  have rg_p6 := rng32 p6
  show ORun p e below s _ _ _ s₁ (mkF m 0 #[.val (.int p1), .val (.int p2), .val (.int p3), .val (.int p4), .val (.int p5), .val (.int p6), .unset, .unset, .unset, .unset, .unset, .unset] [])
  obtain ⟨T1, h1, X1, e1, E1, A1, D1, -, st1⟩ := newO X0 hx hZ hown (hw _ (List.mem_of_getElem? (i := 0) rfl)) (hw _ (List.mem_of_getElem? (i := 1) rfl)) (hw _ (List.mem_of_getElem? (i := 2) rfl)) e0 (g := (mkF m 0 #[.val (.int p1), .val (.int p2), .val (.int p3), .val (.int p4), .val (.int p5), .val (.int p6), .unset, .unset, .unset, .unset, .unset, .unset] [])) rfl (hb hby at_0) (by decide) (by decide)
  obtain ⟨b1, g1⟩ : ∃ z, z = h0.size := ⟨_, rfl⟩
  rw [← g1] at A1 D1 st1
  have old_b1 : n0 ≤ b1 := Nat.le_trans Z0 (Nat.le_of_eq g1.symm)
  have sz_b1 : h0.size ≤ b1 := Nat.le_trans (Nat.le_refl h0.size) (Nat.le_of_eq g1.symm)
  have ne_de_b1 : de ≠ b1 := Nat.ne_of_lt (Nat.lt_of_lt_of_le Vd.lt (Nat.le_of_eq g1.symm))
  have F1_11 : Fld Z h1 b1 "com/example/kembar/kembar/cluster/Clusters" "parents" "[I" .null := D1 (Or.inr (hw _ (List.mem_of_getElem? (i := 11) rfl))) (ty := (.array .int)) (by decide)
  refine own_by st1 ?_
  show ORun p e below s _ _ _ T1 (mkF m 3 #[.val (.int p1), .val (.int p2), .val (.int p3), .val (.int p4), .val (.int p5), .val (.int p6), .unset, .unset, .unset, .unset, .unset, .unset] [(.ref b1)])
  refine own_by (fun t k => XS.dup X1.here hx rfl (hb hby at_3) rfl rfl k) ?_
  show ORun p e below s _ _ _ T1 (mkF m 4 #[.val (.int p1), .val (.int p2), .val (.int p3), .val (.int p4), .val (.int p5), .val (.int p6), .unset, .unset, .unset, .unset, .unset, .unset] [(.ref b1), (.ref b1)])
  refine own_by (fun t k => XS.iconst X1.here hx rfl (hb hby at_4) k) ?_
  show ORun p e below s _ _ _ T1 (mkF m 5 #[.val (.int p1), .val (.int p2), .val (.int p3), .val (.int p4), .val (.int p5), .val (.int p6), .unset, .unset, .unset, .unset, .unset, .unset] [(.int (5 : Int32)), (.ref b1), (.ref b1)])
  refine own_callC X1 hx hZ hown rfl (hw _ (List.mem_of_getElem? (i := 3) rfl)) (hw _ (List.mem_of_getElem? (i := 4) rfl)) (hw _ (List.mem_of_getElem? (i := 2) rfl)) (hw _ (List.mem_of_getElem? (i := 5) rfl)) (by decide) (rm1 l Z a0 hw [] h1 n0 (Nat.le_trans Z0 E1.1) b1 A1 old_b1 F1_11) e1 (by decide) (W := 1) (by decide) (by decide) (by decide) (b := b1) (argsL := [(.int (5 : Int32))]) (rest := [(.ref b1)]) (by rw [hml]; rfl) (lenOf pd_14 rfl) rfl rfl (Nat.le_of_eq rfl) (hb hby at_5) ?_
  intro T2 L2 u2 X2 hQ2
  obtain ⟨rfl, Nq2, K2, pa, szq2, Eq2, Fq2, Vq2⟩ := hQ2
  have N2 := Fr.app N0 Nq2
  have sz_pa : h0.size ≤ pa := Nat.le_trans (Nat.le_trans (Nat.le_refl h0.size) E1.1) szq2
  have ne_b1_pa : b1 ≠ pa := Nat.ne_of_lt (Nat.lt_of_lt_of_le A1.lt szq2)
  have ne_de_pa : de ≠ pa := Nat.ne_of_lt (Nat.lt_of_lt_of_le (Vd.ext E1).lt szq2)
  show ORun p e below s _ _ _ T2 (mkF m 8 #[.val (.int p1), .val (.int p2), .val (.int p3), .val (.int p4), .val (.int p5), .val (.int p6), .unset, .unset, .unset, .unset, .unset, .unset] [(.ref b1)])
  refine own_by (fun t k => XS.astore X2.here hx rfl (hb hby at_8) rfl rfl (l' := #[.val (.int p1), .val (.int p2), .val (.int p3), .val (.int p4), .val (.int p5), .val (.int p6), .val (.ref b1), .unset, .unset, .unset, .unset, .unset]) rfl k) ?_
  show ORun p e below s _ _ _ T2 (mkF m 10 #[.val (.int p1), .val (.int p2), .val (.int p3), .val (.int p4), .val (.int p5), .val (.int p6), .val (.ref b1), .unset, .unset, .unset, .unset, .unset] [])
  refine own_by (fun t k => XS.iconst X2.here hx rfl (hb hby at_10) k) ?_
  show ORun p e below s _ _ _ T2 (mkF m 11 #[.val (.int p1), .val (.int p2), .val (.int p3), .val (.int p4), .val (.int p5), .val (.int p6), .val (.ref b1), .unset, .unset, .unset, .unset, .unset] [(.int (5 : Int32))])
  refine own_newarray X2 hx hZ (aty := .int) (hw _ (List.mem_of_getElem? (i := 9) rfl)) rfl rfl (N := 5) (cap := 5) (by decide) (Nat.le_refl _) (by decide) (by decide) (by decide) (ad := "[I") (by decide) (hb hby at_11) ?_
  intro T3 h3 b3 L3 g3 X3 e3 E3 hL3 V3 Ex3
  have len3 : L3.length = 5 := by rw [hL3]; exact List.length_replicate
  have old_b3 : n0 ≤ b3 := Nat.le_trans (Nat.le_trans (Nat.le_trans Z0 E1.1) K2.1) (Nat.le_of_eq g3.symm)
  have sz_b3 : h0.size ≤ b3 := Nat.le_trans (Nat.le_trans (Nat.le_trans (Nat.le_refl h0.size) E1.1) K2.1) (Nat.le_of_eq g3.symm)
  have ne_de_b3 : de ≠ b3 := Nat.ne_of_lt (Nat.lt_of_lt_of_le ((Vd.ext E1).keep K2 (ninS ne_de_b1 nin0)).lt (Nat.le_of_eq g3.symm))
  have ne_b1_b3 : b1 ≠ b3 := Nat.ne_of_lt (Nat.lt_of_lt_of_le Eq2.lt (Nat.le_of_eq g3.symm))
  have ne_pa_b3 : pa ≠ b3 := Nat.ne_of_lt (Nat.lt_of_lt_of_le Vq2.lt (Nat.le_of_eq g3.symm))
  obtain rfl : [(0 : Int32), (0 : Int32), (0 : Int32), (0 : Int32), (0 : Int32)] = L3 := hL3.symm
  show ORun p e below s _ _ _ T3 (mkF m 13 #[.val (.int p1), .val (.int p2), .val (.int p3), .val (.int p4), .val (.int p5), .val (.int p6), .val (.ref b1), .unset, .unset, .unset, .unset, .unset] [(.ref b3)])
  refine own_by (fun t k => XS.dup X3.here hx rfl (hb hby at_13) rfl rfl k) ?_
  show ORun p e below s _ _ _ T3 (mkF m 14 #[.val (.int p1), .val (.int p2), .val (.int p3), .val (.int p4), .val (.int p5), .val (.int p6), .val (.ref b1), .unset, .unset, .unset, .unset, .unset] [(.ref b3), (.ref b3)])
  refine own_by (fun t k => XS.iconst X3.here hx rfl (hb hby at_14) k) ?_
  show ORun p e below s _ _ _ T3 (mkF m 15 #[.val (.int p1), .val (.int p2), .val (.int p3), .val (.int p4), .val (.int p5), .val (.int p6), .val (.ref b1), .unset, .unset, .unset, .unset, .unset] [(.int (0 : Int32)), (.ref b3), (.ref b3)])
  refine own_by (fun t k => XS.iconst X3.here hx rfl (hb hby at_15) k) ?_
  show ORun p e below s _ _ _ T3 (mkF m 16 #[.val (.int p1), .val (.int p2), .val (.int p3), .val (.int p4), .val (.int p5), .val (.int p6), .val (.ref b1), .unset, .unset, .unset, .unset, .unset] [(.int (0 : Int32)), (.int (0 : Int32)), (.ref b3), (.ref b3)])
  refine own_iastore X3 hx hZ e3 V3 (i := 0) (by decide) (by omega) (hb hby at_16) ?_
  intro T4 h4 L4 X4 e4 W4 hL4 V4
  have len4 : L4.length = 5 := by rw [hL4, List.length_set]; exact len3
  have N4 := Fr.snoc X4 N2 old_b3
  obtain rfl : [(0 : Int32), (0 : Int32), (0 : Int32), (0 : Int32), (0 : Int32)] = L4 := hL4.symm
  show ORun p e below s _ _ _ T4 (mkF m 17 #[.val (.int p1), .val (.int p2), .val (.int p3), .val (.int p4), .val (.int p5), .val (.int p6), .val (.ref b1), .unset, .unset, .unset, .unset, .unset] [(.ref b3)])
  refine own_by (fun t k => XS.dup X4.here hx rfl (hb hby at_17) rfl rfl k) ?_
  show ORun p e below s _ _ _ T4 (mkF m 18 #[.val (.int p1), .val (.int p2), .val (.int p3), .val (.int p4), .val (.int p5), .val (.int p6), .val (.ref b1), .unset, .unset, .unset, .unset, .unset] [(.ref b3), (.ref b3)])
  refine own_by (fun t k => XS.iconst X4.here hx rfl (hb hby at_18) k) ?_
  show ORun p e below s _ _ _ T4 (mkF m 19 #[.val (.int p1), .val (.int p2), .val (.int p3), .val (.int p4), .val (.int p5), .val (.int p6), .val (.ref b1), .unset, .unset, .unset, .unset, .unset] [(.int (1 : Int32)), (.ref b3), (.ref b3)])
  refine own_by (fun t k => XS.iconst X4.here hx rfl (hb hby at_19) k) ?_
  show ORun p e below s _ _ _ T4 (mkF m 20 #[.val (.int p1), .val (.int p2), .val (.int p3), .val (.int p4), .val (.int p5), .val (.int p6), .val (.ref b1), .unset, .unset, .unset, .unset, .unset] [(.int (1 : Int32)), (.int (1 : Int32)), (.ref b3), (.ref b3)])
  refine own_iastore X4 hx hZ e4 V4 (i := 1) (by decide) (by omega) (hb hby at_20) ?_
  intro T5 h5 L5 X5 e5 W5 hL5 V5
  have len5 : L5.length = 5 := by rw [hL5, List.length_set]; exact len4
  have N5 := Fr.snoc X5 N4 old_b3
  obtain rfl : [(0 : Int32), (1 : Int32), (0 : Int32), (0 : Int32), (0 : Int32)] = L5 := hL5.symm
  show ORun p e below s _ _ _ T5 (mkF m 21 #[.val (.int p1), .val (.int p2), .val (.int p3), .val (.int p4), .val (.int p5), .val (.int p6), .val (.ref b1), .unset, .unset, .unset, .unset, .unset] [(.ref b3)])
  refine own_by (fun t k => XS.dup X5.here hx rfl (hb hby at_21) rfl rfl k) ?_
  show ORun p e below s _ _ _ T5 (mkF m 22 #[.val (.int p1), .val (.int p2), .val (.int p3), .val (.int p4), .val (.int p5), .val (.int p6), .val (.ref b1), .unset, .unset, .unset, .unset, .unset] [(.ref b3), (.ref b3)])
  refine own_by (fun t k => XS.iconst X5.here hx rfl (hb hby at_22) k) ?_
  show ORun p e below s _ _ _ T5 (mkF m 23 #[.val (.int p1), .val (.int p2), .val (.int p3), .val (.int p4), .val (.int p5), .val (.int p6), .val (.ref b1), .unset, .unset, .unset, .unset, .unset] [(.int (2 : Int32)), (.ref b3), (.ref b3)])
  refine own_by (fun t k => XS.iconst X5.here hx rfl (hb hby at_23) k) ?_
  show ORun p e below s _ _ _ T5 (mkF m 24 #[.val (.int p1), .val (.int p2), .val (.int p3), .val (.int p4), .val (.int p5), .val (.int p6), .val (.ref b1), .unset, .unset, .unset, .unset, .unset] [(.int (2 : Int32)), (.int (2 : Int32)), (.ref b3), (.ref b3)])
  refine own_iastore X5 hx hZ e5 V5 (i := 2) (by decide) (by omega) (hb hby at_24) ?_
  intro T6 h6 L6 X6 e6 W6 hL6 V6
  have len6 : L6.length = 5 := by rw [hL6, List.length_set]; exact len5
  have N6 := Fr.snoc X6 N5 old_b3
  obtain rfl : [(0 : Int32), (1 : Int32), (2 : Int32), (0 : Int32), (0 : Int32)] = L6 := hL6.symm
  show ORun p e below s _ _ _ T6 (mkF m 25 #[.val (.int p1), .val (.int p2), .val (.int p3), .val (.int p4), .val (.int p5), .val (.int p6), .val (.ref b1), .unset, .unset, .unset, .unset, .unset] [(.ref b3)])
  refine own_by (fun t k => XS.dup X6.here hx rfl (hb hby at_25) rfl rfl k) ?_
  show ORun p e below s _ _ _ T6 (mkF m 26 #[.val (.int p1), .val (.int p2), .val (.int p3), .val (.int p4), .val (.int p5), .val (.int p6), .val (.ref b1), .unset, .unset, .unset, .unset, .unset] [(.ref b3), (.ref b3)])
  refine own_by (fun t k => XS.iconst X6.here hx rfl (hb hby at_26) k) ?_
  show ORun p e below s _ _ _ T6 (mkF m 27 #[.val (.int p1), .val (.int p2), .val (.int p3), .val (.int p4), .val (.int p5), .val (.int p6), .val (.ref b1), .unset, .unset, .unset, .unset, .unset] [(.int (3 : Int32)), (.ref b3), (.ref b3)])
  refine own_by (fun t k => XS.iconst X6.here hx rfl (hb hby at_27) k) ?_
  show ORun p e below s _ _ _ T6 (mkF m 28 #[.val (.int p1), .val (.int p2), .val (.int p3), .val (.int p4), .val (.int p5), .val (.int p6), .val (.ref b1), .unset, .unset, .unset, .unset, .unset] [(.int (3 : Int32)), (.int (3 : Int32)), (.ref b3), (.ref b3)])
  refine own_iastore X6 hx hZ e6 V6 (i := 3) (by decide) (by omega) (hb hby at_28) ?_
  intro T7 h7 L7 X7 e7 W7 hL7 V7
  have len7 : L7.length = 5 := by rw [hL7, List.length_set]; exact len6
  have N7 := Fr.snoc X7 N6 old_b3
  obtain rfl : [(0 : Int32), (1 : Int32), (2 : Int32), (3 : Int32), (0 : Int32)] = L7 := hL7.symm
  show ORun p e below s _ _ _ T7 (mkF m 29 #[.val (.int p1), .val (.int p2), .val (.int p3), .val (.int p4), .val (.int p5), .val (.int p6), .val (.ref b1), .unset, .unset, .unset, .unset, .unset] [(.ref b3)])
  refine own_by (fun t k => XS.dup X7.here hx rfl (hb hby at_29) rfl rfl k) ?_
  show ORun p e below s _ _ _ T7 (mkF m 30 #[.val (.int p1), .val (.int p2), .val (.int p3), .val (.int p4), .val (.int p5), .val (.int p6), .val (.ref b1), .unset, .unset, .unset, .unset, .unset] [(.ref b3), (.ref b3)])
  refine own_by (fun t k => XS.iconst X7.here hx rfl (hb hby at_30) k) ?_
  show ORun p e below s _ _ _ T7 (mkF m 31 #[.val (.int p1), .val (.int p2), .val (.int p3), .val (.int p4), .val (.int p5), .val (.int p6), .val (.ref b1), .unset, .unset, .unset, .unset, .unset] [(.int (4 : Int32)), (.ref b3), (.ref b3)])
  refine own_by (fun t k => XS.iconst X7.here hx rfl (hb hby at_31) k) ?_
  show ORun p e below s _ _ _ T7 (mkF m 32 #[.val (.int p1), .val (.int p2), .val (.int p3), .val (.int p4), .val (.int p5), .val (.int p6), .val (.ref b1), .unset, .unset, .unset, .unset, .unset] [(.int (4 : Int32)), (.int (4 : Int32)), (.ref b3), (.ref b3)])
  refine own_iastore X7 hx hZ e7 V7 (i := 4) (by decide) (by omega) (hb hby at_32) ?_
  intro T8 h8 L8 X8 e8 W8 hL8 V8
  have len8 : L8.length = 5 := by rw [hL8, List.length_set]; exact len7
  have N8 := Fr.snoc X8 N7 old_b3
  obtain rfl : [(0 : Int32), (1 : Int32), (2 : Int32), (3 : Int32), (4 : Int32)] = L8 := hL8.symm
  show ORun p e below s _ _ _ T8 (mkF m 33 #[.val (.int p1), .val (.int p2), .val (.int p3), .val (.int p4), .val (.int p5), .val (.int p6), .val (.ref b1), .unset, .unset, .unset, .unset, .unset] [(.ref b3)])
  refine own_by (fun t k => XS.astore X8.here hx rfl (hb hby at_33) rfl rfl (l' := #[.val (.int p1), .val (.int p2), .val (.int p3), .val (.int p4), .val (.int p5), .val (.int p6), .val (.ref b1), .val (.ref b3), .unset, .unset, .unset, .unset]) rfl k) ?_
  show ORun p e below s _ _ _ T8 (mkF m 35 #[.val (.int p1), .val (.int p2), .val (.int p3), .val (.int p4), .val (.int p5), .val (.int p6), .val (.ref b1), .val (.ref b3), .unset, .unset, .unset, .unset] [])
  refine own_by (fun t k => XS.aload X8.here hx rfl (hb hby at_35) rfl rfl k) ?_
  show ORun p e below s _ _ _ T8 (mkF m 37 #[.val (.int p1), .val (.int p2), .val (.int p3), .val (.int p4), .val (.int p5), .val (.int p6), .val (.ref b1), .val (.ref b3), .unset, .unset, .unset, .unset] [(.ref b1)])
  refine own_by (fun t k => XS.aload X8.here hx rfl (hb hby at_37) rfl rfl k) ?_
  show ORun p e below s _ _ _ T8 (mkF m 39 #[.val (.int p1), .val (.int p2), .val (.int p3), .val (.int p4), .val (.int p5), .val (.int p6), .val (.ref b1), .val (.ref b3), .unset, .unset, .unset, .unset] [(.ref b3), (.ref b1)])
  refine own_by (fun t k => XS.iloadN X8.here hx rfl (hb hby at_39) rfl k) ?_
  show ORun p e below s _ _ _ T8 (mkF m 40 #[.val (.int p1), .val (.int p2), .val (.int p3), .val (.int p4), .val (.int p5), .val (.int p6), .val (.ref b1), .val (.ref b3), .unset, .unset, .unset, .unset] [(.int p1), (.ref b3), (.ref b1)])
  refine own_callS X8 hx hZ hown (hw _ (List.mem_of_getElem? (i := 12) rfl)) (hw _ (List.mem_of_getElem? (i := 13) rfl)) (hw _ (List.mem_of_getElem? (i := 14) rfl)) (hw _ (List.mem_of_getElem? (i := 15) rfl)) (by decide) (rm3 l Z a0 hw [] h8 n0 (Nat.le_trans (Nat.le_trans (Nat.le_trans (Nat.le_trans (Nat.le_trans (Nat.le_trans (Nat.le_trans (Nat.le_trans Z0 E1.1) K2.1) E3.1) (Keep.of_wr W4).1) (Keep.of_wr W5).1) (Keep.of_wr W6).1) (Keep.of_wr W7).1) (Keep.of_wr W8).1) b1 b3 pa p1 [0, 1, 2, 3, 4] (0 : Int32) (1 : Int32) (2 : Int32) (3 : Int32) (4 : Int32) (fun _ => 0) ((((((Eq2.ext E3).wr W4).wr W5).wr W6).wr W7).wr W8) ((((((Fq2.ext E3).other W4 (Or.inl ne_b1_b3)).other W5 (Or.inl ne_b1_b3)).other W6 (Or.inl ne_b1_b3)).other W7 (Or.inl ne_b1_b3)).other W8 (Or.inl ne_b1_b3)) ((((((Vq2.ext E3).other W4 ne_pa_b3).other W5 ne_pa_b3).other W6 ne_pa_b3).other W7 ne_pa_b3).other W8 ne_pa_b3) rfl (Nat.le_trans Z0 sz_pa) ne_b1_pa old_b3 V8 ne_b1_b3 ne_pa_b3 own_inv0) e8 (by decide) (W := 0) (by decide) (by decide) (by decide) (argsL := [(.ref b1), (.ref b3), (.int p1)]) (rest := []) (by rw [hml]; rfl) (lenOf pd_15 rfl) rfl rfl (Nat.le_of_eq rfl) (hb hby at_40) ?_
  intro T9 L9 u9 X9 hQ9
  obtain ⟨rfl, Nq9, K9, P9, x9_0, x9_1, x9_2, x9_3, x9_4, r9', Vq9, hP9, Vl9, I9⟩ := hQ9
  have N9 := Fr.app N8 Nq9
  show ORun p e below s _ _ _ T9 (mkF m 43 #[.val (.int p1), .val (.int p2), .val (.int p3), .val (.int p4), .val (.int p5), .val (.int p6), .val (.ref b1), .val (.ref b3), .unset, .unset, .unset, .unset] [])
  refine own_by (fun t k => XS.aload X9.here hx rfl (hb hby at_43) rfl rfl k) ?_
  show ORun p e below s _ _ _ T9 (mkF m 45 #[.val (.int p1), .val (.int p2), .val (.int p3), .val (.int p4), .val (.int p5), .val (.int p6), .val (.ref b1), .val (.ref b3), .unset, .unset, .unset, .unset] [(.ref b1)])
  refine own_by (fun t k => XS.aload X9.here hx rfl (hb hby at_45) rfl rfl k) ?_
  show ORun p e below s _ _ _ T9 (mkF m 47 #[.val (.int p1), .val (.int p2), .val (.int p3), .val (.int p4), .val (.int p5), .val (.int p6), .val (.ref b1), .val (.ref b3), .unset, .unset, .unset, .unset] [(.ref b3), (.ref b1)])
  refine own_by (fun t k => XS.iloadN X9.here hx rfl (hb hby at_47) rfl k) ?_
  show ORun p e below s _ _ _ T9 (mkF m 48 #[.val (.int p1), .val (.int p2), .val (.int p3), .val (.int p4), .val (.int p5), .val (.int p6), .val (.ref b1), .val (.ref b3), .unset, .unset, .unset, .unset] [(.int p2), (.ref b3), (.ref b1)])
  refine own_callS X9 hx hZ hown (hw _ (List.mem_of_getElem? (i := 12) rfl)) (hw _ (List.mem_of_getElem? (i := 13) rfl)) (hw _ (List.mem_of_getElem? (i := 14) rfl)) (hw _ (List.mem_of_getElem? (i := 15) rfl)) (by decide) (rm3 l Z a0 hw [] T9.heap n0 (Nat.le_trans (Nat.le_trans (Nat.le_trans (Nat.le_trans (Nat.le_trans (Nat.le_trans (Nat.le_trans (Nat.le_trans (Nat.le_trans Z0 E1.1) K2.1) E3.1) (Keep.of_wr W4).1) (Keep.of_wr W5).1) (Keep.of_wr W6).1) (Keep.of_wr W7).1) (Keep.of_wr W8).1) K9.1) b1 b3 pa p2 P9 x9_0 x9_1 x9_2 x9_3 x9_4 r9' (((((((Eq2.ext E3).wr W4).wr W5).wr W6).wr W7).wr W8).keep K9) (((((((Fq2.ext E3).other W4 (Or.inl ne_b1_b3)).other W5 (Or.inl ne_b1_b3)).other W6 (Or.inl ne_b1_b3)).other W7 (Or.inl ne_b1_b3)).other W8 (Or.inl ne_b1_b3)).keep K9 (ninS ne_b1_pa (ninS ne_b1_b3 nin0))) Vq9 hP9 (Nat.le_trans Z0 sz_pa) ne_b1_pa old_b3 Vl9 ne_b1_b3 ne_pa_b3 I9) rfl (by decide) (W := 0) (by decide) (by decide) (by decide) (argsL := [(.ref b1), (.ref b3), (.int p2)]) (rest := []) (by rw [hml]; rfl) (lenOf pd_15 rfl) rfl rfl (Nat.le_of_eq rfl) (hb hby at_48) ?_
  intro T10 L10 u10 X10 hQ10
  obtain ⟨rfl, Nq10, K10, P10, x10_0, x10_1, x10_2, x10_3, x10_4, r10', Vq10, hP10, Vl10, I10⟩ := hQ10
  have N10 := Fr.app N9 Nq10
  show ORun p e below s _ _ _ T10 (mkF m 51 #[.val (.int p1), .val (.int p2), .val (.int p3), .val (.int p4), .val (.int p5), .val (.int p6), .val (.ref b1), .val (.ref b3), .unset, .unset, .unset, .unset] [])
  refine own_by (fun t k => XS.aload X10.here hx rfl (hb hby at_51) rfl rfl k) ?_
  show ORun p e below s _ _ _ T10 (mkF m 53 #[.val (.int p1), .val (.int p2), .val (.int p3), .val (.int p4), .val (.int p5), .val (.int p6), .val (.ref b1), .val (.ref b3), .unset, .unset, .unset, .unset] [(.ref b1)])
  refine own_by (fun t k => XS.aload X10.here hx rfl (hb hby at_53) rfl rfl k) ?_
  show ORun p e below s _ _ _ T10 (mkF m 55 #[.val (.int p1), .val (.int p2), .val (.int p3), .val (.int p4), .val (.int p5), .val (.int p6), .val (.ref b1), .val (.ref b3), .unset, .unset, .unset, .unset] [(.ref b3), (.ref b1)])
  refine own_by (fun t k => XS.iloadN X10.here hx rfl (hb hby at_55) rfl k) ?_
  show ORun p e below s _ _ _ T10 (mkF m 56 #[.val (.int p1), .val (.int p2), .val (.int p3), .val (.int p4), .val (.int p5), .val (.int p6), .val (.ref b1), .val (.ref b3), .unset, .unset, .unset, .unset] [(.int p3), (.ref b3), (.ref b1)])
  refine own_callS X10 hx hZ hown (hw _ (List.mem_of_getElem? (i := 12) rfl)) (hw _ (List.mem_of_getElem? (i := 13) rfl)) (hw _ (List.mem_of_getElem? (i := 14) rfl)) (hw _ (List.mem_of_getElem? (i := 15) rfl)) (by decide) (rm3 l Z a0 hw [] T10.heap n0 (Nat.le_trans (Nat.le_trans (Nat.le_trans (Nat.le_trans (Nat.le_trans (Nat.le_trans (Nat.le_trans (Nat.le_trans (Nat.le_trans (Nat.le_trans Z0 E1.1) K2.1) E3.1) (Keep.of_wr W4).1) (Keep.of_wr W5).1) (Keep.of_wr W6).1) (Keep.of_wr W7).1) (Keep.of_wr W8).1) K9.1) K10.1) b1 b3 pa p3 P10 x10_0 x10_1 x10_2 x10_3 x10_4 r10' ((((((((Eq2.ext E3).wr W4).wr W5).wr W6).wr W7).wr W8).keep K9).keep K10) ((((((((Fq2.ext E3).other W4 (Or.inl ne_b1_b3)).other W5 (Or.inl ne_b1_b3)).other W6 (Or.inl ne_b1_b3)).other W7 (Or.inl ne_b1_b3)).other W8 (Or.inl ne_b1_b3)).keep K9 (ninS ne_b1_pa (ninS ne_b1_b3 nin0))).keep K10 (ninS ne_b1_pa (ninS ne_b1_b3 nin0))) Vq10 hP10 (Nat.le_trans Z0 sz_pa) ne_b1_pa old_b3 Vl10 ne_b1_b3 ne_pa_b3 I10) rfl (by decide) (W := 0) (by decide) (by decide) (by decide) (argsL := [(.ref b1), (.ref b3), (.int p3)]) (rest := []) (by rw [hml]; rfl) (lenOf pd_15 rfl) rfl rfl (Nat.le_of_eq rfl) (hb hby at_56) ?_
  intro T11 L11 u11 X11 hQ11
  obtain ⟨rfl, Nq11, K11, P11, x11_0, x11_1, x11_2, x11_3, x11_4, r11', Vq11, hP11, Vl11, I11⟩ := hQ11
  have N11 := Fr.app N10 Nq11
  show ORun p e below s _ _ _ T11 (mkF m 59 #[.val (.int p1), .val (.int p2), .val (.int p3), .val (.int p4), .val (.int p5), .val (.int p6), .val (.ref b1), .val (.ref b3), .unset, .unset, .unset, .unset] [])
  refine own_by (fun t k => XS.aload X11.here hx rfl (hb hby at_59) rfl rfl k) ?_
  show ORun p e below s _ _ _ T11 (mkF m 61 #[.val (.int p1), .val (.int p2), .val (.int p3), .val (.int p4), .val (.int p5), .val (.int p6), .val (.ref b1), .val (.ref b3), .unset, .unset, .unset, .unset] [(.ref b1)])
  refine own_by (fun t k => XS.aload X11.here hx rfl (hb hby at_61) rfl rfl k) ?_
  show ORun p e below s _ _ _ T11 (mkF m 63 #[.val (.int p1), .val (.int p2), .val (.int p3), .val (.int p4), .val (.int p5), .val (.int p6), .val (.ref b1), .val (.ref b3), .unset, .unset, .unset, .unset] [(.ref b3), (.ref b1)])
  refine own_by (fun t k => XS.iloadN X11.here hx rfl (hb hby at_63) rfl k) ?_
  show ORun p e below s _ _ _ T11 (mkF m 64 #[.val (.int p1), .val (.int p2), .val (.int p3), .val (.int p4), .val (.int p5), .val (.int p6), .val (.ref b1), .val (.ref b3), .unset, .unset, .unset, .unset] [(.int p4), (.ref b3), (.ref b1)])
  refine own_callS X11 hx hZ hown (hw _ (List.mem_of_getElem? (i := 12) rfl)) (hw _ (List.mem_of_getElem? (i := 13) rfl)) (hw _ (List.mem_of_getElem? (i := 14) rfl)) (hw _ (List.mem_of_getElem? (i := 15) rfl)) (by decide) (rm3 l Z a0 hw [] T11.heap n0 (Nat.le_trans (Nat.le_trans (Nat.le_trans (Nat.le_trans (Nat.le_trans (Nat.le_trans (Nat.le_trans (Nat.le_trans (Nat.le_trans (Nat.le_trans (Nat.le_trans Z0 E1.1) K2.1) E3.1) (Keep.of_wr W4).1) (Keep.of_wr W5).1) (Keep.of_wr W6).1) (Keep.of_wr W7).1) (Keep.of_wr W8).1) K9.1) K10.1) K11.1) b1 b3 pa p4 P11 x11_0 x11_1 x11_2 x11_3 x11_4 r11' (((((((((Eq2.ext E3).wr W4).wr W5).wr W6).wr W7).wr W8).keep K9).keep K10).keep K11) (((((((((Fq2.ext E3).other W4 (Or.inl ne_b1_b3)).other W5 (Or.inl ne_b1_b3)).other W6 (Or.inl ne_b1_b3)).other W7 (Or.inl ne_b1_b3)).other W8 (Or.inl ne_b1_b3)).keep K9 (ninS ne_b1_pa (ninS ne_b1_b3 nin0))).keep K10 (ninS ne_b1_pa (ninS ne_b1_b3 nin0))).keep K11 (ninS ne_b1_pa (ninS ne_b1_b3 nin0))) Vq11 hP11 (Nat.le_trans Z0 sz_pa) ne_b1_pa old_b3 Vl11 ne_b1_b3 ne_pa_b3 I11) rfl (by decide) (W := 0) (by decide) (by decide) (by decide) (argsL := [(.ref b1), (.ref b3), (.int p4)]) (rest := []) (by rw [hml]; rfl) (lenOf pd_15 rfl) rfl rfl (Nat.le_of_eq rfl) (hb hby at_64) ?_
  intro T12 L12 u12 X12 hQ12
  obtain ⟨rfl, Nq12, K12, P12, x12_0, x12_1, x12_2, x12_3, x12_4, r12', Vq12, hP12, Vl12, I12⟩ := hQ12
  have N12 := Fr.app N11 Nq12
  show ORun p e below s _ _ _ T12 (mkF m 67 #[.val (.int p1), .val (.int p2), .val (.int p3), .val (.int p4), .val (.int p5), .val (.int p6), .val (.ref b1), .val (.ref b3), .unset, .unset, .unset, .unset] [])
  refine own_by (fun t k => XS.aload X12.here hx rfl (hb hby at_67) rfl rfl k) ?_
  show ORun p e below s _ _ _ T12 (mkF m 69 #[.val (.int p1), .val (.int p2), .val (.int p3), .val (.int p4), .val (.int p5), .val (.int p6), .val (.ref b1), .val (.ref b3), .unset, .unset, .unset, .unset] [(.ref b1)])
  refine own_by (fun t k => XS.aload X12.here hx rfl (hb hby at_69) rfl rfl k) ?_
  show ORun p e below s _ _ _ T12 (mkF m 71 #[.val (.int p1), .val (.int p2), .val (.int p3), .val (.int p4), .val (.int p5), .val (.int p6), .val (.ref b1), .val (.ref b3), .unset, .unset, .unset, .unset] [(.ref b3), (.ref b1)])
  refine own_by (fun t k => XS.iload X12.here hx rfl (hb hby at_71) rfl k) ?_
  show ORun p e below s _ _ _ T12 (mkF m 73 #[.val (.int p1), .val (.int p2), .val (.int p3), .val (.int p4), .val (.int p5), .val (.int p6), .val (.ref b1), .val (.ref b3), .unset, .unset, .unset, .unset] [(.int p5), (.ref b3), (.ref b1)])
  refine own_callS X12 hx hZ hown (hw _ (List.mem_of_getElem? (i := 12) rfl)) (hw _ (List.mem_of_getElem? (i := 13) rfl)) (hw _ (List.mem_of_getElem? (i := 14) rfl)) (hw _ (List.mem_of_getElem? (i := 15) rfl)) (by decide) (rm3 l Z a0 hw [] T12.heap n0 (Nat.le_trans (Nat.le_trans (Nat.le_trans (Nat.le_trans (Nat.le_trans (Nat.le_trans (Nat.le_trans (Nat.le_trans (Nat.le_trans (Nat.le_trans (Nat.le_trans (Nat.le_trans Z0 E1.1) K2.1) E3.1) (Keep.of_wr W4).1) (Keep.of_wr W5).1) (Keep.of_wr W6).1) (Keep.of_wr W7).1) (Keep.of_wr W8).1) K9.1) K10.1) K11.1) K12.1) b1 b3 pa p5 P12 x12_0 x12_1 x12_2 x12_3 x12_4 r12' ((((((((((Eq2.ext E3).wr W4).wr W5).wr W6).wr W7).wr W8).keep K9).keep K10).keep K11).keep K12) ((((((((((Fq2.ext E3).other W4 (Or.inl ne_b1_b3)).other W5 (Or.inl ne_b1_b3)).other W6 (Or.inl ne_b1_b3)).other W7 (Or.inl ne_b1_b3)).other W8 (Or.inl ne_b1_b3)).keep K9 (ninS ne_b1_pa (ninS ne_b1_b3 nin0))).keep K10 (ninS ne_b1_pa (ninS ne_b1_b3 nin0))).keep K11 (ninS ne_b1_pa (ninS ne_b1_b3 nin0))).keep K12 (ninS ne_b1_pa (ninS ne_b1_b3 nin0))) Vq12 hP12 (Nat.le_trans Z0 sz_pa) ne_b1_pa old_b3 Vl12 ne_b1_b3 ne_pa_b3 I12) rfl (by decide) (W := 0) (by decide) (by decide) (by decide) (argsL := [(.ref b1), (.ref b3), (.int p5)]) (rest := []) (by rw [hml]; rfl) (lenOf pd_15 rfl) rfl rfl (Nat.le_of_eq rfl) (hb hby at_73) ?_
  intro T13 L13 u13 X13 hQ13
  obtain ⟨rfl, Nq13, K13, P13, x13_0, x13_1, x13_2, x13_3, x13_4, r13', Vq13, hP13, Vl13, I13⟩ := hQ13
  have N13 := Fr.app N12 Nq13
  show ORun p e below s _ _ _ T13 (mkF m 76 #[.val (.int p1), .val (.int p2), .val (.int p3), .val (.int p4), .val (.int p5), .val (.int p6), .val (.ref b1), .val (.ref b3), .unset, .unset, .unset, .unset] [])
  refine own_by (fun t k => XS.aload X13.here hx rfl (hb hby at_76) rfl rfl k) ?_
  show ORun p e below s _ _ _ T13 (mkF m 78 #[.val (.int p1), .val (.int p2), .val (.int p3), .val (.int p4), .val (.int p5), .val (.int p6), .val (.ref b1), .val (.ref b3), .unset, .unset, .unset, .unset] [(.ref b1)])
  refine own_by (fun t k => XS.aload X13.here hx rfl (hb hby at_78) rfl rfl k) ?_
  show ORun p e below s _ _ _ T13 (mkF m 80 #[.val (.int p1), .val (.int p2), .val (.int p3), .val (.int p4), .val (.int p5), .val (.int p6), .val (.ref b1), .val (.ref b3), .unset, .unset, .unset, .unset] [(.ref b3), (.ref b1)])
  refine own_by (fun t k => XS.iload X13.here hx rfl (hb hby at_80) rfl k) ?_
  show ORun p e below s _ _ _ T13 (mkF m 82 #[.val (.int p1), .val (.int p2), .val (.int p3), .val (.int p4), .val (.int p5), .val (.int p6), .val (.ref b1), .val (.ref b3), .unset, .unset, .unset, .unset] [(.int p6), (.ref b3), (.ref b1)])
  refine own_callS X13 hx hZ hown (hw _ (List.mem_of_getElem? (i := 12) rfl)) (hw _ (List.mem_of_getElem? (i := 13) rfl)) (hw _ (List.mem_of_getElem? (i := 14) rfl)) (hw _ (List.mem_of_getElem? (i := 15) rfl)) (by decide) (rm3 l Z a0 hw [] T13.heap n0 (Nat.le_trans (Nat.le_trans (Nat.le_trans (Nat.le_trans (Nat.le_trans (Nat.le_trans (Nat.le_trans (Nat.le_trans (Nat.le_trans (Nat.le_trans (Nat.le_trans (Nat.le_trans (Nat.le_trans Z0 E1.1) K2.1) E3.1) (Keep.of_wr W4).1) (Keep.of_wr W5).1) (Keep.of_wr W6).1) (Keep.of_wr W7).1) (Keep.of_wr W8).1) K9.1) K10.1) K11.1) K12.1) K13.1) b1 b3 pa p6 P13 x13_0 x13_1 x13_2 x13_3 x13_4 r13' (((((((((((Eq2.ext E3).wr W4).wr W5).wr W6).wr W7).wr W8).keep K9).keep K10).keep K11).keep K12).keep K13) (((((((((((Fq2.ext E3).other W4 (Or.inl ne_b1_b3)).other W5 (Or.inl ne_b1_b3)).other W6 (Or.inl ne_b1_b3)).other W7 (Or.inl ne_b1_b3)).other W8 (Or.inl ne_b1_b3)).keep K9 (ninS ne_b1_pa (ninS ne_b1_b3 nin0))).keep K10 (ninS ne_b1_pa (ninS ne_b1_b3 nin0))).keep K11 (ninS ne_b1_pa (ninS ne_b1_b3 nin0))).keep K12 (ninS ne_b1_pa (ninS ne_b1_b3 nin0))).keep K13 (ninS ne_b1_pa (ninS ne_b1_b3 nin0))) Vq13 hP13 (Nat.le_trans Z0 sz_pa) ne_b1_pa old_b3 Vl13 ne_b1_b3 ne_pa_b3 I13) rfl (by decide) (W := 0) (by decide) (by decide) (by decide) (argsL := [(.ref b1), (.ref b3), (.int p6)]) (rest := []) (by rw [hml]; rfl) (lenOf pd_15 rfl) rfl rfl (Nat.le_of_eq rfl) (hb hby at_82) ?_
  intro T14 L14 u14 X14 hQ14
  obtain ⟨rfl, Nq14, K14, P14, x14_0, x14_1, x14_2, x14_3, x14_4, r14', Vq14, hP14, Vl14, I14⟩ := hQ14
  have N14 := Fr.app N13 Nq14
  show ORun p e below s _ _ _ T14 (mkF m 85 #[.val (.int p1), .val (.int p2), .val (.int p3), .val (.int p4), .val (.int p5), .val (.int p6), .val (.ref b1), .val (.ref b3), .unset, .unset, .unset, .unset] [])
  obtain ⟨hturn, hend⟩ := own_allD (own_allOf I14)
  refine own_by (fun t k => XS.aload X14.here hx rfl (hb hby at_85) rfl rfl k) ?_
  show ORun p e below s _ _ _ T14 (mkF m 87 #[.val (.int p1), .val (.int p2), .val (.int p3), .val (.int p4), .val (.int p5), .val (.int p6), .val (.ref b1), .val (.ref b3), .unset, .unset, .unset, .unset] [(.ref b1)])
  refine own_callV X14 hx hZ hown ((((((((((((Eq2.ext E3).wr W4).wr W5).wr W6).wr W7).wr W8).keep K9).keep K10).keep K11).keep K12).keep K13).keep K14) (hw _ (List.mem_of_getElem? (i := 32) rfl)) (hw _ (List.mem_of_getElem? (i := 33) rfl)) (notFace_of_selects (args := #[]) (mvT hZ (hw _ (List.mem_of_getElem? (i := 35) rfl)))) (hw _ (List.mem_of_getElem? (i := 35) rfl)) (hw _ (List.mem_of_getElem? (i := 34) rfl)) (hw _ (List.mem_of_getElem? (i := 2) rfl)) (hw _ (List.mem_of_getElem? (i := 36) rfl)) (by decide) (rm8 l Z a0 hw [] T14.heap n0 (Nat.le_trans (Nat.le_trans (Nat.le_trans (Nat.le_trans (Nat.le_trans (Nat.le_trans (Nat.le_trans (Nat.le_trans (Nat.le_trans (Nat.le_trans (Nat.le_trans (Nat.le_trans (Nat.le_trans (Nat.le_trans Z0 E1.1) K2.1) E3.1) (Keep.of_wr W4).1) (Keep.of_wr W5).1) (Keep.of_wr W6).1) (Keep.of_wr W7).1) (Keep.of_wr W8).1) K9.1) K10.1) K11.1) K12.1) K13.1) K14.1) b1 pa de P14 [x14_0, x14_1, x14_2, x14_3, x14_4] r14' ((((((((((((Eq2.ext E3).wr W4).wr W5).wr W6).wr W7).wr W8).keep K9).keep K10).keep K11).keep K12).keep K13).keep K14) ((((((((((((Fq2.ext E3).other W4 (Or.inl ne_b1_b3)).other W5 (Or.inl ne_b1_b3)).other W6 (Or.inl ne_b1_b3)).other W7 (Or.inl ne_b1_b3)).other W8 (Or.inl ne_b1_b3)).keep K9 (ninS ne_b1_pa (ninS ne_b1_b3 nin0))).keep K10 (ninS ne_b1_pa (ninS ne_b1_b3 nin0))).keep K11 (ninS ne_b1_pa (ninS ne_b1_b3 nin0))).keep K12 (ninS ne_b1_pa (ninS ne_b1_b3 nin0))).keep K13 (ninS ne_b1_pa (ninS ne_b1_b3 nin0))).keep K14 (ninS ne_b1_pa (ninS ne_b1_b3 nin0))) Vq14 hP14 (Nat.le_trans Z0 sz_pa) ne_b1_pa rfl I14 (own_staK (own_staK (own_staK (own_staK (own_staK (own_staK (((((((own_staK (Sd.ext E1) K2 (nsS (own_nsE A1) ns0)).ext E3).wr W4).wr W5).wr W6).wr W7).wr W8) K9 (nsS (own_nsV ((((((Vq2.ext E3).other W4 ne_pa_b3).other W5 ne_pa_b3).other W6 ne_pa_b3).other W7 ne_pa_b3).other W8 ne_pa_b3)) (nsS (own_nsE (((((Ex3.wr W4).wr W5).wr W6).wr W7).wr W8)) ns0))) K10 (nsS (own_nsV Vq9) (nsS (own_nsE ((((((Ex3.wr W4).wr W5).wr W6).wr W7).wr W8).keep K9)) ns0))) K11 (nsS (own_nsV Vq10) (nsS (own_nsE (((((((Ex3.wr W4).wr W5).wr W6).wr W7).wr W8).keep K9).keep K10)) ns0))) K12 (nsS (own_nsV Vq11) (nsS (own_nsE ((((((((Ex3.wr W4).wr W5).wr W6).wr W7).wr W8).keep K9).keep K10).keep K11)) ns0))) K13 (nsS (own_nsV Vq12) (nsS (own_nsE (((((((((Ex3.wr W4).wr W5).wr W6).wr W7).wr W8).keep K9).keep K10).keep K11).keep K12)) ns0))) K14 (nsS (own_nsV Vq13) (nsS (own_nsE ((((((((((Ex3.wr W4).wr W5).wr W6).wr W7).wr W8).keep K9).keep K10).keep K11).keep K12).keep K13)) ns0))) ((((((((((((((Vd.ext E1).keep K2 (ninS ne_de_b1 nin0)).ext E3).other W4 ne_de_b3).other W5 ne_de_b3).other W6 ne_de_b3).other W7 ne_de_b3).other W8 ne_de_b3).keep K9 (ninS ne_de_pa (ninS ne_de_b3 nin0))).keep K10 (ninS ne_de_pa (ninS ne_de_b3 nin0))).keep K11 (ninS ne_de_pa (ninS ne_de_b3 nin0))).keep K12 (ninS ne_de_pa (ninS ne_de_b3 nin0))).keep K13 (ninS ne_de_pa (ninS ne_de_b3 nin0))).keep K14 (ninS ne_de_pa (ninS ne_de_b3 nin0))) ne_de_b1 ne_de_pa hturn (own_endS hend)) rfl (by decide) (W := 0) (by decide) (by decide) (by decide) (argsL := []) (rest := []) (by rw [hml]; rfl) (lenOf pd_16 rfl) rfl rfl (Nat.le_of_eq rfl) (hb hby at_87) ?_
  intro T15 L15 u15 X15 hQ15
  obtain ⟨al, rfl, Nq15, K15, szq15, Eal15, hD15⟩ := hQ15
  have N15 := Fr.app N14 Nq15
  have sz_al : h0.size ≤ al := Nat.le_trans (Nat.le_trans (Nat.le_trans (Nat.le_trans (Nat.le_trans (Nat.le_trans (Nat.le_trans (Nat.le_trans (Nat.le_trans (Nat.le_trans (Nat.le_trans (Nat.le_trans (Nat.le_trans (Nat.le_trans (Nat.le_trans (Nat.le_refl h0.size) E1.1) K2.1) E3.1) (Keep.of_wr W4).1) (Keep.of_wr W5).1) (Keep.of_wr W6).1) (Keep.of_wr W7).1) (Keep.of_wr W8).1) K9.1) K10.1) K11.1) K12.1) K13.1) K14.1) szq15
  have ne_b1_al : b1 ≠ al := Nat.ne_of_lt (Nat.lt_of_lt_of_le ((((((((((((Eq2.ext E3).wr W4).wr W5).wr W6).wr W7).wr W8).keep K9).keep K10).keep K11).keep K12).keep K13).keep K14).lt szq15)
  have ne_b3_al : b3 ≠ al := Nat.ne_of_lt (Nat.lt_of_lt_of_le Vl14.lt szq15)
  have ne_de_al : de ≠ al := Nat.ne_of_lt (Nat.lt_of_lt_of_le ((((((((((((((Vd.ext E1).keep K2 (ninS ne_de_b1 nin0)).ext E3).other W4 ne_de_b3).other W5 ne_de_b3).other W6 ne_de_b3).other W7 ne_de_b3).other W8 ne_de_b3).keep K9 (ninS ne_de_pa (ninS ne_de_b3 nin0))).keep K10 (ninS ne_de_pa (ninS ne_de_b3 nin0))).keep K11 (ninS ne_de_pa (ninS ne_de_b3 nin0))).keep K12 (ninS ne_de_pa (ninS ne_de_b3 nin0))).keep K13 (ninS ne_de_pa (ninS ne_de_b3 nin0))).keep K14 (ninS ne_de_pa (ninS ne_de_b3 nin0))).lt szq15)
  have ne_pa_al : pa ≠ al := Nat.ne_of_lt (Nat.lt_of_lt_of_le Vq14.lt szq15)
  rcases hD15 with ⟨hg, Fs⟩ | ⟨ed, gA, q0, m0, hg, Fs, Fe, Ve, VA, EA⟩ | ⟨ed, gA, gB, q0, q1, m0, m1, hg, Fs, Fe, Ve, VA, EA, VB, EB⟩
  · obtain ⟨hRn, hex⟩ := own_end0 hend hg
    show ORun p e below s _ _ _ T15 (mkF m 90 #[.val (.int p1), .val (.int p2), .val (.int p3), .val (.int p4), .val (.int p5), .val (.int p6), .val (.ref b1), .val (.ref b3), .unset, .unset, .unset, .unset] [(.ref al)])
    refine own_by (fun t k => XS.astore X15.here hx rfl (hb hby at_90) rfl rfl (l' := #[.val (.int p1), .val (.int p2), .val (.int p3), .val (.int p4), .val (.int p5), .val (.int p6), .val (.ref b1), .val (.ref b3), .val (.ref al), .unset, .unset, .unset]) rfl k) ?_
    show ORun p e below s _ _ _ T15 (mkF m 92 #[.val (.int p1), .val (.int p2), .val (.int p3), .val (.int p4), .val (.int p5), .val (.int p6), .val (.ref b1), .val (.ref b3), .val (.ref al), .unset, .unset, .unset] [])
    refine own_by (fun t k => XS.iconst X15.here hx rfl (hb hby at_92) k) ?_
    show ORun p e below s _ _ _ T15 (mkF m 93 #[.val (.int p1), .val (.int p2), .val (.int p3), .val (.int p4), .val (.int p5), .val (.int p6), .val (.ref b1), .val (.ref b3), .val (.ref al), .unset, .unset, .unset] [(.int (5 : Int32))])
    refine own_newarray X15 hx hZ (aty := .int) (hw _ (List.mem_of_getElem? (i := 9) rfl)) rfl rfl (N := 5) (cap := 5) (by decide) (Nat.le_refl _) (by decide) (by decide) (by decide) (ad := "[I") (by decide) (hb hby at_93) ?_
    intro T16 h16 b16 L16 g16 X16 e16 E16 hL16 V16 Ex16
    have len16 : L16.length = 5 := by rw [hL16]; exact List.length_replicate
    have old_b16 : n0 ≤ b16 := Nat.le_trans (Nat.le_trans (Nat.le_trans (Nat.le_trans (Nat.le_trans (Nat.le_trans (Nat.le_trans (Nat.le_trans (Nat.le_trans (Nat.le_trans (Nat.le_trans (Nat.le_trans (Nat.le_trans (Nat.le_trans (Nat.le_trans (Nat.le_trans Z0 E1.1) K2.1) E3.1) (Keep.of_wr W4).1) (Keep.of_wr W5).1) (Keep.of_wr W6).1) (Keep.of_wr W7).1) (Keep.of_wr W8).1) K9.1) K10.1) K11.1) K12.1) K13.1) K14.1) K15.1) (Nat.le_of_eq g16.symm)
    have sz_b16 : h0.size ≤ b16 := Nat.le_trans (Nat.le_trans (Nat.le_trans (Nat.le_trans (Nat.le_trans (Nat.le_trans (Nat.le_trans (Nat.le_trans (Nat.le_trans (Nat.le_trans (Nat.le_trans (Nat.le_trans (Nat.le_trans (Nat.le_trans (Nat.le_trans (Nat.le_trans (Nat.le_refl h0.size) E1.1) K2.1) E3.1) (Keep.of_wr W4).1) (Keep.of_wr W5).1) (Keep.of_wr W6).1) (Keep.of_wr W7).1) (Keep.of_wr W8).1) K9.1) K10.1) K11.1) K12.1) K13.1) K14.1) K15.1) (Nat.le_of_eq g16.symm)
    have ne_de_b16 : de ≠ b16 := Nat.ne_of_lt (Nat.lt_of_lt_of_le (((((((((((((((Vd.ext E1).keep K2 (ninS ne_de_b1 nin0)).ext E3).other W4 ne_de_b3).other W5 ne_de_b3).other W6 ne_de_b3).other W7 ne_de_b3).other W8 ne_de_b3).keep K9 (ninS ne_de_pa (ninS ne_de_b3 nin0))).keep K10 (ninS ne_de_pa (ninS ne_de_b3 nin0))).keep K11 (ninS ne_de_pa (ninS ne_de_b3 nin0))).keep K12 (ninS ne_de_pa (ninS ne_de_b3 nin0))).keep K13 (ninS ne_de_pa (ninS ne_de_b3 nin0))).keep K14 (ninS ne_de_pa (ninS ne_de_b3 nin0))).keep K15 (ninS ne_de_pa nin0)).lt (Nat.le_of_eq g16.symm))
    have ne_b1_b16 : b1 ≠ b16 := Nat.ne_of_lt (Nat.lt_of_lt_of_le (((((((((((((Eq2.ext E3).wr W4).wr W5).wr W6).wr W7).wr W8).keep K9).keep K10).keep K11).keep K12).keep K13).keep K14).keep K15).lt (Nat.le_of_eq g16.symm))
    have ne_b3_b16 : b3 ≠ b16 := Nat.ne_of_lt (Nat.lt_of_lt_of_le (Vl14.keep K15 (ninS (Ne.symm ne_pa_b3) nin0)).lt (Nat.le_of_eq g16.symm))
    have ne_al_b16 : al ≠ b16 := Nat.ne_of_lt (Nat.lt_of_lt_of_le Eal15.lt (Nat.le_of_eq g16.symm))
    show ORun p e below s _ _ _ T16 (mkF m 95 #[.val (.int p1), .val (.int p2), .val (.int p3), .val (.int p4), .val (.int p5), .val (.int p6), .val (.ref b1), .val (.ref b3), .val (.ref al), .unset, .unset, .unset] [(.ref b16)])
    subst hL16
    refine own_by (fun t k => XS.astore X16.here hx rfl (hb hby at_95) rfl rfl (l' := #[.val (.int p1), .val (.int p2), .val (.int p3), .val (.int p4), .val (.int p5), .val (.int p6), .val (.ref b1), .val (.ref b3), .val (.ref al), .val (.ref b16), .unset, .unset]) rfl k) ?_
    show ORun p e below s _ _ _ T16 (mkF m 97 #[.val (.int p1), .val (.int p2), .val (.int p3), .val (.int p4), .val (.int p5), .val (.int p6), .val (.ref b1), .val (.ref b3), .val (.ref al), .val (.ref b16), .unset, .unset] [])
    refine own_by (fun t k => XS.iconst X16.here hx rfl (hb hby at_97) k) ?_
    show ORun p e below s _ _ _ T16 (mkF m 98 #[.val (.int p1), .val (.int p2), .val (.int p3), .val (.int p4), .val (.int p5), .val (.int p6), .val (.ref b1), .val (.ref b3), .val (.ref al), .val (.ref b16), .unset, .unset] [(.int (0 : Int32))])
    refine own_by (fun t k => XS.istore X16.here hx rfl (hb hby at_98) rfl (l' := #[.val (.int p1), .val (.int p2), .val (.int p3), .val (.int p4), .val (.int p5), .val (.int p6), .val (.ref b1), .val (.ref b3), .val (.ref al), .val (.ref b16), .val (.int (0 : Int32)), .unset]) rfl k) ?_
    show ORun p e below s _ _ _ T16 (mkF m 100 #[.val (.int p1), .val (.int p2), .val (.int p3), .val (.int p4), .val (.int p5), .val (.int p6), .val (.ref b1), .val (.ref b3), .val (.ref al), .val (.ref b16), .val (.int (0 : Int32)), .unset] [])
    refine own_by (fun t k => XS.aload X16.here hx rfl (hb hby at_100) rfl rfl k) ?_
    show ORun p e below s _ _ _ T16 (mkF m 102 #[.val (.int p1), .val (.int p2), .val (.int p3), .val (.int p4), .val (.int p5), .val (.int p6), .val (.ref b1), .val (.ref b3), .val (.ref al), .val (.ref b16), .val (.int (0 : Int32)), .unset] [(.ref b3)])
    refine own_by (fun t k => XS.aload X16.here hx rfl (hb hby at_102) rfl rfl k) ?_
    show ORun p e below s _ _ _ T16 (mkF m 104 #[.val (.int p1), .val (.int p2), .val (.int p3), .val (.int p4), .val (.int p5), .val (.int p6), .val (.ref b1), .val (.ref b3), .val (.ref al), .val (.ref b16), .val (.int (0 : Int32)), .unset] [(.ref b16), (.ref b3)])
    refine own_by (fun t k => XS.iconst X16.here hx rfl (hb hby at_104) k) ?_
    show ORun p e below s _ _ _ T16 (mkF m 105 #[.val (.int p1), .val (.int p2), .val (.int p3), .val (.int p4), .val (.int p5), .val (.int p6), .val (.ref b1), .val (.ref b3), .val (.ref al), .val (.ref b16), .val (.int (0 : Int32)), .unset] [(.int (0 : Int32)), (.ref b16), (.ref b3)])
    refine own_by (fun t k => XS.iload X16.here hx rfl (hb hby at_105) rfl k) ?_
    show ORun p e below s _ _ _ T16 (mkF m 107 #[.val (.int p1), .val (.int p2), .val (.int p3), .val (.int p4), .val (.int p5), .val (.int p6), .val (.ref b1), .val (.ref b3), .val (.ref al), .val (.ref b16), .val (.int (0 : Int32)), .unset] [(.int (0 : Int32)), (.int (0 : Int32)), (.ref b16), (.ref b3)])
    refine own_callS X16 hx hZ hown (hw _ (List.mem_of_getElem? (i := 99) rfl)) (hw _ (List.mem_of_getElem? (i := 100) rfl)) (hw _ (List.mem_of_getElem? (i := 14) rfl)) (hw _ (List.mem_of_getElem? (i := 101) rfl)) (by decide) (rm17 l Z a0 hw [] h16 n0 (Nat.le_trans (Nat.le_trans (Nat.le_trans (Nat.le_trans (Nat.le_trans (Nat.le_trans (Nat.le_trans (Nat.le_trans (Nat.le_trans (Nat.le_trans (Nat.le_trans (Nat.le_trans (Nat.le_trans (Nat.le_trans (Nat.le_trans (Nat.le_trans Z0 E1.1) K2.1) E3.1) (Keep.of_wr W4).1) (Keep.of_wr W5).1) (Keep.of_wr W6).1) (Keep.of_wr W7).1) (Keep.of_wr W8).1) K9.1) K10.1) K11.1) K12.1) K13.1) K14.1) K15.1) E16.1) b3 b16 (0 : Int32) (0 : Int32) x14_0 x14_1 x14_2 x14_3 x14_4 (List.replicate 5 (0 : Int32)) ((Vl14.keep K15 (ninS (Ne.symm ne_pa_b3) nin0)).ext E16) V16 rfl old_b16 (by decide)) e16 (by decide) (W := 0) (by decide) (by decide) (by decide) (argsL := [(.ref b3), (.ref b16), (.int (0 : Int32)), (.int (0 : Int32))]) (rest := []) (by rw [hml]; rfl) (lenOf pd_17 rfl) rfl rfl (Nat.le_of_eq rfl) (hb hby at_107) ?_
    intro T17 L17 u17 X17 hQ17
    obtain ⟨rfl, Nq17, K17, Vq17⟩ := hQ17
    refine own_letI (f := fun z => (mkF m 110 #[.val (.int p1), .val (.int p2), .val (.int p3), .val (.int p4), .val (.int p5), .val (.int p6), .val (.ref b1), .val (.ref b3), .val (.ref al), .val (.ref b16), .val (.int (0 : Int32)), .unset] [(.int z)])) (own_rk [x14_0, x14_1, x14_2, x14_3, x14_4] (List.replicate 5 (0 : Int32)) (0 : Int32) (0 : Int32)).2 fun y17 hy17 => ?_
    obtain ⟨R17, hR17⟩ : ∃ z, z = (own_rk [x14_0, x14_1, x14_2, x14_3, x14_4] (List.replicate 5 (0 : Int32)) (0 : Int32) (0 : Int32)).1 := ⟨_, rfl⟩
    rw [← hR17] at Vq17
    have lR17 : R17.length = 5 := by rw [hR17]; exact own_rklen _ _ _ _ rfl
    have N17 := Fr.app N15 Nq17
    show ORun p e below s _ _ _ T17 (mkF m 110 #[.val (.int p1), .val (.int p2), .val (.int p3), .val (.int p4), .val (.int p5), .val (.int p6), .val (.ref b1), .val (.ref b3), .val (.ref al), .val (.ref b16), .val (.int (0 : Int32)), .unset] [(.int y17)])
    refine own_by (fun t k => XS.istore X17.here hx rfl (hb hby at_110) rfl (l' := #[.val (.int p1), .val (.int p2), .val (.int p3), .val (.int p4), .val (.int p5), .val (.int p6), .val (.ref b1), .val (.ref b3), .val (.ref al), .val (.ref b16), .val (.int y17), .unset]) rfl k) ?_
    show ORun p e below s _ _ _ T17 (mkF m 112 #[.val (.int p1), .val (.int p2), .val (.int p3), .val (.int p4), .val (.int p5), .val (.int p6), .val (.ref b1), .val (.ref b3), .val (.ref al), .val (.ref b16), .val (.int y17), .unset] [])
    refine own_by (fun t k => XS.aload X17.here hx rfl (hb hby at_112) rfl rfl k) ?_
    show ORun p e below s _ _ _ T17 (mkF m 114 #[.val (.int p1), .val (.int p2), .val (.int p3), .val (.int p4), .val (.int p5), .val (.int p6), .val (.ref b1), .val (.ref b3), .val (.ref al), .val (.ref b16), .val (.int y17), .unset] [(.ref b3)])
    refine own_by (fun t k => XS.aload X17.here hx rfl (hb hby at_114) rfl rfl k) ?_
    show ORun p e below s _ _ _ T17 (mkF m 116 #[.val (.int p1), .val (.int p2), .val (.int p3), .val (.int p4), .val (.int p5), .val (.int p6), .val (.ref b1), .val (.ref b3), .val (.ref al), .val (.ref b16), .val (.int y17), .unset] [(.ref b16), (.ref b3)])
    refine own_by (fun t k => XS.iconst X17.here hx rfl (hb hby at_116) k) ?_
    show ORun p e below s _ _ _ T17 (mkF m 117 #[.val (.int p1), .val (.int p2), .val (.int p3), .val (.int p4), .val (.int p5), .val (.int p6), .val (.ref b1), .val (.ref b3), .val (.ref al), .val (.ref b16), .val (.int y17), .unset] [(.int (1 : Int32)), (.ref b16), (.ref b3)])
    refine own_by (fun t k => XS.iload X17.here hx rfl (hb hby at_117) rfl k) ?_
    show ORun p e below s _ _ _ T17 (mkF m 119 #[.val (.int p1), .val (.int p2), .val (.int p3), .val (.int p4), .val (.int p5), .val (.int p6), .val (.ref b1), .val (.ref b3), .val (.ref al), .val (.ref b16), .val (.int y17), .unset] [(.int y17), (.int (1 : Int32)), (.ref b16), (.ref b3)])
    refine own_callS X17 hx hZ hown (hw _ (List.mem_of_getElem? (i := 99) rfl)) (hw _ (List.mem_of_getElem? (i := 100) rfl)) (hw _ (List.mem_of_getElem? (i := 14) rfl)) (hw _ (List.mem_of_getElem? (i := 101) rfl)) (by decide) (rm17 l Z a0 hw [] T17.heap n0 (Nat.le_trans (Nat.le_trans (Nat.le_trans (Nat.le_trans (Nat.le_trans (Nat.le_trans (Nat.le_trans (Nat.le_trans (Nat.le_trans (Nat.le_trans (Nat.le_trans (Nat.le_trans (Nat.le_trans (Nat.le_trans (Nat.le_trans (Nat.le_trans (Nat.le_trans Z0 E1.1) K2.1) E3.1) (Keep.of_wr W4).1) (Keep.of_wr W5).1) (Keep.of_wr W6).1) (Keep.of_wr W7).1) (Keep.of_wr W8).1) K9.1) K10.1) K11.1) K12.1) K13.1) K14.1) K15.1) E16.1) K17.1) b3 b16 (1 : Int32) y17 x14_0 x14_1 x14_2 x14_3 x14_4 R17 (((Vl14.keep K15 (ninS (Ne.symm ne_pa_b3) nin0)).ext E16).keep K17 (ninS ne_b3_b16 nin0)) Vq17 lR17 old_b16 (by decide)) rfl (by decide) (W := 0) (by decide) (by decide) (by decide) (argsL := [(.ref b3), (.ref b16), (.int (1 : Int32)), (.int y17)]) (rest := []) (by rw [hml]; rfl) (lenOf pd_17 rfl) rfl rfl (Nat.le_of_eq rfl) (hb hby at_119) ?_
    intro T18 L18 u18 X18 hQ18
    obtain ⟨rfl, Nq18, K18, Vq18⟩ := hQ18
    refine own_letI (f := fun z => (mkF m 122 #[.val (.int p1), .val (.int p2), .val (.int p3), .val (.int p4), .val (.int p5), .val (.int p6), .val (.ref b1), .val (.ref b3), .val (.ref al), .val (.ref b16), .val (.int y17), .unset] [(.int z)])) (own_rk [x14_0, x14_1, x14_2, x14_3, x14_4] R17 (1 : Int32) y17).2 fun y18 hy18 => ?_
    obtain ⟨R18, hR18⟩ : ∃ z, z = (own_rk [x14_0, x14_1, x14_2, x14_3, x14_4] R17 (1 : Int32) y17).1 := ⟨_, rfl⟩
    rw [← hR18] at Vq18
    have lR18 : R18.length = 5 := by rw [hR18]; exact own_rklen _ _ _ _ lR17
    have N18 := Fr.app N17 Nq18
    show ORun p e below s _ _ _ T18 (mkF m 122 #[.val (.int p1), .val (.int p2), .val (.int p3), .val (.int p4), .val (.int p5), .val (.int p6), .val (.ref b1), .val (.ref b3), .val (.ref al), .val (.ref b16), .val (.int y17), .unset] [(.int y18)])
    refine own_by (fun t k => XS.istore X18.here hx rfl (hb hby at_122) rfl (l' := #[.val (.int p1), .val (.int p2), .val (.int p3), .val (.int p4), .val (.int p5), .val (.int p6), .val (.ref b1), .val (.ref b3), .val (.ref al), .val (.ref b16), .val (.int y18), .unset]) rfl k) ?_
    show ORun p e below s _ _ _ T18 (mkF m 124 #[.val (.int p1), .val (.int p2), .val (.int p3), .val (.int p4), .val (.int p5), .val (.int p6), .val (.ref b1), .val (.ref b3), .val (.ref al), .val (.ref b16), .val (.int y18), .unset] [])
    refine own_by (fun t k => XS.aload X18.here hx rfl (hb hby at_124) rfl rfl k) ?_
    show ORun p e below s _ _ _ T18 (mkF m 126 #[.val (.int p1), .val (.int p2), .val (.int p3), .val (.int p4), .val (.int p5), .val (.int p6), .val (.ref b1), .val (.ref b3), .val (.ref al), .val (.ref b16), .val (.int y18), .unset] [(.ref b3)])
    refine own_by (fun t k => XS.aload X18.here hx rfl (hb hby at_126) rfl rfl k) ?_
    show ORun p e below s _ _ _ T18 (mkF m 128 #[.val (.int p1), .val (.int p2), .val (.int p3), .val (.int p4), .val (.int p5), .val (.int p6), .val (.ref b1), .val (.ref b3), .val (.ref al), .val (.ref b16), .val (.int y18), .unset] [(.ref b16), (.ref b3)])
    refine own_by (fun t k => XS.iconst X18.here hx rfl (hb hby at_128) k) ?_
    show ORun p e below s _ _ _ T18 (mkF m 129 #[.val (.int p1), .val (.int p2), .val (.int p3), .val (.int p4), .val (.int p5), .val (.int p6), .val (.ref b1), .val (.ref b3), .val (.ref al), .val (.ref b16), .val (.int y18), .unset] [(.int (2 : Int32)), (.ref b16), (.ref b3)])
    refine own_by (fun t k => XS.iload X18.here hx rfl (hb hby at_129) rfl k) ?_
    show ORun p e below s _ _ _ T18 (mkF m 131 #[.val (.int p1), .val (.int p2), .val (.int p3), .val (.int p4), .val (.int p5), .val (.int p6), .val (.ref b1), .val (.ref b3), .val (.ref al), .val (.ref b16), .val (.int y18), .unset] [(.int y18), (.int (2 : Int32)), (.ref b16), (.ref b3)])
    refine own_callS X18 hx hZ hown (hw _ (List.mem_of_getElem? (i := 99) rfl)) (hw _ (List.mem_of_getElem? (i := 100) rfl)) (hw _ (List.mem_of_getElem? (i := 14) rfl)) (hw _ (List.mem_of_getElem? (i := 101) rfl)) (by decide) (rm17 l Z a0 hw [] T18.heap n0 (Nat.le_trans (Nat.le_trans (Nat.le_trans (Nat.le_trans (Nat.le_trans (Nat.le_trans (Nat.le_trans (Nat.le_trans (Nat.le_trans (Nat.le_trans (Nat.le_trans (Nat.le_trans (Nat.le_trans (Nat.le_trans (Nat.le_trans (Nat.le_trans (Nat.le_trans (Nat.le_trans Z0 E1.1) K2.1) E3.1) (Keep.of_wr W4).1) (Keep.of_wr W5).1) (Keep.of_wr W6).1) (Keep.of_wr W7).1) (Keep.of_wr W8).1) K9.1) K10.1) K11.1) K12.1) K13.1) K14.1) K15.1) E16.1) K17.1) K18.1) b3 b16 (2 : Int32) y18 x14_0 x14_1 x14_2 x14_3 x14_4 R18 ((((Vl14.keep K15 (ninS (Ne.symm ne_pa_b3) nin0)).ext E16).keep K17 (ninS ne_b3_b16 nin0)).keep K18 (ninS ne_b3_b16 nin0)) Vq18 lR18 old_b16 (by decide)) rfl (by decide) (W := 0) (by decide) (by decide) (by decide) (argsL := [(.ref b3), (.ref b16), (.int (2 : Int32)), (.int y18)]) (rest := []) (by rw [hml]; rfl) (lenOf pd_17 rfl) rfl rfl (Nat.le_of_eq rfl) (hb hby at_131) ?_
    intro T19 L19 u19 X19 hQ19
    obtain ⟨rfl, Nq19, K19, Vq19⟩ := hQ19
    refine own_letI (f := fun z => (mkF m 134 #[.val (.int p1), .val (.int p2), .val (.int p3), .val (.int p4), .val (.int p5), .val (.int p6), .val (.ref b1), .val (.ref b3), .val (.ref al), .val (.ref b16), .val (.int y18), .unset] [(.int z)])) (own_rk [x14_0, x14_1, x14_2, x14_3, x14_4] R18 (2 : Int32) y18).2 fun y19 hy19 => ?_
    obtain ⟨R19, hR19⟩ : ∃ z, z = (own_rk [x14_0, x14_1, x14_2, x14_3, x14_4] R18 (2 : Int32) y18).1 := ⟨_, rfl⟩
    rw [← hR19] at Vq19
    have lR19 : R19.length = 5 := by rw [hR19]; exact own_rklen _ _ _ _ lR18
    have N19 := Fr.app N18 Nq19
    show ORun p e below s _ _ _ T19 (mkF m 134 #[.val (.int p1), .val (.int p2), .val (.int p3), .val (.int p4), .val (.int p5), .val (.int p6), .val (.ref b1), .val (.ref b3), .val (.ref al), .val (.ref b16), .val (.int y18), .unset] [(.int y19)])
    refine own_by (fun t k => XS.istore X19.here hx rfl (hb hby at_134) rfl (l' := #[.val (.int p1), .val (.int p2), .val (.int p3), .val (.int p4), .val (.int p5), .val (.int p6), .val (.ref b1), .val (.ref b3), .val (.ref al), .val (.ref b16), .val (.int y19), .unset]) rfl k) ?_
    show ORun p e below s _ _ _ T19 (mkF m 136 #[.val (.int p1), .val (.int p2), .val (.int p3), .val (.int p4), .val (.int p5), .val (.int p6), .val (.ref b1), .val (.ref b3), .val (.ref al), .val (.ref b16), .val (.int y19), .unset] [])
    refine own_by (fun t k => XS.aload X19.here hx rfl (hb hby at_136) rfl rfl k) ?_
    show ORun p e below s _ _ _ T19 (mkF m 138 #[.val (.int p1), .val (.int p2), .val (.int p3), .val (.int p4), .val (.int p5), .val (.int p6), .val (.ref b1), .val (.ref b3), .val (.ref al), .val (.ref b16), .val (.int y19), .unset] [(.ref b3)])
    refine own_by (fun t k => XS.aload X19.here hx rfl (hb hby at_138) rfl rfl k) ?_
    show ORun p e below s _ _ _ T19 (mkF m 140 #[.val (.int p1), .val (.int p2), .val (.int p3), .val (.int p4), .val (.int p5), .val (.int p6), .val (.ref b1), .val (.ref b3), .val (.ref al), .val (.ref b16), .val (.int y19), .unset] [(.ref b16), (.ref b3)])
    refine own_by (fun t k => XS.iconst X19.here hx rfl (hb hby at_140) k) ?_
    show ORun p e below s _ _ _ T19 (mkF m 141 #[.val (.int p1), .val (.int p2), .val (.int p3), .val (.int p4), .val (.int p5), .val (.int p6), .val (.ref b1), .val (.ref b3), .val (.ref al), .val (.ref b16), .val (.int y19), .unset] [(.int (3 : Int32)), (.ref b16), (.ref b3)])
    refine own_by (fun t k => XS.iload X19.here hx rfl (hb hby at_141) rfl k) ?_
    show ORun p e below s _ _ _ T19 (mkF m 143 #[.val (.int p1), .val (.int p2), .val (.int p3), .val (.int p4), .val (.int p5), .val (.int p6), .val (.ref b1), .val (.ref b3), .val (.ref al), .val (.ref b16), .val (.int y19), .unset] [(.int y19), (.int (3 : Int32)), (.ref b16), (.ref b3)])
    refine own_callS X19 hx hZ hown (hw _ (List.mem_of_getElem? (i := 99) rfl)) (hw _ (List.mem_of_getElem? (i := 100) rfl)) (hw _ (List.mem_of_getElem? (i := 14) rfl)) (hw _ (List.mem_of_getElem? (i := 101) rfl)) (by decide) (rm17 l Z a0 hw [] T19.heap n0 (Nat.le_trans (Nat.le_trans (Nat.le_trans (Nat.le_trans (Nat.le_trans (Nat.le_trans (Nat.le_trans (Nat.le_trans (Nat.le_trans (Nat.le_trans (Nat.le_trans (Nat.le_trans (Nat.le_trans (Nat.le_trans (Nat.le_trans (Nat.le_trans (Nat.le_trans (Nat.le_trans (Nat.le_trans Z0 E1.1) K2.1) E3.1) (Keep.of_wr W4).1) (Keep.of_wr W5).1) (Keep.of_wr W6).1) (Keep.of_wr W7).1) (Keep.of_wr W8).1) K9.1) K10.1) K11.1) K12.1) K13.1) K14.1) K15.1) E16.1) K17.1) K18.1) K19.1) b3 b16 (3 : Int32) y19 x14_0 x14_1 x14_2 x14_3 x14_4 R19 (((((Vl14.keep K15 (ninS (Ne.symm ne_pa_b3) nin0)).ext E16).keep K17 (ninS ne_b3_b16 nin0)).keep K18 (ninS ne_b3_b16 nin0)).keep K19 (ninS ne_b3_b16 nin0)) Vq19 lR19 old_b16 (by decide)) rfl (by decide) (W := 0) (by decide) (by decide) (by decide) (argsL := [(.ref b3), (.ref b16), (.int (3 : Int32)), (.int y19)]) (rest := []) (by rw [hml]; rfl) (lenOf pd_17 rfl) rfl rfl (Nat.le_of_eq rfl) (hb hby at_143) ?_
    intro T20 L20 u20 X20 hQ20
    obtain ⟨rfl, Nq20, K20, Vq20⟩ := hQ20
    refine own_letI (f := fun z => (mkF m 146 #[.val (.int p1), .val (.int p2), .val (.int p3), .val (.int p4), .val (.int p5), .val (.int p6), .val (.ref b1), .val (.ref b3), .val (.ref al), .val (.ref b16), .val (.int y19), .unset] [(.int z)])) (own_rk [x14_0, x14_1, x14_2, x14_3, x14_4] R19 (3 : Int32) y19).2 fun y20 hy20 => ?_
    obtain ⟨R20, hR20⟩ : ∃ z, z = (own_rk [x14_0, x14_1, x14_2, x14_3, x14_4] R19 (3 : Int32) y19).1 := ⟨_, rfl⟩
    rw [← hR20] at Vq20
    have lR20 : R20.length = 5 := by rw [hR20]; exact own_rklen _ _ _ _ lR19
    have N20 := Fr.app N19 Nq20
    show ORun p e below s _ _ _ T20 (mkF m 146 #[.val (.int p1), .val (.int p2), .val (.int p3), .val (.int p4), .val (.int p5), .val (.int p6), .val (.ref b1), .val (.ref b3), .val (.ref al), .val (.ref b16), .val (.int y19), .unset] [(.int y20)])
    refine own_by (fun t k => XS.istore X20.here hx rfl (hb hby at_146) rfl (l' := #[.val (.int p1), .val (.int p2), .val (.int p3), .val (.int p4), .val (.int p5), .val (.int p6), .val (.ref b1), .val (.ref b3), .val (.ref al), .val (.ref b16), .val (.int y20), .unset]) rfl k) ?_
    show ORun p e below s _ _ _ T20 (mkF m 148 #[.val (.int p1), .val (.int p2), .val (.int p3), .val (.int p4), .val (.int p5), .val (.int p6), .val (.ref b1), .val (.ref b3), .val (.ref al), .val (.ref b16), .val (.int y20), .unset] [])
    refine own_by (fun t k => XS.aload X20.here hx rfl (hb hby at_148) rfl rfl k) ?_
    show ORun p e below s _ _ _ T20 (mkF m 150 #[.val (.int p1), .val (.int p2), .val (.int p3), .val (.int p4), .val (.int p5), .val (.int p6), .val (.ref b1), .val (.ref b3), .val (.ref al), .val (.ref b16), .val (.int y20), .unset] [(.ref b3)])
    refine own_by (fun t k => XS.aload X20.here hx rfl (hb hby at_150) rfl rfl k) ?_
    show ORun p e below s _ _ _ T20 (mkF m 152 #[.val (.int p1), .val (.int p2), .val (.int p3), .val (.int p4), .val (.int p5), .val (.int p6), .val (.ref b1), .val (.ref b3), .val (.ref al), .val (.ref b16), .val (.int y20), .unset] [(.ref b16), (.ref b3)])
    refine own_by (fun t k => XS.iconst X20.here hx rfl (hb hby at_152) k) ?_
    show ORun p e below s _ _ _ T20 (mkF m 153 #[.val (.int p1), .val (.int p2), .val (.int p3), .val (.int p4), .val (.int p5), .val (.int p6), .val (.ref b1), .val (.ref b3), .val (.ref al), .val (.ref b16), .val (.int y20), .unset] [(.int (4 : Int32)), (.ref b16), (.ref b3)])
    refine own_by (fun t k => XS.iload X20.here hx rfl (hb hby at_153) rfl k) ?_
    show ORun p e below s _ _ _ T20 (mkF m 155 #[.val (.int p1), .val (.int p2), .val (.int p3), .val (.int p4), .val (.int p5), .val (.int p6), .val (.ref b1), .val (.ref b3), .val (.ref al), .val (.ref b16), .val (.int y20), .unset] [(.int y20), (.int (4 : Int32)), (.ref b16), (.ref b3)])
    refine own_callS X20 hx hZ hown (hw _ (List.mem_of_getElem? (i := 99) rfl)) (hw _ (List.mem_of_getElem? (i := 100) rfl)) (hw _ (List.mem_of_getElem? (i := 14) rfl)) (hw _ (List.mem_of_getElem? (i := 101) rfl)) (by decide) (rm17 l Z a0 hw [] T20.heap n0 (Nat.le_trans (Nat.le_trans (Nat.le_trans (Nat.le_trans (Nat.le_trans (Nat.le_trans (Nat.le_trans (Nat.le_trans (Nat.le_trans (Nat.le_trans (Nat.le_trans (Nat.le_trans (Nat.le_trans (Nat.le_trans (Nat.le_trans (Nat.le_trans (Nat.le_trans (Nat.le_trans (Nat.le_trans (Nat.le_trans Z0 E1.1) K2.1) E3.1) (Keep.of_wr W4).1) (Keep.of_wr W5).1) (Keep.of_wr W6).1) (Keep.of_wr W7).1) (Keep.of_wr W8).1) K9.1) K10.1) K11.1) K12.1) K13.1) K14.1) K15.1) E16.1) K17.1) K18.1) K19.1) K20.1) b3 b16 (4 : Int32) y20 x14_0 x14_1 x14_2 x14_3 x14_4 R20 ((((((Vl14.keep K15 (ninS (Ne.symm ne_pa_b3) nin0)).ext E16).keep K17 (ninS ne_b3_b16 nin0)).keep K18 (ninS ne_b3_b16 nin0)).keep K19 (ninS ne_b3_b16 nin0)).keep K20 (ninS ne_b3_b16 nin0)) Vq20 lR20 old_b16 (by decide)) rfl (by decide) (W := 0) (by decide) (by decide) (by decide) (argsL := [(.ref b3), (.ref b16), (.int (4 : Int32)), (.int y20)]) (rest := []) (by rw [hml]; rfl) (lenOf pd_17 rfl) rfl rfl (Nat.le_of_eq rfl) (hb hby at_155) ?_
    intro T21 L21 u21 X21 hQ21
    obtain ⟨rfl, Nq21, K21, Vq21⟩ := hQ21
    refine own_letI (f := fun z => (mkF m 158 #[.val (.int p1), .val (.int p2), .val (.int p3), .val (.int p4), .val (.int p5), .val (.int p6), .val (.ref b1), .val (.ref b3), .val (.ref al), .val (.ref b16), .val (.int y20), .unset] [(.int z)])) (own_rk [x14_0, x14_1, x14_2, x14_3, x14_4] R20 (4 : Int32) y20).2 fun y21 hy21 => ?_
    obtain ⟨R21, hR21⟩ : ∃ z, z = (own_rk [x14_0, x14_1, x14_2, x14_3, x14_4] R20 (4 : Int32) y20).1 := ⟨_, rfl⟩
    rw [← hR21] at Vq21
    have lR21 : R21.length = 5 := by rw [hR21]; exact own_rklen _ _ _ _ lR20
    have N21 := Fr.app N20 Nq21
    show ORun p e below s _ _ _ T21 (mkF m 158 #[.val (.int p1), .val (.int p2), .val (.int p3), .val (.int p4), .val (.int p5), .val (.int p6), .val (.ref b1), .val (.ref b3), .val (.ref al), .val (.ref b16), .val (.int y20), .unset] [(.int y21)])
    refine own_by (fun t k => XS.istore X21.here hx rfl (hb hby at_158) rfl (l' := #[.val (.int p1), .val (.int p2), .val (.int p3), .val (.int p4), .val (.int p5), .val (.int p6), .val (.ref b1), .val (.ref b3), .val (.ref al), .val (.ref b16), .val (.int y21), .unset]) rfl k) ?_
    show ORun p e below s _ _ _ T21 (mkF m 160 #[.val (.int p1), .val (.int p2), .val (.int p3), .val (.int p4), .val (.int p5), .val (.int p6), .val (.ref b1), .val (.ref b3), .val (.ref al), .val (.ref b16), .val (.int y21), .unset] [])
    have eRR : R21 = (own_R [x14_0, x14_1, x14_2, x14_3, x14_4]).1 := by rw [hR21, hR20, hy20, hR19, hy19, hR18, hy18, hR17, hy17]; rfl
    have eRc : y21 = (0 : Int32) := by rw [← hRn, hy21, hR20, hy20, hR19, hy19, hR18, hy18, hR17, hy17]; rfl
    subst eRc
    show ORun p e below s _ _ _ T21 (mkF m 160 #[.val (.int p1), .val (.int p2), .val (.int p3), .val (.int p4), .val (.int p5), .val (.int p6), .val (.ref b1), .val (.ref b3), .val (.ref al), .val (.ref b16), .val (.int (0 : Int32)), .unset] [])
    refine own_by (fun t k => XS.aload X21.here hx rfl (hb hby at_160) rfl rfl k) ?_
    show ORun p e below s _ _ _ T21 (mkF m 162 #[.val (.int p1), .val (.int p2), .val (.int p3), .val (.int p4), .val (.int p5), .val (.int p6), .val (.ref b1), .val (.ref b3), .val (.ref al), .val (.ref b16), .val (.int (0 : Int32)), .unset] [(.ref al)])
    refine own_callI X21 hx hZ hown ((((((Eal15.ext E16).keep K17).keep K18).keep K19).keep K20).keep K21) (hw _ (List.mem_of_getElem? (i := 108) rfl)) (hw _ (List.mem_of_getElem? (i := 109) rfl)) (hw _ (List.mem_of_getElem? (i := 110) rfl)) (by first | rfl | simp [Cond.onTables, Cond.keepsFace, Cond.keeps, Cond.steady]) (hw _ (List.mem_of_getElem? (i := 111) rfl)) (hw _ (List.mem_of_getElem? (i := 112) rfl)) (hw _ (List.mem_of_getElem? (i := 113) rfl)) (hw _ (List.mem_of_getElem? (i := 114) rfl)) (hw _ (List.mem_of_getElem? (i := 71) rfl)) (hw _ (List.mem_of_getElem? (i := 39) rfl)) (hw _ (List.mem_of_getElem? (i := 115) rfl)) (by decide) (rm20 l Z a0 hw [] T21.heap n0 (Nat.le_trans (Nat.le_trans (Nat.le_trans (Nat.le_trans (Nat.le_trans (Nat.le_trans (Nat.le_trans (Nat.le_trans (Nat.le_trans (Nat.le_trans (Nat.le_trans (Nat.le_trans (Nat.le_trans (Nat.le_trans (Nat.le_trans (Nat.le_trans (Nat.le_trans (Nat.le_trans (Nat.le_trans (Nat.le_trans (Nat.le_trans Z0 E1.1) K2.1) E3.1) (Keep.of_wr W4).1) (Keep.of_wr W5).1) (Keep.of_wr W6).1) (Keep.of_wr W7).1) (Keep.of_wr W8).1) K9.1) K10.1) K11.1) K12.1) K13.1) K14.1) K15.1) E16.1) K17.1) K18.1) K19.1) K20.1) K21.1) al (0 : Int32) ((((((Fs.ext E16).keep K17 (ninS ne_al_b16 nin0)).keep K18 (ninS ne_al_b16 nin0)).keep K19 (ninS ne_al_b16 nin0)).keep K20 (ninS ne_al_b16 nin0)).keep K21 (ninS ne_al_b16 nin0))) rfl (by decide) (W := 0) (by decide) (by decide) (by decide) (argsL := []) (rest := []) (by rw [hml]; rfl) (lenOf pd_18 rfl) rfl rfl (Nat.le_of_eq rfl) (hb hby at_162) ?_
    intro T22 L22 u22 X22 hQ22
    obtain ⟨rfl, Nq22, e22⟩ := hQ22
    have N22 := Fr.app N21 Nq22
    show ORun p e below s _ _ _ T22 (mkF m 167 #[.val (.int p1), .val (.int p2), .val (.int p3), .val (.int p4), .val (.int p5), .val (.int p6), .val (.ref b1), .val (.ref b3), .val (.ref al), .val (.ref b16), .val (.int (0 : Int32)), .unset] [(.int (0 : Int32))])
    refine own_by (fun t k => XS.iload X22.here hx rfl (hb hby at_167) rfl k) ?_
    show ORun p e below s _ _ _ T22 (mkF m 169 #[.val (.int p1), .val (.int p2), .val (.int p3), .val (.int p4), .val (.int p5), .val (.int p6), .val (.ref b1), .val (.ref b3), .val (.ref al), .val (.ref b16), .val (.int (0 : Int32)), .unset] [(.int (0 : Int32)), (.int (0 : Int32))])
    refine own_by (fun t k => XS.icmpYes X22.here hx rfl (pc0 := 169) (pc' := 174) rfl (hb hby at_169) rfl (teq (by decide)).1 (by decide) (by decide) k) ?_
    show ORun p e below s _ _ _ T22 (mkF m 174 #[.val (.int p1), .val (.int p2), .val (.int p3), .val (.int p4), .val (.int p5), .val (.int p6), .val (.ref b1), .val (.ref b3), .val (.ref al), .val (.ref b16), .val (.int (0 : Int32)), .unset] [])
    refine own_by (fun t k => XS.iconst X22.here hx rfl (hb hby at_174) k) ?_
    show ORun p e below s _ _ _ T22 (mkF m 175 #[.val (.int p1), .val (.int p2), .val (.int p3), .val (.int p4), .val (.int p5), .val (.int p6), .val (.ref b1), .val (.ref b3), .val (.ref al), .val (.ref b16), .val (.int (0 : Int32)), .unset] [(.int (5 : Int32))])
    refine own_newarray X22 hx hZ (aty := .int) (hw _ (List.mem_of_getElem? (i := 9) rfl)) e22 rfl (N := 5) (cap := 5) (by decide) (Nat.le_refl _) (by decide) (by decide) (by decide) (ad := "[I") (by decide) (hb hby at_175) ?_
    intro T23 h23 b23 L23 g23 X23 e23 E23 hL23 V23 Ex23
    have len23 : L23.length = 5 := by rw [hL23]; exact List.length_replicate
    have old_b23 : n0 ≤ b23 := Nat.le_trans (Nat.le_trans (Nat.le_trans (Nat.le_trans (Nat.le_trans (Nat.le_trans (Nat.le_trans (Nat.le_trans (Nat.le_trans (Nat.le_trans (Nat.le_trans (Nat.le_trans (Nat.le_trans (Nat.le_trans (Nat.le_trans (Nat.le_trans (Nat.le_trans (Nat.le_trans (Nat.le_trans (Nat.le_trans (Nat.le_trans (Nat.le_trans Z0 E1.1) K2.1) E3.1) (Keep.of_wr W4).1) (Keep.of_wr W5).1) (Keep.of_wr W6).1) (Keep.of_wr W7).1) (Keep.of_wr W8).1) K9.1) K10.1) K11.1) K12.1) K13.1) K14.1) K15.1) E16.1) K17.1) K18.1) K19.1) K20.1) K21.1) (Nat.le_of_eq g23.symm)
    have sz_b23 : h0.size ≤ b23 := Nat.le_trans (Nat.le_trans (Nat.le_trans (Nat.le_trans (Nat.le_trans (Nat.le_trans (Nat.le_trans (Nat.le_trans (Nat.le_trans (Nat.le_trans (Nat.le_trans (Nat.le_trans (Nat.le_trans (Nat.le_trans (Nat.le_trans (Nat.le_trans (Nat.le_trans (Nat.le_trans (Nat.le_trans (Nat.le_trans (Nat.le_trans (Nat.le_trans (Nat.le_refl h0.size) E1.1) K2.1) E3.1) (Keep.of_wr W4).1) (Keep.of_wr W5).1) (Keep.of_wr W6).1) (Keep.of_wr W7).1) (Keep.of_wr W8).1) K9.1) K10.1) K11.1) K12.1) K13.1) K14.1) K15.1) E16.1) K17.1) K18.1) K19.1) K20.1) K21.1) (Nat.le_of_eq g23.symm)
    have ne_de_b23 : de ≠ b23 := Nat.ne_of_lt (Nat.lt_of_lt_of_le (((((((((((((((((((((Vd.ext E1).keep K2 (ninS ne_de_b1 nin0)).ext E3).other W4 ne_de_b3).other W5 ne_de_b3).other W6 ne_de_b3).other W7 ne_de_b3).other W8 ne_de_b3).keep K9 (ninS ne_de_pa (ninS ne_de_b3 nin0))).keep K10 (ninS ne_de_pa (ninS ne_de_b3 nin0))).keep K11 (ninS ne_de_pa (ninS ne_de_b3 nin0))).keep K12 (ninS ne_de_pa (ninS ne_de_b3 nin0))).keep K13 (ninS ne_de_pa (ninS ne_de_b3 nin0))).keep K14 (ninS ne_de_pa (ninS ne_de_b3 nin0))).keep K15 (ninS ne_de_pa nin0)).ext E16).keep K17 (ninS ne_de_b16 nin0)).keep K18 (ninS ne_de_b16 nin0)).keep K19 (ninS ne_de_b16 nin0)).keep K20 (ninS ne_de_b16 nin0)).keep K21 (ninS ne_de_b16 nin0)).lt (Nat.le_of_eq g23.symm))
    have ne_b1_b23 : b1 ≠ b23 := Nat.ne_of_lt (Nat.lt_of_lt_of_le (((((((((((((((((((Eq2.ext E3).wr W4).wr W5).wr W6).wr W7).wr W8).keep K9).keep K10).keep K11).keep K12).keep K13).keep K14).keep K15).ext E16).keep K17).keep K18).keep K19).keep K20).keep K21).lt (Nat.le_of_eq g23.symm))
    have ne_b3_b23 : b3 ≠ b23 := Nat.ne_of_lt (Nat.lt_of_lt_of_le (((((((Vl14.keep K15 (ninS (Ne.symm ne_pa_b3) nin0)).ext E16).keep K17 (ninS ne_b3_b16 nin0)).keep K18 (ninS ne_b3_b16 nin0)).keep K19 (ninS ne_b3_b16 nin0)).keep K20 (ninS ne_b3_b16 nin0)).keep K21 (ninS ne_b3_b16 nin0)).lt (Nat.le_of_eq g23.symm))
    have ne_al_b23 : al ≠ b23 := Nat.ne_of_lt (Nat.lt_of_lt_of_le ((((((Eal15.ext E16).keep K17).keep K18).keep K19).keep K20).keep K21).lt (Nat.le_of_eq g23.symm))
    have ne_b16_b23 : b16 ≠ b23 := Nat.ne_of_lt (Nat.lt_of_lt_of_le Vq21.lt (Nat.le_of_eq g23.symm))
    show ORun p e below s _ _ _ T23 (mkF m 177 #[.val (.int p1), .val (.int p2), .val (.int p3), .val (.int p4), .val (.int p5), .val (.int p6), .val (.ref b1), .val (.ref b3), .val (.ref al), .val (.ref b16), .val (.int (0 : Int32)), .unset] [(.ref b23)])
    subst hL23
    refine own_by (fun t k => XS.astore X23.here hx rfl (hb hby at_177) rfl rfl (l' := #[.val (.int p1), .val (.int p2), .val (.int p3), .val (.int p4), .val (.int p5), .val (.int p6), .val (.ref b1), .val (.ref b3), .val (.ref al), .val (.ref b16), .val (.int (0 : Int32)), .val (.ref b23)]) rfl k) ?_
    show ORun p e below s _ _ _ T23 (mkF m 179 #[.val (.int p1), .val (.int p2), .val (.int p3), .val (.int p4), .val (.int p5), .val (.int p6), .val (.ref b1), .val (.ref b3), .val (.ref al), .val (.ref b16), .val (.int (0 : Int32)), .val (.ref b23)] [])
    refine own_by (fun t k => XS.iload X23.here hx rfl (hb hby at_179) rfl k) ?_
    show ORun p e below s _ _ _ T23 (mkF m 181 #[.val (.int p1), .val (.int p2), .val (.int p3), .val (.int p4), .val (.int p5), .val (.int p6), .val (.ref b1), .val (.ref b3), .val (.ref al), .val (.ref b16), .val (.int (0 : Int32)), .val (.ref b23)] [(.int (0 : Int32))])
    refine own_by (fun t k => XS.iconst X23.here hx rfl (hb hby at_181) k) ?_
    show ORun p e below s _ _ _ T23 (mkF m 182 #[.val (.int p1), .val (.int p2), .val (.int p3), .val (.int p4), .val (.int p5), .val (.int p6), .val (.ref b1), .val (.ref b3), .val (.ref al), .val (.ref b16), .val (.int (0 : Int32)), .val (.ref b23)] [(.int (1 : Int32)), (.int (0 : Int32))])
    refine own_by (fun t k => XS.icmpYes X23.here hx rfl (pc0 := 182) (pc' := 207) rfl (hb hby at_182) rfl (tlt (by decide)).1 (by decide) (by decide) k) ?_
    show ORun p e below s _ _ _ T23 (mkF m 207 #[.val (.int p1), .val (.int p2), .val (.int p3), .val (.int p4), .val (.int p5), .val (.int p6), .val (.ref b1), .val (.ref b3), .val (.ref al), .val (.ref b16), .val (.int (0 : Int32)), .val (.ref b23)] [])
    refine own_by (fun t k => XS.iload X23.here hx rfl (hb hby at_207) rfl k) ?_
    show ORun p e below s _ _ _ T23 (mkF m 209 #[.val (.int p1), .val (.int p2), .val (.int p3), .val (.int p4), .val (.int p5), .val (.int p6), .val (.ref b1), .val (.ref b3), .val (.ref al), .val (.ref b16), .val (.int (0 : Int32)), .val (.ref b23)] [(.int (0 : Int32))])
    refine own_by (fun t k => XS.iconst X23.here hx rfl (hb hby at_209) k) ?_
    show ORun p e below s _ _ _ T23 (mkF m 210 #[.val (.int p1), .val (.int p2), .val (.int p3), .val (.int p4), .val (.int p5), .val (.int p6), .val (.ref b1), .val (.ref b3), .val (.ref al), .val (.ref b16), .val (.int (0 : Int32)), .val (.ref b23)] [(.int (2 : Int32)), (.int (0 : Int32))])
    refine own_by (fun t k => XS.icmpYes X23.here hx rfl (pc0 := 210) (pc' := 235) rfl (hb hby at_210) rfl (tlt (by decide)).1 (by decide) (by decide) k) ?_
    show ORun p e below s _ _ _ T23 (mkF m 235 #[.val (.int p1), .val (.int p2), .val (.int p3), .val (.int p4), .val (.int p5), .val (.int p6), .val (.ref b1), .val (.ref b3), .val (.ref al), .val (.ref b16), .val (.int (0 : Int32)), .val (.ref b23)] [])
    refine own_by (fun t k => XS.aload X23.here hx rfl (hb hby at_235) rfl rfl k) ?_
    show ORun p e below s _ _ _ T23 (mkF m 237 #[.val (.int p1), .val (.int p2), .val (.int p3), .val (.int p4), .val (.int p5), .val (.int p6), .val (.ref b1), .val (.ref b3), .val (.ref al), .val (.ref b16), .val (.int (0 : Int32)), .val (.ref b23)] [(.ref b23)])
    refine own_by (fun t k => XS.iconst X23.here hx rfl (hb hby at_237) k) ?_
    show ORun p e below s _ _ _ T23 (mkF m 238 #[.val (.int p1), .val (.int p2), .val (.int p3), .val (.int p4), .val (.int p5), .val (.int p6), .val (.ref b1), .val (.ref b3), .val (.ref al), .val (.ref b16), .val (.int (0 : Int32)), .val (.ref b23)] [(.int (0 : Int32)), (.ref b23)])
    refine own_iaload X23 hx hZ e23 V23 (i := 0) (by decide) (by omega) (hb hby at_238) ?_
    intro v24 hv24
    have r24 := rng32 v24
    show ORun p e below s _ _ _ T23 (mkF m 239 #[.val (.int p1), .val (.int p2), .val (.int p3), .val (.int p4), .val (.int p5), .val (.int p6), .val (.ref b1), .val (.ref b3), .val (.ref al), .val (.ref b16), .val (.int (0 : Int32)), .val (.ref b23)] [(.int v24)])
    refine own_by (fun t k => XS.aload X23.here hx rfl (hb hby at_239) rfl rfl k) ?_
    show ORun p e below s _ _ _ T23 (mkF m 241 #[.val (.int p1), .val (.int p2), .val (.int p3), .val (.int p4), .val (.int p5), .val (.int p6), .val (.ref b1), .val (.ref b3), .val (.ref al), .val (.ref b16), .val (.int (0 : Int32)), .val (.ref b23)] [(.ref b3), (.int v24)])
    refine own_by (fun t k => XS.aload X23.here hx rfl (hb hby at_241) rfl rfl k) ?_
    show ORun p e below s _ _ _ T23 (mkF m 243 #[.val (.int p1), .val (.int p2), .val (.int p3), .val (.int p4), .val (.int p5), .val (.int p6), .val (.ref b1), .val (.ref b3), .val (.ref al), .val (.ref b16), .val (.int (0 : Int32)), .val (.ref b23)] [(.ref b16), (.ref b3), (.int v24)])
    refine own_by (fun t k => XS.iconst X23.here hx rfl (hb hby at_243) k) ?_
    show ORun p e below s _ _ _ T23 (mkF m 244 #[.val (.int p1), .val (.int p2), .val (.int p3), .val (.int p4), .val (.int p5), .val (.int p6), .val (.ref b1), .val (.ref b3), .val (.ref al), .val (.ref b16), .val (.int (0 : Int32)), .val (.ref b23)] [(.int (0 : Int32)), (.ref b16), (.ref b3), (.int v24)])
    refine own_callS X23 hx hZ hown (hw _ (List.mem_of_getElem? (i := 144) rfl)) (hw _ (List.mem_of_getElem? (i := 145) rfl)) (hw _ (List.mem_of_getElem? (i := 14) rfl)) (hw _ (List.mem_of_getElem? (i := 146) rfl)) (by decide) (rm27 l Z a0 hw [] h23 n0 (Nat.le_trans (Nat.le_trans (Nat.le_trans (Nat.le_trans (Nat.le_trans (Nat.le_trans (Nat.le_trans (Nat.le_trans (Nat.le_trans (Nat.le_trans (Nat.le_trans (Nat.le_trans (Nat.le_trans (Nat.le_trans (Nat.le_trans (Nat.le_trans (Nat.le_trans (Nat.le_trans (Nat.le_trans (Nat.le_trans (Nat.le_trans (Nat.le_trans Z0 E1.1) K2.1) E3.1) (Keep.of_wr W4).1) (Keep.of_wr W5).1) (Keep.of_wr W6).1) (Keep.of_wr W7).1) (Keep.of_wr W8).1) K9.1) K10.1) K11.1) K12.1) K13.1) K14.1) K15.1) E16.1) K17.1) K18.1) K19.1) K20.1) K21.1) E23.1) b3 b16 (0 : Int32) x14_0 x14_1 x14_2 x14_3 x14_4 R21 ((((((((Vl14.keep K15 (ninS (Ne.symm ne_pa_b3) nin0)).ext E16).keep K17 (ninS ne_b3_b16 nin0)).keep K18 (ninS ne_b3_b16 nin0)).keep K19 (ninS ne_b3_b16 nin0)).keep K20 (ninS ne_b3_b16 nin0)).keep K21 (ninS ne_b3_b16 nin0)).ext E23) (Vq21.ext E23) lR21 (by decide)) e23 (by decide) (W := 1) (by decide) (by decide) (by decide) (argsL := [(.ref b3), (.ref b16), (.int (0 : Int32))]) (rest := [(.int v24)]) (by rw [hml]; rfl) (lenOf pd_19 rfl) rfl rfl (Nat.le_of_eq rfl) (hb hby at_244) ?_
    intro T25 L25 u25 X25 hQ25
    obtain ⟨rfl, Nq25, e25⟩ := hQ25
    refine own_letI (f := fun z => (mkF m 247 #[.val (.int p1), .val (.int p2), .val (.int p3), .val (.int p4), .val (.int p5), .val (.int p6), .val (.ref b1), .val (.ref b3), .val (.ref al), .val (.ref b16), .val (.int (0 : Int32)), .val (.ref b23)] [(.int z), (.int v24)])) (own_ex [x14_0, x14_1, x14_2, x14_3, x14_4] R21 (0 : Int32)) fun y25 hy25 => ?_
    have N25 := Fr.app N22 Nq25
    show ORun p e below s _ _ _ T25 (mkF m 247 #[.val (.int p1), .val (.int p2), .val (.int p3), .val (.int p4), .val (.int p5), .val (.int p6), .val (.ref b1), .val (.ref b3), .val (.ref al), .val (.ref b16), .val (.int (0 : Int32)), .val (.ref b23)] [(.int y25), (.int v24)])
    have hq25 : v24 = y25 := hv24.trans ((hex 0 (by decide)).trans (by rw [hy25, eRR]; rfl))
    refine own_by (fun t k => XS.icmpNo X25.here hx rfl (hb hby at_247) rfl (teq hq25).2 k) ?_
    show ORun p e below s _ _ _ T25 (mkF m 250 #[.val (.int p1), .val (.int p2), .val (.int p3), .val (.int p4), .val (.int p5), .val (.int p6), .val (.ref b1), .val (.ref b3), .val (.ref al), .val (.ref b16), .val (.int (0 : Int32)), .val (.ref b23)] [])
    refine own_by (fun t k => XS.aload X25.here hx rfl (hb hby at_250) rfl rfl k) ?_
    show ORun p e below s _ _ _ T25 (mkF m 252 #[.val (.int p1), .val (.int p2), .val (.int p3), .val (.int p4), .val (.int p5), .val (.int p6), .val (.ref b1), .val (.ref b3), .val (.ref al), .val (.ref b16), .val (.int (0 : Int32)), .val (.ref b23)] [(.ref b23)])
    refine own_by (fun t k => XS.iconst X25.here hx rfl (hb hby at_252) k) ?_
    show ORun p e below s _ _ _ T25 (mkF m 253 #[.val (.int p1), .val (.int p2), .val (.int p3), .val (.int p4), .val (.int p5), .val (.int p6), .val (.ref b1), .val (.ref b3), .val (.ref al), .val (.ref b16), .val (.int (0 : Int32)), .val (.ref b23)] [(.int (1 : Int32)), (.ref b23)])
    refine own_iaload X25 hx hZ e25 V23 (i := 1) (by decide) (by omega) (hb hby at_253) ?_
    intro v26 hv26
    have r26 := rng32 v26
    show ORun p e below s _ _ _ T25 (mkF m 254 #[.val (.int p1), .val (.int p2), .val (.int p3), .val (.int p4), .val (.int p5), .val (.int p6), .val (.ref b1), .val (.ref b3), .val (.ref al), .val (.ref b16), .val (.int (0 : Int32)), .val (.ref b23)] [(.int v26)])
    refine own_by (fun t k => XS.aload X25.here hx rfl (hb hby at_254) rfl rfl k) ?_
    show ORun p e below s _ _ _ T25 (mkF m 256 #[.val (.int p1), .val (.int p2), .val (.int p3), .val (.int p4), .val (.int p5), .val (.int p6), .val (.ref b1), .val (.ref b3), .val (.ref al), .val (.ref b16), .val (.int (0 : Int32)), .val (.ref b23)] [(.ref b3), (.int v26)])
    refine own_by (fun t k => XS.aload X25.here hx rfl (hb hby at_256) rfl rfl k) ?_
    show ORun p e below s _ _ _ T25 (mkF m 258 #[.val (.int p1), .val (.int p2), .val (.int p3), .val (.int p4), .val (.int p5), .val (.int p6), .val (.ref b1), .val (.ref b3), .val (.ref al), .val (.ref b16), .val (.int (0 : Int32)), .val (.ref b23)] [(.ref b16), (.ref b3), (.int v26)])
    refine own_by (fun t k => XS.iconst X25.here hx rfl (hb hby at_258) k) ?_
    show ORun p e below s _ _ _ T25 (mkF m 259 #[.val (.int p1), .val (.int p2), .val (.int p3), .val (.int p4), .val (.int p5), .val (.int p6), .val (.ref b1), .val (.ref b3), .val (.ref al), .val (.ref b16), .val (.int (0 : Int32)), .val (.ref b23)] [(.int (1 : Int32)), (.ref b16), (.ref b3), (.int v26)])
    refine own_callS X25 hx hZ hown (hw _ (List.mem_of_getElem? (i := 144) rfl)) (hw _ (List.mem_of_getElem? (i := 145) rfl)) (hw _ (List.mem_of_getElem? (i := 14) rfl)) (hw _ (List.mem_of_getElem? (i := 146) rfl)) (by decide) (rm27 l Z a0 hw [] h23 n0 (Nat.le_trans (Nat.le_trans (Nat.le_trans (Nat.le_trans (Nat.le_trans (Nat.le_trans (Nat.le_trans (Nat.le_trans (Nat.le_trans (Nat.le_trans (Nat.le_trans (Nat.le_trans (Nat.le_trans (Nat.le_trans (Nat.le_trans (Nat.le_trans (Nat.le_trans (Nat.le_trans (Nat.le_trans (Nat.le_trans (Nat.le_trans (Nat.le_trans Z0 E1.1) K2.1) E3.1) (Keep.of_wr W4).1) (Keep.of_wr W5).1) (Keep.of_wr W6).1) (Keep.of_wr W7).1) (Keep.of_wr W8).1) K9.1) K10.1) K11.1) K12.1) K13.1) K14.1) K15.1) E16.1) K17.1) K18.1) K19.1) K20.1) K21.1) E23.1) b3 b16 (1 : Int32) x14_0 x14_1 x14_2 x14_3 x14_4 R21 ((((((((Vl14.keep K15 (ninS (Ne.symm ne_pa_b3) nin0)).ext E16).keep K17 (ninS ne_b3_b16 nin0)).keep K18 (ninS ne_b3_b16 nin0)).keep K19 (ninS ne_b3_b16 nin0)).keep K20 (ninS ne_b3_b16 nin0)).keep K21 (ninS ne_b3_b16 nin0)).ext E23) (Vq21.ext E23) lR21 (by decide)) e25 (by decide) (W := 1) (by decide) (by decide) (by decide) (argsL := [(.ref b3), (.ref b16), (.int (1 : Int32))]) (rest := [(.int v26)]) (by rw [hml]; rfl) (lenOf pd_19 rfl) rfl rfl (Nat.le_of_eq rfl) (hb hby at_259) ?_
    intro T27 L27 u27 X27 hQ27
    obtain ⟨rfl, Nq27, e27⟩ := hQ27
    refine own_letI (f := fun z => (mkF m 262 #[.val (.int p1), .val (.int p2), .val (.int p3), .val (.int p4), .val (.int p5), .val (.int p6), .val (.ref b1), .val (.ref b3), .val (.ref al), .val (.ref b16), .val (.int (0 : Int32)), .val (.ref b23)] [(.int z), (.int v26)])) (own_ex [x14_0, x14_1, x14_2, x14_3, x14_4] R21 (1 : Int32)) fun y27 hy27 => ?_
    have N27 := Fr.app N25 Nq27
    show ORun p e below s _ _ _ T27 (mkF m 262 #[.val (.int p1), .val (.int p2), .val (.int p3), .val (.int p4), .val (.int p5), .val (.int p6), .val (.ref b1), .val (.ref b3), .val (.ref al), .val (.ref b16), .val (.int (0 : Int32)), .val (.ref b23)] [(.int y27), (.int v26)])
    have hq27 : v26 = y27 := hv26.trans ((hex 1 (by decide)).trans (by rw [hy27, eRR]; rfl))
    refine own_by (fun t k => XS.icmpNo X27.here hx rfl (hb hby at_262) rfl (teq hq27).2 k) ?_
    show ORun p e below s _ _ _ T27 (mkF m 265 #[.val (.int p1), .val (.int p2), .val (.int p3), .val (.int p4), .val (.int p5), .val (.int p6), .val (.ref b1), .val (.ref b3), .val (.ref al), .val (.ref b16), .val (.int (0 : Int32)), .val (.ref b23)] [])
    refine own_by (fun t k => XS.aload X27.here hx rfl (hb hby at_265) rfl rfl k) ?_
    show ORun p e below s _ _ _ T27 (mkF m 267 #[.val (.int p1), .val (.int p2), .val (.int p3), .val (.int p4), .val (.int p5), .val (.int p6), .val (.ref b1), .val (.ref b3), .val (.ref al), .val (.ref b16), .val (.int (0 : Int32)), .val (.ref b23)] [(.ref b23)])
    refine own_by (fun t k => XS.iconst X27.here hx rfl (hb hby at_267) k) ?_
    show ORun p e below s _ _ _ T27 (mkF m 268 #[.val (.int p1), .val (.int p2), .val (.int p3), .val (.int p4), .val (.int p5), .val (.int p6), .val (.ref b1), .val (.ref b3), .val (.ref al), .val (.ref b16), .val (.int (0 : Int32)), .val (.ref b23)] [(.int (2 : Int32)), (.ref b23)])
    refine own_iaload X27 hx hZ e27 V23 (i := 2) (by decide) (by omega) (hb hby at_268) ?_
    intro v28 hv28
    have r28 := rng32 v28
    show ORun p e below s _ _ _ T27 (mkF m 269 #[.val (.int p1), .val (.int p2), .val (.int p3), .val (.int p4), .val (.int p5), .val (.int p6), .val (.ref b1), .val (.ref b3), .val (.ref al), .val (.ref b16), .val (.int (0 : Int32)), .val (.ref b23)] [(.int v28)])
    refine own_by (fun t k => XS.aload X27.here hx rfl (hb hby at_269) rfl rfl k) ?_
    show ORun p e below s _ _ _ T27 (mkF m 271 #[.val (.int p1), .val (.int p2), .val (.int p3), .val (.int p4), .val (.int p5), .val (.int p6), .val (.ref b1), .val (.ref b3), .val (.ref al), .val (.ref b16), .val (.int (0 : Int32)), .val (.ref b23)] [(.ref b3), (.int v28)])
    refine own_by (fun t k => XS.aload X27.here hx rfl (hb hby at_271) rfl rfl k) ?_
    show ORun p e below s _ _ _ T27 (mkF m 273 #[.val (.int p1), .val (.int p2), .val (.int p3), .val (.int p4), .val (.int p5), .val (.int p6), .val (.ref b1), .val (.ref b3), .val (.ref al), .val (.ref b16), .val (.int (0 : Int32)), .val (.ref b23)] [(.ref b16), (.ref b3), (.int v28)])
    refine own_by (fun t k => XS.iconst X27.here hx rfl (hb hby at_273) k) ?_
    show ORun p e below s _ _ _ T27 (mkF m 274 #[.val (.int p1), .val (.int p2), .val (.int p3), .val (.int p4), .val (.int p5), .val (.int p6), .val (.ref b1), .val (.ref b3), .val (.ref al), .val (.ref b16), .val (.int (0 : Int32)), .val (.ref b23)] [(.int (2 : Int32)), (.ref b16), (.ref b3), (.int v28)])
    refine own_callS X27 hx hZ hown (hw _ (List.mem_of_getElem? (i := 144) rfl)) (hw _ (List.mem_of_getElem? (i := 145) rfl)) (hw _ (List.mem_of_getElem? (i := 14) rfl)) (hw _ (List.mem_of_getElem? (i := 146) rfl)) (by decide) (rm27 l Z a0 hw [] h23 n0 (Nat.le_trans (Nat.le_trans (Nat.le_trans (Nat.le_trans (Nat.le_trans (Nat.le_trans (Nat.le_trans (Nat.le_trans (Nat.le_trans (Nat.le_trans (Nat.le_trans (Nat.le_trans (Nat.le_trans (Nat.le_trans (Nat.le_trans (Nat.le_trans (Nat.le_trans (Nat.le_trans (Nat.le_trans (Nat.le_trans (Nat.le_trans (Nat.le_trans Z0 E1.1) K2.1) E3.1) (Keep.of_wr W4).1) (Keep.of_wr W5).1) (Keep.of_wr W6).1) (Keep.of_wr W7).1) (Keep.of_wr W8).1) K9.1) K10.1) K11.1) K12.1) K13.1) K14.1) K15.1) E16.1) K17.1) K18.1) K19.1) K20.1) K21.1) E23.1) b3 b16 (2 : Int32) x14_0 x14_1 x14_2 x14_3 x14_4 R21 ((((((((Vl14.keep K15 (ninS (Ne.symm ne_pa_b3) nin0)).ext E16).keep K17 (ninS ne_b3_b16 nin0)).keep K18 (ninS ne_b3_b16 nin0)).keep K19 (ninS ne_b3_b16 nin0)).keep K20 (ninS ne_b3_b16 nin0)).keep K21 (ninS ne_b3_b16 nin0)).ext E23) (Vq21.ext E23) lR21 (by decide)) e27 (by decide) (W := 1) (by decide) (by decide) (by decide) (argsL := [(.ref b3), (.ref b16), (.int (2 : Int32))]) (rest := [(.int v28)]) (by rw [hml]; rfl) (lenOf pd_19 rfl) rfl rfl (Nat.le_of_eq rfl) (hb hby at_274) ?_
    intro T29 L29 u29 X29 hQ29
    obtain ⟨rfl, Nq29, e29⟩ := hQ29
    refine own_letI (f := fun z => (mkF m 277 #[.val (.int p1), .val (.int p2), .val (.int p3), .val (.int p4), .val (.int p5), .val (.int p6), .val (.ref b1), .val (.ref b3), .val (.ref al), .val (.ref b16), .val (.int (0 : Int32)), .val (.ref b23)] [(.int z), (.int v28)])) (own_ex [x14_0, x14_1, x14_2, x14_3, x14_4] R21 (2 : Int32)) fun y29 hy29 => ?_
    have N29 := Fr.app N27 Nq29
    show ORun p e below s _ _ _ T29 (mkF m 277 #[.val (.int p1), .val (.int p2), .val (.int p3), .val (.int p4), .val (.int p5), .val (.int p6), .val (.ref b1), .val (.ref b3), .val (.ref al), .val (.ref b16), .val (.int (0 : Int32)), .val (.ref b23)] [(.int y29), (.int v28)])
    have hq29 : v28 = y29 := hv28.trans ((hex 2 (by decide)).trans (by rw [hy29, eRR]; rfl))
    refine own_by (fun t k => XS.icmpNo X29.here hx rfl (hb hby at_277) rfl (teq hq29).2 k) ?_
    show ORun p e below s _ _ _ T29 (mkF m 280 #[.val (.int p1), .val (.int p2), .val (.int p3), .val (.int p4), .val (.int p5), .val (.int p6), .val (.ref b1), .val (.ref b3), .val (.ref al), .val (.ref b16), .val (.int (0 : Int32)), .val (.ref b23)] [])
    refine own_by (fun t k => XS.aload X29.here hx rfl (hb hby at_280) rfl rfl k) ?_
    show ORun p e below s _ _ _ T29 (mkF m 282 #[.val (.int p1), .val (.int p2), .val (.int p3), .val (.int p4), .val (.int p5), .val (.int p6), .val (.ref b1), .val (.ref b3), .val (.ref al), .val (.ref b16), .val (.int (0 : Int32)), .val (.ref b23)] [(.ref b23)])
    refine own_by (fun t k => XS.iconst X29.here hx rfl (hb hby at_282) k) ?_
    show ORun p e below s _ _ _ T29 (mkF m 283 #[.val (.int p1), .val (.int p2), .val (.int p3), .val (.int p4), .val (.int p5), .val (.int p6), .val (.ref b1), .val (.ref b3), .val (.ref al), .val (.ref b16), .val (.int (0 : Int32)), .val (.ref b23)] [(.int (3 : Int32)), (.ref b23)])
    refine own_iaload X29 hx hZ e29 V23 (i := 3) (by decide) (by omega) (hb hby at_283) ?_
    intro v30 hv30
    have r30 := rng32 v30
    show ORun p e below s _ _ _ T29 (mkF m 284 #[.val (.int p1), .val (.int p2), .val (.int p3), .val (.int p4), .val (.int p5), .val (.int p6), .val (.ref b1), .val (.ref b3), .val (.ref al), .val (.ref b16), .val (.int (0 : Int32)), .val (.ref b23)] [(.int v30)])
    refine own_by (fun t k => XS.aload X29.here hx rfl (hb hby at_284) rfl rfl k) ?_
    show ORun p e below s _ _ _ T29 (mkF m 286 #[.val (.int p1), .val (.int p2), .val (.int p3), .val (.int p4), .val (.int p5), .val (.int p6), .val (.ref b1), .val (.ref b3), .val (.ref al), .val (.ref b16), .val (.int (0 : Int32)), .val (.ref b23)] [(.ref b3), (.int v30)])
    refine own_by (fun t k => XS.aload X29.here hx rfl (hb hby at_286) rfl rfl k) ?_
    show ORun p e below s _ _ _ T29 (mkF m 288 #[.val (.int p1), .val (.int p2), .val (.int p3), .val (.int p4), .val (.int p5), .val (.int p6), .val (.ref b1), .val (.ref b3), .val (.ref al), .val (.ref b16), .val (.int (0 : Int32)), .val (.ref b23)] [(.ref b16), (.ref b3), (.int v30)])
    refine own_by (fun t k => XS.iconst X29.here hx rfl (hb hby at_288) k) ?_
    show ORun p e below s _ _ _ T29 (mkF m 289 #[.val (.int p1), .val (.int p2), .val (.int p3), .val (.int p4), .val (.int p5), .val (.int p6), .val (.ref b1), .val (.ref b3), .val (.ref al), .val (.ref b16), .val (.int (0 : Int32)), .val (.ref b23)] [(.int (3 : Int32)), (.ref b16), (.ref b3), (.int v30)])
    refine own_callS X29 hx hZ hown (hw _ (List.mem_of_getElem? (i := 144) rfl)) (hw _ (List.mem_of_getElem? (i := 145) rfl)) (hw _ (List.mem_of_getElem? (i := 14) rfl)) (hw _ (List.mem_of_getElem? (i := 146) rfl)) (by decide) (rm27 l Z a0 hw [] h23 n0 (Nat.le_trans (Nat.le_trans (Nat.le_trans (Nat.le_trans (Nat.le_trans (Nat.le_trans (Nat.le_trans (Nat.le_trans (Nat.le_trans (Nat.le_trans (Nat.le_trans (Nat.le_trans (Nat.le_trans (Nat.le_trans (Nat.le_trans (Nat.le_trans (Nat.le_trans (Nat.le_trans (Nat.le_trans (Nat.le_trans (Nat.le_trans (Nat.le_trans Z0 E1.1) K2.1) E3.1) (Keep.of_wr W4).1) (Keep.of_wr W5).1) (Keep.of_wr W6).1) (Keep.of_wr W7).1) (Keep.of_wr W8).1) K9.1) K10.1) K11.1) K12.1) K13.1) K14.1) K15.1) E16.1) K17.1) K18.1) K19.1) K20.1) K21.1) E23.1) b3 b16 (3 : Int32) x14_0 x14_1 x14_2 x14_3 x14_4 R21 ((((((((Vl14.keep K15 (ninS (Ne.symm ne_pa_b3) nin0)).ext E16).keep K17 (ninS ne_b3_b16 nin0)).keep K18 (ninS ne_b3_b16 nin0)).keep K19 (ninS ne_b3_b16 nin0)).keep K20 (ninS ne_b3_b16 nin0)).keep K21 (ninS ne_b3_b16 nin0)).ext E23) (Vq21.ext E23) lR21 (by decide)) e29 (by decide) (W := 1) (by decide) (by decide) (by decide) (argsL := [(.ref b3), (.ref b16), (.int (3 : Int32))]) (rest := [(.int v30)]) (by rw [hml]; rfl) (lenOf pd_19 rfl) rfl rfl (Nat.le_of_eq rfl) (hb hby at_289) ?_
    intro T31 L31 u31 X31 hQ31
    obtain ⟨rfl, Nq31, e31⟩ := hQ31
    refine own_letI (f := fun z => (mkF m 292 #[.val (.int p1), .val (.int p2), .val (.int p3), .val (.int p4), .val (.int p5), .val (.int p6), .val (.ref b1), .val (.ref b3), .val (.ref al), .val (.ref b16), .val (.int (0 : Int32)), .val (.ref b23)] [(.int z), (.int v30)])) (own_ex [x14_0, x14_1, x14_2, x14_3, x14_4] R21 (3 : Int32)) fun y31 hy31 => ?_
    have N31 := Fr.app N29 Nq31
    show ORun p e below s _ _ _ T31 (mkF m 292 #[.val (.int p1), .val (.int p2), .val (.int p3), .val (.int p4), .val (.int p5), .val (.int p6), .val (.ref b1), .val (.ref b3), .val (.ref al), .val (.ref b16), .val (.int (0 : Int32)), .val (.ref b23)] [(.int y31), (.int v30)])
    have hq31 : v30 = y31 := hv30.trans ((hex 3 (by decide)).trans (by rw [hy31, eRR]; rfl))
    refine own_by (fun t k => XS.icmpNo X31.here hx rfl (hb hby at_292) rfl (teq hq31).2 k) ?_
    show ORun p e below s _ _ _ T31 (mkF m 295 #[.val (.int p1), .val (.int p2), .val (.int p3), .val (.int p4), .val (.int p5), .val (.int p6), .val (.ref b1), .val (.ref b3), .val (.ref al), .val (.ref b16), .val (.int (0 : Int32)), .val (.ref b23)] [])
    refine own_by (fun t k => XS.aload X31.here hx rfl (hb hby at_295) rfl rfl k) ?_
    show ORun p e below s _ _ _ T31 (mkF m 297 #[.val (.int p1), .val (.int p2), .val (.int p3), .val (.int p4), .val (.int p5), .val (.int p6), .val (.ref b1), .val (.ref b3), .val (.ref al), .val (.ref b16), .val (.int (0 : Int32)), .val (.ref b23)] [(.ref b23)])
    refine own_by (fun t k => XS.iconst X31.here hx rfl (hb hby at_297) k) ?_
    show ORun p e below s _ _ _ T31 (mkF m 298 #[.val (.int p1), .val (.int p2), .val (.int p3), .val (.int p4), .val (.int p5), .val (.int p6), .val (.ref b1), .val (.ref b3), .val (.ref al), .val (.ref b16), .val (.int (0 : Int32)), .val (.ref b23)] [(.int (4 : Int32)), (.ref b23)])
    refine own_iaload X31 hx hZ e31 V23 (i := 4) (by decide) (by omega) (hb hby at_298) ?_
    intro v32 hv32
    have r32 := rng32 v32
    show ORun p e below s _ _ _ T31 (mkF m 299 #[.val (.int p1), .val (.int p2), .val (.int p3), .val (.int p4), .val (.int p5), .val (.int p6), .val (.ref b1), .val (.ref b3), .val (.ref al), .val (.ref b16), .val (.int (0 : Int32)), .val (.ref b23)] [(.int v32)])
    refine own_by (fun t k => XS.aload X31.here hx rfl (hb hby at_299) rfl rfl k) ?_
    show ORun p e below s _ _ _ T31 (mkF m 301 #[.val (.int p1), .val (.int p2), .val (.int p3), .val (.int p4), .val (.int p5), .val (.int p6), .val (.ref b1), .val (.ref b3), .val (.ref al), .val (.ref b16), .val (.int (0 : Int32)), .val (.ref b23)] [(.ref b3), (.int v32)])
    refine own_by (fun t k => XS.aload X31.here hx rfl (hb hby at_301) rfl rfl k) ?_
    show ORun p e below s _ _ _ T31 (mkF m 303 #[.val (.int p1), .val (.int p2), .val (.int p3), .val (.int p4), .val (.int p5), .val (.int p6), .val (.ref b1), .val (.ref b3), .val (.ref al), .val (.ref b16), .val (.int (0 : Int32)), .val (.ref b23)] [(.ref b16), (.ref b3), (.int v32)])
    refine own_by (fun t k => XS.iconst X31.here hx rfl (hb hby at_303) k) ?_
    show ORun p e below s _ _ _ T31 (mkF m 304 #[.val (.int p1), .val (.int p2), .val (.int p3), .val (.int p4), .val (.int p5), .val (.int p6), .val (.ref b1), .val (.ref b3), .val (.ref al), .val (.ref b16), .val (.int (0 : Int32)), .val (.ref b23)] [(.int (4 : Int32)), (.ref b16), (.ref b3), (.int v32)])
    refine own_callS X31 hx hZ hown (hw _ (List.mem_of_getElem? (i := 144) rfl)) (hw _ (List.mem_of_getElem? (i := 145) rfl)) (hw _ (List.mem_of_getElem? (i := 14) rfl)) (hw _ (List.mem_of_getElem? (i := 146) rfl)) (by decide) (rm27 l Z a0 hw [] h23 n0 (Nat.le_trans (Nat.le_trans (Nat.le_trans (Nat.le_trans (Nat.le_trans (Nat.le_trans (Nat.le_trans (Nat.le_trans (Nat.le_trans (Nat.le_trans (Nat.le_trans (Nat.le_trans (Nat.le_trans (Nat.le_trans (Nat.le_trans (Nat.le_trans (Nat.le_trans (Nat.le_trans (Nat.le_trans (Nat.le_trans (Nat.le_trans (Nat.le_trans Z0 E1.1) K2.1) E3.1) (Keep.of_wr W4).1) (Keep.of_wr W5).1) (Keep.of_wr W6).1) (Keep.of_wr W7).1) (Keep.of_wr W8).1) K9.1) K10.1) K11.1) K12.1) K13.1) K14.1) K15.1) E16.1) K17.1) K18.1) K19.1) K20.1) K21.1) E23.1) b3 b16 (4 : Int32) x14_0 x14_1 x14_2 x14_3 x14_4 R21 ((((((((Vl14.keep K15 (ninS (Ne.symm ne_pa_b3) nin0)).ext E16).keep K17 (ninS ne_b3_b16 nin0)).keep K18 (ninS ne_b3_b16 nin0)).keep K19 (ninS ne_b3_b16 nin0)).keep K20 (ninS ne_b3_b16 nin0)).keep K21 (ninS ne_b3_b16 nin0)).ext E23) (Vq21.ext E23) lR21 (by decide)) e31 (by decide) (W := 1) (by decide) (by decide) (by decide) (argsL := [(.ref b3), (.ref b16), (.int (4 : Int32))]) (rest := [(.int v32)]) (by rw [hml]; rfl) (lenOf pd_19 rfl) rfl rfl (Nat.le_of_eq rfl) (hb hby at_304) ?_
    intro T33 L33 u33 X33 hQ33
    obtain ⟨rfl, Nq33, e33⟩ := hQ33
    refine own_letI (f := fun z => (mkF m 307 #[.val (.int p1), .val (.int p2), .val (.int p3), .val (.int p4), .val (.int p5), .val (.int p6), .val (.ref b1), .val (.ref b3), .val (.ref al), .val (.ref b16), .val (.int (0 : Int32)), .val (.ref b23)] [(.int z), (.int v32)])) (own_ex [x14_0, x14_1, x14_2, x14_3, x14_4] R21 (4 : Int32)) fun y33 hy33 => ?_
    have N33 := Fr.app N31 Nq33
    show ORun p e below s _ _ _ T33 (mkF m 307 #[.val (.int p1), .val (.int p2), .val (.int p3), .val (.int p4), .val (.int p5), .val (.int p6), .val (.ref b1), .val (.ref b3), .val (.ref al), .val (.ref b16), .val (.int (0 : Int32)), .val (.ref b23)] [(.int y33), (.int v32)])
    have hq33 : v32 = y33 := hv32.trans ((hex 4 (by decide)).trans (by rw [hy33, eRR]; rfl))
    refine own_by (fun t k => XS.icmpNo X33.here hx rfl (hb hby at_307) rfl (teq hq33).2 k) ?_
    show ORun p e below s _ _ _ T33 (mkF m 310 #[.val (.int p1), .val (.int p2), .val (.int p3), .val (.int p4), .val (.int p5), .val (.int p6), .val (.ref b1), .val (.ref b3), .val (.ref al), .val (.ref b16), .val (.int (0 : Int32)), .val (.ref b23)] [])
    refine own_by (fun t k => XS.iconst X33.here hx rfl (hb hby at_310) k) ?_
    show ORun p e below s _ _ _ T33 (mkF m 311 #[.val (.int p1), .val (.int p2), .val (.int p3), .val (.int p4), .val (.int p5), .val (.int p6), .val (.ref b1), .val (.ref b3), .val (.ref al), .val (.ref b16), .val (.int (0 : Int32)), .val (.ref b23)] [(.int (1 : Int32))])
    refine own_by (fun t k => XS.goto X33.here hx rfl (pc0 := 311) (pc' := 315) rfl (hb hby at_311) (by decide) (by decide) k) ?_
    show ORun p e below s _ _ _ T33 (mkF m 315 #[.val (.int p1), .val (.int p2), .val (.int p3), .val (.int p4), .val (.int p5), .val (.int p6), .val (.ref b1), .val (.ref b3), .val (.ref al), .val (.ref b16), .val (.int (0 : Int32)), .val (.ref b23)] [(.int (1 : Int32))])
    refine own_retN X33 hx (t := .boolean) hret (by simp) hlk (hb hby at_315) (by decide) (by decide) ?_
    exact ⟨rfl, N33⟩
  · obtain ⟨hRn, okA, hex⟩ := own_end1 hend hg
    show ORun p e below s _ _ _ T15 (mkF m 90 #[.val (.int p1), .val (.int p2), .val (.int p3), .val (.int p4), .val (.int p5), .val (.int p6), .val (.ref b1), .val (.ref b3), .unset, .unset, .unset, .unset] [(.ref al)])
    refine own_by (fun t k => XS.astore X15.here hx rfl (hb hby at_90) rfl rfl (l' := #[.val (.int p1), .val (.int p2), .val (.int p3), .val (.int p4), .val (.int p5), .val (.int p6), .val (.ref b1), .val (.ref b3), .val (.ref al), .unset, .unset, .unset]) rfl k) ?_
    show ORun p e below s _ _ _ T15 (mkF m 92 #[.val (.int p1), .val (.int p2), .val (.int p3), .val (.int p4), .val (.int p5), .val (.int p6), .val (.ref b1), .val (.ref b3), .val (.ref al), .unset, .unset, .unset] [])
    refine own_by (fun t k => XS.iconst X15.here hx rfl (hb hby at_92) k) ?_
    show ORun p e below s _ _ _ T15 (mkF m 93 #[.val (.int p1), .val (.int p2), .val (.int p3), .val (.int p4), .val (.int p5), .val (.int p6), .val (.ref b1), .val (.ref b3), .val (.ref al), .unset, .unset, .unset] [(.int (5 : Int32))])
    refine own_newarray X15 hx hZ (aty := .int) (hw _ (List.mem_of_getElem? (i := 9) rfl)) rfl rfl (N := 5) (cap := 5) (by decide) (Nat.le_refl _) (by decide) (by decide) (by decide) (ad := "[I") (by decide) (hb hby at_93) ?_
    intro T34 h34 b34 L34 g34 X34 e34 E34 hL34 V34 Ex34
    have len34 : L34.length = 5 := by rw [hL34]; exact List.length_replicate
    have old_b34 : n0 ≤ b34 := Nat.le_trans (Nat.le_trans (Nat.le_trans (Nat.le_trans (Nat.le_trans (Nat.le_trans (Nat.le_trans (Nat.le_trans (Nat.le_trans (Nat.le_trans (Nat.le_trans (Nat.le_trans (Nat.le_trans (Nat.le_trans (Nat.le_trans (Nat.le_trans Z0 E1.1) K2.1) E3.1) (Keep.of_wr W4).1) (Keep.of_wr W5).1) (Keep.of_wr W6).1) (Keep.of_wr W7).1) (Keep.of_wr W8).1) K9.1) K10.1) K11.1) K12.1) K13.1) K14.1) K15.1) (Nat.le_of_eq g34.symm)
    have sz_b34 : h0.size ≤ b34 := Nat.le_trans (Nat.le_trans (Nat.le_trans (Nat.le_trans (Nat.le_trans (Nat.le_trans (Nat.le_trans (Nat.le_trans (Nat.le_trans (Nat.le_trans (Nat.le_trans (Nat.le_trans (Nat.le_trans (Nat.le_trans (Nat.le_trans (Nat.le_trans (Nat.le_refl h0.size) E1.1) K2.1) E3.1) (Keep.of_wr W4).1) (Keep.of_wr W5).1) (Keep.of_wr W6).1) (Keep.of_wr W7).1) (Keep.of_wr W8).1) K9.1) K10.1) K11.1) K12.1) K13.1) K14.1) K15.1) (Nat.le_of_eq g34.symm)
    have ne_de_b34 : de ≠ b34 := Nat.ne_of_lt (Nat.lt_of_lt_of_le (((((((((((((((Vd.ext E1).keep K2 (ninS ne_de_b1 nin0)).ext E3).other W4 ne_de_b3).other W5 ne_de_b3).other W6 ne_de_b3).other W7 ne_de_b3).other W8 ne_de_b3).keep K9 (ninS ne_de_pa (ninS ne_de_b3 nin0))).keep K10 (ninS ne_de_pa (ninS ne_de_b3 nin0))).keep K11 (ninS ne_de_pa (ninS ne_de_b3 nin0))).keep K12 (ninS ne_de_pa (ninS ne_de_b3 nin0))).keep K13 (ninS ne_de_pa (ninS ne_de_b3 nin0))).keep K14 (ninS ne_de_pa (ninS ne_de_b3 nin0))).keep K15 (ninS ne_de_pa nin0)).lt (Nat.le_of_eq g34.symm))
    have ne_b1_b34 : b1 ≠ b34 := Nat.ne_of_lt (Nat.lt_of_lt_of_le (((((((((((((Eq2.ext E3).wr W4).wr W5).wr W6).wr W7).wr W8).keep K9).keep K10).keep K11).keep K12).keep K13).keep K14).keep K15).lt (Nat.le_of_eq g34.symm))
    have ne_b3_b34 : b3 ≠ b34 := Nat.ne_of_lt (Nat.lt_of_lt_of_le (Vl14.keep K15 (ninS (Ne.symm ne_pa_b3) nin0)).lt (Nat.le_of_eq g34.symm))
    have ne_al_b34 : al ≠ b34 := Nat.ne_of_lt (Nat.lt_of_lt_of_le Eal15.lt (Nat.le_of_eq g34.symm))
    have ne_ed_b34 : ed ≠ b34 := Nat.ne_of_lt (Nat.lt_of_lt_of_le Ve.lt (Nat.le_of_eq g34.symm))
    have ne_gA_b34 : gA ≠ b34 := Nat.ne_of_lt (Nat.lt_of_lt_of_le VA.lt (Nat.le_of_eq g34.symm))
    show ORun p e below s _ _ _ T34 (mkF m 95 #[.val (.int p1), .val (.int p2), .val (.int p3), .val (.int p4), .val (.int p5), .val (.int p6), .val (.ref b1), .val (.ref b3), .val (.ref al), .unset, .unset, .unset] [(.ref b34)])
    subst hL34
    refine own_by (fun t k => XS.astore X34.here hx rfl (hb hby at_95) rfl rfl (l' := #[.val (.int p1), .val (.int p2), .val (.int p3), .val (.int p4), .val (.int p5), .val (.int p6), .val (.ref b1), .val (.ref b3), .val (.ref al), .val (.ref b34), .unset, .unset]) rfl k) ?_
    show ORun p e below s _ _ _ T34 (mkF m 97 #[.val (.int p1), .val (.int p2), .val (.int p3), .val (.int p4), .val (.int p5), .val (.int p6), .val (.ref b1), .val (.ref b3), .val (.ref al), .val (.ref b34), .unset, .unset] [])
    refine own_by (fun t k => XS.iconst X34.here hx rfl (hb hby at_97) k) ?_
    show ORun p e below s _ _ _ T34 (mkF m 98 #[.val (.int p1), .val (.int p2), .val (.int p3), .val (.int p4), .val (.int p5), .val (.int p6), .val (.ref b1), .val (.ref b3), .val (.ref al), .val (.ref b34), .unset, .unset] [(.int (0 : Int32))])
    refine own_by (fun t k => XS.istore X34.here hx rfl (hb hby at_98) rfl (l' := #[.val (.int p1), .val (.int p2), .val (.int p3), .val (.int p4), .val (.int p5), .val (.int p6), .val (.ref b1), .val (.ref b3), .val (.ref al), .val (.ref b34), .val (.int (0 : Int32)), .unset]) rfl k) ?_
    show ORun p e below s _ _ _ T34 (mkF m 100 #[.val (.int p1), .val (.int p2), .val (.int p3), .val (.int p4), .val (.int p5), .val (.int p6), .val (.ref b1), .val (.ref b3), .val (.ref al), .val (.ref b34), .val (.int (0 : Int32)), .unset] [])
    refine own_by (fun t k => XS.aload X34.here hx rfl (hb hby at_100) rfl rfl k) ?_
    show ORun p e below s _ _ _ T34 (mkF m 102 #[.val (.int p1), .val (.int p2), .val (.int p3), .val (.int p4), .val (.int p5), .val (.int p6), .val (.ref b1), .val (.ref b3), .val (.ref al), .val (.ref b34), .val (.int (0 : Int32)), .unset] [(.ref b3)])
    refine own_by (fun t k => XS.aload X34.here hx rfl (hb hby at_102) rfl rfl k) ?_
    show ORun p e below s _ _ _ T34 (mkF m 104 #[.val (.int p1), .val (.int p2), .val (.int p3), .val (.int p4), .val (.int p5), .val (.int p6), .val (.ref b1), .val (.ref b3), .val (.ref al), .val (.ref b34), .val (.int (0 : Int32)), .unset] [(.ref b34), (.ref b3)])
    refine own_by (fun t k => XS.iconst X34.here hx rfl (hb hby at_104) k) ?_
    show ORun p e below s _ _ _ T34 (mkF m 105 #[.val (.int p1), .val (.int p2), .val (.int p3), .val (.int p4), .val (.int p5), .val (.int p6), .val (.ref b1), .val (.ref b3), .val (.ref al), .val (.ref b34), .val (.int (0 : Int32)), .unset] [(.int (0 : Int32)), (.ref b34), (.ref b3)])
    refine own_by (fun t k => XS.iload X34.here hx rfl (hb hby at_105) rfl k) ?_
    show ORun p e below s _ _ _ T34 (mkF m 107 #[.val (.int p1), .val (.int p2), .val (.int p3), .val (.int p4), .val (.int p5), .val (.int p6), .val (.ref b1), .val (.ref b3), .val (.ref al), .val (.ref b34), .val (.int (0 : Int32)), .unset] [(.int (0 : Int32)), (.int (0 : Int32)), (.ref b34), (.ref b3)])
    refine own_callS X34 hx hZ hown (hw _ (List.mem_of_getElem? (i := 99) rfl)) (hw _ (List.mem_of_getElem? (i := 100) rfl)) (hw _ (List.mem_of_getElem? (i := 14) rfl)) (hw _ (List.mem_of_getElem? (i := 101) rfl)) (by decide) (rm17 l Z a0 hw [] h34 n0 (Nat.le_trans (Nat.le_trans (Nat.le_trans (Nat.le_trans (Nat.le_trans (Nat.le_trans (Nat.le_trans (Nat.le_trans (Nat.le_trans (Nat.le_trans (Nat.le_trans (Nat.le_trans (Nat.le_trans (Nat.le_trans (Nat.le_trans (Nat.le_trans Z0 E1.1) K2.1) E3.1) (Keep.of_wr W4).1) (Keep.of_wr W5).1) (Keep.of_wr W6).1) (Keep.of_wr W7).1) (Keep.of_wr W8).1) K9.1) K10.1) K11.1) K12.1) K13.1) K14.1) K15.1) E34.1) b3 b34 (0 : Int32) (0 : Int32) x14_0 x14_1 x14_2 x14_3 x14_4 (List.replicate 5 (0 : Int32)) ((Vl14.keep K15 (ninS (Ne.symm ne_pa_b3) nin0)).ext E34) V34 rfl old_b34 (by decide)) e34 (by decide) (W := 0) (by decide) (by decide) (by decide) (argsL := [(.ref b3), (.ref b34), (.int (0 : Int32)), (.int (0 : Int32))]) (rest := []) (by rw [hml]; rfl) (lenOf pd_17 rfl) rfl rfl (Nat.le_of_eq rfl) (hb hby at_107) ?_
    intro T35 L35 u35 X35 hQ35
    obtain ⟨rfl, Nq35, K35, Vq35⟩ := hQ35
    refine own_letI (f := fun z => (mkF m 110 #[.val (.int p1), .val (.int p2), .val (.int p3), .val (.int p4), .val (.int p5), .val (.int p6), .val (.ref b1), .val (.ref b3), .val (.ref al), .val (.ref b34), .val (.int (0 : Int32)), .unset] [(.int z)])) (own_rk [x14_0, x14_1, x14_2, x14_3, x14_4] (List.replicate 5 (0 : Int32)) (0 : Int32) (0 : Int32)).2 fun y35 hy35 => ?_
    obtain ⟨R35, hR35⟩ : ∃ z, z = (own_rk [x14_0, x14_1, x14_2, x14_3, x14_4] (List.replicate 5 (0 : Int32)) (0 : Int32) (0 : Int32)).1 := ⟨_, rfl⟩
    rw [← hR35] at Vq35
    have lR35 : R35.length = 5 := by rw [hR35]; exact own_rklen _ _ _ _ rfl
    have N35 := Fr.app N15 Nq35
    show ORun p e below s _ _ _ T35 (mkF m 110 #[.val (.int p1), .val (.int p2), .val (.int p3), .val (.int p4), .val (.int p5), .val (.int p6), .val (.ref b1), .val (.ref b3), .val (.ref al), .val (.ref b34), .val (.int (0 : Int32)), .unset] [(.int y35)])
    refine own_by (fun t k => XS.istore X35.here hx rfl (hb hby at_110) rfl (l' := #[.val (.int p1), .val (.int p2), .val (.int p3), .val (.int p4), .val (.int p5), .val (.int p6), .val (.ref b1), .val (.ref b3), .val (.ref al), .val (.ref b34), .val (.int y35), .unset]) rfl k) ?_
    show ORun p e below s _ _ _ T35 (mkF m 112 #[.val (.int p1), .val (.int p2), .val (.int p3), .val (.int p4), .val (.int p5), .val (.int p6), .val (.ref b1), .val (.ref b3), .val (.ref al), .val (.ref b34), .val (.int y35), .unset] [])
    refine own_by (fun t k => XS.aload X35.here hx rfl (hb hby at_112) rfl rfl k) ?_
    show ORun p e below s _ _ _ T35 (mkF m 114 #[.val (.int p1), .val (.int p2), .val (.int p3), .val (.int p4), .val (.int p5), .val (.int p6), .val (.ref b1), .val (.ref b3), .val (.ref al), .val (.ref b34), .val (.int y35), .unset] [(.ref b3)])
    refine own_by (fun t k => XS.aload X35.here hx rfl (hb hby at_114) rfl rfl k) ?_
    show ORun p e below s _ _ _ T35 (mkF m 116 #[.val (.int p1), .val (.int p2), .val (.int p3), .val (.int p4), .val (.int p5), .val (.int p6), .val (.ref b1), .val (.ref b3), .val (.ref al), .val (.ref b34), .val (.int y35), .unset] [(.ref b34), (.ref b3)])
    refine own_by (fun t k => XS.iconst X35.here hx rfl (hb hby at_116) k) ?_
    show ORun p e below s _ _ _ T35 (mkF m 117 #[.val (.int p1), .val (.int p2), .val (.int p3), .val (.int p4), .val (.int p5), .val (.int p6), .val (.ref b1), .val (.ref b3), .val (.ref al), .val (.ref b34), .val (.int y35), .unset] [(.int (1 : Int32)), (.ref b34), (.ref b3)])
    refine own_by (fun t k => XS.iload X35.here hx rfl (hb hby at_117) rfl k) ?_
    show ORun p e below s _ _ _ T35 (mkF m 119 #[.val (.int p1), .val (.int p2), .val (.int p3), .val (.int p4), .val (.int p5), .val (.int p6), .val (.ref b1), .val (.ref b3), .val (.ref al), .val (.ref b34), .val (.int y35), .unset] [(.int y35), (.int (1 : Int32)), (.ref b34), (.ref b3)])
    refine own_callS X35 hx hZ hown (hw _ (List.mem_of_getElem? (i := 99) rfl)) (hw _ (List.mem_of_getElem? (i := 100) rfl)) (hw _ (List.mem_of_getElem? (i := 14) rfl)) (hw _ (List.mem_of_getElem? (i := 101) rfl)) (by decide) (rm17 l Z a0 hw [] T35.heap n0 (Nat.le_trans (Nat.le_trans (Nat.le_trans (Nat.le_trans (Nat.le_trans (Nat.le_trans (Nat.le_trans (Nat.le_trans (Nat.le_trans (Nat.le_trans (Nat.le_trans (Nat.le_trans (Nat.le_trans (Nat.le_trans (Nat.le_trans (Nat.le_trans (Nat.le_trans Z0 E1.1) K2.1) E3.1) (Keep.of_wr W4).1) (Keep.of_wr W5).1) (Keep.of_wr W6).1) (Keep.of_wr W7).1) (Keep.of_wr W8).1) K9.1) K10.1) K11.1) K12.1) K13.1) K14.1) K15.1) E34.1) K35.1) b3 b34 (1 : Int32) y35 x14_0 x14_1 x14_2 x14_3 x14_4 R35 (((Vl14.keep K15 (ninS (Ne.symm ne_pa_b3) nin0)).ext E34).keep K35 (ninS ne_b3_b34 nin0)) Vq35 lR35 old_b34 (by decide)) rfl (by decide) (W := 0) (by decide) (by decide) (by decide) (argsL := [(.ref b3), (.ref b34), (.int (1 : Int32)), (.int y35)]) (rest := []) (by rw [hml]; rfl) (lenOf pd_17 rfl) rfl rfl (Nat.le_of_eq rfl) (hb hby at_119) ?_
    intro T36 L36 u36 X36 hQ36
    obtain ⟨rfl, Nq36, K36, Vq36⟩ := hQ36
    refine own_letI (f := fun z => (mkF m 122 #[.val (.int p1), .val (.int p2), .val (.int p3), .val (.int p4), .val (.int p5), .val (.int p6), .val (.ref b1), .val (.ref b3), .val (.ref al), .val (.ref b34), .val (.int y35), .unset] [(.int z)])) (own_rk [x14_0, x14_1, x14_2, x14_3, x14_4] R35 (1 : Int32) y35).2 fun y36 hy36 => ?_
    obtain ⟨R36, hR36⟩ : ∃ z, z = (own_rk [x14_0, x14_1, x14_2, x14_3, x14_4] R35 (1 : Int32) y35).1 := ⟨_, rfl⟩
    rw [← hR36] at Vq36
    have lR36 : R36.length = 5 := by rw [hR36]; exact own_rklen _ _ _ _ lR35
    have N36 := Fr.app N35 Nq36
    show ORun p e below s _ _ _ T36 (mkF m 122 #[.val (.int p1), .val (.int p2), .val (.int p3), .val (.int p4), .val (.int p5), .val (.int p6), .val (.ref b1), .val (.ref b3), .val (.ref al), .val (.ref b34), .val (.int y35), .unset] [(.int y36)])
    refine own_by (fun t k => XS.istore X36.here hx rfl (hb hby at_122) rfl (l' := #[.val (.int p1), .val (.int p2), .val (.int p3), .val (.int p4), .val (.int p5), .val (.int p6), .val (.ref b1), .val (.ref b3), .val (.ref al), .val (.ref b34), .val (.int y36), .unset]) rfl k) ?_
    show ORun p e below s _ _ _ T36 (mkF m 124 #[.val (.int p1), .val (.int p2), .val (.int p3), .val (.int p4), .val (.int p5), .val (.int p6), .val (.ref b1), .val (.ref b3), .val (.ref al), .val (.ref b34), .val (.int y36), .unset] [])
    refine own_by (fun t k => XS.aload X36.here hx rfl (hb hby at_124) rfl rfl k) ?_
    show ORun p e below s _ _ _ T36 (mkF m 126 #[.val (.int p1), .val (.int p2), .val (.int p3), .val (.int p4), .val (.int p5), .val (.int p6), .val (.ref b1), .val (.ref b3), .val (.ref al), .val (.ref b34), .val (.int y36), .unset] [(.ref b3)])
    refine own_by (fun t k => XS.aload X36.here hx rfl (hb hby at_126) rfl rfl k) ?_
    show ORun p e below s _ _ _ T36 (mkF m 128 #[.val (.int p1), .val (.int p2), .val (.int p3), .val (.int p4), .val (.int p5), .val (.int p6), .val (.ref b1), .val (.ref b3), .val (.ref al), .val (.ref b34), .val (.int y36), .unset] [(.ref b34), (.ref b3)])
    refine own_by (fun t k => XS.iconst X36.here hx rfl (hb hby at_128) k) ?_
    show ORun p e below s _ _ _ T36 (mkF m 129 #[.val (.int p1), .val (.int p2), .val (.int p3), .val (.int p4), .val (.int p5), .val (.int p6), .val (.ref b1), .val (.ref b3), .val (.ref al), .val (.ref b34), .val (.int y36), .unset] [(.int (2 : Int32)), (.ref b34), (.ref b3)])
    refine own_by (fun t k => XS.iload X36.here hx rfl (hb hby at_129) rfl k) ?_
    show ORun p e below s _ _ _ T36 (mkF m 131 #[.val (.int p1), .val (.int p2), .val (.int p3), .val (.int p4), .val (.int p5), .val (.int p6), .val (.ref b1), .val (.ref b3), .val (.ref al), .val (.ref b34), .val (.int y36), .unset] [(.int y36), (.int (2 : Int32)), (.ref b34), (.ref b3)])
    refine own_callS X36 hx hZ hown (hw _ (List.mem_of_getElem? (i := 99) rfl)) (hw _ (List.mem_of_getElem? (i := 100) rfl)) (hw _ (List.mem_of_getElem? (i := 14) rfl)) (hw _ (List.mem_of_getElem? (i := 101) rfl)) (by decide) (rm17 l Z a0 hw [] T36.heap n0 (Nat.le_trans (Nat.le_trans (Nat.le_trans (Nat.le_trans (Nat.le_trans (Nat.le_trans (Nat.le_trans (Nat.le_trans (Nat.le_trans (Nat.le_trans (Nat.le_trans (Nat.le_trans (Nat.le_trans (Nat.le_trans (Nat.le_trans (Nat.le_trans (Nat.le_trans (Nat.le_trans Z0 E1.1) K2.1) E3.1) (Keep.of_wr W4).1) (Keep.of_wr W5).1) (Keep.of_wr W6).1) (Keep.of_wr W7).1) (Keep.of_wr W8).1) K9.1) K10.1) K11.1) K12.1) K13.1) K14.1) K15.1) E34.1) K35.1) K36.1) b3 b34 (2 : Int32) y36 x14_0 x14_1 x14_2 x14_3 x14_4 R36 ((((Vl14.keep K15 (ninS (Ne.symm ne_pa_b3) nin0)).ext E34).keep K35 (ninS ne_b3_b34 nin0)).keep K36 (ninS ne_b3_b34 nin0)) Vq36 lR36 old_b34 (by decide)) rfl (by decide) (W := 0) (by decide) (by decide) (by decide) (argsL := [(.ref b3), (.ref b34), (.int (2 : Int32)), (.int y36)]) (rest := []) (by rw [hml]; rfl) (lenOf pd_17 rfl) rfl rfl (Nat.le_of_eq rfl) (hb hby at_131) ?_
    intro T37 L37 u37 X37 hQ37
    obtain ⟨rfl, Nq37, K37, Vq37⟩ := hQ37
    refine own_letI (f := fun z => (mkF m 134 #[.val (.int p1), .val (.int p2), .val (.int p3), .val (.int p4), .val (.int p5), .val (.int p6), .val (.ref b1), .val (.ref b3), .val (.ref al), .val (.ref b34), .val (.int y36), .unset] [(.int z)])) (own_rk [x14_0, x14_1, x14_2, x14_3, x14_4] R36 (2 : Int32) y36).2 fun y37 hy37 => ?_
    obtain ⟨R37, hR37⟩ : ∃ z, z = (own_rk [x14_0, x14_1, x14_2, x14_3, x14_4] R36 (2 : Int32) y36).1 := ⟨_, rfl⟩
    rw [← hR37] at Vq37
    have lR37 : R37.length = 5 := by rw [hR37]; exact own_rklen _ _ _ _ lR36
    have N37 := Fr.app N36 Nq37
    show ORun p e below s _ _ _ T37 (mkF m 134 #[.val (.int p1), .val (.int p2), .val (.int p3), .val (.int p4), .val (.int p5), .val (.int p6), .val (.ref b1), .val (.ref b3), .val (.ref al), .val (.ref b34), .val (.int y36), .unset] [(.int y37)])
    refine own_by (fun t k => XS.istore X37.here hx rfl (hb hby at_134) rfl (l' := #[.val (.int p1), .val (.int p2), .val (.int p3), .val (.int p4), .val (.int p5), .val (.int p6), .val (.ref b1), .val (.ref b3), .val (.ref al), .val (.ref b34), .val (.int y37), .unset]) rfl k) ?_
    show ORun p e below s _ _ _ T37 (mkF m 136 #[.val (.int p1), .val (.int p2), .val (.int p3), .val (.int p4), .val (.int p5), .val (.int p6), .val (.ref b1), .val (.ref b3), .val (.ref al), .val (.ref b34), .val (.int y37), .unset] [])
    refine own_by (fun t k => XS.aload X37.here hx rfl (hb hby at_136) rfl rfl k) ?_
    show ORun p e below s _ _ _ T37 (mkF m 138 #[.val (.int p1), .val (.int p2), .val (.int p3), .val (.int p4), .val (.int p5), .val (.int p6), .val (.ref b1), .val (.ref b3), .val (.ref al), .val (.ref b34), .val (.int y37), .unset] [(.ref b3)])
    refine own_by (fun t k => XS.aload X37.here hx rfl (hb hby at_138) rfl rfl k) ?_
    show ORun p e below s _ _ _ T37 (mkF m 140 #[.val (.int p1), .val (.int p2), .val (.int p3), .val (.int p4), .val (.int p5), .val (.int p6), .val (.ref b1), .val (.ref b3), .val (.ref al), .val (.ref b34), .val (.int y37), .unset] [(.ref b34), (.ref b3)])
    refine own_by (fun t k => XS.iconst X37.here hx rfl (hb hby at_140) k) ?_
    show ORun p e below s _ _ _ T37 (mkF m 141 #[.val (.int p1), .val (.int p2), .val (.int p3), .val (.int p4), .val (.int p5), .val (.int p6), .val (.ref b1), .val (.ref b3), .val (.ref al), .val (.ref b34), .val (.int y37), .unset] [(.int (3 : Int32)), (.ref b34), (.ref b3)])
    refine own_by (fun t k => XS.iload X37.here hx rfl (hb hby at_141) rfl k) ?_
    show ORun p e below s _ _ _ T37 (mkF m 143 #[.val (.int p1), .val (.int p2), .val (.int p3), .val (.int p4), .val (.int p5), .val (.int p6), .val (.ref b1), .val (.ref b3), .val (.ref al), .val (.ref b34), .val (.int y37), .unset] [(.int y37), (.int (3 : Int32)), (.ref b34), (.ref b3)])
    refine own_callS X37 hx hZ hown (hw _ (List.mem_of_getElem? (i := 99) rfl)) (hw _ (List.mem_of_getElem? (i := 100) rfl)) (hw _ (List.mem_of_getElem? (i := 14) rfl)) (hw _ (List.mem_of_getElem? (i := 101) rfl)) (by decide) (rm17 l Z a0 hw [] T37.heap n0 (Nat.le_trans (Nat.le_trans (Nat.le_trans (Nat.le_trans (Nat.le_trans (Nat.le_trans (Nat.le_trans (Nat.le_trans (Nat.le_trans (Nat.le_trans (Nat.le_trans (Nat.le_trans (Nat.le_trans (Nat.le_trans (Nat.le_trans (Nat.le_trans (Nat.le_trans (Nat.le_trans (Nat.le_trans Z0 E1.1) K2.1) E3.1) (Keep.of_wr W4).1) (Keep.of_wr W5).1) (Keep.of_wr W6).1) (Keep.of_wr W7).1) (Keep.of_wr W8).1) K9.1) K10.1) K11.1) K12.1) K13.1) K14.1) K15.1) E34.1) K35.1) K36.1) K37.1) b3 b34 (3 : Int32) y37 x14_0 x14_1 x14_2 x14_3 x14_4 R37 (((((Vl14.keep K15 (ninS (Ne.symm ne_pa_b3) nin0)).ext E34).keep K35 (ninS ne_b3_b34 nin0)).keep K36 (ninS ne_b3_b34 nin0)).keep K37 (ninS ne_b3_b34 nin0)) Vq37 lR37 old_b34 (by decide)) rfl (by decide) (W := 0) (by decide) (by decide) (by decide) (argsL := [(.ref b3), (.ref b34), (.int (3 : Int32)), (.int y37)]) (rest := []) (by rw [hml]; rfl) (lenOf pd_17 rfl) rfl rfl (Nat.le_of_eq rfl) (hb hby at_143) ?_
    intro T38 L38 u38 X38 hQ38
    obtain ⟨rfl, Nq38, K38, Vq38⟩ := hQ38
    refine own_letI (f := fun z => (mkF m 146 #[.val (.int p1), .val (.int p2), .val (.int p3), .val (.int p4), .val (.int p5), .val (.int p6), .val (.ref b1), .val (.ref b3), .val (.ref al), .val (.ref b34), .val (.int y37), .unset] [(.int z)])) (own_rk [x14_0, x14_1, x14_2, x14_3, x14_4] R37 (3 : Int32) y37).2 fun y38 hy38 => ?_
    obtain ⟨R38, hR38⟩ : ∃ z, z = (own_rk [x14_0, x14_1, x14_2, x14_3, x14_4] R37 (3 : Int32) y37).1 := ⟨_, rfl⟩
    rw [← hR38] at Vq38
    have lR38 : R38.length = 5 := by rw [hR38]; exact own_rklen _ _ _ _ lR37
    have N38 := Fr.app N37 Nq38
    show ORun p e below s _ _ _ T38 (mkF m 146 #[.val (.int p1), .val (.int p2), .val (.int p3), .val (.int p4), .val (.int p5), .val (.int p6), .val (.ref b1), .val (.ref b3), .val (.ref al), .val (.ref b34), .val (.int y37), .unset] [(.int y38)])
    refine own_by (fun t k => XS.istore X38.here hx rfl (hb hby at_146) rfl (l' := #[.val (.int p1), .val (.int p2), .val (.int p3), .val (.int p4), .val (.int p5), .val (.int p6), .val (.ref b1), .val (.ref b3), .val (.ref al), .val (.ref b34), .val (.int y38), .unset]) rfl k) ?_
    show ORun p e below s _ _ _ T38 (mkF m 148 #[.val (.int p1), .val (.int p2), .val (.int p3), .val (.int p4), .val (.int p5), .val (.int p6), .val (.ref b1), .val (.ref b3), .val (.ref al), .val (.ref b34), .val (.int y38), .unset] [])
    refine own_by (fun t k => XS.aload X38.here hx rfl (hb hby at_148) rfl rfl k) ?_
    show ORun p e below s _ _ _ T38 (mkF m 150 #[.val (.int p1), .val (.int p2), .val (.int p3), .val (.int p4), .val (.int p5), .val (.int p6), .val (.ref b1), .val (.ref b3), .val (.ref al), .val (.ref b34), .val (.int y38), .unset] [(.ref b3)])
    refine own_by (fun t k => XS.aload X38.here hx rfl (hb hby at_150) rfl rfl k) ?_
    show ORun p e below s _ _ _ T38 (mkF m 152 #[.val (.int p1), .val (.int p2), .val (.int p3), .val (.int p4), .val (.int p5), .val (.int p6), .val (.ref b1), .val (.ref b3), .val (.ref al), .val (.ref b34), .val (.int y38), .unset] [(.ref b34), (.ref b3)])
    refine own_by (fun t k => XS.iconst X38.here hx rfl (hb hby at_152) k) ?_
    show ORun p e below s _ _ _ T38 (mkF m 153 #[.val (.int p1), .val (.int p2), .val (.int p3), .val (.int p4), .val (.int p5), .val (.int p6), .val (.ref b1), .val (.ref b3), .val (.ref al), .val (.ref b34), .val (.int y38), .unset] [(.int (4 : Int32)), (.ref b34), (.ref b3)])
    refine own_by (fun t k => XS.iload X38.here hx rfl (hb hby at_153) rfl k) ?_
    show ORun p e below s _ _ _ T38 (mkF m 155 #[.val (.int p1), .val (.int p2), .val (.int p3), .val (.int p4), .val (.int p5), .val (.int p6), .val (.ref b1), .val (.ref b3), .val (.ref al), .val (.ref b34), .val (.int y38), .unset] [(.int y38), (.int (4 : Int32)), (.ref b34), (.ref b3)])
    refine own_callS X38 hx hZ hown (hw _ (List.mem_of_getElem? (i := 99) rfl)) (hw _ (List.mem_of_getElem? (i := 100) rfl)) (hw _ (List.mem_of_getElem? (i := 14) rfl)) (hw _ (List.mem_of_getElem? (i := 101) rfl)) (by decide) (rm17 l Z a0 hw [] T38.heap n0 (Nat.le_trans (Nat.le_trans (Nat.le_trans (Nat.le_trans (Nat.le_trans (Nat.le_trans (Nat.le_trans (Nat.le_trans (Nat.le_trans (Nat.le_trans (Nat.le_trans (Nat.le_trans (Nat.le_trans (Nat.le_trans (Nat.le_trans (Nat.le_trans (Nat.le_trans (Nat.le_trans (Nat.le_trans (Nat.le_trans Z0 E1.1) K2.1) E3.1) (Keep.of_wr W4).1) (Keep.of_wr W5).1) (Keep.of_wr W6).1) (Keep.of_wr W7).1) (Keep.of_wr W8).1) K9.1) K10.1) K11.1) K12.1) K13.1) K14.1) K15.1) E34.1) K35.1) K36.1) K37.1) K38.1) b3 b34 (4 : Int32) y38 x14_0 x14_1 x14_2 x14_3 x14_4 R38 ((((((Vl14.keep K15 (ninS (Ne.symm ne_pa_b3) nin0)).ext E34).keep K35 (ninS ne_b3_b34 nin0)).keep K36 (ninS ne_b3_b34 nin0)).keep K37 (ninS ne_b3_b34 nin0)).keep K38 (ninS ne_b3_b34 nin0)) Vq38 lR38 old_b34 (by decide)) rfl (by decide) (W := 0) (by decide) (by decide) (by decide) (argsL := [(.ref b3), (.ref b34), (.int (4 : Int32)), (.int y38)]) (rest := []) (by rw [hml]; rfl) (lenOf pd_17 rfl) rfl rfl (Nat.le_of_eq rfl) (hb hby at_155) ?_
    intro T39 L39 u39 X39 hQ39
    obtain ⟨rfl, Nq39, K39, Vq39⟩ := hQ39
    refine own_letI (f := fun z => (mkF m 158 #[.val (.int p1), .val (.int p2), .val (.int p3), .val (.int p4), .val (.int p5), .val (.int p6), .val (.ref b1), .val (.ref b3), .val (.ref al), .val (.ref b34), .val (.int y38), .unset] [(.int z)])) (own_rk [x14_0, x14_1, x14_2, x14_3, x14_4] R38 (4 : Int32) y38).2 fun y39 hy39 => ?_
    obtain ⟨R39, hR39⟩ : ∃ z, z = (own_rk [x14_0, x14_1, x14_2, x14_3, x14_4] R38 (4 : Int32) y38).1 := ⟨_, rfl⟩
    rw [← hR39] at Vq39
    have lR39 : R39.length = 5 := by rw [hR39]; exact own_rklen _ _ _ _ lR38
    have N39 := Fr.app N38 Nq39
    show ORun p e below s _ _ _ T39 (mkF m 158 #[.val (.int p1), .val (.int p2), .val (.int p3), .val (.int p4), .val (.int p5), .val (.int p6), .val (.ref b1), .val (.ref b3), .val (.ref al), .val (.ref b34), .val (.int y38), .unset] [(.int y39)])
    refine own_by (fun t k => XS.istore X39.here hx rfl (hb hby at_158) rfl (l' := #[.val (.int p1), .val (.int p2), .val (.int p3), .val (.int p4), .val (.int p5), .val (.int p6), .val (.ref b1), .val (.ref b3), .val (.ref al), .val (.ref b34), .val (.int y39), .unset]) rfl k) ?_
    show ORun p e below s _ _ _ T39 (mkF m 160 #[.val (.int p1), .val (.int p2), .val (.int p3), .val (.int p4), .val (.int p5), .val (.int p6), .val (.ref b1), .val (.ref b3), .val (.ref al), .val (.ref b34), .val (.int y39), .unset] [])
    have eRR : R39 = (own_R [x14_0, x14_1, x14_2, x14_3, x14_4]).1 := by rw [hR39, hR38, hy38, hR37, hy37, hR36, hy36, hR35, hy35]; rfl
    have eRc : y39 = (1 : Int32) := by rw [← hRn, hy39, hR38, hy38, hR37, hy37, hR36, hy36, hR35, hy35]; rfl
    subst eRc
    show ORun p e below s _ _ _ T39 (mkF m 160 #[.val (.int p1), .val (.int p2), .val (.int p3), .val (.int p4), .val (.int p5), .val (.int p6), .val (.ref b1), .val (.ref b3), .val (.ref al), .val (.ref b34), .val (.int (1 : Int32)), .unset] [])
    refine own_by (fun t k => XS.aload X39.here hx rfl (hb hby at_160) rfl rfl k) ?_
    show ORun p e below s _ _ _ T39 (mkF m 162 #[.val (.int p1), .val (.int p2), .val (.int p3), .val (.int p4), .val (.int p5), .val (.int p6), .val (.ref b1), .val (.ref b3), .val (.ref al), .val (.ref b34), .val (.int (1 : Int32)), .unset] [(.ref al)])
    refine own_callI X39 hx hZ hown ((((((Eal15.ext E34).keep K35).keep K36).keep K37).keep K38).keep K39) (hw _ (List.mem_of_getElem? (i := 108) rfl)) (hw _ (List.mem_of_getElem? (i := 109) rfl)) (hw _ (List.mem_of_getElem? (i := 110) rfl)) (by first | rfl | simp [Cond.onTables, Cond.keepsFace, Cond.keeps, Cond.steady]) (hw _ (List.mem_of_getElem? (i := 111) rfl)) (hw _ (List.mem_of_getElem? (i := 112) rfl)) (hw _ (List.mem_of_getElem? (i := 113) rfl)) (hw _ (List.mem_of_getElem? (i := 114) rfl)) (hw _ (List.mem_of_getElem? (i := 71) rfl)) (hw _ (List.mem_of_getElem? (i := 39) rfl)) (hw _ (List.mem_of_getElem? (i := 115) rfl)) (by decide) (rm20 l Z a0 hw [] T39.heap n0 (Nat.le_trans (Nat.le_trans (Nat.le_trans (Nat.le_trans (Nat.le_trans (Nat.le_trans (Nat.le_trans (Nat.le_trans (Nat.le_trans (Nat.le_trans (Nat.le_trans (Nat.le_trans (Nat.le_trans (Nat.le_trans (Nat.le_trans (Nat.le_trans (Nat.le_trans (Nat.le_trans (Nat.le_trans (Nat.le_trans (Nat.le_trans Z0 E1.1) K2.1) E3.1) (Keep.of_wr W4).1) (Keep.of_wr W5).1) (Keep.of_wr W6).1) (Keep.of_wr W7).1) (Keep.of_wr W8).1) K9.1) K10.1) K11.1) K12.1) K13.1) K14.1) K15.1) E34.1) K35.1) K36.1) K37.1) K38.1) K39.1) al (1 : Int32) ((((((Fs.ext E34).keep K35 (ninS ne_al_b34 nin0)).keep K36 (ninS ne_al_b34 nin0)).keep K37 (ninS ne_al_b34 nin0)).keep K38 (ninS ne_al_b34 nin0)).keep K39 (ninS ne_al_b34 nin0))) rfl (by decide) (W := 0) (by decide) (by decide) (by decide) (argsL := []) (rest := []) (by rw [hml]; rfl) (lenOf pd_18 rfl) rfl rfl (Nat.le_of_eq rfl) (hb hby at_162) ?_
    intro T40 L40 u40 X40 hQ40
    obtain ⟨rfl, Nq40, e40⟩ := hQ40
    have N40 := Fr.app N39 Nq40
    show ORun p e below s _ _ _ T40 (mkF m 167 #[.val (.int p1), .val (.int p2), .val (.int p3), .val (.int p4), .val (.int p5), .val (.int p6), .val (.ref b1), .val (.ref b3), .val (.ref al), .val (.ref b34), .val (.int (1 : Int32)), .unset] [(.int (1 : Int32))])
    refine own_by (fun t k => XS.iload X40.here hx rfl (hb hby at_167) rfl k) ?_
    show ORun p e below s _ _ _ T40 (mkF m 169 #[.val (.int p1), .val (.int p2), .val (.int p3), .val (.int p4), .val (.int p5), .val (.int p6), .val (.ref b1), .val (.ref b3), .val (.ref al), .val (.ref b34), .val (.int (1 : Int32)), .unset] [(.int (1 : Int32)), (.int (1 : Int32))])
    refine own_by (fun t k => XS.icmpYes X40.here hx rfl (pc0 := 169) (pc' := 174) rfl (hb hby at_169) rfl (teq (by decide)).1 (by decide) (by decide) k) ?_
    show ORun p e below s _ _ _ T40 (mkF m 174 #[.val (.int p1), .val (.int p2), .val (.int p3), .val (.int p4), .val (.int p5), .val (.int p6), .val (.ref b1), .val (.ref b3), .val (.ref al), .val (.ref b34), .val (.int (1 : Int32)), .unset] [])
    refine own_by (fun t k => XS.iconst X40.here hx rfl (hb hby at_174) k) ?_
    show ORun p e below s _ _ _ T40 (mkF m 175 #[.val (.int p1), .val (.int p2), .val (.int p3), .val (.int p4), .val (.int p5), .val (.int p6), .val (.ref b1), .val (.ref b3), .val (.ref al), .val (.ref b34), .val (.int (1 : Int32)), .unset] [(.int (5 : Int32))])
    refine own_newarray X40 hx hZ (aty := .int) (hw _ (List.mem_of_getElem? (i := 9) rfl)) e40 rfl (N := 5) (cap := 5) (by decide) (Nat.le_refl _) (by decide) (by decide) (by decide) (ad := "[I") (by decide) (hb hby at_175) ?_
    intro T41 h41 b41 L41 g41 X41 e41 E41 hL41 V41 Ex41
    have len41 : L41.length = 5 := by rw [hL41]; exact List.length_replicate
    have old_b41 : n0 ≤ b41 := Nat.le_trans (Nat.le_trans (Nat.le_trans (Nat.le_trans (Nat.le_trans (Nat.le_trans (Nat.le_trans (Nat.le_trans (Nat.le_trans (Nat.le_trans (Nat.le_trans (Nat.le_trans (Nat.le_trans (Nat.le_trans (Nat.le_trans (Nat.le_trans (Nat.le_trans (Nat.le_trans (Nat.le_trans (Nat.le_trans (Nat.le_trans (Nat.le_trans Z0 E1.1) K2.1) E3.1) (Keep.of_wr W4).1) (Keep.of_wr W5).1) (Keep.of_wr W6).1) (Keep.of_wr W7).1) (Keep.of_wr W8).1) K9.1) K10.1) K11.1) K12.1) K13.1) K14.1) K15.1) E34.1) K35.1) K36.1) K37.1) K38.1) K39.1) (Nat.le_of_eq g41.symm)
    have sz_b41 : h0.size ≤ b41 := Nat.le_trans (Nat.le_trans (Nat.le_trans (Nat.le_trans (Nat.le_trans (Nat.le_trans (Nat.le_trans (Nat.le_trans (Nat.le_trans (Nat.le_trans (Nat.le_trans (Nat.le_trans (Nat.le_trans (Nat.le_trans (Nat.le_trans (Nat.le_trans (Nat.le_trans (Nat.le_trans (Nat.le_trans (Nat.le_trans (Nat.le_trans (Nat.le_trans (Nat.le_refl h0.size) E1.1) K2.1) E3.1) (Keep.of_wr W4).1) (Keep.of_wr W5).1) (Keep.of_wr W6).1) (Keep.of_wr W7).1) (Keep.of_wr W8).1) K9.1) K10.1) K11.1) K12.1) K13.1) K14.1) K15.1) E34.1) K35.1) K36.1) K37.1) K38.1) K39.1) (Nat.le_of_eq g41.symm)
    have ne_de_b41 : de ≠ b41 := Nat.ne_of_lt (Nat.lt_of_lt_of_le (((((((((((((((((((((Vd.ext E1).keep K2 (ninS ne_de_b1 nin0)).ext E3).other W4 ne_de_b3).other W5 ne_de_b3).other W6 ne_de_b3).other W7 ne_de_b3).other W8 ne_de_b3).keep K9 (ninS ne_de_pa (ninS ne_de_b3 nin0))).keep K10 (ninS ne_de_pa (ninS ne_de_b3 nin0))).keep K11 (ninS ne_de_pa (ninS ne_de_b3 nin0))).keep K12 (ninS ne_de_pa (ninS ne_de_b3 nin0))).keep K13 (ninS ne_de_pa (ninS ne_de_b3 nin0))).keep K14 (ninS ne_de_pa (ninS ne_de_b3 nin0))).keep K15 (ninS ne_de_pa nin0)).ext E34).keep K35 (ninS ne_de_b34 nin0)).keep K36 (ninS ne_de_b34 nin0)).keep K37 (ninS ne_de_b34 nin0)).keep K38 (ninS ne_de_b34 nin0)).keep K39 (ninS ne_de_b34 nin0)).lt (Nat.le_of_eq g41.symm))
    have ne_b1_b41 : b1 ≠ b41 := Nat.ne_of_lt (Nat.lt_of_lt_of_le (((((((((((((((((((Eq2.ext E3).wr W4).wr W5).wr W6).wr W7).wr W8).keep K9).keep K10).keep K11).keep K12).keep K13).keep K14).keep K15).ext E34).keep K35).keep K36).keep K37).keep K38).keep K39).lt (Nat.le_of_eq g41.symm))
    have ne_b3_b41 : b3 ≠ b41 := Nat.ne_of_lt (Nat.lt_of_lt_of_le (((((((Vl14.keep K15 (ninS (Ne.symm ne_pa_b3) nin0)).ext E34).keep K35 (ninS ne_b3_b34 nin0)).keep K36 (ninS ne_b3_b34 nin0)).keep K37 (ninS ne_b3_b34 nin0)).keep K38 (ninS ne_b3_b34 nin0)).keep K39 (ninS ne_b3_b34 nin0)).lt (Nat.le_of_eq g41.symm))
    have ne_al_b41 : al ≠ b41 := Nat.ne_of_lt (Nat.lt_of_lt_of_le ((((((Eal15.ext E34).keep K35).keep K36).keep K37).keep K38).keep K39).lt (Nat.le_of_eq g41.symm))
    have ne_ed_b41 : ed ≠ b41 := Nat.ne_of_lt (Nat.lt_of_lt_of_le ((((((Ve.ext E34).keep K35 (ninS ne_ed_b34 nin0)).keep K36 (ninS ne_ed_b34 nin0)).keep K37 (ninS ne_ed_b34 nin0)).keep K38 (ninS ne_ed_b34 nin0)).keep K39 (ninS ne_ed_b34 nin0)).lt (Nat.le_of_eq g41.symm))
    have ne_gA_b41 : gA ≠ b41 := Nat.ne_of_lt (Nat.lt_of_lt_of_le ((((((VA.ext E34).keep K35 (ninS ne_gA_b34 nin0)).keep K36 (ninS ne_gA_b34 nin0)).keep K37 (ninS ne_gA_b34 nin0)).keep K38 (ninS ne_gA_b34 nin0)).keep K39 (ninS ne_gA_b34 nin0)).lt (Nat.le_of_eq g41.symm))
    have ne_b34_b41 : b34 ≠ b41 := Nat.ne_of_lt (Nat.lt_of_lt_of_le Vq39.lt (Nat.le_of_eq g41.symm))
    show ORun p e below s _ _ _ T41 (mkF m 177 #[.val (.int p1), .val (.int p2), .val (.int p3), .val (.int p4), .val (.int p5), .val (.int p6), .val (.ref b1), .val (.ref b3), .val (.ref al), .val (.ref b34), .val (.int (1 : Int32)), .unset] [(.ref b41)])
    subst hL41
    refine own_by (fun t k => XS.astore X41.here hx rfl (hb hby at_177) rfl rfl (l' := #[.val (.int p1), .val (.int p2), .val (.int p3), .val (.int p4), .val (.int p5), .val (.int p6), .val (.ref b1), .val (.ref b3), .val (.ref al), .val (.ref b34), .val (.int (1 : Int32)), .val (.ref b41)]) rfl k) ?_
    show ORun p e below s _ _ _ T41 (mkF m 179 #[.val (.int p1), .val (.int p2), .val (.int p3), .val (.int p4), .val (.int p5), .val (.int p6), .val (.ref b1), .val (.ref b3), .val (.ref al), .val (.ref b34), .val (.int (1 : Int32)), .val (.ref b41)] [])
    refine own_by (fun t k => XS.iload X41.here hx rfl (hb hby at_179) rfl k) ?_
    show ORun p e below s _ _ _ T41 (mkF m 181 #[.val (.int p1), .val (.int p2), .val (.int p3), .val (.int p4), .val (.int p5), .val (.int p6), .val (.ref b1), .val (.ref b3), .val (.ref al), .val (.ref b34), .val (.int (1 : Int32)), .val (.ref b41)] [(.int (1 : Int32))])
    refine own_by (fun t k => XS.iconst X41.here hx rfl (hb hby at_181) k) ?_
    show ORun p e below s _ _ _ T41 (mkF m 182 #[.val (.int p1), .val (.int p2), .val (.int p3), .val (.int p4), .val (.int p5), .val (.int p6), .val (.ref b1), .val (.ref b3), .val (.ref al), .val (.ref b34), .val (.int (1 : Int32)), .val (.ref b41)] [(.int (1 : Int32)), (.int (1 : Int32))])
    refine own_by (fun t k => XS.icmpNo X41.here hx rfl (hb hby at_182) rfl (flt (by decide)).1 k) ?_
    show ORun p e below s _ _ _ T41 (mkF m 185 #[.val (.int p1), .val (.int p2), .val (.int p3), .val (.int p4), .val (.int p5), .val (.int p6), .val (.ref b1), .val (.ref b3), .val (.ref al), .val (.ref b34), .val (.int (1 : Int32)), .val (.ref b41)] [])
    refine own_by (fun t k => XS.aload X41.here hx rfl (hb hby at_185) rfl rfl k) ?_
    show ORun p e below s _ _ _ T41 (mkF m 187 #[.val (.int p1), .val (.int p2), .val (.int p3), .val (.int p4), .val (.int p5), .val (.int p6), .val (.ref b1), .val (.ref b3), .val (.ref al), .val (.ref b34), .val (.int (1 : Int32)), .val (.ref b41)] [(.ref b41)])
    refine own_by (fun t k => XS.aload X41.here hx rfl (hb hby at_187) rfl rfl k) ?_
    show ORun p e below s _ _ _ T41 (mkF m 189 #[.val (.int p1), .val (.int p2), .val (.int p3), .val (.int p4), .val (.int p5), .val (.int p6), .val (.ref b1), .val (.ref b3), .val (.ref al), .val (.ref b34), .val (.int (1 : Int32)), .val (.ref b41)] [(.ref al), (.ref b41)])
    refine own_by (fun t k => XS.iconst X41.here hx rfl (hb hby at_189) k) ?_
    show ORun p e below s _ _ _ T41 (mkF m 190 #[.val (.int p1), .val (.int p2), .val (.int p3), .val (.int p4), .val (.int p5), .val (.int p6), .val (.ref b1), .val (.ref b3), .val (.ref al), .val (.ref b34), .val (.int (1 : Int32)), .val (.ref b41)] [(.int (0 : Int32)), (.ref al), (.ref b41)])
    refine own_callI X41 hx hZ hown (((((((Eal15.ext E34).keep K35).keep K36).keep K37).keep K38).keep K39).ext E41) (hw _ (List.mem_of_getElem? (i := 116) rfl)) (hw _ (List.mem_of_getElem? (i := 117) rfl)) (hw _ (List.mem_of_getElem? (i := 118) rfl)) (by first | rfl | simp [Cond.onTables, Cond.keepsFace, Cond.keeps, Cond.steady]) (hw _ (List.mem_of_getElem? (i := 119) rfl)) (hw _ (List.mem_of_getElem? (i := 120) rfl)) (hw _ (List.mem_of_getElem? (i := 121) rfl)) (hw _ (List.mem_of_getElem? (i := 122) rfl)) (hw _ (List.mem_of_getElem? (i := 71) rfl)) (hw _ (List.mem_of_getElem? (i := 39) rfl)) (hw _ (List.mem_of_getElem? (i := 123) rfl)) (by decide) (rm21 l Z a0 hw [] h41 n0 (Nat.le_trans (Nat.le_trans (Nat.le_trans (Nat.le_trans (Nat.le_trans (Nat.le_trans (Nat.le_trans (Nat.le_trans (Nat.le_trans (Nat.le_trans (Nat.le_trans (Nat.le_trans (Nat.le_trans (Nat.le_trans (Nat.le_trans (Nat.le_trans (Nat.le_trans (Nat.le_trans (Nat.le_trans (Nat.le_trans (Nat.le_trans (Nat.le_trans Z0 E1.1) K2.1) E3.1) (Keep.of_wr W4).1) (Keep.of_wr W5).1) (Keep.of_wr W6).1) (Keep.of_wr W7).1) (Keep.of_wr W8).1) K9.1) K10.1) K11.1) K12.1) K13.1) K14.1) K15.1) E34.1) K35.1) K36.1) K37.1) K38.1) K39.1) E41.1) al ed gA (0 : Int32) (1 : Int32) [.ref gA, .null, .null, .null, .null, .null, .null, .null, .null, .null] (((((((Eal15.ext E34).keep K35).keep K36).keep K37).keep K38).keep K39).ext E41) (((((((Fs.ext E34).keep K35 (ninS ne_al_b34 nin0)).keep K36 (ninS ne_al_b34 nin0)).keep K37 (ninS ne_al_b34 nin0)).keep K38 (ninS ne_al_b34 nin0)).keep K39 (ninS ne_al_b34 nin0)).ext E41) (((((((Fe.ext E34).keep K35 (ninS ne_al_b34 nin0)).keep K36 (ninS ne_al_b34 nin0)).keep K37 (ninS ne_al_b34 nin0)).keep K38 (ninS ne_al_b34 nin0)).keep K39 (ninS ne_al_b34 nin0)).ext E41) (((((((Ve.ext E34).keep K35 (ninS ne_ed_b34 nin0)).keep K36 (ninS ne_ed_b34 nin0)).keep K37 (ninS ne_ed_b34 nin0)).keep K38 (ninS ne_ed_b34 nin0)).keep K39 (ninS ne_ed_b34 nin0)).ext E41) rfl (by decide)) e41 (by decide) (W := 1) (by decide) (by decide) (by decide) (argsL := [(.int (0 : Int32))]) (rest := [(.ref b41)]) (by rw [hml]; rfl) (lenOf pd_10 rfl) rfl rfl (Nat.le_of_eq rfl) (hb hby at_190) ?_
    intro T42 L42 u42 X42 hQ42
    obtain ⟨rfl, Nq42, e42⟩ := hQ42
    have N42 := Fr.app N40 Nq42
    show ORun p e below s _ _ _ T42 (mkF m 195 #[.val (.int p1), .val (.int p2), .val (.int p3), .val (.int p4), .val (.int p5), .val (.int p6), .val (.ref b1), .val (.ref b3), .val (.ref al), .val (.ref b34), .val (.int (1 : Int32)), .val (.ref b41)] [(.ref gA), (.ref b41)])
    obtain ⟨T43, X43, e43, st43⟩ := castY X42 hx hZ hown (hw _ (List.mem_of_getElem? (i := 137) rfl)) e42 (Ins.self (((((((EA.ext E34).keep K35).keep K36).keep K37).keep K38).keep K39).ext E41)) (g := (mkF m 195 #[.val (.int p1), .val (.int p2), .val (.int p3), .val (.int p4), .val (.int p5), .val (.int p6), .val (.ref b1), .val (.ref b3), .val (.ref al), .val (.ref b34), .val (.int (1 : Int32)), .val (.ref b41)] [(.ref gA), (.ref b41)])) rfl rfl (hb hby at_195)
    refine own_by st43 ?_
    show ORun p e below s _ _ _ T43 (mkF m 198 #[.val (.int p1), .val (.int p2), .val (.int p3), .val (.int p4), .val (.int p5), .val (.int p6), .val (.ref b1), .val (.ref b3), .val (.ref al), .val (.ref b34), .val (.int (1 : Int32)), .val (.ref b41)] [(.ref gA), (.ref b41)])
    refine own_by (fun t k => XS.iconst X43.here hx rfl (hb hby at_198) k) ?_
    show ORun p e below s _ _ _ T43 (mkF m 199 #[.val (.int p1), .val (.int p2), .val (.int p3), .val (.int p4), .val (.int p5), .val (.int p6), .val (.ref b1), .val (.ref b3), .val (.ref al), .val (.ref b34), .val (.int (1 : Int32)), .val (.ref b41)] [(.int (1 : Int32)), (.ref gA), (.ref b41)])
    refine own_callS X43 hx hZ hown (hw _ (List.mem_of_getElem? (i := 138) rfl)) (hw _ (List.mem_of_getElem? (i := 139) rfl)) (hw _ (List.mem_of_getElem? (i := 14) rfl)) (hw _ (List.mem_of_getElem? (i := 140) rfl)) (by decide) (rm25 l Z a0 hw [] h41 n0 (Nat.le_trans (Nat.le_trans (Nat.le_trans (Nat.le_trans (Nat.le_trans (Nat.le_trans (Nat.le_trans (Nat.le_trans (Nat.le_trans (Nat.le_trans (Nat.le_trans (Nat.le_trans (Nat.le_trans (Nat.le_trans (Nat.le_trans (Nat.le_trans (Nat.le_trans (Nat.le_trans (Nat.le_trans (Nat.le_trans (Nat.le_trans (Nat.le_trans Z0 E1.1) K2.1) E3.1) (Keep.of_wr W4).1) (Keep.of_wr W5).1) (Keep.of_wr W6).1) (Keep.of_wr W7).1) (Keep.of_wr W8).1) K9.1) K10.1) K11.1) K12.1) K13.1) K14.1) K15.1) E34.1) K35.1) K36.1) K37.1) K38.1) K39.1) E41.1) b41 gA (1 : Int32) m0.length (List.replicate 5 (0 : Int32)) m0 V41 rfl old_b41 (((((((VA.ext E34).keep K35 (ninS ne_gA_b34 nin0)).keep K36 (ninS ne_gA_b34 nin0)).keep K37 (ninS ne_gA_b34 nin0)).keep K38 (ninS ne_gA_b34 nin0)).keep K39 (ninS ne_gA_b34 nin0)).ext E41) rfl (own_okmD okA).1 ne_gA_b41 ((own_okmD okA).2 0 (by decide)) ((own_okmD okA).2 1 (by decide)) ((own_okmD okA).2 2 (by decide)) ((own_okmD okA).2 3 (by decide)) ((own_okmD okA).2 4 (by decide))) e43 (by decide) (W := 0) (by decide) (by decide) (by decide) (argsL := [(.ref b41), (.ref gA), (.int (1 : Int32))]) (rest := []) (by rw [hml]; rfl) (lenOf pd_20 rfl) rfl rfl (Nat.le_of_eq rfl) (hb hby at_199) ?_
    intro T44 L44 u44 X44 hQ44
    obtain ⟨rfl, Nq44, K44, Vq44⟩ := hQ44
    have lc44 : (own_mk (List.replicate 5 (0 : Int32)) m0 (1 : Int32) 5).length = 5 := by rw [own_mklen]; exact rfl
    have N44 := Fr.app N42 Nq44
    show ORun p e below s _ _ _ T44 (mkF m 202 #[.val (.int p1), .val (.int p2), .val (.int p3), .val (.int p4), .val (.int p5), .val (.int p6), .val (.ref b1), .val (.ref b3), .val (.ref al), .val (.ref b34), .val (.int (1 : Int32)), .val (.ref b41)] [(.int (1 : Int32))])
    refine own_by (fun t k => XS.ifYes X44.here hx rfl (pc0 := 202) (pc' := 207) rfl (hb hby at_202) rfl ((if0 _ _).trans (feq (by decide)).2) (by decide) (by decide) k) ?_
    show ORun p e below s _ _ _ T44 (mkF m 207 #[.val (.int p1), .val (.int p2), .val (.int p3), .val (.int p4), .val (.int p5), .val (.int p6), .val (.ref b1), .val (.ref b3), .val (.ref al), .val (.ref b34), .val (.int (1 : Int32)), .val (.ref b41)] [])
    refine own_by (fun t k => XS.iload X44.here hx rfl (hb hby at_207) rfl k) ?_
    show ORun p e below s _ _ _ T44 (mkF m 209 #[.val (.int p1), .val (.int p2), .val (.int p3), .val (.int p4), .val (.int p5), .val (.int p6), .val (.ref b1), .val (.ref b3), .val (.ref al), .val (.ref b34), .val (.int (1 : Int32)), .val (.ref b41)] [(.int (1 : Int32))])
    refine own_by (fun t k => XS.iconst X44.here hx rfl (hb hby at_209) k) ?_
    show ORun p e below s _ _ _ T44 (mkF m 210 #[.val (.int p1), .val (.int p2), .val (.int p3), .val (.int p4), .val (.int p5), .val (.int p6), .val (.ref b1), .val (.ref b3), .val (.ref al), .val (.ref b34), .val (.int (1 : Int32)), .val (.ref b41)] [(.int (2 : Int32)), (.int (1 : Int32))])
    refine own_by (fun t k => XS.icmpYes X44.here hx rfl (pc0 := 210) (pc' := 235) rfl (hb hby at_210) rfl (tlt (by decide)).1 (by decide) (by decide) k) ?_
    show ORun p e below s _ _ _ T44 (mkF m 235 #[.val (.int p1), .val (.int p2), .val (.int p3), .val (.int p4), .val (.int p5), .val (.int p6), .val (.ref b1), .val (.ref b3), .val (.ref al), .val (.ref b34), .val (.int (1 : Int32)), .val (.ref b41)] [])
    refine own_by (fun t k => XS.aload X44.here hx rfl (hb hby at_235) rfl rfl k) ?_
    show ORun p e below s _ _ _ T44 (mkF m 237 #[.val (.int p1), .val (.int p2), .val (.int p3), .val (.int p4), .val (.int p5), .val (.int p6), .val (.ref b1), .val (.ref b3), .val (.ref al), .val (.ref b34), .val (.int (1 : Int32)), .val (.ref b41)] [(.ref b41)])
    refine own_by (fun t k => XS.iconst X44.here hx rfl (hb hby at_237) k) ?_
    show ORun p e below s _ _ _ T44 (mkF m 238 #[.val (.int p1), .val (.int p2), .val (.int p3), .val (.int p4), .val (.int p5), .val (.int p6), .val (.ref b1), .val (.ref b3), .val (.ref al), .val (.ref b34), .val (.int (1 : Int32)), .val (.ref b41)] [(.int (0 : Int32)), (.ref b41)])
    refine own_iaload X44 hx hZ rfl Vq44 (i := 0) (by decide) (by omega) (hb hby at_238) ?_
    intro v45 hv45
    have r45 := rng32 v45
    show ORun p e below s _ _ _ T44 (mkF m 239 #[.val (.int p1), .val (.int p2), .val (.int p3), .val (.int p4), .val (.int p5), .val (.int p6), .val (.ref b1), .val (.ref b3), .val (.ref al), .val (.ref b34), .val (.int (1 : Int32)), .val (.ref b41)] [(.int v45)])
    refine own_by (fun t k => XS.aload X44.here hx rfl (hb hby at_239) rfl rfl k) ?_
    show ORun p e below s _ _ _ T44 (mkF m 241 #[.val (.int p1), .val (.int p2), .val (.int p3), .val (.int p4), .val (.int p5), .val (.int p6), .val (.ref b1), .val (.ref b3), .val (.ref al), .val (.ref b34), .val (.int (1 : Int32)), .val (.ref b41)] [(.ref b3), (.int v45)])
    refine own_by (fun t k => XS.aload X44.here hx rfl (hb hby at_241) rfl rfl k) ?_
    show ORun p e below s _ _ _ T44 (mkF m 243 #[.val (.int p1), .val (.int p2), .val (.int p3), .val (.int p4), .val (.int p5), .val (.int p6), .val (.ref b1), .val (.ref b3), .val (.ref al), .val (.ref b34), .val (.int (1 : Int32)), .val (.ref b41)] [(.ref b34), (.ref b3), (.int v45)])
    refine own_by (fun t k => XS.iconst X44.here hx rfl (hb hby at_243) k) ?_
    show ORun p e below s _ _ _ T44 (mkF m 244 #[.val (.int p1), .val (.int p2), .val (.int p3), .val (.int p4), .val (.int p5), .val (.int p6), .val (.ref b1), .val (.ref b3), .val (.ref al), .val (.ref b34), .val (.int (1 : Int32)), .val (.ref b41)] [(.int (0 : Int32)), (.ref b34), (.ref b3), (.int v45)])
    refine own_callS X44 hx hZ hown (hw _ (List.mem_of_getElem? (i := 144) rfl)) (hw _ (List.mem_of_getElem? (i := 145) rfl)) (hw _ (List.mem_of_getElem? (i := 14) rfl)) (hw _ (List.mem_of_getElem? (i := 146) rfl)) (by decide) (rm27 l Z a0 hw [] T44.heap n0 (Nat.le_trans (Nat.le_trans (Nat.le_trans (Nat.le_trans (Nat.le_trans (Nat.le_trans (Nat.le_trans (Nat.le_trans (Nat.le_trans (Nat.le_trans (Nat.le_trans (Nat.le_trans (Nat.le_trans (Nat.le_trans (Nat.le_trans (Nat.le_trans (Nat.le_trans (Nat.le_trans (Nat.le_trans (Nat.le_trans (Nat.le_trans (Nat.le_trans (Nat.le_trans Z0 E1.1) K2.1) E3.1) (Keep.of_wr W4).1) (Keep.of_wr W5).1) (Keep.of_wr W6).1) (Keep.of_wr W7).1) (Keep.of_wr W8).1) K9.1) K10.1) K11.1) K12.1) K13.1) K14.1) K15.1) E34.1) K35.1) K36.1) K37.1) K38.1) K39.1) E41.1) K44.1) b3 b34 (0 : Int32) x14_0 x14_1 x14_2 x14_3 x14_4 R39 (((((((((Vl14.keep K15 (ninS (Ne.symm ne_pa_b3) nin0)).ext E34).keep K35 (ninS ne_b3_b34 nin0)).keep K36 (ninS ne_b3_b34 nin0)).keep K37 (ninS ne_b3_b34 nin0)).keep K38 (ninS ne_b3_b34 nin0)).keep K39 (ninS ne_b3_b34 nin0)).ext E41).keep K44 (ninS ne_b3_b41 nin0)) ((Vq39.ext E41).keep K44 (ninS ne_b34_b41 nin0)) lR39 (by decide)) rfl (by decide) (W := 1) (by decide) (by decide) (by decide) (argsL := [(.ref b3), (.ref b34), (.int (0 : Int32))]) (rest := [(.int v45)]) (by rw [hml]; rfl) (lenOf pd_19 rfl) rfl rfl (Nat.le_of_eq rfl) (hb hby at_244) ?_
    intro T46 L46 u46 X46 hQ46
    obtain ⟨rfl, Nq46, e46⟩ := hQ46
    refine own_letI (f := fun z => (mkF m 247 #[.val (.int p1), .val (.int p2), .val (.int p3), .val (.int p4), .val (.int p5), .val (.int p6), .val (.ref b1), .val (.ref b3), .val (.ref al), .val (.ref b34), .val (.int (1 : Int32)), .val (.ref b41)] [(.int z), (.int v45)])) (own_ex [x14_0, x14_1, x14_2, x14_3, x14_4] R39 (0 : Int32)) fun y46 hy46 => ?_
    have N46 := Fr.app N44 Nq46
    show ORun p e below s _ _ _ T46 (mkF m 247 #[.val (.int p1), .val (.int p2), .val (.int p3), .val (.int p4), .val (.int p5), .val (.int p6), .val (.ref b1), .val (.ref b3), .val (.ref al), .val (.ref b34), .val (.int (1 : Int32)), .val (.ref b41)] [(.int y46), (.int v45)])
    have hq46 : v45 = y46 := hv45.trans ((hex 0 (by decide)).trans (by rw [hy46, eRR]; rfl))
    refine own_by (fun t k => XS.icmpNo X46.here hx rfl (hb hby at_247) rfl (teq hq46).2 k) ?_
    show ORun p e below s _ _ _ T46 (mkF m 250 #[.val (.int p1), .val (.int p2), .val (.int p3), .val (.int p4), .val (.int p5), .val (.int p6), .val (.ref b1), .val (.ref b3), .val (.ref al), .val (.ref b34), .val (.int (1 : Int32)), .val (.ref b41)] [])
    refine own_by (fun t k => XS.aload X46.here hx rfl (hb hby at_250) rfl rfl k) ?_
    show ORun p e below s _ _ _ T46 (mkF m 252 #[.val (.int p1), .val (.int p2), .val (.int p3), .val (.int p4), .val (.int p5), .val (.int p6), .val (.ref b1), .val (.ref b3), .val (.ref al), .val (.ref b34), .val (.int (1 : Int32)), .val (.ref b41)] [(.ref b41)])
    refine own_by (fun t k => XS.iconst X46.here hx rfl (hb hby at_252) k) ?_
    show ORun p e below s _ _ _ T46 (mkF m 253 #[.val (.int p1), .val (.int p2), .val (.int p3), .val (.int p4), .val (.int p5), .val (.int p6), .val (.ref b1), .val (.ref b3), .val (.ref al), .val (.ref b34), .val (.int (1 : Int32)), .val (.ref b41)] [(.int (1 : Int32)), (.ref b41)])
    refine own_iaload X46 hx hZ e46 Vq44 (i := 1) (by decide) (by omega) (hb hby at_253) ?_
    intro v47 hv47
    have r47 := rng32 v47
    show ORun p e below s _ _ _ T46 (mkF m 254 #[.val (.int p1), .val (.int p2), .val (.int p3), .val (.int p4), .val (.int p5), .val (.int p6), .val (.ref b1), .val (.ref b3), .val (.ref al), .val (.ref b34), .val (.int (1 : Int32)), .val (.ref b41)] [(.int v47)])
    refine own_by (fun t k => XS.aload X46.here hx rfl (hb hby at_254) rfl rfl k) ?_
    show ORun p e below s _ _ _ T46 (mkF m 256 #[.val (.int p1), .val (.int p2), .val (.int p3), .val (.int p4), .val (.int p5), .val (.int p6), .val (.ref b1), .val (.ref b3), .val (.ref al), .val (.ref b34), .val (.int (1 : Int32)), .val (.ref b41)] [(.ref b3), (.int v47)])
    refine own_by (fun t k => XS.aload X46.here hx rfl (hb hby at_256) rfl rfl k) ?_
    show ORun p e below s _ _ _ T46 (mkF m 258 #[.val (.int p1), .val (.int p2), .val (.int p3), .val (.int p4), .val (.int p5), .val (.int p6), .val (.ref b1), .val (.ref b3), .val (.ref al), .val (.ref b34), .val (.int (1 : Int32)), .val (.ref b41)] [(.ref b34), (.ref b3), (.int v47)])
    refine own_by (fun t k => XS.iconst X46.here hx rfl (hb hby at_258) k) ?_
    show ORun p e below s _ _ _ T46 (mkF m 259 #[.val (.int p1), .val (.int p2), .val (.int p3), .val (.int p4), .val (.int p5), .val (.int p6), .val (.ref b1), .val (.ref b3), .val (.ref al), .val (.ref b34), .val (.int (1 : Int32)), .val (.ref b41)] [(.int (1 : Int32)), (.ref b34), (.ref b3), (.int v47)])
    refine own_callS X46 hx hZ hown (hw _ (List.mem_of_getElem? (i := 144) rfl)) (hw _ (List.mem_of_getElem? (i := 145) rfl)) (hw _ (List.mem_of_getElem? (i := 14) rfl)) (hw _ (List.mem_of_getElem? (i := 146) rfl)) (by decide) (rm27 l Z a0 hw [] T44.heap n0 (Nat.le_trans (Nat.le_trans (Nat.le_trans (Nat.le_trans (Nat.le_trans (Nat.le_trans (Nat.le_trans (Nat.le_trans (Nat.le_trans (Nat.le_trans (Nat.le_trans (Nat.le_trans (Nat.le_trans (Nat.le_trans (Nat.le_trans (Nat.le_trans (Nat.le_trans (Nat.le_trans (Nat.le_trans (Nat.le_trans (Nat.le_trans (Nat.le_trans (Nat.le_trans Z0 E1.1) K2.1) E3.1) (Keep.of_wr W4).1) (Keep.of_wr W5).1) (Keep.of_wr W6).1) (Keep.of_wr W7).1) (Keep.of_wr W8).1) K9.1) K10.1) K11.1) K12.1) K13.1) K14.1) K15.1) E34.1) K35.1) K36.1) K37.1) K38.1) K39.1) E41.1) K44.1) b3 b34 (1 : Int32) x14_0 x14_1 x14_2 x14_3 x14_4 R39 (((((((((Vl14.keep K15 (ninS (Ne.symm ne_pa_b3) nin0)).ext E34).keep K35 (ninS ne_b3_b34 nin0)).keep K36 (ninS ne_b3_b34 nin0)).keep K37 (ninS ne_b3_b34 nin0)).keep K38 (ninS ne_b3_b34 nin0)).keep K39 (ninS ne_b3_b34 nin0)).ext E41).keep K44 (ninS ne_b3_b41 nin0)) ((Vq39.ext E41).keep K44 (ninS ne_b34_b41 nin0)) lR39 (by decide)) e46 (by decide) (W := 1) (by decide) (by decide) (by decide) (argsL := [(.ref b3), (.ref b34), (.int (1 : Int32))]) (rest := [(.int v47)]) (by rw [hml]; rfl) (lenOf pd_19 rfl) rfl rfl (Nat.le_of_eq rfl) (hb hby at_259) ?_
    intro T48 L48 u48 X48 hQ48
    obtain ⟨rfl, Nq48, e48⟩ := hQ48
    refine own_letI (f := fun z => (mkF m 262 #[.val (.int p1), .val (.int p2), .val (.int p3), .val (.int p4), .val (.int p5), .val (.int p6), .val (.ref b1), .val (.ref b3), .val (.ref al), .val (.ref b34), .val (.int (1 : Int32)), .val (.ref b41)] [(.int z), (.int v47)])) (own_ex [x14_0, x14_1, x14_2, x14_3, x14_4] R39 (1 : Int32)) fun y48 hy48 => ?_
    have N48 := Fr.app N46 Nq48
    show ORun p e below s _ _ _ T48 (mkF m 262 #[.val (.int p1), .val (.int p2), .val (.int p3), .val (.int p4), .val (.int p5), .val (.int p6), .val (.ref b1), .val (.ref b3), .val (.ref al), .val (.ref b34), .val (.int (1 : Int32)), .val (.ref b41)] [(.int y48), (.int v47)])
    have hq48 : v47 = y48 := hv47.trans ((hex 1 (by decide)).trans (by rw [hy48, eRR]; rfl))
    refine own_by (fun t k => XS.icmpNo X48.here hx rfl (hb hby at_262) rfl (teq hq48).2 k) ?_
    show ORun p e below s _ _ _ T48 (mkF m 265 #[.val (.int p1), .val (.int p2), .val (.int p3), .val (.int p4), .val (.int p5), .val (.int p6), .val (.ref b1), .val (.ref b3), .val (.ref al), .val (.ref b34), .val (.int (1 : Int32)), .val (.ref b41)] [])
    refine own_by (fun t k => XS.aload X48.here hx rfl (hb hby at_265) rfl rfl k) ?_
    show ORun p e below s _ _ _ T48 (mkF m 267 #[.val (.int p1), .val (.int p2), .val (.int p3), .val (.int p4), .val (.int p5), .val (.int p6), .val (.ref b1), .val (.ref b3), .val (.ref al), .val (.ref b34), .val (.int (1 : Int32)), .val (.ref b41)] [(.ref b41)])
    refine own_by (fun t k => XS.iconst X48.here hx rfl (hb hby at_267) k) ?_
    show ORun p e below s _ _ _ T48 (mkF m 268 #[.val (.int p1), .val (.int p2), .val (.int p3), .val (.int p4), .val (.int p5), .val (.int p6), .val (.ref b1), .val (.ref b3), .val (.ref al), .val (.ref b34), .val (.int (1 : Int32)), .val (.ref b41)] [(.int (2 : Int32)), (.ref b41)])
    refine own_iaload X48 hx hZ e48 Vq44 (i := 2) (by decide) (by omega) (hb hby at_268) ?_
    intro v49 hv49
    have r49 := rng32 v49
    show ORun p e below s _ _ _ T48 (mkF m 269 #[.val (.int p1), .val (.int p2), .val (.int p3), .val (.int p4), .val (.int p5), .val (.int p6), .val (.ref b1), .val (.ref b3), .val (.ref al), .val (.ref b34), .val (.int (1 : Int32)), .val (.ref b41)] [(.int v49)])
    refine own_by (fun t k => XS.aload X48.here hx rfl (hb hby at_269) rfl rfl k) ?_
    show ORun p e below s _ _ _ T48 (mkF m 271 #[.val (.int p1), .val (.int p2), .val (.int p3), .val (.int p4), .val (.int p5), .val (.int p6), .val (.ref b1), .val (.ref b3), .val (.ref al), .val (.ref b34), .val (.int (1 : Int32)), .val (.ref b41)] [(.ref b3), (.int v49)])
    refine own_by (fun t k => XS.aload X48.here hx rfl (hb hby at_271) rfl rfl k) ?_
    show ORun p e below s _ _ _ T48 (mkF m 273 #[.val (.int p1), .val (.int p2), .val (.int p3), .val (.int p4), .val (.int p5), .val (.int p6), .val (.ref b1), .val (.ref b3), .val (.ref al), .val (.ref b34), .val (.int (1 : Int32)), .val (.ref b41)] [(.ref b34), (.ref b3), (.int v49)])
    refine own_by (fun t k => XS.iconst X48.here hx rfl (hb hby at_273) k) ?_
    show ORun p e below s _ _ _ T48 (mkF m 274 #[.val (.int p1), .val (.int p2), .val (.int p3), .val (.int p4), .val (.int p5), .val (.int p6), .val (.ref b1), .val (.ref b3), .val (.ref al), .val (.ref b34), .val (.int (1 : Int32)), .val (.ref b41)] [(.int (2 : Int32)), (.ref b34), (.ref b3), (.int v49)])
    refine own_callS X48 hx hZ hown (hw _ (List.mem_of_getElem? (i := 144) rfl)) (hw _ (List.mem_of_getElem? (i := 145) rfl)) (hw _ (List.mem_of_getElem? (i := 14) rfl)) (hw _ (List.mem_of_getElem? (i := 146) rfl)) (by decide) (rm27 l Z a0 hw [] T44.heap n0 (Nat.le_trans (Nat.le_trans (Nat.le_trans (Nat.le_trans (Nat.le_trans (Nat.le_trans (Nat.le_trans (Nat.le_trans (Nat.le_trans (Nat.le_trans (Nat.le_trans (Nat.le_trans (Nat.le_trans (Nat.le_trans (Nat.le_trans (Nat.le_trans (Nat.le_trans (Nat.le_trans (Nat.le_trans (Nat.le_trans (Nat.le_trans (Nat.le_trans (Nat.le_trans Z0 E1.1) K2.1) E3.1) (Keep.of_wr W4).1) (Keep.of_wr W5).1) (Keep.of_wr W6).1) (Keep.of_wr W7).1) (Keep.of_wr W8).1) K9.1) K10.1) K11.1) K12.1) K13.1) K14.1) K15.1) E34.1) K35.1) K36.1) K37.1) K38.1) K39.1) E41.1) K44.1) b3 b34 (2 : Int32) x14_0 x14_1 x14_2 x14_3 x14_4 R39 (((((((((Vl14.keep K15 (ninS (Ne.symm ne_pa_b3) nin0)).ext E34).keep K35 (ninS ne_b3_b34 nin0)).keep K36 (ninS ne_b3_b34 nin0)).keep K37 (ninS ne_b3_b34 nin0)).keep K38 (ninS ne_b3_b34 nin0)).keep K39 (ninS ne_b3_b34 nin0)).ext E41).keep K44 (ninS ne_b3_b41 nin0)) ((Vq39.ext E41).keep K44 (ninS ne_b34_b41 nin0)) lR39 (by decide)) e48 (by decide) (W := 1) (by decide) (by decide) (by decide) (argsL := [(.ref b3), (.ref b34), (.int (2 : Int32))]) (rest := [(.int v49)]) (by rw [hml]; rfl) (lenOf pd_19 rfl) rfl rfl (Nat.le_of_eq rfl) (hb hby at_274) ?_
    intro T50 L50 u50 X50 hQ50
    obtain ⟨rfl, Nq50, e50⟩ := hQ50
    refine own_letI (f := fun z => (mkF m 277 #[.val (.int p1), .val (.int p2), .val (.int p3), .val (.int p4), .val (.int p5), .val (.int p6), .val (.ref b1), .val (.ref b3), .val (.ref al), .val (.ref b34), .val (.int (1 : Int32)), .val (.ref b41)] [(.int z), (.int v49)])) (own_ex [x14_0, x14_1, x14_2, x14_3, x14_4] R39 (2 : Int32)) fun y50 hy50 => ?_
    have N50 := Fr.app N48 Nq50
    show ORun p e below s _ _ _ T50 (mkF m 277 #[.val (.int p1), .val (.int p2), .val (.int p3), .val (.int p4), .val (.int p5), .val (.int p6), .val (.ref b1), .val (.ref b3), .val (.ref al), .val (.ref b34), .val (.int (1 : Int32)), .val (.ref b41)] [(.int y50), (.int v49)])
    have hq50 : v49 = y50 := hv49.trans ((hex 2 (by decide)).trans (by rw [hy50, eRR]; rfl))
    refine own_by (fun t k => XS.icmpNo X50.here hx rfl (hb hby at_277) rfl (teq hq50).2 k) ?_
    show ORun p e below s _ _ _ T50 (mkF m 280 #[.val (.int p1), .val (.int p2), .val (.int p3), .val (.int p4), .val (.int p5), .val (.int p6), .val (.ref b1), .val (.ref b3), .val (.ref al), .val (.ref b34), .val (.int (1 : Int32)), .val (.ref b41)] [])
    refine own_by (fun t k => XS.aload X50.here hx rfl (hb hby at_280) rfl rfl k) ?_
    show ORun p e below s _ _ _ T50 (mkF m 282 #[.val (.int p1), .val (.int p2), .val (.int p3), .val (.int p4), .val (.int p5), .val (.int p6), .val (.ref b1), .val (.ref b3), .val (.ref al), .val (.ref b34), .val (.int (1 : Int32)), .val (.ref b41)] [(.ref b41)])
    refine own_by (fun t k => XS.iconst X50.here hx rfl (hb hby at_282) k) ?_
    show ORun p e below s _ _ _ T50 (mkF m 283 #[.val (.int p1), .val (.int p2), .val (.int p3), .val (.int p4), .val (.int p5), .val (.int p6), .val (.ref b1), .val (.ref b3), .val (.ref al), .val (.ref b34), .val (.int (1 : Int32)), .val (.ref b41)] [(.int (3 : Int32)), (.ref b41)])
    refine own_iaload X50 hx hZ e50 Vq44 (i := 3) (by decide) (by omega) (hb hby at_283) ?_
    intro v51 hv51
    have r51 := rng32 v51
    show ORun p e below s _ _ _ T50 (mkF m 284 #[.val (.int p1), .val (.int p2), .val (.int p3), .val (.int p4), .val (.int p5), .val (.int p6), .val (.ref b1), .val (.ref b3), .val (.ref al), .val (.ref b34), .val (.int (1 : Int32)), .val (.ref b41)] [(.int v51)])
    refine own_by (fun t k => XS.aload X50.here hx rfl (hb hby at_284) rfl rfl k) ?_
    show ORun p e below s _ _ _ T50 (mkF m 286 #[.val (.int p1), .val (.int p2), .val (.int p3), .val (.int p4), .val (.int p5), .val (.int p6), .val (.ref b1), .val (.ref b3), .val (.ref al), .val (.ref b34), .val (.int (1 : Int32)), .val (.ref b41)] [(.ref b3), (.int v51)])
    refine own_by (fun t k => XS.aload X50.here hx rfl (hb hby at_286) rfl rfl k) ?_
    show ORun p e below s _ _ _ T50 (mkF m 288 #[.val (.int p1), .val (.int p2), .val (.int p3), .val (.int p4), .val (.int p5), .val (.int p6), .val (.ref b1), .val (.ref b3), .val (.ref al), .val (.ref b34), .val (.int (1 : Int32)), .val (.ref b41)] [(.ref b34), (.ref b3), (.int v51)])
    refine own_by (fun t k => XS.iconst X50.here hx rfl (hb hby at_288) k) ?_
    show ORun p e below s _ _ _ T50 (mkF m 289 #[.val (.int p1), .val (.int p2), .val (.int p3), .val (.int p4), .val (.int p5), .val (.int p6), .val (.ref b1), .val (.ref b3), .val (.ref al), .val (.ref b34), .val (.int (1 : Int32)), .val (.ref b41)] [(.int (3 : Int32)), (.ref b34), (.ref b3), (.int v51)])
    refine own_callS X50 hx hZ hown (hw _ (List.mem_of_getElem? (i := 144) rfl)) (hw _ (List.mem_of_getElem? (i := 145) rfl)) (hw _ (List.mem_of_getElem? (i := 14) rfl)) (hw _ (List.mem_of_getElem? (i := 146) rfl)) (by decide) (rm27 l Z a0 hw [] T44.heap n0 (Nat.le_trans (Nat.le_trans (Nat.le_trans (Nat.le_trans (Nat.le_trans (Nat.le_trans (Nat.le_trans (Nat.le_trans (Nat.le_trans (Nat.le_trans (Nat.le_trans (Nat.le_trans (Nat.le_trans (Nat.le_trans (Nat.le_trans (Nat.le_trans (Nat.le_trans (Nat.le_trans (Nat.le_trans (Nat.le_trans (Nat.le_trans (Nat.le_trans (Nat.le_trans Z0 E1.1) K2.1) E3.1) (Keep.of_wr W4).1) (Keep.of_wr W5).1) (Keep.of_wr W6).1) (Keep.of_wr W7).1) (Keep.of_wr W8).1) K9.1) K10.1) K11.1) K12.1) K13.1) K14.1) K15.1) E34.1) K35.1) K36.1) K37.1) K38.1) K39.1) E41.1) K44.1) b3 b34 (3 : Int32) x14_0 x14_1 x14_2 x14_3 x14_4 R39 (((((((((Vl14.keep K15 (ninS (Ne.symm ne_pa_b3) nin0)).ext E34).keep K35 (ninS ne_b3_b34 nin0)).keep K36 (ninS ne_b3_b34 nin0)).keep K37 (ninS ne_b3_b34 nin0)).keep K38 (ninS ne_b3_b34 nin0)).keep K39 (ninS ne_b3_b34 nin0)).ext E41).keep K44 (ninS ne_b3_b41 nin0)) ((Vq39.ext E41).keep K44 (ninS ne_b34_b41 nin0)) lR39 (by decide)) e50 (by decide) (W := 1) (by decide) (by decide) (by decide) (argsL := [(.ref b3), (.ref b34), (.int (3 : Int32))]) (rest := [(.int v51)]) (by rw [hml]; rfl) (lenOf pd_19 rfl) rfl rfl (Nat.le_of_eq rfl) (hb hby at_289) ?_
    intro T52 L52 u52 X52 hQ52
    obtain ⟨rfl, Nq52, e52⟩ := hQ52
    refine own_letI (f := fun z => (mkF m 292 #[.val (.int p1), .val (.int p2), .val (.int p3), .val (.int p4), .val (.int p5), .val (.int p6), .val (.ref b1), .val (.ref b3), .val (.ref al), .val (.ref b34), .val (.int (1 : Int32)), .val (.ref b41)] [(.int z), (.int v51)])) (own_ex [x14_0, x14_1, x14_2, x14_3, x14_4] R39 (3 : Int32)) fun y52 hy52 => ?_
    have N52 := Fr.app N50 Nq52
    show ORun p e below s _ _ _ T52 (mkF m 292 #[.val (.int p1), .val (.int p2), .val (.int p3), .val (.int p4), .val (.int p5), .val (.int p6), .val (.ref b1), .val (.ref b3), .val (.ref al), .val (.ref b34), .val (.int (1 : Int32)), .val (.ref b41)] [(.int y52), (.int v51)])
    have hq52 : v51 = y52 := hv51.trans ((hex 3 (by decide)).trans (by rw [hy52, eRR]; rfl))
    refine own_by (fun t k => XS.icmpNo X52.here hx rfl (hb hby at_292) rfl (teq hq52).2 k) ?_
    show ORun p e below s _ _ _ T52 (mkF m 295 #[.val (.int p1), .val (.int p2), .val (.int p3), .val (.int p4), .val (.int p5), .val (.int p6), .val (.ref b1), .val (.ref b3), .val (.ref al), .val (.ref b34), .val (.int (1 : Int32)), .val (.ref b41)] [])
    refine own_by (fun t k => XS.aload X52.here hx rfl (hb hby at_295) rfl rfl k) ?_
    show ORun p e below s _ _ _ T52 (mkF m 297 #[.val (.int p1), .val (.int p2), .val (.int p3), .val (.int p4), .val (.int p5), .val (.int p6), .val (.ref b1), .val (.ref b3), .val (.ref al), .val (.ref b34), .val (.int (1 : Int32)), .val (.ref b41)] [(.ref b41)])
    refine own_by (fun t k => XS.iconst X52.here hx rfl (hb hby at_297) k) ?_
    show ORun p e below s _ _ _ T52 (mkF m 298 #[.val (.int p1), .val (.int p2), .val (.int p3), .val (.int p4), .val (.int p5), .val (.int p6), .val (.ref b1), .val (.ref b3), .val (.ref al), .val (.ref b34), .val (.int (1 : Int32)), .val (.ref b41)] [(.int (4 : Int32)), (.ref b41)])
    refine own_iaload X52 hx hZ e52 Vq44 (i := 4) (by decide) (by omega) (hb hby at_298) ?_
    intro v53 hv53
    have r53 := rng32 v53
    show ORun p e below s _ _ _ T52 (mkF m 299 #[.val (.int p1), .val (.int p2), .val (.int p3), .val (.int p4), .val (.int p5), .val (.int p6), .val (.ref b1), .val (.ref b3), .val (.ref al), .val (.ref b34), .val (.int (1 : Int32)), .val (.ref b41)] [(.int v53)])
    refine own_by (fun t k => XS.aload X52.here hx rfl (hb hby at_299) rfl rfl k) ?_
    show ORun p e below s _ _ _ T52 (mkF m 301 #[.val (.int p1), .val (.int p2), .val (.int p3), .val (.int p4), .val (.int p5), .val (.int p6), .val (.ref b1), .val (.ref b3), .val (.ref al), .val (.ref b34), .val (.int (1 : Int32)), .val (.ref b41)] [(.ref b3), (.int v53)])
    refine own_by (fun t k => XS.aload X52.here hx rfl (hb hby at_301) rfl rfl k) ?_
    show ORun p e below s _ _ _ T52 (mkF m 303 #[.val (.int p1), .val (.int p2), .val (.int p3), .val (.int p4), .val (.int p5), .val (.int p6), .val (.ref b1), .val (.ref b3), .val (.ref al), .val (.ref b34), .val (.int (1 : Int32)), .val (.ref b41)] [(.ref b34), (.ref b3), (.int v53)])
    refine own_by (fun t k => XS.iconst X52.here hx rfl (hb hby at_303) k) ?_
    show ORun p e below s _ _ _ T52 (mkF m 304 #[.val (.int p1), .val (.int p2), .val (.int p3), .val (.int p4), .val (.int p5), .val (.int p6), .val (.ref b1), .val (.ref b3), .val (.ref al), .val (.ref b34), .val (.int (1 : Int32)), .val (.ref b41)] [(.int (4 : Int32)), (.ref b34), (.ref b3), (.int v53)])
    refine own_callS X52 hx hZ hown (hw _ (List.mem_of_getElem? (i := 144) rfl)) (hw _ (List.mem_of_getElem? (i := 145) rfl)) (hw _ (List.mem_of_getElem? (i := 14) rfl)) (hw _ (List.mem_of_getElem? (i := 146) rfl)) (by decide) (rm27 l Z a0 hw [] T44.heap n0 (Nat.le_trans (Nat.le_trans (Nat.le_trans (Nat.le_trans (Nat.le_trans (Nat.le_trans (Nat.le_trans (Nat.le_trans (Nat.le_trans (Nat.le_trans (Nat.le_trans (Nat.le_trans (Nat.le_trans (Nat.le_trans (Nat.le_trans (Nat.le_trans (Nat.le_trans (Nat.le_trans (Nat.le_trans (Nat.le_trans (Nat.le_trans (Nat.le_trans (Nat.le_trans Z0 E1.1) K2.1) E3.1) (Keep.of_wr W4).1) (Keep.of_wr W5).1) (Keep.of_wr W6).1) (Keep.of_wr W7).1) (Keep.of_wr W8).1) K9.1) K10.1) K11.1) K12.1) K13.1) K14.1) K15.1) E34.1) K35.1) K36.1) K37.1) K38.1) K39.1) E41.1) K44.1) b3 b34 (4 : Int32) x14_0 x14_1 x14_2 x14_3 x14_4 R39 (((((((((Vl14.keep K15 (ninS (Ne.symm ne_pa_b3) nin0)).ext E34).keep K35 (ninS ne_b3_b34 nin0)).keep K36 (ninS ne_b3_b34 nin0)).keep K37 (ninS ne_b3_b34 nin0)).keep K38 (ninS ne_b3_b34 nin0)).keep K39 (ninS ne_b3_b34 nin0)).ext E41).keep K44 (ninS ne_b3_b41 nin0)) ((Vq39.ext E41).keep K44 (ninS ne_b34_b41 nin0)) lR39 (by decide)) e52 (by decide) (W := 1) (by decide) (by decide) (by decide) (argsL := [(.ref b3), (.ref b34), (.int (4 : Int32))]) (rest := [(.int v53)]) (by rw [hml]; rfl) (lenOf pd_19 rfl) rfl rfl (Nat.le_of_eq rfl) (hb hby at_304) ?_
    intro T54 L54 u54 X54 hQ54
    obtain ⟨rfl, Nq54, e54⟩ := hQ54
    refine own_letI (f := fun z => (mkF m 307 #[.val (.int p1), .val (.int p2), .val (.int p3), .val (.int p4), .val (.int p5), .val (.int p6), .val (.ref b1), .val (.ref b3), .val (.ref al), .val (.ref b34), .val (.int (1 : Int32)), .val (.ref b41)] [(.int z), (.int v53)])) (own_ex [x14_0, x14_1, x14_2, x14_3, x14_4] R39 (4 : Int32)) fun y54 hy54 => ?_
    have N54 := Fr.app N52 Nq54
    show ORun p e below s _ _ _ T54 (mkF m 307 #[.val (.int p1), .val (.int p2), .val (.int p3), .val (.int p4), .val (.int p5), .val (.int p6), .val (.ref b1), .val (.ref b3), .val (.ref al), .val (.ref b34), .val (.int (1 : Int32)), .val (.ref b41)] [(.int y54), (.int v53)])
    have hq54 : v53 = y54 := hv53.trans ((hex 4 (by decide)).trans (by rw [hy54, eRR]; rfl))
    refine own_by (fun t k => XS.icmpNo X54.here hx rfl (hb hby at_307) rfl (teq hq54).2 k) ?_
    show ORun p e below s _ _ _ T54 (mkF m 310 #[.val (.int p1), .val (.int p2), .val (.int p3), .val (.int p4), .val (.int p5), .val (.int p6), .val (.ref b1), .val (.ref b3), .val (.ref al), .val (.ref b34), .val (.int (1 : Int32)), .val (.ref b41)] [])
    refine own_by (fun t k => XS.iconst X54.here hx rfl (hb hby at_310) k) ?_
    show ORun p e below s _ _ _ T54 (mkF m 311 #[.val (.int p1), .val (.int p2), .val (.int p3), .val (.int p4), .val (.int p5), .val (.int p6), .val (.ref b1), .val (.ref b3), .val (.ref al), .val (.ref b34), .val (.int (1 : Int32)), .val (.ref b41)] [(.int (1 : Int32))])
    refine own_by (fun t k => XS.goto X54.here hx rfl (pc0 := 311) (pc' := 315) rfl (hb hby at_311) (by decide) (by decide) k) ?_
    show ORun p e below s _ _ _ T54 (mkF m 315 #[.val (.int p1), .val (.int p2), .val (.int p3), .val (.int p4), .val (.int p5), .val (.int p6), .val (.ref b1), .val (.ref b3), .val (.ref al), .val (.ref b34), .val (.int (1 : Int32)), .val (.ref b41)] [(.int (1 : Int32))])
    refine own_retN X54 hx (t := .boolean) hret (by simp) hlk (hb hby at_315) (by decide) (by decide) ?_
    exact ⟨rfl, N54⟩
  · obtain ⟨hRn, okA, okB, hex⟩ := own_end2 hend hg
    show ORun p e below s _ _ _ T15 (mkF m 90 #[.val (.int p1), .val (.int p2), .val (.int p3), .val (.int p4), .val (.int p5), .val (.int p6), .val (.ref b1), .val (.ref b3), .unset, .unset, .unset, .unset] [(.ref al)])
    refine own_by (fun t k => XS.astore X15.here hx rfl (hb hby at_90) rfl rfl (l' := #[.val (.int p1), .val (.int p2), .val (.int p3), .val (.int p4), .val (.int p5), .val (.int p6), .val (.ref b1), .val (.ref b3), .val (.ref al), .unset, .unset, .unset]) rfl k) ?_
    show ORun p e below s _ _ _ T15 (mkF m 92 #[.val (.int p1), .val (.int p2), .val (.int p3), .val (.int p4), .val (.int p5), .val (.int p6), .val (.ref b1), .val (.ref b3), .val (.ref al), .unset, .unset, .unset] [])
    refine own_by (fun t k => XS.iconst X15.here hx rfl (hb hby at_92) k) ?_
    show ORun p e below s _ _ _ T15 (mkF m 93 #[.val (.int p1), .val (.int p2), .val (.int p3), .val (.int p4), .val (.int p5), .val (.int p6), .val (.ref b1), .val (.ref b3), .val (.ref al), .unset, .unset, .unset] [(.int (5 : Int32))])
    refine own_newarray X15 hx hZ (aty := .int) (hw _ (List.mem_of_getElem? (i := 9) rfl)) rfl rfl (N := 5) (cap := 5) (by decide) (Nat.le_refl _) (by decide) (by decide) (by decide) (ad := "[I") (by decide) (hb hby at_93) ?_
    intro T55 h55 b55 L55 g55 X55 e55 E55 hL55 V55 Ex55
    have len55 : L55.length = 5 := by rw [hL55]; exact List.length_replicate
    have old_b55 : n0 ≤ b55 := Nat.le_trans (Nat.le_trans (Nat.le_trans (Nat.le_trans (Nat.le_trans (Nat.le_trans (Nat.le_trans (Nat.le_trans (Nat.le_trans (Nat.le_trans (Nat.le_trans (Nat.le_trans (Nat.le_trans (Nat.le_trans (Nat.le_trans (Nat.le_trans Z0 E1.1) K2.1) E3.1) (Keep.of_wr W4).1) (Keep.of_wr W5).1) (Keep.of_wr W6).1) (Keep.of_wr W7).1) (Keep.of_wr W8).1) K9.1) K10.1) K11.1) K12.1) K13.1) K14.1) K15.1) (Nat.le_of_eq g55.symm)
    have sz_b55 : h0.size ≤ b55 := Nat.le_trans (Nat.le_trans (Nat.le_trans (Nat.le_trans (Nat.le_trans (Nat.le_trans (Nat.le_trans (Nat.le_trans (Nat.le_trans (Nat.le_trans (Nat.le_trans (Nat.le_trans (Nat.le_trans (Nat.le_trans (Nat.le_trans (Nat.le_trans (Nat.le_refl h0.size) E1.1) K2.1) E3.1) (Keep.of_wr W4).1) (Keep.of_wr W5).1) (Keep.of_wr W6).1) (Keep.of_wr W7).1) (Keep.of_wr W8).1) K9.1) K10.1) K11.1) K12.1) K13.1) K14.1) K15.1) (Nat.le_of_eq g55.symm)
    have ne_de_b55 : de ≠ b55 := Nat.ne_of_lt (Nat.lt_of_lt_of_le (((((((((((((((Vd.ext E1).keep K2 (ninS ne_de_b1 nin0)).ext E3).other W4 ne_de_b3).other W5 ne_de_b3).other W6 ne_de_b3).other W7 ne_de_b3).other W8 ne_de_b3).keep K9 (ninS ne_de_pa (ninS ne_de_b3 nin0))).keep K10 (ninS ne_de_pa (ninS ne_de_b3 nin0))).keep K11 (ninS ne_de_pa (ninS ne_de_b3 nin0))).keep K12 (ninS ne_de_pa (ninS ne_de_b3 nin0))).keep K13 (ninS ne_de_pa (ninS ne_de_b3 nin0))).keep K14 (ninS ne_de_pa (ninS ne_de_b3 nin0))).keep K15 (ninS ne_de_pa nin0)).lt (Nat.le_of_eq g55.symm))
    have ne_b1_b55 : b1 ≠ b55 := Nat.ne_of_lt (Nat.lt_of_lt_of_le (((((((((((((Eq2.ext E3).wr W4).wr W5).wr W6).wr W7).wr W8).keep K9).keep K10).keep K11).keep K12).keep K13).keep K14).keep K15).lt (Nat.le_of_eq g55.symm))
    have ne_b3_b55 : b3 ≠ b55 := Nat.ne_of_lt (Nat.lt_of_lt_of_le (Vl14.keep K15 (ninS (Ne.symm ne_pa_b3) nin0)).lt (Nat.le_of_eq g55.symm))
    have ne_al_b55 : al ≠ b55 := Nat.ne_of_lt (Nat.lt_of_lt_of_le Eal15.lt (Nat.le_of_eq g55.symm))
    have ne_ed_b55 : ed ≠ b55 := Nat.ne_of_lt (Nat.lt_of_lt_of_le Ve.lt (Nat.le_of_eq g55.symm))
    have ne_gA_b55 : gA ≠ b55 := Nat.ne_of_lt (Nat.lt_of_lt_of_le VA.lt (Nat.le_of_eq g55.symm))
    have ne_gB_b55 : gB ≠ b55 := Nat.ne_of_lt (Nat.lt_of_lt_of_le VB.lt (Nat.le_of_eq g55.symm))
    show ORun p e below s _ _ _ T55 (mkF m 95 #[.val (.int p1), .val (.int p2), .val (.int p3), .val (.int p4), .val (.int p5), .val (.int p6), .val (.ref b1), .val (.ref b3), .val (.ref al), .unset, .unset, .unset] [(.ref b55)])
    subst hL55
    refine own_by (fun t k => XS.astore X55.here hx rfl (hb hby at_95) rfl rfl (l' := #[.val (.int p1), .val (.int p2), .val (.int p3), .val (.int p4), .val (.int p5), .val (.int p6), .val (.ref b1), .val (.ref b3), .val (.ref al), .val (.ref b55), .unset, .unset]) rfl k) ?_
    show ORun p e below s _ _ _ T55 (mkF m 97 #[.val (.int p1), .val (.int p2), .val (.int p3), .val (.int p4), .val (.int p5), .val (.int p6), .val (.ref b1), .val (.ref b3), .val (.ref al), .val (.ref b55), .unset, .unset] [])
    refine own_by (fun t k => XS.iconst X55.here hx rfl (hb hby at_97) k) ?_
    show ORun p e below s _ _ _ T55 (mkF m 98 #[.val (.int p1), .val (.int p2), .val (.int p3), .val (.int p4), .val (.int p5), .val (.int p6), .val (.ref b1), .val (.ref b3), .val (.ref al), .val (.ref b55), .unset, .unset] [(.int (0 : Int32))])
    refine own_by (fun t k => XS.istore X55.here hx rfl (hb hby at_98) rfl (l' := #[.val (.int p1), .val (.int p2), .val (.int p3), .val (.int p4), .val (.int p5), .val (.int p6), .val (.ref b1), .val (.ref b3), .val (.ref al), .val (.ref b55), .val (.int (0 : Int32)), .unset]) rfl k) ?_
    show ORun p e below s _ _ _ T55 (mkF m 100 #[.val (.int p1), .val (.int p2), .val (.int p3), .val (.int p4), .val (.int p5), .val (.int p6), .val (.ref b1), .val (.ref b3), .val (.ref al), .val (.ref b55), .val (.int (0 : Int32)), .unset] [])
    refine own_by (fun t k => XS.aload X55.here hx rfl (hb hby at_100) rfl rfl k) ?_
    show ORun p e below s _ _ _ T55 (mkF m 102 #[.val (.int p1), .val (.int p2), .val (.int p3), .val (.int p4), .val (.int p5), .val (.int p6), .val (.ref b1), .val (.ref b3), .val (.ref al), .val (.ref b55), .val (.int (0 : Int32)), .unset] [(.ref b3)])
    refine own_by (fun t k => XS.aload X55.here hx rfl (hb hby at_102) rfl rfl k) ?_
    show ORun p e below s _ _ _ T55 (mkF m 104 #[.val (.int p1), .val (.int p2), .val (.int p3), .val (.int p4), .val (.int p5), .val (.int p6), .val (.ref b1), .val (.ref b3), .val (.ref al), .val (.ref b55), .val (.int (0 : Int32)), .unset] [(.ref b55), (.ref b3)])
    refine own_by (fun t k => XS.iconst X55.here hx rfl (hb hby at_104) k) ?_
    show ORun p e below s _ _ _ T55 (mkF m 105 #[.val (.int p1), .val (.int p2), .val (.int p3), .val (.int p4), .val (.int p5), .val (.int p6), .val (.ref b1), .val (.ref b3), .val (.ref al), .val (.ref b55), .val (.int (0 : Int32)), .unset] [(.int (0 : Int32)), (.ref b55), (.ref b3)])
    refine own_by (fun t k => XS.iload X55.here hx rfl (hb hby at_105) rfl k) ?_
    show ORun p e below s _ _ _ T55 (mkF m 107 #[.val (.int p1), .val (.int p2), .val (.int p3), .val (.int p4), .val (.int p5), .val (.int p6), .val (.ref b1), .val (.ref b3), .val (.ref al), .val (.ref b55), .val (.int (0 : Int32)), .unset] [(.int (0 : Int32)), (.int (0 : Int32)), (.ref b55), (.ref b3)])
    refine own_callS X55 hx hZ hown (hw _ (List.mem_of_getElem? (i := 99) rfl)) (hw _ (List.mem_of_getElem? (i := 100) rfl)) (hw _ (List.mem_of_getElem? (i := 14) rfl)) (hw _ (List.mem_of_getElem? (i := 101) rfl)) (by decide) (rm17 l Z a0 hw [] h55 n0 (Nat.le_trans (Nat.le_trans (Nat.le_trans (Nat.le_trans (Nat.le_trans (Nat.le_trans (Nat.le_trans (Nat.le_trans (Nat.le_trans (Nat.le_trans (Nat.le_trans (Nat.le_trans (Nat.le_trans (Nat.le_trans (Nat.le_trans (Nat.le_trans Z0 E1.1) K2.1) E3.1) (Keep.of_wr W4).1) (Keep.of_wr W5).1) (Keep.of_wr W6).1) (Keep.of_wr W7).1) (Keep.of_wr W8).1) K9.1) K10.1) K11.1) K12.1) K13.1) K14.1) K15.1) E55.1) b3 b55 (0 : Int32) (0 : Int32) x14_0 x14_1 x14_2 x14_3 x14_4 (List.replicate 5 (0 : Int32)) ((Vl14.keep K15 (ninS (Ne.symm ne_pa_b3) nin0)).ext E55) V55 rfl old_b55 (by decide)) e55 (by decide) (W := 0) (by decide) (by decide) (by decide) (argsL := [(.ref b3), (.ref b55), (.int (0 : Int32)), (.int (0 : Int32))]) (rest := []) (by rw [hml]; rfl) (lenOf pd_17 rfl) rfl rfl (Nat.le_of_eq rfl) (hb hby at_107) ?_
    intro T56 L56 u56 X56 hQ56
    obtain ⟨rfl, Nq56, K56, Vq56⟩ := hQ56
    refine own_letI (f := fun z => (mkF m 110 #[.val (.int p1), .val (.int p2), .val (.int p3), .val (.int p4), .val (.int p5), .val (.int p6), .val (.ref b1), .val (.ref b3), .val (.ref al), .val (.ref b55), .val (.int (0 : Int32)), .unset] [(.int z)])) (own_rk [x14_0, x14_1, x14_2, x14_3, x14_4] (List.replicate 5 (0 : Int32)) (0 : Int32) (0 : Int32)).2 fun y56 hy56 => ?_
    obtain ⟨R56, hR56⟩ : ∃ z, z = (own_rk [x14_0, x14_1, x14_2, x14_3, x14_4] (List.replicate 5 (0 : Int32)) (0 : Int32) (0 : Int32)).1 := ⟨_, rfl⟩
    rw [← hR56] at Vq56
    have lR56 : R56.length = 5 := by rw [hR56]; exact own_rklen _ _ _ _ rfl
    have N56 := Fr.app N15 Nq56
    show ORun p e below s _ _ _ T56 (mkF m 110 #[.val (.int p1), .val (.int p2), .val (.int p3), .val (.int p4), .val (.int p5), .val (.int p6), .val (.ref b1), .val (.ref b3), .val (.ref al), .val (.ref b55), .val (.int (0 : Int32)), .unset] [(.int y56)])
    refine own_by (fun t k => XS.istore X56.here hx rfl (hb hby at_110) rfl (l' := #[.val (.int p1), .val (.int p2), .val (.int p3), .val (.int p4), .val (.int p5), .val (.int p6), .val (.ref b1), .val (.ref b3), .val (.ref al), .val (.ref b55), .val (.int y56), .unset]) rfl k) ?_
    show ORun p e below s _ _ _ T56 (mkF m 112 #[.val (.int p1), .val (.int p2), .val (.int p3), .val (.int p4), .val (.int p5), .val (.int p6), .val (.ref b1), .val (.ref b3), .val (.ref al), .val (.ref b55), .val (.int y56), .unset] [])
    refine own_by (fun t k => XS.aload X56.here hx rfl (hb hby at_112) rfl rfl k) ?_
    show ORun p e below s _ _ _ T56 (mkF m 114 #[.val (.int p1), .val (.int p2), .val (.int p3), .val (.int p4), .val (.int p5), .val (.int p6), .val (.ref b1), .val (.ref b3), .val (.ref al), .val (.ref b55), .val (.int y56), .unset] [(.ref b3)])
    refine own_by (fun t k => XS.aload X56.here hx rfl (hb hby at_114) rfl rfl k) ?_
    show ORun p e below s _ _ _ T56 (mkF m 116 #[.val (.int p1), .val (.int p2), .val (.int p3), .val (.int p4), .val (.int p5), .val (.int p6), .val (.ref b1), .val (.ref b3), .val (.ref al), .val (.ref b55), .val (.int y56), .unset] [(.ref b55), (.ref b3)])
    refine own_by (fun t k => XS.iconst X56.here hx rfl (hb hby at_116) k) ?_
    show ORun p e below s _ _ _ T56 (mkF m 117 #[.val (.int p1), .val (.int p2), .val (.int p3), .val (.int p4), .val (.int p5), .val (.int p6), .val (.ref b1), .val (.ref b3), .val (.ref al), .val (.ref b55), .val (.int y56), .unset] [(.int (1 : Int32)), (.ref b55), (.ref b3)])
    refine own_by (fun t k => XS.iload X56.here hx rfl (hb hby at_117) rfl k) ?_
    show ORun p e below s _ _ _ T56 (mkF m 119 #[.val (.int p1), .val (.int p2), .val (.int p3), .val (.int p4), .val (.int p5), .val (.int p6), .val (.ref b1), .val (.ref b3), .val (.ref al), .val (.ref b55), .val (.int y56), .unset] [(.int y56), (.int (1 : Int32)), (.ref b55), (.ref b3)])
    refine own_callS X56 hx hZ hown (hw _ (List.mem_of_getElem? (i := 99) rfl)) (hw _ (List.mem_of_getElem? (i := 100) rfl)) (hw _ (List.mem_of_getElem? (i := 14) rfl)) (hw _ (List.mem_of_getElem? (i := 101) rfl)) (by decide) (rm17 l Z a0 hw [] T56.heap n0 (Nat.le_trans (Nat.le_trans (Nat.le_trans (Nat.le_trans (Nat.le_trans (Nat.le_trans (Nat.le_trans (Nat.le_trans (Nat.le_trans (Nat.le_trans (Nat.le_trans (Nat.le_trans (Nat.le_trans (Nat.le_trans (Nat.le_trans (Nat.le_trans (Nat.le_trans Z0 E1.1) K2.1) E3.1) (Keep.of_wr W4).1) (Keep.of_wr W5).1) (Keep.of_wr W6).1) (Keep.of_wr W7).1) (Keep.of_wr W8).1) K9.1) K10.1) K11.1) K12.1) K13.1) K14.1) K15.1) E55.1) K56.1) b3 b55 (1 : Int32) y56 x14_0 x14_1 x14_2 x14_3 x14_4 R56 (((Vl14.keep K15 (ninS (Ne.symm ne_pa_b3) nin0)).ext E55).keep K56 (ninS ne_b3_b55 nin0)) Vq56 lR56 old_b55 (by decide)) rfl (by decide) (W := 0) (by decide) (by decide) (by decide) (argsL := [(.ref b3), (.ref b55), (.int (1 : Int32)), (.int y56)]) (rest := []) (by rw [hml]; rfl) (lenOf pd_17 rfl) rfl rfl (Nat.le_of_eq rfl) (hb hby at_119) ?_
    intro T57 L57 u57 X57 hQ57
    obtain ⟨rfl, Nq57, K57, Vq57⟩ := hQ57
    refine own_letI (f := fun z => (mkF m 122 #[.val (.int p1), .val (.int p2), .val (.int p3), .val (.int p4), .val (.int p5), .val (.int p6), .val (.ref b1), .val (.ref b3), .val (.ref al), .val (.ref b55), .val (.int y56), .unset] [(.int z)])) (own_rk [x14_0, x14_1, x14_2, x14_3, x14_4] R56 (1 : Int32) y56).2 fun y57 hy57 => ?_
    obtain ⟨R57, hR57⟩ : ∃ z, z = (own_rk [x14_0, x14_1, x14_2, x14_3, x14_4] R56 (1 : Int32) y56).1 := ⟨_, rfl⟩
    rw [← hR57] at Vq57
    have lR57 : R57.length = 5 := by rw [hR57]; exact own_rklen _ _ _ _ lR56
    have N57 := Fr.app N56 Nq57
    show ORun p e below s _ _ _ T57 (mkF m 122 #[.val (.int p1), .val (.int p2), .val (.int p3), .val (.int p4), .val (.int p5), .val (.int p6), .val (.ref b1), .val (.ref b3), .val (.ref al), .val (.ref b55), .val (.int y56), .unset] [(.int y57)])
    refine own_by (fun t k => XS.istore X57.here hx rfl (hb hby at_122) rfl (l' := #[.val (.int p1), .val (.int p2), .val (.int p3), .val (.int p4), .val (.int p5), .val (.int p6), .val (.ref b1), .val (.ref b3), .val (.ref al), .val (.ref b55), .val (.int y57), .unset]) rfl k) ?_
    show ORun p e below s _ _ _ T57 (mkF m 124 #[.val (.int p1), .val (.int p2), .val (.int p3), .val (.int p4), .val (.int p5), .val (.int p6), .val (.ref b1), .val (.ref b3), .val (.ref al), .val (.ref b55), .val (.int y57), .unset] [])
    refine own_by (fun t k => XS.aload X57.here hx rfl (hb hby at_124) rfl rfl k) ?_
    show ORun p e below s _ _ _ T57 (mkF m 126 #[.val (.int p1), .val (.int p2), .val (.int p3), .val (.int p4), .val (.int p5), .val (.int p6), .val (.ref b1), .val (.ref b3), .val (.ref al), .val (.ref b55), .val (.int y57), .unset] [(.ref b3)])
    refine own_by (fun t k => XS.aload X57.here hx rfl (hb hby at_126) rfl rfl k) ?_
    show ORun p e below s _ _ _ T57 (mkF m 128 #[.val (.int p1), .val (.int p2), .val (.int p3), .val (.int p4), .val (.int p5), .val (.int p6), .val (.ref b1), .val (.ref b3), .val (.ref al), .val (.ref b55), .val (.int y57), .unset] [(.ref b55), (.ref b3)])
    refine own_by (fun t k => XS.iconst X57.here hx rfl (hb hby at_128) k) ?_
    show ORun p e below s _ _ _ T57 (mkF m 129 #[.val (.int p1), .val (.int p2), .val (.int p3), .val (.int p4), .val (.int p5), .val (.int p6), .val (.ref b1), .val (.ref b3), .val (.ref al), .val (.ref b55), .val (.int y57), .unset] [(.int (2 : Int32)), (.ref b55), (.ref b3)])
    refine own_by (fun t k => XS.iload X57.here hx rfl (hb hby at_129) rfl k) ?_
    show ORun p e below s _ _ _ T57 (mkF m 131 #[.val (.int p1), .val (.int p2), .val (.int p3), .val (.int p4), .val (.int p5), .val (.int p6), .val (.ref b1), .val (.ref b3), .val (.ref al), .val (.ref b55), .val (.int y57), .unset] [(.int y57), (.int (2 : Int32)), (.ref b55), (.ref b3)])
    refine own_callS X57 hx hZ hown (hw _ (List.mem_of_getElem? (i := 99) rfl)) (hw _ (List.mem_of_getElem? (i := 100) rfl)) (hw _ (List.mem_of_getElem? (i := 14) rfl)) (hw _ (List.mem_of_getElem? (i := 101) rfl)) (by decide) (rm17 l Z a0 hw [] T57.heap n0 (Nat.le_trans (Nat.le_trans (Nat.le_trans (Nat.le_trans (Nat.le_trans (Nat.le_trans (Nat.le_trans (Nat.le_trans (Nat.le_trans (Nat.le_trans (Nat.le_trans (Nat.le_trans (Nat.le_trans (Nat.le_trans (Nat.le_trans (Nat.le_trans (Nat.le_trans (Nat.le_trans Z0 E1.1) K2.1) E3.1) (Keep.of_wr W4).1) (Keep.of_wr W5).1) (Keep.of_wr W6).1) (Keep.of_wr W7).1) (Keep.of_wr W8).1) K9.1) K10.1) K11.1) K12.1) K13.1) K14.1) K15.1) E55.1) K56.1) K57.1) b3 b55 (2 : Int32) y57 x14_0 x14_1 x14_2 x14_3 x14_4 R57 ((((Vl14.keep K15 (ninS (Ne.symm ne_pa_b3) nin0)).ext E55).keep K56 (ninS ne_b3_b55 nin0)).keep K57 (ninS ne_b3_b55 nin0)) Vq57 lR57 old_b55 (by decide)) rfl (by decide) (W := 0) (by decide) (by decide) (by decide) (argsL := [(.ref b3), (.ref b55), (.int (2 : Int32)), (.int y57)]) (rest := []) (by rw [hml]; rfl) (lenOf pd_17 rfl) rfl rfl (Nat.le_of_eq rfl) (hb hby at_131) ?_
    intro T58 L58 u58 X58 hQ58
    obtain ⟨rfl, Nq58, K58, Vq58⟩ := hQ58
    refine own_letI (f := fun z => (mkF m 134 #[.val (.int p1), .val (.int p2), .val (.int p3), .val (.int p4), .val (.int p5), .val (.int p6), .val (.ref b1), .val (.ref b3), .val (.ref al), .val (.ref b55), .val (.int y57), .unset] [(.int z)])) (own_rk [x14_0, x14_1, x14_2, x14_3, x14_4] R57 (2 : Int32) y57).2 fun y58 hy58 => ?_
    obtain ⟨R58, hR58⟩ : ∃ z, z = (own_rk [x14_0, x14_1, x14_2, x14_3, x14_4] R57 (2 : Int32) y57).1 := ⟨_, rfl⟩
    rw [← hR58] at Vq58
    have lR58 : R58.length = 5 := by rw [hR58]; exact own_rklen _ _ _ _ lR57
    have N58 := Fr.app N57 Nq58
    show ORun p e below s _ _ _ T58 (mkF m 134 #[.val (.int p1), .val (.int p2), .val (.int p3), .val (.int p4), .val (.int p5), .val (.int p6), .val (.ref b1), .val (.ref b3), .val (.ref al), .val (.ref b55), .val (.int y57), .unset] [(.int y58)])
    refine own_by (fun t k => XS.istore X58.here hx rfl (hb hby at_134) rfl (l' := #[.val (.int p1), .val (.int p2), .val (.int p3), .val (.int p4), .val (.int p5), .val (.int p6), .val (.ref b1), .val (.ref b3), .val (.ref al), .val (.ref b55), .val (.int y58), .unset]) rfl k) ?_
    show ORun p e below s _ _ _ T58 (mkF m 136 #[.val (.int p1), .val (.int p2), .val (.int p3), .val (.int p4), .val (.int p5), .val (.int p6), .val (.ref b1), .val (.ref b3), .val (.ref al), .val (.ref b55), .val (.int y58), .unset] [])
    refine own_by (fun t k => XS.aload X58.here hx rfl (hb hby at_136) rfl rfl k) ?_
    show ORun p e below s _ _ _ T58 (mkF m 138 #[.val (.int p1), .val (.int p2), .val (.int p3), .val (.int p4), .val (.int p5), .val (.int p6), .val (.ref b1), .val (.ref b3), .val (.ref al), .val (.ref b55), .val (.int y58), .unset] [(.ref b3)])
    refine own_by (fun t k => XS.aload X58.here hx rfl (hb hby at_138) rfl rfl k) ?_
    show ORun p e below s _ _ _ T58 (mkF m 140 #[.val (.int p1), .val (.int p2), .val (.int p3), .val (.int p4), .val (.int p5), .val (.int p6), .val (.ref b1), .val (.ref b3), .val (.ref al), .val (.ref b55), .val (.int y58), .unset] [(.ref b55), (.ref b3)])
    refine own_by (fun t k => XS.iconst X58.here hx rfl (hb hby at_140) k) ?_
    show ORun p e below s _ _ _ T58 (mkF m 141 #[.val (.int p1), .val (.int p2), .val (.int p3), .val (.int p4), .val (.int p5), .val (.int p6), .val (.ref b1), .val (.ref b3), .val (.ref al), .val (.ref b55), .val (.int y58), .unset] [(.int (3 : Int32)), (.ref b55), (.ref b3)])
    refine own_by (fun t k => XS.iload X58.here hx rfl (hb hby at_141) rfl k) ?_
    show ORun p e below s _ _ _ T58 (mkF m 143 #[.val (.int p1), .val (.int p2), .val (.int p3), .val (.int p4), .val (.int p5), .val (.int p6), .val (.ref b1), .val (.ref b3), .val (.ref al), .val (.ref b55), .val (.int y58), .unset] [(.int y58), (.int (3 : Int32)), (.ref b55), (.ref b3)])
    refine own_callS X58 hx hZ hown (hw _ (List.mem_of_getElem? (i := 99) rfl)) (hw _ (List.mem_of_getElem? (i := 100) rfl)) (hw _ (List.mem_of_getElem? (i := 14) rfl)) (hw _ (List.mem_of_getElem? (i := 101) rfl)) (by decide) (rm17 l Z a0 hw [] T58.heap n0 (Nat.le_trans (Nat.le_trans (Nat.le_trans (Nat.le_trans (Nat.le_trans (Nat.le_trans (Nat.le_trans (Nat.le_trans (Nat.le_trans (Nat.le_trans (Nat.le_trans (Nat.le_trans (Nat.le_trans (Nat.le_trans (Nat.le_trans (Nat.le_trans (Nat.le_trans (Nat.le_trans (Nat.le_trans Z0 E1.1) K2.1) E3.1) (Keep.of_wr W4).1) (Keep.of_wr W5).1) (Keep.of_wr W6).1) (Keep.of_wr W7).1) (Keep.of_wr W8).1) K9.1) K10.1) K11.1) K12.1) K13.1) K14.1) K15.1) E55.1) K56.1) K57.1) K58.1) b3 b55 (3 : Int32) y58 x14_0 x14_1 x14_2 x14_3 x14_4 R58 (((((Vl14.keep K15 (ninS (Ne.symm ne_pa_b3) nin0)).ext E55).keep K56 (ninS ne_b3_b55 nin0)).keep K57 (ninS ne_b3_b55 nin0)).keep K58 (ninS ne_b3_b55 nin0)) Vq58 lR58 old_b55 (by decide)) rfl (by decide) (W := 0) (by decide) (by decide) (by decide) (argsL := [(.ref b3), (.ref b55), (.int (3 : Int32)), (.int y58)]) (rest := []) (by rw [hml]; rfl) (lenOf pd_17 rfl) rfl rfl (Nat.le_of_eq rfl) (hb hby at_143) ?_
    intro T59 L59 u59 X59 hQ59
    obtain ⟨rfl, Nq59, K59, Vq59⟩ := hQ59
    refine own_letI (f := fun z => (mkF m 146 #[.val (.int p1), .val (.int p2), .val (.int p3), .val (.int p4), .val (.int p5), .val (.int p6), .val (.ref b1), .val (.ref b3), .val (.ref al), .val (.ref b55), .val (.int y58), .unset] [(.int z)])) (own_rk [x14_0, x14_1, x14_2, x14_3, x14_4] R58 (3 : Int32) y58).2 fun y59 hy59 => ?_
    obtain ⟨R59, hR59⟩ : ∃ z, z = (own_rk [x14_0, x14_1, x14_2, x14_3, x14_4] R58 (3 : Int32) y58).1 := ⟨_, rfl⟩
    rw [← hR59] at Vq59
    have lR59 : R59.length = 5 := by rw [hR59]; exact own_rklen _ _ _ _ lR58
    have N59 := Fr.app N58 Nq59
    show ORun p e below s _ _ _ T59 (mkF m 146 #[.val (.int p1), .val (.int p2), .val (.int p3), .val (.int p4), .val (.int p5), .val (.int p6), .val (.ref b1), .val (.ref b3), .val (.ref al), .val (.ref b55), .val (.int y58), .unset] [(.int y59)])
    refine own_by (fun t k => XS.istore X59.here hx rfl (hb hby at_146) rfl (l' := #[.val (.int p1), .val (.int p2), .val (.int p3), .val (.int p4), .val (.int p5), .val (.int p6), .val (.ref b1), .val (.ref b3), .val (.ref al), .val (.ref b55), .val (.int y59), .unset]) rfl k) ?_
    show ORun p e below s _ _ _ T59 (mkF m 148 #[.val (.int p1), .val (.int p2), .val (.int p3), .val (.int p4), .val (.int p5), .val (.int p6), .val (.ref b1), .val (.ref b3), .val (.ref al), .val (.ref b55), .val (.int y59), .unset] [])
    refine own_by (fun t k => XS.aload X59.here hx rfl (hb hby at_148) rfl rfl k) ?_
    show ORun p e below s _ _ _ T59 (mkF m 150 #[.val (.int p1), .val (.int p2), .val (.int p3), .val (.int p4), .val (.int p5), .val (.int p6), .val (.ref b1), .val (.ref b3), .val (.ref al), .val (.ref b55), .val (.int y59), .unset] [(.ref b3)])
    refine own_by (fun t k => XS.aload X59.here hx rfl (hb hby at_150) rfl rfl k) ?_
    show ORun p e below s _ _ _ T59 (mkF m 152 #[.val (.int p1), .val (.int p2), .val (.int p3), .val (.int p4), .val (.int p5), .val (.int p6), .val (.ref b1), .val (.ref b3), .val (.ref al), .val (.ref b55), .val (.int y59), .unset] [(.ref b55), (.ref b3)])
    refine own_by (fun t k => XS.iconst X59.here hx rfl (hb hby at_152) k) ?_
    show ORun p e below s _ _ _ T59 (mkF m 153 #[.val (.int p1), .val (.int p2), .val (.int p3), .val (.int p4), .val (.int p5), .val (.int p6), .val (.ref b1), .val (.ref b3), .val (.ref al), .val (.ref b55), .val (.int y59), .unset] [(.int (4 : Int32)), (.ref b55), (.ref b3)])
    refine own_by (fun t k => XS.iload X59.here hx rfl (hb hby at_153) rfl k) ?_
    show ORun p e below s _ _ _ T59 (mkF m 155 #[.val (.int p1), .val (.int p2), .val (.int p3), .val (.int p4), .val (.int p5), .val (.int p6), .val (.ref b1), .val (.ref b3), .val (.ref al), .val (.ref b55), .val (.int y59), .unset] [(.int y59), (.int (4 : Int32)), (.ref b55), (.ref b3)])
    refine own_callS X59 hx hZ hown (hw _ (List.mem_of_getElem? (i := 99) rfl)) (hw _ (List.mem_of_getElem? (i := 100) rfl)) (hw _ (List.mem_of_getElem? (i := 14) rfl)) (hw _ (List.mem_of_getElem? (i := 101) rfl)) (by decide) (rm17 l Z a0 hw [] T59.heap n0 (Nat.le_trans (Nat.le_trans (Nat.le_trans (Nat.le_trans (Nat.le_trans (Nat.le_trans (Nat.le_trans (Nat.le_trans (Nat.le_trans (Nat.le_trans (Nat.le_trans (Nat.le_trans (Nat.le_trans (Nat.le_trans (Nat.le_trans (Nat.le_trans (Nat.le_trans (Nat.le_trans (Nat.le_trans (Nat.le_trans Z0 E1.1) K2.1) E3.1) (Keep.of_wr W4).1) (Keep.of_wr W5).1) (Keep.of_wr W6).1) (Keep.of_wr W7).1) (Keep.of_wr W8).1) K9.1) K10.1) K11.1) K12.1) K13.1) K14.1) K15.1) E55.1) K56.1) K57.1) K58.1) K59.1) b3 b55 (4 : Int32) y59 x14_0 x14_1 x14_2 x14_3 x14_4 R59 ((((((Vl14.keep K15 (ninS (Ne.symm ne_pa_b3) nin0)).ext E55).keep K56 (ninS ne_b3_b55 nin0)).keep K57 (ninS ne_b3_b55 nin0)).keep K58 (ninS ne_b3_b55 nin0)).keep K59 (ninS ne_b3_b55 nin0)) Vq59 lR59 old_b55 (by decide)) rfl (by decide) (W := 0) (by decide) (by decide) (by decide) (argsL := [(.ref b3), (.ref b55), (.int (4 : Int32)), (.int y59)]) (rest := []) (by rw [hml]; rfl) (lenOf pd_17 rfl) rfl rfl (Nat.le_of_eq rfl) (hb hby at_155) ?_
    intro T60 L60 u60 X60 hQ60
    obtain ⟨rfl, Nq60, K60, Vq60⟩ := hQ60
    refine own_letI (f := fun z => (mkF m 158 #[.val (.int p1), .val (.int p2), .val (.int p3), .val (.int p4), .val (.int p5), .val (.int p6), .val (.ref b1), .val (.ref b3), .val (.ref al), .val (.ref b55), .val (.int y59), .unset] [(.int z)])) (own_rk [x14_0, x14_1, x14_2, x14_3, x14_4] R59 (4 : Int32) y59).2 fun y60 hy60 => ?_
    obtain ⟨R60, hR60⟩ : ∃ z, z = (own_rk [x14_0, x14_1, x14_2, x14_3, x14_4] R59 (4 : Int32) y59).1 := ⟨_, rfl⟩
    rw [← hR60] at Vq60
    have lR60 : R60.length = 5 := by rw [hR60]; exact own_rklen _ _ _ _ lR59
    have N60 := Fr.app N59 Nq60
    show ORun p e below s _ _ _ T60 (mkF m 158 #[.val (.int p1), .val (.int p2), .val (.int p3), .val (.int p4), .val (.int p5), .val (.int p6), .val (.ref b1), .val (.ref b3), .val (.ref al), .val (.ref b55), .val (.int y59), .unset] [(.int y60)])
    refine own_by (fun t k => XS.istore X60.here hx rfl (hb hby at_158) rfl (l' := #[.val (.int p1), .val (.int p2), .val (.int p3), .val (.int p4), .val (.int p5), .val (.int p6), .val (.ref b1), .val (.ref b3), .val (.ref al), .val (.ref b55), .val (.int y60), .unset]) rfl k) ?_
    show ORun p e below s _ _ _ T60 (mkF m 160 #[.val (.int p1), .val (.int p2), .val (.int p3), .val (.int p4), .val (.int p5), .val (.int p6), .val (.ref b1), .val (.ref b3), .val (.ref al), .val (.ref b55), .val (.int y60), .unset] [])
    have eRR : R60 = (own_R [x14_0, x14_1, x14_2, x14_3, x14_4]).1 := by rw [hR60, hR59, hy59, hR58, hy58, hR57, hy57, hR56, hy56]; rfl
    have eRc : y60 = (2 : Int32) := by rw [← hRn, hy60, hR59, hy59, hR58, hy58, hR57, hy57, hR56, hy56]; rfl
    subst eRc
    show ORun p e below s _ _ _ T60 (mkF m 160 #[.val (.int p1), .val (.int p2), .val (.int p3), .val (.int p4), .val (.int p5), .val (.int p6), .val (.ref b1), .val (.ref b3), .val (.ref al), .val (.ref b55), .val (.int (2 : Int32)), .unset] [])
    refine own_by (fun t k => XS.aload X60.here hx rfl (hb hby at_160) rfl rfl k) ?_
    show ORun p e below s _ _ _ T60 (mkF m 162 #[.val (.int p1), .val (.int p2), .val (.int p3), .val (.int p4), .val (.int p5), .val (.int p6), .val (.ref b1), .val (.ref b3), .val (.ref al), .val (.ref b55), .val (.int (2 : Int32)), .unset] [(.ref al)])
    refine own_callI X60 hx hZ hown ((((((Eal15.ext E55).keep K56).keep K57).keep K58).keep K59).keep K60) (hw _ (List.mem_of_getElem? (i := 108) rfl)) (hw _ (List.mem_of_getElem? (i := 109) rfl)) (hw _ (List.mem_of_getElem? (i := 110) rfl)) (by first | rfl | simp [Cond.onTables, Cond.keepsFace, Cond.keeps, Cond.steady]) (hw _ (List.mem_of_getElem? (i := 111) rfl)) (hw _ (List.mem_of_getElem? (i := 112) rfl)) (hw _ (List.mem_of_getElem? (i := 113) rfl)) (hw _ (List.mem_of_getElem? (i := 114) rfl)) (hw _ (List.mem_of_getElem? (i := 71) rfl)) (hw _ (List.mem_of_getElem? (i := 39) rfl)) (hw _ (List.mem_of_getElem? (i := 115) rfl)) (by decide) (rm20 l Z a0 hw [] T60.heap n0 (Nat.le_trans (Nat.le_trans (Nat.le_trans (Nat.le_trans (Nat.le_trans (Nat.le_trans (Nat.le_trans (Nat.le_trans (Nat.le_trans (Nat.le_trans (Nat.le_trans (Nat.le_trans (Nat.le_trans (Nat.le_trans (Nat.le_trans (Nat.le_trans (Nat.le_trans (Nat.le_trans (Nat.le_trans (Nat.le_trans (Nat.le_trans Z0 E1.1) K2.1) E3.1) (Keep.of_wr W4).1) (Keep.of_wr W5).1) (Keep.of_wr W6).1) (Keep.of_wr W7).1) (Keep.of_wr W8).1) K9.1) K10.1) K11.1) K12.1) K13.1) K14.1) K15.1) E55.1) K56.1) K57.1) K58.1) K59.1) K60.1) al (2 : Int32) ((((((Fs.ext E55).keep K56 (ninS ne_al_b55 nin0)).keep K57 (ninS ne_al_b55 nin0)).keep K58 (ninS ne_al_b55 nin0)).keep K59 (ninS ne_al_b55 nin0)).keep K60 (ninS ne_al_b55 nin0))) rfl (by decide) (W := 0) (by decide) (by decide) (by decide) (argsL := []) (rest := []) (by rw [hml]; rfl) (lenOf pd_18 rfl) rfl rfl (Nat.le_of_eq rfl) (hb hby at_162) ?_
    intro T61 L61 u61 X61 hQ61
    obtain ⟨rfl, Nq61, e61⟩ := hQ61
    have N61 := Fr.app N60 Nq61
    show ORun p e below s _ _ _ T61 (mkF m 167 #[.val (.int p1), .val (.int p2), .val (.int p3), .val (.int p4), .val (.int p5), .val (.int p6), .val (.ref b1), .val (.ref b3), .val (.ref al), .val (.ref b55), .val (.int (2 : Int32)), .unset] [(.int (2 : Int32))])
    refine own_by (fun t k => XS.iload X61.here hx rfl (hb hby at_167) rfl k) ?_
    show ORun p e below s _ _ _ T61 (mkF m 169 #[.val (.int p1), .val (.int p2), .val (.int p3), .val (.int p4), .val (.int p5), .val (.int p6), .val (.ref b1), .val (.ref b3), .val (.ref al), .val (.ref b55), .val (.int (2 : Int32)), .unset] [(.int (2 : Int32)), (.int (2 : Int32))])
    refine own_by (fun t k => XS.icmpYes X61.here hx rfl (pc0 := 169) (pc' := 174) rfl (hb hby at_169) rfl (teq (by decide)).1 (by decide) (by decide) k) ?_
    show ORun p e below s _ _ _ T61 (mkF m 174 #[.val (.int p1), .val (.int p2), .val (.int p3), .val (.int p4), .val (.int p5), .val (.int p6), .val (.ref b1), .val (.ref b3), .val (.ref al), .val (.ref b55), .val (.int (2 : Int32)), .unset] [])
    refine own_by (fun t k => XS.iconst X61.here hx rfl (hb hby at_174) k) ?_
    show ORun p e below s _ _ _ T61 (mkF m 175 #[.val (.int p1), .val (.int p2), .val (.int p3), .val (.int p4), .val (.int p5), .val (.int p6), .val (.ref b1), .val (.ref b3), .val (.ref al), .val (.ref b55), .val (.int (2 : Int32)), .unset] [(.int (5 : Int32))])
    refine own_newarray X61 hx hZ (aty := .int) (hw _ (List.mem_of_getElem? (i := 9) rfl)) e61 rfl (N := 5) (cap := 5) (by decide) (Nat.le_refl _) (by decide) (by decide) (by decide) (ad := "[I") (by decide) (hb hby at_175) ?_
    intro T62 h62 b62 L62 g62 X62 e62 E62 hL62 V62 Ex62
    have len62 : L62.length = 5 := by rw [hL62]; exact List.length_replicate
    have old_b62 : n0 ≤ b62 := Nat.le_trans (Nat.le_trans (Nat.le_trans (Nat.le_trans (Nat.le_trans (Nat.le_trans (Nat.le_trans (Nat.le_trans (Nat.le_trans (Nat.le_trans (Nat.le_trans (Nat.le_trans (Nat.le_trans (Nat.le_trans (Nat.le_trans (Nat.le_trans (Nat.le_trans (Nat.le_trans (Nat.le_trans (Nat.le_trans (Nat.le_trans (Nat.le_trans Z0 E1.1) K2.1) E3.1) (Keep.of_wr W4).1) (Keep.of_wr W5).1) (Keep.of_wr W6).1) (Keep.of_wr W7).1) (Keep.of_wr W8).1) K9.1) K10.1) K11.1) K12.1) K13.1) K14.1) K15.1) E55.1) K56.1) K57.1) K58.1) K59.1) K60.1) (Nat.le_of_eq g62.symm)
    have sz_b62 : h0.size ≤ b62 := Nat.le_trans (Nat.le_trans (Nat.le_trans (Nat.le_trans (Nat.le_trans (Nat.le_trans (Nat.le_trans (Nat.le_trans (Nat.le_trans (Nat.le_trans (Nat.le_trans (Nat.le_trans (Nat.le_trans (Nat.le_trans (Nat.le_trans (Nat.le_trans (Nat.le_trans (Nat.le_trans (Nat.le_trans (Nat.le_trans (Nat.le_trans (Nat.le_trans (Nat.le_refl h0.size) E1.1) K2.1) E3.1) (Keep.of_wr W4).1) (Keep.of_wr W5).1) (Keep.of_wr W6).1) (Keep.of_wr W7).1) (Keep.of_wr W8).1) K9.1) K10.1) K11.1) K12.1) K13.1) K14.1) K15.1) E55.1) K56.1) K57.1) K58.1) K59.1) K60.1) (Nat.le_of_eq g62.symm)
    have ne_de_b62 : de ≠ b62 := Nat.ne_of_lt (Nat.lt_of_lt_of_le (((((((((((((((((((((Vd.ext E1).keep K2 (ninS ne_de_b1 nin0)).ext E3).other W4 ne_de_b3).other W5 ne_de_b3).other W6 ne_de_b3).other W7 ne_de_b3).other W8 ne_de_b3).keep K9 (ninS ne_de_pa (ninS ne_de_b3 nin0))).keep K10 (ninS ne_de_pa (ninS ne_de_b3 nin0))).keep K11 (ninS ne_de_pa (ninS ne_de_b3 nin0))).keep K12 (ninS ne_de_pa (ninS ne_de_b3 nin0))).keep K13 (ninS ne_de_pa (ninS ne_de_b3 nin0))).keep K14 (ninS ne_de_pa (ninS ne_de_b3 nin0))).keep K15 (ninS ne_de_pa nin0)).ext E55).keep K56 (ninS ne_de_b55 nin0)).keep K57 (ninS ne_de_b55 nin0)).keep K58 (ninS ne_de_b55 nin0)).keep K59 (ninS ne_de_b55 nin0)).keep K60 (ninS ne_de_b55 nin0)).lt (Nat.le_of_eq g62.symm))
    have ne_b1_b62 : b1 ≠ b62 := Nat.ne_of_lt (Nat.lt_of_lt_of_le (((((((((((((((((((Eq2.ext E3).wr W4).wr W5).wr W6).wr W7).wr W8).keep K9).keep K10).keep K11).keep K12).keep K13).keep K14).keep K15).ext E55).keep K56).keep K57).keep K58).keep K59).keep K60).lt (Nat.le_of_eq g62.symm))
    have ne_b3_b62 : b3 ≠ b62 := Nat.ne_of_lt (Nat.lt_of_lt_of_le (((((((Vl14.keep K15 (ninS (Ne.symm ne_pa_b3) nin0)).ext E55).keep K56 (ninS ne_b3_b55 nin0)).keep K57 (ninS ne_b3_b55 nin0)).keep K58 (ninS ne_b3_b55 nin0)).keep K59 (ninS ne_b3_b55 nin0)).keep K60 (ninS ne_b3_b55 nin0)).lt (Nat.le_of_eq g62.symm))
    have ne_al_b62 : al ≠ b62 := Nat.ne_of_lt (Nat.lt_of_lt_of_le ((((((Eal15.ext E55).keep K56).keep K57).keep K58).keep K59).keep K60).lt (Nat.le_of_eq g62.symm))
    have ne_ed_b62 : ed ≠ b62 := Nat.ne_of_lt (Nat.lt_of_lt_of_le ((((((Ve.ext E55).keep K56 (ninS ne_ed_b55 nin0)).keep K57 (ninS ne_ed_b55 nin0)).keep K58 (ninS ne_ed_b55 nin0)).keep K59 (ninS ne_ed_b55 nin0)).keep K60 (ninS ne_ed_b55 nin0)).lt (Nat.le_of_eq g62.symm))
    have ne_gA_b62 : gA ≠ b62 := Nat.ne_of_lt (Nat.lt_of_lt_of_le ((((((VA.ext E55).keep K56 (ninS ne_gA_b55 nin0)).keep K57 (ninS ne_gA_b55 nin0)).keep K58 (ninS ne_gA_b55 nin0)).keep K59 (ninS ne_gA_b55 nin0)).keep K60 (ninS ne_gA_b55 nin0)).lt (Nat.le_of_eq g62.symm))
    have ne_gB_b62 : gB ≠ b62 := Nat.ne_of_lt (Nat.lt_of_lt_of_le ((((((VB.ext E55).keep K56 (ninS ne_gB_b55 nin0)).keep K57 (ninS ne_gB_b55 nin0)).keep K58 (ninS ne_gB_b55 nin0)).keep K59 (ninS ne_gB_b55 nin0)).keep K60 (ninS ne_gB_b55 nin0)).lt (Nat.le_of_eq g62.symm))
    have ne_b55_b62 : b55 ≠ b62 := Nat.ne_of_lt (Nat.lt_of_lt_of_le Vq60.lt (Nat.le_of_eq g62.symm))
    show ORun p e below s _ _ _ T62 (mkF m 177 #[.val (.int p1), .val (.int p2), .val (.int p3), .val (.int p4), .val (.int p5), .val (.int p6), .val (.ref b1), .val (.ref b3), .val (.ref al), .val (.ref b55), .val (.int (2 : Int32)), .unset] [(.ref b62)])
    subst hL62
    refine own_by (fun t k => XS.astore X62.here hx rfl (hb hby at_177) rfl rfl (l' := #[.val (.int p1), .val (.int p2), .val (.int p3), .val (.int p4), .val (.int p5), .val (.int p6), .val (.ref b1), .val (.ref b3), .val (.ref al), .val (.ref b55), .val (.int (2 : Int32)), .val (.ref b62)]) rfl k) ?_
    show ORun p e below s _ _ _ T62 (mkF m 179 #[.val (.int p1), .val (.int p2), .val (.int p3), .val (.int p4), .val (.int p5), .val (.int p6), .val (.ref b1), .val (.ref b3), .val (.ref al), .val (.ref b55), .val (.int (2 : Int32)), .val (.ref b62)] [])
    refine own_by (fun t k => XS.iload X62.here hx rfl (hb hby at_179) rfl k) ?_
    show ORun p e below s _ _ _ T62 (mkF m 181 #[.val (.int p1), .val (.int p2), .val (.int p3), .val (.int p4), .val (.int p5), .val (.int p6), .val (.ref b1), .val (.ref b3), .val (.ref al), .val (.ref b55), .val (.int (2 : Int32)), .val (.ref b62)] [(.int (2 : Int32))])
    refine own_by (fun t k => XS.iconst X62.here hx rfl (hb hby at_181) k) ?_
    show ORun p e below s _ _ _ T62 (mkF m 182 #[.val (.int p1), .val (.int p2), .val (.int p3), .val (.int p4), .val (.int p5), .val (.int p6), .val (.ref b1), .val (.ref b3), .val (.ref al), .val (.ref b55), .val (.int (2 : Int32)), .val (.ref b62)] [(.int (1 : Int32)), (.int (2 : Int32))])
    refine own_by (fun t k => XS.icmpNo X62.here hx rfl (hb hby at_182) rfl (flt (by decide)).1 k) ?_
    show ORun p e below s _ _ _ T62 (mkF m 185 #[.val (.int p1), .val (.int p2), .val (.int p3), .val (.int p4), .val (.int p5), .val (.int p6), .val (.ref b1), .val (.ref b3), .val (.ref al), .val (.ref b55), .val (.int (2 : Int32)), .val (.ref b62)] [])
    refine own_by (fun t k => XS.aload X62.here hx rfl (hb hby at_185) rfl rfl k) ?_
    show ORun p e below s _ _ _ T62 (mkF m 187 #[.val (.int p1), .val (.int p2), .val (.int p3), .val (.int p4), .val (.int p5), .val (.int p6), .val (.ref b1), .val (.ref b3), .val (.ref al), .val (.ref b55), .val (.int (2 : Int32)), .val (.ref b62)] [(.ref b62)])
    refine own_by (fun t k => XS.aload X62.here hx rfl (hb hby at_187) rfl rfl k) ?_
    show ORun p e below s _ _ _ T62 (mkF m 189 #[.val (.int p1), .val (.int p2), .val (.int p3), .val (.int p4), .val (.int p5), .val (.int p6), .val (.ref b1), .val (.ref b3), .val (.ref al), .val (.ref b55), .val (.int (2 : Int32)), .val (.ref b62)] [(.ref al), (.ref b62)])
    refine own_by (fun t k => XS.iconst X62.here hx rfl (hb hby at_189) k) ?_
    show ORun p e below s _ _ _ T62 (mkF m 190 #[.val (.int p1), .val (.int p2), .val (.int p3), .val (.int p4), .val (.int p5), .val (.int p6), .val (.ref b1), .val (.ref b3), .val (.ref al), .val (.ref b55), .val (.int (2 : Int32)), .val (.ref b62)] [(.int (0 : Int32)), (.ref al), (.ref b62)])
    refine own_callI X62 hx hZ hown (((((((Eal15.ext E55).keep K56).keep K57).keep K58).keep K59).keep K60).ext E62) (hw _ (List.mem_of_getElem? (i := 116) rfl)) (hw _ (List.mem_of_getElem? (i := 117) rfl)) (hw _ (List.mem_of_getElem? (i := 118) rfl)) (by first | rfl | simp [Cond.onTables, Cond.keepsFace, Cond.keeps, Cond.steady]) (hw _ (List.mem_of_getElem? (i := 119) rfl)) (hw _ (List.mem_of_getElem? (i := 120) rfl)) (hw _ (List.mem_of_getElem? (i := 121) rfl)) (hw _ (List.mem_of_getElem? (i := 122) rfl)) (hw _ (List.mem_of_getElem? (i := 71) rfl)) (hw _ (List.mem_of_getElem? (i := 39) rfl)) (hw _ (List.mem_of_getElem? (i := 123) rfl)) (by decide) (rm21 l Z a0 hw [] h62 n0 (Nat.le_trans (Nat.le_trans (Nat.le_trans (Nat.le_trans (Nat.le_trans (Nat.le_trans (Nat.le_trans (Nat.le_trans (Nat.le_trans (Nat.le_trans (Nat.le_trans (Nat.le_trans (Nat.le_trans (Nat.le_trans (Nat.le_trans (Nat.le_trans (Nat.le_trans (Nat.le_trans (Nat.le_trans (Nat.le_trans (Nat.le_trans (Nat.le_trans Z0 E1.1) K2.1) E3.1) (Keep.of_wr W4).1) (Keep.of_wr W5).1) (Keep.of_wr W6).1) (Keep.of_wr W7).1) (Keep.of_wr W8).1) K9.1) K10.1) K11.1) K12.1) K13.1) K14.1) K15.1) E55.1) K56.1) K57.1) K58.1) K59.1) K60.1) E62.1) al ed gA (0 : Int32) (2 : Int32) [.ref gA, .ref gB, .null, .null, .null, .null, .null, .null, .null, .null] (((((((Eal15.ext E55).keep K56).keep K57).keep K58).keep K59).keep K60).ext E62) (((((((Fs.ext E55).keep K56 (ninS ne_al_b55 nin0)).keep K57 (ninS ne_al_b55 nin0)).keep K58 (ninS ne_al_b55 nin0)).keep K59 (ninS ne_al_b55 nin0)).keep K60 (ninS ne_al_b55 nin0)).ext E62) (((((((Fe.ext E55).keep K56 (ninS ne_al_b55 nin0)).keep K57 (ninS ne_al_b55 nin0)).keep K58 (ninS ne_al_b55 nin0)).keep K59 (ninS ne_al_b55 nin0)).keep K60 (ninS ne_al_b55 nin0)).ext E62) (((((((Ve.ext E55).keep K56 (ninS ne_ed_b55 nin0)).keep K57 (ninS ne_ed_b55 nin0)).keep K58 (ninS ne_ed_b55 nin0)).keep K59 (ninS ne_ed_b55 nin0)).keep K60 (ninS ne_ed_b55 nin0)).ext E62) rfl (by decide)) e62 (by decide) (W := 1) (by decide) (by decide) (by decide) (argsL := [(.int (0 : Int32))]) (rest := [(.ref b62)]) (by rw [hml]; rfl) (lenOf pd_10 rfl) rfl rfl (Nat.le_of_eq rfl) (hb hby at_190) ?_
    intro T63 L63 u63 X63 hQ63
    obtain ⟨rfl, Nq63, e63⟩ := hQ63
    have N63 := Fr.app N61 Nq63
    show ORun p e below s _ _ _ T63 (mkF m 195 #[.val (.int p1), .val (.int p2), .val (.int p3), .val (.int p4), .val (.int p5), .val (.int p6), .val (.ref b1), .val (.ref b3), .val (.ref al), .val (.ref b55), .val (.int (2 : Int32)), .val (.ref b62)] [(.ref gA), (.ref b62)])
    obtain ⟨T64, X64, e64, st64⟩ := castY X63 hx hZ hown (hw _ (List.mem_of_getElem? (i := 137) rfl)) e63 (Ins.self (((((((EA.ext E55).keep K56).keep K57).keep K58).keep K59).keep K60).ext E62)) (g := (mkF m 195 #[.val (.int p1), .val (.int p2), .val (.int p3), .val (.int p4), .val (.int p5), .val (.int p6), .val (.ref b1), .val (.ref b3), .val (.ref al), .val (.ref b55), .val (.int (2 : Int32)), .val (.ref b62)] [(.ref gA), (.ref b62)])) rfl rfl (hb hby at_195)
    refine own_by st64 ?_
    show ORun p e below s _ _ _ T64 (mkF m 198 #[.val (.int p1), .val (.int p2), .val (.int p3), .val (.int p4), .val (.int p5), .val (.int p6), .val (.ref b1), .val (.ref b3), .val (.ref al), .val (.ref b55), .val (.int (2 : Int32)), .val (.ref b62)] [(.ref gA), (.ref b62)])
    refine own_by (fun t k => XS.iconst X64.here hx rfl (hb hby at_198) k) ?_
    show ORun p e below s _ _ _ T64 (mkF m 199 #[.val (.int p1), .val (.int p2), .val (.int p3), .val (.int p4), .val (.int p5), .val (.int p6), .val (.ref b1), .val (.ref b3), .val (.ref al), .val (.ref b55), .val (.int (2 : Int32)), .val (.ref b62)] [(.int (1 : Int32)), (.ref gA), (.ref b62)])
    refine own_callS X64 hx hZ hown (hw _ (List.mem_of_getElem? (i := 138) rfl)) (hw _ (List.mem_of_getElem? (i := 139) rfl)) (hw _ (List.mem_of_getElem? (i := 14) rfl)) (hw _ (List.mem_of_getElem? (i := 140) rfl)) (by decide) (rm25 l Z a0 hw [] h62 n0 (Nat.le_trans (Nat.le_trans (Nat.le_trans (Nat.le_trans (Nat.le_trans (Nat.le_trans (Nat.le_trans (Nat.le_trans (Nat.le_trans (Nat.le_trans (Nat.le_trans (Nat.le_trans (Nat.le_trans (Nat.le_trans (Nat.le_trans (Nat.le_trans (Nat.le_trans (Nat.le_trans (Nat.le_trans (Nat.le_trans (Nat.le_trans (Nat.le_trans Z0 E1.1) K2.1) E3.1) (Keep.of_wr W4).1) (Keep.of_wr W5).1) (Keep.of_wr W6).1) (Keep.of_wr W7).1) (Keep.of_wr W8).1) K9.1) K10.1) K11.1) K12.1) K13.1) K14.1) K15.1) E55.1) K56.1) K57.1) K58.1) K59.1) K60.1) E62.1) b62 gA (1 : Int32) m0.length (List.replicate 5 (0 : Int32)) m0 V62 rfl old_b62 (((((((VA.ext E55).keep K56 (ninS ne_gA_b55 nin0)).keep K57 (ninS ne_gA_b55 nin0)).keep K58 (ninS ne_gA_b55 nin0)).keep K59 (ninS ne_gA_b55 nin0)).keep K60 (ninS ne_gA_b55 nin0)).ext E62) rfl (own_okmD okA).1 ne_gA_b62 ((own_okmD okA).2 0 (by decide)) ((own_okmD okA).2 1 (by decide)) ((own_okmD okA).2 2 (by decide)) ((own_okmD okA).2 3 (by decide)) ((own_okmD okA).2 4 (by decide))) e64 (by decide) (W := 0) (by decide) (by decide) (by decide) (argsL := [(.ref b62), (.ref gA), (.int (1 : Int32))]) (rest := []) (by rw [hml]; rfl) (lenOf pd_20 rfl) rfl rfl (Nat.le_of_eq rfl) (hb hby at_199) ?_
    intro T65 L65 u65 X65 hQ65
    obtain ⟨rfl, Nq65, K65, Vq65⟩ := hQ65
    have lc65 : (own_mk (List.replicate 5 (0 : Int32)) m0 (1 : Int32) 5).length = 5 := by rw [own_mklen]; exact rfl
    have N65 := Fr.app N63 Nq65
    show ORun p e below s _ _ _ T65 (mkF m 202 #[.val (.int p1), .val (.int p2), .val (.int p3), .val (.int p4), .val (.int p5), .val (.int p6), .val (.ref b1), .val (.ref b3), .val (.ref al), .val (.ref b55), .val (.int (2 : Int32)), .val (.ref b62)] [(.int (1 : Int32))])
    refine own_by (fun t k => XS.ifYes X65.here hx rfl (pc0 := 202) (pc' := 207) rfl (hb hby at_202) rfl ((if0 _ _).trans (feq (by decide)).2) (by decide) (by decide) k) ?_
    show ORun p e below s _ _ _ T65 (mkF m 207 #[.val (.int p1), .val (.int p2), .val (.int p3), .val (.int p4), .val (.int p5), .val (.int p6), .val (.ref b1), .val (.ref b3), .val (.ref al), .val (.ref b55), .val (.int (2 : Int32)), .val (.ref b62)] [])
    refine own_by (fun t k => XS.iload X65.here hx rfl (hb hby at_207) rfl k) ?_
    show ORun p e below s _ _ _ T65 (mkF m 209 #[.val (.int p1), .val (.int p2), .val (.int p3), .val (.int p4), .val (.int p5), .val (.int p6), .val (.ref b1), .val (.ref b3), .val (.ref al), .val (.ref b55), .val (.int (2 : Int32)), .val (.ref b62)] [(.int (2 : Int32))])
    refine own_by (fun t k => XS.iconst X65.here hx rfl (hb hby at_209) k) ?_
    show ORun p e below s _ _ _ T65 (mkF m 210 #[.val (.int p1), .val (.int p2), .val (.int p3), .val (.int p4), .val (.int p5), .val (.int p6), .val (.ref b1), .val (.ref b3), .val (.ref al), .val (.ref b55), .val (.int (2 : Int32)), .val (.ref b62)] [(.int (2 : Int32)), (.int (2 : Int32))])
    refine own_by (fun t k => XS.icmpNo X65.here hx rfl (hb hby at_210) rfl (flt (by decide)).1 k) ?_
    show ORun p e below s _ _ _ T65 (mkF m 213 #[.val (.int p1), .val (.int p2), .val (.int p3), .val (.int p4), .val (.int p5), .val (.int p6), .val (.ref b1), .val (.ref b3), .val (.ref al), .val (.ref b55), .val (.int (2 : Int32)), .val (.ref b62)] [])
    refine own_by (fun t k => XS.aload X65.here hx rfl (hb hby at_213) rfl rfl k) ?_
    show ORun p e below s _ _ _ T65 (mkF m 215 #[.val (.int p1), .val (.int p2), .val (.int p3), .val (.int p4), .val (.int p5), .val (.int p6), .val (.ref b1), .val (.ref b3), .val (.ref al), .val (.ref b55), .val (.int (2 : Int32)), .val (.ref b62)] [(.ref b62)])
    refine own_by (fun t k => XS.aload X65.here hx rfl (hb hby at_215) rfl rfl k) ?_
    show ORun p e below s _ _ _ T65 (mkF m 217 #[.val (.int p1), .val (.int p2), .val (.int p3), .val (.int p4), .val (.int p5), .val (.int p6), .val (.ref b1), .val (.ref b3), .val (.ref al), .val (.ref b55), .val (.int (2 : Int32)), .val (.ref b62)] [(.ref al), (.ref b62)])
    refine own_by (fun t k => XS.iconst X65.here hx rfl (hb hby at_217) k) ?_
    show ORun p e below s _ _ _ T65 (mkF m 218 #[.val (.int p1), .val (.int p2), .val (.int p3), .val (.int p4), .val (.int p5), .val (.int p6), .val (.ref b1), .val (.ref b3), .val (.ref al), .val (.ref b55), .val (.int (2 : Int32)), .val (.ref b62)] [(.int (1 : Int32)), (.ref al), (.ref b62)])
    refine own_callI X65 hx hZ hown ((((((((Eal15.ext E55).keep K56).keep K57).keep K58).keep K59).keep K60).ext E62).keep K65) (hw _ (List.mem_of_getElem? (i := 116) rfl)) (hw _ (List.mem_of_getElem? (i := 117) rfl)) (hw _ (List.mem_of_getElem? (i := 118) rfl)) (by first | rfl | simp [Cond.onTables, Cond.keepsFace, Cond.keeps, Cond.steady]) (hw _ (List.mem_of_getElem? (i := 119) rfl)) (hw _ (List.mem_of_getElem? (i := 120) rfl)) (hw _ (List.mem_of_getElem? (i := 121) rfl)) (hw _ (List.mem_of_getElem? (i := 122) rfl)) (hw _ (List.mem_of_getElem? (i := 71) rfl)) (hw _ (List.mem_of_getElem? (i := 39) rfl)) (hw _ (List.mem_of_getElem? (i := 123) rfl)) (by decide) (rm21 l Z a0 hw [] T65.heap n0 (Nat.le_trans (Nat.le_trans (Nat.le_trans (Nat.le_trans (Nat.le_trans (Nat.le_trans (Nat.le_trans (Nat.le_trans (Nat.le_trans (Nat.le_trans (Nat.le_trans (Nat.le_trans (Nat.le_trans (Nat.le_trans (Nat.le_trans (Nat.le_trans (Nat.le_trans (Nat.le_trans (Nat.le_trans (Nat.le_trans (Nat.le_trans (Nat.le_trans (Nat.le_trans Z0 E1.1) K2.1) E3.1) (Keep.of_wr W4).1) (Keep.of_wr W5).1) (Keep.of_wr W6).1) (Keep.of_wr W7).1) (Keep.of_wr W8).1) K9.1) K10.1) K11.1) K12.1) K13.1) K14.1) K15.1) E55.1) K56.1) K57.1) K58.1) K59.1) K60.1) E62.1) K65.1) al ed gB (1 : Int32) (2 : Int32) [.ref gA, .ref gB, .null, .null, .null, .null, .null, .null, .null, .null] ((((((((Eal15.ext E55).keep K56).keep K57).keep K58).keep K59).keep K60).ext E62).keep K65) ((((((((Fs.ext E55).keep K56 (ninS ne_al_b55 nin0)).keep K57 (ninS ne_al_b55 nin0)).keep K58 (ninS ne_al_b55 nin0)).keep K59 (ninS ne_al_b55 nin0)).keep K60 (ninS ne_al_b55 nin0)).ext E62).keep K65 (ninS ne_al_b62 nin0)) ((((((((Fe.ext E55).keep K56 (ninS ne_al_b55 nin0)).keep K57 (ninS ne_al_b55 nin0)).keep K58 (ninS ne_al_b55 nin0)).keep K59 (ninS ne_al_b55 nin0)).keep K60 (ninS ne_al_b55 nin0)).ext E62).keep K65 (ninS ne_al_b62 nin0)) ((((((((Ve.ext E55).keep K56 (ninS ne_ed_b55 nin0)).keep K57 (ninS ne_ed_b55 nin0)).keep K58 (ninS ne_ed_b55 nin0)).keep K59 (ninS ne_ed_b55 nin0)).keep K60 (ninS ne_ed_b55 nin0)).ext E62).keep K65 (ninS ne_ed_b62 nin0)) rfl (by decide)) rfl (by decide) (W := 1) (by decide) (by decide) (by decide) (argsL := [(.int (1 : Int32))]) (rest := [(.ref b62)]) (by rw [hml]; rfl) (lenOf pd_10 rfl) rfl rfl (Nat.le_of_eq rfl) (hb hby at_218) ?_
    intro T66 L66 u66 X66 hQ66
    obtain ⟨rfl, Nq66, e66⟩ := hQ66
    have N66 := Fr.app N65 Nq66
    show ORun p e below s _ _ _ T66 (mkF m 223 #[.val (.int p1), .val (.int p2), .val (.int p3), .val (.int p4), .val (.int p5), .val (.int p6), .val (.ref b1), .val (.ref b3), .val (.ref al), .val (.ref b55), .val (.int (2 : Int32)), .val (.ref b62)] [(.ref gB), (.ref b62)])
    obtain ⟨T67, X67, e67, st67⟩ := castY X66 hx hZ hown (hw _ (List.mem_of_getElem? (i := 137) rfl)) e66 (Ins.self ((((((((EB.ext E55).keep K56).keep K57).keep K58).keep K59).keep K60).ext E62).keep K65)) (g := (mkF m 223 #[.val (.int p1), .val (.int p2), .val (.int p3), .val (.int p4), .val (.int p5), .val (.int p6), .val (.ref b1), .val (.ref b3), .val (.ref al), .val (.ref b55), .val (.int (2 : Int32)), .val (.ref b62)] [(.ref gB), (.ref b62)])) rfl rfl (hb hby at_223)
    refine own_by st67 ?_
    show ORun p e below s _ _ _ T67 (mkF m 226 #[.val (.int p1), .val (.int p2), .val (.int p3), .val (.int p4), .val (.int p5), .val (.int p6), .val (.ref b1), .val (.ref b3), .val (.ref al), .val (.ref b55), .val (.int (2 : Int32)), .val (.ref b62)] [(.ref gB), (.ref b62)])
    refine own_by (fun t k => XS.iconst X67.here hx rfl (hb hby at_226) k) ?_
    show ORun p e below s _ _ _ T67 (mkF m 227 #[.val (.int p1), .val (.int p2), .val (.int p3), .val (.int p4), .val (.int p5), .val (.int p6), .val (.ref b1), .val (.ref b3), .val (.ref al), .val (.ref b55), .val (.int (2 : Int32)), .val (.ref b62)] [(.int (2 : Int32)), (.ref gB), (.ref b62)])
    refine own_callS X67 hx hZ hown (hw _ (List.mem_of_getElem? (i := 138) rfl)) (hw _ (List.mem_of_getElem? (i := 139) rfl)) (hw _ (List.mem_of_getElem? (i := 14) rfl)) (hw _ (List.mem_of_getElem? (i := 140) rfl)) (by decide) (rm25 l Z a0 hw [] T65.heap n0 (Nat.le_trans (Nat.le_trans (Nat.le_trans (Nat.le_trans (Nat.le_trans (Nat.le_trans (Nat.le_trans (Nat.le_trans (Nat.le_trans (Nat.le_trans (Nat.le_trans (Nat.le_trans (Nat.le_trans (Nat.le_trans (Nat.le_trans (Nat.le_trans (Nat.le_trans (Nat.le_trans (Nat.le_trans (Nat.le_trans (Nat.le_trans (Nat.le_trans (Nat.le_trans Z0 E1.1) K2.1) E3.1) (Keep.of_wr W4).1) (Keep.of_wr W5).1) (Keep.of_wr W6).1) (Keep.of_wr W7).1) (Keep.of_wr W8).1) K9.1) K10.1) K11.1) K12.1) K13.1) K14.1) K15.1) E55.1) K56.1) K57.1) K58.1) K59.1) K60.1) E62.1) K65.1) b62 gB (2 : Int32) m1.length (own_mk (List.replicate 5 (0 : Int32)) m0 (1 : Int32) 5) m1 Vq65 lc65 old_b62 ((((((((VB.ext E55).keep K56 (ninS ne_gB_b55 nin0)).keep K57 (ninS ne_gB_b55 nin0)).keep K58 (ninS ne_gB_b55 nin0)).keep K59 (ninS ne_gB_b55 nin0)).keep K60 (ninS ne_gB_b55 nin0)).ext E62).keep K65 (ninS ne_gB_b62 nin0)) rfl (own_okmD okB).1 ne_gB_b62 ((own_okmD okB).2 0 (by decide)) ((own_okmD okB).2 1 (by decide)) ((own_okmD okB).2 2 (by decide)) ((own_okmD okB).2 3 (by decide)) ((own_okmD okB).2 4 (by decide))) e67 (by decide) (W := 0) (by decide) (by decide) (by decide) (argsL := [(.ref b62), (.ref gB), (.int (2 : Int32))]) (rest := []) (by rw [hml]; rfl) (lenOf pd_20 rfl) rfl rfl (Nat.le_of_eq rfl) (hb hby at_227) ?_
    intro T68 L68 u68 X68 hQ68
    obtain ⟨rfl, Nq68, K68, Vq68⟩ := hQ68
    have lc68 : (own_mk (own_mk (List.replicate 5 (0 : Int32)) m0 (1 : Int32) 5) m1 (2 : Int32) 5).length = 5 := by rw [own_mklen]; exact lc65
    have N68 := Fr.app N66 Nq68
    show ORun p e below s _ _ _ T68 (mkF m 230 #[.val (.int p1), .val (.int p2), .val (.int p3), .val (.int p4), .val (.int p5), .val (.int p6), .val (.ref b1), .val (.ref b3), .val (.ref al), .val (.ref b55), .val (.int (2 : Int32)), .val (.ref b62)] [(.int (1 : Int32))])
    refine own_by (fun t k => XS.ifYes X68.here hx rfl (pc0 := 230) (pc' := 235) rfl (hb hby at_230) rfl ((if0 _ _).trans (feq (by decide)).2) (by decide) (by decide) k) ?_
    show ORun p e below s _ _ _ T68 (mkF m 235 #[.val (.int p1), .val (.int p2), .val (.int p3), .val (.int p4), .val (.int p5), .val (.int p6), .val (.ref b1), .val (.ref b3), .val (.ref al), .val (.ref b55), .val (.int (2 : Int32)), .val (.ref b62)] [])
    refine own_by (fun t k => XS.aload X68.here hx rfl (hb hby at_235) rfl rfl k) ?_
    show ORun p e below s _ _ _ T68 (mkF m 237 #[.val (.int p1), .val (.int p2), .val (.int p3), .val (.int p4), .val (.int p5), .val (.int p6), .val (.ref b1), .val (.ref b3), .val (.ref al), .val (.ref b55), .val (.int (2 : Int32)), .val (.ref b62)] [(.ref b62)])
    refine own_by (fun t k => XS.iconst X68.here hx rfl (hb hby at_237) k) ?_
    show ORun p e below s _ _ _ T68 (mkF m 238 #[.val (.int p1), .val (.int p2), .val (.int p3), .val (.int p4), .val (.int p5), .val (.int p6), .val (.ref b1), .val (.ref b3), .val (.ref al), .val (.ref b55), .val (.int (2 : Int32)), .val (.ref b62)] [(.int (0 : Int32)), (.ref b62)])
    refine own_iaload X68 hx hZ rfl Vq68 (i := 0) (by decide) (by omega) (hb hby at_238) ?_
    intro v69 hv69
    have r69 := rng32 v69
    show ORun p e below s _ _ _ T68 (mkF m 239 #[.val (.int p1), .val (.int p2), .val (.int p3), .val (.int p4), .val (.int p5), .val (.int p6), .val (.ref b1), .val (.ref b3), .val (.ref al), .val (.ref b55), .val (.int (2 : Int32)), .val (.ref b62)] [(.int v69)])
    refine own_by (fun t k => XS.aload X68.here hx rfl (hb hby at_239) rfl rfl k) ?_
    show ORun p e below s _ _ _ T68 (mkF m 241 #[.val (.int p1), .val (.int p2), .val (.int p3), .val (.int p4), .val (.int p5), .val (.int p6), .val (.ref b1), .val (.ref b3), .val (.ref al), .val (.ref b55), .val (.int (2 : Int32)), .val (.ref b62)] [(.ref b3), (.int v69)])
    refine own_by (fun t k => XS.aload X68.here hx rfl (hb hby at_241) rfl rfl k) ?_
    show ORun p e below s _ _ _ T68 (mkF m 243 #[.val (.int p1), .val (.int p2), .val (.int p3), .val (.int p4), .val (.int p5), .val (.int p6), .val (.ref b1), .val (.ref b3), .val (.ref al), .val (.ref b55), .val (.int (2 : Int32)), .val (.ref b62)] [(.ref b55), (.ref b3), (.int v69)])
    refine own_by (fun t k => XS.iconst X68.here hx rfl (hb hby at_243) k) ?_
    show ORun p e below s _ _ _ T68 (mkF m 244 #[.val (.int p1), .val (.int p2), .val (.int p3), .val (.int p4), .val (.int p5), .val (.int p6), .val (.ref b1), .val (.ref b3), .val (.ref al), .val (.ref b55), .val (.int (2 : Int32)), .val (.ref b62)] [(.int (0 : Int32)), (.ref b55), (.ref b3), (.int v69)])
    refine own_callS X68 hx hZ hown (hw _ (List.mem_of_getElem? (i := 144) rfl)) (hw _ (List.mem_of_getElem? (i := 145) rfl)) (hw _ (List.mem_of_getElem? (i := 14) rfl)) (hw _ (List.mem_of_getElem? (i := 146) rfl)) (by decide) (rm27 l Z a0 hw [] T68.heap n0 (Nat.le_trans (Nat.le_trans (Nat.le_trans (Nat.le_trans (Nat.le_trans (Nat.le_trans (Nat.le_trans (Nat.le_trans (Nat.le_trans (Nat.le_trans (Nat.le_trans (Nat.le_trans (Nat.le_trans (Nat.le_trans (Nat.le_trans (Nat.le_trans (Nat.le_trans (Nat.le_trans (Nat.le_trans (Nat.le_trans (Nat.le_trans (Nat.le_trans (Nat.le_trans (Nat.le_trans Z0 E1.1) K2.1) E3.1) (Keep.of_wr W4).1) (Keep.of_wr W5).1) (Keep.of_wr W6).1) (Keep.of_wr W7).1) (Keep.of_wr W8).1) K9.1) K10.1) K11.1) K12.1) K13.1) K14.1) K15.1) E55.1) K56.1) K57.1) K58.1) K59.1) K60.1) E62.1) K65.1) K68.1) b3 b55 (0 : Int32) x14_0 x14_1 x14_2 x14_3 x14_4 R60 ((((((((((Vl14.keep K15 (ninS (Ne.symm ne_pa_b3) nin0)).ext E55).keep K56 (ninS ne_b3_b55 nin0)).keep K57 (ninS ne_b3_b55 nin0)).keep K58 (ninS ne_b3_b55 nin0)).keep K59 (ninS ne_b3_b55 nin0)).keep K60 (ninS ne_b3_b55 nin0)).ext E62).keep K65 (ninS ne_b3_b62 nin0)).keep K68 (ninS ne_b3_b62 nin0)) (((Vq60.ext E62).keep K65 (ninS ne_b55_b62 nin0)).keep K68 (ninS ne_b55_b62 nin0)) lR60 (by decide)) rfl (by decide) (W := 1) (by decide) (by decide) (by decide) (argsL := [(.ref b3), (.ref b55), (.int (0 : Int32))]) (rest := [(.int v69)]) (by rw [hml]; rfl) (lenOf pd_19 rfl) rfl rfl (Nat.le_of_eq rfl) (hb hby at_244) ?_
    intro T70 L70 u70 X70 hQ70
    obtain ⟨rfl, Nq70, e70⟩ := hQ70
    refine own_letI (f := fun z => (mkF m 247 #[.val (.int p1), .val (.int p2), .val (.int p3), .val (.int p4), .val (.int p5), .val (.int p6), .val (.ref b1), .val (.ref b3), .val (.ref al), .val (.ref b55), .val (.int (2 : Int32)), .val (.ref b62)] [(.int z), (.int v69)])) (own_ex [x14_0, x14_1, x14_2, x14_3, x14_4] R60 (0 : Int32)) fun y70 hy70 => ?_
    have N70 := Fr.app N68 Nq70
    show ORun p e below s _ _ _ T70 (mkF m 247 #[.val (.int p1), .val (.int p2), .val (.int p3), .val (.int p4), .val (.int p5), .val (.int p6), .val (.ref b1), .val (.ref b3), .val (.ref al), .val (.ref b55), .val (.int (2 : Int32)), .val (.ref b62)] [(.int y70), (.int v69)])
    have hq70 : v69 = y70 := hv69.trans ((hex 0 (by decide)).trans (by rw [hy70, eRR]; rfl))
    refine own_by (fun t k => XS.icmpNo X70.here hx rfl (hb hby at_247) rfl (teq hq70).2 k) ?_
    show ORun p e below s _ _ _ T70 (mkF m 250 #[.val (.int p1), .val (.int p2), .val (.int p3), .val (.int p4), .val (.int p5), .val (.int p6), .val (.ref b1), .val (.ref b3), .val (.ref al), .val (.ref b55), .val (.int (2 : Int32)), .val (.ref b62)] [])
    refine own_by (fun t k => XS.aload X70.here hx rfl (hb hby at_250) rfl rfl k) ?_
    show ORun p e below s _ _ _ T70 (mkF m 252 #[.val (.int p1), .val (.int p2), .val (.int p3), .val (.int p4), .val (.int p5), .val (.int p6), .val (.ref b1), .val (.ref b3), .val (.ref al), .val (.ref b55), .val (.int (2 : Int32)), .val (.ref b62)] [(.ref b62)])
    refine own_by (fun t k => XS.iconst X70.here hx rfl (hb hby at_252) k) ?_
    show ORun p e below s _ _ _ T70 (mkF m 253 #[.val (.int p1), .val (.int p2), .val (.int p3), .val (.int p4), .val (.int p5), .val (.int p6), .val (.ref b1), .val (.ref b3), .val (.ref al), .val (.ref b55), .val (.int (2 : Int32)), .val (.ref b62)] [(.int (1 : Int32)), (.ref b62)])
    refine own_iaload X70 hx hZ e70 Vq68 (i := 1) (by decide) (by omega) (hb hby at_253) ?_
    intro v71 hv71
    have r71 := rng32 v71
    show ORun p e below s _ _ _ T70 (mkF m 254 #[.val (.int p1), .val (.int p2), .val (.int p3), .val (.int p4), .val (.int p5), .val (.int p6), .val (.ref b1), .val (.ref b3), .val (.ref al), .val (.ref b55), .val (.int (2 : Int32)), .val (.ref b62)] [(.int v71)])
    refine own_by (fun t k => XS.aload X70.here hx rfl (hb hby at_254) rfl rfl k) ?_
    show ORun p e below s _ _ _ T70 (mkF m 256 #[.val (.int p1), .val (.int p2), .val (.int p3), .val (.int p4), .val (.int p5), .val (.int p6), .val (.ref b1), .val (.ref b3), .val (.ref al), .val (.ref b55), .val (.int (2 : Int32)), .val (.ref b62)] [(.ref b3), (.int v71)])
    refine own_by (fun t k => XS.aload X70.here hx rfl (hb hby at_256) rfl rfl k) ?_
    show ORun p e below s _ _ _ T70 (mkF m 258 #[.val (.int p1), .val (.int p2), .val (.int p3), .val (.int p4), .val (.int p5), .val (.int p6), .val (.ref b1), .val (.ref b3), .val (.ref al), .val (.ref b55), .val (.int (2 : Int32)), .val (.ref b62)] [(.ref b55), (.ref b3), (.int v71)])
    refine own_by (fun t k => XS.iconst X70.here hx rfl (hb hby at_258) k) ?_
    show ORun p e below s _ _ _ T70 (mkF m 259 #[.val (.int p1), .val (.int p2), .val (.int p3), .val (.int p4), .val (.int p5), .val (.int p6), .val (.ref b1), .val (.ref b3), .val (.ref al), .val (.ref b55), .val (.int (2 : Int32)), .val (.ref b62)] [(.int (1 : Int32)), (.ref b55), (.ref b3), (.int v71)])
    refine own_callS X70 hx hZ hown (hw _ (List.mem_of_getElem? (i := 144) rfl)) (hw _ (List.mem_of_getElem? (i := 145) rfl)) (hw _ (List.mem_of_getElem? (i := 14) rfl)) (hw _ (List.mem_of_getElem? (i := 146) rfl)) (by decide) (rm27 l Z a0 hw [] T68.heap n0 (Nat.le_trans (Nat.le_trans (Nat.le_trans (Nat.le_trans (Nat.le_trans (Nat.le_trans (Nat.le_trans (Nat.le_trans (Nat.le_trans (Nat.le_trans (Nat.le_trans (Nat.le_trans (Nat.le_trans (Nat.le_trans (Nat.le_trans (Nat.le_trans (Nat.le_trans (Nat.le_trans (Nat.le_trans (Nat.le_trans (Nat.le_trans (Nat.le_trans (Nat.le_trans (Nat.le_trans Z0 E1.1) K2.1) E3.1) (Keep.of_wr W4).1) (Keep.of_wr W5).1) (Keep.of_wr W6).1) (Keep.of_wr W7).1) (Keep.of_wr W8).1) K9.1) K10.1) K11.1) K12.1) K13.1) K14.1) K15.1) E55.1) K56.1) K57.1) K58.1) K59.1) K60.1) E62.1) K65.1) K68.1) b3 b55 (1 : Int32) x14_0 x14_1 x14_2 x14_3 x14_4 R60 ((((((((((Vl14.keep K15 (ninS (Ne.symm ne_pa_b3) nin0)).ext E55).keep K56 (ninS ne_b3_b55 nin0)).keep K57 (ninS ne_b3_b55 nin0)).keep K58 (ninS ne_b3_b55 nin0)).keep K59 (ninS ne_b3_b55 nin0)).keep K60 (ninS ne_b3_b55 nin0)).ext E62).keep K65 (ninS ne_b3_b62 nin0)).keep K68 (ninS ne_b3_b62 nin0)) (((Vq60.ext E62).keep K65 (ninS ne_b55_b62 nin0)).keep K68 (ninS ne_b55_b62 nin0)) lR60 (by decide)) e70 (by decide) (W := 1) (by decide) (by decide) (by decide) (argsL := [(.ref b3), (.ref b55), (.int (1 : Int32))]) (rest := [(.int v71)]) (by rw [hml]; rfl) (lenOf pd_19 rfl) rfl rfl (Nat.le_of_eq rfl) (hb hby at_259) ?_
    intro T72 L72 u72 X72 hQ72
    obtain ⟨rfl, Nq72, e72⟩ := hQ72
    refine own_letI (f := fun z => (mkF m 262 #[.val (.int p1), .val (.int p2), .val (.int p3), .val (.int p4), .val (.int p5), .val (.int p6), .val (.ref b1), .val (.ref b3), .val (.ref al), .val (.ref b55), .val (.int (2 : Int32)), .val (.ref b62)] [(.int z), (.int v71)])) (own_ex [x14_0, x14_1, x14_2, x14_3, x14_4] R60 (1 : Int32)) fun y72 hy72 => ?_
    have N72 := Fr.app N70 Nq72
    show ORun p e below s _ _ _ T72 (mkF m 262 #[.val (.int p1), .val (.int p2), .val (.int p3), .val (.int p4), .val (.int p5), .val (.int p6), .val (.ref b1), .val (.ref b3), .val (.ref al), .val (.ref b55), .val (.int (2 : Int32)), .val (.ref b62)] [(.int y72), (.int v71)])
    have hq72 : v71 = y72 := hv71.trans ((hex 1 (by decide)).trans (by rw [hy72, eRR]; rfl))
    refine own_by (fun t k => XS.icmpNo X72.here hx rfl (hb hby at_262) rfl (teq hq72).2 k) ?_
    show ORun p e below s _ _ _ T72 (mkF m 265 #[.val (.int p1), .val (.int p2), .val (.int p3), .val (.int p4), .val (.int p5), .val (.int p6), .val (.ref b1), .val (.ref b3), .val (.ref al), .val (.ref b55), .val (.int (2 : Int32)), .val (.ref b62)] [])
    refine own_by (fun t k => XS.aload X72.here hx rfl (hb hby at_265) rfl rfl k) ?_
    show ORun p e below s _ _ _ T72 (mkF m 267 #[.val (.int p1), .val (.int p2), .val (.int p3), .val (.int p4), .val (.int p5), .val (.int p6), .val (.ref b1), .val (.ref b3), .val (.ref al), .val (.ref b55), .val (.int (2 : Int32)), .val (.ref b62)] [(.ref b62)])
    refine own_by (fun t k => XS.iconst X72.here hx rfl (hb hby at_267) k) ?_
    show ORun p e below s _ _ _ T72 (mkF m 268 #[.val (.int p1), .val (.int p2), .val (.int p3), .val (.int p4), .val (.int p5), .val (.int p6), .val (.ref b1), .val (.ref b3), .val (.ref al), .val (.ref b55), .val (.int (2 : Int32)), .val (.ref b62)] [(.int (2 : Int32)), (.ref b62)])
    refine own_iaload X72 hx hZ e72 Vq68 (i := 2) (by decide) (by omega) (hb hby at_268) ?_
    intro v73 hv73
    have r73 := rng32 v73
    show ORun p e below s _ _ _ T72 (mkF m 269 #[.val (.int p1), .val (.int p2), .val (.int p3), .val (.int p4), .val (.int p5), .val (.int p6), .val (.ref b1), .val (.ref b3), .val (.ref al), .val (.ref b55), .val (.int (2 : Int32)), .val (.ref b62)] [(.int v73)])
    refine own_by (fun t k => XS.aload X72.here hx rfl (hb hby at_269) rfl rfl k) ?_
    show ORun p e below s _ _ _ T72 (mkF m 271 #[.val (.int p1), .val (.int p2), .val (.int p3), .val (.int p4), .val (.int p5), .val (.int p6), .val (.ref b1), .val (.ref b3), .val (.ref al), .val (.ref b55), .val (.int (2 : Int32)), .val (.ref b62)] [(.ref b3), (.int v73)])
    refine own_by (fun t k => XS.aload X72.here hx rfl (hb hby at_271) rfl rfl k) ?_
    show ORun p e below s _ _ _ T72 (mkF m 273 #[.val (.int p1), .val (.int p2), .val (.int p3), .val (.int p4), .val (.int p5), .val (.int p6), .val (.ref b1), .val (.ref b3), .val (.ref al), .val (.ref b55), .val (.int (2 : Int32)), .val (.ref b62)] [(.ref b55), (.ref b3), (.int v73)])
    refine own_by (fun t k => XS.iconst X72.here hx rfl (hb hby at_273) k) ?_
    show ORun p e below s _ _ _ T72 (mkF m 274 #[.val (.int p1), .val (.int p2), .val (.int p3), .val (.int p4), .val (.int p5), .val (.int p6), .val (.ref b1), .val (.ref b3), .val (.ref al), .val (.ref b55), .val (.int (2 : Int32)), .val (.ref b62)] [(.int (2 : Int32)), (.ref b55), (.ref b3), (.int v73)])
    refine own_callS X72 hx hZ hown (hw _ (List.mem_of_getElem? (i := 144) rfl)) (hw _ (List.mem_of_getElem? (i := 145) rfl)) (hw _ (List.mem_of_getElem? (i := 14) rfl)) (hw _ (List.mem_of_getElem? (i := 146) rfl)) (by decide) (rm27 l Z a0 hw [] T68.heap n0 (Nat.le_trans (Nat.le_trans (Nat.le_trans (Nat.le_trans (Nat.le_trans (Nat.le_trans (Nat.le_trans (Nat.le_trans (Nat.le_trans (Nat.le_trans (Nat.le_trans (Nat.le_trans (Nat.le_trans (Nat.le_trans (Nat.le_trans (Nat.le_trans (Nat.le_trans (Nat.le_trans (Nat.le_trans (Nat.le_trans (Nat.le_trans (Nat.le_trans (Nat.le_trans (Nat.le_trans Z0 E1.1) K2.1) E3.1) (Keep.of_wr W4).1) (Keep.of_wr W5).1) (Keep.of_wr W6).1) (Keep.of_wr W7).1) (Keep.of_wr W8).1) K9.1) K10.1) K11.1) K12.1) K13.1) K14.1) K15.1) E55.1) K56.1) K57.1) K58.1) K59.1) K60.1) E62.1) K65.1) K68.1) b3 b55 (2 : Int32) x14_0 x14_1 x14_2 x14_3 x14_4 R60 ((((((((((Vl14.keep K15 (ninS (Ne.symm ne_pa_b3) nin0)).ext E55).keep K56 (ninS ne_b3_b55 nin0)).keep K57 (ninS ne_b3_b55 nin0)).keep K58 (ninS ne_b3_b55 nin0)).keep K59 (ninS ne_b3_b55 nin0)).keep K60 (ninS ne_b3_b55 nin0)).ext E62).keep K65 (ninS ne_b3_b62 nin0)).keep K68 (ninS ne_b3_b62 nin0)) (((Vq60.ext E62).keep K65 (ninS ne_b55_b62 nin0)).keep K68 (ninS ne_b55_b62 nin0)) lR60 (by decide)) e72 (by decide) (W := 1) (by decide) (by decide) (by decide) (argsL := [(.ref b3), (.ref b55), (.int (2 : Int32))]) (rest := [(.int v73)]) (by rw [hml]; rfl) (lenOf pd_19 rfl) rfl rfl (Nat.le_of_eq rfl) (hb hby at_274) ?_
    intro T74 L74 u74 X74 hQ74
    obtain ⟨rfl, Nq74, e74⟩ := hQ74
    refine own_letI (f := fun z => (mkF m 277 #[.val (.int p1), .val (.int p2), .val (.int p3), .val (.int p4), .val (.int p5), .val (.int p6), .val (.ref b1), .val (.ref b3), .val (.ref al), .val (.ref b55), .val (.int (2 : Int32)), .val (.ref b62)] [(.int z), (.int v73)])) (own_ex [x14_0, x14_1, x14_2, x14_3, x14_4] R60 (2 : Int32)) fun y74 hy74 => ?_
    have N74 := Fr.app N72 Nq74
    show ORun p e below s _ _ _ T74 (mkF m 277 #[.val (.int p1), .val (.int p2), .val (.int p3), .val (.int p4), .val (.int p5), .val (.int p6), .val (.ref b1), .val (.ref b3), .val (.ref al), .val (.ref b55), .val (.int (2 : Int32)), .val (.ref b62)] [(.int y74), (.int v73)])
    have hq74 : v73 = y74 := hv73.trans ((hex 2 (by decide)).trans (by rw [hy74, eRR]; rfl))
    refine own_by (fun t k => XS.icmpNo X74.here hx rfl (hb hby at_277) rfl (teq hq74).2 k) ?_
    show ORun p e below s _ _ _ T74 (mkF m 280 #[.val (.int p1), .val (.int p2), .val (.int p3), .val (.int p4), .val (.int p5), .val (.int p6), .val (.ref b1), .val (.ref b3), .val (.ref al), .val (.ref b55), .val (.int (2 : Int32)), .val (.ref b62)] [])
    refine own_by (fun t k => XS.aload X74.here hx rfl (hb hby at_280) rfl rfl k) ?_
    show ORun p e below s _ _ _ T74 (mkF m 282 #[.val (.int p1), .val (.int p2), .val (.int p3), .val (.int p4), .val (.int p5), .val (.int p6), .val (.ref b1), .val (.ref b3), .val (.ref al), .val (.ref b55), .val (.int (2 : Int32)), .val (.ref b62)] [(.ref b62)])
    refine own_by (fun t k => XS.iconst X74.here hx rfl (hb hby at_282) k) ?_
    show ORun p e below s _ _ _ T74 (mkF m 283 #[.val (.int p1), .val (.int p2), .val (.int p3), .val (.int p4), .val (.int p5), .val (.int p6), .val (.ref b1), .val (.ref b3), .val (.ref al), .val (.ref b55), .val (.int (2 : Int32)), .val (.ref b62)] [(.int (3 : Int32)), (.ref b62)])
    refine own_iaload X74 hx hZ e74 Vq68 (i := 3) (by decide) (by omega) (hb hby at_283) ?_
    intro v75 hv75
    have r75 := rng32 v75
    show ORun p e below s _ _ _ T74 (mkF m 284 #[.val (.int p1), .val (.int p2), .val (.int p3), .val (.int p4), .val (.int p5), .val (.int p6), .val (.ref b1), .val (.ref b3), .val (.ref al), .val (.ref b55), .val (.int (2 : Int32)), .val (.ref b62)] [(.int v75)])
    refine own_by (fun t k => XS.aload X74.here hx rfl (hb hby at_284) rfl rfl k) ?_
    show ORun p e below s _ _ _ T74 (mkF m 286 #[.val (.int p1), .val (.int p2), .val (.int p3), .val (.int p4), .val (.int p5), .val (.int p6), .val (.ref b1), .val (.ref b3), .val (.ref al), .val (.ref b55), .val (.int (2 : Int32)), .val (.ref b62)] [(.ref b3), (.int v75)])
    refine own_by (fun t k => XS.aload X74.here hx rfl (hb hby at_286) rfl rfl k) ?_
    show ORun p e below s _ _ _ T74 (mkF m 288 #[.val (.int p1), .val (.int p2), .val (.int p3), .val (.int p4), .val (.int p5), .val (.int p6), .val (.ref b1), .val (.ref b3), .val (.ref al), .val (.ref b55), .val (.int (2 : Int32)), .val (.ref b62)] [(.ref b55), (.ref b3), (.int v75)])
    refine own_by (fun t k => XS.iconst X74.here hx rfl (hb hby at_288) k) ?_
    show ORun p e below s _ _ _ T74 (mkF m 289 #[.val (.int p1), .val (.int p2), .val (.int p3), .val (.int p4), .val (.int p5), .val (.int p6), .val (.ref b1), .val (.ref b3), .val (.ref al), .val (.ref b55), .val (.int (2 : Int32)), .val (.ref b62)] [(.int (3 : Int32)), (.ref b55), (.ref b3), (.int v75)])
    refine own_callS X74 hx hZ hown (hw _ (List.mem_of_getElem? (i := 144) rfl)) (hw _ (List.mem_of_getElem? (i := 145) rfl)) (hw _ (List.mem_of_getElem? (i := 14) rfl)) (hw _ (List.mem_of_getElem? (i := 146) rfl)) (by decide) (rm27 l Z a0 hw [] T68.heap n0 (Nat.le_trans (Nat.le_trans (Nat.le_trans (Nat.le_trans (Nat.le_trans (Nat.le_trans (Nat.le_trans (Nat.le_trans (Nat.le_trans (Nat.le_trans (Nat.le_trans (Nat.le_trans (Nat.le_trans (Nat.le_trans (Nat.le_trans (Nat.le_trans (Nat.le_trans (Nat.le_trans (Nat.le_trans (Nat.le_trans (Nat.le_trans (Nat.le_trans (Nat.le_trans (Nat.le_trans Z0 E1.1) K2.1) E3.1) (Keep.of_wr W4).1) (Keep.of_wr W5).1) (Keep.of_wr W6).1) (Keep.of_wr W7).1) (Keep.of_wr W8).1) K9.1) K10.1) K11.1) K12.1) K13.1) K14.1) K15.1) E55.1) K56.1) K57.1) K58.1) K59.1) K60.1) E62.1) K65.1) K68.1) b3 b55 (3 : Int32) x14_0 x14_1 x14_2 x14_3 x14_4 R60 ((((((((((Vl14.keep K15 (ninS (Ne.symm ne_pa_b3) nin0)).ext E55).keep K56 (ninS ne_b3_b55 nin0)).keep K57 (ninS ne_b3_b55 nin0)).keep K58 (ninS ne_b3_b55 nin0)).keep K59 (ninS ne_b3_b55 nin0)).keep K60 (ninS ne_b3_b55 nin0)).ext E62).keep K65 (ninS ne_b3_b62 nin0)).keep K68 (ninS ne_b3_b62 nin0)) (((Vq60.ext E62).keep K65 (ninS ne_b55_b62 nin0)).keep K68 (ninS ne_b55_b62 nin0)) lR60 (by decide)) e74 (by decide) (W := 1) (by decide) (by decide) (by decide) (argsL := [(.ref b3), (.ref b55), (.int (3 : Int32))]) (rest := [(.int v75)]) (by rw [hml]; rfl) (lenOf pd_19 rfl) rfl rfl (Nat.le_of_eq rfl) (hb hby at_289) ?_
    intro T76 L76 u76 X76 hQ76
    obtain ⟨rfl, Nq76, e76⟩ := hQ76
    refine own_letI (f := fun z => (mkF m 292 #[.val (.int p1), .val (.int p2), .val (.int p3), .val (.int p4), .val (.int p5), .val (.int p6), .val (.ref b1), .val (.ref b3), .val (.ref al), .val (.ref b55), .val (.int (2 : Int32)), .val (.ref b62)] [(.int z), (.int v75)])) (own_ex [x14_0, x14_1, x14_2, x14_3, x14_4] R60 (3 : Int32)) fun y76 hy76 => ?_
    have N76 := Fr.app N74 Nq76
    show ORun p e below s _ _ _ T76 (mkF m 292 #[.val (.int p1), .val (.int p2), .val (.int p3), .val (.int p4), .val (.int p5), .val (.int p6), .val (.ref b1), .val (.ref b3), .val (.ref al), .val (.ref b55), .val (.int (2 : Int32)), .val (.ref b62)] [(.int y76), (.int v75)])
    have hq76 : v75 = y76 := hv75.trans ((hex 3 (by decide)).trans (by rw [hy76, eRR]; rfl))
    refine own_by (fun t k => XS.icmpNo X76.here hx rfl (hb hby at_292) rfl (teq hq76).2 k) ?_
    show ORun p e below s _ _ _ T76 (mkF m 295 #[.val (.int p1), .val (.int p2), .val (.int p3), .val (.int p4), .val (.int p5), .val (.int p6), .val (.ref b1), .val (.ref b3), .val (.ref al), .val (.ref b55), .val (.int (2 : Int32)), .val (.ref b62)] [])
    refine own_by (fun t k => XS.aload X76.here hx rfl (hb hby at_295) rfl rfl k) ?_
    show ORun p e below s _ _ _ T76 (mkF m 297 #[.val (.int p1), .val (.int p2), .val (.int p3), .val (.int p4), .val (.int p5), .val (.int p6), .val (.ref b1), .val (.ref b3), .val (.ref al), .val (.ref b55), .val (.int (2 : Int32)), .val (.ref b62)] [(.ref b62)])
    refine own_by (fun t k => XS.iconst X76.here hx rfl (hb hby at_297) k) ?_
    show ORun p e below s _ _ _ T76 (mkF m 298 #[.val (.int p1), .val (.int p2), .val (.int p3), .val (.int p4), .val (.int p5), .val (.int p6), .val (.ref b1), .val (.ref b3), .val (.ref al), .val (.ref b55), .val (.int (2 : Int32)), .val (.ref b62)] [(.int (4 : Int32)), (.ref b62)])
    refine own_iaload X76 hx hZ e76 Vq68 (i := 4) (by decide) (by omega) (hb hby at_298) ?_
    intro v77 hv77
    have r77 := rng32 v77
    show ORun p e below s _ _ _ T76 (mkF m 299 #[.val (.int p1), .val (.int p2), .val (.int p3), .val (.int p4), .val (.int p5), .val (.int p6), .val (.ref b1), .val (.ref b3), .val (.ref al), .val (.ref b55), .val (.int (2 : Int32)), .val (.ref b62)] [(.int v77)])
    refine own_by (fun t k => XS.aload X76.here hx rfl (hb hby at_299) rfl rfl k) ?_
    show ORun p e below s _ _ _ T76 (mkF m 301 #[.val (.int p1), .val (.int p2), .val (.int p3), .val (.int p4), .val (.int p5), .val (.int p6), .val (.ref b1), .val (.ref b3), .val (.ref al), .val (.ref b55), .val (.int (2 : Int32)), .val (.ref b62)] [(.ref b3), (.int v77)])
    refine own_by (fun t k => XS.aload X76.here hx rfl (hb hby at_301) rfl rfl k) ?_
    show ORun p e below s _ _ _ T76 (mkF m 303 #[.val (.int p1), .val (.int p2), .val (.int p3), .val (.int p4), .val (.int p5), .val (.int p6), .val (.ref b1), .val (.ref b3), .val (.ref al), .val (.ref b55), .val (.int (2 : Int32)), .val (.ref b62)] [(.ref b55), (.ref b3), (.int v77)])
    refine own_by (fun t k => XS.iconst X76.here hx rfl (hb hby at_303) k) ?_
    show ORun p e below s _ _ _ T76 (mkF m 304 #[.val (.int p1), .val (.int p2), .val (.int p3), .val (.int p4), .val (.int p5), .val (.int p6), .val (.ref b1), .val (.ref b3), .val (.ref al), .val (.ref b55), .val (.int (2 : Int32)), .val (.ref b62)] [(.int (4 : Int32)), (.ref b55), (.ref b3), (.int v77)])
    refine own_callS X76 hx hZ hown (hw _ (List.mem_of_getElem? (i := 144) rfl)) (hw _ (List.mem_of_getElem? (i := 145) rfl)) (hw _ (List.mem_of_getElem? (i := 14) rfl)) (hw _ (List.mem_of_getElem? (i := 146) rfl)) (by decide) (rm27 l Z a0 hw [] T68.heap n0 (Nat.le_trans (Nat.le_trans (Nat.le_trans (Nat.le_trans (Nat.le_trans (Nat.le_trans (Nat.le_trans (Nat.le_trans (Nat.le_trans (Nat.le_trans (Nat.le_trans (Nat.le_trans (Nat.le_trans (Nat.le_trans (Nat.le_trans (Nat.le_trans (Nat.le_trans (Nat.le_trans (Nat.le_trans (Nat.le_trans (Nat.le_trans (Nat.le_trans (Nat.le_trans (Nat.le_trans Z0 E1.1) K2.1) E3.1) (Keep.of_wr W4).1) (Keep.of_wr W5).1) (Keep.of_wr W6).1) (Keep.of_wr W7).1) (Keep.of_wr W8).1) K9.1) K10.1) K11.1) K12.1) K13.1) K14.1) K15.1) E55.1) K56.1) K57.1) K58.1) K59.1) K60.1) E62.1) K65.1) K68.1) b3 b55 (4 : Int32) x14_0 x14_1 x14_2 x14_3 x14_4 R60 ((((((((((Vl14.keep K15 (ninS (Ne.symm ne_pa_b3) nin0)).ext E55).keep K56 (ninS ne_b3_b55 nin0)).keep K57 (ninS ne_b3_b55 nin0)).keep K58 (ninS ne_b3_b55 nin0)).keep K59 (ninS ne_b3_b55 nin0)).keep K60 (ninS ne_b3_b55 nin0)).ext E62).keep K65 (ninS ne_b3_b62 nin0)).keep K68 (ninS ne_b3_b62 nin0)) (((Vq60.ext E62).keep K65 (ninS ne_b55_b62 nin0)).keep K68 (ninS ne_b55_b62 nin0)) lR60 (by decide)) e76 (by decide) (W := 1) (by decide) (by decide) (by decide) (argsL := [(.ref b3), (.ref b55), (.int (4 : Int32))]) (rest := [(.int v77)]) (by rw [hml]; rfl) (lenOf pd_19 rfl) rfl rfl (Nat.le_of_eq rfl) (hb hby at_304) ?_
    intro T78 L78 u78 X78 hQ78
    obtain ⟨rfl, Nq78, e78⟩ := hQ78
    refine own_letI (f := fun z => (mkF m 307 #[.val (.int p1), .val (.int p2), .val (.int p3), .val (.int p4), .val (.int p5), .val (.int p6), .val (.ref b1), .val (.ref b3), .val (.ref al), .val (.ref b55), .val (.int (2 : Int32)), .val (.ref b62)] [(.int z), (.int v77)])) (own_ex [x14_0, x14_1, x14_2, x14_3, x14_4] R60 (4 : Int32)) fun y78 hy78 => ?_
    have N78 := Fr.app N76 Nq78
    show ORun p e below s _ _ _ T78 (mkF m 307 #[.val (.int p1), .val (.int p2), .val (.int p3), .val (.int p4), .val (.int p5), .val (.int p6), .val (.ref b1), .val (.ref b3), .val (.ref al), .val (.ref b55), .val (.int (2 : Int32)), .val (.ref b62)] [(.int y78), (.int v77)])
    have hq78 : v77 = y78 := hv77.trans ((hex 4 (by decide)).trans (by rw [hy78, eRR]; rfl))
    refine own_by (fun t k => XS.icmpNo X78.here hx rfl (hb hby at_307) rfl (teq hq78).2 k) ?_
    show ORun p e below s _ _ _ T78 (mkF m 310 #[.val (.int p1), .val (.int p2), .val (.int p3), .val (.int p4), .val (.int p5), .val (.int p6), .val (.ref b1), .val (.ref b3), .val (.ref al), .val (.ref b55), .val (.int (2 : Int32)), .val (.ref b62)] [])
    refine own_by (fun t k => XS.iconst X78.here hx rfl (hb hby at_310) k) ?_
    show ORun p e below s _ _ _ T78 (mkF m 311 #[.val (.int p1), .val (.int p2), .val (.int p3), .val (.int p4), .val (.int p5), .val (.int p6), .val (.ref b1), .val (.ref b3), .val (.ref al), .val (.ref b55), .val (.int (2 : Int32)), .val (.ref b62)] [(.int (1 : Int32))])
    refine own_by (fun t k => XS.goto X78.here hx rfl (pc0 := 311) (pc' := 315) rfl (hb hby at_311) (by decide) (by decide) k) ?_
    show ORun p e below s _ _ _ T78 (mkF m 315 #[.val (.int p1), .val (.int p2), .val (.int p3), .val (.int p4), .val (.int p5), .val (.int p6), .val (.ref b1), .val (.ref b3), .val (.ref al), .val (.ref b55), .val (.int (2 : Int32)), .val (.ref b62)] [(.int (1 : Int32))])
    refine own_retN X78 hx (t := .boolean) hret (by simp) hlk (hb hby at_315) (by decide) (by decide) ?_
    exact ⟨rfl, N78⟩
set_option maxRecDepth 65536 in
set_option maxHeartbeats 40000000 in
theorem comes_1 {Post : Tables → Env → Array Value → State → Outcome → State → Prop} (hpost : ∀ tb e args s v u, (limb_1_1.after args s (.returned v) u = true ∧ limb_1_2.after args s (.returned v) u = true ∧ True) → FrameEnd s (.returned v) u (Jvm.fieldLocs frame_1_writes args s ++ Jvm.arrayLocs frame_1_arrays args s ++ Jvm.staticLocs frame_1_statics s) 32 192 → Post tb e args s (.returned v) u) :
    ArmFor flags0 classFile x code maxLocals ret World_1 tables_1 room_1 Calls_1 rest_1 Pre_1 Post := by
  intro l hfl _ _ p e ha hc hk s m args below hf hA hF happ hP
  obtain ⟨hcalls, hrest, hpre⟩ := hP
  obtain ⟨-, -, -, hnamed, -, -, -, hat⟩ := (Spec.applies_iff hf).mp happ
  obtain ⟨hg, hn⟩ := and_e (Cond.before_iff.mp (show (Jvm.Cond.and given_1 narrow_1).before args s = true from hpre))
  obtain ⟨hcnt, g0⟩ := and_e hg
  obtain ⟨k0, g1⟩ := and_e g0
  obtain ⟨k1, g2⟩ := and_e g1
  obtain ⟨k2, g3⟩ := and_e g2
  obtain ⟨k3, g4⟩ := and_e g3
  obtain ⟨k4, g5⟩ := and_e g4
  have k5 := g5
  obtain ⟨w0, w1, w2, w3, w4, w5, rfl⟩ : ∃ w0 w1 w2 w3 w4 w5 : Value, args = #[w0, w1, w2, w3, w4, w5] := by
    have hs : args.size = 6 := by simpa [Cond.value, given_1] using hcnt
    obtain ⟨L⟩ := args
    match L, hs with
    | [w0, w1, w2, w3, w4, w5], _ => exact ⟨w0, w1, w2, w3, w4, w5, rfl⟩
  have hw := fun d (hd : d ∈ tables_1) => atoms_spec (ws := Jvm.Cond.code x code maxLocals ret :: tables_1) hat d (List.mem_cons_of_mem _ hd)
  have hfit : Fit s := fun {y c} hc i hi => by
    obtain ⟨ha, rfl⟩ := Array.getElem?_eq_some_iff.mp hc
    have q := List.all_eq_true.mp ((Array.all_eq_true_iff_forall_mem.mp hF) _ (Array.getElem_mem ha)) i (List.mem_range.mpr hi)
    simpa [Array.getElem?_eq_getElem hi] using q
  obtain ⟨i0, e0⟩ := is_v k0
  obtain rfl : w0 = (.int i0) := Option.some.inj e0
  obtain ⟨i1, e1⟩ := is_v k1
  obtain rfl : w1 = (.int i1) := Option.some.inj e1
  obtain ⟨i2, e2⟩ := is_v k2
  obtain rfl : w2 = (.int i2) := Option.some.inj e2
  obtain ⟨i3, e3⟩ := is_v k3
  obtain rfl : w3 = (.int i3) := Option.some.inj e3
  obtain ⟨i4, e4⟩ := is_v k4
  obtain rfl : w4 = (.int i4) := Option.some.inj e4
  obtain ⟨i5, e5⟩ := is_v k5
  obtain rfl : w5 = (.int i5) := Option.some.inj e5
  obtain ⟨z1, s1⟩ := and_e (Cond.before_iff.mp (show rest_1_c.before _ s = true from hrest))
  obtain ⟨z2, s2⟩ := and_e s1
  obtain ⟨z3, s3⟩ := and_e s2
  obtain ⟨z4, s4⟩ := and_e s3
  obtain ⟨z5, s5⟩ := and_e s4
  obtain ⟨z6, s6⟩ := and_e s5
  obtain ⟨z7, s7⟩ := and_e s6
  obtain ⟨z8, s8⟩ := and_e s7
  obtain ⟨z9, s9⟩ := and_e s8
  obtain ⟨de, ede⟩ := exa_v z8
  have Sd := Sta.start ede (Or.inr ⟨(hw _ (List.mem_of_getElem? (i := 39) rfl)), Cond.before_iff.mpr z3⟩)
  obtain ⟨cl, Ad⟩ := Arr.start ede z7
  have Ed := Exa.start ede z8
  have q5 : cl.slots.size = 0 := by have q := own_arrlen ede Ad z9; have z : (0 : Int32).toInt = 0 := rfl; omega
  have Vd := own_vec0 Ad Ed (hw _ (List.mem_of_getElem? (i := 97) rfl)) q5
  obtain ⟨n, o, h1, h2, h3, _, L, rfl, ⟨rfl, N⟩, hq⟩ := rm0 l s _ hw tables_1 s.heap s.heap.size (Nat.le_refl _) i0 i1 i2 i3 i4 i5 de Sd Vd p e ha hc hk s m _ below hf ((Spec.applies_iff_loose hf).mp happ).1 ⟨rfl, State.Warmed39.refl s, rfl⟩ trivial
  refine ⟨n, _, h1, h2, h3, hpost _ _ _ _ _ _ ⟨Cond.after_iff.mpr rfl, Cond.after_iff.mpr (eq_i res_at (Term.int_eval (1)) rfl), trivial⟩ ⟨hq.1, hq.2.1, (hq.2.2.sift fun y hy => Or.inr (N y hy)).mono (by decide) (by decide)⟩⟩
theorem main_1_1 : Claimed_1_1 := comes_1 fun _ _ _ _ _ _ h hF => ⟨h.1, hF⟩
theorem main_1_2 : Claimed_1_2 := comes_1 fun _ _ _ _ _ _ h hF => ⟨h.2.1, hF⟩
end Jvm.Pilot.@@N@@
namespace Jvm.Pilot.@@N@@
open Jvm Jvm.ClassFile Sem Op Lib Jvm.Free Jvm.Stand Jvm.Pilot.@@N@@.Jvm.D
/-! MADE BY PROGRAM (witnessworld.py) out of the Statement's table words and the real class files: 21 classes; the members and pool entries that the words name. The judged class is class 1, her method 10. -/
namespace start1
open Jvm.ClassFile
def u (s : String) : CpInfo := .utf8 (stringToUtf16 s)
/-- a pool by its gaps: so many unusable entries, then the entry; so many at the end -/
def gap : Nat → List CpInfo → List CpInfo
  | 0, r => r
  | n + 1, r => .unusable :: gap n r
def poolList (es : List (Nat × CpInfo)) (last : Nat) : List CpInfo := es.foldr (fun e r => gap e.1 (e.2 :: r)) (gap last [])
def pool (es : List (Nat × CpInfo)) (last : Nat) : Array CpInfo := ⟨poolList es last⟩
def fileOf (pool : Array CpInfo) (this : Nat) (attrs : Array Attribute := #[]) (ms : Array MethodInfo := #[]) (fl : Nat := 33) (sup : Nat := 0) (ifs : Array Nat := #[]) (fds : Array FieldInfo := #[]) : ClassFile where
  minorVersion := 0
  majorVersion := 65
  constantPool := pool
  accessFlags := fl
  thisClass := this
  superClass := sup
  interfaces := ifs
  fields := fds
  methods := ms
  attributes := attrs
def plain (name : String) (sup : Option ClassId) : Class where
  name := name
  kind := .ordinary
  loader := none
  accessFlags := 33
  super := sup
  interfaces := #[]
  cf := none
  fields := #[]
  methods := #[]
  instanceTypes := #[]
  staticTypes := #[]
  resolved := #[]
  callSites := []
  init := .initialized
  statics := none
  mirror := none

def pool0 : Array CpInfo := pool [(5, u "<init>"), (0, u "()V"), (1, .class_ 10), (1, u "java/lang/Object")] 113

def k0c0 : Code := { maxStack := 0, maxLocals := 1, code := object_method_1_code, exceptionTable := #[], attributes := #[] }
def k0m0 : Method := { name := "<init>", desc := "()V", sig := { parameters := [], returnType := none }, accessFlags := 1, code := some k0c0 }
/-- java/lang/Object -/
def k0 : Class := { plain "java/lang/Object" none with
  accessFlags := 33
  interfaces := #[]
  cf := some (fileOf pool0 8 #[] #[{ accessFlags := 1, nameIndex := 5, descriptorIndex := 6, attributes := #[] }] 33 0 #[] #[])
  fields := #[]
  methods := #[k0m0]
  instanceTypes := #[]
  staticTypes := #[]
  resolved := Array.replicate 124 none
  statics := none }

def pool1 : Array CpInfo := pool [(2, .class_ 4), (1, u "java/lang/Object"), (0, u "<init>"), (0, u "()V"), (0, .methodref 8 9), (0, .class_ 10), (0, .nameAndType 11 12), (0, u "com/example/kembar/kembar/cluster/ClustersJoinPinLaw"), (0, u "relabel"), (0, u "([IIII)V"), (0, .integer 65535), (0, .methodref 15 16), (0, .class_ 17), (0, .nameAndType 18 19), (0, u "com/example/kembar/kembar/cluster/Clusters"), (0, u "join"), (0, u "(II)V"), (0, .methodref 8 21), (0, .nameAndType 22 23), (0, u "merge"), (0, u "([III)V"), (0, .methodref 8 25), (0, .nameAndType 26 27), (0, u "size"), (0, u "([II)I"), (0, .methodref 8 29), (0, .nameAndType 30 27), (0, u "first"), (0, .methodref 8 32), (0, .nameAndType 33 34), (0, u "step"), (0, u "([I[III)Z"), (0, .methodref 15 36), (0, .nameAndType 5 37), (0, u "(I)V"), (0, .methodref 8 39), (0, .nameAndType 40 41), (0, u "both"), (0, u "(Lcom/example/kembar/kembar/cluster/Clusters;[II)V"), (0, .methodref 15 43), (0, .nameAndType 44 45), (0, u "groups"), (0, u "()Ljava/util/List;"), (0, .methodref 8 47), (0, .nameAndType 48 49), (0, u "rankStep"), (0, u "([I[III)I"), (0, .interfaceMethodref 51 52), (0, .class_ 53), (0, .nameAndType 26 54), (0, u "java/util/List"), (0, u "()I"), (0, .interfaceMethodref 51 56), (0, .nameAndType 57 58), (0, u "get"), (0, u "(I)Ljava/lang/Object;"), (0, .class_ 60), (0, u "[I"), (0, .methodref 8 62), (0, .nameAndType 63 64), (0, u "mark"), (0, u "([I[II)Z"), (0, .methodref 8 66), (0, .nameAndType 67 68), (0, u "expect"), (0, u "([I[II)I"), (3, u "law"), (0, u "(IIIIII)Z")] 2

def k1m0 : Method := { name := "<init>", desc := "()V", sig := { parameters := [], returnType := none }, accessFlags := 1, code := none }
def k1c1 : Code := { maxStack := 3, maxLocals := 4, code := method_2_code, exceptionTable := #[], attributes := #[] }
def k1m1 : Method := { name := "relabel", desc := "([IIII)V", sig := { parameters := [(.array .int), .int, .int, .int], returnType := none }, accessFlags := 10, code := some k1c1 }
def k1c2 : Code := { maxStack := 4, maxLocals := 5, code := method_3_code, exceptionTable := #[], attributes := #[] }
def k1m2 : Method := { name := "merge", desc := "([III)V", sig := { parameters := [(.array .int), .int, .int], returnType := none }, accessFlags := 10, code := some k1c2 }
def k1c3 : Code := { maxStack := 3, maxLocals := 5, code := method_4_code, exceptionTable := #[], attributes := #[] }
def k1m3 : Method := { name := "both", desc := "(Lcom/example/kembar/kembar/cluster/Clusters;[II)V", sig := { parameters := [(.object "com/example/kembar/kembar/cluster/Clusters"), (.array .int), .int], returnType := none }, accessFlags := 10, code := some k1c3 }
def k1c4 : Code := { maxStack := 3, maxLocals := 3, code := method_5_code, exceptionTable := #[], attributes := #[] }
def k1m4 : Method := { name := "size", desc := "([II)I", sig := { parameters := [(.array .int), .int], returnType := some .int }, accessFlags := 10, code := some k1c4 }
def k1c5 : Code := { maxStack := 3, maxLocals := 2, code := method_6_code, exceptionTable := #[], attributes := #[] }
def k1m5 : Method := { name := "first", desc := "([II)I", sig := { parameters := [(.array .int), .int], returnType := some .int }, accessFlags := 10, code := some k1c5 }
def k1c6 : Code := { maxStack := 4, maxLocals := 4, code := method_7_code, exceptionTable := #[], attributes := #[] }
def k1m6 : Method := { name := "rankStep", desc := "([I[III)I", sig := { parameters := [(.array .int), (.array .int), .int, .int], returnType := some .int }, accessFlags := 10, code := some k1c6 }
def k1c7 : Code := { maxStack := 3, maxLocals := 3, code := method_8_code, exceptionTable := #[], attributes := #[] }
def k1m7 : Method := { name := "expect", desc := "([I[II)I", sig := { parameters := [(.array .int), (.array .int), .int], returnType := some .int }, accessFlags := 10, code := some k1c7 }
def k1c8 : Code := { maxStack := 3, maxLocals := 5, code := method_9_code, exceptionTable := #[], attributes := #[] }
def k1m8 : Method := { name := "step", desc := "([I[III)Z", sig := { parameters := [(.array .int), (.array .int), .int, .int], returnType := some .boolean }, accessFlags := 10, code := some k1c8 }
def k1c9 : Code := { maxStack := 4, maxLocals := 3, code := method_10_code, exceptionTable := #[], attributes := #[] }
def k1m9 : Method := { name := "mark", desc := "([I[II)Z", sig := { parameters := [(.array .int), (.array .int), .int], returnType := some .boolean }, accessFlags := 10, code := some k1c9 }
def k1c10 : Code := { maxStack := 4, maxLocals := 12, code := code, exceptionTable := #[], attributes := #[] }
def k1m10 : Method := { name := "law", desc := "(IIIIII)Z", sig := { parameters := [.int, .int, .int, .int, .int, .int], returnType := some .boolean }, accessFlags := 9, code := some k1c10 }
/-- com/example/kembar/kembar/cluster/ClustersJoinPinLaw -/
def k1 : Class := { plain "com/example/kembar/kembar/cluster/ClustersJoinPinLaw" (some 0) with
  accessFlags := 49
  interfaces := #[]
  cf := some (fileOf pool1 8 #[] #[{ accessFlags := 1, nameIndex := 5, descriptorIndex := 6, attributes := #[] }, { accessFlags := 10, nameIndex := 11, descriptorIndex := 12, attributes := #[] }, { accessFlags := 10, nameIndex := 22, descriptorIndex := 23, attributes := #[] }, { accessFlags := 10, nameIndex := 40, descriptorIndex := 41, attributes := #[] }, { accessFlags := 10, nameIndex := 26, descriptorIndex := 27, attributes := #[] }, { accessFlags := 10, nameIndex := 30, descriptorIndex := 27, attributes := #[] }, { accessFlags := 10, nameIndex := 48, descriptorIndex := 49, attributes := #[] }, { accessFlags := 10, nameIndex := 67, descriptorIndex := 68, attributes := #[] }, { accessFlags := 10, nameIndex := 33, descriptorIndex := 34, attributes := #[] }, { accessFlags := 10, nameIndex := 63, descriptorIndex := 64, attributes := #[] }, { accessFlags := 9, nameIndex := 72, descriptorIndex := 73, attributes := #[] }] 49 2 #[] #[])
  fields := #[]
  methods := #[k1m0, k1m1, k1m2, k1m3, k1m4, k1m5, k1m6, k1m7, k1m8, k1m9, k1m10]
  instanceTypes := #[]
  staticTypes := #[]
  resolved := Array.replicate 76 none
  statics := none }

def pool2 : Array CpInfo := pool [(1, .methodref 2 3), (0, .class_ 4), (0, .nameAndType 5 6), (0, u "java/lang/Object"), (0, u "<init>"), (0, u "()V"), (0, .fieldref 8 9), (0, .class_ 10), (0, .nameAndType 11 12), (0, u "com/example/kembar/kembar/cluster/Clusters"), (0, u "parents"), (0, u "[I"), (0, .methodref 8 14), (0, .nameAndType 15 16), (0, u "root"), (0, u "(I)I"), (0, .class_ 18), (0, u "java/util/ArrayList"), (0, .methodref 17 3), (0, .class_ 12), (0, .interfaceMethodref 22 23), (0, .class_ 24), (0, .nameAndType 25 26), (0, u "java/util/List"), (0, u "add"), (0, u "(Ljava/lang/Object;)Z"), (0, u "(I)V"), (3, u "join"), (0, u "(II)V"), (0, u "groups"), (0, u "()Ljava/util/List;")] 6

def k2c0 : Code := { maxStack := 3, maxLocals := 3, code := prog_4_method_1_code, exceptionTable := #[], attributes := #[] }
def k2m0 : Method := { name := "<init>", desc := "(I)V", sig := { parameters := [.int], returnType := none }, accessFlags := 1, code := some k2c0 }
def k2c1 : Code := { maxStack := 4, maxLocals := 3, code := prog_4_method_2_code, exceptionTable := #[], attributes := #[] }
def k2m1 : Method := { name := "join", desc := "(II)V", sig := { parameters := [.int, .int], returnType := none }, accessFlags := 1, code := some k2c1 }
def k2c2 : Code := { maxStack := 4, maxLocals := 7, code := prog_4_method_3_code, exceptionTable := #[], attributes := #[] }
def k2m2 : Method := { name := "groups", desc := "()Ljava/util/List;", sig := { parameters := [], returnType := some (.object "java/util/List") }, accessFlags := 1, code := some k2c2 }
def k2c3 : Code := { maxStack := 5, maxLocals := 3, code := prog_4_method_4_code, exceptionTable := #[], attributes := #[] }
def k2m3 : Method := { name := "root", desc := "(I)I", sig := { parameters := [.int], returnType := some .int }, accessFlags := 2, code := some k2c3 }
/-- com/example/kembar/kembar/cluster/Clusters -/
def k2 : Class := { plain "com/example/kembar/kembar/cluster/Clusters" (some 0) with
  accessFlags := 49
  interfaces := #[]
  cf := some (fileOf pool2 8 #[] #[{ accessFlags := 1, nameIndex := 5, descriptorIndex := 27, attributes := #[] }, { accessFlags := 1, nameIndex := 31, descriptorIndex := 32, attributes := #[] }, { accessFlags := 1, nameIndex := 33, descriptorIndex := 34, attributes := #[] }, { accessFlags := 2, nameIndex := 15, descriptorIndex := 16, attributes := #[] }] 49 2 #[] #[{ accessFlags := 18, nameIndex := 11, descriptorIndex := 12, attributes := #[] }])
  fields := #[{ name := "parents", type := (.array .int), accessFlags := 18, slot := 0, constantValue := 0 }]
  methods := #[k2m0, k2m1, k2m2, k2m3]
  instanceTypes := #[(.array .int)]
  staticTypes := #[]
  resolved := Array.replicate 41 none
  statics := none }

def pool3 : Array CpInfo := pool [(8, .class_ 10), (1, u "java/lang/Iterable"), (24, .class_ 36), (0, u "java/lang/Object")] 25

/-- java/lang/Iterable -/
def k3 : Class := { plain "java/lang/Iterable" (some 0) with
  accessFlags := 1537
  interfaces := #[]
  cf := some (fileOf pool3 8 #[] #[] 1537 35 #[] #[])
  fields := #[]
  methods := #[]
  instanceTypes := #[]
  staticTypes := #[]
  resolved := Array.replicate 62 none
  statics := none }

def pool4 : Array CpInfo := pool [(10, .class_ 12), (1, u "java/util/Collection"), (47, .class_ 61), (0, u "java/lang/Object"), (0, .class_ 63), (0, u "java/lang/Iterable")] 51

/-- java/util/Collection -/
def k4 : Class := { plain "java/util/Collection" (some 0) with
  accessFlags := 1537
  interfaces := #[3]
  cf := some (fileOf pool4 10 #[] #[] 1537 60 #[62] #[])
  fields := #[]
  methods := #[]
  instanceTypes := #[]
  staticTypes := #[]
  resolved := Array.replicate 115 none
  statics := none }

def pool5 : Array CpInfo := pool [(1, .methodref 2 3), (0, .class_ 4), (0, .nameAndType 5 6), (0, u "java/lang/Object"), (0, u "<init>"), (0, u "()V"), (1, .class_ 10), (1, u "java/util/AbstractCollection"), (66, .class_ 78), (0, u "java/util/Collection")] 81

def k5c0 : Code := { maxStack := 1, maxLocals := 1, code := jdk_22_method_1_code, exceptionTable := #[], attributes := #[] }
def k5m0 : Method := { name := "<init>", desc := "()V", sig := { parameters := [], returnType := none }, accessFlags := 4, code := some k5c0 }
/-- java/util/AbstractCollection -/
def k5 : Class := { plain "java/util/AbstractCollection" (some 0) with
  accessFlags := 1057
  interfaces := #[4]
  cf := some (fileOf pool5 8 #[] #[{ accessFlags := 4, nameIndex := 5, descriptorIndex := 6, attributes := #[] }] 1057 2 #[77] #[])
  fields := #[]
  methods := #[k5m0]
  instanceTypes := #[]
  staticTypes := #[]
  resolved := Array.replicate 160 none
  statics := none }

def pool6 : Array CpInfo := pool [(8, .class_ 10), (1, u "java/util/SequencedCollection"), (15, .class_ 27), (0, u "java/lang/Object"), (0, .class_ 29), (0, u "java/util/Collection")] 27

/-- java/util/SequencedCollection -/
def k6 : Class := { plain "java/util/SequencedCollection" (some 0) with
  accessFlags := 1537
  interfaces := #[4]
  cf := some (fileOf pool6 8 #[] #[] 1537 26 #[28] #[])
  fields := #[]
  methods := #[]
  instanceTypes := #[]
  staticTypes := #[]
  resolved := Array.replicate 57 none
  statics := none }

def pool7 : Array CpInfo := pool [(8, .class_ 10), (1, u "java/util/List"), (49, u "add"), (3, u "(Ljava/lang/Object;)Z"), (10, u "get"), (0, u "(I)Ljava/lang/Object;"), (2, u "size"), (0, u "()I"), (22, .class_ 104), (0, u "java/lang/Object"), (15, .class_ 121), (0, u "java/util/SequencedCollection")] 129

def k7m0 : Method := { name := "size", desc := "()I", sig := { parameters := [], returnType := some .int }, accessFlags := 1025, code := none }
def k7m1 : Method := { name := "add", desc := "(Ljava/lang/Object;)Z", sig := { parameters := [(.object "java/lang/Object")], returnType := some .boolean }, accessFlags := 1025, code := none }
def k7m2 : Method := { name := "get", desc := "(I)Ljava/lang/Object;", sig := { parameters := [.int], returnType := some (.object "java/lang/Object") }, accessFlags := 1025, code := none }
/-- java/util/List -/
def k7 : Class := { plain "java/util/List" (some 0) with
  accessFlags := 1537
  interfaces := #[6]
  cf := some (fileOf pool7 8 #[] #[{ accessFlags := 1025, nameIndex := 79, descriptorIndex := 80, attributes := #[] }, { accessFlags := 1025, nameIndex := 60, descriptorIndex := 64, attributes := #[] }, { accessFlags := 1025, nameIndex := 75, descriptorIndex := 76, attributes := #[] }] 1537 103 #[120] #[])
  fields := #[]
  methods := #[k7m0, k7m1, k7m2]
  instanceTypes := #[]
  staticTypes := #[]
  resolved := Array.replicate 251 none
  statics := none }

def pool8 : Array CpInfo := pool [(1, .methodref 2 3), (0, .class_ 4), (0, .nameAndType 5 6), (0, u "java/util/AbstractCollection"), (0, u "<init>"), (0, u "()V"), (0, .fieldref 8 9), (0, .class_ 10), (0, .nameAndType 11 12), (0, u "java/util/AbstractList"), (0, u "modCount"), (0, u "I"), (64, .class_ 78), (0, u "java/util/AbstractList$Itr"), (3, .class_ 83), (0, u "java/util/AbstractList$ListItr"), (9, .class_ 94), (0, u "java/util/AbstractList$RandomAccessSubList"), (3, .class_ 99), (0, u "java/util/AbstractList$SubList"), (33, .class_ 134), (0, u "java/util/List"), (73, .class_ 209), (0, u "java/util/AbstractList$SubList$1"), (0, .class_ 211), (0, u "java/util/AbstractList$RandomAccessSpliterator")] 6

def k8c0 : Code := { maxStack := 2, maxLocals := 1, code := jdk_39_method_1_code, exceptionTable := #[], attributes := #[] }
def k8m0 : Method := { name := "<init>", desc := "()V", sig := { parameters := [], returnType := none }, accessFlags := 4, code := some k8c0 }
/-- java/util/AbstractList -/
def k8 : Class := { plain "java/util/AbstractList" (some 5) with
  accessFlags := 1057
  interfaces := #[7]
  cf := some (fileOf pool8 8 #[.nestMembers #[93, 98, 208, 210, 82, 77]] #[{ accessFlags := 4, nameIndex := 5, descriptorIndex := 6, attributes := #[] }] 1057 2 #[133] #[{ accessFlags := 132, nameIndex := 11, descriptorIndex := 12, attributes := #[] }])
  fields := #[{ name := "modCount", type := .int, accessFlags := 132, slot := 0, constantValue := 0 }]
  methods := #[k8m0]
  instanceTypes := #[.int]
  staticTypes := #[]
  resolved := Array.replicate 218 none
  statics := none }

def pool9 : Array CpInfo := pool [(1, .class_ 2), (0, u "java/util/RandomAccess"), (0, .class_ 4), (0, u "java/lang/Object")] 2

/-- java/util/RandomAccess -/
def k9 : Class := { plain "java/util/RandomAccess" (some 0) with
  accessFlags := 1537
  interfaces := #[]
  cf := some (fileOf pool9 1 #[] #[] 1537 3 #[] #[])
  fields := #[]
  methods := #[]
  instanceTypes := #[]
  staticTypes := #[]
  resolved := Array.replicate 7 none
  statics := none }

def pool10 : Array CpInfo := pool [(1, .class_ 2), (0, u "java/lang/Cloneable"), (0, .class_ 4), (0, u "java/lang/Object")] 2

/-- java/lang/Cloneable -/
def k10 : Class := { plain "java/lang/Cloneable" (some 0) with
  accessFlags := 1537
  interfaces := #[]
  cf := some (fileOf pool10 1 #[] #[] 1537 3 #[] #[])
  fields := #[]
  methods := #[]
  instanceTypes := #[]
  staticTypes := #[]
  resolved := Array.replicate 7 none
  statics := none }

def pool11 : Array CpInfo := pool [(1, .class_ 2), (0, u "java/io/Serializable"), (0, .class_ 4), (0, u "java/lang/Object")] 2

/-- java/io/Serializable -/
def k11 : Class := { plain "java/io/Serializable" (some 0) with
  accessFlags := 1537
  interfaces := #[]
  cf := some (fileOf pool11 1 #[] #[] 1537 3 #[] #[])
  fields := #[]
  methods := #[]
  instanceTypes := #[]
  staticTypes := #[]
  resolved := Array.replicate 7 none
  statics := none }

def pool12 : Array CpInfo := pool [(1, .methodref 2 3), (0, .class_ 4), (0, .nameAndType 5 6), (0, u "java/util/AbstractList"), (0, u "<init>"), (0, u "()V"), (0, .class_ 8), (0, u "java/lang/Object"), (0, .fieldref 10 11), (0, .class_ 12), (0, .nameAndType 13 14), (0, u "java/util/ArrayList"), (0, u "elementData"), (0, u "[Ljava/lang/Object;"), (2, u "EMPTY_ELEMENTDATA"), (21, .fieldref 10 40), (0, .nameAndType 41 14), (0, u "DEFAULTCAPACITY_EMPTY_ELEMENTDATA"), (5, u "()[Ljava/lang/Object;"), (0, .fieldref 10 49), (0, .nameAndType 50 51), (0, u "size"), (0, u "I"), (11, .fieldref 10 64), (0, .nameAndType 65 51), (0, u "modCount"), (3, .methodref 10 70), (0, .nameAndType 71 72), (0, u "grow"), (0, u "(I)[Ljava/lang/Object;"), (6, .methodref 80 81), (0, .class_ 82), (0, .nameAndType 83 84), (0, u "java/lang/Math"), (0, u "max"), (0, u "(II)I"), (11, u "(Ljava/lang/Object;)Z"), (21, .methodref 119 120), (0, .class_ 121), (0, .nameAndType 122 84), (0, u "java/util/Objects"), (0, u "checkIndex"), (0, .methodref 10 124), (0, .nameAndType 13 125), (0, u "(I)Ljava/lang/Object;"), (3, .methodref 10 130), (0, .nameAndType 71 47), (0, .methodref 10 132), (0, .nameAndType 133 134), (0, u "add"), (0, u "(Ljava/lang/Object;[Ljava/lang/Object;I)V"), (13, .class_ 149), (0, u "java/util/List"), (36, u "()I"), (75, .class_ 263), (0, u "java/util/ArrayList$ListItr"), (3, .class_ 268), (0, u "java/util/ArrayList$Itr"), (7, .class_ 277), (0, u "java/util/ArrayList$SubList"), (12, .class_ 291), (0, u "java/util/ArrayList$ArrayListSpliterator"), (37, .class_ 330), (0, u "java/util/RandomAccess"), (0, .class_ 332), (0, u "java/lang/Cloneable"), (0, .class_ 334), (0, u "java/io/Serializable"), (0, u "serialVersionUID"), (0, u "J"), (3, u "DEFAULT_CAPACITY"), (40, u "get"), (118, .class_ 501), (0, u "java/util/ArrayList$SubList$2"), (0, .class_ 503), (0, u "java/util/ArrayList$SubList$1")] 5

def k12c0 : Code := { maxStack := 2, maxLocals := 1, code := jdk_38_method_2_code, exceptionTable := #[], attributes := #[] }
def k12m0 : Method := { name := "<init>", desc := "()V", sig := { parameters := [], returnType := none }, accessFlags := 1, code := some k12c0 }
def k12c1 : Code := { maxStack := 4, maxLocals := 4, code := jdk_38_method_6_code, exceptionTable := #[], attributes := #[] }
def k12m1 : Method := { name := "grow", desc := "(I)[Ljava/lang/Object;", sig := { parameters := [.int], returnType := some (.array (.object "java/lang/Object")) }, accessFlags := 2, code := some k12c1 }
def k12c2 : Code := { maxStack := 3, maxLocals := 1, code := jdk_38_method_7_code, exceptionTable := #[], attributes := #[] }
def k12m2 : Method := { name := "grow", desc := "()[Ljava/lang/Object;", sig := { parameters := [], returnType := some (.array (.object "java/lang/Object")) }, accessFlags := 2, code := some k12c2 }
def k12c3 : Code := { maxStack := 1, maxLocals := 1, code := jdk_38_method_8_code, exceptionTable := #[], attributes := #[] }
def k12m3 : Method := { name := "size", desc := "()I", sig := { parameters := [], returnType := some .int }, accessFlags := 1, code := some k12c3 }
def k12c4 : Code := { maxStack := 2, maxLocals := 2, code := jdk_38_method_18_code, exceptionTable := #[], attributes := #[] }
def k12m4 : Method := { name := "elementData", desc := "(I)Ljava/lang/Object;", sig := { parameters := [.int], returnType := some (.object "java/lang/Object") }, accessFlags := 0, code := some k12c4 }
def k12c5 : Code := { maxStack := 2, maxLocals := 2, code := jdk_38_method_20_code, exceptionTable := #[], attributes := #[] }
def k12m5 : Method := { name := "get", desc := "(I)Ljava/lang/Object;", sig := { parameters := [.int], returnType := some (.object "java/lang/Object") }, accessFlags := 1, code := some k12c5 }
def k12c6 : Code := { maxStack := 3, maxLocals := 4, code := jdk_38_method_24_code, exceptionTable := #[], attributes := #[] }
def k12m6 : Method := { name := "add", desc := "(Ljava/lang/Object;[Ljava/lang/Object;I)V", sig := { parameters := [(.object "java/lang/Object"), (.array (.object "java/lang/Object")), .int], returnType := none }, accessFlags := 2, code := some k12c6 }
def k12c7 : Code := { maxStack := 4, maxLocals := 2, code := jdk_38_method_25_code, exceptionTable := #[], attributes := #[] }
def k12m7 : Method := { name := "add", desc := "(Ljava/lang/Object;)Z", sig := { parameters := [(.object "java/lang/Object")], returnType := some .boolean }, accessFlags := 1, code := some k12c7 }
/-- java/util/ArrayList -/
def k12 : Class := { plain "java/util/ArrayList" (some 8) with
  accessFlags := 33
  interfaces := #[7, 9, 10, 11]
  cf := some (fileOf pool12 10 #[.nestMembers #[290, 276, 500, 502, 262, 267]] #[{ accessFlags := 1, nameIndex := 5, descriptorIndex := 6, attributes := #[] }, { accessFlags := 2, nameIndex := 71, descriptorIndex := 72, attributes := #[] }, { accessFlags := 2, nameIndex := 71, descriptorIndex := 47, attributes := #[] }, { accessFlags := 1, nameIndex := 50, descriptorIndex := 186, attributes := #[] }, { accessFlags := 0, nameIndex := 13, descriptorIndex := 125, attributes := #[] }, { accessFlags := 1, nameIndex := 381, descriptorIndex := 125, attributes := #[] }, { accessFlags := 2, nameIndex := 133, descriptorIndex := 134, attributes := #[] }, { accessFlags := 1, nameIndex := 133, descriptorIndex := 96, attributes := #[] }] 33 2 #[148, 329, 331, 333] #[{ accessFlags := 26, nameIndex := 335, descriptorIndex := 336, attributes := #[] }, { accessFlags := 26, nameIndex := 340, descriptorIndex := 51, attributes := #[] }, { accessFlags := 26, nameIndex := 17, descriptorIndex := 14, attributes := #[] }, { accessFlags := 26, nameIndex := 41, descriptorIndex := 14, attributes := #[] }, { accessFlags := 128, nameIndex := 13, descriptorIndex := 14, attributes := #[] }, { accessFlags := 2, nameIndex := 50, descriptorIndex := 51, attributes := #[] }])
  fields := #[{ name := "serialVersionUID", type := .long, accessFlags := 26, slot := 0, constantValue := 0 }, { name := "DEFAULT_CAPACITY", type := .int, accessFlags := 26, slot := 1, constantValue := 0 }, { name := "EMPTY_ELEMENTDATA", type := (.array (.object "java/lang/Object")), accessFlags := 26, slot := 2, constantValue := 0 }, { name := "DEFAULTCAPACITY_EMPTY_ELEMENTDATA", type := (.array (.object "java/lang/Object")), accessFlags := 26, slot := 3, constantValue := 0 }, { name := "elementData", type := (.array (.object "java/lang/Object")), accessFlags := 128, slot := 1, constantValue := 0 }, { name := "size", type := .int, accessFlags := 2, slot := 2, constantValue := 0 }]
  methods := #[k12m0, k12m1, k12m2, k12m3, k12m4, k12m5, k12m6, k12m7]
  instanceTypes := #[.int, (.array (.object "java/lang/Object")), .int]
  staticTypes := #[.long, .int, (.array (.object "java/lang/Object")), (.array (.object "java/lang/Object"))]
  resolved := Array.replicate 509 none
  statics := some 0 }

def pool13 : Array CpInfo := pool [(1, .class_ 2), (0, u "java/lang/Math"), (1, .class_ 6), (1, u "java/lang/Object"), (0, u "<init>"), (0, u "()V"), (89, .class_ 100), (1, u "java/lang/Math$RandomNumberGeneratorHolder"), (71, u "negativeZeroFloatBits"), (0, u "J"), (2, u "negativeZeroDoubleBits"), (21, u "max"), (46, u "$assertionsDisabled"), (0, u "Z"), (88, u "(II)I"), (2, u "twoToTheDoubleScaleDown"), (0, u "D"), (4, u "twoToTheDoubleScaleUp"), (9, u "E"), (3, u "PI"), (2, u "TAU"), (2, u "DEGREES_TO_RADIANS"), (0, u "RADIANS_TO_DEGREES")] 94

def k13m0 : Method := { name := "<init>", desc := "()V", sig := { parameters := [], returnType := none }, accessFlags := 2, code := none }
def k13c1 : Code := { maxStack := 2, maxLocals := 2, code := jdk_29_method_65_code, exceptionTable := #[], attributes := #[] }
def k13m1 : Method := { name := "max", desc := "(II)I", sig := { parameters := [.int, .int], returnType := some .int }, accessFlags := 9, code := some k13c1 }
/-- java/lang/Math -/
def k13 : Class := { plain "java/lang/Math" (some 0) with
  accessFlags := 49
  interfaces := #[]
  cf := some (fileOf pool13 1 #[.nestMembers #[98]] #[{ accessFlags := 2, nameIndex := 7, descriptorIndex := 8, attributes := #[] }, { accessFlags := 9, nameIndex := 198, descriptorIndex := 335, attributes := #[] }] 49 4 #[] #[{ accessFlags := 25, nameIndex := 354, descriptorIndex := 339, attributes := #[] }, { accessFlags := 25, nameIndex := 358, descriptorIndex := 339, attributes := #[] }, { accessFlags := 25, nameIndex := 361, descriptorIndex := 339, attributes := #[] }, { accessFlags := 26, nameIndex := 364, descriptorIndex := 339, attributes := #[] }, { accessFlags := 26, nameIndex := 365, descriptorIndex := 339, attributes := #[] }, { accessFlags := 26, nameIndex := 172, descriptorIndex := 173, attributes := #[] }, { accessFlags := 26, nameIndex := 176, descriptorIndex := 173, attributes := #[] }, { accessFlags := 8, nameIndex := 344, descriptorIndex := 339, attributes := #[] }, { accessFlags := 8, nameIndex := 338, descriptorIndex := 339, attributes := #[] }, { accessFlags := 4120, nameIndex := 245, descriptorIndex := 246, attributes := #[] }])
  fields := #[{ name := "E", type := .double, accessFlags := 25, slot := 0, constantValue := 0 }, { name := "PI", type := .double, accessFlags := 25, slot := 1, constantValue := 0 }, { name := "TAU", type := .double, accessFlags := 25, slot := 2, constantValue := 0 }, { name := "DEGREES_TO_RADIANS", type := .double, accessFlags := 26, slot := 3, constantValue := 0 }, { name := "RADIANS_TO_DEGREES", type := .double, accessFlags := 26, slot := 4, constantValue := 0 }, { name := "negativeZeroFloatBits", type := .long, accessFlags := 26, slot := 5, constantValue := 0 }, { name := "negativeZeroDoubleBits", type := .long, accessFlags := 26, slot := 6, constantValue := 0 }, { name := "twoToTheDoubleScaleUp", type := .double, accessFlags := 8, slot := 7, constantValue := 0 }, { name := "twoToTheDoubleScaleDown", type := .double, accessFlags := 8, slot := 8, constantValue := 0 }, { name := "$assertionsDisabled", type := .boolean, accessFlags := 4120, slot := 9, constantValue := 0 }]
  methods := #[k13m0, k13m1]
  instanceTypes := #[]
  staticTypes := #[.double, .double, .double, .double, .double, .long, .long, .double, .double, .boolean]
  resolved := Array.replicate 460 none
  statics := none }

def pool14 : Array CpInfo := pool [(2, .class_ 4), (1, u "java/lang/Object"), (0, u "<init>"), (0, u "()V"), (35, .class_ 44), (1, u "java/util/Objects"), (60, .methodref 106 107), (0, .class_ 108), (0, .nameAndType 109 110), (0, u "jdk/internal/util/Preconditions"), (0, u "checkIndex"), (0, u "(IILjava/util/function/BiFunction;)I"), (60, u "(II)I")] 12

def k14m0 : Method := { name := "<init>", desc := "()V", sig := { parameters := [], returnType := none }, accessFlags := 2, code := none }
def k14c1 : Code := { maxStack := 3, maxLocals := 2, code := jdk_31_method_17_code, exceptionTable := #[], attributes := #[] }
def k14m1 : Method := { name := "checkIndex", desc := "(II)I", sig := { parameters := [.int, .int], returnType := some .int }, accessFlags := 9, code := some k14c1 }
/-- java/util/Objects -/
def k14 : Class := { plain "java/util/Objects" (some 0) with
  accessFlags := 49
  interfaces := #[]
  cf := some (fileOf pool14 42 #[] #[{ accessFlags := 2, nameIndex := 5, descriptorIndex := 6, attributes := #[] }, { accessFlags := 9, nameIndex := 109, descriptorIndex := 171, attributes := #[] }] 49 2 #[] #[])
  fields := #[]
  methods := #[k14m0, k14m1]
  instanceTypes := #[]
  staticTypes := #[]
  resolved := Array.replicate 184 none
  statics := none }

def pool15 : Array CpInfo := pool [(2, .class_ 4), (1, u "java/lang/Object"), (0, u "<init>"), (0, u "()V"), (17, .class_ 26), (1, u "jdk/internal/util/Preconditions"), (6, u "checkIndex"), (21, .class_ 56), (0, u "jdk/internal/util/Preconditions$4"), (57, .class_ 115), (0, u "jdk/internal/util/Preconditions$1"), (7, u "SIOOBE_FORMATTER"), (0, u "Ljava/util/function/BiFunction;"), (0, .class_ 126), (0, u "jdk/internal/util/Preconditions$2"), (3, u "AIOOBE_FORMATTER"), (0, .class_ 132), (0, u "jdk/internal/util/Preconditions$3"), (3, u "IOOBE_FORMATTER"), (41, u "(IILjava/util/function/BiFunction;)I")] 15

def k15m0 : Method := { name := "<init>", desc := "()V", sig := { parameters := [], returnType := none }, accessFlags := 1, code := none }
def k15c1 : Code := { maxStack := 3, maxLocals := 3, code := jdk_41_method_11_code, exceptionTable := #[], attributes := #[] }
def k15m1 : Method := { name := "checkIndex", desc := "(IILjava/util/function/BiFunction;)I", sig := { parameters := [.int, .int, (.object "java/util/function/BiFunction")], returnType := some .int }, accessFlags := 9, code := some k15c1 }
/-- jdk/internal/util/Preconditions -/
def k15 : Class := { plain "jdk/internal/util/Preconditions" (some 0) with
  accessFlags := 33
  interfaces := #[]
  cf := some (fileOf pool15 24 #[.nestMembers #[55, 131, 125, 114]] #[{ accessFlags := 1, nameIndex := 5, descriptorIndex := 6, attributes := #[] }, { accessFlags := 9, nameIndex := 33, descriptorIndex := 178, attributes := #[] }] 33 2 #[] #[{ accessFlags := 25, nameIndex := 123, descriptorIndex := 124, attributes := #[] }, { accessFlags := 25, nameIndex := 130, descriptorIndex := 124, attributes := #[] }, { accessFlags := 25, nameIndex := 136, descriptorIndex := 124, attributes := #[] }])
  fields := #[{ name := "SIOOBE_FORMATTER", type := (.object "java/util/function/BiFunction"), accessFlags := 25, slot := 0, constantValue := 0 }, { name := "AIOOBE_FORMATTER", type := (.object "java/util/function/BiFunction"), accessFlags := 25, slot := 1, constantValue := 0 }, { name := "IOOBE_FORMATTER", type := (.object "java/util/function/BiFunction"), accessFlags := 25, slot := 2, constantValue := 0 }]
  methods := #[k15m0, k15m1]
  instanceTypes := #[]
  staticTypes := #[(.object "java/util/function/BiFunction"), (.object "java/util/function/BiFunction"), (.object "java/util/function/BiFunction")]
  resolved := Array.replicate 194 none
  statics := none }

/-- the primitive byte -/
def k16 : Class := { plain "byte" none with kind := .primitive 'B', accessFlags := 0x411 }
/-- [B -/
def k17 : Class := { plain "[B" (some 0) with kind := .array 16 .byte, interfaces := #[10, 11], accessFlags := 1041 }

/-- the primitive int -/
def k18 : Class := { plain "int" none with kind := .primitive 'I', accessFlags := 0x411 }
/-- [I -/
def k19 : Class := { plain "[I" (some 0) with kind := .array 18 .int, interfaces := #[10, 11], accessFlags := 1041 }

/-- [Ljava/lang/Object; -/
def k20 : Class := { plain "[Ljava/lang/Object;" (some 0) with kind := .array 0 (.object "java/lang/Object"), interfaces := #[10, 11], accessFlags := 1041 }

/-- [[I -/
def k21 : Class := { plain "[[I" (some 0) with kind := .array 19 (.array .int), interfaces := #[10, 11], accessFlags := 1041 }

def heap : Heap := #[{ cls := 12, slots := #[.long 0, .int 0, .ref 1, .ref 2], vm := .statics 12 },
  { cls := 20, slots := #[], vm := .none },
  { cls := 20, slots := #[], vm := .none }]
def classes : Array Class := #[k0, k1, k2, k3, k4, k5, k6, k7, k8, k9, k10, k11, k12, k13, k14, k15, k16, k17, k18, k19, k20, k21]
def interned : List (Array UInt16 × Addr) := []
def slotsUsed : Nat := 4
def theMethod : MethodId := ⟨1, 10⟩
def args0 : Array Value := #[.int 1, .int 2, .int 3, .int 4, .int 5, .int 6]
def aboutOver (below : List Frame) : State where
  vm := { classes := classes, interned := interned.toArray }
  heap := heap
  slotsUsed := slotsUsed
  threads := #[{ frames := .invoking theMethod args0 :: below }]
def below0 : List Frame := [.native { method := ⟨0, 0⟩, args := #[] }]
def about1 : State := aboutOver below0
def p0 : Program := .bare "" "" ""
def e0 : Env := launch0.env 0 0 0
theorem w_frames : about1.frames = Frame.invoking theMethod args0 :: below0 := rfl
set_option maxRecDepth 65536 in
theorem w_args : argsFit about1.vm theMethod args0 = true := by decide +kernel
set_option maxRecDepth 65536 in
theorem w_heap : heapFits about1 = true := by decide +kernel
set_option maxRecDepth 65536 in
theorem w_runnable : about1.curStatus? = some .runnable := by decide +kernel
set_option maxRecDepth 65536 in
theorem w_alone : about1.alone = true := by decide +kernel
set_option maxRecDepth 65536 in
theorem w_named : about1.methodNamed? x = some theMethod := by decide +kernel
set_option maxRecDepth 65536 in
theorem w_hears : about1.hears theMethod below0 = true := by decide +kernel
set_option maxRecDepth 65536 in
theorem w_ripe : about1.ripe theMethod args0 below0 = true := by decide +kernel
theorem w_running : about1.status = .running := rfl
set_option maxRecDepth 65536 in
theorem w_room : about1.hasRoom e0.platform room_1 = true :=
  launch0.hasRoom_least _ room_1 (by decide +kernel) (by decide +kernel) (by decide +kernel) (by decide +kernel) (by decide +kernel) (by decide +kernel)
theorem allAtoms_all (ts : List Jvm.Cond) (a : Array Jvm.Value) (st : Jvm.State) : (allAtoms ts).before a st = ts.all (fun c => c.before a st) := by
  induction ts with
  | nil => rfl
  | cons c t ih =>
    show (Jvm.Cond.and c (allAtoms t)).before a st = _
    rw [Jvm.Cond.before_and, ih, List.all_cons]
def words1 : List Jvm.Cond := Jvm.Cond.code x code maxLocals ret :: tables_1
/-- a 'code' word, met by the world's own term for the bytes: nothing is compared byte by byte -/
theorem code_word {y : MethodName} {bytes : ByteArray} {mx : Nat} {rt : Option FieldType} {a : Array Value} {s : State} {m : MethodId} {meth : Method} {c : Code} (h1 : s.methodNamed? y = some m) (h2 : s.vm.method? m = some meth) (h3 : meth.code = some c) (h4 : c.code = bytes)
    (h5 : (c.maxLocals == mx && c.exceptionTable.isEmpty && decide (c.maxStack ≤ mostOperands) && decide (meth.sig.returnType = rt) && !meth.locks && decide (parseMethodDescriptor y.desc = some meth.sig)) = true) : (Jvm.Cond.code y bytes mx rt).before a s = true := by
  simp only [Bool.and_eq_true, beq_iff_eq, Bool.not_eq_true', decide_eq_true_eq] at h5
  obtain ⟨⟨⟨⟨⟨g1, g2⟩, g3⟩, g4⟩, g5⟩, g6⟩ := h5
  simp [Cond.before, Cond.holds, Cond.value, h1, h2, h3, h4, g1, g2, g3, g4, g5, g6]
def isCode : Jvm.Cond → Bool
  | .code _ _ _ _ => true
  | _ => false
theorem all_split {L : List Jvm.Cond} {P : Jvm.Cond → Bool} (h1 : L.all (fun c => isCode c || P c) = true) (h2 : ∀ c ∈ L.filter isCode, P c = true) : L.all P = true := by
  refine List.all_eq_true.mpr fun c hc => ?_
  have h := List.all_eq_true.mp h1 c hc
  rcases Bool.eq_false_or_eq_true (isCode c) with hi | hi
  · exact h2 c (List.mem_filter.mpr ⟨hc, hi⟩)
  · simpa [hi] using h
set_option maxRecDepth 65536 in
theorem w_c0 : (Jvm.Cond.code x code maxLocals ret).before args0 about1 = true := code_word (m := ⟨1, 10⟩) (meth := k1m10) (c := k1c10) (by decide +kernel) rfl rfl rfl (by decide +kernel)
set_option maxRecDepth 65536 in
theorem w_c1 : (Jvm.Cond.code ({ cls := "com/example/kembar/kembar/cluster/Clusters", name := "<init>", desc := "(I)V" } : Jvm.MethodName) prog_4_method_1_code (3 : Nat) (Option.none : Option Jvm.ClassFile.FieldType)).before args0 about1 = true := code_word (m := ⟨2, 0⟩) (meth := k2m0) (c := k2c0) (by decide +kernel) rfl rfl rfl (by decide +kernel)
set_option maxRecDepth 65536 in
theorem w_c2 : (Jvm.Cond.code ({ cls := "java/lang/Object", name := "<init>", desc := "()V" } : Jvm.MethodName) object_method_1_code (1 : Nat) (Option.none : Option Jvm.ClassFile.FieldType)).before args0 about1 = true := code_word (m := ⟨0, 0⟩) (meth := k0m0) (c := k0c0) (by decide +kernel) rfl rfl rfl (by decide +kernel)
set_option maxRecDepth 65536 in
theorem w_c3 : (Jvm.Cond.code ({ cls := "com/example/kembar/kembar/cluster/ClustersJoinPinLaw", name := "both", desc := "(Lcom/example/kembar/kembar/cluster/Clusters;[II)V" } : Jvm.MethodName) method_4_code (5 : Nat) (Option.none : Option Jvm.ClassFile.FieldType)).before args0 about1 = true := code_word (m := ⟨1, 3⟩) (meth := k1m3) (c := k1c3) (by decide +kernel) rfl rfl rfl (by decide +kernel)
set_option maxRecDepth 65536 in
theorem w_c4 : (Jvm.Cond.code ({ cls := "com/example/kembar/kembar/cluster/Clusters", name := "join", desc := "(II)V" } : Jvm.MethodName) prog_4_method_2_code (3 : Nat) (Option.none : Option Jvm.ClassFile.FieldType)).before args0 about1 = true := code_word (m := ⟨2, 1⟩) (meth := k2m1) (c := k2c1) (by decide +kernel) rfl rfl rfl (by decide +kernel)
set_option maxRecDepth 65536 in
theorem w_c5 : (Jvm.Cond.code ({ cls := "com/example/kembar/kembar/cluster/Clusters", name := "root", desc := "(I)I" } : Jvm.MethodName) prog_4_method_4_code (3 : Nat) (Option.some Jvm.ClassFile.FieldType.int)).before args0 about1 = true := code_word (m := ⟨2, 3⟩) (meth := k2m3) (c := k2c3) (by decide +kernel) rfl rfl rfl (by decide +kernel)
set_option maxRecDepth 65536 in
theorem w_c6 : (Jvm.Cond.code ({ cls := "com/example/kembar/kembar/cluster/ClustersJoinPinLaw", name := "merge", desc := "([III)V" } : Jvm.MethodName) method_3_code (5 : Nat) (Option.none : Option Jvm.ClassFile.FieldType)).before args0 about1 = true := code_word (m := ⟨1, 2⟩) (meth := k1m2) (c := k1c2) (by decide +kernel) rfl rfl rfl (by decide +kernel)
set_option maxRecDepth 65536 in
theorem w_c7 : (Jvm.Cond.code ({ cls := "com/example/kembar/kembar/cluster/ClustersJoinPinLaw", name := "relabel", desc := "([IIII)V" } : Jvm.MethodName) method_2_code (4 : Nat) (Option.none : Option Jvm.ClassFile.FieldType)).before args0 about1 = true := code_word (m := ⟨1, 1⟩) (meth := k1m1) (c := k1c1) (by decide +kernel) rfl rfl rfl (by decide +kernel)
set_option maxRecDepth 65536 in
theorem w_c8 : (Jvm.Cond.code ({ cls := "com/example/kembar/kembar/cluster/Clusters", name := "groups", desc := "()Ljava/util/List;" } : Jvm.MethodName) prog_4_method_3_code (7 : Nat) (Option.some (Jvm.ClassFile.FieldType.object "java/util/List"))).before args0 about1 = true := code_word (m := ⟨2, 2⟩) (meth := k2m2) (c := k2c2) (by decide +kernel) rfl rfl rfl (by decide +kernel)
set_option maxRecDepth 65536 in
theorem w_c9 : (Jvm.Cond.code ({ cls := "java/util/ArrayList", name := "<init>", desc := "()V" } : Jvm.MethodName) jdk_38_method_2_code (1 : Nat) (Option.none : Option Jvm.ClassFile.FieldType)).before args0 about1 = true := code_word (m := ⟨12, 0⟩) (meth := k12m0) (c := k12c0) (by decide +kernel) rfl rfl rfl (by decide +kernel)
set_option maxRecDepth 65536 in
theorem w_c10 : (Jvm.Cond.code ({ cls := "java/util/AbstractList", name := "<init>", desc := "()V" } : Jvm.MethodName) jdk_39_method_1_code (1 : Nat) (Option.none : Option Jvm.ClassFile.FieldType)).before args0 about1 = true := code_word (m := ⟨8, 0⟩) (meth := k8m0) (c := k8c0) (by decide +kernel) rfl rfl rfl (by decide +kernel)
set_option maxRecDepth 65536 in
theorem w_c11 : (Jvm.Cond.code ({ cls := "java/util/AbstractCollection", name := "<init>", desc := "()V" } : Jvm.MethodName) jdk_22_method_1_code (1 : Nat) (Option.none : Option Jvm.ClassFile.FieldType)).before args0 about1 = true := code_word (m := ⟨5, 0⟩) (meth := k5m0) (c := k5c0) (by decide +kernel) rfl rfl rfl (by decide +kernel)
set_option maxRecDepth 65536 in
theorem w_c12 : (Jvm.Cond.code ({ cls := "java/util/ArrayList", name := "add", desc := "(Ljava/lang/Object;)Z" } : Jvm.MethodName) jdk_38_method_25_code (2 : Nat) (Option.some Jvm.ClassFile.FieldType.boolean)).before args0 about1 = true := code_word (m := ⟨12, 7⟩) (meth := k12m7) (c := k12c7) (by decide +kernel) rfl rfl rfl (by decide +kernel)
set_option maxRecDepth 65536 in
theorem w_c13 : (Jvm.Cond.code ({ cls := "java/util/ArrayList", name := "add", desc := "(Ljava/lang/Object;[Ljava/lang/Object;I)V" } : Jvm.MethodName) jdk_38_method_24_code (4 : Nat) (Option.none : Option Jvm.ClassFile.FieldType)).before args0 about1 = true := code_word (m := ⟨12, 6⟩) (meth := k12m6) (c := k12c6) (by decide +kernel) rfl rfl rfl (by decide +kernel)
set_option maxRecDepth 65536 in
theorem w_c14 : (Jvm.Cond.code ({ cls := "java/util/ArrayList", name := "grow", desc := "()[Ljava/lang/Object;" } : Jvm.MethodName) jdk_38_method_7_code (1 : Nat) (Option.some (Jvm.ClassFile.FieldType.array (Jvm.ClassFile.FieldType.object "java/lang/Object")))).before args0 about1 = true := code_word (m := ⟨12, 2⟩) (meth := k12m2) (c := k12c2) (by decide +kernel) rfl rfl rfl (by decide +kernel)
set_option maxRecDepth 65536 in
theorem w_c15 : (Jvm.Cond.code ({ cls := "java/util/ArrayList", name := "grow", desc := "(I)[Ljava/lang/Object;" } : Jvm.MethodName) jdk_38_method_6_code (4 : Nat) (Option.some (Jvm.ClassFile.FieldType.array (Jvm.ClassFile.FieldType.object "java/lang/Object")))).before args0 about1 = true := code_word (m := ⟨12, 1⟩) (meth := k12m1) (c := k12c1) (by decide +kernel) rfl rfl rfl (by decide +kernel)
set_option maxRecDepth 65536 in
theorem w_c16 : (Jvm.Cond.code ({ cls := "java/lang/Math", name := "max", desc := "(II)I" } : Jvm.MethodName) jdk_29_method_65_code (2 : Nat) (Option.some Jvm.ClassFile.FieldType.int)).before args0 about1 = true := code_word (m := ⟨13, 1⟩) (meth := k13m1) (c := k13c1) (by decide +kernel) rfl rfl rfl (by decide +kernel)
set_option maxRecDepth 65536 in
theorem w_c17 : (Jvm.Cond.code ({ cls := "com/example/kembar/kembar/cluster/ClustersJoinPinLaw", name := "rankStep", desc := "([I[III)I" } : Jvm.MethodName) method_7_code (4 : Nat) (Option.some Jvm.ClassFile.FieldType.int)).before args0 about1 = true := code_word (m := ⟨1, 6⟩) (meth := k1m6) (c := k1c6) (by decide +kernel) rfl rfl rfl (by decide +kernel)
set_option maxRecDepth 65536 in
theorem w_c18 : (Jvm.Cond.code ({ cls := "com/example/kembar/kembar/cluster/ClustersJoinPinLaw", name := "size", desc := "([II)I" } : Jvm.MethodName) method_5_code (3 : Nat) (Option.some Jvm.ClassFile.FieldType.int)).before args0 about1 = true := code_word (m := ⟨1, 4⟩) (meth := k1m4) (c := k1c4) (by decide +kernel) rfl rfl rfl (by decide +kernel)
set_option maxRecDepth 65536 in
theorem w_c19 : (Jvm.Cond.code ({ cls := "com/example/kembar/kembar/cluster/ClustersJoinPinLaw", name := "first", desc := "([II)I" } : Jvm.MethodName) method_6_code (2 : Nat) (Option.some Jvm.ClassFile.FieldType.int)).before args0 about1 = true := code_word (m := ⟨1, 5⟩) (meth := k1m5) (c := k1c5) (by decide +kernel) rfl rfl rfl (by decide +kernel)
set_option maxRecDepth 65536 in
theorem w_c20 : (Jvm.Cond.code ({ cls := "java/util/ArrayList", name := "size", desc := "()I" } : Jvm.MethodName) jdk_38_method_8_code (1 : Nat) (Option.some Jvm.ClassFile.FieldType.int)).before args0 about1 = true := code_word (m := ⟨12, 3⟩) (meth := k12m3) (c := k12c3) (by decide +kernel) rfl rfl rfl (by decide +kernel)
set_option maxRecDepth 65536 in
theorem w_c21 : (Jvm.Cond.code ({ cls := "java/util/ArrayList", name := "get", desc := "(I)Ljava/lang/Object;" } : Jvm.MethodName) jdk_38_method_20_code (2 : Nat) (Option.some (Jvm.ClassFile.FieldType.object "java/lang/Object"))).before args0 about1 = true := code_word (m := ⟨12, 5⟩) (meth := k12m5) (c := k12c5) (by decide +kernel) rfl rfl rfl (by decide +kernel)
set_option maxRecDepth 65536 in
theorem w_c22 : (Jvm.Cond.code ({ cls := "java/util/Objects", name := "checkIndex", desc := "(II)I" } : Jvm.MethodName) jdk_31_method_17_code (2 : Nat) (Option.some Jvm.ClassFile.FieldType.int)).before args0 about1 = true := code_word (m := ⟨14, 1⟩) (meth := k14m1) (c := k14c1) (by decide +kernel) rfl rfl rfl (by decide +kernel)
set_option maxRecDepth 65536 in
theorem w_c23 : (Jvm.Cond.code ({ cls := "jdk/internal/util/Preconditions", name := "checkIndex", desc := "(IILjava/util/function/BiFunction;)I" } : Jvm.MethodName) jdk_41_method_11_code (3 : Nat) (Option.some Jvm.ClassFile.FieldType.int)).before args0 about1 = true := code_word (m := ⟨15, 1⟩) (meth := k15m1) (c := k15c1) (by decide +kernel) rfl rfl rfl (by decide +kernel)
set_option maxRecDepth 65536 in
theorem w_c24 : (Jvm.Cond.code ({ cls := "java/util/ArrayList", name := "elementData", desc := "(I)Ljava/lang/Object;" } : Jvm.MethodName) jdk_38_method_18_code (2 : Nat) (Option.some (Jvm.ClassFile.FieldType.object "java/lang/Object"))).before args0 about1 = true := code_word (m := ⟨12, 4⟩) (meth := k12m4) (c := k12c4) (by decide +kernel) rfl rfl rfl (by decide +kernel)
set_option maxRecDepth 65536 in
theorem w_c25 : (Jvm.Cond.code ({ cls := "com/example/kembar/kembar/cluster/ClustersJoinPinLaw", name := "mark", desc := "([I[II)Z" } : Jvm.MethodName) method_10_code (3 : Nat) (Option.some Jvm.ClassFile.FieldType.boolean)).before args0 about1 = true := code_word (m := ⟨1, 9⟩) (meth := k1m9) (c := k1c9) (by decide +kernel) rfl rfl rfl (by decide +kernel)
set_option maxRecDepth 65536 in
theorem w_c26 : (Jvm.Cond.code ({ cls := "com/example/kembar/kembar/cluster/ClustersJoinPinLaw", name := "step", desc := "([I[III)Z" } : Jvm.MethodName) method_9_code (5 : Nat) (Option.some Jvm.ClassFile.FieldType.boolean)).before args0 about1 = true := code_word (m := ⟨1, 8⟩) (meth := k1m8) (c := k1c8) (by decide +kernel) rfl rfl rfl (by decide +kernel)
set_option maxRecDepth 65536 in
theorem w_c27 : (Jvm.Cond.code ({ cls := "com/example/kembar/kembar/cluster/ClustersJoinPinLaw", name := "expect", desc := "([I[II)I" } : Jvm.MethodName) method_8_code (3 : Nat) (Option.some Jvm.ClassFile.FieldType.int)).before args0 about1 = true := code_word (m := ⟨1, 7⟩) (meth := k1m7) (c := k1c7) (by decide +kernel) rfl rfl rfl (by decide +kernel)
def codes1 : List Jvm.Cond := [Jvm.Cond.code x code maxLocals ret, Jvm.Cond.code ({ cls := "com/example/kembar/kembar/cluster/Clusters", name := "<init>", desc := "(I)V" } : Jvm.MethodName) prog_4_method_1_code (3 : Nat) (Option.none : Option Jvm.ClassFile.FieldType), Jvm.Cond.code ({ cls := "java/lang/Object", name := "<init>", desc := "()V" } : Jvm.MethodName) object_method_1_code (1 : Nat) (Option.none : Option Jvm.ClassFile.FieldType), Jvm.Cond.code ({ cls := "com/example/kembar/kembar/cluster/ClustersJoinPinLaw", name := "both", desc := "(Lcom/example/kembar/kembar/cluster/Clusters;[II)V" } : Jvm.MethodName) method_4_code (5 : Nat) (Option.none : Option Jvm.ClassFile.FieldType), Jvm.Cond.code ({ cls := "com/example/kembar/kembar/cluster/Clusters", name := "join", desc := "(II)V" } : Jvm.MethodName) prog_4_method_2_code (3 : Nat) (Option.none : Option Jvm.ClassFile.FieldType), Jvm.Cond.code ({ cls := "com/example/kembar/kembar/cluster/Clusters", name := "root", desc := "(I)I" } : Jvm.MethodName) prog_4_method_4_code (3 : Nat) (Option.some Jvm.ClassFile.FieldType.int), Jvm.Cond.code ({ cls := "com/example/kembar/kembar/cluster/ClustersJoinPinLaw", name := "merge", desc := "([III)V" } : Jvm.MethodName) method_3_code (5 : Nat) (Option.none : Option Jvm.ClassFile.FieldType), Jvm.Cond.code ({ cls := "com/example/kembar/kembar/cluster/ClustersJoinPinLaw", name := "relabel", desc := "([IIII)V" } : Jvm.MethodName) method_2_code (4 : Nat) (Option.none : Option Jvm.ClassFile.FieldType), Jvm.Cond.code ({ cls := "com/example/kembar/kembar/cluster/Clusters", name := "groups", desc := "()Ljava/util/List;" } : Jvm.MethodName) prog_4_method_3_code (7 : Nat) (Option.some (Jvm.ClassFile.FieldType.object "java/util/List")), Jvm.Cond.code ({ cls := "java/util/ArrayList", name := "<init>", desc := "()V" } : Jvm.MethodName) jdk_38_method_2_code (1 : Nat) (Option.none : Option Jvm.ClassFile.FieldType), Jvm.Cond.code ({ cls := "java/util/AbstractList", name := "<init>", desc := "()V" } : Jvm.MethodName) jdk_39_method_1_code (1 : Nat) (Option.none : Option Jvm.ClassFile.FieldType), Jvm.Cond.code ({ cls := "java/util/AbstractCollection", name := "<init>", desc := "()V" } : Jvm.MethodName) jdk_22_method_1_code (1 : Nat) (Option.none : Option Jvm.ClassFile.FieldType), Jvm.Cond.code ({ cls := "java/util/ArrayList", name := "add", desc := "(Ljava/lang/Object;)Z" } : Jvm.MethodName) jdk_38_method_25_code (2 : Nat) (Option.some Jvm.ClassFile.FieldType.boolean), Jvm.Cond.code ({ cls := "java/util/ArrayList", name := "add", desc := "(Ljava/lang/Object;[Ljava/lang/Object;I)V" } : Jvm.MethodName) jdk_38_method_24_code (4 : Nat) (Option.none : Option Jvm.ClassFile.FieldType), Jvm.Cond.code ({ cls := "java/util/ArrayList", name := "grow", desc := "()[Ljava/lang/Object;" } : Jvm.MethodName) jdk_38_method_7_code (1 : Nat) (Option.some (Jvm.ClassFile.FieldType.array (Jvm.ClassFile.FieldType.object "java/lang/Object"))), Jvm.Cond.code ({ cls := "java/util/ArrayList", name := "grow", desc := "(I)[Ljava/lang/Object;" } : Jvm.MethodName) jdk_38_method_6_code (4 : Nat) (Option.some (Jvm.ClassFile.FieldType.array (Jvm.ClassFile.FieldType.object "java/lang/Object"))), Jvm.Cond.code ({ cls := "java/lang/Math", name := "max", desc := "(II)I" } : Jvm.MethodName) jdk_29_method_65_code (2 : Nat) (Option.some Jvm.ClassFile.FieldType.int), Jvm.Cond.code ({ cls := "com/example/kembar/kembar/cluster/ClustersJoinPinLaw", name := "rankStep", desc := "([I[III)I" } : Jvm.MethodName) method_7_code (4 : Nat) (Option.some Jvm.ClassFile.FieldType.int), Jvm.Cond.code ({ cls := "com/example/kembar/kembar/cluster/ClustersJoinPinLaw", name := "size", desc := "([II)I" } : Jvm.MethodName) method_5_code (3 : Nat) (Option.some Jvm.ClassFile.FieldType.int), Jvm.Cond.code ({ cls := "com/example/kembar/kembar/cluster/ClustersJoinPinLaw", name := "first", desc := "([II)I" } : Jvm.MethodName) method_6_code (2 : Nat) (Option.some Jvm.ClassFile.FieldType.int), Jvm.Cond.code ({ cls := "java/util/ArrayList", name := "size", desc := "()I" } : Jvm.MethodName) jdk_38_method_8_code (1 : Nat) (Option.some Jvm.ClassFile.FieldType.int), Jvm.Cond.code ({ cls := "java/util/ArrayList", name := "get", desc := "(I)Ljava/lang/Object;" } : Jvm.MethodName) jdk_38_method_20_code (2 : Nat) (Option.some (Jvm.ClassFile.FieldType.object "java/lang/Object")), Jvm.Cond.code ({ cls := "java/util/Objects", name := "checkIndex", desc := "(II)I" } : Jvm.MethodName) jdk_31_method_17_code (2 : Nat) (Option.some Jvm.ClassFile.FieldType.int), Jvm.Cond.code ({ cls := "jdk/internal/util/Preconditions", name := "checkIndex", desc := "(IILjava/util/function/BiFunction;)I" } : Jvm.MethodName) jdk_41_method_11_code (3 : Nat) (Option.some Jvm.ClassFile.FieldType.int), Jvm.Cond.code ({ cls := "java/util/ArrayList", name := "elementData", desc := "(I)Ljava/lang/Object;" } : Jvm.MethodName) jdk_38_method_18_code (2 : Nat) (Option.some (Jvm.ClassFile.FieldType.object "java/lang/Object")), Jvm.Cond.code ({ cls := "com/example/kembar/kembar/cluster/ClustersJoinPinLaw", name := "mark", desc := "([I[II)Z" } : Jvm.MethodName) method_10_code (3 : Nat) (Option.some Jvm.ClassFile.FieldType.boolean), Jvm.Cond.code ({ cls := "com/example/kembar/kembar/cluster/ClustersJoinPinLaw", name := "step", desc := "([I[III)Z" } : Jvm.MethodName) method_9_code (5 : Nat) (Option.some Jvm.ClassFile.FieldType.boolean), Jvm.Cond.code ({ cls := "com/example/kembar/kembar/cluster/ClustersJoinPinLaw", name := "expect", desc := "([I[II)I" } : Jvm.MethodName) method_8_code (3 : Nat) (Option.some Jvm.ClassFile.FieldType.int)]
set_option maxRecDepth 65536 in
theorem codes_eq : words1.filter isCode = codes1 := rfl
theorem w_codes : ∀ c ∈ words1.filter isCode, c.before args0 about1 = true := by
  rw [codes_eq]
  intro c hc
  simp only [codes1, List.mem_cons, List.not_mem_nil, or_false] at hc
  rcases hc with rfl | rfl | rfl | rfl | rfl | rfl | rfl | rfl | rfl | rfl | rfl | rfl | rfl | rfl | rfl | rfl | rfl | rfl | rfl | rfl | rfl | rfl | rfl | rfl | rfl | rfl | rfl | rfl
  · exact w_c0
  · exact w_c1
  · exact w_c2
  · exact w_c3
  · exact w_c4
  · exact w_c5
  · exact w_c6
  · exact w_c7
  · exact w_c8
  · exact w_c9
  · exact w_c10
  · exact w_c11
  · exact w_c12
  · exact w_c13
  · exact w_c14
  · exact w_c15
  · exact w_c16
  · exact w_c17
  · exact w_c18
  · exact w_c19
  · exact w_c20
  · exact w_c21
  · exact w_c22
  · exact w_c23
  · exact w_c24
  · exact w_c25
  · exact w_c26
  · exact w_c27
set_option maxRecDepth 65536 in
theorem w_t1 : (words1.take 24).all (fun c => isCode c || c.before args0 about1) = true := by decide +kernel
set_option maxRecDepth 65536 in
theorem w_t2 : ((words1.drop 24).take 24).all (fun c => isCode c || c.before args0 about1) = true := by decide +kernel
set_option maxRecDepth 65536 in
theorem w_t3 : (((words1.drop 24).drop 24).take 24).all (fun c => isCode c || c.before args0 about1) = true := by decide +kernel
set_option maxRecDepth 65536 in
theorem w_t4 : ((((words1.drop 24).drop 24).drop 24).take 24).all (fun c => isCode c || c.before args0 about1) = true := by decide +kernel
set_option maxRecDepth 65536 in
theorem w_t5 : (((((words1.drop 24).drop 24).drop 24).drop 24).take 24).all (fun c => isCode c || c.before args0 about1) = true := by decide +kernel
set_option maxRecDepth 65536 in
theorem w_t6 : ((((((words1.drop 24).drop 24).drop 24).drop 24).drop 24).take 24).all (fun c => isCode c || c.before args0 about1) = true := by decide +kernel
set_option maxRecDepth 65536 in
theorem w_t7 : ((((((words1.drop 24).drop 24).drop 24).drop 24).drop 24).drop 24).all (fun c => isCode c || c.before args0 about1) = true := by decide +kernel
theorem w_tables : (allAtoms (Jvm.Cond.code x code maxLocals ret :: tables_1)).before args0 about1 = true := by
  rw [allAtoms_all]
  show words1.all (fun c => c.before args0 about1) = true
  refine all_split ?_ w_codes
  rw [← List.take_append_drop 24 words1, List.all_append, w_t1, ← List.take_append_drop 24 (words1.drop 24), List.all_append, w_t2, ← List.take_append_drop 24 ((words1.drop 24).drop 24), List.all_append, w_t3, ← List.take_append_drop 24 (((words1.drop 24).drop 24).drop 24), List.all_append, w_t4, ← List.take_append_drop 24 ((((words1.drop 24).drop 24).drop 24).drop 24), List.all_append, w_t5, ← List.take_append_drop 24 (((((words1.drop 24).drop 24).drop 24).drop 24).drop 24), List.all_append, w_t6, w_t7]
  rfl
set_option maxRecDepth 65536 in
theorem w_rest : rest_1_c.before args0 about1 = true := by decide +kernel
set_option maxRecDepth 65536 in
theorem w_case : (Jvm.Cond.and given_1 narrow_1).before args0 about1 = true := by decide +kernel
theorem w_applies : (headSpec (Jvm.Cond.code x code maxLocals ret :: tables_1) room_1).applies x e0.platform about1 = true :=
  (Spec.applies_iff w_frames).mpr ⟨w_running, w_runnable, w_alone, w_named, w_hears, w_ripe, w_room, w_tables⟩
theorem atStart : AtStart classFile x code maxLocals ret World_1 tables_1 room_1 Calls_1 rest_1 Pre_1 launch0 p0 e0 about1 theMethod args0 below0 :=
  ⟨lists_1, trivial, launch0.admits_env _ _ _, launch0.least_env, fairChoices_fair.cas, fairChoices_fair.clock, w_frames, w_args, w_heap, w_applies, trivial, w_rest, w_case⟩
end start1
theorem witness_1 : WitnessClaimed_1 := ⟨start1.p0, start1.e0, start1.about1, start1.theMethod, start1.args0, start1.below0, start1.atStart⟩
end Jvm.Pilot.@@N@@
