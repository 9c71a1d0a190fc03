import JvmDerived
import JvmDerived.Pilot.@@N@@Statement
import JvmDerived.Pilot.@@N@@Code
set_option linter.unusedVariables false
set_option linter.unusedSimpArgs false
namespace Jvm.RoadKit
open Sem ClassFile Op Lib Jvm.Stand Jvm.Free Jvm.LawKit
section New
variable {p : Program} {l : Launch} {e : Env} {R : Room} {s : State} {m : MethodId} {args : Array Value} {below : List Frame} {meth : Method} {c : Code} {T : State} {locs : List Loc} {cells slots : Nat}
theorem retI (X : Stand p l e R s m args below meth c T locs cells slots) (hx : p.tables.exec = Jvm.exec) {pc : Nat} {Ls : Array Slot} {z : Int32} {rest : List Value} (hret : meth.sig.returnType = some .int) (hd : decode c.code pc = .ok (.ireturn, 1)) {fs : List Frame}
    (hl : ∀ (f : JFrame) (acts : List Action), f.method = m → f.locked = none → f.entered = [] → (doReturn e (T.setTop f) acts (some (.int z))).1 = T.setFrames fs) : Steps p.tables e below (T.setTop (mkF m pc Ls (.int z :: rest))) (T.setFrames fs) := by
  have hm' : T.vm.method? m = some meth := X.method'
  have hn : narrow .int (.int z) = .int z := rfl
  show Steps p.tables e below (T.setTop { method := m, pc := pc, locals := Ls, stack := _ :: rest, locked := none }) _
  jvm_step X.here [X.here.top, hx, hd, hm', hret, hn]
  first | (intro acts; rw [hl _ acts rfl rfl rfl]) | rw [hl _ _ rfl rfl rfl]
  exact Steps.refl _
end New
end Jvm.RoadKit
namespace Jvm.Pilot.@@N@@
open Jvm Jvm.ClassFile Sem Op Lib Jvm.Free Jvm.Stand Jvm.LawKit Jvm.RoadKit Bundle Jvm.Pilot.@@N@@.Jvm.D
section OwnRun
variable {p : Program} {l : Launch} {e : Env} {R : Room} {s : State} {m : MethodId} {args : Array Value} {below : List Frame} {meth : Method} {c : Code} {T T' : State} {locs : List Loc} {cells slots : Nat} {Q : Option Value → Heap → List Loc → Prop} {C S : Nat}
/-- from T with the frame g on top the body comes to its end, and what it leaves is as Q says -/
def ORun (p : Program) (e : Env) (below : List Frame) (s : State) (Q : Option Value → Heap → List Loc → Prop) (C S : Nat) (T : State) (g : JFrame) : Prop :=
  ∃ s₂ o, Steps p.tables e below (T.setTop g) s₂ ∧ s₂.status = .running ∧ Ended s₂ below o ∧ ∃ v L, o = .returned v ∧ Q v s₂.heap L ∧ FrameEnd s o s₂ L C S
theorem own_by {g g' : JFrame} (st : ∀ t, Steps p.tables e below (T'.setTop g') t → Steps p.tables e below (T.setTop g) t) (h : ORun p e below s Q C S T' g') : ORun p e below s Q C S T g := by
  obtain ⟨s₂, o, h1, h2⟩ := h
  exact ⟨s₂, o, st _ h1, h2⟩
theorem own_tr {g g' : JFrame} (st : Steps p.tables e below (T.setTop g) (T'.setTop g')) (h : ORun p e below s Q C S T' g') : ORun p e below s Q C S T g := own_by (fun _ k => st.trans k) h
theorem own_letI (x : Int32) {f : Int32 → JFrame} (h : ∀ v, v = x → ORun p e below s Q C S T (f v)) : ORun p e below s Q C S T (f x) := h x rfl
theorem own_letJ (x : Int64) {f : Int64 → JFrame} (h : ∀ v, v = x → ORun p e below s Q C S T (f v)) : ORun p e below s Q C S T (f x) := h x rfl
theorem own_retI (X : Stand p l e R s m args below meth c T locs cells slots) (hx : p.tables.exec = Jvm.exec) {pc : Nat} {Ls : Array Slot} {z : Int32} {rest : List Value} (hret : meth.sig.returnType = some .int) (hlk : meth.locks = false) (hd : decode c.code pc = .ok (.ireturn, 1)) (hc : cells ≤ C) (hs : slots ≤ S) (hQ : Q (some (.int z)) T.heap locs) :
    ORun p e below s Q C S T (mkF m pc Ls (.int z :: rest)) := by
  obtain ⟨fs, hr, hrun, hended, hW, hsame⟩ := X.leave (v := some (.int z)) (fun h => by rw [hret] at h; cases h) hlk
  exact ⟨_, _, retI X hx hret hd hr, hrun, hended, _, _, rfl, hQ, ⟨_, rfl⟩, hW, hsame.mono hc hs⟩
theorem own_retN (X : Stand p l e R s m args below meth c T locs cells slots) (hx : p.tables.exec = Jvm.exec) {pc : Nat} {Ls : Array Slot} {z : Int32} {t : FieldType} {rest : List Value} (hret : meth.sig.returnType = some t) (ht : t = .boolean ∨ t = .byte ∨ t = .char ∨ t = .short) (hlk : meth.locks = false) (hd : decode c.code pc = .ok (.ireturn, 1)) (hc : cells ≤ C) (hs : slots ≤ S) (hQ : Q (some (.int (nar t z))) T.heap locs) :
    ORun p e below s Q C S T (mkF m pc Ls (.int z :: rest)) := by
  obtain ⟨fs, hr, hrun, hended, hW, hsame⟩ := X.leave (v := some (.int (nar t z))) (fun h => by rw [hret] at h; cases h) hlk
  exact ⟨_, _, retN X hx hret ht hd hr, hrun, hended, _, _, rfl, hQ, ⟨_, rfl⟩, hW, hsame.mono hc hs⟩
theorem own_retJ (X : Stand p l e R s m args below meth c T locs cells slots) (hx : p.tables.exec = Jvm.exec) {pc : Nat} {Ls : Array Slot} {z : Int64} (hret : meth.sig.returnType = some .long) (hlk : meth.locks = false) (hd : decode c.code pc = .ok (.lreturn, 1)) (hc : cells ≤ C) (hs : slots ≤ S) (hQ : Q (some (.long z)) T.heap locs) :
    ORun p e below s Q C S T (mkF m pc Ls [.long z]) := by
  obtain ⟨fs, hr, hrun, hended, hW, hsame⟩ := X.leave (v := some (.long z)) (fun h => by rw [hret] at h; cases h) hlk
  exact ⟨_, _, X.lreturnOut hx hret hd hr, hrun, hended, _, _, rfl, hQ, ⟨_, rfl⟩, hW, hsame.mono hc hs⟩
theorem own_retA (X : Stand p l e R s m args below meth c T locs cells slots) (hx : p.tables.exec = Jvm.exec) {pc : Nat} {Ls : Array Slot} {z : Value} {t : FieldType} {rest : List Value} (hret : meth.sig.returnType = some t) (ht : t.isReference = true) (hz : z.isRef = true) (hn : narrow t z = z) (hlk : meth.locks = false) (hd : decode c.code pc = .ok (.areturn, 1)) (hc : cells ≤ C) (hs : slots ≤ S) (hQ : Q (some z) T.heap locs) :
    ORun p e below s Q C S T (mkF m pc Ls (z :: rest)) := by
  obtain ⟨fs, hr, hrun, hended, hW, hsame⟩ := X.leave (v := some z) (fun h => by rw [hret] at h; cases h) hlk
  exact ⟨_, _, retOut X hx hret hn (Or.inr (Or.inr (Or.inr (Or.inr ⟨rfl, ht, hz⟩)))) hd hr, hrun, hended, _, _, rfl, hQ, ⟨_, rfl⟩, hW, hsame.mono hc hs⟩
theorem own_retV (X : Stand p l e R s m args below meth c T locs cells slots) (hx : p.tables.exec = Jvm.exec) {pc : Nat} {Ls : Array Slot} (hret : meth.sig.returnType = none) (hlk : meth.locks = false) (hd : decode c.code pc = .ok (.return_, 1)) (hc : cells ≤ C) (hs : slots ≤ S) (hQ : Q none T.heap locs) :
    ORun p e below s Q C S T (mkF m pc Ls []) := by
  obtain ⟨fs, hr, hrun, hended, hW, hsame⟩ := X.leave (v := none) (fun _ => rfl) hlk
  exact ⟨_, _, X.returnOut hx hret hd hr, hrun, hended, _, _, rfl, hQ, ⟨_, rfl⟩, hW, hsame.mono hc hs⟩
/-- a body's contract: called with as at the heap h (tables as at Z) it returns, and what it leaves is as Q says -/
abbrev OMet (l : Launch) (y : MethodName) (bytes : ByteArray) (maxL : Nat) (ret : Option FieldType) (ws : List Jvm.Cond) (rm : Room) (as' : Array Value) (Z : State) (h : Heap) (Q : Option Value → Heap → List Loc → Prop) : Prop :=
  MetFree l y (head1 (Jvm.Cond.code y bytes maxL ret :: ws) rm) (fun a U => a = as' ∧ Z.Warmed39 U.vm ∧ U.heap = h) (fun _ _ _ _ _ => True) (fun _ U o U' => ∃ v L, o = .returned v ∧ Q v U'.heap L ∧ FrameEnd U o U' L rm.cells rm.slots)
theorem own_met {y : MethodName} {bytes : ByteArray} {maxL : Nat} {ret : Option FieldType} {ws : List Jvm.Cond} {rm : Room} {as' : Array Value} {Z : State} {h : Heap} {Q : Option Value → Heap → List Loc → Prop} (hpn : plainFor y = true)
    (body : ∀ p e s m below meth c s₁, Stand p l e rm s m as' below meth c s₁ [] 0 0 → p.tables.exec = Jvm.exec → c.code = bytes → c.maxLocals = maxL → s.vm.findClass y.cls = some m.cls → meth.name = y.name → meth.sig.returnType = ret → meth.locks = false → Z.Warmed39 s.vm → s₁.heap = h →
      ORun p e below s Q rm.cells rm.slots s₁ (entryFrame m as' maxL)) : OMet l y bytes maxL ret ws rm as' Z h Q := by
  refine MetFree.of_bodySF hpn hisR ?_
  intro p e s m args below meth c s₁ Bd hml0 hP hK
  obtain ⟨rfl, hZ, hh⟩ := hP
  exact body p e s m below meth c s₁ (Stand.of_body Bd) Bd.exec Bd.bytes hml0 (findClass_of_methodNamed Bd.named) (name_of_methodNamed Bd.named Bd.method).1 Bd.returns Bd.notSynchronized hZ (by rw [← hh, Bd.state]; rfl)
section Calls
variable {Z : State} {a0 : Array Value} {h : Heap} {own : String} {index : Nat} {y z : MethodName} {bytes : ByteArray} {maxL : Nat} {ret : Option FieldType} {rm : Room} {as' : Array Value} {Qc : Option Value → Heap → List Loc → Prop} {W pc : Nat} {Ls : Array Slot} {st argsL rest : List Value}
theorem own_callS (X : Stand p l e R s m args below meth c T locs cells slots) (hx : p.tables.exec = Jvm.exec) (hZ : Z.Warmed39 s.vm) (hown : s.vm.findClass own = some m.cls) (w1 : (Jvm.Cond.methodLink own index y).before a0 Z = true) (w2 : (Jvm.Cond.static y).before a0 Z = true) (w3 : (Jvm.Cond.initialized y.cls).before a0 Z = true) (w4 : (Jvm.Cond.code y bytes maxL ret).before a0 Z = true)
    (hy : y.cls ≠ "java/lang/invoke/MethodHandle" ∧ y.cls ≠ "java/lang/invoke/VarHandle") (M : OMet l y bytes maxL ret [] rm as' Z h Qc) (eT : T.heap = h) (hf : rm.frames + 1 ≤ R.frames) (hl : W + (maxL + 11) + rm.locals ≤ R.locals) (hc : cells + rm.cells ≤ R.cells) (hs : slots + rm.slots ≤ R.slots)
    (hsz : Ls.size = c.maxLocals) (hlen : ∀ sig, parseMethodDescriptor y.desc = some sig → argsL.length = sig.parameters.length) (hst : st = argsL.reverse ++ rest) (has : argsL.toArray = as') (hW : 2 * 0 + (rest.map fun v => v.category).sum ≤ W) (hd : decode c.code pc = .ok (.invokestatic index, 3))
    (K : ∀ T' L v, Stand p l e R s m args below meth c T' (locs ++ L) (cells + rm.cells) (slots + rm.slots) → Qc v T'.heap L → ORun p e below s Q C S T' (mkF m (pc + 3) Ls (v.toList ++ rest))) : ORun p e below s Q C S T (mkF m pc Ls st) := by
  obtain ⟨v, _, ⟨T', L', k', n'⟩, -, X', ⟨Lc, hQ, e1, e2, e3⟩, stp⟩ := Jvm.LawKit.callS X hx (y := y) hown (mvT hZ w1) (mvT hZ w2) (mvT hZ w3) (mvT hZ w4) hy (backOf (W := W) M hZ w4 w3 hf hl) (g := mkF m pc Ls st) rfl hsz (argsL := argsL) (rest := rest) hlen hst hW hd (fun _ _ => ⟨has, eT, hc, hs⟩)
  dsimp only [Pt.U, Pt.locs, Pt.cells, Pt.slots] at X' e1 e2 e3 stp hQ
  subst e1 e2 e3
  exact own_by stp (K T' Lc v X' hQ)
theorem own_callC (X : Stand p l e R s m args below meth c T locs cells slots) (hx : p.tables.exec = Jvm.exec) (hZ : Z.Warmed39 s.vm) (hown : s.vm.findClass own = some m.cls) (hn : y.name = "<init>") (w1 : (Jvm.Cond.methodLink own index y).before a0 Z = true) (w2 : (Jvm.Cond.instanceMethod y).before a0 Z = true) (w3 : (Jvm.Cond.initialized y.cls).before a0 Z = true) (w4 : (Jvm.Cond.code y bytes maxL none).before a0 Z = true)
    (hy : y.cls ≠ "java/lang/invoke/MethodHandle" ∧ y.cls ≠ "java/lang/invoke/VarHandle") (M : OMet l y bytes maxL none [] rm as' Z h Qc) (eT : T.heap = h) (hf : rm.frames + 1 ≤ R.frames) (hl : W + (maxL + 11) + rm.locals ≤ R.locals) (hc : cells + rm.cells ≤ R.cells) (hs : slots + rm.slots ≤ R.slots)
    {b : Addr} (hsz : Ls.size = c.maxLocals) (hlen : ∀ sig, parseMethodDescriptor y.desc = some sig → argsL.length = sig.parameters.length) (hst : st = argsL.reverse ++ .ref b :: rest) (has : (.ref b :: argsL).toArray = as') (hW : 2 * 0 + (rest.map fun v => v.category).sum ≤ W) (hd : decode c.code pc = .ok (.invokespecial index, 3))
    (K : ∀ T' L v, Stand p l e R s m args below meth c T' (locs ++ L) (cells + rm.cells) (slots + rm.slots) → Qc v T'.heap L → ORun p e below s Q C S T' (mkF m (pc + 3) Ls (v.toList ++ rest))) : ORun p e below s Q C S T (mkF m pc Ls st) := by
  obtain ⟨v, _, ⟨T', L', k', n'⟩, -, X', ⟨Lc, hQ, e1, e2, e3⟩, stp⟩ := X.specialBack hx (y := y) hn hown (mvT hZ w1) (mvT hZ w2) (mvT hZ w4) hy (backOf (W := W) M hZ w4 w3 hf hl) (g := mkF m pc Ls st) rfl hsz (Steps.refl _) (a := b) (argsL := argsL) (rest := rest) hlen hst hW hd (fun _ _ => ⟨has, eT, hc, hs⟩)
  dsimp only [Pt.U, Pt.locs, Pt.cells, Pt.slots] at X' e1 e2 e3 stp hQ
  subst e1 e2 e3
  exact own_tr stp (K T' Lc v X' hQ)
theorem own_callV (X : Stand p l e R s m args below meth c T locs cells slots) (hx : p.tables.exec = Jvm.exec) (hZ : Z.Warmed39 s.vm) (hown : s.vm.findClass own = some m.cls) {Cn : String} {b : Addr} (E : Exa Z h b Cn) (w1 : (Jvm.Cond.methodLink own index y).before a0 Z = true) (wd : (Jvm.Cond.declares y).before a0 Z = true) (nf : NotFace s y) (ws : (Jvm.Cond.selects Cn y z).before a0 Z = true) (w2 : (Jvm.Cond.instanceMethod z).before a0 Z = true) (w3 : (Jvm.Cond.initialized z.cls).before a0 Z = true) (w4 : (Jvm.Cond.code z bytes maxL ret).before a0 Z = true)
    (hy : y.cls ≠ "java/lang/invoke/MethodHandle" ∧ y.cls ≠ "java/lang/invoke/VarHandle") (M : OMet l z bytes maxL ret [] rm as' Z h Qc) (eT : T.heap = h) (hf : rm.frames + 1 ≤ R.frames) (hl : W + (maxL + 11) + rm.locals ≤ R.locals) (hc : cells + rm.cells ≤ R.cells) (hs : slots + rm.slots ≤ R.slots)
    (hsz : Ls.size = c.maxLocals) (hlen : ∀ sig, parseMethodDescriptor y.desc = some sig → argsL.length = sig.parameters.length) (hst : st = argsL.reverse ++ .ref b :: rest) (has : (.ref b :: argsL).toArray = as') (hW : 2 * 0 + (rest.map fun v => v.category).sum ≤ W) (hd : decode c.code pc = .ok (.invokevirtual index, 3))
    (K : ∀ T' L v, Stand p l e R s m args below meth c T' (locs ++ L) (cells + rm.cells) (slots + rm.slots) → Qc v T'.heap L → ORun p e below s Q C S T' (mkF m (pc + 3) Ls (v.toList ++ rest))) : ORun p e below s Q C S T (mkF m pc Ls st) := by
  obtain ⟨cq, kq, qa, qb, qc⟩ := isOf hZ eT E
  obtain ⟨v, _, ⟨T', L', k', n'⟩, -, X', ⟨Lc, hQ, e1, e2, e3⟩, stp⟩ := X.virtualBack hx (y := y) (z := z) hown (mvT hZ w1) (mvT hZ wd) nf (mvT hZ ws) (mvT hZ w2) hy (backOf (W := W) M hZ w4 w3 hf hl) qa qc (g := mkF m pc Ls st) rfl hsz (Steps.refl _) (argsL := argsL) (rest := rest) hlen hst hW hd (fun _ _ => ⟨has, eT, hc, hs⟩)
  dsimp only [Pt.U, Pt.locs, Pt.cells, Pt.slots] at X' e1 e2 e3 stp hQ
  subst e1 e2 e3
  exact own_tr stp (K T' Lc v X' hQ)
end Calls
end OwnRun
theorem own_lt {x y : Int32} {a b : Int} (h : x < y) (ha : x.toInt = a) (hb : y.toInt = b) : a < b := by subst ha hb; exact Int32.lt_iff_toInt_lt.mp h
theorem own_nlt {x y : Int32} {a b : Int} (h : ¬ x < y) (ha : x.toInt = a) (hb : y.toInt = b) : b ≤ a := by subst ha hb; exact Int.not_lt.mp fun q => h (Int32.lt_iff_toInt_lt.mpr q)
theorem own_eq {x y : Int32} {a b : Int} (h : x = y) (ha : x.toInt = a) (hb : y.toInt = b) : a = b := by subst ha hb h; rfl
theorem own_ne {x y : Int32} {a b : Int} (h : ¬ x = y) (ha : x.toInt = a) (hb : y.toInt = b) : a ≠ b := by subst ha hb; exact fun q => h (Int32.toInt_inj.mp q)
theorem own_ltL {x y : Int64} {a b : Int} (h : x < y) (ha : x.toInt = a) (hb : y.toInt = b) : a < b := by subst ha hb; exact Int64.lt_iff_toInt_lt.mp h
theorem own_nltL {x y : Int64} {a b : Int} (h : ¬ x < y) (ha : x.toInt = a) (hb : y.toInt = b) : b ≤ a := by subst ha hb; exact Int.not_lt.mp fun q => h (Int64.lt_iff_toInt_lt.mpr q)
theorem own_eqL {x y : Int64} {a b : Int} (h : x = y) (ha : x.toInt = a) (hb : y.toInt = b) : a = b := by subst ha hb h; rfl
theorem own_neL {x y : Int64} {a b : Int} (h : ¬ x = y) (ha : x.toInt = a) (hb : y.toInt = b) : a ≠ b := by subst ha hb; exact fun q => h (Int64.toInt_inj.mp q)
theorem own_lc {cd : ClassFile.Cond} {x y : Int64} {b : Bool} (h : if_icmp.holds cd (lcmpW x y) 0 = b) : ifCond.holds cd (lcmpW x y) = b := (if0 _ _).trans h
theorem own_lclt {x y : Int64} (h : x < y) : ifCond.holds .lt (lcmpW x y) = true ∧ ifCond.holds .ge (lcmpW x y) = false := ⟨own_lc (tlt ((lw_lt x y).mpr h)).1, own_lc (tlt ((lw_lt x y).mpr h)).2.1⟩
theorem own_lcnlt {x y : Int64} (h : ¬ x < y) : ifCond.holds .lt (lcmpW x y) = false ∧ ifCond.holds .ge (lcmpW x y) = true := have q : ¬ lcmpW x y < 0 := fun z => h ((lw_lt x y).mp z); ⟨own_lc (flt q).1, own_lc (flt q).2.1⟩
theorem own_lcgt {x y : Int64} (h : y < x) : ifCond.holds .gt (lcmpW x y) = true ∧ ifCond.holds .le (lcmpW x y) = false := ⟨own_lc (tlt ((lw_gt x y).mpr h)).2.2.1, own_lc (tlt ((lw_gt x y).mpr h)).2.2.2⟩
theorem own_lcngt {x y : Int64} (h : ¬ y < x) : ifCond.holds .gt (lcmpW x y) = false ∧ ifCond.holds .le (lcmpW x y) = true := have q : ¬ 0 < lcmpW x y := fun z => h ((lw_gt x y).mp z); ⟨own_lc (flt q).2.2.1, own_lc (flt q).2.2.2⟩
theorem own_lceq {x y : Int64} (h : x = y) : ifCond.holds .eq (lcmpW x y) = true ∧ ifCond.holds .ne (lcmpW x y) = false := ⟨own_lc (teq ((lw_eq x y).mpr h)).1, own_lc (teq ((lw_eq x y).mpr h)).2⟩
theorem own_lcne {x y : Int64} (h : ¬ x = y) : ifCond.holds .eq (lcmpW x y) = false ∧ ifCond.holds .ne (lcmpW x y) = true := have q : ¬ lcmpW x y = 0 := fun z => h ((lw_eq x y).mp z); ⟨own_lc (feq q).1, own_lc (feq q).2⟩
theorem own_kext {h0 h : Heap} (K : Keep h0 h []) : Ext h0 h := ⟨K.1, fun a c q => K.2.1 a c q nin0⟩
section OwnVec
variable {p : Program} {l : Launch} {e : Env} {R : Room} {s : State} {m : MethodId} {args : Array Value} {below : List Frame} {meth : Method} {c : Code} {T T' : State} {locs : List Loc} {cells slots : Nat} {Q : Option Value → Heap → List Loc → Prop} {C S : Nat} {Z : State} {a0 : Array Value} {h h' : Heap} {a b : Addr} {ty : FieldType} {L : List Int32} {pc : Nat} {Ls : Array Slot} {rest : List Value}
/-- the array at a holds the ints of L, and no more -/
def OVec (Z : State) (h : Heap) (a : Addr) (ty : FieldType) (L : List Int32) : Prop := ∃ c : Cell, Arr Z h a c ty ∧ c.slots = (L.map Value.int).toArray
theorem OVec.lt (V : OVec Z h a ty L) : a < h.size := by obtain ⟨c, A, -⟩ := V; exact A.lt
theorem OVec.ext (V : OVec Z h a ty L) (E : Ext h h') : OVec Z h' a ty L := by obtain ⟨c, A, r⟩ := V; exact ⟨c, A.ext E, r⟩
theorem OVec.other {sl : Nat} {v : Value} (V : OVec Z h b ty L) (W : Wr h h' a sl v) (q : b ≠ a) : OVec Z h' b ty L := by obtain ⟨c, A, r⟩ := V; exact ⟨c, A.other W q, r⟩
theorem OVec.keep {ws : List Addr} (V : OVec Z h a ty L) (K : Keep h h' ws) (q : a ∉ ws) : OVec Z h' a ty L := by obtain ⟨c, A, r⟩ := V; exact ⟨c, ⟨K.2.1 a c A.1 q, A.2⟩, r⟩
theorem OVec.set {j : Nat} {x : Int32} (V : OVec Z h a ty L) (W : Wr h h' a j (.int x)) : OVec Z h' a ty (L.set j x) := by
  obtain ⟨c, A, r⟩ := V
  refine ⟨c.setSlot j (.int x), A.same W, ?_⟩
  show c.slots.setIfInBounds j (.int x) = _
  rw [r, List.setIfInBounds_toArray, List.map_set]
theorem OVec.new {k : ClassId} {n : Int32} (A : Arr Z h a (newA k ty n) ty) (hd : defaultValue ty = .int 0) {N : Nat} (hn : n.toInt = N) : OVec Z h a ty (List.replicate N 0) := by
  refine ⟨_, A, ?_⟩
  have e : n.toNatClampNeg = N := by simp only [Int32.toNatClampNeg]; omega
  simp [newA, hd, e]
theorem own_ix {j : Int32} {i : Nat} (hj : j.toInt = i) : ¬ j < 0 ∧ j.toNatClampNeg = i := by
  refine ⟨fun q => ?_, ?_⟩
  · have := Int32.lt_iff_toInt_lt.mp q; have z : (0 : Int32).toInt = 0 := rfl; omega
  · simp only [Int32.toNatClampNeg]; omega
theorem own_in {c : Cell} {j : Int32} {i : Nat} (hj : j.toInt = i) (r : c.slots = (L.map Value.int).toArray) (hi : i < L.length) : ¬ (j < 0 ∨ c.slots.size ≤ j.toNatClampNeg) := by
  obtain ⟨q1, q2⟩ := own_ix hj
  rintro (q | q)
  · exact q1 q
  · rw [r, q2] at q; simp at q; omega
theorem own_iaload (X : Stand p l e R s m args below meth c T locs cells slots) (hx : p.tables.exec = Jvm.exec) (hZ : Z.Warmed39 s.vm) (eT : T.heap = h) (V : OVec Z h a .int L) {j : Int32} {i : Nat} (hj : j.toInt = i) (hi : i < L.length) (hd : decode c.code pc = .ok (.iaload, 1))
    (K : ∀ v, v = L.getD i 0 → ORun p e below s Q C S T (mkF m (pc + 1) Ls (.int v :: rest))) : ORun p e below s Q C S T (mkF m pc Ls (.int j :: .ref a :: rest)) := by
  obtain ⟨cl, A, r⟩ := V
  refine own_by (fun t k => X.iaload hx (j := j) (v := .int (L.getD i 0)) (by rw [eT]; exact A.1) (State.isArrayOf_alike hZ.alike A.2.1) A.2.2 (own_in hj r hi) ?_ (g := mkF m pc Ls (.int j :: .ref a :: rest)) rfl rfl hd _ k) (K _ rfl)
  rw [(own_ix hj).2, r]; simp [List.getD_eq_getElem?_getD, List.getElem?_eq_getElem hi]
theorem own_baload (X : Stand p l e R s m args below meth c T locs cells slots) (hx : p.tables.exec = Jvm.exec) (hZ : Z.Warmed39 s.vm) (eT : T.heap = h) (V : OVec Z h a .byte L) {j : Int32} {i : Nat} (hj : j.toInt = i) (hi : i < L.length) (hd : decode c.code pc = .ok (.baload, 1))
    (K : ∀ v, v = L.getD i 0 → ORun p e below s Q C S T (mkF m (pc + 1) Ls (.int v :: rest))) : ORun p e below s Q C S T (mkF m pc Ls (.int j :: .ref a :: rest)) := by
  obtain ⟨cl, A, r⟩ := V
  refine own_by (fun t k => X.baloadBytes hx (j := j) (v := .int (L.getD i 0)) (by rw [eT]; exact A.1) (State.isArrayOf_alike hZ.alike A.2.1) A.2.2 (own_in hj r hi) ?_ (g := mkF m pc Ls (.int j :: .ref a :: rest)) rfl rfl hd _ k) (K _ rfl)
  rw [(own_ix hj).2, r]; simp [List.getD_eq_getElem?_getD, List.getElem?_eq_getElem hi]
theorem own_len (X : Stand p l e R s m args below meth c T locs cells slots) (hx : p.tables.exec = Jvm.exec) (hZ : Z.Warmed39 s.vm) (eT : T.heap = h) (V : OVec Z h a ty L) {n : Nat} (hl : L.length = n) (hd : decode c.code pc = .ok (.arraylength, 1))
    (K : ORun p e below s Q C S T (mkF m (pc + 1) Ls (.int n.toInt32 :: rest))) : ORun p e below s Q C S T (mkF m pc Ls (.ref a :: rest)) := by
  obtain ⟨cl, A, r⟩ := V
  have hs : cl.slots.size = n := by rw [r]; simp [hl]
  refine own_by (fun t k => X.arraylength hx (by rw [eT]; exact A.1) (State.isArrayOf_alike hZ.alike A.2.1) (g := mkF m pc Ls (.ref a :: rest)) rfl rfl hd _ k) ?_
  rw [hs]; exact K
theorem own_iastore (X : Stand p l e R s m args below meth c T locs cells slots) (hx : p.tables.exec = Jvm.exec) (hZ : Z.Warmed39 s.vm) (eT : T.heap = h) (V : OVec Z h a .int L) {j x : Int32} {i : Nat} (hj : j.toInt = i) (hi : i < L.length) (hd : decode c.code pc = .ok (.iastore, 1))
    (K : ∀ T' h' L', Stand p l e R s m args below meth c T' (locs ++ [⟨a, i⟩]) cells slots → T'.heap = h' → Wr h h' a i (.int x) → L' = L.set i x → OVec Z h' a .int L' → ORun p e below s Q C S T' (mkF m (pc + 1) Ls rest)) : ORun p e below s Q C S T (mkF m pc Ls (.int x :: .int j :: .ref a :: rest)) := by
  obtain ⟨cl, A, r⟩ := id V
  obtain ⟨T', h', X', e', W, st⟩ := stI X hx hZ eT A (own_in hj r hi) (g := mkF m pc Ls (.int x :: .int j :: .ref a :: rest)) rfl rfl hd
  rw [(own_ix hj).2] at X' W
  exact own_by st (K T' h' _ X' e' W rfl (V.set W))
theorem own_bastore (X : Stand p l e R s m args below meth c T locs cells slots) (hx : p.tables.exec = Jvm.exec) (hZ : Z.Warmed39 s.vm) (eT : T.heap = h) (V : OVec Z h a .byte L) {j x : Int32} {i : Nat} (hj : j.toInt = i) (hi : i < L.length) (hd : decode c.code pc = .ok (.bastore, 1))
    (K : ∀ T' h' L', Stand p l e R s m args below meth c T' (locs ++ [⟨a, i⟩]) cells slots → T'.heap = h' → Wr h h' a i (.int (nar .byte x)) → L' = L.set i (nar .byte x) → OVec Z h' a .byte L' → ORun p e below s Q C S T' (mkF m (pc + 1) Ls rest)) : ORun p e below s Q C S T (mkF m pc Ls (.int x :: .int j :: .ref a :: rest)) := by
  obtain ⟨cl, A, r⟩ := id V
  obtain ⟨T', h', X', e', W, st⟩ := stB X hx hZ eT A (own_in hj r hi) (g := mkF m pc Ls (.int x :: .int j :: .ref a :: rest)) rfl rfl hd
  rw [(own_ix hj).2] at X' W
  exact own_by st (K T' h' _ X' e' W rfl (V.set W))
theorem own_newarray (X : Stand p l e R s m args below meth c T locs cells slots) (hx : p.tables.exec = Jvm.exec) (hZ : Z.Warmed39 s.vm) {aty : ArrayType} (w : (Jvm.Cond.arrayClass (newarray.typeOf aty)).before a0 Z = true) (eT : T.heap = h) (hdv : defaultValue (newarray.typeOf aty) = .int 0) {n : Int32} {N cap : Nat} (hn : n.toInt = N) (hcap : N ≤ cap) (hb : cap * 8 ≤ 536870912) (hc : cells + 1 ≤ R.cells) (hl : slots + cap ≤ R.slots) {ad : String} (had : "[" ++ (newarray.typeOf aty).toString = ad) (hd : decode c.code pc = .ok (.newarray aty, 2))
    (K : ∀ T' h' b L', b = h.size → Stand p l e R s m args below meth c T' locs (cells + 1) (slots + cap) → T'.heap = h' → Ext h h' → L' = List.replicate N (0 : Int32) → OVec Z h' b (newarray.typeOf aty) L' → Exa Z h' b ad → ORun p e below s Q C S T' (mkF m (pc + 2) Ls (.ref b :: rest))) : ORun p e below s Q C S T (mkF m pc Ls (.int n :: rest)) := by
  have q := own_ix hn
  obtain ⟨T', h', cA, X', e', E, A, Ex, st⟩ := newPE X hx hZ w eT (g := mkF m pc Ls (.int n :: rest)) rfl hd rfl q.1 (cap := cap) (by rw [q.2]; exact hcap) hb hc hl had
  exact own_by st (K T' h' _ _ rfl X' e' E rfl (OVec.new A hdv hn) Ex)
end OwnVec
section OwnVecJ
variable {p : Program} {l : Launch} {e : Env} {R : Room} {s : State} {m : MethodId} {args : Array Value} {below : List Frame} {meth : Method} {c : Code} {T T' : State} {locs : List Loc} {cells slots : Nat} {Q : Option Value → Heap → List Loc → Prop} {C S : Nat} {Z : State} {a0 : Array Value} {h h' : Heap} {a b : Addr} {L : List Int64} {pc : Nat} {Ls : Array Slot} {rest : List Value}
def OVecJ (Z : State) (h : Heap) (a : Addr) (L : List Int64) : Prop := ∃ c : Cell, Arr Z h a c .long ∧ c.slots = (L.map Value.long).toArray
theorem OVecJ.lt (V : OVecJ Z h a L) : a < h.size := by obtain ⟨c, A, -⟩ := V; exact A.lt
theorem OVecJ.ext (V : OVecJ Z h a L) (E : Ext h h') : OVecJ Z h' a L := by obtain ⟨c, A, r⟩ := V; exact ⟨c, A.ext E, r⟩
theorem OVecJ.other {sl : Nat} {v : Value} (V : OVecJ Z h b L) (W : Wr h h' a sl v) (q : b ≠ a) : OVecJ Z h' b L := by obtain ⟨c, A, r⟩ := V; exact ⟨c, A.other W q, r⟩
theorem OVecJ.keep {ws : List Addr} (V : OVecJ Z h a L) (K : Keep h h' ws) (q : a ∉ ws) : OVecJ Z h' a L := by obtain ⟨c, A, r⟩ := V; exact ⟨c, ⟨K.2.1 a c A.1 q, A.2⟩, r⟩
theorem OVecJ.set {j : Nat} {x : Int64} (V : OVecJ Z h a L) (W : Wr h h' a j (.long x)) : OVecJ Z h' a (L.set j x) := by
  obtain ⟨c, A, r⟩ := V
  refine ⟨c.setSlot j (.long x), A.same W, ?_⟩
  show c.slots.setIfInBounds j (.long x) = _
  rw [r, List.setIfInBounds_toArray, List.map_set]
theorem OVecJ.new {k : ClassId} {n : Int32} (A : Arr Z h a (newA k .long n) .long) {N : Nat} (hn : n.toInt = N) : OVecJ Z h a (List.replicate N 0) := by
  refine ⟨_, A, ?_⟩
  have e : n.toNatClampNeg = N := by simp only [Int32.toNatClampNeg]; omega
  have d : defaultValue .long = .long 0 := rfl
  simp [newA, e, d]
theorem own_inJ {c : Cell} {j : Int32} {i : Nat} (hj : j.toInt = i) (r : c.slots = (L.map Value.long).toArray) (hi : i < L.length) : ¬ (j < 0 ∨ c.slots.size ≤ j.toNatClampNeg) := by
  obtain ⟨q1, q2⟩ := own_ix hj
  rintro (q | q)
  · exact q1 q
  · rw [r, q2] at q; simp at q; omega
theorem own_laload (X : Stand p l e R s m args below meth c T locs cells slots) (hx : p.tables.exec = Jvm.exec) (hZ : Z.Warmed39 s.vm) (eT : T.heap = h) (V : OVecJ Z h a L) {j : Int32} {i : Nat} (hj : j.toInt = i) (hi : i < L.length) (hd : decode c.code pc = .ok (.laload, 1))
    (K : ∀ v, v = L.getD i 0 → ORun p e below s Q C S T (mkF m (pc + 1) Ls (.long v :: rest))) : ORun p e below s Q C S T (mkF m pc Ls (.int j :: .ref a :: rest)) := by
  obtain ⟨cl, A, r⟩ := V
  refine own_by (fun t k => X.laload hx (j := j) (v := .long (L.getD i 0)) (by rw [eT]; exact A.1) (State.isArrayOf_alike hZ.alike A.2.1) A.2.2 (own_inJ hj r hi) ?_ (g := mkF m pc Ls (.int j :: .ref a :: rest)) rfl rfl hd _ k) (K _ rfl)
  rw [(own_ix hj).2, r]; simp [List.getD_eq_getElem?_getD, List.getElem?_eq_getElem hi]
theorem own_lastore (X : Stand p l e R s m args below meth c T locs cells slots) (hx : p.tables.exec = Jvm.exec) (hZ : Z.Warmed39 s.vm) (eT : T.heap = h) (V : OVecJ Z h a L) {j : Int32} {x : Int64} {i : Nat} (hj : j.toInt = i) (hi : i < L.length) (hd : decode c.code pc = .ok (.lastore, 1))
    (K : ∀ T' h' L', Stand p l e R s m args below meth c T' (locs ++ [⟨a, i⟩]) cells slots → T'.heap = h' → Wr h h' a i (.long x) → L' = L.set i x → OVecJ Z h' a L' → ORun p e below s Q C S T' (mkF m (pc + 1) Ls rest)) : ORun p e below s Q C S T (mkF m pc Ls (.long x :: .int j :: .ref a :: rest)) := by
  obtain ⟨cl, A, r⟩ := id V
  obtain ⟨T', h', X', e', W, st⟩ := stJ X hx hZ eT A (own_inJ hj r hi) (g := mkF m pc Ls (.long x :: .int j :: .ref a :: rest)) rfl rfl hd
  rw [(own_ix hj).2] at X' W
  exact own_by st (K T' h' _ X' e' W rfl (V.set W))
theorem own_newJ (X : Stand p l e R s m args below meth c T locs cells slots) (hx : p.tables.exec = Jvm.exec) (hZ : Z.Warmed39 s.vm) (w : (Jvm.Cond.arrayClass .long).before a0 Z = true) (eT : T.heap = h) {n : Int32} {N cap : Nat} (hn : n.toInt = N) (hcap : N ≤ cap) (hb : cap * 8 ≤ 536870912) (hc : cells + 1 ≤ R.cells) (hl : slots + cap ≤ R.slots) (hd : decode c.code pc = .ok (.newarray .long, 2))
    (K : ∀ T' h' b L', b = h.size → Stand p l e R s m args below meth c T' locs (cells + 1) (slots + cap) → T'.heap = h' → Ext h h' → L' = List.replicate N (0 : Int64) → OVecJ Z h' b L' → ORun p e below s Q C S T' (mkF m (pc + 2) Ls (.ref b :: rest))) : ORun p e below s Q C S T (mkF m pc Ls (.int n :: rest)) := by
  have q := own_ix hn
  obtain ⟨T', h', cA, X', e', E, A, st⟩ := newP X hx hZ (aty := .long) w eT (g := mkF m pc Ls (.int n :: rest)) rfl hd rfl q.1 (cap := cap) (by rw [q.2]; exact hcap) hb hc hl
  exact own_by st (K T' h' _ _ rfl X' e' E rfl (OVecJ.new A hn))
end OwnVecJ
section OwnCopy
variable {p : Program} {l : Launch} {e : Env} {R : Room} {s : State} {m : MethodId} {args : Array Value} {below : List Frame} {meth : Method} {c : Code} {T T' : State} {locs : List Loc} {cells slots : Nat} {Q : Option Value → Heap → List Loc → Prop} {C S : Nat} {Z : State} {a0 : Array Value} {h h' : Heap} {a b : Addr} {ty : FieldType} {L M : List Int32} {pc : Nat} {Ls : Array Slot} {rest : List Value}
theorem own_getD (L : List Int32) (i : Nat) : (L.map Value.int).getD i (.int 0) = .int (L.getD i 0) := by
  simp only [List.getD_eq_getElem?_getD, List.getElem?_map]
  cases L[i]? <;> rfl
theorem OVec.arv (V : OVec Z h a .int L) (hn : L.length < 2 ^ 31) : ∃ k, Arv Z h a k .int (Int32.ofNat L.length) (L.map Value.int) (.int 0) := by
  obtain ⟨cl, A, r⟩ := V
  have e0 : (Int32.ofNat L.length).toInt = L.length := Int32.toInt_ofNat_of_lt hn
  obtain ⟨q1, q2⟩ := own_ix e0
  refine ⟨cl.cls, cl, A, rfl, by rw [q2, r]; simp, q1, fun i hi => ?_, fun i _ => by rw [own_getD]; rfl⟩
  rw [own_getD, r]
  rw [r] at hi
  have hi' : i < L.length := by simpa using hi
  simp [List.getD_eq_getElem?_getD, hi']
theorem OVec.of_arv {k : ClassId} {z : Int32} {vs : List Value} {d : Value} (F : Arv Z h a k ty z vs d) (ev : vs = L.map Value.int) (hl : L.length = z.toNatClampNeg) : OVec Z h a ty L := by
  obtain ⟨cl, A, -, S, -, H, -⟩ := F
  refine ⟨cl, A, ?_⟩
  apply Array.ext_getElem?
  intro i
  by_cases hi : i < L.length
  · rw [H i (by omega), ev]; simp [List.getD_eq_getElem?_getD, hi]
  · rw [Array.getElem?_eq_none (by omega), Array.getElem?_eq_none (by simp; omega)]
theorem own_us (L : List Int32) (i k : Nat) (h : i + k ≤ L.length) : ((List.range k).map fun x => (L.map Value.int).getD (i + x) (.int 0)) = ((L.drop i).take k).map Value.int := by
  apply List.ext_getElem?
  intro x
  by_cases hx : x < k
  · have h2 : i + x < L.length := by omega
    simp [own_getD, hx, List.getD_eq_getElem?_getD, List.getElem?_take, List.getElem?_drop, h2]
  · rw [List.getElem?_eq_none (by simp; omega), List.getElem?_eq_none (by simp; omega)]
theorem own_acopy (X : Stand p l e R s m args below meth c T locs cells slots) (hx : p.tables.exec = Jvm.exec) (hZ : Z.Warmed39 s.vm) {own : String} {index : Nat} (hown : s.vm.findClass own = some m.cls)
    (w1 : (Jvm.Cond.methodLink own index Jvm.Stand.acN).before a0 Z = true) (w2 : (Jvm.Cond.native Jvm.Stand.acN).before a0 Z = true) (w3 : (Jvm.Cond.static Jvm.Stand.acN).before a0 Z = true) (w4 : (Jvm.Cond.initialized "java/lang/System").before a0 Z = true) (eT : T.heap = h)
    (A : OVec Z h a .int L) (B : OVec Z h b .int M) (hL : L.length < 2 ^ 31) (hM : M.length < 2 ^ 31) {sp dp nn : Int32} {i j k : Nat} (hi : sp.toInt = i) (hj : dp.toInt = j) (hk : nn.toInt = k) (h4 : i + k ≤ L.length) (h5 : j + k ≤ M.length) {n0 : Nat} (N : Fr n0 locs) (ge : n0 ≤ b)
    (hsize : Ls.size = c.maxLocals) (hd : decode c.code pc = .ok (.invokestatic index, 3)) (hf : 1 ≤ R.frames) {W : Nat} (hW : 2 * 0 + (rest.map fun v => v.category).sum ≤ W) (hlo : W + (nativeFrameWords "java/lang/System" "arraycopy" 5 + 11) ≤ R.locals)
    (K : ∀ T' h' L2, Stand p l e R s m args below meth c T' L2 cells slots → T'.heap = h' → Fr n0 L2 → Keep h h' [b] → OVec Z h' b .int (M.take j ++ (L.drop i).take k ++ M.drop (j + k)) → ORun p e below s Q C S T' (mkF m (pc + 3) Ls rest)) :
    ORun p e below s Q C S T (mkF m pc Ls (.int nn :: .int dp :: .ref b :: .int sp :: .ref a :: rest)) := by
  obtain ⟨ka, Fa⟩ := A.arv hL
  obtain ⟨kb, Fb⟩ := B.arv hM
  obtain ⟨i1, i2⟩ := own_ix hi
  obtain ⟨j1, j2⟩ := own_ix hj
  obtain ⟨k1, k2⟩ := own_ix hk
  have zl : (Int32.ofNat L.length).toNatClampNeg = L.length := (own_ix (Int32.toInt_ofNat_of_lt hL)).2
  have zm : (Int32.ofNat M.length).toNatClampNeg = M.length := (own_ix (Int32.toInt_ofNat_of_lt hM)).2
  obtain ⟨T', h', L2, X', e', N', K', F', st⟩ := cpA X hx hZ hown w1 w2 w3 w4 eT Fa Fb (Or.inl ⟨rfl, rfl⟩) i1 j1 k1 (by rw [i2, k2, zl]; exact h4) (by rw [j2, k2, zm]; exact h5) rfl (by rw [j2, k2]; simpa using h5) N ge (g := mkF m pc Ls (.int nn :: .int dp :: .ref b :: .int sp :: .ref a :: rest)) rfl hsize rfl hd hf hW hlo
  rw [i2, j2, k2, own_us L i k h4] at F'
  refine own_by st (K T' h' L2 X' e' N' K' (OVec.of_arv F' (by simp) ?_))
  rw [zm]; simp; omega
theorem own_lenv (X : Stand p l e R s m args below meth c T locs cells slots) (hx : p.tables.exec = Jvm.exec) (hZ : Z.Warmed39 s.vm) (eT : T.heap = h) (V : OVec Z h a ty L) {n : Nat} (hl : L.length = n) (hn : n < 2 ^ 31) (hd : decode c.code pc = .ok (.arraylength, 1))
    (K : ∀ v : Int32, v.toInt = n → ORun p e below s Q C S T (mkF m (pc + 1) Ls (.int v :: rest))) : ORun p e below s Q C S T (mkF m pc Ls (.ref a :: rest)) :=
  own_len X hx hZ eT V hl hd (K _ (len_toInt hn))
theorem own_clone (X : Stand p l e R s m args below meth c T locs cells slots) (hx : p.tables.exec = Jvm.exec) (hZ : Z.Warmed39 s.vm) {own : String} {index : Nat} (hown : s.vm.findClass own = some m.cls)
    (w1 : (Jvm.Cond.methodLink own index ⟨"[I", "clone", "()Ljava/lang/Object;"⟩).before a0 Z = true) (w2 : (Jvm.Cond.sameMethod "[I" "java/lang/Object" "clone" "()Ljava/lang/Object;").before a0 Z = true) (w3 : (Jvm.Cond.native ⟨"java/lang/Object", "clone", "()Ljava/lang/Object;"⟩).before a0 Z = true)
    (w4 : (Jvm.Cond.instanceMethod ⟨"java/lang/Object", "clone", "()Ljava/lang/Object;"⟩).before a0 Z = true) (w5 : (Jvm.Cond.selects "[I" ⟨"[I", "clone", "()Ljava/lang/Object;"⟩ ⟨"java/lang/Object", "clone", "()Ljava/lang/Object;"⟩).before a0 Z = true) (w6 : (Jvm.Cond.castable "[I" "java/lang/Cloneable").before a0 Z = true)
    (eT : T.heap = h) (V : OVec Z h a .int L) (E : Exa Z h a "[I") (hsize : Ls.size = c.maxLocals) (hd : decode c.code pc = .ok (.invokevirtual index, 3)) (hf : 1 ≤ R.frames) {W cap : Nat} (hW : 2 * 0 + (rest.map fun v => v.category).sum ≤ W) (hl : W + 14 ≤ R.locals) (hcap : L.length ≤ cap) (hc : cells + 1 ≤ R.cells) (hsl : slots + cap ≤ R.slots)
    (K : ∀ T' h' b, b = h.size → Stand p l e R s m args below meth c T' locs (cells + 1) (slots + cap) → T'.heap = h' → Ext h h' → OVec Z h' b .int L → Exa Z h' b "[I" → ORun p e below s Q C S T' (mkF m (pc + 3) Ls (.ref b :: rest))) :
    ORun p e below s Q C S T (mkF m pc Ls (.ref a :: rest)) := by
  obtain ⟨cl, A, r⟩ := V
  have FC : FitC Z cl := fitC_of A fun i hi v hv => by
    rw [r] at hv
    simp only [List.getElem?_toArray, List.getElem?_map] at hv
    cases hL : L[i]? with
    | none => rw [hL] at hv; cases hv
    | some x => rw [hL] at hv; cases hv; rfl
  obtain ⟨T', h', X', e', ex, A', E', st⟩ := cloneA X hx hZ hown w1 w2 w3 w4 w5 w6 eT A E FC (g := mkF m pc Ls (.ref a :: rest)) rfl hsize rfl hd hf hW hl (by rw [r]; simpa using hcap) hc hsl
  exact own_by st (K T' h' _ rfl X' e' ex ⟨cloneOf cl, A', r⟩ E')
end OwnCopy
def own_bump (L : List Int32) (d : Int32) : List Int32 := L.set (d + 1).toInt.toNat (L.getD (d + 1).toInt.toNat 0 + 1)
def own_acc (L : List Int32) (j : Nat) : List Int32 := L.set (j + 1) (L.getD (j + 1) 0 + L.getD j 0)
def own_S (s : Nat) (ds : List Int32) : List Int32 := (List.range s).foldl own_acc (ds.foldl own_bump (List.replicate (s + 1) 0))
def own_nx (N : List Int32) (d : Int32) : List Int32 := N.set d.toInt.toNat (N.getD d.toInt.toNat 0 + 1)
def own_N (s : Nat) (ds : List Int32) : Nat → List Int32
  | 0 => (own_S s ds).take s
  | k + 1 => own_nx (own_N s ds k) (ds.getD k 0)
def own_pos (s : Nat) (ds : List Int32) (k : Nat) : Int32 := (own_N s ds k).getD (ds.getD k 0).toInt.toNat 0
def own_Dk (s : Nat) (ds : List Int32) : Nat → List Int32
  | 0 => List.replicate 5 0
  | k + 1 => (own_Dk s ds k).set (own_pos s ds k).toInt.toNat (Int32.ofNat k)
def own_D (s : Nat) (ds : List Int32) : List Int32 := own_Dk s ds 5
def own_sel (q : Int32) (ds : List Int32) : List Int32 := ((List.range 5).filter (fun i => ds.getD i 0 == q)).map Int32.ofNat
def own_f (s : Nat) (ds : List Int32) (q : Nat) : Int32 := (own_S s ds).getD q 0
def own_P (s : Nat) (ds : List Int32) : Bool := (List.range 5).all (fun k => decide (0 ≤ (own_pos s ds k).toInt ∧ (own_pos s ds k).toInt < 5)) && (List.range s).all (fun q => decide (0 ≤ (own_f s ds q).toInt ∧ (own_f s ds q).toInt ≤ (own_f s ds (q + 1)).toInt ∧ (own_f s ds (q + 1)).toInt ≤ 5 ∧ (((own_D s ds).drop (own_f s ds q).toInt.toNat).take ((own_f s ds (q + 1)).toInt - (own_f s ds q).toInt).toNat = own_sel (Int32.ofNat q) ds)))
set_option maxRecDepth 100000 in
theorem own_P1 : ∀ a b c d e : Fin 1, own_P 1 [Int32.ofNat a.1, Int32.ofNat b.1, Int32.ofNat c.1, Int32.ofNat d.1, Int32.ofNat e.1] = true := by decide +kernel
set_option maxRecDepth 100000 in
theorem own_P2 : ∀ a b c d e : Fin 2, own_P 2 [Int32.ofNat a.1, Int32.ofNat b.1, Int32.ofNat c.1, Int32.ofNat d.1, Int32.ofNat e.1] = true := by decide +kernel
set_option maxRecDepth 100000 in
theorem own_P3 : ∀ a b c d e : Fin 3, own_P 3 [Int32.ofNat a.1, Int32.ofNat b.1, Int32.ofNat c.1, Int32.ofNat d.1, Int32.ofNat e.1] = true := by decide +kernel
set_option maxRecDepth 100000 in
theorem own_P4 : ∀ a b c d e : Fin 4, own_P 4 [Int32.ofNat a.1, Int32.ofNat b.1, Int32.ofNat c.1, Int32.ofNat d.1, Int32.ofNat e.1] = true := by decide +kernel
theorem own_of (d : Int32) (h : 0 ≤ d.toInt) : Int32.ofNat d.toInt.toNat = d := by
  apply Int32.toInt_inj.mp
  have := d.toInt_lt
  rw [Int32.toInt_ofNat_of_lt (by omega)]; omega
theorem own_PP {s : Nat} (hs : s = 1 ∨ s = 2 ∨ s = 3 ∨ s = 4) {a b c d e : Int32} (ha : 0 ≤ a.toInt ∧ a.toInt < s) (hb : 0 ≤ b.toInt ∧ b.toInt < s) (hc : 0 ≤ c.toInt ∧ c.toInt < s) (hd : 0 ≤ d.toInt ∧ d.toInt < s) (he : 0 ≤ e.toInt ∧ e.toInt < s) : own_P s [a, b, c, d, e] = true := by
  have key : ∀ (F : ∀ a b c d e : Fin s, own_P s [Int32.ofNat a.1, Int32.ofNat b.1, Int32.ofNat c.1, Int32.ofNat d.1, Int32.ofNat e.1] = true), own_P s [a, b, c, d, e] = true := fun F => by
    have q := F ⟨a.toInt.toNat, by omega⟩ ⟨b.toInt.toNat, by omega⟩ ⟨c.toInt.toNat, by omega⟩ ⟨d.toInt.toNat, by omega⟩ ⟨e.toInt.toNat, by omega⟩
    simpa only [own_of a ha.1, own_of b hb.1, own_of c hc.1, own_of d hd.1, own_of e he.1] using q
  rcases hs with rfl | rfl | rfl | rfl
  · exact key own_P1
  · exact key own_P2
  · exact key own_P3
  · exact key own_P4
theorem own_Ppos {s : Nat} {ds : List Int32} (h : own_P s ds = true) (k : Nat) (hk : k < 5) : 0 ≤ (own_pos s ds k).toInt ∧ (own_pos s ds k).toInt < 5 := by
  have q := (Bool.and_eq_true_iff.mp h).1
  exact of_decide_eq_true (List.all_eq_true.mp q k (List.mem_range.mpr hk))
theorem own_Psel {s : Nat} {ds : List Int32} (h : own_P s ds = true) (q : Nat) (hq : q < s) : 0 ≤ (own_f s ds q).toInt ∧ (own_f s ds q).toInt ≤ (own_f s ds (q + 1)).toInt ∧ (own_f s ds (q + 1)).toInt ≤ 5 ∧ (((own_D s ds).drop (own_f s ds q).toInt.toNat).take ((own_f s ds (q + 1)).toInt - (own_f s ds q).toInt).toNat = own_sel (Int32.ofNat q) ds) := by
  have z := (Bool.and_eq_true_iff.mp h).2
  exact of_decide_eq_true (List.all_eq_true.mp z q (List.mem_range.mpr hq))
theorem own_sel_eq (q d0 d1 d2 d3 d4 : Int32) : own_sel q [d0, d1, d2, d3, d4] = (if d0 = q then [(0 : Int32)] else []) ++ ((if d1 = q then [(1 : Int32)] else []) ++ ((if d2 = q then [(2 : Int32)] else []) ++ ((if d3 = q then [(3 : Int32)] else []) ++ (if d4 = q then [(4 : Int32)] else [])))) := by
  have r : List.range 5 = [0, 1, 2, 3, 4] := by decide
  unfold own_sel
  rw [r]
  by_cases h0 : d0 = q <;> by_cases h1 : d1 = q <;> by_cases h2 : d2 = q <;> by_cases h3 : d3 = q <;> by_cases h4 : d4 = q <;> simp [List.filter_cons, h0, h1, h2, h3, h4]
theorem own_tk {E : List Int32} {k i : Nat} (h : i < k) : (E.take k).getD i 0 = E.getD i 0 := by
  simp [List.getD_eq_getElem?_getD, List.getElem?_take, h]
theorem pd_0 : parseMethodDescriptor "(II)I" = some ⟨[.int, .int], some .int⟩ := by decide +kernel
theorem pd_1 : parseMethodDescriptor "(II)V" = some ⟨[.int, .int], none⟩ := by decide +kernel
theorem pd_2 : parseMethodDescriptor "([III)[I" = some ⟨[(.array .int), .int, .int], some (.array .int)⟩ := by decide +kernel
theorem pd_3 : parseMethodDescriptor "([II)[I" = some ⟨[(.array .int), .int], some (.array .int)⟩ := by decide +kernel
theorem pd_4 : parseMethodDescriptor "(I[I)V" = some ⟨[.int, (.array .int)], none⟩ := by decide +kernel
theorem pd_5 : parseMethodDescriptor "(I)[I" = some ⟨[.int], some (.array .int)⟩ := by decide +kernel
theorem d4_0 : decode jdk_29_method_69_code 0 = .ok (.iload_n 0, 1) := by decide +kernel
theorem d4_1 : decode jdk_29_method_69_code 1 = .ok (.iload_n 1, 1) := by decide +kernel
theorem d4_2 : decode jdk_29_method_69_code 2 = .ok (.if_icmp .gt 7, 3) := by decide +kernel
theorem d4_5 : decode jdk_29_method_69_code 5 = .ok (.iload_n 0, 1) := by decide +kernel
theorem d4_6 : decode jdk_29_method_69_code 6 = .ok (.goto 4, 3) := by decide +kernel
theorem d4_9 : decode jdk_29_method_69_code 9 = .ok (.iload_n 1, 1) := by decide +kernel
theorem d4_10 : decode jdk_29_method_69_code 10 = .ok (.ireturn, 1) := by decide +kernel
theorem pn_rm4 : plainFor (⟨"java/lang/Math", "min", "(II)I"⟩ : MethodName) = true := Jvm.Free.JP.mathPlain rfl (by decide +kernel)
theorem ef_rm4 (m : MethodId) (x0 : Int32) (x1 : Int32) : entryFrame m #[(.int x0), (.int x1)] 2 = mkF m 0 #[.val (.int x0), .val (.int x1)] [] := by first | (simp [entryFrame, mkF, argsToLocals, Value.category]; done) | rfl
set_option maxRecDepth 65536 in
set_option maxHeartbeats 40000000 in
theorem rm4 (l : Launch) (Z : State) (a0 : Array Value) (hw : ∀ d ∈ tables_1, d.before a0 Z = true) (ws : List Jvm.Cond) (h0 : Heap) (n0 : Nat) (Z0 : n0 ≤ h0.size) (p1 p2 : Int32) :
    OMet l (⟨"java/lang/Math", "min", "(II)I"⟩ : MethodName) jdk_29_method_69_code 2 (some .int) ws ({ frames := 0, cells := 0, slots := 0, locals := 0 } : Room) #[(.int p1), (.int p2)] Z h0 (fun v h L => ∃ r : Int32, v = some (.int r) ∧ ((r.toInt = p1.toInt ∧ p1.toInt ≤ p2.toInt) ∨ (r.toInt = p2.toInt ∧ p2.toInt ≤ p1.toInt)) ∧ Fr n0 L ∧ h = h0) := by
  refine own_met pn_rm4 ?_
  intro p e s m below meth c s₁ X0 hx hby hml hown hnm hret hlk hZ e0
  rw [ef_rm4]
  have N0 := Fr.nil n0
  have rg_p1 := rng32 p1
  have rg_p2 := rng32 p2
  show ORun p e below s _ _ _ s₁ (mkF m 0 #[.val (.int p1), .val (.int p2)] [])
  refine own_by (fun t k => XS.iloadN X0.here hx rfl (hb hby d4_0) rfl k) ?_
  show ORun p e below s _ _ _ s₁ (mkF m 1 #[.val (.int p1), .val (.int p2)] [(.int p1)])
  refine own_by (fun t k => XS.iloadN X0.here hx rfl (hb hby d4_1) rfl k) ?_
  show ORun p e below s _ _ _ s₁ (mkF m 2 #[.val (.int p1), .val (.int p2)] [(.int p2), (.int p1)])
  by_cases hc1 : p2 < p1
  · have t1 := own_lt hc1 (a := p2.toInt) (b := p1.toInt) rfl rfl
    refine own_by (fun t k => XS.icmpYes X0.here hx rfl (pc0 := 2) (pc' := 9) rfl (hb hby d4_2) rfl (tlt hc1).2.2.1 (by decide) (by decide) k) ?_
    show ORun p e below s _ _ _ s₁ (mkF m 9 #[.val (.int p1), .val (.int p2)] [])
    refine own_by (fun t k => XS.iloadN X0.here hx rfl (hb hby d4_9) rfl k) ?_
    show ORun p e below s _ _ _ s₁ (mkF m 10 #[.val (.int p1), .val (.int p2)] [(.int p2)])
    refine own_retI X0 hx hret hlk (hb hby d4_10) (by decide) (by decide) ?_
    exact ⟨p2, rfl, by omega, N0, e0⟩
  · have t1 := own_nlt hc1 (a := p2.toInt) (b := p1.toInt) rfl rfl
    refine own_by (fun t k => XS.icmpNo X0.here hx rfl (hb hby d4_2) rfl (flt hc1).2.2.1 k) ?_
    show ORun p e below s _ _ _ s₁ (mkF m 5 #[.val (.int p1), .val (.int p2)] [])
    refine own_by (fun t k => XS.iloadN X0.here hx rfl (hb hby d4_5) rfl k) ?_
    show ORun p e below s _ _ _ s₁ (mkF m 6 #[.val (.int p1), .val (.int p2)] [(.int p1)])
    refine own_by (fun t k => XS.goto X0.here hx rfl (pc0 := 6) (pc' := 10) rfl (hb hby d4_6) (by decide) (by decide) k) ?_
    show ORun p e below s _ _ _ s₁ (mkF m 10 #[.val (.int p1), .val (.int p2)] [(.int p1)])
    refine own_retI X0 hx hret hlk (hb hby d4_10) (by decide) (by decide) ?_
    exact ⟨p1, rfl, by omega, N0, e0⟩
theorem d3_0 : decode jdk_65_method_123_code 0 = .ok (.iload_n 1, 1) := by decide +kernel
theorem d3_1 : decode jdk_65_method_123_code 1 = .ok (.aload_n 0, 1) := by decide +kernel
theorem d3_2 : decode jdk_65_method_123_code 2 = .ok (.arraylength, 1) := by decide +kernel
theorem d3_3 : decode jdk_65_method_123_code 3 = .ok (.if_icmp .ne 11, 3) := by decide +kernel
theorem d3_14 : decode jdk_65_method_123_code 14 = .ok (.iload_n 1, 1) := by decide +kernel
theorem d3_15 : decode jdk_65_method_123_code 15 = .ok (.newarray .int, 2) := by decide +kernel
theorem d3_17 : decode jdk_65_method_123_code 17 = .ok (.astore_n 2, 1) := by decide +kernel
theorem d3_18 : decode jdk_65_method_123_code 18 = .ok (.aload_n 0, 1) := by decide +kernel
theorem d3_19 : decode jdk_65_method_123_code 19 = .ok (.iconst 0, 1) := by decide +kernel
theorem d3_20 : decode jdk_65_method_123_code 20 = .ok (.aload_n 2, 1) := by decide +kernel
theorem d3_21 : decode jdk_65_method_123_code 21 = .ok (.iconst 0, 1) := by decide +kernel
theorem d3_22 : decode jdk_65_method_123_code 22 = .ok (.aload_n 0, 1) := by decide +kernel
theorem d3_23 : decode jdk_65_method_123_code 23 = .ok (.arraylength, 1) := by decide +kernel
theorem d3_24 : decode jdk_65_method_123_code 24 = .ok (.iload_n 1, 1) := by decide +kernel
theorem d3_25 : decode jdk_65_method_123_code 25 = .ok (.invokestatic 304, 3) := by decide +kernel
theorem d3_28 : decode jdk_65_method_123_code 28 = .ok (.invokestatic 150, 3) := by decide +kernel
theorem d3_31 : decode jdk_65_method_123_code 31 = .ok (.aload_n 2, 1) := by decide +kernel
theorem d3_32 : decode jdk_65_method_123_code 32 = .ok (.areturn, 1) := by decide +kernel
theorem pn_rm3 : plainName "java/util/Arrays" = true := by first | (simp [plainName, overriddenIn]; done) | decide +kernel
theorem ef_rm3 (m : MethodId) (x0 : Addr) (x1 : Int32) : entryFrame m #[(.ref x0), (.int x1)] 3 = mkF m 0 #[.val (.ref x0), .val (.int x1), .unset] [] := by first | (simp [entryFrame, mkF, argsToLocals, Value.category]; done) | rfl
set_option maxRecDepth 65536 in
set_option maxHeartbeats 40000000 in
theorem rm3 (l : Launch) (Z : State) (a0 : Array Value) (hw : ∀ d ∈ tables_1, d.before a0 Z = true) (ws : List Jvm.Cond) (h0 : Heap) (n0 : Nat) (Z0 : n0 ≤ h0.size) (a1 : Addr) (p2 : Int32) (L : List Int32) (N M : Nat) (V1 : OVec Z h0 a1 .int L) (hlen : L.length = N) (hM : p2.toInt = (M : Int)) (hMN : M < N ∧ N ≤ 5) :
    OMet l (⟨"java/util/Arrays", "copyOf", "([II)[I"⟩ : MethodName) jdk_65_method_123_code 3 (some (.array .int)) ws ({ frames := 1, cells := 1, slots := 4, locals := 60 } : Room) #[(.ref a1), (.int p2)] Z h0 (fun v h L' => ∃ b : Addr, v = some (.ref b) ∧ Fr n0 L' ∧ Keep h0 h [] ∧ h0.size ≤ b ∧ OVec Z h b .int (L.take M)) := by
  refine own_met (plainFor_of_name pn_rm3) ?_
  intro p e s m below meth c s₁ X0 hx hby hml hown hnm hret hlk hZ e0
  rw [ef_rm3]
  have N0 := Fr.nil n0
  have rg_p2 := rng32 p2
  show ORun p e below s _ _ _ s₁ (mkF m 0 #[.val (.ref a1), .val (.int p2), .unset] [])
  refine own_by (fun t k => XS.iloadN X0.here hx rfl (hb hby d3_0) rfl k) ?_
  show ORun p e below s _ _ _ s₁ (mkF m 1 #[.val (.ref a1), .val (.int p2), .unset] [(.int p2)])
  refine own_by (fun t k => XS.aloadN X0.here hx rfl (hb hby d3_1) rfl rfl k) ?_
  show ORun p e below s _ _ _ s₁ (mkF m 2 #[.val (.ref a1), .val (.int p2), .unset] [(.ref a1), (.int p2)])
  refine own_lenv X0 hx hZ e0 V1 (n := N) hlen (by omega) (hb hby d3_2) ?_
  intro v1 hv1
  show ORun p e below s _ _ _ s₁ (mkF m 3 #[.val (.ref a1), .val (.int p2), .unset] [(.int v1), (.int p2)])
  refine own_by (fun t k => XS.icmpYes X0.here hx rfl (pc0 := 3) (pc' := 14) rfl (hb hby d3_3) rfl (feq (fun q => absurd (congrArg Int32.toInt q) (by omega))).2 (by decide) (by decide) k) ?_
  show ORun p e below s _ _ _ s₁ (mkF m 14 #[.val (.ref a1), .val (.int p2), .unset] [])
  refine own_by (fun t k => XS.iloadN X0.here hx rfl (hb hby d3_14) rfl k) ?_
  show ORun p e below s _ _ _ s₁ (mkF m 15 #[.val (.ref a1), .val (.int p2), .unset] [(.int p2)])
  refine own_newarray X0 hx hZ (aty := .int) (hw _ (List.mem_of_getElem? (i := 1) rfl)) e0 rfl (N := M) (cap := 4) hM (by omega) (by decide) (by decide) (by decide) (ad := "[I") (by decide) (hb hby d3_15) ?_
  intro T2 h2 b2 L2 g2 X2 e2 E2 hL2 V2 Ex2
  have len2 : L2.length = M := by rw [hL2]; exact List.length_replicate
  have old_b2 : n0 ≤ b2 := Nat.le_trans Z0 (Nat.le_of_eq g2.symm)
  have sz_b2 : h0.size ≤ b2 := Nat.le_trans (Nat.le_refl h0.size) (Nat.le_of_eq g2.symm)
  have ne_a1_b2 : a1 ≠ b2 := Nat.ne_of_lt (Nat.lt_of_lt_of_le V1.lt (Nat.le_of_eq g2.symm))
  show ORun p e below s _ _ _ T2 (mkF m 17 #[.val (.ref a1), .val (.int p2), .unset] [(.ref b2)])
  refine own_by (fun t k => XS.astoreN X2.here hx rfl (hb hby d3_17) rfl rfl (l' := #[.val (.ref a1), .val (.int p2), .val (.ref b2)]) rfl k) ?_
  show ORun p e below s _ _ _ T2 (mkF m 18 #[.val (.ref a1), .val (.int p2), .val (.ref b2)] [])
  refine own_by (fun t k => XS.aloadN X2.here hx rfl (hb hby d3_18) rfl rfl k) ?_
  show ORun p e below s _ _ _ T2 (mkF m 19 #[.val (.ref a1), .val (.int p2), .val (.ref b2)] [(.ref a1)])
  refine own_by (fun t k => XS.iconst X2.here hx rfl (hb hby d3_19) k) ?_
  show ORun p e below s _ _ _ T2 (mkF m 20 #[.val (.ref a1), .val (.int p2), .val (.ref b2)] [(.int (0 : Int32)), (.ref a1)])
  refine own_by (fun t k => XS.aloadN X2.here hx rfl (hb hby d3_20) rfl rfl k) ?_
  show ORun p e below s _ _ _ T2 (mkF m 21 #[.val (.ref a1), .val (.int p2), .val (.ref b2)] [(.ref b2), (.int (0 : Int32)), (.ref a1)])
  refine own_by (fun t k => XS.iconst X2.here hx rfl (hb hby d3_21) k) ?_
  show ORun p e below s _ _ _ T2 (mkF m 22 #[.val (.ref a1), .val (.int p2), .val (.ref b2)] [(.int (0 : Int32)), (.ref b2), (.int (0 : Int32)), (.ref a1)])
  refine own_by (fun t k => XS.aloadN X2.here hx rfl (hb hby d3_22) rfl rfl k) ?_
  show ORun p e below s _ _ _ T2 (mkF m 23 #[.val (.ref a1), .val (.int p2), .val (.ref b2)] [(.ref a1), (.int (0 : Int32)), (.ref b2), (.int (0 : Int32)), (.ref a1)])
  refine own_lenv X2 hx hZ e2 (V1.ext E2) (n := N) hlen (by omega) (hb hby d3_23) ?_
  intro v3 hv3
  show ORun p e below s _ _ _ T2 (mkF m 24 #[.val (.ref a1), .val (.int p2), .val (.ref b2)] [(.int v3), (.int (0 : Int32)), (.ref b2), (.int (0 : Int32)), (.ref a1)])
  refine own_by (fun t k => XS.iloadN X2.here hx rfl (hb hby d3_24) rfl k) ?_
  show ORun p e below s _ _ _ T2 (mkF m 25 #[.val (.ref a1), .val (.int p2), .val (.ref b2)] [(.int p2), (.int v3), (.int (0 : Int32)), (.ref b2), (.int (0 : Int32)), (.ref a1)])
  refine own_callS X2 hx hZ hown (hw _ (List.mem_of_getElem? (i := 20) rfl)) (hw _ (List.mem_of_getElem? (i := 21) rfl)) (hw _ (List.mem_of_getElem? (i := 22) rfl)) (hw _ (List.mem_of_getElem? (i := 23) rfl)) (by decide) (rm4 l Z a0 hw [] h2 n0 (Nat.le_trans Z0 E2.1) v3 p2) e2 (by decide) (W := 4) (by decide) (by decide) (by decide) (argsL := [(.int v3), (.int p2)]) (rest := [(.int (0 : Int32)), (.ref b2), (.int (0 : Int32)), (.ref a1)]) (by rw [hml]; rfl) (lenOf pd_0 rfl) rfl rfl (Nat.le_of_eq rfl) (hb hby d3_25) ?_
  intro T4 L4 u4 X4 hQ4
  obtain ⟨y4, rfl, hy4, Nq4, e4⟩ := hQ4
  have N4 := Fr.app N0 Nq4
  show ORun p e below s _ _ _ T4 (mkF m 28 #[.val (.ref a1), .val (.int p2), .val (.ref b2)] [(.int y4), (.int (0 : Int32)), (.ref b2), (.int (0 : Int32)), (.ref a1)])
  refine own_acopy X4 hx hZ hown (hw _ (List.mem_of_getElem? (i := 24) rfl)) (hw _ (List.mem_of_getElem? (i := 27) rfl)) (hw _ (List.mem_of_getElem? (i := 25) rfl)) (hw _ (List.mem_of_getElem? (i := 26) rfl)) e4 (V1.ext E2) V2 (by omega) (by omega) (i := 0) (j := 0) (k := y4.toInt.toNat) (by decide) (by decide) (by omega) (by omega) (by omega) N4 old_b2 (by rw [hml]; rfl) (hb hby d3_28) (by decide) (W := 0) (Nat.le_of_eq rfl) (by decide) ?_
  intro T5 h5 lo5 X5 e5 N5 K5 V5
  show ORun p e below s _ _ _ T5 (mkF m 31 #[.val (.ref a1), .val (.int p2), .val (.ref b2)] [])
  refine own_by (fun t k => XS.aloadN X5.here hx rfl (hb hby d3_31) rfl rfl k) ?_
  show ORun p e below s _ _ _ T5 (mkF m 32 #[.val (.ref a1), .val (.int p2), .val (.ref b2)] [(.ref b2)])
  refine own_retA X5 hx hret rfl rfl rfl hlk (hb hby d3_32) (by decide) (by decide) ?_
  rw [e5]
  refine ⟨b2, rfl, N5, (((Keep.refl h0 []).ext E2).trans K5 (allS (Or.inr sz_b2) all0)), sz_b2, ?_⟩
  have q := V5
  have e1 : y4.toInt.toNat = M := by omega
  rw [e1, hL2] at q
  simpa using q
theorem d8_0 : decode jdk_65_method_131_code 0 = .ok (.iload_n 1, 1) := by decide +kernel
theorem d8_1 : decode jdk_65_method_131_code 1 = .ok (.iload_n 0, 1) := by decide +kernel
theorem d8_2 : decode jdk_65_method_131_code 2 = .ok (.if_icmp .ge 35, 3) := by decide +kernel
theorem d8_37 : decode jdk_65_method_131_code 37 = .ok (.return_, 1) := by decide +kernel
theorem pn_rm8 : plainName "java/util/Arrays" = true := by first | (simp [plainName, overriddenIn]; done) | decide +kernel
theorem ef_rm8 (m : MethodId) (x0 : Int32) (x1 : Int32) : entryFrame m #[(.int x0), (.int x1)] 2 = mkF m 0 #[.val (.int x0), .val (.int x1)] [] := by first | (simp [entryFrame, mkF, argsToLocals, Value.category]; done) | rfl
set_option maxRecDepth 65536 in
set_option maxHeartbeats 40000000 in
theorem rm8 (l : Launch) (Z : State) (a0 : Array Value) (hw : ∀ d ∈ tables_1, d.before a0 Z = true) (ws : List Jvm.Cond) (h0 : Heap) (n0 : Nat) (Z0 : n0 ≤ h0.size) (p1 p2 : Int32) (hbd : p1.toInt ≤ p2.toInt) :
    OMet l (⟨"java/util/Arrays", "checkLength", "(II)V"⟩ : MethodName) jdk_65_method_131_code 2 none ws ({ frames := 0, cells := 0, slots := 0, locals := 0 } : Room) #[(.int p1), (.int p2)] Z h0 (fun v h L => v = none ∧ Fr n0 L ∧ h = h0) := by
  refine own_met (plainFor_of_name pn_rm8) ?_
  intro p e s m below meth c s₁ X0 hx hby hml hown hnm hret hlk hZ e0
  rw [ef_rm8]
  have N0 := Fr.nil n0
  have rg_p1 := rng32 p1
  have rg_p2 := rng32 p2
  show ORun p e below s _ _ _ s₁ (mkF m 0 #[.val (.int p1), .val (.int p2)] [])
  refine own_by (fun t k => XS.iloadN X0.here hx rfl (hb hby d8_0) rfl k) ?_
  show ORun p e below s _ _ _ s₁ (mkF m 1 #[.val (.int p1), .val (.int p2)] [(.int p2)])
  refine own_by (fun t k => XS.iloadN X0.here hx rfl (hb hby d8_1) rfl k) ?_
  show ORun p e below s _ _ _ s₁ (mkF m 2 #[.val (.int p1), .val (.int p2)] [(.int p1), (.int p2)])
  refine own_by (fun t k => XS.icmpYes X0.here hx rfl (pc0 := 2) (pc' := 37) rfl (hb hby d8_2) rfl (flt (fun q => absurd (Int32.lt_iff_toInt_lt.mp q) (by omega))).2.1 (by decide) (by decide) k) ?_
  show ORun p e below s _ _ _ s₁ (mkF m 37 #[.val (.int p1), .val (.int p2)] [])
  refine own_retV X0 hx hret hlk (hb hby d8_37) (by decide) (by decide) ?_
  exact ⟨rfl, N0, e0⟩
theorem d7_0 : decode jdk_65_method_137_code 0 = .ok (.iload_n 1, 1) := by decide +kernel
theorem d7_1 : decode jdk_65_method_137_code 1 = .ok (.iload_n 2, 1) := by decide +kernel
theorem d7_2 : decode jdk_65_method_137_code 2 = .ok (.invokestatic 343, 3) := by decide +kernel
theorem d7_5 : decode jdk_65_method_137_code 5 = .ok (.iload_n 2, 1) := by decide +kernel
theorem d7_6 : decode jdk_65_method_137_code 6 = .ok (.iload_n 1, 1) := by decide +kernel
theorem d7_7 : decode jdk_65_method_137_code 7 = .ok (.isub, 1) := by decide +kernel
theorem d7_8 : decode jdk_65_method_137_code 8 = .ok (.istore_n 3, 1) := by decide +kernel
theorem d7_9 : decode jdk_65_method_137_code 9 = .ok (.iload_n 3, 1) := by decide +kernel
theorem d7_10 : decode jdk_65_method_137_code 10 = .ok (.newarray .int, 2) := by decide +kernel
theorem d7_12 : decode jdk_65_method_137_code 12 = .ok (.astore 4, 2) := by decide +kernel
theorem d7_14 : decode jdk_65_method_137_code 14 = .ok (.aload_n 0, 1) := by decide +kernel
theorem d7_15 : decode jdk_65_method_137_code 15 = .ok (.iload_n 1, 1) := by decide +kernel
theorem d7_16 : decode jdk_65_method_137_code 16 = .ok (.aload 4, 2) := by decide +kernel
theorem d7_18 : decode jdk_65_method_137_code 18 = .ok (.iconst 0, 1) := by decide +kernel
theorem d7_19 : decode jdk_65_method_137_code 19 = .ok (.aload_n 0, 1) := by decide +kernel
theorem d7_20 : decode jdk_65_method_137_code 20 = .ok (.arraylength, 1) := by decide +kernel
theorem d7_21 : decode jdk_65_method_137_code 21 = .ok (.iload_n 1, 1) := by decide +kernel
theorem d7_22 : decode jdk_65_method_137_code 22 = .ok (.isub, 1) := by decide +kernel
theorem d7_23 : decode jdk_65_method_137_code 23 = .ok (.iload_n 3, 1) := by decide +kernel
theorem d7_24 : decode jdk_65_method_137_code 24 = .ok (.invokestatic 304, 3) := by decide +kernel
theorem d7_27 : decode jdk_65_method_137_code 27 = .ok (.invokestatic 150, 3) := by decide +kernel
theorem d7_30 : decode jdk_65_method_137_code 30 = .ok (.aload 4, 2) := by decide +kernel
theorem d7_32 : decode jdk_65_method_137_code 32 = .ok (.areturn, 1) := by decide +kernel
theorem pn_rm7 : plainName "java/util/Arrays" = true := by first | (simp [plainName, overriddenIn]; done) | decide +kernel
theorem ef_rm7 (m : MethodId) (x0 : Addr) (x1 : Int32) (x2 : Int32) : entryFrame m #[(.ref x0), (.int x1), (.int x2)] 5 = mkF m 0 #[.val (.ref x0), .val (.int x1), .val (.int x2), .unset, .unset] [] := by first | (simp [entryFrame, mkF, argsToLocals, Value.category]; done) | rfl
set_option maxRecDepth 65536 in
set_option maxHeartbeats 40000000 in
theorem rm7 (l : Launch) (Z : State) (a0 : Array Value) (hw : ∀ d ∈ tables_1, d.before a0 Z = true) (ws : List Jvm.Cond) (h0 : Heap) (n0 : Nat) (Z0 : n0 ≤ h0.size) (a1 : Addr) (p2 p3 : Int32) (L : List Int32) (V1 : OVec Z h0 a1 .int L) (hlen : L.length = 5) (hbd : 0 ≤ p2.toInt ∧ p2.toInt ≤ p3.toInt ∧ p3.toInt ≤ 5) :
    OMet l (⟨"java/util/Arrays", "copyOfRangeInt", "([III)[I"⟩ : MethodName) jdk_65_method_137_code 5 (some (.array .int)) ws ({ frames := 1, cells := 1, slots := 5, locals := 60 } : Room) #[(.ref a1), (.int p2), (.int p3)] Z h0 (fun v h L' => ∃ b : Addr, v = some (.ref b) ∧ Fr n0 L' ∧ Keep h0 h [] ∧ h0.size ≤ b ∧ OVec Z h b .int ((L.drop p2.toInt.toNat).take (p3.toInt - p2.toInt).toNat)) := by
  refine own_met (plainFor_of_name pn_rm7) ?_
  intro p e s m below meth c s₁ X0 hx hby hml hown hnm hret hlk hZ e0
  rw [ef_rm7]
  have N0 := Fr.nil n0
  have rg_p2 := rng32 p2
  have rg_p3 := rng32 p3
  show ORun p e below s _ _ _ s₁ (mkF m 0 #[.val (.ref a1), .val (.int p2), .val (.int p3), .unset, .unset] [])
  refine own_by (fun t k => XS.iloadN X0.here hx rfl (hb hby d7_0) rfl k) ?_
  show ORun p e below s _ _ _ s₁ (mkF m 1 #[.val (.ref a1), .val (.int p2), .val (.int p3), .unset, .unset] [(.int p2)])
  refine own_by (fun t k => XS.iloadN X0.here hx rfl (hb hby d7_1) rfl k) ?_
  show ORun p e below s _ _ _ s₁ (mkF m 2 #[.val (.ref a1), .val (.int p2), .val (.int p3), .unset, .unset] [(.int p3), (.int p2)])
  refine own_callS X0 hx hZ hown (hw _ (List.mem_of_getElem? (i := 48) rfl)) (hw _ (List.mem_of_getElem? (i := 49) rfl)) (hw _ (List.mem_of_getElem? (i := 18) rfl)) (hw _ (List.mem_of_getElem? (i := 50) rfl)) (by decide) (rm8 l Z a0 hw [] h0 n0 Z0 p2 p3 (by omega)) e0 (by decide) (W := 0) (by decide) (by decide) (by decide) (argsL := [(.int p2), (.int p3)]) (rest := []) (by rw [hml]; rfl) (lenOf pd_1 rfl) rfl rfl (Nat.le_of_eq rfl) (hb hby d7_2) ?_
  intro T1 L1 u1 X1 hQ1
  obtain ⟨rfl, Nq1, e1⟩ := hQ1
  have N1 := Fr.app N0 Nq1
  show ORun p e below s _ _ _ T1 (mkF m 5 #[.val (.ref a1), .val (.int p2), .val (.int p3), .unset, .unset] [])
  refine own_by (fun t k => XS.iloadN X1.here hx rfl (hb hby d7_5) rfl k) ?_
  show ORun p e below s _ _ _ T1 (mkF m 6 #[.val (.ref a1), .val (.int p2), .val (.int p3), .unset, .unset] [(.int p3)])
  refine own_by (fun t k => XS.iloadN X1.here hx rfl (hb hby d7_6) rfl k) ?_
  show ORun p e below s _ _ _ T1 (mkF m 7 #[.val (.ref a1), .val (.int p2), .val (.int p3), .unset, .unset] [(.int p2), (.int p3)])
  refine own_by (fun t k => XS.isub X1.here hx rfl (hb hby d7_7) rfl k) (own_letI (f := (fun z => (mkF m 8 #[.val (.ref a1), .val (.int p2), .val (.int p3), .unset, .unset] [(.int z)]))) (p3 - p2) fun v2 hv2 => ?_)
  show ORun p e below s _ _ _ T1 (mkF m 8 #[.val (.ref a1), .val (.int p2), .val (.int p3), .unset, .unset] [(.int v2)])
  have r2 := rng32 v2
  have a2 : v2.toInt = p3.toInt - p2.toInt := by
    have q : (v2.toInt - (p3.toInt - p2.toInt)) % 4294967296 = 0 := by rw [hv2]; exact c_isub p3 p2
    omega
  refine own_by (fun t k => XS.istoreN X1.here hx rfl (hb hby d7_8) rfl (l' := #[.val (.ref a1), .val (.int p2), .val (.int p3), .val (.int v2), .unset]) rfl k) ?_
  show ORun p e below s _ _ _ T1 (mkF m 9 #[.val (.ref a1), .val (.int p2), .val (.int p3), .val (.int v2), .unset] [])
  refine own_by (fun t k => XS.iloadN X1.here hx rfl (hb hby d7_9) rfl k) ?_
  show ORun p e below s _ _ _ T1 (mkF m 10 #[.val (.ref a1), .val (.int p2), .val (.int p3), .val (.int v2), .unset] [(.int v2)])
  refine own_newarray X1 hx hZ (aty := .int) (hw _ (List.mem_of_getElem? (i := 1) rfl)) e1 rfl (N := v2.toInt.toNat) (cap := 5) (by omega) (by omega) (by decide) (by decide) (by decide) (ad := "[I") (by decide) (hb hby d7_10) ?_
  intro T3 h3 b3 L3 g3 X3 e3 E3 hL3 V3 Ex3
  have len3 : L3.length = v2.toInt.toNat := by rw [hL3]; exact List.length_replicate
  have old_b3 : n0 ≤ b3 := Nat.le_trans Z0 (Nat.le_of_eq g3.symm)
  have sz_b3 : h0.size ≤ b3 := Nat.le_trans (Nat.le_refl h0.size) (Nat.le_of_eq g3.symm)
  have ne_a1_b3 : a1 ≠ b3 := Nat.ne_of_lt (Nat.lt_of_lt_of_le V1.lt (Nat.le_of_eq g3.symm))
  show ORun p e below s _ _ _ T3 (mkF m 12 #[.val (.ref a1), .val (.int p2), .val (.int p3), .val (.int v2), .unset] [(.ref b3)])
  refine own_by (fun t k => XS.astore X3.here hx rfl (hb hby d7_12) rfl rfl (l' := #[.val (.ref a1), .val (.int p2), .val (.int p3), .val (.int v2), .val (.ref b3)]) rfl k) ?_
  show ORun p e below s _ _ _ T3 (mkF m 14 #[.val (.ref a1), .val (.int p2), .val (.int p3), .val (.int v2), .val (.ref b3)] [])
  refine own_by (fun t k => XS.aloadN X3.here hx rfl (hb hby d7_14) rfl rfl k) ?_
  show ORun p e below s _ _ _ T3 (mkF m 15 #[.val (.ref a1), .val (.int p2), .val (.int p3), .val (.int v2), .val (.ref b3)] [(.ref a1)])
  refine own_by (fun t k => XS.iloadN X3.here hx rfl (hb hby d7_15) rfl k) ?_
  show ORun p e below s _ _ _ T3 (mkF m 16 #[.val (.ref a1), .val (.int p2), .val (.int p3), .val (.int v2), .val (.ref b3)] [(.int p2), (.ref a1)])
  refine own_by (fun t k => XS.aload X3.here hx rfl (hb hby d7_16) rfl rfl k) ?_
  show ORun p e below s _ _ _ T3 (mkF m 18 #[.val (.ref a1), .val (.int p2), .val (.int p3), .val (.int v2), .val (.ref b3)] [(.ref b3), (.int p2), (.ref a1)])
  refine own_by (fun t k => XS.iconst X3.here hx rfl (hb hby d7_18) k) ?_
  show ORun p e below s _ _ _ T3 (mkF m 19 #[.val (.ref a1), .val (.int p2), .val (.int p3), .val (.int v2), .val (.ref b3)] [(.int (0 : Int32)), (.ref b3), (.int p2), (.ref a1)])
  refine own_by (fun t k => XS.aloadN X3.here hx rfl (hb hby d7_19) rfl rfl k) ?_
  show ORun p e below s _ _ _ T3 (mkF m 20 #[.val (.ref a1), .val (.int p2), .val (.int p3), .val (.int v2), .val (.ref b3)] [(.ref a1), (.int (0 : Int32)), (.ref b3), (.int p2), (.ref a1)])
  refine own_len X3 hx hZ e3 (V1.ext E3) (n := 5) hlen (hb hby d7_20) ?_
  show ORun p e below s _ _ _ T3 (mkF m 21 #[.val (.ref a1), .val (.int p2), .val (.int p3), .val (.int v2), .val (.ref b3)] [(.int (5 : Int32)), (.int (0 : Int32)), (.ref b3), (.int p2), (.ref a1)])
  refine own_by (fun t k => XS.iloadN X3.here hx rfl (hb hby d7_21) rfl k) ?_
  show ORun p e below s _ _ _ T3 (mkF m 22 #[.val (.ref a1), .val (.int p2), .val (.int p3), .val (.int v2), .val (.ref b3)] [(.int p2), (.int (5 : Int32)), (.int (0 : Int32)), (.ref b3), (.int p2), (.ref a1)])
  refine own_by (fun t k => XS.isub X3.here hx rfl (hb hby d7_22) rfl k) (own_letI (f := (fun z => (mkF m 23 #[.val (.ref a1), .val (.int p2), .val (.int p3), .val (.int v2), .val (.ref b3)] [(.int z), (.int (0 : Int32)), (.ref b3), (.int p2), (.ref a1)]))) ((5 : Int32) - p2) fun v4 hv4 => ?_)
  show ORun p e below s _ _ _ T3 (mkF m 23 #[.val (.ref a1), .val (.int p2), .val (.int p3), .val (.int v2), .val (.ref b3)] [(.int v4), (.int (0 : Int32)), (.ref b3), (.int p2), (.ref a1)])
  have r4 := rng32 v4
  have a4 : v4.toInt = 5 - p2.toInt := by
    have q : (v4.toInt - (5 - p2.toInt)) % 4294967296 = 0 := by rw [hv4]; exact c_isub (5 : Int32) p2
    omega
  refine own_by (fun t k => XS.iloadN X3.here hx rfl (hb hby d7_23) rfl k) ?_
  show ORun p e below s _ _ _ T3 (mkF m 24 #[.val (.ref a1), .val (.int p2), .val (.int p3), .val (.int v2), .val (.ref b3)] [(.int v2), (.int v4), (.int (0 : Int32)), (.ref b3), (.int p2), (.ref a1)])
  refine own_callS X3 hx hZ hown (hw _ (List.mem_of_getElem? (i := 20) rfl)) (hw _ (List.mem_of_getElem? (i := 21) rfl)) (hw _ (List.mem_of_getElem? (i := 22) rfl)) (hw _ (List.mem_of_getElem? (i := 23) rfl)) (by decide) (rm4 l Z a0 hw [] h3 n0 (Nat.le_trans Z0 E3.1) v4 v2) e3 (by decide) (W := 4) (by decide) (by decide) (by decide) (argsL := [(.int v4), (.int v2)]) (rest := [(.int (0 : Int32)), (.ref b3), (.int p2), (.ref a1)]) (by rw [hml]; rfl) (lenOf pd_0 rfl) rfl rfl (Nat.le_of_eq rfl) (hb hby d7_24) ?_
  intro T5 L5 u5 X5 hQ5
  obtain ⟨y5, rfl, hy5, Nq5, e5⟩ := hQ5
  have N5 := Fr.app N1 Nq5
  show ORun p e below s _ _ _ T5 (mkF m 27 #[.val (.ref a1), .val (.int p2), .val (.int p3), .val (.int v2), .val (.ref b3)] [(.int y5), (.int (0 : Int32)), (.ref b3), (.int p2), (.ref a1)])
  refine own_acopy X5 hx hZ hown (hw _ (List.mem_of_getElem? (i := 24) rfl)) (hw _ (List.mem_of_getElem? (i := 27) rfl)) (hw _ (List.mem_of_getElem? (i := 25) rfl)) (hw _ (List.mem_of_getElem? (i := 26) rfl)) e5 (V1.ext E3) V3 (by omega) (by omega) (i := p2.toInt.toNat) (j := 0) (k := y5.toInt.toNat) (by omega) (by decide) (by omega) (by omega) (by omega) N5 old_b3 (by rw [hml]; rfl) (hb hby d7_27) (by decide) (W := 0) (Nat.le_of_eq rfl) (by decide) ?_
  intro T6 h6 lo6 X6 e6 N6 K6 V6
  show ORun p e below s _ _ _ T6 (mkF m 30 #[.val (.ref a1), .val (.int p2), .val (.int p3), .val (.int v2), .val (.ref b3)] [])
  refine own_by (fun t k => XS.aload X6.here hx rfl (hb hby d7_30) rfl rfl k) ?_
  show ORun p e below s _ _ _ T6 (mkF m 32 #[.val (.ref a1), .val (.int p2), .val (.int p3), .val (.int v2), .val (.ref b3)] [(.ref b3)])
  refine own_retA X6 hx hret rfl rfl rfl hlk (hb hby d7_32) (by decide) (by decide) ?_
  rw [e6]
  refine ⟨b3, rfl, N6, (((Keep.refl h0 []).ext E3).trans K6 (allS (Or.inr sz_b3) all0)), sz_b3, ?_⟩
  have q := V6
  have e1 : y5.toInt.toNat = (p3.toInt - p2.toInt).toNat := by omega
  have e2 : v2.toInt.toNat = (p3.toInt - p2.toInt).toNat := by omega
  rw [e1, hL3, e2] at q
  simpa using q
theorem d6_0 : decode jdk_65_method_136_code 0 = .ok (.iload_n 1, 1) := by decide +kernel
theorem d6_1 : decode jdk_65_method_136_code 1 = .ok (.ifCond .ne 9, 3) := by decide +kernel
theorem d6_4 : decode jdk_65_method_136_code 4 = .ok (.iload_n 2, 1) := by decide +kernel
theorem d6_5 : decode jdk_65_method_136_code 5 = .ok (.aload_n 0, 1) := by decide +kernel
theorem d6_6 : decode jdk_65_method_136_code 6 = .ok (.arraylength, 1) := by decide +kernel
theorem d6_7 : decode jdk_65_method_136_code 7 = .ok (.if_icmp .eq 10, 3) := by decide +kernel
theorem d6_10 : decode jdk_65_method_136_code 10 = .ok (.aload_n 0, 1) := by decide +kernel
theorem d6_11 : decode jdk_65_method_136_code 11 = .ok (.iload_n 1, 1) := by decide +kernel
theorem d6_12 : decode jdk_65_method_136_code 12 = .ok (.iload_n 2, 1) := by decide +kernel
theorem d6_13 : decode jdk_65_method_136_code 13 = .ok (.invokestatic 351, 3) := by decide +kernel
theorem d6_16 : decode jdk_65_method_136_code 16 = .ok (.areturn, 1) := by decide +kernel
theorem d6_17 : decode jdk_65_method_136_code 17 = .ok (.aload_n 0, 1) := by decide +kernel
theorem d6_18 : decode jdk_65_method_136_code 18 = .ok (.invokevirtual 316, 3) := by decide +kernel
theorem d6_21 : decode jdk_65_method_136_code 21 = .ok (.checkcast 317, 3) := by decide +kernel
theorem d6_24 : decode jdk_65_method_136_code 24 = .ok (.areturn, 1) := by decide +kernel
theorem pn_rm6 : plainName "java/util/Arrays" = true := by first | (simp [plainName, overriddenIn]; done) | decide +kernel
theorem ef_rm6 (m : MethodId) (x0 : Addr) (x1 : Int32) (x2 : Int32) : entryFrame m #[(.ref x0), (.int x1), (.int x2)] 3 = mkF m 0 #[.val (.ref x0), .val (.int x1), .val (.int x2)] [] := by first | (simp [entryFrame, mkF, argsToLocals, Value.category]; done) | rfl
set_option maxRecDepth 65536 in
set_option maxHeartbeats 40000000 in
theorem rm6 (l : Launch) (Z : State) (a0 : Array Value) (hw : ∀ d ∈ tables_1, d.before a0 Z = true) (ws : List Jvm.Cond) (h0 : Heap) (n0 : Nat) (Z0 : n0 ≤ h0.size) (a1 : Addr) (p2 p3 : Int32) (L : List Int32) (V1 : OVec Z h0 a1 .int L) (hlen : L.length = 5) (hbd : 0 ≤ p2.toInt ∧ p2.toInt ≤ p3.toInt ∧ p3.toInt ≤ 5) (E1 : Exa Z h0 a1 "[I") :
    OMet l (⟨"java/util/Arrays", "copyOfRange", "([III)[I"⟩ : MethodName) jdk_65_method_136_code 3 (some (.array .int)) ws ({ frames := 2, cells := 1, slots := 5, locals := 80 } : Room) #[(.ref a1), (.int p2), (.int p3)] Z h0 (fun v h L' => ∃ b : Addr, v = some (.ref b) ∧ Fr n0 L' ∧ Keep h0 h [] ∧ h0.size ≤ b ∧ OVec Z h b .int ((L.drop p2.toInt.toNat).take (p3.toInt - p2.toInt).toNat)) := by
  refine own_met (plainFor_of_name pn_rm6) ?_
  intro p e s m below meth c s₁ X0 hx hby hml hown hnm hret hlk hZ e0
  rw [ef_rm6]
  have N0 := Fr.nil n0
  have rg_p2 := rng32 p2
  have rg_p3 := rng32 p3
  show ORun p e below s _ _ _ s₁ (mkF m 0 #[.val (.ref a1), .val (.int p2), .val (.int p3)] [])
  refine own_by (fun t k => XS.iloadN X0.here hx rfl (hb hby d6_0) rfl k) ?_
  show ORun p e below s _ _ _ s₁ (mkF m 1 #[.val (.ref a1), .val (.int p2), .val (.int p3)] [(.int p2)])
  by_cases hc1 : p2 = (0 : Int32)
  · have t1 := own_eq hc1 (a := p2.toInt) (b := 0) rfl (by decide)
    refine own_by (fun t k => XS.ifNo X0.here hx rfl (hb hby d6_1) rfl ((if0 _ _).trans (teq hc1).2) k) ?_
    show ORun p e below s _ _ _ s₁ (mkF m 4 #[.val (.ref a1), .val (.int p2), .val (.int p3)] [])
    refine own_by (fun t k => XS.iloadN X0.here hx rfl (hb hby d6_4) rfl k) ?_
    show ORun p e below s _ _ _ s₁ (mkF m 5 #[.val (.ref a1), .val (.int p2), .val (.int p3)] [(.int p3)])
    refine own_by (fun t k => XS.aloadN X0.here hx rfl (hb hby d6_5) rfl rfl k) ?_
    show ORun p e below s _ _ _ s₁ (mkF m 6 #[.val (.ref a1), .val (.int p2), .val (.int p3)] [(.ref a1), (.int p3)])
    refine own_len X0 hx hZ e0 V1 (n := 5) hlen (hb hby d6_6) ?_
    show ORun p e below s _ _ _ s₁ (mkF m 7 #[.val (.ref a1), .val (.int p2), .val (.int p3)] [(.int (5 : Int32)), (.int p3)])
    by_cases hc2 : p3 = (5 : Int32)
    · have t2 := own_eq hc2 (a := p3.toInt) (b := 5) rfl (by decide)
      refine own_by (fun t k => XS.icmpYes X0.here hx rfl (pc0 := 7) (pc' := 17) rfl (hb hby d6_7) rfl (teq hc2).1 (by decide) (by decide) k) ?_
      show ORun p e below s _ _ _ s₁ (mkF m 17 #[.val (.ref a1), .val (.int p2), .val (.int p3)] [])
      refine own_by (fun t k => XS.aloadN X0.here hx rfl (hb hby d6_17) rfl rfl k) ?_
      show ORun p e below s _ _ _ s₁ (mkF m 18 #[.val (.ref a1), .val (.int p2), .val (.int p3)] [(.ref a1)])
      refine own_clone X0 hx hZ hown (hw _ (List.mem_of_getElem? (i := 36) rfl)) (hw _ (List.mem_of_getElem? (i := 37) rfl)) (hw _ (List.mem_of_getElem? (i := 41) rfl)) (hw _ (List.mem_of_getElem? (i := 39) rfl)) (hw _ (List.mem_of_getElem? (i := 40) rfl)) (hw _ (List.mem_of_getElem? (i := 42) rfl)) e0 V1 E1 (by rw [hml]; rfl) (hb hby d6_18) (by decide) (W := 0) (cap := 5) (Nat.le_of_eq rfl) (by decide) (by omega) (by decide) (by decide) ?_
      intro T3 h3 b3 g3 X3 e3 E3 V3 Ex3
      have sz_b3 : h0.size ≤ b3 := Nat.le_of_eq g3.symm
      show ORun p e below s _ _ _ T3 (mkF m 21 #[.val (.ref a1), .val (.int p2), .val (.int p3)] [(.ref b3)])
      obtain ⟨T4, X4, e4, st4⟩ := castY X3 hx hZ hown (hw _ (List.mem_of_getElem? (i := 43) rfl)) e3 (Ins.self Ex3) (g := (mkF m 21 #[.val (.ref a1), .val (.int p2), .val (.int p3)] [(.ref b3)])) rfl rfl (hb hby d6_21)
      refine own_by st4 ?_
      show ORun p e below s _ _ _ T4 (mkF m 24 #[.val (.ref a1), .val (.int p2), .val (.int p3)] [(.ref b3)])
      refine own_retA X4 hx hret rfl rfl rfl hlk (hb hby d6_24) (by decide) (by decide) ?_
      rw [e4]
      refine ⟨b3, rfl, N0, ((Keep.refl h0 []).ext E3), sz_b3, ?_⟩
      have e1 : p2.toInt.toNat = 0 := by omega
      have e2 : (p3.toInt - p2.toInt).toNat = 5 := by omega
      have e3 : L.take 5 = L := List.take_of_length_le (by omega)
      rw [e1, e2, List.drop_zero, e3]
      exact V3
    · have t2 := own_ne hc2 (a := p3.toInt) (b := 5) rfl (by decide)
      refine own_by (fun t k => XS.icmpNo X0.here hx rfl (hb hby d6_7) rfl (feq hc2).1 k) ?_
      show ORun p e below s _ _ _ s₁ (mkF m 10 #[.val (.ref a1), .val (.int p2), .val (.int p3)] [])
      refine own_by (fun t k => XS.aloadN X0.here hx rfl (hb hby d6_10) rfl rfl k) ?_
      show ORun p e below s _ _ _ s₁ (mkF m 11 #[.val (.ref a1), .val (.int p2), .val (.int p3)] [(.ref a1)])
      refine own_by (fun t k => XS.iloadN X0.here hx rfl (hb hby d6_11) rfl k) ?_
      show ORun p e below s _ _ _ s₁ (mkF m 12 #[.val (.ref a1), .val (.int p2), .val (.int p3)] [(.int p2), (.ref a1)])
      refine own_by (fun t k => XS.iloadN X0.here hx rfl (hb hby d6_12) rfl k) ?_
      show ORun p e below s _ _ _ s₁ (mkF m 13 #[.val (.ref a1), .val (.int p2), .val (.int p3)] [(.int p3), (.int p2), (.ref a1)])
      refine own_callS X0 hx hZ hown (hw _ (List.mem_of_getElem? (i := 45) rfl)) (hw _ (List.mem_of_getElem? (i := 46) rfl)) (hw _ (List.mem_of_getElem? (i := 18) rfl)) (hw _ (List.mem_of_getElem? (i := 47) rfl)) (by decide) (rm7 l Z a0 hw [] h0 n0 Z0 a1 p2 p3 L V1 hlen hbd) e0 (by decide) (W := 0) (by decide) (by decide) (by decide) (argsL := [(.ref a1), (.int p2), (.int p3)]) (rest := []) (by rw [hml]; rfl) (lenOf pd_2 rfl) rfl rfl (Nat.le_of_eq rfl) (hb hby d6_13) ?_
      intro T5 L5 u5 X5 hQ5
      obtain ⟨o5, rfl, Nq5, K5, sz_o5, Vq5⟩ := hQ5
      have N5 := Fr.app N0 Nq5
      show ORun p e below s _ _ _ T5 (mkF m 16 #[.val (.ref a1), .val (.int p2), .val (.int p3)] [(.ref o5)])
      refine own_retA X5 hx hret rfl rfl rfl hlk (hb hby d6_16) (by decide) (by decide) ?_
      refine ⟨o5, rfl, N5, ((Keep.refl h0 []).trans K5 all0), sz_o5, ?_⟩
      exact Vq5
  · have t1 := own_ne hc1 (a := p2.toInt) (b := 0) rfl (by decide)
    refine own_by (fun t k => XS.ifYes X0.here hx rfl (pc0 := 1) (pc' := 10) rfl (hb hby d6_1) rfl ((if0 _ _).trans (feq hc1).2) (by decide) (by decide) k) ?_
    show ORun p e below s _ _ _ s₁ (mkF m 10 #[.val (.ref a1), .val (.int p2), .val (.int p3)] [])
    refine own_by (fun t k => XS.aloadN X0.here hx rfl (hb hby d6_10) rfl rfl k) ?_
    show ORun p e below s _ _ _ s₁ (mkF m 11 #[.val (.ref a1), .val (.int p2), .val (.int p3)] [(.ref a1)])
    refine own_by (fun t k => XS.iloadN X0.here hx rfl (hb hby d6_11) rfl k) ?_
    show ORun p e below s _ _ _ s₁ (mkF m 12 #[.val (.ref a1), .val (.int p2), .val (.int p3)] [(.int p2), (.ref a1)])
    refine own_by (fun t k => XS.iloadN X0.here hx rfl (hb hby d6_12) rfl k) ?_
    show ORun p e below s _ _ _ s₁ (mkF m 13 #[.val (.ref a1), .val (.int p2), .val (.int p3)] [(.int p3), (.int p2), (.ref a1)])
    refine own_callS X0 hx hZ hown (hw _ (List.mem_of_getElem? (i := 45) rfl)) (hw _ (List.mem_of_getElem? (i := 46) rfl)) (hw _ (List.mem_of_getElem? (i := 18) rfl)) (hw _ (List.mem_of_getElem? (i := 47) rfl)) (by decide) (rm7 l Z a0 hw [] h0 n0 Z0 a1 p2 p3 L V1 hlen hbd) e0 (by decide) (W := 0) (by decide) (by decide) (by decide) (argsL := [(.ref a1), (.int p2), (.int p3)]) (rest := []) (by rw [hml]; rfl) (lenOf pd_2 rfl) rfl rfl (Nat.le_of_eq rfl) (hb hby d6_13) ?_
    intro T6 L6 u6 X6 hQ6
    obtain ⟨o6, rfl, Nq6, K6, sz_o6, Vq6⟩ := hQ6
    have N6 := Fr.app N0 Nq6
    show ORun p e below s _ _ _ T6 (mkF m 16 #[.val (.ref a1), .val (.int p2), .val (.int p3)] [(.ref o6)])
    refine own_retA X6 hx hret rfl rfl rfl hlk (hb hby d6_16) (by decide) (by decide) ?_
    refine ⟨o6, rfl, N6, ((Keep.refl h0 []).trans K6 all0), sz_o6, ?_⟩
    exact Vq6
theorem d5_0 : decode prog_23_method_3_code 0 = .ok (.aload_n 0, 1) := by decide +kernel
theorem d5_1 : decode prog_23_method_3_code 1 = .ok (.getfield 22, 3) := by decide +kernel
theorem d5_4 : decode prog_23_method_3_code 4 = .ok (.aload_n 0, 1) := by decide +kernel
theorem d5_5 : decode prog_23_method_3_code 5 = .ok (.getfield 16, 3) := by decide +kernel
theorem d5_8 : decode prog_23_method_3_code 8 = .ok (.iload_n 1, 1) := by decide +kernel
theorem d5_9 : decode prog_23_method_3_code 9 = .ok (.iaload, 1) := by decide +kernel
theorem d5_10 : decode prog_23_method_3_code 10 = .ok (.aload_n 0, 1) := by decide +kernel
theorem d5_11 : decode prog_23_method_3_code 11 = .ok (.getfield 16, 3) := by decide +kernel
theorem d5_14 : decode prog_23_method_3_code 14 = .ok (.iload_n 1, 1) := by decide +kernel
theorem d5_15 : decode prog_23_method_3_code 15 = .ok (.iconst 1, 1) := by decide +kernel
theorem d5_16 : decode prog_23_method_3_code 16 = .ok (.iadd, 1) := by decide +kernel
theorem d5_17 : decode prog_23_method_3_code 17 = .ok (.iaload, 1) := by decide +kernel
theorem d5_18 : decode prog_23_method_3_code 18 = .ok (.invokestatic 31, 3) := by decide +kernel
theorem d5_21 : decode prog_23_method_3_code 21 = .ok (.areturn, 1) := by decide +kernel
theorem pn_rm5 : plainName "com/example/kembar/kembar/cluster/SketchHolders" = true := by first | (simp [plainName, overriddenIn]; done) | decide +kernel
theorem ef_rm5 (m : MethodId) (x0 : Addr) (x1 : Int32) : entryFrame m #[(.ref x0), (.int x1)] 2 = mkF m 0 #[.val (.ref x0), .val (.int x1)] [] := by first | (simp [entryFrame, mkF, argsToLocals, Value.category]; done) | rfl
set_option maxRecDepth 65536 in
set_option maxHeartbeats 40000000 in
theorem rm5 (l : Launch) (Z : State) (a0 : Array Value) (hw : ∀ d ∈ tables_1, d.before a0 Z = true) (ws : List Jvm.Cond) (h0 : Heap) (n0 : Nat) (Z0 : n0 ≤ h0.size) (a1 : Addr) (p2 : Int32) (as ad : Addr) (s0 : Nat) (Ls Ld ds : List Int32) (E_a1 : Exa Z h0 a1 "com/example/kembar/kembar/cluster/SketchHolders") (g_a1 : n0 ≤ a1) (F_starts_a1 : Fld Z h0 a1 "com/example/kembar/kembar/cluster/SketchHolders" "starts" "[I" (.ref as)) (F_documents_a1 : Fld Z h0 a1 "com/example/kembar/kembar/cluster/SketchHolders" "documents" "[I" (.ref ad)) (Vs : OVec Z h0 as .int Ls) (hls : Ls.length = s0 + 1) (Vd : OVec Z h0 ad .int Ld) (hld : Ld.length = 5) (Ed : Exa Z h0 ad "[I") (hsp : (∀ q : Nat, q < s0 → 0 ≤ (Ls.getD q 0).toInt ∧ (Ls.getD q 0).toInt ≤ (Ls.getD (q + 1) 0).toInt ∧ (Ls.getD (q + 1) 0).toInt ≤ 5 ∧ ((Ld.drop (Ls.getD q 0).toInt.toNat).take ((Ls.getD (q + 1) 0).toInt - (Ls.getD q 0).toInt).toNat = own_sel (Int32.ofNat q) ds))) (hp : 0 ≤ p2.toInt ∧ p2.toInt < s0) (hs0 : s0 ≤ 4) :
    OMet l (⟨"com/example/kembar/kembar/cluster/SketchHolders", "documentsOf", "(I)[I"⟩ : MethodName) prog_23_method_3_code 2 (some (.array .int)) ws ({ frames := 3, cells := 1, slots := 5, locals := 100 } : Room) #[(.ref a1), (.int p2)] Z h0 (fun v h L' => ∃ b : Addr, v = some (.ref b) ∧ Fr n0 L' ∧ Keep h0 h [] ∧ h0.size ≤ b ∧ OVec Z h b .int (own_sel p2 ds)) := by
  refine own_met (plainFor_of_name pn_rm5) ?_
  intro p e s m below meth c s₁ X0 hx hby hml hown hnm hret hlk hZ e0
  rw [ef_rm5]
  have N0 := Fr.nil n0
  have rg_p2 := rng32 p2
  show ORun p e below s _ _ _ s₁ (mkF m 0 #[.val (.ref a1), .val (.int p2)] [])
  refine own_by (fun t k => XS.aloadN X0.here hx rfl (hb hby d5_0) rfl rfl k) ?_
  show ORun p e below s _ _ _ s₁ (mkF m 1 #[.val (.ref a1), .val (.int p2)] [(.ref a1)])
  obtain ⟨T1, X1, e1, st1⟩ := getF X0 hx hZ hown (host := "") (Or.inl (hw _ (List.mem_of_getElem? (i := 14) rfl))) Via.refl e0 F_documents_a1 (g := (mkF m 1 #[.val (.ref a1), .val (.int p2)] [(.ref a1)])) rfl rfl (hb hby d5_1)
  refine own_by st1 ?_
  show ORun p e below s _ _ _ T1 (mkF m 4 #[.val (.ref a1), .val (.int p2)] [(.ref ad)])
  refine own_by (fun t k => XS.aloadN X1.here hx rfl (hb hby d5_4) rfl rfl k) ?_
  show ORun p e below s _ _ _ T1 (mkF m 5 #[.val (.ref a1), .val (.int p2)] [(.ref a1), (.ref ad)])
  obtain ⟨T2, X2, e2, st2⟩ := getF X1 hx hZ hown (host := "") (Or.inl (hw _ (List.mem_of_getElem? (i := 12) rfl))) Via.refl e1 F_starts_a1 (g := (mkF m 5 #[.val (.ref a1), .val (.int p2)] [(.ref a1), (.ref ad)])) rfl rfl (hb hby d5_5)
  refine own_by st2 ?_
  show ORun p e below s _ _ _ T2 (mkF m 8 #[.val (.ref a1), .val (.int p2)] [(.ref as), (.ref ad)])
  refine own_by (fun t k => XS.iloadN X2.here hx rfl (hb hby d5_8) rfl k) ?_
  show ORun p e below s _ _ _ T2 (mkF m 9 #[.val (.ref a1), .val (.int p2)] [(.int p2), (.ref as), (.ref ad)])
  refine own_iaload X2 hx hZ e2 Vs (i := p2.toInt.toNat) (by omega) (by omega) (hb hby d5_9) ?_
  intro v3 hv3
  have r3 := rng32 v3
  show ORun p e below s _ _ _ T2 (mkF m 10 #[.val (.ref a1), .val (.int p2)] [(.int v3), (.ref ad)])
  refine own_by (fun t k => XS.aloadN X2.here hx rfl (hb hby d5_10) rfl rfl k) ?_
  show ORun p e below s _ _ _ T2 (mkF m 11 #[.val (.ref a1), .val (.int p2)] [(.ref a1), (.int v3), (.ref ad)])
  obtain ⟨T4, X4, e4, st4⟩ := getF X2 hx hZ hown (host := "") (Or.inl (hw _ (List.mem_of_getElem? (i := 12) rfl))) Via.refl e2 F_starts_a1 (g := (mkF m 11 #[.val (.ref a1), .val (.int p2)] [(.ref a1), (.int v3), (.ref ad)])) rfl rfl (hb hby d5_11)
  refine own_by st4 ?_
  show ORun p e below s _ _ _ T4 (mkF m 14 #[.val (.ref a1), .val (.int p2)] [(.ref as), (.int v3), (.ref ad)])
  refine own_by (fun t k => XS.iloadN X4.here hx rfl (hb hby d5_14) rfl k) ?_
  show ORun p e below s _ _ _ T4 (mkF m 15 #[.val (.ref a1), .val (.int p2)] [(.int p2), (.ref as), (.int v3), (.ref ad)])
  refine own_by (fun t k => XS.iconst X4.here hx rfl (hb hby d5_15) k) ?_
  show ORun p e below s _ _ _ T4 (mkF m 16 #[.val (.ref a1), .val (.int p2)] [(.int (1 : Int32)), (.int p2), (.ref as), (.int v3), (.ref ad)])
  refine own_by (fun t k => XS.iadd X4.here hx rfl (hb hby d5_16) rfl k) (own_letI (f := (fun z => (mkF m 17 #[.val (.ref a1), .val (.int p2)] [(.int z), (.ref as), (.int v3), (.ref ad)]))) (p2 + (1 : Int32)) fun v5 hv5 => ?_)
  show ORun p e below s _ _ _ T4 (mkF m 17 #[.val (.ref a1), .val (.int p2)] [(.int v5), (.ref as), (.int v3), (.ref ad)])
  have r5 := rng32 v5
  have a5 : v5.toInt = p2.toInt + 1 := by
    have q : (v5.toInt - (p2.toInt + 1)) % 4294967296 = 0 := by rw [hv5]; exact c_iadd p2 (1 : Int32)
    omega
  refine own_iaload X4 hx hZ e4 Vs (i := v5.toInt.toNat) (by omega) (by omega) (hb hby d5_17) ?_
  intro v6 hv6
  have r6 := rng32 v6
  show ORun p e below s _ _ _ T4 (mkF m 18 #[.val (.ref a1), .val (.int p2)] [(.int v6), (.int v3), (.ref ad)])
  have sp := hsp p2.toInt.toNat (by omega)
  have ej : v5.toInt.toNat = p2.toInt.toNat + 1 := by omega
  rw [ej] at hv6
  rw [← hv3, ← hv6] at sp
  refine own_callS X4 hx hZ hown (hw _ (List.mem_of_getElem? (i := 33) rfl)) (hw _ (List.mem_of_getElem? (i := 34) rfl)) (hw _ (List.mem_of_getElem? (i := 18) rfl)) (hw _ (List.mem_of_getElem? (i := 35) rfl)) (by decide) (rm6 l Z a0 hw [] h0 n0 Z0 ad v3 v6 Ld Vd hld ⟨sp.1, sp.2.1, sp.2.2.1⟩ Ed) e4 (by decide) (W := 0) (by decide) (by decide) (by decide) (argsL := [(.ref ad), (.int v3), (.int v6)]) (rest := []) (by rw [hml]; rfl) (lenOf pd_2 rfl) rfl rfl (Nat.le_of_eq rfl) (hb hby d5_18) ?_
  intro T7 L7 u7 X7 hQ7
  obtain ⟨o7, rfl, Nq7, K7, sz_o7, Vq7⟩ := hQ7
  have N7 := Fr.app N0 Nq7
  show ORun p e below s _ _ _ T7 (mkF m 21 #[.val (.ref a1), .val (.int p2)] [(.ref o7)])
  refine own_retA X7 hx hret rfl rfl rfl hlk (hb hby d5_21) (by decide) (by decide) ?_
  refine ⟨o7, rfl, N7, ((Keep.refl h0 []).trans K7 all0), sz_o7, ?_⟩
  have e1 := sp.2.2.2
  rw [own_of p2 hp.1] at e1
  rw [← e1]
  exact Vq7
theorem d1_0 : decode prog_23_method_2_code 0 = .ok (.aload_n 0, 1) := by decide +kernel
theorem d1_1 : decode prog_23_method_2_code 1 = .ok (.invokespecial 11, 3) := by decide +kernel
theorem d1_4 : decode prog_23_method_2_code 4 = .ok (.aload_n 0, 1) := by decide +kernel
theorem d1_5 : decode prog_23_method_2_code 5 = .ok (.iload_n 1, 1) := by decide +kernel
theorem d1_6 : decode prog_23_method_2_code 6 = .ok (.iconst 1, 1) := by decide +kernel
theorem d1_7 : decode prog_23_method_2_code 7 = .ok (.iadd, 1) := by decide +kernel
theorem d1_8 : decode prog_23_method_2_code 8 = .ok (.newarray .int, 2) := by decide +kernel
theorem d1_10 : decode prog_23_method_2_code 10 = .ok (.putfield 16, 3) := by decide +kernel
theorem d1_13 : decode prog_23_method_2_code 13 = .ok (.aload_n 2, 1) := by decide +kernel
theorem d1_14 : decode prog_23_method_2_code 14 = .ok (.astore_n 3, 1) := by decide +kernel
theorem d1_15 : decode prog_23_method_2_code 15 = .ok (.aload_n 3, 1) := by decide +kernel
theorem d1_16 : decode prog_23_method_2_code 16 = .ok (.arraylength, 1) := by decide +kernel
theorem d1_17 : decode prog_23_method_2_code 17 = .ok (.istore 4, 2) := by decide +kernel
theorem d1_19 : decode prog_23_method_2_code 19 = .ok (.iconst 0, 1) := by decide +kernel
theorem d1_20 : decode prog_23_method_2_code 20 = .ok (.istore 5, 2) := by decide +kernel
theorem d1_22 : decode prog_23_method_2_code 22 = .ok (.iload 5, 2) := by decide +kernel
theorem d1_24 : decode prog_23_method_2_code 24 = .ok (.iload 4, 2) := by decide +kernel
theorem d1_26 : decode prog_23_method_2_code 26 = .ok (.if_icmp .ge 28, 3) := by decide +kernel
theorem d1_29 : decode prog_23_method_2_code 29 = .ok (.aload_n 3, 1) := by decide +kernel
theorem d1_30 : decode prog_23_method_2_code 30 = .ok (.iload 5, 2) := by decide +kernel
theorem d1_32 : decode prog_23_method_2_code 32 = .ok (.iaload, 1) := by decide +kernel
theorem d1_33 : decode prog_23_method_2_code 33 = .ok (.istore 6, 2) := by decide +kernel
theorem d1_35 : decode prog_23_method_2_code 35 = .ok (.aload_n 0, 1) := by decide +kernel
theorem d1_36 : decode prog_23_method_2_code 36 = .ok (.getfield 16, 3) := by decide +kernel
theorem d1_39 : decode prog_23_method_2_code 39 = .ok (.iload 6, 2) := by decide +kernel
theorem d1_41 : decode prog_23_method_2_code 41 = .ok (.iconst 1, 1) := by decide +kernel
theorem d1_42 : decode prog_23_method_2_code 42 = .ok (.iadd, 1) := by decide +kernel
theorem d1_43 : decode prog_23_method_2_code 43 = .ok (.dup2, 1) := by decide +kernel
theorem d1_44 : decode prog_23_method_2_code 44 = .ok (.iaload, 1) := by decide +kernel
theorem d1_45 : decode prog_23_method_2_code 45 = .ok (.iconst 1, 1) := by decide +kernel
theorem d1_46 : decode prog_23_method_2_code 46 = .ok (.iadd, 1) := by decide +kernel
theorem d1_47 : decode prog_23_method_2_code 47 = .ok (.iastore, 1) := by decide +kernel
theorem d1_48 : decode prog_23_method_2_code 48 = .ok (.iinc 5 1, 3) := by decide +kernel
theorem d1_51 : decode prog_23_method_2_code 51 = .ok (.goto (-29), 3) := by decide +kernel
theorem d1_54 : decode prog_23_method_2_code 54 = .ok (.iconst 0, 1) := by decide +kernel
theorem d1_55 : decode prog_23_method_2_code 55 = .ok (.istore_n 3, 1) := by decide +kernel
theorem d1_56 : decode prog_23_method_2_code 56 = .ok (.iload_n 3, 1) := by decide +kernel
theorem d1_57 : decode prog_23_method_2_code 57 = .ok (.iload_n 1, 1) := by decide +kernel
theorem d1_58 : decode prog_23_method_2_code 58 = .ok (.if_icmp .ge 26, 3) := by decide +kernel
theorem d1_61 : decode prog_23_method_2_code 61 = .ok (.aload_n 0, 1) := by decide +kernel
theorem d1_62 : decode prog_23_method_2_code 62 = .ok (.getfield 16, 3) := by decide +kernel
theorem d1_65 : decode prog_23_method_2_code 65 = .ok (.iload_n 3, 1) := by decide +kernel
theorem d1_66 : decode prog_23_method_2_code 66 = .ok (.iconst 1, 1) := by decide +kernel
theorem d1_67 : decode prog_23_method_2_code 67 = .ok (.iadd, 1) := by decide +kernel
theorem d1_68 : decode prog_23_method_2_code 68 = .ok (.dup2, 1) := by decide +kernel
theorem d1_69 : decode prog_23_method_2_code 69 = .ok (.iaload, 1) := by decide +kernel
theorem d1_70 : decode prog_23_method_2_code 70 = .ok (.aload_n 0, 1) := by decide +kernel
theorem d1_71 : decode prog_23_method_2_code 71 = .ok (.getfield 16, 3) := by decide +kernel
theorem d1_74 : decode prog_23_method_2_code 74 = .ok (.iload_n 3, 1) := by decide +kernel
theorem d1_75 : decode prog_23_method_2_code 75 = .ok (.iaload, 1) := by decide +kernel
theorem d1_76 : decode prog_23_method_2_code 76 = .ok (.iadd, 1) := by decide +kernel
theorem d1_77 : decode prog_23_method_2_code 77 = .ok (.iastore, 1) := by decide +kernel
theorem d1_78 : decode prog_23_method_2_code 78 = .ok (.iinc 3 1, 3) := by decide +kernel
theorem d1_81 : decode prog_23_method_2_code 81 = .ok (.goto (-25), 3) := by decide +kernel
theorem d1_84 : decode prog_23_method_2_code 84 = .ok (.aload_n 0, 1) := by decide +kernel
theorem d1_85 : decode prog_23_method_2_code 85 = .ok (.aload_n 2, 1) := by decide +kernel
theorem d1_86 : decode prog_23_method_2_code 86 = .ok (.arraylength, 1) := by decide +kernel
theorem d1_87 : decode prog_23_method_2_code 87 = .ok (.newarray .int, 2) := by decide +kernel
theorem d1_89 : decode prog_23_method_2_code 89 = .ok (.putfield 22, 3) := by decide +kernel
theorem d1_92 : decode prog_23_method_2_code 92 = .ok (.aload_n 0, 1) := by decide +kernel
theorem d1_93 : decode prog_23_method_2_code 93 = .ok (.getfield 16, 3) := by decide +kernel
theorem d1_96 : decode prog_23_method_2_code 96 = .ok (.iload_n 1, 1) := by decide +kernel
theorem d1_97 : decode prog_23_method_2_code 97 = .ok (.invokestatic 25, 3) := by decide +kernel
theorem d1_100 : decode prog_23_method_2_code 100 = .ok (.astore_n 3, 1) := by decide +kernel
theorem d1_101 : decode prog_23_method_2_code 101 = .ok (.iconst 0, 1) := by decide +kernel
theorem d1_102 : decode prog_23_method_2_code 102 = .ok (.istore 4, 2) := by decide +kernel
theorem d1_104 : decode prog_23_method_2_code 104 = .ok (.iload 4, 2) := by decide +kernel
theorem d1_106 : decode prog_23_method_2_code 106 = .ok (.aload_n 2, 1) := by decide +kernel
theorem d1_107 : decode prog_23_method_2_code 107 = .ok (.arraylength, 1) := by decide +kernel
theorem d1_108 : decode prog_23_method_2_code 108 = .ok (.if_icmp .ge 32, 3) := by decide +kernel
theorem d1_111 : decode prog_23_method_2_code 111 = .ok (.aload_n 0, 1) := by decide +kernel
theorem d1_112 : decode prog_23_method_2_code 112 = .ok (.getfield 22, 3) := by decide +kernel
theorem d1_115 : decode prog_23_method_2_code 115 = .ok (.aload_n 3, 1) := by decide +kernel
theorem d1_116 : decode prog_23_method_2_code 116 = .ok (.aload_n 2, 1) := by decide +kernel
theorem d1_117 : decode prog_23_method_2_code 117 = .ok (.iload 4, 2) := by decide +kernel
theorem d1_119 : decode prog_23_method_2_code 119 = .ok (.iaload, 1) := by decide +kernel
theorem d1_120 : decode prog_23_method_2_code 120 = .ok (.iaload, 1) := by decide +kernel
theorem d1_121 : decode prog_23_method_2_code 121 = .ok (.iload 4, 2) := by decide +kernel
theorem d1_123 : decode prog_23_method_2_code 123 = .ok (.iastore, 1) := by decide +kernel
theorem d1_124 : decode prog_23_method_2_code 124 = .ok (.aload_n 3, 1) := by decide +kernel
theorem d1_125 : decode prog_23_method_2_code 125 = .ok (.aload_n 2, 1) := by decide +kernel
theorem d1_126 : decode prog_23_method_2_code 126 = .ok (.iload 4, 2) := by decide +kernel
theorem d1_128 : decode prog_23_method_2_code 128 = .ok (.iaload, 1) := by decide +kernel
theorem d1_129 : decode prog_23_method_2_code 129 = .ok (.dup2, 1) := by decide +kernel
theorem d1_130 : decode prog_23_method_2_code 130 = .ok (.iaload, 1) := by decide +kernel
theorem d1_131 : decode prog_23_method_2_code 131 = .ok (.iconst 1, 1) := by decide +kernel
theorem d1_132 : decode prog_23_method_2_code 132 = .ok (.iadd, 1) := by decide +kernel
theorem d1_133 : decode prog_23_method_2_code 133 = .ok (.iastore, 1) := by decide +kernel
theorem d1_134 : decode prog_23_method_2_code 134 = .ok (.iinc 4 1, 3) := by decide +kernel
theorem d1_137 : decode prog_23_method_2_code 137 = .ok (.goto (-33), 3) := by decide +kernel
theorem d1_140 : decode prog_23_method_2_code 140 = .ok (.return_, 1) := by decide +kernel
theorem pn_rm1 : plainName "com/example/kembar/kembar/cluster/SketchHolders" = true := by first | (simp [plainName, overriddenIn]; done) | decide +kernel
theorem ef_rm1 (m : MethodId) (x0 : Addr) (x1 : Int32) (x2 : Addr) : entryFrame m #[(.ref x0), (.int x1), (.ref x2)] 7 = mkF m 0 #[.val (.ref x0), .val (.int x1), .val (.ref x2), .unset, .unset, .unset, .unset] [] := by first | (simp [entryFrame, mkF, argsToLocals, Value.category]; done) | rfl
set_option maxRecDepth 65536 in
set_option maxHeartbeats 40000000 in
theorem rm1 (l : Launch) (Z : State) (a0 : Array Value) (hw : ∀ d ∈ tables_1, d.before a0 Z = true) (ws : List Jvm.Cond) (h0 : Heap) (n0 : Nat) (Z0 : n0 ≤ h0.size) (a1 : Addr) (p2 : Int32) (a2 : Addr) (d0 d1 d2 d3 d4 : Int32) (E_a1 : Exa Z h0 a1 "com/example/kembar/kembar/cluster/SketchHolders") (g_a1 : n0 ≤ a1) (F_starts_a1 : Fld Z h0 a1 "com/example/kembar/kembar/cluster/SketchHolders" "starts" "[I" .null) (F_documents_a1 : Fld Z h0 a1 "com/example/kembar/kembar/cluster/SketchHolders" "documents" "[I" .null) (VA2 : OVec Z h0 a2 .int [d0, d1, d2, d3, d4]) (ne12 : a1 ≠ a2) (hp : 1 ≤ p2.toInt ∧ p2.toInt ≤ 4) (hb0 : 0 ≤ d0.toInt ∧ d0.toInt < p2.toInt) (hb1 : 0 ≤ d1.toInt ∧ d1.toInt < p2.toInt) (hb2 : 0 ≤ d2.toInt ∧ d2.toInt < p2.toInt) (hb3 : 0 ≤ d3.toInt ∧ d3.toInt < p2.toInt) (hb4 : 0 ≤ d4.toInt ∧ d4.toInt < p2.toInt) :
    OMet l (⟨"com/example/kembar/kembar/cluster/SketchHolders", "<init>", "(I[I)V"⟩ : MethodName) prog_23_method_2_code 7 none ws ({ frames := 2, cells := 3, slots := 14, locals := 80 } : Room) #[(.ref a1), (.int p2), (.ref a2)] Z h0 (fun v h L' => v = none ∧ Fr n0 L' ∧ Keep h0 h [a1] ∧ ∃ (as ad : Addr) (s : Nat) (Ls Ld : List Int32), Exa Z h a1 "com/example/kembar/kembar/cluster/SketchHolders" ∧ Fld Z h a1 "com/example/kembar/kembar/cluster/SketchHolders" "starts" "[I" (.ref as) ∧ Fld Z h a1 "com/example/kembar/kembar/cluster/SketchHolders" "documents" "[I" (.ref ad) ∧ OVec Z h as .int Ls ∧ Ls.length = s + 1 ∧ OVec Z h ad .int Ld ∧ Ld.length = 5 ∧ Exa Z h ad "[I" ∧ p2.toInt = (s : Int) ∧ (∀ q : Nat, q < s → 0 ≤ (Ls.getD q 0).toInt ∧ (Ls.getD q 0).toInt ≤ (Ls.getD (q + 1) 0).toInt ∧ (Ls.getD (q + 1) 0).toInt ≤ 5 ∧ ((Ld.drop (Ls.getD q 0).toInt.toNat).take ((Ls.getD (q + 1) 0).toInt - (Ls.getD q 0).toInt).toNat = own_sel (Int32.ofNat q) [d0, d1, d2, d3, d4]))) := by
  refine own_met (plainFor_of_name pn_rm1) ?_
  intro p e s m below meth c s₁ X0 hx hby hml hown hnm hret hlk hZ e0
  rw [ef_rm1]
  have N0 := Fr.nil n0
  have rg_p2 := rng32 p2
  have lds : [d0, d1, d2, d3, d4].length = 5 := rfl
  show ORun p e below s _ _ _ s₁ (mkF m 0 #[.val (.ref a1), .val (.int p2), .val (.ref a2), .unset, .unset, .unset, .unset] [])
  have hp2 : p2 = 1 ∨ p2 = 2 ∨ p2 = 3 ∨ p2 = 4 := by
    have f : ∀ z : Int32, p2.toInt = z.toInt → p2 = z := fun z q => Int32.toInt_inj.mp q
    have c : p2.toInt = 1 ∨ p2.toInt = 2 ∨ p2.toInt = 3 ∨ p2.toInt = 4 := by omega
    rcases c with c | c | c | c
    · exact Or.inl (f 1 c)
    · exact Or.inr (Or.inl (f 2 c))
    · exact Or.inr (Or.inr (Or.inl (f 3 c)))
    · exact Or.inr (Or.inr (Or.inr (f 4 c)))
  rcases hp2 with hp2 | hp2 | hp2 | hp2
  · have z1 : (1 : Int32).toInt = 1 := by decide
    rw [hp2] at hb0 hb1 hb2 hb3 hb4
    have PP := own_PP (s := 1) (by omega) (a := d0) (b := d1) (c := d2) (d := d3) (e := d4) (by omega) (by omega) (by omega) (by omega) (by omega)
    subst hp2
    show ORun p e below s _ _ _ s₁ (mkF m 0 #[.val (.ref a1), .val (.int (1 : Int32)), .val (.ref a2), .unset, .unset, .unset, .unset] [])
    refine own_by (fun t k => XS.aloadN X0.here hx rfl (hb hby d1_0) rfl rfl k) ?_
    show ORun p e below s _ _ _ s₁ (mkF m 1 #[.val (.ref a1), .val (.int (1 : Int32)), .val (.ref a2), .unset, .unset, .unset, .unset] [(.ref a1)])
    obtain ⟨T1, X1, e1, st1⟩ := initO X0 hx hZ hown (hw _ (List.mem_of_getElem? (i := 9) rfl)) (hw _ (List.mem_of_getElem? (i := 10) rfl)) (hw _ (List.mem_of_getElem? (i := 11) rfl)) e0 (g := (mkF m 1 #[.val (.ref a1), .val (.int (1 : Int32)), .val (.ref a2), .unset, .unset, .unset, .unset] [(.ref a1)])) rfl (by rw [hml]; rfl) rfl (hb hby d1_1) (by decide) (W := 0) (by show 2 * 0 + _ ≤ _; exact Nat.le_of_eq rfl) (by decide)
    refine own_by st1 ?_
    show ORun p e below s _ _ _ T1 (mkF m 4 #[.val (.ref a1), .val (.int (1 : Int32)), .val (.ref a2), .unset, .unset, .unset, .unset] [])
    refine own_by (fun t k => XS.aloadN X1.here hx rfl (hb hby d1_4) rfl rfl k) ?_
    show ORun p e below s _ _ _ T1 (mkF m 5 #[.val (.ref a1), .val (.int (1 : Int32)), .val (.ref a2), .unset, .unset, .unset, .unset] [(.ref a1)])
    refine own_by (fun t k => XS.iloadN X1.here hx rfl (hb hby d1_5) rfl k) ?_
    show ORun p e below s _ _ _ T1 (mkF m 6 #[.val (.ref a1), .val (.int (1 : Int32)), .val (.ref a2), .unset, .unset, .unset, .unset] [(.int (1 : Int32)), (.ref a1)])
    refine own_by (fun t k => XS.iconst X1.here hx rfl (hb hby d1_6) k) ?_
    show ORun p e below s _ _ _ T1 (mkF m 7 #[.val (.ref a1), .val (.int (1 : Int32)), .val (.ref a2), .unset, .unset, .unset, .unset] [(.int (1 : Int32)), (.int (1 : Int32)), (.ref a1)])
    refine own_by (fun t k => XS.iadd X1.here hx rfl (hb hby d1_7) rfl k) ?_
    show ORun p e below s _ _ _ T1 (mkF m 8 #[.val (.ref a1), .val (.int (1 : Int32)), .val (.ref a2), .unset, .unset, .unset, .unset] [(.int (2 : Int32)), (.ref a1)])
    refine own_newarray X1 hx hZ (aty := .int) (hw _ (List.mem_of_getElem? (i := 1) rfl)) e1 rfl (N := 2) (cap := 2) (by decide) (Nat.le_refl _) (by decide) (by decide) (by decide) (ad := "[I") (by decide) (hb hby d1_8) ?_
    intro T2 h2 b2 L2 g2 X2 e2 E2 hL2 V2 Ex2
    have len2 : L2.length = 2 := by rw [hL2]; exact List.length_replicate
    have old_b2 : n0 ≤ b2 := Nat.le_trans Z0 (Nat.le_of_eq g2.symm)
    have sz_b2 : h0.size ≤ b2 := Nat.le_trans (Nat.le_refl h0.size) (Nat.le_of_eq g2.symm)
    have ne_a1_b2 : a1 ≠ b2 := Nat.ne_of_lt (Nat.lt_of_lt_of_le E_a1.lt (Nat.le_of_eq g2.symm))
    have ne_a2_b2 : a2 ≠ b2 := Nat.ne_of_lt (Nat.lt_of_lt_of_le VA2.lt (Nat.le_of_eq g2.symm))
    show ORun p e below s _ _ _ T2 (mkF m 10 #[.val (.ref a1), .val (.int (1 : Int32)), .val (.ref a2), .unset, .unset, .unset, .unset] [(.ref b2), (.ref a1)])
    obtain ⟨T3, h3, X3, e3, W3, st3⟩ := putF X2 hx hZ hown (host := "") (Or.inl (hw _ (List.mem_of_getElem? (i := 12) rfl))) Via.refl e2 (F_starts_a1.ext E2) (E_a1.ext E2) (Or.inr ⟨(hw _ (List.mem_of_getElem? (i := 13) rfl)), rfl, hnm⟩) (hw _ (List.mem_of_getElem? (i := 4) rfl)) (ty := (.array .int)) (by decide) rfl rfl (g := (mkF m 10 #[.val (.ref a1), .val (.int (1 : Int32)), .val (.ref a2), .unset, .unset, .unset, .unset] [(.ref b2), (.ref a1)])) rfl rfl (hb hby d1_10)
    have Fw3 := Fld.same W3 (F_starts_a1.ext E2)
    have N3 := Fr.snoc X3 N0 g_a1
    refine own_by st3 ?_
    show ORun p e below s _ _ _ T3 (mkF m 13 #[.val (.ref a1), .val (.int (1 : Int32)), .val (.ref a2), .unset, .unset, .unset, .unset] [])
    refine own_by (fun t k => XS.aloadN X3.here hx rfl (hb hby d1_13) rfl rfl k) ?_
    show ORun p e below s _ _ _ T3 (mkF m 14 #[.val (.ref a1), .val (.int (1 : Int32)), .val (.ref a2), .unset, .unset, .unset, .unset] [(.ref a2)])
    refine own_by (fun t k => XS.astoreN X3.here hx rfl (hb hby d1_14) rfl rfl (l' := #[.val (.ref a1), .val (.int (1 : Int32)), .val (.ref a2), .val (.ref a2), .unset, .unset, .unset]) rfl k) ?_
    show ORun p e below s _ _ _ T3 (mkF m 15 #[.val (.ref a1), .val (.int (1 : Int32)), .val (.ref a2), .val (.ref a2), .unset, .unset, .unset] [])
    refine own_by (fun t k => XS.aloadN X3.here hx rfl (hb hby d1_15) rfl rfl k) ?_
    show ORun p e below s _ _ _ T3 (mkF m 16 #[.val (.ref a1), .val (.int (1 : Int32)), .val (.ref a2), .val (.ref a2), .unset, .unset, .unset] [(.ref a2)])
    refine own_len X3 hx hZ e3 ((VA2.ext E2).other W3 (Ne.symm ne12)) (n := 5) lds (hb hby d1_16) ?_
    show ORun p e below s _ _ _ T3 (mkF m 17 #[.val (.ref a1), .val (.int (1 : Int32)), .val (.ref a2), .val (.ref a2), .unset, .unset, .unset] [(.int (5 : Int32))])
    refine own_by (fun t k => XS.istore X3.here hx rfl (hb hby d1_17) rfl (l' := #[.val (.ref a1), .val (.int (1 : Int32)), .val (.ref a2), .val (.ref a2), .val (.int (5 : Int32)), .unset, .unset]) rfl k) ?_
    show ORun p e below s _ _ _ T3 (mkF m 19 #[.val (.ref a1), .val (.int (1 : Int32)), .val (.ref a2), .val (.ref a2), .val (.int (5 : Int32)), .unset, .unset] [])
    refine own_by (fun t k => XS.iconst X3.here hx rfl (hb hby d1_19) k) ?_
    show ORun p e below s _ _ _ T3 (mkF m 20 #[.val (.ref a1), .val (.int (1 : Int32)), .val (.ref a2), .val (.ref a2), .val (.int (5 : Int32)), .unset, .unset] [(.int (0 : Int32))])
    refine own_by (fun t k => XS.istore X3.here hx rfl (hb hby d1_20) rfl (l' := #[.val (.ref a1), .val (.int (1 : Int32)), .val (.ref a2), .val (.ref a2), .val (.int (5 : Int32)), .val (.int (0 : Int32)), .unset]) rfl k) ?_
    show ORun p e below s _ _ _ T3 (mkF m 22 #[.val (.ref a1), .val (.int (1 : Int32)), .val (.ref a2), .val (.ref a2), .val (.int (5 : Int32)), .val (.int (0 : Int32)), .unset] [])
    refine own_by (fun t k => XS.iload X3.here hx rfl (hb hby d1_22) rfl k) ?_
    show ORun p e below s _ _ _ T3 (mkF m 24 #[.val (.ref a1), .val (.int (1 : Int32)), .val (.ref a2), .val (.ref a2), .val (.int (5 : Int32)), .val (.int (0 : Int32)), .unset] [(.int (0 : Int32))])
    refine own_by (fun t k => XS.iload X3.here hx rfl (hb hby d1_24) rfl k) ?_
    show ORun p e below s _ _ _ T3 (mkF m 26 #[.val (.ref a1), .val (.int (1 : Int32)), .val (.ref a2), .val (.ref a2), .val (.int (5 : Int32)), .val (.int (0 : Int32)), .unset] [(.int (5 : Int32)), (.int (0 : Int32))])
    refine own_by (fun t k => XS.icmpNo X3.here hx rfl (hb hby d1_26) rfl (tlt (by decide)).2.1 k) ?_
    show ORun p e below s _ _ _ T3 (mkF m 29 #[.val (.ref a1), .val (.int (1 : Int32)), .val (.ref a2), .val (.ref a2), .val (.int (5 : Int32)), .val (.int (0 : Int32)), .unset] [])
    refine own_by (fun t k => XS.aloadN X3.here hx rfl (hb hby d1_29) rfl rfl k) ?_
    show ORun p e below s _ _ _ T3 (mkF m 30 #[.val (.ref a1), .val (.int (1 : Int32)), .val (.ref a2), .val (.ref a2), .val (.int (5 : Int32)), .val (.int (0 : Int32)), .unset] [(.ref a2)])
    refine own_by (fun t k => XS.iload X3.here hx rfl (hb hby d1_30) rfl k) ?_
    show ORun p e below s _ _ _ T3 (mkF m 32 #[.val (.ref a1), .val (.int (1 : Int32)), .val (.ref a2), .val (.ref a2), .val (.int (5 : Int32)), .val (.int (0 : Int32)), .unset] [(.int (0 : Int32)), (.ref a2)])
    refine own_iaload X3 hx hZ e3 ((VA2.ext E2).other W3 (Ne.symm ne12)) (i := 0) (by decide) (by omega) (hb hby d1_32) ?_
    intro v4 hv4
    obtain rfl : d0 = v4 := hv4.symm
    show ORun p e below s _ _ _ T3 (mkF m 33 #[.val (.ref a1), .val (.int (1 : Int32)), .val (.ref a2), .val (.ref a2), .val (.int (5 : Int32)), .val (.int (0 : Int32)), .unset] [(.int d0)])
    refine own_by (fun t k => XS.istore X3.here hx rfl (hb hby d1_33) rfl (l' := #[.val (.ref a1), .val (.int (1 : Int32)), .val (.ref a2), .val (.ref a2), .val (.int (5 : Int32)), .val (.int (0 : Int32)), .val (.int d0)]) rfl k) ?_
    show ORun p e below s _ _ _ T3 (mkF m 35 #[.val (.ref a1), .val (.int (1 : Int32)), .val (.ref a2), .val (.ref a2), .val (.int (5 : Int32)), .val (.int (0 : Int32)), .val (.int d0)] [])
    refine own_by (fun t k => XS.aloadN X3.here hx rfl (hb hby d1_35) rfl rfl k) ?_
    show ORun p e below s _ _ _ T3 (mkF m 36 #[.val (.ref a1), .val (.int (1 : Int32)), .val (.ref a2), .val (.ref a2), .val (.int (5 : Int32)), .val (.int (0 : Int32)), .val (.int d0)] [(.ref a1)])
    obtain ⟨T5, X5, e5, st5⟩ := getF X3 hx hZ hown (host := "") (Or.inl (hw _ (List.mem_of_getElem? (i := 12) rfl))) Via.refl e3 Fw3 (g := (mkF m 36 #[.val (.ref a1), .val (.int (1 : Int32)), .val (.ref a2), .val (.ref a2), .val (.int (5 : Int32)), .val (.int (0 : Int32)), .val (.int d0)] [(.ref a1)])) rfl rfl (hb hby d1_36)
    refine own_by st5 ?_
    show ORun p e below s _ _ _ T5 (mkF m 39 #[.val (.ref a1), .val (.int (1 : Int32)), .val (.ref a2), .val (.ref a2), .val (.int (5 : Int32)), .val (.int (0 : Int32)), .val (.int d0)] [(.ref b2)])
    refine own_by (fun t k => XS.iload X5.here hx rfl (hb hby d1_39) rfl k) ?_
    show ORun p e below s _ _ _ T5 (mkF m 41 #[.val (.ref a1), .val (.int (1 : Int32)), .val (.ref a2), .val (.ref a2), .val (.int (5 : Int32)), .val (.int (0 : Int32)), .val (.int d0)] [(.int d0), (.ref b2)])
    refine own_by (fun t k => XS.iconst X5.here hx rfl (hb hby d1_41) k) ?_
    show ORun p e below s _ _ _ T5 (mkF m 42 #[.val (.ref a1), .val (.int (1 : Int32)), .val (.ref a2), .val (.ref a2), .val (.int (5 : Int32)), .val (.int (0 : Int32)), .val (.int d0)] [(.int (1 : Int32)), (.int d0), (.ref b2)])
    refine own_by (fun t k => XS.iadd X5.here hx rfl (hb hby d1_42) rfl k) (own_letI (f := (fun z => (mkF m 43 #[.val (.ref a1), .val (.int (1 : Int32)), .val (.ref a2), .val (.ref a2), .val (.int (5 : Int32)), .val (.int (0 : Int32)), .val (.int d0)] [(.int z), (.ref b2)]))) (d0 + (1 : Int32)) fun v6 hv6 => ?_)
    show ORun p e below s _ _ _ T5 (mkF m 43 #[.val (.ref a1), .val (.int (1 : Int32)), .val (.ref a2), .val (.ref a2), .val (.int (5 : Int32)), .val (.int (0 : Int32)), .val (.int d0)] [(.int v6), (.ref b2)])
    have r6 := rng32 v6
    have a6 : v6.toInt = d0.toInt + 1 := by
      have q : (v6.toInt - (d0.toInt + 1)) % 4294967296 = 0 := by rw [hv6]; exact c_iadd d0 (1 : Int32)
      omega
    refine own_by (fun t k => XT.dup2 X5.here hx rfl (hb hby d1_43) rfl rfl rfl k) ?_
    show ORun p e below s _ _ _ T5 (mkF m 44 #[.val (.ref a1), .val (.int (1 : Int32)), .val (.ref a2), .val (.ref a2), .val (.int (5 : Int32)), .val (.int (0 : Int32)), .val (.int d0)] [(.int v6), (.ref b2), (.int v6), (.ref b2)])
    refine own_iaload X5 hx hZ e5 (V2.other W3 (Ne.symm ne_a1_b2)) (i := v6.toInt.toNat) (by omega) (by omega) (hb hby d1_44) ?_
    intro v7 hv7
    have r7 := rng32 v7
    show ORun p e below s _ _ _ T5 (mkF m 45 #[.val (.ref a1), .val (.int (1 : Int32)), .val (.ref a2), .val (.ref a2), .val (.int (5 : Int32)), .val (.int (0 : Int32)), .val (.int d0)] [(.int v7), (.int v6), (.ref b2)])
    refine own_by (fun t k => XS.iconst X5.here hx rfl (hb hby d1_45) k) ?_
    show ORun p e below s _ _ _ T5 (mkF m 46 #[.val (.ref a1), .val (.int (1 : Int32)), .val (.ref a2), .val (.ref a2), .val (.int (5 : Int32)), .val (.int (0 : Int32)), .val (.int d0)] [(.int (1 : Int32)), (.int v7), (.int v6), (.ref b2)])
    refine own_by (fun t k => XS.iadd X5.here hx rfl (hb hby d1_46) rfl k) (own_letI (f := (fun z => (mkF m 47 #[.val (.ref a1), .val (.int (1 : Int32)), .val (.ref a2), .val (.ref a2), .val (.int (5 : Int32)), .val (.int (0 : Int32)), .val (.int d0)] [(.int z), (.int v6), (.ref b2)]))) (v7 + (1 : Int32)) fun v8 hv8 => ?_)
    show ORun p e below s _ _ _ T5 (mkF m 47 #[.val (.ref a1), .val (.int (1 : Int32)), .val (.ref a2), .val (.ref a2), .val (.int (5 : Int32)), .val (.int (0 : Int32)), .val (.int d0)] [(.int v8), (.int v6), (.ref b2)])
    have a8a : (v8.toInt - (v7.toInt + 1)) % 4294967296 = 0 := by rw [hv8]; exact c_iadd v7 (1 : Int32)
    have r8 := rng32 v8
    refine own_iastore X5 hx hZ e5 (V2.other W3 (Ne.symm ne_a1_b2)) (i := v6.toInt.toNat) (by omega) (by omega) (hb hby d1_47) ?_
    intro T9 h9 L9 X9 e9 W9 hL9 V9
    have len9 : L9.length = 2 := by rw [hL9, List.length_set]; exact len2
    have N9 := Fr.snoc X9 N3 old_b2
    show ORun p e below s _ _ _ T9 (mkF m 48 #[.val (.ref a1), .val (.int (1 : Int32)), .val (.ref a2), .val (.ref a2), .val (.int (5 : Int32)), .val (.int (0 : Int32)), .val (.int d0)] [])
    have mb10 : L9 = own_bump L2 d0 := by rw [hL9, hv8, hv7, hv6]; rfl
    clear a6 r6 r7 a8a r8
    have Kz11 : Keep h0 h9 [a1] := ((((Keep.refl h0 [a1]).ext E2).wr W3 (Or.inl (List.mem_of_getElem? (i := 0) rfl))).wr W9 (Or.inr sz_b2))
    have fz11_0 := (((E_a1.ext E2).wr W3).wr W9)
    have fz11_1 := (Fw3.other W9 (Or.inl ne_a1_b2))
    have fz11_2 := (((F_documents_a1.ext E2).other W3 (Or.inr (slot_ne (Or.inr (hw _ (List.mem_of_getElem? (i := 15) rfl))) (Or.inr (hw _ (List.mem_of_getElem? (i := 13) rfl))) (by decide) (t := (.array .int)) (t' := (.array .int)) (by decide) (by decide)))).other W9 (Or.inl ne_a1_b2))
    have fz11_3 := (((VA2.ext E2).other W3 (Ne.symm ne12)).other W9 ne_a2_b2)
    have fz11_5 := ((Ex2.wr W3).wr W9)
    refine own_by (fun t k => XS.iinc X9.here hx rfl (hb hby d1_48) rfl (l' := #[.val (.ref a1), .val (.int (1 : Int32)), .val (.ref a2), .val (.ref a2), .val (.int (5 : Int32)), .val (.int (1 : Int32)), .val (.int d0)]) rfl k) ?_
    show ORun p e below s _ _ _ T9 (mkF m 51 #[.val (.ref a1), .val (.int (1 : Int32)), .val (.ref a2), .val (.ref a2), .val (.int (5 : Int32)), .val (.int (1 : Int32)), .val (.int d0)] [])
    refine own_by (fun t k => XS.goto X9.here hx rfl (pc0 := 51) (pc' := 22) rfl (hb hby d1_51) (by decide) (by decide) k) ?_
    show ORun p e below s _ _ _ T9 (mkF m 22 #[.val (.ref a1), .val (.int (1 : Int32)), .val (.ref a2), .val (.ref a2), .val (.int (5 : Int32)), .val (.int (1 : Int32)), .val (.int d0)] [])
    refine own_by (fun t k => XS.iload X9.here hx rfl (hb hby d1_22) rfl k) ?_
    show ORun p e below s _ _ _ T9 (mkF m 24 #[.val (.ref a1), .val (.int (1 : Int32)), .val (.ref a2), .val (.ref a2), .val (.int (5 : Int32)), .val (.int (1 : Int32)), .val (.int d0)] [(.int (1 : Int32))])
    refine own_by (fun t k => XS.iload X9.here hx rfl (hb hby d1_24) rfl k) ?_
    show ORun p e below s _ _ _ T9 (mkF m 26 #[.val (.ref a1), .val (.int (1 : Int32)), .val (.ref a2), .val (.ref a2), .val (.int (5 : Int32)), .val (.int (1 : Int32)), .val (.int d0)] [(.int (5 : Int32)), (.int (1 : Int32))])
    refine own_by (fun t k => XS.icmpNo X9.here hx rfl (hb hby d1_26) rfl (tlt (by decide)).2.1 k) ?_
    show ORun p e below s _ _ _ T9 (mkF m 29 #[.val (.ref a1), .val (.int (1 : Int32)), .val (.ref a2), .val (.ref a2), .val (.int (5 : Int32)), .val (.int (1 : Int32)), .val (.int d0)] [])
    refine own_by (fun t k => XS.aloadN X9.here hx rfl (hb hby d1_29) rfl rfl k) ?_
    show ORun p e below s _ _ _ T9 (mkF m 30 #[.val (.ref a1), .val (.int (1 : Int32)), .val (.ref a2), .val (.ref a2), .val (.int (5 : Int32)), .val (.int (1 : Int32)), .val (.int d0)] [(.ref a2)])
    refine own_by (fun t k => XS.iload X9.here hx rfl (hb hby d1_30) rfl k) ?_
    show ORun p e below s _ _ _ T9 (mkF m 32 #[.val (.ref a1), .val (.int (1 : Int32)), .val (.ref a2), .val (.ref a2), .val (.int (5 : Int32)), .val (.int (1 : Int32)), .val (.int d0)] [(.int (1 : Int32)), (.ref a2)])
    refine own_iaload X9 hx hZ e9 fz11_3 (i := 1) (by decide) (by omega) (hb hby d1_32) ?_
    intro v12 hv12
    obtain rfl : d1 = v12 := hv12.symm
    show ORun p e below s _ _ _ T9 (mkF m 33 #[.val (.ref a1), .val (.int (1 : Int32)), .val (.ref a2), .val (.ref a2), .val (.int (5 : Int32)), .val (.int (1 : Int32)), .val (.int d0)] [(.int d1)])
    refine own_by (fun t k => XS.istore X9.here hx rfl (hb hby d1_33) rfl (l' := #[.val (.ref a1), .val (.int (1 : Int32)), .val (.ref a2), .val (.ref a2), .val (.int (5 : Int32)), .val (.int (1 : Int32)), .val (.int d1)]) rfl k) ?_
    show ORun p e below s _ _ _ T9 (mkF m 35 #[.val (.ref a1), .val (.int (1 : Int32)), .val (.ref a2), .val (.ref a2), .val (.int (5 : Int32)), .val (.int (1 : Int32)), .val (.int d1)] [])
    refine own_by (fun t k => XS.aloadN X9.here hx rfl (hb hby d1_35) rfl rfl k) ?_
    show ORun p e below s _ _ _ T9 (mkF m 36 #[.val (.ref a1), .val (.int (1 : Int32)), .val (.ref a2), .val (.ref a2), .val (.int (5 : Int32)), .val (.int (1 : Int32)), .val (.int d1)] [(.ref a1)])
    obtain ⟨T13, X13, e13, st13⟩ := getF X9 hx hZ hown (host := "") (Or.inl (hw _ (List.mem_of_getElem? (i := 12) rfl))) Via.refl e9 fz11_1 (g := (mkF m 36 #[.val (.ref a1), .val (.int (1 : Int32)), .val (.ref a2), .val (.ref a2), .val (.int (5 : Int32)), .val (.int (1 : Int32)), .val (.int d1)] [(.ref a1)])) rfl rfl (hb hby d1_36)
    refine own_by st13 ?_
    show ORun p e below s _ _ _ T13 (mkF m 39 #[.val (.ref a1), .val (.int (1 : Int32)), .val (.ref a2), .val (.ref a2), .val (.int (5 : Int32)), .val (.int (1 : Int32)), .val (.int d1)] [(.ref b2)])
    refine own_by (fun t k => XS.iload X13.here hx rfl (hb hby d1_39) rfl k) ?_
    show ORun p e below s _ _ _ T13 (mkF m 41 #[.val (.ref a1), .val (.int (1 : Int32)), .val (.ref a2), .val (.ref a2), .val (.int (5 : Int32)), .val (.int (1 : Int32)), .val (.int d1)] [(.int d1), (.ref b2)])
    refine own_by (fun t k => XS.iconst X13.here hx rfl (hb hby d1_41) k) ?_
    show ORun p e below s _ _ _ T13 (mkF m 42 #[.val (.ref a1), .val (.int (1 : Int32)), .val (.ref a2), .val (.ref a2), .val (.int (5 : Int32)), .val (.int (1 : Int32)), .val (.int d1)] [(.int (1 : Int32)), (.int d1), (.ref b2)])
    refine own_by (fun t k => XS.iadd X13.here hx rfl (hb hby d1_42) rfl k) (own_letI (f := (fun z => (mkF m 43 #[.val (.ref a1), .val (.int (1 : Int32)), .val (.ref a2), .val (.ref a2), .val (.int (5 : Int32)), .val (.int (1 : Int32)), .val (.int d1)] [(.int z), (.ref b2)]))) (d1 + (1 : Int32)) fun v14 hv14 => ?_)
    show ORun p e below s _ _ _ T13 (mkF m 43 #[.val (.ref a1), .val (.int (1 : Int32)), .val (.ref a2), .val (.ref a2), .val (.int (5 : Int32)), .val (.int (1 : Int32)), .val (.int d1)] [(.int v14), (.ref b2)])
    have r14 := rng32 v14
    have a14 : v14.toInt = d1.toInt + 1 := by
      have q : (v14.toInt - (d1.toInt + 1)) % 4294967296 = 0 := by rw [hv14]; exact c_iadd d1 (1 : Int32)
      omega
    refine own_by (fun t k => XT.dup2 X13.here hx rfl (hb hby d1_43) rfl rfl rfl k) ?_
    show ORun p e below s _ _ _ T13 (mkF m 44 #[.val (.ref a1), .val (.int (1 : Int32)), .val (.ref a2), .val (.ref a2), .val (.int (5 : Int32)), .val (.int (1 : Int32)), .val (.int d1)] [(.int v14), (.ref b2), (.int v14), (.ref b2)])
    refine own_iaload X13 hx hZ e13 V9 (i := v14.toInt.toNat) (by omega) (by omega) (hb hby d1_44) ?_
    intro v15 hv15
    have r15 := rng32 v15
    show ORun p e below s _ _ _ T13 (mkF m 45 #[.val (.ref a1), .val (.int (1 : Int32)), .val (.ref a2), .val (.ref a2), .val (.int (5 : Int32)), .val (.int (1 : Int32)), .val (.int d1)] [(.int v15), (.int v14), (.ref b2)])
    refine own_by (fun t k => XS.iconst X13.here hx rfl (hb hby d1_45) k) ?_
    show ORun p e below s _ _ _ T13 (mkF m 46 #[.val (.ref a1), .val (.int (1 : Int32)), .val (.ref a2), .val (.ref a2), .val (.int (5 : Int32)), .val (.int (1 : Int32)), .val (.int d1)] [(.int (1 : Int32)), (.int v15), (.int v14), (.ref b2)])
    refine own_by (fun t k => XS.iadd X13.here hx rfl (hb hby d1_46) rfl k) (own_letI (f := (fun z => (mkF m 47 #[.val (.ref a1), .val (.int (1 : Int32)), .val (.ref a2), .val (.ref a2), .val (.int (5 : Int32)), .val (.int (1 : Int32)), .val (.int d1)] [(.int z), (.int v14), (.ref b2)]))) (v15 + (1 : Int32)) fun v16 hv16 => ?_)
    show ORun p e below s _ _ _ T13 (mkF m 47 #[.val (.ref a1), .val (.int (1 : Int32)), .val (.ref a2), .val (.ref a2), .val (.int (5 : Int32)), .val (.int (1 : Int32)), .val (.int d1)] [(.int v16), (.int v14), (.ref b2)])
    have a16a : (v16.toInt - (v15.toInt + 1)) % 4294967296 = 0 := by rw [hv16]; exact c_iadd v15 (1 : Int32)
    have r16 := rng32 v16
    refine own_iastore X13 hx hZ e13 V9 (i := v14.toInt.toNat) (by omega) (by omega) (hb hby d1_47) ?_
    intro T17 h17 L17 X17 e17 W17 hL17 V17
    have len17 : L17.length = 2 := by rw [hL17, List.length_set]; exact len9
    have N17 := Fr.snoc X17 N9 old_b2
    show ORun p e below s _ _ _ T17 (mkF m 48 #[.val (.ref a1), .val (.int (1 : Int32)), .val (.ref a2), .val (.ref a2), .val (.int (5 : Int32)), .val (.int (1 : Int32)), .val (.int d1)] [])
    have mb18 : L17 = own_bump L9 d1 := by rw [hL17, hv16, hv15, hv14]; rfl
    clear a14 r14 r15 a16a r16
    have Kz19 : Keep h0 h17 [a1] := (((Keep.refl h0 [a1]).trans Kz11 (allS (Or.inl (List.mem_of_getElem? (i := 0) rfl)) all0)).wr W17 (Or.inr sz_b2))
    have fz19_0 := (fz11_0.wr W17)
    have fz19_1 := (fz11_1.other W17 (Or.inl ne_a1_b2))
    have fz19_2 := (fz11_2.other W17 (Or.inl ne_a1_b2))
    have fz19_3 := (fz11_3.other W17 ne_a2_b2)
    have fz19_5 := (fz11_5.wr W17)
    refine own_by (fun t k => XS.iinc X17.here hx rfl (hb hby d1_48) rfl (l' := #[.val (.ref a1), .val (.int (1 : Int32)), .val (.ref a2), .val (.ref a2), .val (.int (5 : Int32)), .val (.int (2 : Int32)), .val (.int d1)]) rfl k) ?_
    show ORun p e below s _ _ _ T17 (mkF m 51 #[.val (.ref a1), .val (.int (1 : Int32)), .val (.ref a2), .val (.ref a2), .val (.int (5 : Int32)), .val (.int (2 : Int32)), .val (.int d1)] [])
    refine own_by (fun t k => XS.goto X17.here hx rfl (pc0 := 51) (pc' := 22) rfl (hb hby d1_51) (by decide) (by decide) k) ?_
    show ORun p e below s _ _ _ T17 (mkF m 22 #[.val (.ref a1), .val (.int (1 : Int32)), .val (.ref a2), .val (.ref a2), .val (.int (5 : Int32)), .val (.int (2 : Int32)), .val (.int d1)] [])
    refine own_by (fun t k => XS.iload X17.here hx rfl (hb hby d1_22) rfl k) ?_
    show ORun p e below s _ _ _ T17 (mkF m 24 #[.val (.ref a1), .val (.int (1 : Int32)), .val (.ref a2), .val (.ref a2), .val (.int (5 : Int32)), .val (.int (2 : Int32)), .val (.int d1)] [(.int (2 : Int32))])
    refine own_by (fun t k => XS.iload X17.here hx rfl (hb hby d1_24) rfl k) ?_
    show ORun p e below s _ _ _ T17 (mkF m 26 #[.val (.ref a1), .val (.int (1 : Int32)), .val (.ref a2), .val (.ref a2), .val (.int (5 : Int32)), .val (.int (2 : Int32)), .val (.int d1)] [(.int (5 : Int32)), (.int (2 : Int32))])
    refine own_by (fun t k => XS.icmpNo X17.here hx rfl (hb hby d1_26) rfl (tlt (by decide)).2.1 k) ?_
    show ORun p e below s _ _ _ T17 (mkF m 29 #[.val (.ref a1), .val (.int (1 : Int32)), .val (.ref a2), .val (.ref a2), .val (.int (5 : Int32)), .val (.int (2 : Int32)), .val (.int d1)] [])
    refine own_by (fun t k => XS.aloadN X17.here hx rfl (hb hby d1_29) rfl rfl k) ?_
    show ORun p e below s _ _ _ T17 (mkF m 30 #[.val (.ref a1), .val (.int (1 : Int32)), .val (.ref a2), .val (.ref a2), .val (.int (5 : Int32)), .val (.int (2 : Int32)), .val (.int d1)] [(.ref a2)])
    refine own_by (fun t k => XS.iload X17.here hx rfl (hb hby d1_30) rfl k) ?_
    show ORun p e below s _ _ _ T17 (mkF m 32 #[.val (.ref a1), .val (.int (1 : Int32)), .val (.ref a2), .val (.ref a2), .val (.int (5 : Int32)), .val (.int (2 : Int32)), .val (.int d1)] [(.int (2 : Int32)), (.ref a2)])
    refine own_iaload X17 hx hZ e17 fz19_3 (i := 2) (by decide) (by omega) (hb hby d1_32) ?_
    intro v20 hv20
    obtain rfl : d2 = v20 := hv20.symm
    show ORun p e below s _ _ _ T17 (mkF m 33 #[.val (.ref a1), .val (.int (1 : Int32)), .val (.ref a2), .val (.ref a2), .val (.int (5 : Int32)), .val (.int (2 : Int32)), .val (.int d1)] [(.int d2)])
    refine own_by (fun t k => XS.istore X17.here hx rfl (hb hby d1_33) rfl (l' := #[.val (.ref a1), .val (.int (1 : Int32)), .val (.ref a2), .val (.ref a2), .val (.int (5 : Int32)), .val (.int (2 : Int32)), .val (.int d2)]) rfl k) ?_
    show ORun p e below s _ _ _ T17 (mkF m 35 #[.val (.ref a1), .val (.int (1 : Int32)), .val (.ref a2), .val (.ref a2), .val (.int (5 : Int32)), .val (.int (2 : Int32)), .val (.int d2)] [])
    refine own_by (fun t k => XS.aloadN X17.here hx rfl (hb hby d1_35) rfl rfl k) ?_
    show ORun p e below s _ _ _ T17 (mkF m 36 #[.val (.ref a1), .val (.int (1 : Int32)), .val (.ref a2), .val (.ref a2), .val (.int (5 : Int32)), .val (.int (2 : Int32)), .val (.int d2)] [(.ref a1)])
    obtain ⟨T21, X21, e21, st21⟩ := getF X17 hx hZ hown (host := "") (Or.inl (hw _ (List.mem_of_getElem? (i := 12) rfl))) Via.refl e17 fz19_1 (g := (mkF m 36 #[.val (.ref a1), .val (.int (1 : Int32)), .val (.ref a2), .val (.ref a2), .val (.int (5 : Int32)), .val (.int (2 : Int32)), .val (.int d2)] [(.ref a1)])) rfl rfl (hb hby d1_36)
    refine own_by st21 ?_
    show ORun p e below s _ _ _ T21 (mkF m 39 #[.val (.ref a1), .val (.int (1 : Int32)), .val (.ref a2), .val (.ref a2), .val (.int (5 : Int32)), .val (.int (2 : Int32)), .val (.int d2)] [(.ref b2)])
    refine own_by (fun t k => XS.iload X21.here hx rfl (hb hby d1_39) rfl k) ?_
    show ORun p e below s _ _ _ T21 (mkF m 41 #[.val (.ref a1), .val (.int (1 : Int32)), .val (.ref a2), .val (.ref a2), .val (.int (5 : Int32)), .val (.int (2 : Int32)), .val (.int d2)] [(.int d2), (.ref b2)])
    refine own_by (fun t k => XS.iconst X21.here hx rfl (hb hby d1_41) k) ?_
    show ORun p e below s _ _ _ T21 (mkF m 42 #[.val (.ref a1), .val (.int (1 : Int32)), .val (.ref a2), .val (.ref a2), .val (.int (5 : Int32)), .val (.int (2 : Int32)), .val (.int d2)] [(.int (1 : Int32)), (.int d2), (.ref b2)])
    refine own_by (fun t k => XS.iadd X21.here hx rfl (hb hby d1_42) rfl k) (own_letI (f := (fun z => (mkF m 43 #[.val (.ref a1), .val (.int (1 : Int32)), .val (.ref a2), .val (.ref a2), .val (.int (5 : Int32)), .val (.int (2 : Int32)), .val (.int d2)] [(.int z), (.ref b2)]))) (d2 + (1 : Int32)) fun v22 hv22 => ?_)
    show ORun p e below s _ _ _ T21 (mkF m 43 #[.val (.ref a1), .val (.int (1 : Int32)), .val (.ref a2), .val (.ref a2), .val (.int (5 : Int32)), .val (.int (2 : Int32)), .val (.int d2)] [(.int v22), (.ref b2)])
    have r22 := rng32 v22
    have a22 : v22.toInt = d2.toInt + 1 := by
      have q : (v22.toInt - (d2.toInt + 1)) % 4294967296 = 0 := by rw [hv22]; exact c_iadd d2 (1 : Int32)
      omega
    refine own_by (fun t k => XT.dup2 X21.here hx rfl (hb hby d1_43) rfl rfl rfl k) ?_
    show ORun p e below s _ _ _ T21 (mkF m 44 #[.val (.ref a1), .val (.int (1 : Int32)), .val (.ref a2), .val (.ref a2), .val (.int (5 : Int32)), .val (.int (2 : Int32)), .val (.int d2)] [(.int v22), (.ref b2), (.int v22), (.ref b2)])
    refine own_iaload X21 hx hZ e21 V17 (i := v22.toInt.toNat) (by omega) (by omega) (hb hby d1_44) ?_
    intro v23 hv23
    have r23 := rng32 v23
    show ORun p e below s _ _ _ T21 (mkF m 45 #[.val (.ref a1), .val (.int (1 : Int32)), .val (.ref a2), .val (.ref a2), .val (.int (5 : Int32)), .val (.int (2 : Int32)), .val (.int d2)] [(.int v23), (.int v22), (.ref b2)])
    refine own_by (fun t k => XS.iconst X21.here hx rfl (hb hby d1_45) k) ?_
    show ORun p e below s _ _ _ T21 (mkF m 46 #[.val (.ref a1), .val (.int (1 : Int32)), .val (.ref a2), .val (.ref a2), .val (.int (5 : Int32)), .val (.int (2 : Int32)), .val (.int d2)] [(.int (1 : Int32)), (.int v23), (.int v22), (.ref b2)])
    refine own_by (fun t k => XS.iadd X21.here hx rfl (hb hby d1_46) rfl k) (own_letI (f := (fun z => (mkF m 47 #[.val (.ref a1), .val (.int (1 : Int32)), .val (.ref a2), .val (.ref a2), .val (.int (5 : Int32)), .val (.int (2 : Int32)), .val (.int d2)] [(.int z), (.int v22), (.ref b2)]))) (v23 + (1 : Int32)) fun v24 hv24 => ?_)
    show ORun p e below s _ _ _ T21 (mkF m 47 #[.val (.ref a1), .val (.int (1 : Int32)), .val (.ref a2), .val (.ref a2), .val (.int (5 : Int32)), .val (.int (2 : Int32)), .val (.int d2)] [(.int v24), (.int v22), (.ref b2)])
    have a24a : (v24.toInt - (v23.toInt + 1)) % 4294967296 = 0 := by rw [hv24]; exact c_iadd v23 (1 : Int32)
    have r24 := rng32 v24
    refine own_iastore X21 hx hZ e21 V17 (i := v22.toInt.toNat) (by omega) (by omega) (hb hby d1_47) ?_
    intro T25 h25 L25 X25 e25 W25 hL25 V25
    have len25 : L25.length = 2 := by rw [hL25, List.length_set]; exact len17
    have N25 := Fr.snoc X25 N17 old_b2
    show ORun p e below s _ _ _ T25 (mkF m 48 #[.val (.ref a1), .val (.int (1 : Int32)), .val (.ref a2), .val (.ref a2), .val (.int (5 : Int32)), .val (.int (2 : Int32)), .val (.int d2)] [])
    have mb26 : L25 = own_bump L17 d2 := by rw [hL25, hv24, hv23, hv22]; rfl
    clear a22 r22 r23 a24a r24
    have Kz27 : Keep h0 h25 [a1] := (((Keep.refl h0 [a1]).trans Kz19 (allS (Or.inl (List.mem_of_getElem? (i := 0) rfl)) all0)).wr W25 (Or.inr sz_b2))
    have fz27_0 := (fz19_0.wr W25)
    have fz27_1 := (fz19_1.other W25 (Or.inl ne_a1_b2))
    have fz27_2 := (fz19_2.other W25 (Or.inl ne_a1_b2))
    have fz27_3 := (fz19_3.other W25 ne_a2_b2)
    have fz27_5 := (fz19_5.wr W25)
    refine own_by (fun t k => XS.iinc X25.here hx rfl (hb hby d1_48) rfl (l' := #[.val (.ref a1), .val (.int (1 : Int32)), .val (.ref a2), .val (.ref a2), .val (.int (5 : Int32)), .val (.int (3 : Int32)), .val (.int d2)]) rfl k) ?_
    show ORun p e below s _ _ _ T25 (mkF m 51 #[.val (.ref a1), .val (.int (1 : Int32)), .val (.ref a2), .val (.ref a2), .val (.int (5 : Int32)), .val (.int (3 : Int32)), .val (.int d2)] [])
    refine own_by (fun t k => XS.goto X25.here hx rfl (pc0 := 51) (pc' := 22) rfl (hb hby d1_51) (by decide) (by decide) k) ?_
    show ORun p e below s _ _ _ T25 (mkF m 22 #[.val (.ref a1), .val (.int (1 : Int32)), .val (.ref a2), .val (.ref a2), .val (.int (5 : Int32)), .val (.int (3 : Int32)), .val (.int d2)] [])
    refine own_by (fun t k => XS.iload X25.here hx rfl (hb hby d1_22) rfl k) ?_
    show ORun p e below s _ _ _ T25 (mkF m 24 #[.val (.ref a1), .val (.int (1 : Int32)), .val (.ref a2), .val (.ref a2), .val (.int (5 : Int32)), .val (.int (3 : Int32)), .val (.int d2)] [(.int (3 : Int32))])
    refine own_by (fun t k => XS.iload X25.here hx rfl (hb hby d1_24) rfl k) ?_
    show ORun p e below s _ _ _ T25 (mkF m 26 #[.val (.ref a1), .val (.int (1 : Int32)), .val (.ref a2), .val (.ref a2), .val (.int (5 : Int32)), .val (.int (3 : Int32)), .val (.int d2)] [(.int (5 : Int32)), (.int (3 : Int32))])
    refine own_by (fun t k => XS.icmpNo X25.here hx rfl (hb hby d1_26) rfl (tlt (by decide)).2.1 k) ?_
    show ORun p e below s _ _ _ T25 (mkF m 29 #[.val (.ref a1), .val (.int (1 : Int32)), .val (.ref a2), .val (.ref a2), .val (.int (5 : Int32)), .val (.int (3 : Int32)), .val (.int d2)] [])
    refine own_by (fun t k => XS.aloadN X25.here hx rfl (hb hby d1_29) rfl rfl k) ?_
    show ORun p e below s _ _ _ T25 (mkF m 30 #[.val (.ref a1), .val (.int (1 : Int32)), .val (.ref a2), .val (.ref a2), .val (.int (5 : Int32)), .val (.int (3 : Int32)), .val (.int d2)] [(.ref a2)])
    refine own_by (fun t k => XS.iload X25.here hx rfl (hb hby d1_30) rfl k) ?_
    show ORun p e below s _ _ _ T25 (mkF m 32 #[.val (.ref a1), .val (.int (1 : Int32)), .val (.ref a2), .val (.ref a2), .val (.int (5 : Int32)), .val (.int (3 : Int32)), .val (.int d2)] [(.int (3 : Int32)), (.ref a2)])
    refine own_iaload X25 hx hZ e25 fz27_3 (i := 3) (by decide) (by omega) (hb hby d1_32) ?_
    intro v28 hv28
    obtain rfl : d3 = v28 := hv28.symm
    show ORun p e below s _ _ _ T25 (mkF m 33 #[.val (.ref a1), .val (.int (1 : Int32)), .val (.ref a2), .val (.ref a2), .val (.int (5 : Int32)), .val (.int (3 : Int32)), .val (.int d2)] [(.int d3)])
    refine own_by (fun t k => XS.istore X25.here hx rfl (hb hby d1_33) rfl (l' := #[.val (.ref a1), .val (.int (1 : Int32)), .val (.ref a2), .val (.ref a2), .val (.int (5 : Int32)), .val (.int (3 : Int32)), .val (.int d3)]) rfl k) ?_
    show ORun p e below s _ _ _ T25 (mkF m 35 #[.val (.ref a1), .val (.int (1 : Int32)), .val (.ref a2), .val (.ref a2), .val (.int (5 : Int32)), .val (.int (3 : Int32)), .val (.int d3)] [])
    refine own_by (fun t k => XS.aloadN X25.here hx rfl (hb hby d1_35) rfl rfl k) ?_
    show ORun p e below s _ _ _ T25 (mkF m 36 #[.val (.ref a1), .val (.int (1 : Int32)), .val (.ref a2), .val (.ref a2), .val (.int (5 : Int32)), .val (.int (3 : Int32)), .val (.int d3)] [(.ref a1)])
    obtain ⟨T29, X29, e29, st29⟩ := getF X25 hx hZ hown (host := "") (Or.inl (hw _ (List.mem_of_getElem? (i := 12) rfl))) Via.refl e25 fz27_1 (g := (mkF m 36 #[.val (.ref a1), .val (.int (1 : Int32)), .val (.ref a2), .val (.ref a2), .val (.int (5 : Int32)), .val (.int (3 : Int32)), .val (.int d3)] [(.ref a1)])) rfl rfl (hb hby d1_36)
    refine own_by st29 ?_
    show ORun p e below s _ _ _ T29 (mkF m 39 #[.val (.ref a1), .val (.int (1 : Int32)), .val (.ref a2), .val (.ref a2), .val (.int (5 : Int32)), .val (.int (3 : Int32)), .val (.int d3)] [(.ref b2)])
    refine own_by (fun t k => XS.iload X29.here hx rfl (hb hby d1_39) rfl k) ?_
    show ORun p e below s _ _ _ T29 (mkF m 41 #[.val (.ref a1), .val (.int (1 : Int32)), .val (.ref a2), .val (.ref a2), .val (.int (5 : Int32)), .val (.int (3 : Int32)), .val (.int d3)] [(.int d3), (.ref b2)])
    refine own_by (fun t k => XS.iconst X29.here hx rfl (hb hby d1_41) k) ?_
    show ORun p e below s _ _ _ T29 (mkF m 42 #[.val (.ref a1), .val (.int (1 : Int32)), .val (.ref a2), .val (.ref a2), .val (.int (5 : Int32)), .val (.int (3 : Int32)), .val (.int d3)] [(.int (1 : Int32)), (.int d3), (.ref b2)])
    refine own_by (fun t k => XS.iadd X29.here hx rfl (hb hby d1_42) rfl k) (own_letI (f := (fun z => (mkF m 43 #[.val (.ref a1), .val (.int (1 : Int32)), .val (.ref a2), .val (.ref a2), .val (.int (5 : Int32)), .val (.int (3 : Int32)), .val (.int d3)] [(.int z), (.ref b2)]))) (d3 + (1 : Int32)) fun v30 hv30 => ?_)
    show ORun p e below s _ _ _ T29 (mkF m 43 #[.val (.ref a1), .val (.int (1 : Int32)), .val (.ref a2), .val (.ref a2), .val (.int (5 : Int32)), .val (.int (3 : Int32)), .val (.int d3)] [(.int v30), (.ref b2)])
    have r30 := rng32 v30
    have a30 : v30.toInt = d3.toInt + 1 := by
      have q : (v30.toInt - (d3.toInt + 1)) % 4294967296 = 0 := by rw [hv30]; exact c_iadd d3 (1 : Int32)
      omega
    refine own_by (fun t k => XT.dup2 X29.here hx rfl (hb hby d1_43) rfl rfl rfl k) ?_
    show ORun p e below s _ _ _ T29 (mkF m 44 #[.val (.ref a1), .val (.int (1 : Int32)), .val (.ref a2), .val (.ref a2), .val (.int (5 : Int32)), .val (.int (3 : Int32)), .val (.int d3)] [(.int v30), (.ref b2), (.int v30), (.ref b2)])
    refine own_iaload X29 hx hZ e29 V25 (i := v30.toInt.toNat) (by omega) (by omega) (hb hby d1_44) ?_
    intro v31 hv31
    have r31 := rng32 v31
    show ORun p e below s _ _ _ T29 (mkF m 45 #[.val (.ref a1), .val (.int (1 : Int32)), .val (.ref a2), .val (.ref a2), .val (.int (5 : Int32)), .val (.int (3 : Int32)), .val (.int d3)] [(.int v31), (.int v30), (.ref b2)])
    refine own_by (fun t k => XS.iconst X29.here hx rfl (hb hby d1_45) k) ?_
    show ORun p e below s _ _ _ T29 (mkF m 46 #[.val (.ref a1), .val (.int (1 : Int32)), .val (.ref a2), .val (.ref a2), .val (.int (5 : Int32)), .val (.int (3 : Int32)), .val (.int d3)] [(.int (1 : Int32)), (.int v31), (.int v30), (.ref b2)])
    refine own_by (fun t k => XS.iadd X29.here hx rfl (hb hby d1_46) rfl k) (own_letI (f := (fun z => (mkF m 47 #[.val (.ref a1), .val (.int (1 : Int32)), .val (.ref a2), .val (.ref a2), .val (.int (5 : Int32)), .val (.int (3 : Int32)), .val (.int d3)] [(.int z), (.int v30), (.ref b2)]))) (v31 + (1 : Int32)) fun v32 hv32 => ?_)
    show ORun p e below s _ _ _ T29 (mkF m 47 #[.val (.ref a1), .val (.int (1 : Int32)), .val (.ref a2), .val (.ref a2), .val (.int (5 : Int32)), .val (.int (3 : Int32)), .val (.int d3)] [(.int v32), (.int v30), (.ref b2)])
    have a32a : (v32.toInt - (v31.toInt + 1)) % 4294967296 = 0 := by rw [hv32]; exact c_iadd v31 (1 : Int32)
    have r32 := rng32 v32
    refine own_iastore X29 hx hZ e29 V25 (i := v30.toInt.toNat) (by omega) (by omega) (hb hby d1_47) ?_
    intro T33 h33 L33 X33 e33 W33 hL33 V33
    have len33 : L33.length = 2 := by rw [hL33, List.length_set]; exact len25
    have N33 := Fr.snoc X33 N25 old_b2
    show ORun p e below s _ _ _ T33 (mkF m 48 #[.val (.ref a1), .val (.int (1 : Int32)), .val (.ref a2), .val (.ref a2), .val (.int (5 : Int32)), .val (.int (3 : Int32)), .val (.int d3)] [])
    have mb34 : L33 = own_bump L25 d3 := by rw [hL33, hv32, hv31, hv30]; rfl
    clear a30 r30 r31 a32a r32
    have Kz35 : Keep h0 h33 [a1] := (((Keep.refl h0 [a1]).trans Kz27 (allS (Or.inl (List.mem_of_getElem? (i := 0) rfl)) all0)).wr W33 (Or.inr sz_b2))
    have fz35_0 := (fz27_0.wr W33)
    have fz35_1 := (fz27_1.other W33 (Or.inl ne_a1_b2))
    have fz35_2 := (fz27_2.other W33 (Or.inl ne_a1_b2))
    have fz35_3 := (fz27_3.other W33 ne_a2_b2)
    have fz35_5 := (fz27_5.wr W33)
    refine own_by (fun t k => XS.iinc X33.here hx rfl (hb hby d1_48) rfl (l' := #[.val (.ref a1), .val (.int (1 : Int32)), .val (.ref a2), .val (.ref a2), .val (.int (5 : Int32)), .val (.int (4 : Int32)), .val (.int d3)]) rfl k) ?_
    show ORun p e below s _ _ _ T33 (mkF m 51 #[.val (.ref a1), .val (.int (1 : Int32)), .val (.ref a2), .val (.ref a2), .val (.int (5 : Int32)), .val (.int (4 : Int32)), .val (.int d3)] [])
    refine own_by (fun t k => XS.goto X33.here hx rfl (pc0 := 51) (pc' := 22) rfl (hb hby d1_51) (by decide) (by decide) k) ?_
    show ORun p e below s _ _ _ T33 (mkF m 22 #[.val (.ref a1), .val (.int (1 : Int32)), .val (.ref a2), .val (.ref a2), .val (.int (5 : Int32)), .val (.int (4 : Int32)), .val (.int d3)] [])
    refine own_by (fun t k => XS.iload X33.here hx rfl (hb hby d1_22) rfl k) ?_
    show ORun p e below s _ _ _ T33 (mkF m 24 #[.val (.ref a1), .val (.int (1 : Int32)), .val (.ref a2), .val (.ref a2), .val (.int (5 : Int32)), .val (.int (4 : Int32)), .val (.int d3)] [(.int (4 : Int32))])
    refine own_by (fun t k => XS.iload X33.here hx rfl (hb hby d1_24) rfl k) ?_
    show ORun p e below s _ _ _ T33 (mkF m 26 #[.val (.ref a1), .val (.int (1 : Int32)), .val (.ref a2), .val (.ref a2), .val (.int (5 : Int32)), .val (.int (4 : Int32)), .val (.int d3)] [(.int (5 : Int32)), (.int (4 : Int32))])
    refine own_by (fun t k => XS.icmpNo X33.here hx rfl (hb hby d1_26) rfl (tlt (by decide)).2.1 k) ?_
    show ORun p e below s _ _ _ T33 (mkF m 29 #[.val (.ref a1), .val (.int (1 : Int32)), .val (.ref a2), .val (.ref a2), .val (.int (5 : Int32)), .val (.int (4 : Int32)), .val (.int d3)] [])
    refine own_by (fun t k => XS.aloadN X33.here hx rfl (hb hby d1_29) rfl rfl k) ?_
    show ORun p e below s _ _ _ T33 (mkF m 30 #[.val (.ref a1), .val (.int (1 : Int32)), .val (.ref a2), .val (.ref a2), .val (.int (5 : Int32)), .val (.int (4 : Int32)), .val (.int d3)] [(.ref a2)])
    refine own_by (fun t k => XS.iload X33.here hx rfl (hb hby d1_30) rfl k) ?_
    show ORun p e below s _ _ _ T33 (mkF m 32 #[.val (.ref a1), .val (.int (1 : Int32)), .val (.ref a2), .val (.ref a2), .val (.int (5 : Int32)), .val (.int (4 : Int32)), .val (.int d3)] [(.int (4 : Int32)), (.ref a2)])
    refine own_iaload X33 hx hZ e33 fz35_3 (i := 4) (by decide) (by omega) (hb hby d1_32) ?_
    intro v36 hv36
    obtain rfl : d4 = v36 := hv36.symm
    show ORun p e below s _ _ _ T33 (mkF m 33 #[.val (.ref a1), .val (.int (1 : Int32)), .val (.ref a2), .val (.ref a2), .val (.int (5 : Int32)), .val (.int (4 : Int32)), .val (.int d3)] [(.int d4)])
    refine own_by (fun t k => XS.istore X33.here hx rfl (hb hby d1_33) rfl (l' := #[.val (.ref a1), .val (.int (1 : Int32)), .val (.ref a2), .val (.ref a2), .val (.int (5 : Int32)), .val (.int (4 : Int32)), .val (.int d4)]) rfl k) ?_
    show ORun p e below s _ _ _ T33 (mkF m 35 #[.val (.ref a1), .val (.int (1 : Int32)), .val (.ref a2), .val (.ref a2), .val (.int (5 : Int32)), .val (.int (4 : Int32)), .val (.int d4)] [])
    refine own_by (fun t k => XS.aloadN X33.here hx rfl (hb hby d1_35) rfl rfl k) ?_
    show ORun p e below s _ _ _ T33 (mkF m 36 #[.val (.ref a1), .val (.int (1 : Int32)), .val (.ref a2), .val (.ref a2), .val (.int (5 : Int32)), .val (.int (4 : Int32)), .val (.int d4)] [(.ref a1)])
    obtain ⟨T37, X37, e37, st37⟩ := getF X33 hx hZ hown (host := "") (Or.inl (hw _ (List.mem_of_getElem? (i := 12) rfl))) Via.refl e33 fz35_1 (g := (mkF m 36 #[.val (.ref a1), .val (.int (1 : Int32)), .val (.ref a2), .val (.ref a2), .val (.int (5 : Int32)), .val (.int (4 : Int32)), .val (.int d4)] [(.ref a1)])) rfl rfl (hb hby d1_36)
    refine own_by st37 ?_
    show ORun p e below s _ _ _ T37 (mkF m 39 #[.val (.ref a1), .val (.int (1 : Int32)), .val (.ref a2), .val (.ref a2), .val (.int (5 : Int32)), .val (.int (4 : Int32)), .val (.int d4)] [(.ref b2)])
    refine own_by (fun t k => XS.iload X37.here hx rfl (hb hby d1_39) rfl k) ?_
    show ORun p e below s _ _ _ T37 (mkF m 41 #[.val (.ref a1), .val (.int (1 : Int32)), .val (.ref a2), .val (.ref a2), .val (.int (5 : Int32)), .val (.int (4 : Int32)), .val (.int d4)] [(.int d4), (.ref b2)])
    refine own_by (fun t k => XS.iconst X37.here hx rfl (hb hby d1_41) k) ?_
    show ORun p e below s _ _ _ T37 (mkF m 42 #[.val (.ref a1), .val (.int (1 : Int32)), .val (.ref a2), .val (.ref a2), .val (.int (5 : Int32)), .val (.int (4 : Int32)), .val (.int d4)] [(.int (1 : Int32)), (.int d4), (.ref b2)])
    refine own_by (fun t k => XS.iadd X37.here hx rfl (hb hby d1_42) rfl k) (own_letI (f := (fun z => (mkF m 43 #[.val (.ref a1), .val (.int (1 : Int32)), .val (.ref a2), .val (.ref a2), .val (.int (5 : Int32)), .val (.int (4 : Int32)), .val (.int d4)] [(.int z), (.ref b2)]))) (d4 + (1 : Int32)) fun v38 hv38 => ?_)
    show ORun p e below s _ _ _ T37 (mkF m 43 #[.val (.ref a1), .val (.int (1 : Int32)), .val (.ref a2), .val (.ref a2), .val (.int (5 : Int32)), .val (.int (4 : Int32)), .val (.int d4)] [(.int v38), (.ref b2)])
    have r38 := rng32 v38
    have a38 : v38.toInt = d4.toInt + 1 := by
      have q : (v38.toInt - (d4.toInt + 1)) % 4294967296 = 0 := by rw [hv38]; exact c_iadd d4 (1 : Int32)
      omega
    refine own_by (fun t k => XT.dup2 X37.here hx rfl (hb hby d1_43) rfl rfl rfl k) ?_
    show ORun p e below s _ _ _ T37 (mkF m 44 #[.val (.ref a1), .val (.int (1 : Int32)), .val (.ref a2), .val (.ref a2), .val (.int (5 : Int32)), .val (.int (4 : Int32)), .val (.int d4)] [(.int v38), (.ref b2), (.int v38), (.ref b2)])
    refine own_iaload X37 hx hZ e37 V33 (i := v38.toInt.toNat) (by omega) (by omega) (hb hby d1_44) ?_
    intro v39 hv39
    have r39 := rng32 v39
    show ORun p e below s _ _ _ T37 (mkF m 45 #[.val (.ref a1), .val (.int (1 : Int32)), .val (.ref a2), .val (.ref a2), .val (.int (5 : Int32)), .val (.int (4 : Int32)), .val (.int d4)] [(.int v39), (.int v38), (.ref b2)])
    refine own_by (fun t k => XS.iconst X37.here hx rfl (hb hby d1_45) k) ?_
    show ORun p e below s _ _ _ T37 (mkF m 46 #[.val (.ref a1), .val (.int (1 : Int32)), .val (.ref a2), .val (.ref a2), .val (.int (5 : Int32)), .val (.int (4 : Int32)), .val (.int d4)] [(.int (1 : Int32)), (.int v39), (.int v38), (.ref b2)])
    refine own_by (fun t k => XS.iadd X37.here hx rfl (hb hby d1_46) rfl k) (own_letI (f := (fun z => (mkF m 47 #[.val (.ref a1), .val (.int (1 : Int32)), .val (.ref a2), .val (.ref a2), .val (.int (5 : Int32)), .val (.int (4 : Int32)), .val (.int d4)] [(.int z), (.int v38), (.ref b2)]))) (v39 + (1 : Int32)) fun v40 hv40 => ?_)
    show ORun p e below s _ _ _ T37 (mkF m 47 #[.val (.ref a1), .val (.int (1 : Int32)), .val (.ref a2), .val (.ref a2), .val (.int (5 : Int32)), .val (.int (4 : Int32)), .val (.int d4)] [(.int v40), (.int v38), (.ref b2)])
    have a40a : (v40.toInt - (v39.toInt + 1)) % 4294967296 = 0 := by rw [hv40]; exact c_iadd v39 (1 : Int32)
    have r40 := rng32 v40
    refine own_iastore X37 hx hZ e37 V33 (i := v38.toInt.toNat) (by omega) (by omega) (hb hby d1_47) ?_
    intro T41 h41 L41 X41 e41 W41 hL41 V41
    have len41 : L41.length = 2 := by rw [hL41, List.length_set]; exact len33
    have N41 := Fr.snoc X41 N33 old_b2
    show ORun p e below s _ _ _ T41 (mkF m 48 #[.val (.ref a1), .val (.int (1 : Int32)), .val (.ref a2), .val (.ref a2), .val (.int (5 : Int32)), .val (.int (4 : Int32)), .val (.int d4)] [])
    have mb42 : L41 = own_bump L33 d4 := by rw [hL41, hv40, hv39, hv38]; rfl
    clear a38 r38 r39 a40a r40
    have Kz43 : Keep h0 h41 [a1] := (((Keep.refl h0 [a1]).trans Kz35 (allS (Or.inl (List.mem_of_getElem? (i := 0) rfl)) all0)).wr W41 (Or.inr sz_b2))
    have fz43_0 := (fz35_0.wr W41)
    have fz43_1 := (fz35_1.other W41 (Or.inl ne_a1_b2))
    have fz43_2 := (fz35_2.other W41 (Or.inl ne_a1_b2))
    have fz43_3 := (fz35_3.other W41 ne_a2_b2)
    have fz43_5 := (fz35_5.wr W41)
    refine own_by (fun t k => XS.iinc X41.here hx rfl (hb hby d1_48) rfl (l' := #[.val (.ref a1), .val (.int (1 : Int32)), .val (.ref a2), .val (.ref a2), .val (.int (5 : Int32)), .val (.int (5 : Int32)), .val (.int d4)]) rfl k) ?_
    show ORun p e below s _ _ _ T41 (mkF m 51 #[.val (.ref a1), .val (.int (1 : Int32)), .val (.ref a2), .val (.ref a2), .val (.int (5 : Int32)), .val (.int (5 : Int32)), .val (.int d4)] [])
    refine own_by (fun t k => XS.goto X41.here hx rfl (pc0 := 51) (pc' := 22) rfl (hb hby d1_51) (by decide) (by decide) k) ?_
    show ORun p e below s _ _ _ T41 (mkF m 22 #[.val (.ref a1), .val (.int (1 : Int32)), .val (.ref a2), .val (.ref a2), .val (.int (5 : Int32)), .val (.int (5 : Int32)), .val (.int d4)] [])
    refine own_by (fun t k => XS.iload X41.here hx rfl (hb hby d1_22) rfl k) ?_
    show ORun p e below s _ _ _ T41 (mkF m 24 #[.val (.ref a1), .val (.int (1 : Int32)), .val (.ref a2), .val (.ref a2), .val (.int (5 : Int32)), .val (.int (5 : Int32)), .val (.int d4)] [(.int (5 : Int32))])
    refine own_by (fun t k => XS.iload X41.here hx rfl (hb hby d1_24) rfl k) ?_
    show ORun p e below s _ _ _ T41 (mkF m 26 #[.val (.ref a1), .val (.int (1 : Int32)), .val (.ref a2), .val (.ref a2), .val (.int (5 : Int32)), .val (.int (5 : Int32)), .val (.int d4)] [(.int (5 : Int32)), (.int (5 : Int32))])
    refine own_by (fun t k => XS.icmpYes X41.here hx rfl (pc0 := 26) (pc' := 54) rfl (hb hby d1_26) rfl (flt (by decide)).2.1 (by decide) (by decide) k) ?_
    show ORun p e below s _ _ _ T41 (mkF m 54 #[.val (.ref a1), .val (.int (1 : Int32)), .val (.ref a2), .val (.ref a2), .val (.int (5 : Int32)), .val (.int (5 : Int32)), .val (.int d4)] [])
    refine own_by (fun t k => XS.iconst X41.here hx rfl (hb hby d1_54) k) ?_
    show ORun p e below s _ _ _ T41 (mkF m 55 #[.val (.ref a1), .val (.int (1 : Int32)), .val (.ref a2), .val (.ref a2), .val (.int (5 : Int32)), .val (.int (5 : Int32)), .val (.int d4)] [(.int (0 : Int32))])
    refine own_by (fun t k => XS.istoreN X41.here hx rfl (hb hby d1_55) rfl (l' := #[.val (.ref a1), .val (.int (1 : Int32)), .val (.ref a2), .val (.int (0 : Int32)), .val (.int (5 : Int32)), .val (.int (5 : Int32)), .val (.int d4)]) rfl k) ?_
    show ORun p e below s _ _ _ T41 (mkF m 56 #[.val (.ref a1), .val (.int (1 : Int32)), .val (.ref a2), .val (.int (0 : Int32)), .val (.int (5 : Int32)), .val (.int (5 : Int32)), .val (.int d4)] [])
    refine own_by (fun t k => XS.iloadN X41.here hx rfl (hb hby d1_56) rfl k) ?_
    show ORun p e below s _ _ _ T41 (mkF m 57 #[.val (.ref a1), .val (.int (1 : Int32)), .val (.ref a2), .val (.int (0 : Int32)), .val (.int (5 : Int32)), .val (.int (5 : Int32)), .val (.int d4)] [(.int (0 : Int32))])
    refine own_by (fun t k => XS.iloadN X41.here hx rfl (hb hby d1_57) rfl k) ?_
    show ORun p e below s _ _ _ T41 (mkF m 58 #[.val (.ref a1), .val (.int (1 : Int32)), .val (.ref a2), .val (.int (0 : Int32)), .val (.int (5 : Int32)), .val (.int (5 : Int32)), .val (.int d4)] [(.int (1 : Int32)), (.int (0 : Int32))])
    refine own_by (fun t k => XS.icmpNo X41.here hx rfl (hb hby d1_58) rfl (tlt (by decide)).2.1 k) ?_
    show ORun p e below s _ _ _ T41 (mkF m 61 #[.val (.ref a1), .val (.int (1 : Int32)), .val (.ref a2), .val (.int (0 : Int32)), .val (.int (5 : Int32)), .val (.int (5 : Int32)), .val (.int d4)] [])
    refine own_by (fun t k => XS.aloadN X41.here hx rfl (hb hby d1_61) rfl rfl k) ?_
    show ORun p e below s _ _ _ T41 (mkF m 62 #[.val (.ref a1), .val (.int (1 : Int32)), .val (.ref a2), .val (.int (0 : Int32)), .val (.int (5 : Int32)), .val (.int (5 : Int32)), .val (.int d4)] [(.ref a1)])
    obtain ⟨T44, X44, e44, st44⟩ := getF X41 hx hZ hown (host := "") (Or.inl (hw _ (List.mem_of_getElem? (i := 12) rfl))) Via.refl e41 fz43_1 (g := (mkF m 62 #[.val (.ref a1), .val (.int (1 : Int32)), .val (.ref a2), .val (.int (0 : Int32)), .val (.int (5 : Int32)), .val (.int (5 : Int32)), .val (.int d4)] [(.ref a1)])) rfl rfl (hb hby d1_62)
    refine own_by st44 ?_
    show ORun p e below s _ _ _ T44 (mkF m 65 #[.val (.ref a1), .val (.int (1 : Int32)), .val (.ref a2), .val (.int (0 : Int32)), .val (.int (5 : Int32)), .val (.int (5 : Int32)), .val (.int d4)] [(.ref b2)])
    refine own_by (fun t k => XS.iloadN X44.here hx rfl (hb hby d1_65) rfl k) ?_
    show ORun p e below s _ _ _ T44 (mkF m 66 #[.val (.ref a1), .val (.int (1 : Int32)), .val (.ref a2), .val (.int (0 : Int32)), .val (.int (5 : Int32)), .val (.int (5 : Int32)), .val (.int d4)] [(.int (0 : Int32)), (.ref b2)])
    refine own_by (fun t k => XS.iconst X44.here hx rfl (hb hby d1_66) k) ?_
    show ORun p e below s _ _ _ T44 (mkF m 67 #[.val (.ref a1), .val (.int (1 : Int32)), .val (.ref a2), .val (.int (0 : Int32)), .val (.int (5 : Int32)), .val (.int (5 : Int32)), .val (.int d4)] [(.int (1 : Int32)), (.int (0 : Int32)), (.ref b2)])
    refine own_by (fun t k => XS.iadd X44.here hx rfl (hb hby d1_67) rfl k) ?_
    show ORun p e below s _ _ _ T44 (mkF m 68 #[.val (.ref a1), .val (.int (1 : Int32)), .val (.ref a2), .val (.int (0 : Int32)), .val (.int (5 : Int32)), .val (.int (5 : Int32)), .val (.int d4)] [(.int (1 : Int32)), (.ref b2)])
    refine own_by (fun t k => XT.dup2 X44.here hx rfl (hb hby d1_68) rfl rfl rfl k) ?_
    show ORun p e below s _ _ _ T44 (mkF m 69 #[.val (.ref a1), .val (.int (1 : Int32)), .val (.ref a2), .val (.int (0 : Int32)), .val (.int (5 : Int32)), .val (.int (5 : Int32)), .val (.int d4)] [(.int (1 : Int32)), (.ref b2), (.int (1 : Int32)), (.ref b2)])
    refine own_iaload X44 hx hZ e44 V41 (i := 1) (by decide) (by omega) (hb hby d1_69) ?_
    intro v45 hv45
    have r45 := rng32 v45
    show ORun p e below s _ _ _ T44 (mkF m 70 #[.val (.ref a1), .val (.int (1 : Int32)), .val (.ref a2), .val (.int (0 : Int32)), .val (.int (5 : Int32)), .val (.int (5 : Int32)), .val (.int d4)] [(.int v45), (.int (1 : Int32)), (.ref b2)])
    refine own_by (fun t k => XS.aloadN X44.here hx rfl (hb hby d1_70) rfl rfl k) ?_
    show ORun p e below s _ _ _ T44 (mkF m 71 #[.val (.ref a1), .val (.int (1 : Int32)), .val (.ref a2), .val (.int (0 : Int32)), .val (.int (5 : Int32)), .val (.int (5 : Int32)), .val (.int d4)] [(.ref a1), (.int v45), (.int (1 : Int32)), (.ref b2)])
    obtain ⟨T46, X46, e46, st46⟩ := getF X44 hx hZ hown (host := "") (Or.inl (hw _ (List.mem_of_getElem? (i := 12) rfl))) Via.refl e44 fz43_1 (g := (mkF m 71 #[.val (.ref a1), .val (.int (1 : Int32)), .val (.ref a2), .val (.int (0 : Int32)), .val (.int (5 : Int32)), .val (.int (5 : Int32)), .val (.int d4)] [(.ref a1), (.int v45), (.int (1 : Int32)), (.ref b2)])) rfl rfl (hb hby d1_71)
    refine own_by st46 ?_
    show ORun p e below s _ _ _ T46 (mkF m 74 #[.val (.ref a1), .val (.int (1 : Int32)), .val (.ref a2), .val (.int (0 : Int32)), .val (.int (5 : Int32)), .val (.int (5 : Int32)), .val (.int d4)] [(.ref b2), (.int v45), (.int (1 : Int32)), (.ref b2)])
    refine own_by (fun t k => XS.iloadN X46.here hx rfl (hb hby d1_74) rfl k) ?_
    show ORun p e below s _ _ _ T46 (mkF m 75 #[.val (.ref a1), .val (.int (1 : Int32)), .val (.ref a2), .val (.int (0 : Int32)), .val (.int (5 : Int32)), .val (.int (5 : Int32)), .val (.int d4)] [(.int (0 : Int32)), (.ref b2), (.int v45), (.int (1 : Int32)), (.ref b2)])
    refine own_iaload X46 hx hZ e46 V41 (i := 0) (by decide) (by omega) (hb hby d1_75) ?_
    intro v47 hv47
    have r47 := rng32 v47
    show ORun p e below s _ _ _ T46 (mkF m 76 #[.val (.ref a1), .val (.int (1 : Int32)), .val (.ref a2), .val (.int (0 : Int32)), .val (.int (5 : Int32)), .val (.int (5 : Int32)), .val (.int d4)] [(.int v47), (.int v45), (.int (1 : Int32)), (.ref b2)])
    refine own_by (fun t k => XS.iadd X46.here hx rfl (hb hby d1_76) rfl k) (own_letI (f := (fun z => (mkF m 77 #[.val (.ref a1), .val (.int (1 : Int32)), .val (.ref a2), .val (.int (0 : Int32)), .val (.int (5 : Int32)), .val (.int (5 : Int32)), .val (.int d4)] [(.int z), (.int (1 : Int32)), (.ref b2)]))) (v45 + v47) fun v48 hv48 => ?_)
    show ORun p e below s _ _ _ T46 (mkF m 77 #[.val (.ref a1), .val (.int (1 : Int32)), .val (.ref a2), .val (.int (0 : Int32)), .val (.int (5 : Int32)), .val (.int (5 : Int32)), .val (.int d4)] [(.int v48), (.int (1 : Int32)), (.ref b2)])
    have a48a : (v48.toInt - (v45.toInt + v47.toInt)) % 4294967296 = 0 := by rw [hv48]; exact c_iadd v45 v47
    have r48 := rng32 v48
    refine own_iastore X46 hx hZ e46 V41 (i := 1) (by decide) (by omega) (hb hby d1_77) ?_
    intro T49 h49 L49 X49 e49 W49 hL49 V49
    have len49 : L49.length = 2 := by rw [hL49, List.length_set]; exact len41
    have N49 := Fr.snoc X49 N41 old_b2
    show ORun p e below s _ _ _ T49 (mkF m 78 #[.val (.ref a1), .val (.int (1 : Int32)), .val (.ref a2), .val (.int (0 : Int32)), .val (.int (5 : Int32)), .val (.int (5 : Int32)), .val (.int d4)] [])
    have mb50 : L49 = own_acc L41 0 := by rw [hL49, hv48, hv45, hv47]; rfl
    clear r45 r47 a48a r48
    have Kz51 : Keep h0 h49 [a1] := (((Keep.refl h0 [a1]).trans Kz43 (allS (Or.inl (List.mem_of_getElem? (i := 0) rfl)) all0)).wr W49 (Or.inr sz_b2))
    have fz51_0 := (fz43_0.wr W49)
    have fz51_1 := (fz43_1.other W49 (Or.inl ne_a1_b2))
    have fz51_2 := (fz43_2.other W49 (Or.inl ne_a1_b2))
    have fz51_3 := (fz43_3.other W49 ne_a2_b2)
    have fz51_5 := (fz43_5.wr W49)
    refine own_by (fun t k => XS.iinc X49.here hx rfl (hb hby d1_78) rfl (l' := #[.val (.ref a1), .val (.int (1 : Int32)), .val (.ref a2), .val (.int (1 : Int32)), .val (.int (5 : Int32)), .val (.int (5 : Int32)), .val (.int d4)]) rfl k) ?_
    show ORun p e below s _ _ _ T49 (mkF m 81 #[.val (.ref a1), .val (.int (1 : Int32)), .val (.ref a2), .val (.int (1 : Int32)), .val (.int (5 : Int32)), .val (.int (5 : Int32)), .val (.int d4)] [])
    refine own_by (fun t k => XS.goto X49.here hx rfl (pc0 := 81) (pc' := 56) rfl (hb hby d1_81) (by decide) (by decide) k) ?_
    show ORun p e below s _ _ _ T49 (mkF m 56 #[.val (.ref a1), .val (.int (1 : Int32)), .val (.ref a2), .val (.int (1 : Int32)), .val (.int (5 : Int32)), .val (.int (5 : Int32)), .val (.int d4)] [])
    refine own_by (fun t k => XS.iloadN X49.here hx rfl (hb hby d1_56) rfl k) ?_
    show ORun p e below s _ _ _ T49 (mkF m 57 #[.val (.ref a1), .val (.int (1 : Int32)), .val (.ref a2), .val (.int (1 : Int32)), .val (.int (5 : Int32)), .val (.int (5 : Int32)), .val (.int d4)] [(.int (1 : Int32))])
    refine own_by (fun t k => XS.iloadN X49.here hx rfl (hb hby d1_57) rfl k) ?_
    show ORun p e below s _ _ _ T49 (mkF m 58 #[.val (.ref a1), .val (.int (1 : Int32)), .val (.ref a2), .val (.int (1 : Int32)), .val (.int (5 : Int32)), .val (.int (5 : Int32)), .val (.int d4)] [(.int (1 : Int32)), (.int (1 : Int32))])
    refine own_by (fun t k => XS.icmpYes X49.here hx rfl (pc0 := 58) (pc' := 84) rfl (hb hby d1_58) rfl (flt (by decide)).2.1 (by decide) (by decide) k) ?_
    show ORun p e below s _ _ _ T49 (mkF m 84 #[.val (.ref a1), .val (.int (1 : Int32)), .val (.ref a2), .val (.int (1 : Int32)), .val (.int (5 : Int32)), .val (.int (5 : Int32)), .val (.int d4)] [])
    have mS52 : L49 = own_S 1 [d0, d1, d2, d3, d4] := by rw [mb50, mb42, mb34, mb26, mb18, mb10, hL2]; rfl
    refine own_by (fun t k => XS.aloadN X49.here hx rfl (hb hby d1_84) rfl rfl k) ?_
    show ORun p e below s _ _ _ T49 (mkF m 85 #[.val (.ref a1), .val (.int (1 : Int32)), .val (.ref a2), .val (.int (1 : Int32)), .val (.int (5 : Int32)), .val (.int (5 : Int32)), .val (.int d4)] [(.ref a1)])
    refine own_by (fun t k => XS.aloadN X49.here hx rfl (hb hby d1_85) rfl rfl k) ?_
    show ORun p e below s _ _ _ T49 (mkF m 86 #[.val (.ref a1), .val (.int (1 : Int32)), .val (.ref a2), .val (.int (1 : Int32)), .val (.int (5 : Int32)), .val (.int (5 : Int32)), .val (.int d4)] [(.ref a2), (.ref a1)])
    refine own_len X49 hx hZ e49 fz51_3 (n := 5) lds (hb hby d1_86) ?_
    show ORun p e below s _ _ _ T49 (mkF m 87 #[.val (.ref a1), .val (.int (1 : Int32)), .val (.ref a2), .val (.int (1 : Int32)), .val (.int (5 : Int32)), .val (.int (5 : Int32)), .val (.int d4)] [(.int (5 : Int32)), (.ref a1)])
    refine own_newarray X49 hx hZ (aty := .int) (hw _ (List.mem_of_getElem? (i := 1) rfl)) e49 rfl (N := 5) (cap := 5) (by decide) (Nat.le_refl _) (by decide) (by decide) (by decide) (ad := "[I") (by decide) (hb hby d1_87) ?_
    intro T53 h53 b53 L53 g53 X53 e53 E53 hL53 V53 Ex53
    have len53 : L53.length = 5 := by rw [hL53]; exact List.length_replicate
    have old_b53 : n0 ≤ b53 := Nat.le_trans (Nat.le_trans Z0 Kz51.1) (Nat.le_of_eq g53.symm)
    have sz_b53 : h0.size ≤ b53 := Nat.le_trans (Nat.le_trans (Nat.le_refl h0.size) Kz51.1) (Nat.le_of_eq g53.symm)
    have ne_a1_b53 : a1 ≠ b53 := Nat.ne_of_lt (Nat.lt_of_lt_of_le fz51_0.lt (Nat.le_of_eq g53.symm))
    have ne_a2_b53 : a2 ≠ b53 := Nat.ne_of_lt (Nat.lt_of_lt_of_le fz51_3.lt (Nat.le_of_eq g53.symm))
    have ne_b2_b53 : b2 ≠ b53 := Nat.ne_of_lt (Nat.lt_of_lt_of_le V49.lt (Nat.le_of_eq g53.symm))
    show ORun p e below s _ _ _ T53 (mkF m 89 #[.val (.ref a1), .val (.int (1 : Int32)), .val (.ref a2), .val (.int (1 : Int32)), .val (.int (5 : Int32)), .val (.int (5 : Int32)), .val (.int d4)] [(.ref b53), (.ref a1)])
    obtain ⟨T54, h54, X54, e54, W54, st54⟩ := putF X53 hx hZ hown (host := "") (Or.inl (hw _ (List.mem_of_getElem? (i := 14) rfl))) Via.refl e53 (fz51_2.ext E53) (fz51_0.ext E53) (Or.inr ⟨(hw _ (List.mem_of_getElem? (i := 15) rfl)), rfl, hnm⟩) (hw _ (List.mem_of_getElem? (i := 4) rfl)) (ty := (.array .int)) (by decide) rfl rfl (g := (mkF m 89 #[.val (.ref a1), .val (.int (1 : Int32)), .val (.ref a2), .val (.int (1 : Int32)), .val (.int (5 : Int32)), .val (.int (5 : Int32)), .val (.int d4)] [(.ref b53), (.ref a1)])) rfl rfl (hb hby d1_89)
    have Fw54 := Fld.same W54 (fz51_2.ext E53)
    have N54 := Fr.snoc X54 N49 g_a1
    refine own_by st54 ?_
    show ORun p e below s _ _ _ T54 (mkF m 92 #[.val (.ref a1), .val (.int (1 : Int32)), .val (.ref a2), .val (.int (1 : Int32)), .val (.int (5 : Int32)), .val (.int (5 : Int32)), .val (.int d4)] [])
    refine own_by (fun t k => XS.aloadN X54.here hx rfl (hb hby d1_92) rfl rfl k) ?_
    show ORun p e below s _ _ _ T54 (mkF m 93 #[.val (.ref a1), .val (.int (1 : Int32)), .val (.ref a2), .val (.int (1 : Int32)), .val (.int (5 : Int32)), .val (.int (5 : Int32)), .val (.int d4)] [(.ref a1)])
    obtain ⟨T55, X55, e55, st55⟩ := getF X54 hx hZ hown (host := "") (Or.inl (hw _ (List.mem_of_getElem? (i := 12) rfl))) Via.refl e54 ((fz51_1.ext E53).other W54 (Or.inr (slot_ne (Or.inr (hw _ (List.mem_of_getElem? (i := 13) rfl))) (Or.inr (hw _ (List.mem_of_getElem? (i := 15) rfl))) (by decide) (t := (.array .int)) (t' := (.array .int)) (by decide) (by decide)))) (g := (mkF m 93 #[.val (.ref a1), .val (.int (1 : Int32)), .val (.ref a2), .val (.int (1 : Int32)), .val (.int (5 : Int32)), .val (.int (5 : Int32)), .val (.int d4)] [(.ref a1)])) rfl rfl (hb hby d1_93)
    refine own_by st55 ?_
    show ORun p e below s _ _ _ T55 (mkF m 96 #[.val (.ref a1), .val (.int (1 : Int32)), .val (.ref a2), .val (.int (1 : Int32)), .val (.int (5 : Int32)), .val (.int (5 : Int32)), .val (.int d4)] [(.ref b2)])
    refine own_by (fun t k => XS.iloadN X55.here hx rfl (hb hby d1_96) rfl k) ?_
    show ORun p e below s _ _ _ T55 (mkF m 97 #[.val (.ref a1), .val (.int (1 : Int32)), .val (.ref a2), .val (.int (1 : Int32)), .val (.int (5 : Int32)), .val (.int (5 : Int32)), .val (.int d4)] [(.int (1 : Int32)), (.ref b2)])
    refine own_callS X55 hx hZ hown (hw _ (List.mem_of_getElem? (i := 16) rfl)) (hw _ (List.mem_of_getElem? (i := 17) rfl)) (hw _ (List.mem_of_getElem? (i := 18) rfl)) (hw _ (List.mem_of_getElem? (i := 19) rfl)) (by decide) (rm3 l Z a0 hw [] h54 n0 (Nat.le_trans (Nat.le_trans (Nat.le_trans Z0 Kz51.1) E53.1) (Keep.of_wr W54).1) b2 (1 : Int32) L49 2 1 ((V49.ext E53).other W54 (Ne.symm ne_a1_b2)) len49 (by decide) (by omega)) e55 (by decide) (W := 0) (by decide) (by decide) (by decide) (argsL := [(.ref b2), (.int (1 : Int32))]) (rest := []) (by rw [hml]; rfl) (lenOf pd_3 rfl) rfl rfl (Nat.le_of_eq rfl) (hb hby d1_97) ?_
    intro T56 L56 u56 X56 hQ56
    obtain ⟨o56, rfl, Nq56, K56, sz_q56, Vq56⟩ := hQ56
    have N56 := Fr.app N54 Nq56
    have sz_o56 : h0.size ≤ o56 := Nat.le_trans (Nat.le_trans (Nat.le_trans (Nat.le_trans (Nat.le_refl h0.size) Kz51.1) E53.1) (Keep.of_wr W54).1) sz_q56
    have old_o56 : n0 ≤ o56 := Nat.le_trans Z0 sz_o56
    have ne_a1_o56 : a1 ≠ o56 := Nat.ne_of_lt (Nat.lt_of_lt_of_le ((fz51_0.ext E53).wr W54).lt sz_q56)
    have ne_a2_o56 : a2 ≠ o56 := Nat.ne_of_lt (Nat.lt_of_lt_of_le ((fz51_3.ext E53).other W54 (Ne.symm ne12)).lt sz_q56)
    have ne_b2_o56 : b2 ≠ o56 := Nat.ne_of_lt (Nat.lt_of_lt_of_le ((V49.ext E53).other W54 (Ne.symm ne_a1_b2)).lt sz_q56)
    have ne_b53_o56 : b53 ≠ o56 := Nat.ne_of_lt (Nat.lt_of_lt_of_le (V53.other W54 (Ne.symm ne_a1_b53)).lt sz_q56)
    obtain ⟨L56, hL56⟩ : ∃ z, z = L49.take 1 := ⟨_, rfl⟩
    rw [← hL56] at Vq56
    have len56 : L56.length = 1 := by rw [hL56, List.length_take]; omega
    have mN56 : L56 = own_N 1 [d0, d1, d2, d3, d4] 0 := by rw [hL56, mS52]; show _ = (own_S 1 [d0, d1, d2, d3, d4]).take 1; rfl
    show ORun p e below s _ _ _ T56 (mkF m 100 #[.val (.ref a1), .val (.int (1 : Int32)), .val (.ref a2), .val (.int (1 : Int32)), .val (.int (5 : Int32)), .val (.int (5 : Int32)), .val (.int d4)] [(.ref o56)])
    refine own_by (fun t k => XS.astoreN X56.here hx rfl (hb hby d1_100) rfl rfl (l' := #[.val (.ref a1), .val (.int (1 : Int32)), .val (.ref a2), .val (.ref o56), .val (.int (5 : Int32)), .val (.int (5 : Int32)), .val (.int d4)]) rfl k) ?_
    show ORun p e below s _ _ _ T56 (mkF m 101 #[.val (.ref a1), .val (.int (1 : Int32)), .val (.ref a2), .val (.ref o56), .val (.int (5 : Int32)), .val (.int (5 : Int32)), .val (.int d4)] [])
    refine own_by (fun t k => XS.iconst X56.here hx rfl (hb hby d1_101) k) ?_
    show ORun p e below s _ _ _ T56 (mkF m 102 #[.val (.ref a1), .val (.int (1 : Int32)), .val (.ref a2), .val (.ref o56), .val (.int (5 : Int32)), .val (.int (5 : Int32)), .val (.int d4)] [(.int (0 : Int32))])
    refine own_by (fun t k => XS.istore X56.here hx rfl (hb hby d1_102) rfl (l' := #[.val (.ref a1), .val (.int (1 : Int32)), .val (.ref a2), .val (.ref o56), .val (.int (0 : Int32)), .val (.int (5 : Int32)), .val (.int d4)]) rfl k) ?_
    show ORun p e below s _ _ _ T56 (mkF m 104 #[.val (.ref a1), .val (.int (1 : Int32)), .val (.ref a2), .val (.ref o56), .val (.int (0 : Int32)), .val (.int (5 : Int32)), .val (.int d4)] [])
    refine own_by (fun t k => XS.iload X56.here hx rfl (hb hby d1_104) rfl k) ?_
    show ORun p e below s _ _ _ T56 (mkF m 106 #[.val (.ref a1), .val (.int (1 : Int32)), .val (.ref a2), .val (.ref o56), .val (.int (0 : Int32)), .val (.int (5 : Int32)), .val (.int d4)] [(.int (0 : Int32))])
    refine own_by (fun t k => XS.aloadN X56.here hx rfl (hb hby d1_106) rfl rfl k) ?_
    show ORun p e below s _ _ _ T56 (mkF m 107 #[.val (.ref a1), .val (.int (1 : Int32)), .val (.ref a2), .val (.ref o56), .val (.int (0 : Int32)), .val (.int (5 : Int32)), .val (.int d4)] [(.ref a2), (.int (0 : Int32))])
    refine own_len X56 hx hZ rfl (((fz51_3.ext E53).other W54 (Ne.symm ne12)).keep K56 nin0) (n := 5) lds (hb hby d1_107) ?_
    show ORun p e below s _ _ _ T56 (mkF m 108 #[.val (.ref a1), .val (.int (1 : Int32)), .val (.ref a2), .val (.ref o56), .val (.int (0 : Int32)), .val (.int (5 : Int32)), .val (.int d4)] [(.int (5 : Int32)), (.int (0 : Int32))])
    refine own_by (fun t k => XS.icmpNo X56.here hx rfl (hb hby d1_108) rfl (tlt (by decide)).2.1 k) ?_
    show ORun p e below s _ _ _ T56 (mkF m 111 #[.val (.ref a1), .val (.int (1 : Int32)), .val (.ref a2), .val (.ref o56), .val (.int (0 : Int32)), .val (.int (5 : Int32)), .val (.int d4)] [])
    refine own_by (fun t k => XS.aloadN X56.here hx rfl (hb hby d1_111) rfl rfl k) ?_
    show ORun p e below s _ _ _ T56 (mkF m 112 #[.val (.ref a1), .val (.int (1 : Int32)), .val (.ref a2), .val (.ref o56), .val (.int (0 : Int32)), .val (.int (5 : Int32)), .val (.int d4)] [(.ref a1)])
    obtain ⟨T57, X57, e57, st57⟩ := getF X56 hx hZ hown (host := "") (Or.inl (hw _ (List.mem_of_getElem? (i := 14) rfl))) Via.refl rfl (Fw54.keep K56 nin0) (g := (mkF m 112 #[.val (.ref a1), .val (.int (1 : Int32)), .val (.ref a2), .val (.ref o56), .val (.int (0 : Int32)), .val (.int (5 : Int32)), .val (.int d4)] [(.ref a1)])) rfl rfl (hb hby d1_112)
    refine own_by st57 ?_
    show ORun p e below s _ _ _ T57 (mkF m 115 #[.val (.ref a1), .val (.int (1 : Int32)), .val (.ref a2), .val (.ref o56), .val (.int (0 : Int32)), .val (.int (5 : Int32)), .val (.int d4)] [(.ref b53)])
    refine own_by (fun t k => XS.aloadN X57.here hx rfl (hb hby d1_115) rfl rfl k) ?_
    show ORun p e below s _ _ _ T57 (mkF m 116 #[.val (.ref a1), .val (.int (1 : Int32)), .val (.ref a2), .val (.ref o56), .val (.int (0 : Int32)), .val (.int (5 : Int32)), .val (.int d4)] [(.ref o56), (.ref b53)])
    refine own_by (fun t k => XS.aloadN X57.here hx rfl (hb hby d1_116) rfl rfl k) ?_
    show ORun p e below s _ _ _ T57 (mkF m 117 #[.val (.ref a1), .val (.int (1 : Int32)), .val (.ref a2), .val (.ref o56), .val (.int (0 : Int32)), .val (.int (5 : Int32)), .val (.int d4)] [(.ref a2), (.ref o56), (.ref b53)])
    refine own_by (fun t k => XS.iload X57.here hx rfl (hb hby d1_117) rfl k) ?_
    show ORun p e below s _ _ _ T57 (mkF m 119 #[.val (.ref a1), .val (.int (1 : Int32)), .val (.ref a2), .val (.ref o56), .val (.int (0 : Int32)), .val (.int (5 : Int32)), .val (.int d4)] [(.int (0 : Int32)), (.ref a2), (.ref o56), (.ref b53)])
    refine own_iaload X57 hx hZ e57 (((fz51_3.ext E53).other W54 (Ne.symm ne12)).keep K56 nin0) (i := 0) (by decide) (by omega) (hb hby d1_119) ?_
    intro v58 hv58
    obtain rfl : d0 = v58 := hv58.symm
    show ORun p e below s _ _ _ T57 (mkF m 120 #[.val (.ref a1), .val (.int (1 : Int32)), .val (.ref a2), .val (.ref o56), .val (.int (0 : Int32)), .val (.int (5 : Int32)), .val (.int d4)] [(.int d0), (.ref o56), (.ref b53)])
    refine own_iaload X57 hx hZ e57 Vq56 (i := d0.toInt.toNat) (by omega) (by omega) (hb hby d1_120) ?_
    intro v59 hv59
    have r59 := rng32 v59
    show ORun p e below s _ _ _ T57 (mkF m 121 #[.val (.ref a1), .val (.int (1 : Int32)), .val (.ref a2), .val (.ref o56), .val (.int (0 : Int32)), .val (.int (5 : Int32)), .val (.int d4)] [(.int v59), (.ref b53)])
    have mp60 : v59 = own_pos 1 [d0, d1, d2, d3, d4] 0 := by rw [hv59, mN56]; show _ = (own_N 1 [d0, d1, d2, d3, d4] 0).getD (([d0, d1, d2, d3, d4] : List Int32).getD 0 0).toInt.toNat 0; rfl
    have bp60 := own_Ppos PP 0 (by decide)
    rw [← mp60] at bp60
    refine own_by (fun t k => XS.iload X57.here hx rfl (hb hby d1_121) rfl k) ?_
    show ORun p e below s _ _ _ T57 (mkF m 123 #[.val (.ref a1), .val (.int (1 : Int32)), .val (.ref a2), .val (.ref o56), .val (.int (0 : Int32)), .val (.int (5 : Int32)), .val (.int d4)] [(.int (0 : Int32)), (.int v59), (.ref b53)])
    refine own_iastore X57 hx hZ e57 ((V53.other W54 (Ne.symm ne_a1_b53)).keep K56 nin0) (i := v59.toInt.toNat) (by omega) (by omega) (hb hby d1_123) ?_
    intro T61 h61 L61 X61 e61 W61 hL61 V61
    have len61 : L61.length = 5 := by rw [hL61, List.length_set]; exact len53
    have N61 := Fr.snoc X61 N56 old_b53
    show ORun p e below s _ _ _ T61 (mkF m 124 #[.val (.ref a1), .val (.int (1 : Int32)), .val (.ref a2), .val (.ref o56), .val (.int (0 : Int32)), .val (.int (5 : Int32)), .val (.int d4)] [])
    have mE62 : L53 = own_Dk 1 [d0, d1, d2, d3, d4] 0 := by rw [hL53]; rfl
    have mF62 : L61 = own_Dk 1 [d0, d1, d2, d3, d4] 1 := by rw [hL61, mp60, mE62]; show _ = (own_Dk 1 [d0, d1, d2, d3, d4] 0).set (own_pos 1 [d0, d1, d2, d3, d4] 0).toInt.toNat (Int32.ofNat 0); rfl
    refine own_by (fun t k => XS.aloadN X61.here hx rfl (hb hby d1_124) rfl rfl k) ?_
    show ORun p e below s _ _ _ T61 (mkF m 125 #[.val (.ref a1), .val (.int (1 : Int32)), .val (.ref a2), .val (.ref o56), .val (.int (0 : Int32)), .val (.int (5 : Int32)), .val (.int d4)] [(.ref o56)])
    refine own_by (fun t k => XS.aloadN X61.here hx rfl (hb hby d1_125) rfl rfl k) ?_
    show ORun p e below s _ _ _ T61 (mkF m 126 #[.val (.ref a1), .val (.int (1 : Int32)), .val (.ref a2), .val (.ref o56), .val (.int (0 : Int32)), .val (.int (5 : Int32)), .val (.int d4)] [(.ref a2), (.ref o56)])
    refine own_by (fun t k => XS.iload X61.here hx rfl (hb hby d1_126) rfl k) ?_
    show ORun p e below s _ _ _ T61 (mkF m 128 #[.val (.ref a1), .val (.int (1 : Int32)), .val (.ref a2), .val (.ref o56), .val (.int (0 : Int32)), .val (.int (5 : Int32)), .val (.int d4)] [(.int (0 : Int32)), (.ref a2), (.ref o56)])
    refine own_iaload X61 hx hZ e61 ((((fz51_3.ext E53).other W54 (Ne.symm ne12)).keep K56 nin0).other W61 ne_a2_b53) (i := 0) (by decide) (by omega) (hb hby d1_128) ?_
    intro v63 hv63
    obtain rfl : d0 = v63 := hv63.symm
    show ORun p e below s _ _ _ T61 (mkF m 129 #[.val (.ref a1), .val (.int (1 : Int32)), .val (.ref a2), .val (.ref o56), .val (.int (0 : Int32)), .val (.int (5 : Int32)), .val (.int d4)] [(.int d0), (.ref o56)])
    refine own_by (fun t k => XT.dup2 X61.here hx rfl (hb hby d1_129) rfl rfl rfl k) ?_
    show ORun p e below s _ _ _ T61 (mkF m 130 #[.val (.ref a1), .val (.int (1 : Int32)), .val (.ref a2), .val (.ref o56), .val (.int (0 : Int32)), .val (.int (5 : Int32)), .val (.int d4)] [(.int d0), (.ref o56), (.int d0), (.ref o56)])
    refine own_iaload X61 hx hZ e61 (Vq56.other W61 (Ne.symm ne_b53_o56)) (i := d0.toInt.toNat) (by omega) (by omega) (hb hby d1_130) ?_
    intro v64 hv64
    have r64 := rng32 v64
    show ORun p e below s _ _ _ T61 (mkF m 131 #[.val (.ref a1), .val (.int (1 : Int32)), .val (.ref a2), .val (.ref o56), .val (.int (0 : Int32)), .val (.int (5 : Int32)), .val (.int d4)] [(.int v64), (.int d0), (.ref o56)])
    refine own_by (fun t k => XS.iconst X61.here hx rfl (hb hby d1_131) k) ?_
    show ORun p e below s _ _ _ T61 (mkF m 132 #[.val (.ref a1), .val (.int (1 : Int32)), .val (.ref a2), .val (.ref o56), .val (.int (0 : Int32)), .val (.int (5 : Int32)), .val (.int d4)] [(.int (1 : Int32)), (.int v64), (.int d0), (.ref o56)])
    refine own_by (fun t k => XS.iadd X61.here hx rfl (hb hby d1_132) rfl k) (own_letI (f := (fun z => (mkF m 133 #[.val (.ref a1), .val (.int (1 : Int32)), .val (.ref a2), .val (.ref o56), .val (.int (0 : Int32)), .val (.int (5 : Int32)), .val (.int d4)] [(.int z), (.int d0), (.ref o56)]))) (v64 + (1 : Int32)) fun v65 hv65 => ?_)
    show ORun p e below s _ _ _ T61 (mkF m 133 #[.val (.ref a1), .val (.int (1 : Int32)), .val (.ref a2), .val (.ref o56), .val (.int (0 : Int32)), .val (.int (5 : Int32)), .val (.int d4)] [(.int v65), (.int d0), (.ref o56)])
    have a65a : (v65.toInt - (v64.toInt + 1)) % 4294967296 = 0 := by rw [hv65]; exact c_iadd v64 (1 : Int32)
    have r65 := rng32 v65
    refine own_iastore X61 hx hZ e61 (Vq56.other W61 (Ne.symm ne_b53_o56)) (i := d0.toInt.toNat) (by omega) (by omega) (hb hby d1_133) ?_
    intro T66 h66 L66 X66 e66 W66 hL66 V66
    have len66 : L66.length = 1 := by rw [hL66, List.length_set]; exact len56
    have N66 := Fr.snoc X66 N61 old_o56
    show ORun p e below s _ _ _ T66 (mkF m 134 #[.val (.ref a1), .val (.int (1 : Int32)), .val (.ref a2), .val (.ref o56), .val (.int (0 : Int32)), .val (.int (5 : Int32)), .val (.int d4)] [])
    have mN67 : L66 = own_N 1 [d0, d1, d2, d3, d4] 1 := by rw [hL66, hv65, hv64, mN56]; show _ = (own_N 1 [d0, d1, d2, d3, d4] 0).set (([d0, d1, d2, d3, d4] : List Int32).getD 0 0).toInt.toNat ((own_N 1 [d0, d1, d2, d3, d4] 0).getD (([d0, d1, d2, d3, d4] : List Int32).getD 0 0).toInt.toNat 0 + 1); rfl
    clear r59 bp60 r64 a65a r65
    have Kz68 : Keep h0 h66 [a1] := (((((((Keep.refl h0 [a1]).trans Kz51 (allS (Or.inl (List.mem_of_getElem? (i := 0) rfl)) all0)).ext E53).wr W54 (Or.inl (List.mem_of_getElem? (i := 0) rfl))).trans K56 all0).wr W61 (Or.inr sz_b53)).wr W66 (Or.inr sz_o56))
    have fz68_0 := (((((fz51_0.ext E53).wr W54).keep K56).wr W61).wr W66)
    have fz68_1 := (((((fz51_1.ext E53).other W54 (Or.inr (slot_ne (Or.inr (hw _ (List.mem_of_getElem? (i := 13) rfl))) (Or.inr (hw _ (List.mem_of_getElem? (i := 15) rfl))) (by decide) (t := (.array .int)) (t' := (.array .int)) (by decide) (by decide)))).keep K56 nin0).other W61 (Or.inl ne_a1_b53)).other W66 (Or.inl ne_a1_o56))
    have fz68_2 := (((Fw54.keep K56 nin0).other W61 (Or.inl ne_a1_b53)).other W66 (Or.inl ne_a1_o56))
    have fz68_3 := (((((fz51_3.ext E53).other W54 (Ne.symm ne12)).keep K56 nin0).other W61 ne_a2_b53).other W66 ne_a2_o56)
    have fz68_4 := (((((V49.ext E53).other W54 (Ne.symm ne_a1_b2)).keep K56 nin0).other W61 ne_b2_b53).other W66 ne_b2_o56)
    have fz68_5 := (((((fz51_5.ext E53).wr W54).keep K56).wr W61).wr W66)
    have fz68_6 := (V61.other W66 ne_b53_o56)
    have fz68_7 := ((((Ex53.wr W54).keep K56).wr W61).wr W66)
    refine own_by (fun t k => XS.iinc X66.here hx rfl (hb hby d1_134) rfl (l' := #[.val (.ref a1), .val (.int (1 : Int32)), .val (.ref a2), .val (.ref o56), .val (.int (1 : Int32)), .val (.int (5 : Int32)), .val (.int d4)]) rfl k) ?_
    show ORun p e below s _ _ _ T66 (mkF m 137 #[.val (.ref a1), .val (.int (1 : Int32)), .val (.ref a2), .val (.ref o56), .val (.int (1 : Int32)), .val (.int (5 : Int32)), .val (.int d4)] [])
    refine own_by (fun t k => XS.goto X66.here hx rfl (pc0 := 137) (pc' := 104) rfl (hb hby d1_137) (by decide) (by decide) k) ?_
    show ORun p e below s _ _ _ T66 (mkF m 104 #[.val (.ref a1), .val (.int (1 : Int32)), .val (.ref a2), .val (.ref o56), .val (.int (1 : Int32)), .val (.int (5 : Int32)), .val (.int d4)] [])
    refine own_by (fun t k => XS.iload X66.here hx rfl (hb hby d1_104) rfl k) ?_
    show ORun p e below s _ _ _ T66 (mkF m 106 #[.val (.ref a1), .val (.int (1 : Int32)), .val (.ref a2), .val (.ref o56), .val (.int (1 : Int32)), .val (.int (5 : Int32)), .val (.int d4)] [(.int (1 : Int32))])
    refine own_by (fun t k => XS.aloadN X66.here hx rfl (hb hby d1_106) rfl rfl k) ?_
    show ORun p e below s _ _ _ T66 (mkF m 107 #[.val (.ref a1), .val (.int (1 : Int32)), .val (.ref a2), .val (.ref o56), .val (.int (1 : Int32)), .val (.int (5 : Int32)), .val (.int d4)] [(.ref a2), (.int (1 : Int32))])
    refine own_len X66 hx hZ e66 fz68_3 (n := 5) lds (hb hby d1_107) ?_
    show ORun p e below s _ _ _ T66 (mkF m 108 #[.val (.ref a1), .val (.int (1 : Int32)), .val (.ref a2), .val (.ref o56), .val (.int (1 : Int32)), .val (.int (5 : Int32)), .val (.int d4)] [(.int (5 : Int32)), (.int (1 : Int32))])
    refine own_by (fun t k => XS.icmpNo X66.here hx rfl (hb hby d1_108) rfl (tlt (by decide)).2.1 k) ?_
    show ORun p e below s _ _ _ T66 (mkF m 111 #[.val (.ref a1), .val (.int (1 : Int32)), .val (.ref a2), .val (.ref o56), .val (.int (1 : Int32)), .val (.int (5 : Int32)), .val (.int d4)] [])
    refine own_by (fun t k => XS.aloadN X66.here hx rfl (hb hby d1_111) rfl rfl k) ?_
    show ORun p e below s _ _ _ T66 (mkF m 112 #[.val (.ref a1), .val (.int (1 : Int32)), .val (.ref a2), .val (.ref o56), .val (.int (1 : Int32)), .val (.int (5 : Int32)), .val (.int d4)] [(.ref a1)])
    obtain ⟨T69, X69, e69, st69⟩ := getF X66 hx hZ hown (host := "") (Or.inl (hw _ (List.mem_of_getElem? (i := 14) rfl))) Via.refl e66 fz68_2 (g := (mkF m 112 #[.val (.ref a1), .val (.int (1 : Int32)), .val (.ref a2), .val (.ref o56), .val (.int (1 : Int32)), .val (.int (5 : Int32)), .val (.int d4)] [(.ref a1)])) rfl rfl (hb hby d1_112)
    refine own_by st69 ?_
    show ORun p e below s _ _ _ T69 (mkF m 115 #[.val (.ref a1), .val (.int (1 : Int32)), .val (.ref a2), .val (.ref o56), .val (.int (1 : Int32)), .val (.int (5 : Int32)), .val (.int d4)] [(.ref b53)])
    refine own_by (fun t k => XS.aloadN X69.here hx rfl (hb hby d1_115) rfl rfl k) ?_
    show ORun p e below s _ _ _ T69 (mkF m 116 #[.val (.ref a1), .val (.int (1 : Int32)), .val (.ref a2), .val (.ref o56), .val (.int (1 : Int32)), .val (.int (5 : Int32)), .val (.int d4)] [(.ref o56), (.ref b53)])
    refine own_by (fun t k => XS.aloadN X69.here hx rfl (hb hby d1_116) rfl rfl k) ?_
    show ORun p e below s _ _ _ T69 (mkF m 117 #[.val (.ref a1), .val (.int (1 : Int32)), .val (.ref a2), .val (.ref o56), .val (.int (1 : Int32)), .val (.int (5 : Int32)), .val (.int d4)] [(.ref a2), (.ref o56), (.ref b53)])
    refine own_by (fun t k => XS.iload X69.here hx rfl (hb hby d1_117) rfl k) ?_
    show ORun p e below s _ _ _ T69 (mkF m 119 #[.val (.ref a1), .val (.int (1 : Int32)), .val (.ref a2), .val (.ref o56), .val (.int (1 : Int32)), .val (.int (5 : Int32)), .val (.int d4)] [(.int (1 : Int32)), (.ref a2), (.ref o56), (.ref b53)])
    refine own_iaload X69 hx hZ e69 fz68_3 (i := 1) (by decide) (by omega) (hb hby d1_119) ?_
    intro v70 hv70
    obtain rfl : d1 = v70 := hv70.symm
    show ORun p e below s _ _ _ T69 (mkF m 120 #[.val (.ref a1), .val (.int (1 : Int32)), .val (.ref a2), .val (.ref o56), .val (.int (1 : Int32)), .val (.int (5 : Int32)), .val (.int d4)] [(.int d1), (.ref o56), (.ref b53)])
    refine own_iaload X69 hx hZ e69 V66 (i := d1.toInt.toNat) (by omega) (by omega) (hb hby d1_120) ?_
    intro v71 hv71
    have r71 := rng32 v71
    show ORun p e below s _ _ _ T69 (mkF m 121 #[.val (.ref a1), .val (.int (1 : Int32)), .val (.ref a2), .val (.ref o56), .val (.int (1 : Int32)), .val (.int (5 : Int32)), .val (.int d4)] [(.int v71), (.ref b53)])
    have mp72 : v71 = own_pos 1 [d0, d1, d2, d3, d4] 1 := by rw [hv71, mN67]; show _ = (own_N 1 [d0, d1, d2, d3, d4] 1).getD (([d0, d1, d2, d3, d4] : List Int32).getD 1 0).toInt.toNat 0; rfl
    have bp72 := own_Ppos PP 1 (by decide)
    rw [← mp72] at bp72
    refine own_by (fun t k => XS.iload X69.here hx rfl (hb hby d1_121) rfl k) ?_
    show ORun p e below s _ _ _ T69 (mkF m 123 #[.val (.ref a1), .val (.int (1 : Int32)), .val (.ref a2), .val (.ref o56), .val (.int (1 : Int32)), .val (.int (5 : Int32)), .val (.int d4)] [(.int (1 : Int32)), (.int v71), (.ref b53)])
    refine own_iastore X69 hx hZ e69 fz68_6 (i := v71.toInt.toNat) (by omega) (by omega) (hb hby d1_123) ?_
    intro T73 h73 L73 X73 e73 W73 hL73 V73
    have len73 : L73.length = 5 := by rw [hL73, List.length_set]; exact len61
    have N73 := Fr.snoc X73 N66 old_b53
    show ORun p e below s _ _ _ T73 (mkF m 124 #[.val (.ref a1), .val (.int (1 : Int32)), .val (.ref a2), .val (.ref o56), .val (.int (1 : Int32)), .val (.int (5 : Int32)), .val (.int d4)] [])
    have mF74 : L73 = own_Dk 1 [d0, d1, d2, d3, d4] 2 := by rw [hL73, mp72, mF62]; show _ = (own_Dk 1 [d0, d1, d2, d3, d4] 1).set (own_pos 1 [d0, d1, d2, d3, d4] 1).toInt.toNat (Int32.ofNat 1); rfl
    refine own_by (fun t k => XS.aloadN X73.here hx rfl (hb hby d1_124) rfl rfl k) ?_
    show ORun p e below s _ _ _ T73 (mkF m 125 #[.val (.ref a1), .val (.int (1 : Int32)), .val (.ref a2), .val (.ref o56), .val (.int (1 : Int32)), .val (.int (5 : Int32)), .val (.int d4)] [(.ref o56)])
    refine own_by (fun t k => XS.aloadN X73.here hx rfl (hb hby d1_125) rfl rfl k) ?_
    show ORun p e below s _ _ _ T73 (mkF m 126 #[.val (.ref a1), .val (.int (1 : Int32)), .val (.ref a2), .val (.ref o56), .val (.int (1 : Int32)), .val (.int (5 : Int32)), .val (.int d4)] [(.ref a2), (.ref o56)])
    refine own_by (fun t k => XS.iload X73.here hx rfl (hb hby d1_126) rfl k) ?_
    show ORun p e below s _ _ _ T73 (mkF m 128 #[.val (.ref a1), .val (.int (1 : Int32)), .val (.ref a2), .val (.ref o56), .val (.int (1 : Int32)), .val (.int (5 : Int32)), .val (.int d4)] [(.int (1 : Int32)), (.ref a2), (.ref o56)])
    refine own_iaload X73 hx hZ e73 (fz68_3.other W73 ne_a2_b53) (i := 1) (by decide) (by omega) (hb hby d1_128) ?_
    intro v75 hv75
    obtain rfl : d1 = v75 := hv75.symm
    show ORun p e below s _ _ _ T73 (mkF m 129 #[.val (.ref a1), .val (.int (1 : Int32)), .val (.ref a2), .val (.ref o56), .val (.int (1 : Int32)), .val (.int (5 : Int32)), .val (.int d4)] [(.int d1), (.ref o56)])
    refine own_by (fun t k => XT.dup2 X73.here hx rfl (hb hby d1_129) rfl rfl rfl k) ?_
    show ORun p e below s _ _ _ T73 (mkF m 130 #[.val (.ref a1), .val (.int (1 : Int32)), .val (.ref a2), .val (.ref o56), .val (.int (1 : Int32)), .val (.int (5 : Int32)), .val (.int d4)] [(.int d1), (.ref o56), (.int d1), (.ref o56)])
    refine own_iaload X73 hx hZ e73 (V66.other W73 (Ne.symm ne_b53_o56)) (i := d1.toInt.toNat) (by omega) (by omega) (hb hby d1_130) ?_
    intro v76 hv76
    have r76 := rng32 v76
    show ORun p e below s _ _ _ T73 (mkF m 131 #[.val (.ref a1), .val (.int (1 : Int32)), .val (.ref a2), .val (.ref o56), .val (.int (1 : Int32)), .val (.int (5 : Int32)), .val (.int d4)] [(.int v76), (.int d1), (.ref o56)])
    refine own_by (fun t k => XS.iconst X73.here hx rfl (hb hby d1_131) k) ?_
    show ORun p e below s _ _ _ T73 (mkF m 132 #[.val (.ref a1), .val (.int (1 : Int32)), .val (.ref a2), .val (.ref o56), .val (.int (1 : Int32)), .val (.int (5 : Int32)), .val (.int d4)] [(.int (1 : Int32)), (.int v76), (.int d1), (.ref o56)])
    refine own_by (fun t k => XS.iadd X73.here hx rfl (hb hby d1_132) rfl k) (own_letI (f := (fun z => (mkF m 133 #[.val (.ref a1), .val (.int (1 : Int32)), .val (.ref a2), .val (.ref o56), .val (.int (1 : Int32)), .val (.int (5 : Int32)), .val (.int d4)] [(.int z), (.int d1), (.ref o56)]))) (v76 + (1 : Int32)) fun v77 hv77 => ?_)
    show ORun p e below s _ _ _ T73 (mkF m 133 #[.val (.ref a1), .val (.int (1 : Int32)), .val (.ref a2), .val (.ref o56), .val (.int (1 : Int32)), .val (.int (5 : Int32)), .val (.int d4)] [(.int v77), (.int d1), (.ref o56)])
    have a77a : (v77.toInt - (v76.toInt + 1)) % 4294967296 = 0 := by rw [hv77]; exact c_iadd v76 (1 : Int32)
    have r77 := rng32 v77
    refine own_iastore X73 hx hZ e73 (V66.other W73 (Ne.symm ne_b53_o56)) (i := d1.toInt.toNat) (by omega) (by omega) (hb hby d1_133) ?_
    intro T78 h78 L78 X78 e78 W78 hL78 V78
    have len78 : L78.length = 1 := by rw [hL78, List.length_set]; exact len66
    have N78 := Fr.snoc X78 N73 old_o56
    show ORun p e below s _ _ _ T78 (mkF m 134 #[.val (.ref a1), .val (.int (1 : Int32)), .val (.ref a2), .val (.ref o56), .val (.int (1 : Int32)), .val (.int (5 : Int32)), .val (.int d4)] [])
    have mN79 : L78 = own_N 1 [d0, d1, d2, d3, d4] 2 := by rw [hL78, hv77, hv76, mN67]; show _ = (own_N 1 [d0, d1, d2, d3, d4] 1).set (([d0, d1, d2, d3, d4] : List Int32).getD 1 0).toInt.toNat ((own_N 1 [d0, d1, d2, d3, d4] 1).getD (([d0, d1, d2, d3, d4] : List Int32).getD 1 0).toInt.toNat 0 + 1); rfl
    clear r71 bp72 r76 a77a r77
    have Kz80 : Keep h0 h78 [a1] := ((((Keep.refl h0 [a1]).trans Kz68 (allS (Or.inl (List.mem_of_getElem? (i := 0) rfl)) all0)).wr W73 (Or.inr sz_b53)).wr W78 (Or.inr sz_o56))
    have fz80_0 := ((fz68_0.wr W73).wr W78)
    have fz80_1 := ((fz68_1.other W73 (Or.inl ne_a1_b53)).other W78 (Or.inl ne_a1_o56))
    have fz80_2 := ((fz68_2.other W73 (Or.inl ne_a1_b53)).other W78 (Or.inl ne_a1_o56))
    have fz80_3 := ((fz68_3.other W73 ne_a2_b53).other W78 ne_a2_o56)
    have fz80_4 := ((fz68_4.other W73 ne_b2_b53).other W78 ne_b2_o56)
    have fz80_5 := ((fz68_5.wr W73).wr W78)
    have fz80_6 := (V73.other W78 ne_b53_o56)
    have fz80_7 := ((fz68_7.wr W73).wr W78)
    refine own_by (fun t k => XS.iinc X78.here hx rfl (hb hby d1_134) rfl (l' := #[.val (.ref a1), .val (.int (1 : Int32)), .val (.ref a2), .val (.ref o56), .val (.int (2 : Int32)), .val (.int (5 : Int32)), .val (.int d4)]) rfl k) ?_
    show ORun p e below s _ _ _ T78 (mkF m 137 #[.val (.ref a1), .val (.int (1 : Int32)), .val (.ref a2), .val (.ref o56), .val (.int (2 : Int32)), .val (.int (5 : Int32)), .val (.int d4)] [])
    refine own_by (fun t k => XS.goto X78.here hx rfl (pc0 := 137) (pc' := 104) rfl (hb hby d1_137) (by decide) (by decide) k) ?_
    show ORun p e below s _ _ _ T78 (mkF m 104 #[.val (.ref a1), .val (.int (1 : Int32)), .val (.ref a2), .val (.ref o56), .val (.int (2 : Int32)), .val (.int (5 : Int32)), .val (.int d4)] [])
    refine own_by (fun t k => XS.iload X78.here hx rfl (hb hby d1_104) rfl k) ?_
    show ORun p e below s _ _ _ T78 (mkF m 106 #[.val (.ref a1), .val (.int (1 : Int32)), .val (.ref a2), .val (.ref o56), .val (.int (2 : Int32)), .val (.int (5 : Int32)), .val (.int d4)] [(.int (2 : Int32))])
    refine own_by (fun t k => XS.aloadN X78.here hx rfl (hb hby d1_106) rfl rfl k) ?_
    show ORun p e below s _ _ _ T78 (mkF m 107 #[.val (.ref a1), .val (.int (1 : Int32)), .val (.ref a2), .val (.ref o56), .val (.int (2 : Int32)), .val (.int (5 : Int32)), .val (.int d4)] [(.ref a2), (.int (2 : Int32))])
    refine own_len X78 hx hZ e78 fz80_3 (n := 5) lds (hb hby d1_107) ?_
    show ORun p e below s _ _ _ T78 (mkF m 108 #[.val (.ref a1), .val (.int (1 : Int32)), .val (.ref a2), .val (.ref o56), .val (.int (2 : Int32)), .val (.int (5 : Int32)), .val (.int d4)] [(.int (5 : Int32)), (.int (2 : Int32))])
    refine own_by (fun t k => XS.icmpNo X78.here hx rfl (hb hby d1_108) rfl (tlt (by decide)).2.1 k) ?_
    show ORun p e below s _ _ _ T78 (mkF m 111 #[.val (.ref a1), .val (.int (1 : Int32)), .val (.ref a2), .val (.ref o56), .val (.int (2 : Int32)), .val (.int (5 : Int32)), .val (.int d4)] [])
    refine own_by (fun t k => XS.aloadN X78.here hx rfl (hb hby d1_111) rfl rfl k) ?_
    show ORun p e below s _ _ _ T78 (mkF m 112 #[.val (.ref a1), .val (.int (1 : Int32)), .val (.ref a2), .val (.ref o56), .val (.int (2 : Int32)), .val (.int (5 : Int32)), .val (.int d4)] [(.ref a1)])
    obtain ⟨T81, X81, e81, st81⟩ := getF X78 hx hZ hown (host := "") (Or.inl (hw _ (List.mem_of_getElem? (i := 14) rfl))) Via.refl e78 fz80_2 (g := (mkF m 112 #[.val (.ref a1), .val (.int (1 : Int32)), .val (.ref a2), .val (.ref o56), .val (.int (2 : Int32)), .val (.int (5 : Int32)), .val (.int d4)] [(.ref a1)])) rfl rfl (hb hby d1_112)
    refine own_by st81 ?_
    show ORun p e below s _ _ _ T81 (mkF m 115 #[.val (.ref a1), .val (.int (1 : Int32)), .val (.ref a2), .val (.ref o56), .val (.int (2 : Int32)), .val (.int (5 : Int32)), .val (.int d4)] [(.ref b53)])
    refine own_by (fun t k => XS.aloadN X81.here hx rfl (hb hby d1_115) rfl rfl k) ?_
    show ORun p e below s _ _ _ T81 (mkF m 116 #[.val (.ref a1), .val (.int (1 : Int32)), .val (.ref a2), .val (.ref o56), .val (.int (2 : Int32)), .val (.int (5 : Int32)), .val (.int d4)] [(.ref o56), (.ref b53)])
    refine own_by (fun t k => XS.aloadN X81.here hx rfl (hb hby d1_116) rfl rfl k) ?_
    show ORun p e below s _ _ _ T81 (mkF m 117 #[.val (.ref a1), .val (.int (1 : Int32)), .val (.ref a2), .val (.ref o56), .val (.int (2 : Int32)), .val (.int (5 : Int32)), .val (.int d4)] [(.ref a2), (.ref o56), (.ref b53)])
    refine own_by (fun t k => XS.iload X81.here hx rfl (hb hby d1_117) rfl k) ?_
    show ORun p e below s _ _ _ T81 (mkF m 119 #[.val (.ref a1), .val (.int (1 : Int32)), .val (.ref a2), .val (.ref o56), .val (.int (2 : Int32)), .val (.int (5 : Int32)), .val (.int d4)] [(.int (2 : Int32)), (.ref a2), (.ref o56), (.ref b53)])
    refine own_iaload X81 hx hZ e81 fz80_3 (i := 2) (by decide) (by omega) (hb hby d1_119) ?_
    intro v82 hv82
    obtain rfl : d2 = v82 := hv82.symm
    show ORun p e below s _ _ _ T81 (mkF m 120 #[.val (.ref a1), .val (.int (1 : Int32)), .val (.ref a2), .val (.ref o56), .val (.int (2 : Int32)), .val (.int (5 : Int32)), .val (.int d4)] [(.int d2), (.ref o56), (.ref b53)])
    refine own_iaload X81 hx hZ e81 V78 (i := d2.toInt.toNat) (by omega) (by omega) (hb hby d1_120) ?_
    intro v83 hv83
    have r83 := rng32 v83
    show ORun p e below s _ _ _ T81 (mkF m 121 #[.val (.ref a1), .val (.int (1 : Int32)), .val (.ref a2), .val (.ref o56), .val (.int (2 : Int32)), .val (.int (5 : Int32)), .val (.int d4)] [(.int v83), (.ref b53)])
    have mp84 : v83 = own_pos 1 [d0, d1, d2, d3, d4] 2 := by rw [hv83, mN79]; show _ = (own_N 1 [d0, d1, d2, d3, d4] 2).getD (([d0, d1, d2, d3, d4] : List Int32).getD 2 0).toInt.toNat 0; rfl
    have bp84 := own_Ppos PP 2 (by decide)
    rw [← mp84] at bp84
    refine own_by (fun t k => XS.iload X81.here hx rfl (hb hby d1_121) rfl k) ?_
    show ORun p e below s _ _ _ T81 (mkF m 123 #[.val (.ref a1), .val (.int (1 : Int32)), .val (.ref a2), .val (.ref o56), .val (.int (2 : Int32)), .val (.int (5 : Int32)), .val (.int d4)] [(.int (2 : Int32)), (.int v83), (.ref b53)])
    refine own_iastore X81 hx hZ e81 fz80_6 (i := v83.toInt.toNat) (by omega) (by omega) (hb hby d1_123) ?_
    intro T85 h85 L85 X85 e85 W85 hL85 V85
    have len85 : L85.length = 5 := by rw [hL85, List.length_set]; exact len73
    have N85 := Fr.snoc X85 N78 old_b53
    show ORun p e below s _ _ _ T85 (mkF m 124 #[.val (.ref a1), .val (.int (1 : Int32)), .val (.ref a2), .val (.ref o56), .val (.int (2 : Int32)), .val (.int (5 : Int32)), .val (.int d4)] [])
    have mF86 : L85 = own_Dk 1 [d0, d1, d2, d3, d4] 3 := by rw [hL85, mp84, mF74]; show _ = (own_Dk 1 [d0, d1, d2, d3, d4] 2).set (own_pos 1 [d0, d1, d2, d3, d4] 2).toInt.toNat (Int32.ofNat 2); rfl
    refine own_by (fun t k => XS.aloadN X85.here hx rfl (hb hby d1_124) rfl rfl k) ?_
    show ORun p e below s _ _ _ T85 (mkF m 125 #[.val (.ref a1), .val (.int (1 : Int32)), .val (.ref a2), .val (.ref o56), .val (.int (2 : Int32)), .val (.int (5 : Int32)), .val (.int d4)] [(.ref o56)])
    refine own_by (fun t k => XS.aloadN X85.here hx rfl (hb hby d1_125) rfl rfl k) ?_
    show ORun p e below s _ _ _ T85 (mkF m 126 #[.val (.ref a1), .val (.int (1 : Int32)), .val (.ref a2), .val (.ref o56), .val (.int (2 : Int32)), .val (.int (5 : Int32)), .val (.int d4)] [(.ref a2), (.ref o56)])
    refine own_by (fun t k => XS.iload X85.here hx rfl (hb hby d1_126) rfl k) ?_
    show ORun p e below s _ _ _ T85 (mkF m 128 #[.val (.ref a1), .val (.int (1 : Int32)), .val (.ref a2), .val (.ref o56), .val (.int (2 : Int32)), .val (.int (5 : Int32)), .val (.int d4)] [(.int (2 : Int32)), (.ref a2), (.ref o56)])
    refine own_iaload X85 hx hZ e85 (fz80_3.other W85 ne_a2_b53) (i := 2) (by decide) (by omega) (hb hby d1_128) ?_
    intro v87 hv87
    obtain rfl : d2 = v87 := hv87.symm
    show ORun p e below s _ _ _ T85 (mkF m 129 #[.val (.ref a1), .val (.int (1 : Int32)), .val (.ref a2), .val (.ref o56), .val (.int (2 : Int32)), .val (.int (5 : Int32)), .val (.int d4)] [(.int d2), (.ref o56)])
    refine own_by (fun t k => XT.dup2 X85.here hx rfl (hb hby d1_129) rfl rfl rfl k) ?_
    show ORun p e below s _ _ _ T85 (mkF m 130 #[.val (.ref a1), .val (.int (1 : Int32)), .val (.ref a2), .val (.ref o56), .val (.int (2 : Int32)), .val (.int (5 : Int32)), .val (.int d4)] [(.int d2), (.ref o56), (.int d2), (.ref o56)])
    refine own_iaload X85 hx hZ e85 (V78.other W85 (Ne.symm ne_b53_o56)) (i := d2.toInt.toNat) (by omega) (by omega) (hb hby d1_130) ?_
    intro v88 hv88
    have r88 := rng32 v88
    show ORun p e below s _ _ _ T85 (mkF m 131 #[.val (.ref a1), .val (.int (1 : Int32)), .val (.ref a2), .val (.ref o56), .val (.int (2 : Int32)), .val (.int (5 : Int32)), .val (.int d4)] [(.int v88), (.int d2), (.ref o56)])
    refine own_by (fun t k => XS.iconst X85.here hx rfl (hb hby d1_131) k) ?_
    show ORun p e below s _ _ _ T85 (mkF m 132 #[.val (.ref a1), .val (.int (1 : Int32)), .val (.ref a2), .val (.ref o56), .val (.int (2 : Int32)), .val (.int (5 : Int32)), .val (.int d4)] [(.int (1 : Int32)), (.int v88), (.int d2), (.ref o56)])
    refine own_by (fun t k => XS.iadd X85.here hx rfl (hb hby d1_132) rfl k) (own_letI (f := (fun z => (mkF m 133 #[.val (.ref a1), .val (.int (1 : Int32)), .val (.ref a2), .val (.ref o56), .val (.int (2 : Int32)), .val (.int (5 : Int32)), .val (.int d4)] [(.int z), (.int d2), (.ref o56)]))) (v88 + (1 : Int32)) fun v89 hv89 => ?_)
    show ORun p e below s _ _ _ T85 (mkF m 133 #[.val (.ref a1), .val (.int (1 : Int32)), .val (.ref a2), .val (.ref o56), .val (.int (2 : Int32)), .val (.int (5 : Int32)), .val (.int d4)] [(.int v89), (.int d2), (.ref o56)])
    have a89a : (v89.toInt - (v88.toInt + 1)) % 4294967296 = 0 := by rw [hv89]; exact c_iadd v88 (1 : Int32)
    have r89 := rng32 v89
    refine own_iastore X85 hx hZ e85 (V78.other W85 (Ne.symm ne_b53_o56)) (i := d2.toInt.toNat) (by omega) (by omega) (hb hby d1_133) ?_
    intro T90 h90 L90 X90 e90 W90 hL90 V90
    have len90 : L90.length = 1 := by rw [hL90, List.length_set]; exact len78
    have N90 := Fr.snoc X90 N85 old_o56
    show ORun p e below s _ _ _ T90 (mkF m 134 #[.val (.ref a1), .val (.int (1 : Int32)), .val (.ref a2), .val (.ref o56), .val (.int (2 : Int32)), .val (.int (5 : Int32)), .val (.int d4)] [])
    have mN91 : L90 = own_N 1 [d0, d1, d2, d3, d4] 3 := by rw [hL90, hv89, hv88, mN79]; show _ = (own_N 1 [d0, d1, d2, d3, d4] 2).set (([d0, d1, d2, d3, d4] : List Int32).getD 2 0).toInt.toNat ((own_N 1 [d0, d1, d2, d3, d4] 2).getD (([d0, d1, d2, d3, d4] : List Int32).getD 2 0).toInt.toNat 0 + 1); rfl
    clear r83 bp84 r88 a89a r89
    have Kz92 : Keep h0 h90 [a1] := ((((Keep.refl h0 [a1]).trans Kz80 (allS (Or.inl (List.mem_of_getElem? (i := 0) rfl)) all0)).wr W85 (Or.inr sz_b53)).wr W90 (Or.inr sz_o56))
    have fz92_0 := ((fz80_0.wr W85).wr W90)
    have fz92_1 := ((fz80_1.other W85 (Or.inl ne_a1_b53)).other W90 (Or.inl ne_a1_o56))
    have fz92_2 := ((fz80_2.other W85 (Or.inl ne_a1_b53)).other W90 (Or.inl ne_a1_o56))
    have fz92_3 := ((fz80_3.other W85 ne_a2_b53).other W90 ne_a2_o56)
    have fz92_4 := ((fz80_4.other W85 ne_b2_b53).other W90 ne_b2_o56)
    have fz92_5 := ((fz80_5.wr W85).wr W90)
    have fz92_6 := (V85.other W90 ne_b53_o56)
    have fz92_7 := ((fz80_7.wr W85).wr W90)
    refine own_by (fun t k => XS.iinc X90.here hx rfl (hb hby d1_134) rfl (l' := #[.val (.ref a1), .val (.int (1 : Int32)), .val (.ref a2), .val (.ref o56), .val (.int (3 : Int32)), .val (.int (5 : Int32)), .val (.int d4)]) rfl k) ?_
    show ORun p e below s _ _ _ T90 (mkF m 137 #[.val (.ref a1), .val (.int (1 : Int32)), .val (.ref a2), .val (.ref o56), .val (.int (3 : Int32)), .val (.int (5 : Int32)), .val (.int d4)] [])
    refine own_by (fun t k => XS.goto X90.here hx rfl (pc0 := 137) (pc' := 104) rfl (hb hby d1_137) (by decide) (by decide) k) ?_
    show ORun p e below s _ _ _ T90 (mkF m 104 #[.val (.ref a1), .val (.int (1 : Int32)), .val (.ref a2), .val (.ref o56), .val (.int (3 : Int32)), .val (.int (5 : Int32)), .val (.int d4)] [])
    refine own_by (fun t k => XS.iload X90.here hx rfl (hb hby d1_104) rfl k) ?_
    show ORun p e below s _ _ _ T90 (mkF m 106 #[.val (.ref a1), .val (.int (1 : Int32)), .val (.ref a2), .val (.ref o56), .val (.int (3 : Int32)), .val (.int (5 : Int32)), .val (.int d4)] [(.int (3 : Int32))])
    refine own_by (fun t k => XS.aloadN X90.here hx rfl (hb hby d1_106) rfl rfl k) ?_
    show ORun p e below s _ _ _ T90 (mkF m 107 #[.val (.ref a1), .val (.int (1 : Int32)), .val (.ref a2), .val (.ref o56), .val (.int (3 : Int32)), .val (.int (5 : Int32)), .val (.int d4)] [(.ref a2), (.int (3 : Int32))])
    refine own_len X90 hx hZ e90 fz92_3 (n := 5) lds (hb hby d1_107) ?_
    show ORun p e below s _ _ _ T90 (mkF m 108 #[.val (.ref a1), .val (.int (1 : Int32)), .val (.ref a2), .val (.ref o56), .val (.int (3 : Int32)), .val (.int (5 : Int32)), .val (.int d4)] [(.int (5 : Int32)), (.int (3 : Int32))])
    refine own_by (fun t k => XS.icmpNo X90.here hx rfl (hb hby d1_108) rfl (tlt (by decide)).2.1 k) ?_
    show ORun p e below s _ _ _ T90 (mkF m 111 #[.val (.ref a1), .val (.int (1 : Int32)), .val (.ref a2), .val (.ref o56), .val (.int (3 : Int32)), .val (.int (5 : Int32)), .val (.int d4)] [])
    refine own_by (fun t k => XS.aloadN X90.here hx rfl (hb hby d1_111) rfl rfl k) ?_
    show ORun p e below s _ _ _ T90 (mkF m 112 #[.val (.ref a1), .val (.int (1 : Int32)), .val (.ref a2), .val (.ref o56), .val (.int (3 : Int32)), .val (.int (5 : Int32)), .val (.int d4)] [(.ref a1)])
    obtain ⟨T93, X93, e93, st93⟩ := getF X90 hx hZ hown (host := "") (Or.inl (hw _ (List.mem_of_getElem? (i := 14) rfl))) Via.refl e90 fz92_2 (g := (mkF m 112 #[.val (.ref a1), .val (.int (1 : Int32)), .val (.ref a2), .val (.ref o56), .val (.int (3 : Int32)), .val (.int (5 : Int32)), .val (.int d4)] [(.ref a1)])) rfl rfl (hb hby d1_112)
    refine own_by st93 ?_
    show ORun p e below s _ _ _ T93 (mkF m 115 #[.val (.ref a1), .val (.int (1 : Int32)), .val (.ref a2), .val (.ref o56), .val (.int (3 : Int32)), .val (.int (5 : Int32)), .val (.int d4)] [(.ref b53)])
    refine own_by (fun t k => XS.aloadN X93.here hx rfl (hb hby d1_115) rfl rfl k) ?_
    show ORun p e below s _ _ _ T93 (mkF m 116 #[.val (.ref a1), .val (.int (1 : Int32)), .val (.ref a2), .val (.ref o56), .val (.int (3 : Int32)), .val (.int (5 : Int32)), .val (.int d4)] [(.ref o56), (.ref b53)])
    refine own_by (fun t k => XS.aloadN X93.here hx rfl (hb hby d1_116) rfl rfl k) ?_
    show ORun p e below s _ _ _ T93 (mkF m 117 #[.val (.ref a1), .val (.int (1 : Int32)), .val (.ref a2), .val (.ref o56), .val (.int (3 : Int32)), .val (.int (5 : Int32)), .val (.int d4)] [(.ref a2), (.ref o56), (.ref b53)])
    refine own_by (fun t k => XS.iload X93.here hx rfl (hb hby d1_117) rfl k) ?_
    show ORun p e below s _ _ _ T93 (mkF m 119 #[.val (.ref a1), .val (.int (1 : Int32)), .val (.ref a2), .val (.ref o56), .val (.int (3 : Int32)), .val (.int (5 : Int32)), .val (.int d4)] [(.int (3 : Int32)), (.ref a2), (.ref o56), (.ref b53)])
    refine own_iaload X93 hx hZ e93 fz92_3 (i := 3) (by decide) (by omega) (hb hby d1_119) ?_
    intro v94 hv94
    obtain rfl : d3 = v94 := hv94.symm
    show ORun p e below s _ _ _ T93 (mkF m 120 #[.val (.ref a1), .val (.int (1 : Int32)), .val (.ref a2), .val (.ref o56), .val (.int (3 : Int32)), .val (.int (5 : Int32)), .val (.int d4)] [(.int d3), (.ref o56), (.ref b53)])
    refine own_iaload X93 hx hZ e93 V90 (i := d3.toInt.toNat) (by omega) (by omega) (hb hby d1_120) ?_
    intro v95 hv95
    have r95 := rng32 v95
    show ORun p e below s _ _ _ T93 (mkF m 121 #[.val (.ref a1), .val (.int (1 : Int32)), .val (.ref a2), .val (.ref o56), .val (.int (3 : Int32)), .val (.int (5 : Int32)), .val (.int d4)] [(.int v95), (.ref b53)])
    have mp96 : v95 = own_pos 1 [d0, d1, d2, d3, d4] 3 := by rw [hv95, mN91]; show _ = (own_N 1 [d0, d1, d2, d3, d4] 3).getD (([d0, d1, d2, d3, d4] : List Int32).getD 3 0).toInt.toNat 0; rfl
    have bp96 := own_Ppos PP 3 (by decide)
    rw [← mp96] at bp96
    refine own_by (fun t k => XS.iload X93.here hx rfl (hb hby d1_121) rfl k) ?_
    show ORun p e below s _ _ _ T93 (mkF m 123 #[.val (.ref a1), .val (.int (1 : Int32)), .val (.ref a2), .val (.ref o56), .val (.int (3 : Int32)), .val (.int (5 : Int32)), .val (.int d4)] [(.int (3 : Int32)), (.int v95), (.ref b53)])
    refine own_iastore X93 hx hZ e93 fz92_6 (i := v95.toInt.toNat) (by omega) (by omega) (hb hby d1_123) ?_
    intro T97 h97 L97 X97 e97 W97 hL97 V97
    have len97 : L97.length = 5 := by rw [hL97, List.length_set]; exact len85
    have N97 := Fr.snoc X97 N90 old_b53
    show ORun p e below s _ _ _ T97 (mkF m 124 #[.val (.ref a1), .val (.int (1 : Int32)), .val (.ref a2), .val (.ref o56), .val (.int (3 : Int32)), .val (.int (5 : Int32)), .val (.int d4)] [])
    have mF98 : L97 = own_Dk 1 [d0, d1, d2, d3, d4] 4 := by rw [hL97, mp96, mF86]; show _ = (own_Dk 1 [d0, d1, d2, d3, d4] 3).set (own_pos 1 [d0, d1, d2, d3, d4] 3).toInt.toNat (Int32.ofNat 3); rfl
    refine own_by (fun t k => XS.aloadN X97.here hx rfl (hb hby d1_124) rfl rfl k) ?_
    show ORun p e below s _ _ _ T97 (mkF m 125 #[.val (.ref a1), .val (.int (1 : Int32)), .val (.ref a2), .val (.ref o56), .val (.int (3 : Int32)), .val (.int (5 : Int32)), .val (.int d4)] [(.ref o56)])
    refine own_by (fun t k => XS.aloadN X97.here hx rfl (hb hby d1_125) rfl rfl k) ?_
    show ORun p e below s _ _ _ T97 (mkF m 126 #[.val (.ref a1), .val (.int (1 : Int32)), .val (.ref a2), .val (.ref o56), .val (.int (3 : Int32)), .val (.int (5 : Int32)), .val (.int d4)] [(.ref a2), (.ref o56)])
    refine own_by (fun t k => XS.iload X97.here hx rfl (hb hby d1_126) rfl k) ?_
    show ORun p e below s _ _ _ T97 (mkF m 128 #[.val (.ref a1), .val (.int (1 : Int32)), .val (.ref a2), .val (.ref o56), .val (.int (3 : Int32)), .val (.int (5 : Int32)), .val (.int d4)] [(.int (3 : Int32)), (.ref a2), (.ref o56)])
    refine own_iaload X97 hx hZ e97 (fz92_3.other W97 ne_a2_b53) (i := 3) (by decide) (by omega) (hb hby d1_128) ?_
    intro v99 hv99
    obtain rfl : d3 = v99 := hv99.symm
    show ORun p e below s _ _ _ T97 (mkF m 129 #[.val (.ref a1), .val (.int (1 : Int32)), .val (.ref a2), .val (.ref o56), .val (.int (3 : Int32)), .val (.int (5 : Int32)), .val (.int d4)] [(.int d3), (.ref o56)])
    refine own_by (fun t k => XT.dup2 X97.here hx rfl (hb hby d1_129) rfl rfl rfl k) ?_
    show ORun p e below s _ _ _ T97 (mkF m 130 #[.val (.ref a1), .val (.int (1 : Int32)), .val (.ref a2), .val (.ref o56), .val (.int (3 : Int32)), .val (.int (5 : Int32)), .val (.int d4)] [(.int d3), (.ref o56), (.int d3), (.ref o56)])
    refine own_iaload X97 hx hZ e97 (V90.other W97 (Ne.symm ne_b53_o56)) (i := d3.toInt.toNat) (by omega) (by omega) (hb hby d1_130) ?_
    intro v100 hv100
    have r100 := rng32 v100
    show ORun p e below s _ _ _ T97 (mkF m 131 #[.val (.ref a1), .val (.int (1 : Int32)), .val (.ref a2), .val (.ref o56), .val (.int (3 : Int32)), .val (.int (5 : Int32)), .val (.int d4)] [(.int v100), (.int d3), (.ref o56)])
    refine own_by (fun t k => XS.iconst X97.here hx rfl (hb hby d1_131) k) ?_
    show ORun p e below s _ _ _ T97 (mkF m 132 #[.val (.ref a1), .val (.int (1 : Int32)), .val (.ref a2), .val (.ref o56), .val (.int (3 : Int32)), .val (.int (5 : Int32)), .val (.int d4)] [(.int (1 : Int32)), (.int v100), (.int d3), (.ref o56)])
    refine own_by (fun t k => XS.iadd X97.here hx rfl (hb hby d1_132) rfl k) (own_letI (f := (fun z => (mkF m 133 #[.val (.ref a1), .val (.int (1 : Int32)), .val (.ref a2), .val (.ref o56), .val (.int (3 : Int32)), .val (.int (5 : Int32)), .val (.int d4)] [(.int z), (.int d3), (.ref o56)]))) (v100 + (1 : Int32)) fun v101 hv101 => ?_)
    show ORun p e below s _ _ _ T97 (mkF m 133 #[.val (.ref a1), .val (.int (1 : Int32)), .val (.ref a2), .val (.ref o56), .val (.int (3 : Int32)), .val (.int (5 : Int32)), .val (.int d4)] [(.int v101), (.int d3), (.ref o56)])
    have a101a : (v101.toInt - (v100.toInt + 1)) % 4294967296 = 0 := by rw [hv101]; exact c_iadd v100 (1 : Int32)
    have r101 := rng32 v101
    refine own_iastore X97 hx hZ e97 (V90.other W97 (Ne.symm ne_b53_o56)) (i := d3.toInt.toNat) (by omega) (by omega) (hb hby d1_133) ?_
    intro T102 h102 L102 X102 e102 W102 hL102 V102
    have len102 : L102.length = 1 := by rw [hL102, List.length_set]; exact len90
    have N102 := Fr.snoc X102 N97 old_o56
    show ORun p e below s _ _ _ T102 (mkF m 134 #[.val (.ref a1), .val (.int (1 : Int32)), .val (.ref a2), .val (.ref o56), .val (.int (3 : Int32)), .val (.int (5 : Int32)), .val (.int d4)] [])
    have mN103 : L102 = own_N 1 [d0, d1, d2, d3, d4] 4 := by rw [hL102, hv101, hv100, mN91]; show _ = (own_N 1 [d0, d1, d2, d3, d4] 3).set (([d0, d1, d2, d3, d4] : List Int32).getD 3 0).toInt.toNat ((own_N 1 [d0, d1, d2, d3, d4] 3).getD (([d0, d1, d2, d3, d4] : List Int32).getD 3 0).toInt.toNat 0 + 1); rfl
    clear r95 bp96 r100 a101a r101
    have Kz104 : Keep h0 h102 [a1] := ((((Keep.refl h0 [a1]).trans Kz92 (allS (Or.inl (List.mem_of_getElem? (i := 0) rfl)) all0)).wr W97 (Or.inr sz_b53)).wr W102 (Or.inr sz_o56))
    have fz104_0 := ((fz92_0.wr W97).wr W102)
    have fz104_1 := ((fz92_1.other W97 (Or.inl ne_a1_b53)).other W102 (Or.inl ne_a1_o56))
    have fz104_2 := ((fz92_2.other W97 (Or.inl ne_a1_b53)).other W102 (Or.inl ne_a1_o56))
    have fz104_3 := ((fz92_3.other W97 ne_a2_b53).other W102 ne_a2_o56)
    have fz104_4 := ((fz92_4.other W97 ne_b2_b53).other W102 ne_b2_o56)
    have fz104_5 := ((fz92_5.wr W97).wr W102)
    have fz104_6 := (V97.other W102 ne_b53_o56)
    have fz104_7 := ((fz92_7.wr W97).wr W102)
    refine own_by (fun t k => XS.iinc X102.here hx rfl (hb hby d1_134) rfl (l' := #[.val (.ref a1), .val (.int (1 : Int32)), .val (.ref a2), .val (.ref o56), .val (.int (4 : Int32)), .val (.int (5 : Int32)), .val (.int d4)]) rfl k) ?_
    show ORun p e below s _ _ _ T102 (mkF m 137 #[.val (.ref a1), .val (.int (1 : Int32)), .val (.ref a2), .val (.ref o56), .val (.int (4 : Int32)), .val (.int (5 : Int32)), .val (.int d4)] [])
    refine own_by (fun t k => XS.goto X102.here hx rfl (pc0 := 137) (pc' := 104) rfl (hb hby d1_137) (by decide) (by decide) k) ?_
    show ORun p e below s _ _ _ T102 (mkF m 104 #[.val (.ref a1), .val (.int (1 : Int32)), .val (.ref a2), .val (.ref o56), .val (.int (4 : Int32)), .val (.int (5 : Int32)), .val (.int d4)] [])
    refine own_by (fun t k => XS.iload X102.here hx rfl (hb hby d1_104) rfl k) ?_
    show ORun p e below s _ _ _ T102 (mkF m 106 #[.val (.ref a1), .val (.int (1 : Int32)), .val (.ref a2), .val (.ref o56), .val (.int (4 : Int32)), .val (.int (5 : Int32)), .val (.int d4)] [(.int (4 : Int32))])
    refine own_by (fun t k => XS.aloadN X102.here hx rfl (hb hby d1_106) rfl rfl k) ?_
    show ORun p e below s _ _ _ T102 (mkF m 107 #[.val (.ref a1), .val (.int (1 : Int32)), .val (.ref a2), .val (.ref o56), .val (.int (4 : Int32)), .val (.int (5 : Int32)), .val (.int d4)] [(.ref a2), (.int (4 : Int32))])
    refine own_len X102 hx hZ e102 fz104_3 (n := 5) lds (hb hby d1_107) ?_
    show ORun p e below s _ _ _ T102 (mkF m 108 #[.val (.ref a1), .val (.int (1 : Int32)), .val (.ref a2), .val (.ref o56), .val (.int (4 : Int32)), .val (.int (5 : Int32)), .val (.int d4)] [(.int (5 : Int32)), (.int (4 : Int32))])
    refine own_by (fun t k => XS.icmpNo X102.here hx rfl (hb hby d1_108) rfl (tlt (by decide)).2.1 k) ?_
    show ORun p e below s _ _ _ T102 (mkF m 111 #[.val (.ref a1), .val (.int (1 : Int32)), .val (.ref a2), .val (.ref o56), .val (.int (4 : Int32)), .val (.int (5 : Int32)), .val (.int d4)] [])
    refine own_by (fun t k => XS.aloadN X102.here hx rfl (hb hby d1_111) rfl rfl k) ?_
    show ORun p e below s _ _ _ T102 (mkF m 112 #[.val (.ref a1), .val (.int (1 : Int32)), .val (.ref a2), .val (.ref o56), .val (.int (4 : Int32)), .val (.int (5 : Int32)), .val (.int d4)] [(.ref a1)])
    obtain ⟨T105, X105, e105, st105⟩ := getF X102 hx hZ hown (host := "") (Or.inl (hw _ (List.mem_of_getElem? (i := 14) rfl))) Via.refl e102 fz104_2 (g := (mkF m 112 #[.val (.ref a1), .val (.int (1 : Int32)), .val (.ref a2), .val (.ref o56), .val (.int (4 : Int32)), .val (.int (5 : Int32)), .val (.int d4)] [(.ref a1)])) rfl rfl (hb hby d1_112)
    refine own_by st105 ?_
    show ORun p e below s _ _ _ T105 (mkF m 115 #[.val (.ref a1), .val (.int (1 : Int32)), .val (.ref a2), .val (.ref o56), .val (.int (4 : Int32)), .val (.int (5 : Int32)), .val (.int d4)] [(.ref b53)])
    refine own_by (fun t k => XS.aloadN X105.here hx rfl (hb hby d1_115) rfl rfl k) ?_
    show ORun p e below s _ _ _ T105 (mkF m 116 #[.val (.ref a1), .val (.int (1 : Int32)), .val (.ref a2), .val (.ref o56), .val (.int (4 : Int32)), .val (.int (5 : Int32)), .val (.int d4)] [(.ref o56), (.ref b53)])
    refine own_by (fun t k => XS.aloadN X105.here hx rfl (hb hby d1_116) rfl rfl k) ?_
    show ORun p e below s _ _ _ T105 (mkF m 117 #[.val (.ref a1), .val (.int (1 : Int32)), .val (.ref a2), .val (.ref o56), .val (.int (4 : Int32)), .val (.int (5 : Int32)), .val (.int d4)] [(.ref a2), (.ref o56), (.ref b53)])
    refine own_by (fun t k => XS.iload X105.here hx rfl (hb hby d1_117) rfl k) ?_
    show ORun p e below s _ _ _ T105 (mkF m 119 #[.val (.ref a1), .val (.int (1 : Int32)), .val (.ref a2), .val (.ref o56), .val (.int (4 : Int32)), .val (.int (5 : Int32)), .val (.int d4)] [(.int (4 : Int32)), (.ref a2), (.ref o56), (.ref b53)])
    refine own_iaload X105 hx hZ e105 fz104_3 (i := 4) (by decide) (by omega) (hb hby d1_119) ?_
    intro v106 hv106
    obtain rfl : d4 = v106 := hv106.symm
    show ORun p e below s _ _ _ T105 (mkF m 120 #[.val (.ref a1), .val (.int (1 : Int32)), .val (.ref a2), .val (.ref o56), .val (.int (4 : Int32)), .val (.int (5 : Int32)), .val (.int d4)] [(.int d4), (.ref o56), (.ref b53)])
    refine own_iaload X105 hx hZ e105 V102 (i := d4.toInt.toNat) (by omega) (by omega) (hb hby d1_120) ?_
    intro v107 hv107
    have r107 := rng32 v107
    show ORun p e below s _ _ _ T105 (mkF m 121 #[.val (.ref a1), .val (.int (1 : Int32)), .val (.ref a2), .val (.ref o56), .val (.int (4 : Int32)), .val (.int (5 : Int32)), .val (.int d4)] [(.int v107), (.ref b53)])
    have mp108 : v107 = own_pos 1 [d0, d1, d2, d3, d4] 4 := by rw [hv107, mN103]; show _ = (own_N 1 [d0, d1, d2, d3, d4] 4).getD (([d0, d1, d2, d3, d4] : List Int32).getD 4 0).toInt.toNat 0; rfl
    have bp108 := own_Ppos PP 4 (by decide)
    rw [← mp108] at bp108
    refine own_by (fun t k => XS.iload X105.here hx rfl (hb hby d1_121) rfl k) ?_
    show ORun p e below s _ _ _ T105 (mkF m 123 #[.val (.ref a1), .val (.int (1 : Int32)), .val (.ref a2), .val (.ref o56), .val (.int (4 : Int32)), .val (.int (5 : Int32)), .val (.int d4)] [(.int (4 : Int32)), (.int v107), (.ref b53)])
    refine own_iastore X105 hx hZ e105 fz104_6 (i := v107.toInt.toNat) (by omega) (by omega) (hb hby d1_123) ?_
    intro T109 h109 L109 X109 e109 W109 hL109 V109
    have len109 : L109.length = 5 := by rw [hL109, List.length_set]; exact len97
    have N109 := Fr.snoc X109 N102 old_b53
    show ORun p e below s _ _ _ T109 (mkF m 124 #[.val (.ref a1), .val (.int (1 : Int32)), .val (.ref a2), .val (.ref o56), .val (.int (4 : Int32)), .val (.int (5 : Int32)), .val (.int d4)] [])
    have mF110 : L109 = own_Dk 1 [d0, d1, d2, d3, d4] 5 := by rw [hL109, mp108, mF98]; show _ = (own_Dk 1 [d0, d1, d2, d3, d4] 4).set (own_pos 1 [d0, d1, d2, d3, d4] 4).toInt.toNat (Int32.ofNat 4); rfl
    refine own_by (fun t k => XS.aloadN X109.here hx rfl (hb hby d1_124) rfl rfl k) ?_
    show ORun p e below s _ _ _ T109 (mkF m 125 #[.val (.ref a1), .val (.int (1 : Int32)), .val (.ref a2), .val (.ref o56), .val (.int (4 : Int32)), .val (.int (5 : Int32)), .val (.int d4)] [(.ref o56)])
    refine own_by (fun t k => XS.aloadN X109.here hx rfl (hb hby d1_125) rfl rfl k) ?_
    show ORun p e below s _ _ _ T109 (mkF m 126 #[.val (.ref a1), .val (.int (1 : Int32)), .val (.ref a2), .val (.ref o56), .val (.int (4 : Int32)), .val (.int (5 : Int32)), .val (.int d4)] [(.ref a2), (.ref o56)])
    refine own_by (fun t k => XS.iload X109.here hx rfl (hb hby d1_126) rfl k) ?_
    show ORun p e below s _ _ _ T109 (mkF m 128 #[.val (.ref a1), .val (.int (1 : Int32)), .val (.ref a2), .val (.ref o56), .val (.int (4 : Int32)), .val (.int (5 : Int32)), .val (.int d4)] [(.int (4 : Int32)), (.ref a2), (.ref o56)])
    refine own_iaload X109 hx hZ e109 (fz104_3.other W109 ne_a2_b53) (i := 4) (by decide) (by omega) (hb hby d1_128) ?_
    intro v111 hv111
    obtain rfl : d4 = v111 := hv111.symm
    show ORun p e below s _ _ _ T109 (mkF m 129 #[.val (.ref a1), .val (.int (1 : Int32)), .val (.ref a2), .val (.ref o56), .val (.int (4 : Int32)), .val (.int (5 : Int32)), .val (.int d4)] [(.int d4), (.ref o56)])
    refine own_by (fun t k => XT.dup2 X109.here hx rfl (hb hby d1_129) rfl rfl rfl k) ?_
    show ORun p e below s _ _ _ T109 (mkF m 130 #[.val (.ref a1), .val (.int (1 : Int32)), .val (.ref a2), .val (.ref o56), .val (.int (4 : Int32)), .val (.int (5 : Int32)), .val (.int d4)] [(.int d4), (.ref o56), (.int d4), (.ref o56)])
    refine own_iaload X109 hx hZ e109 (V102.other W109 (Ne.symm ne_b53_o56)) (i := d4.toInt.toNat) (by omega) (by omega) (hb hby d1_130) ?_
    intro v112 hv112
    have r112 := rng32 v112
    show ORun p e below s _ _ _ T109 (mkF m 131 #[.val (.ref a1), .val (.int (1 : Int32)), .val (.ref a2), .val (.ref o56), .val (.int (4 : Int32)), .val (.int (5 : Int32)), .val (.int d4)] [(.int v112), (.int d4), (.ref o56)])
    refine own_by (fun t k => XS.iconst X109.here hx rfl (hb hby d1_131) k) ?_
    show ORun p e below s _ _ _ T109 (mkF m 132 #[.val (.ref a1), .val (.int (1 : Int32)), .val (.ref a2), .val (.ref o56), .val (.int (4 : Int32)), .val (.int (5 : Int32)), .val (.int d4)] [(.int (1 : Int32)), (.int v112), (.int d4), (.ref o56)])
    refine own_by (fun t k => XS.iadd X109.here hx rfl (hb hby d1_132) rfl k) (own_letI (f := (fun z => (mkF m 133 #[.val (.ref a1), .val (.int (1 : Int32)), .val (.ref a2), .val (.ref o56), .val (.int (4 : Int32)), .val (.int (5 : Int32)), .val (.int d4)] [(.int z), (.int d4), (.ref o56)]))) (v112 + (1 : Int32)) fun v113 hv113 => ?_)
    show ORun p e below s _ _ _ T109 (mkF m 133 #[.val (.ref a1), .val (.int (1 : Int32)), .val (.ref a2), .val (.ref o56), .val (.int (4 : Int32)), .val (.int (5 : Int32)), .val (.int d4)] [(.int v113), (.int d4), (.ref o56)])
    have a113a : (v113.toInt - (v112.toInt + 1)) % 4294967296 = 0 := by rw [hv113]; exact c_iadd v112 (1 : Int32)
    have r113 := rng32 v113
    refine own_iastore X109 hx hZ e109 (V102.other W109 (Ne.symm ne_b53_o56)) (i := d4.toInt.toNat) (by omega) (by omega) (hb hby d1_133) ?_
    intro T114 h114 L114 X114 e114 W114 hL114 V114
    have len114 : L114.length = 1 := by rw [hL114, List.length_set]; exact len102
    have N114 := Fr.snoc X114 N109 old_o56
    show ORun p e below s _ _ _ T114 (mkF m 134 #[.val (.ref a1), .val (.int (1 : Int32)), .val (.ref a2), .val (.ref o56), .val (.int (4 : Int32)), .val (.int (5 : Int32)), .val (.int d4)] [])
    have mN115 : L114 = own_N 1 [d0, d1, d2, d3, d4] 5 := by rw [hL114, hv113, hv112, mN103]; show _ = (own_N 1 [d0, d1, d2, d3, d4] 4).set (([d0, d1, d2, d3, d4] : List Int32).getD 4 0).toInt.toNat ((own_N 1 [d0, d1, d2, d3, d4] 4).getD (([d0, d1, d2, d3, d4] : List Int32).getD 4 0).toInt.toNat 0 + 1); rfl
    clear r107 bp108 r112 a113a r113
    have Kz116 : Keep h0 h114 [a1] := ((((Keep.refl h0 [a1]).trans Kz104 (allS (Or.inl (List.mem_of_getElem? (i := 0) rfl)) all0)).wr W109 (Or.inr sz_b53)).wr W114 (Or.inr sz_o56))
    have fz116_0 := ((fz104_0.wr W109).wr W114)
    have fz116_1 := ((fz104_1.other W109 (Or.inl ne_a1_b53)).other W114 (Or.inl ne_a1_o56))
    have fz116_2 := ((fz104_2.other W109 (Or.inl ne_a1_b53)).other W114 (Or.inl ne_a1_o56))
    have fz116_3 := ((fz104_3.other W109 ne_a2_b53).other W114 ne_a2_o56)
    have fz116_4 := ((fz104_4.other W109 ne_b2_b53).other W114 ne_b2_o56)
    have fz116_5 := ((fz104_5.wr W109).wr W114)
    have fz116_6 := (V109.other W114 ne_b53_o56)
    have fz116_7 := ((fz104_7.wr W109).wr W114)
    refine own_by (fun t k => XS.iinc X114.here hx rfl (hb hby d1_134) rfl (l' := #[.val (.ref a1), .val (.int (1 : Int32)), .val (.ref a2), .val (.ref o56), .val (.int (5 : Int32)), .val (.int (5 : Int32)), .val (.int d4)]) rfl k) ?_
    show ORun p e below s _ _ _ T114 (mkF m 137 #[.val (.ref a1), .val (.int (1 : Int32)), .val (.ref a2), .val (.ref o56), .val (.int (5 : Int32)), .val (.int (5 : Int32)), .val (.int d4)] [])
    refine own_by (fun t k => XS.goto X114.here hx rfl (pc0 := 137) (pc' := 104) rfl (hb hby d1_137) (by decide) (by decide) k) ?_
    show ORun p e below s _ _ _ T114 (mkF m 104 #[.val (.ref a1), .val (.int (1 : Int32)), .val (.ref a2), .val (.ref o56), .val (.int (5 : Int32)), .val (.int (5 : Int32)), .val (.int d4)] [])
    refine own_by (fun t k => XS.iload X114.here hx rfl (hb hby d1_104) rfl k) ?_
    show ORun p e below s _ _ _ T114 (mkF m 106 #[.val (.ref a1), .val (.int (1 : Int32)), .val (.ref a2), .val (.ref o56), .val (.int (5 : Int32)), .val (.int (5 : Int32)), .val (.int d4)] [(.int (5 : Int32))])
    refine own_by (fun t k => XS.aloadN X114.here hx rfl (hb hby d1_106) rfl rfl k) ?_
    show ORun p e below s _ _ _ T114 (mkF m 107 #[.val (.ref a1), .val (.int (1 : Int32)), .val (.ref a2), .val (.ref o56), .val (.int (5 : Int32)), .val (.int (5 : Int32)), .val (.int d4)] [(.ref a2), (.int (5 : Int32))])
    refine own_len X114 hx hZ e114 fz116_3 (n := 5) lds (hb hby d1_107) ?_
    show ORun p e below s _ _ _ T114 (mkF m 108 #[.val (.ref a1), .val (.int (1 : Int32)), .val (.ref a2), .val (.ref o56), .val (.int (5 : Int32)), .val (.int (5 : Int32)), .val (.int d4)] [(.int (5 : Int32)), (.int (5 : Int32))])
    refine own_by (fun t k => XS.icmpYes X114.here hx rfl (pc0 := 108) (pc' := 140) rfl (hb hby d1_108) rfl (flt (by decide)).2.1 (by decide) (by decide) k) ?_
    show ORun p e below s _ _ _ T114 (mkF m 140 #[.val (.ref a1), .val (.int (1 : Int32)), .val (.ref a2), .val (.ref o56), .val (.int (5 : Int32)), .val (.int (5 : Int32)), .val (.int d4)] [])
    refine own_retV X114 hx hret hlk (hb hby d1_140) (by decide) (by decide) ?_
    have mD117 : L109 = own_D 1 [d0, d1, d2, d3, d4] := mF110
    rw [e114]
    refine ⟨rfl, N114, ((Keep.refl h0 [a1]).trans Kz116 (allS (Or.inl (List.mem_of_getElem? (i := 0) rfl)) all0)), b2, b53, 1, L49, L109, fz116_0, fz116_1, fz116_2, fz116_4, len49, fz116_6, len109, fz116_7, by decide, ?_⟩
    intro q hq
    have z := own_Psel PP q hq
    rw [mS52, mD117]
    exact z
  · have z2 : (2 : Int32).toInt = 2 := by decide
    rw [hp2] at hb0 hb1 hb2 hb3 hb4
    have PP := own_PP (s := 2) (by omega) (a := d0) (b := d1) (c := d2) (d := d3) (e := d4) (by omega) (by omega) (by omega) (by omega) (by omega)
    subst hp2
    show ORun p e below s _ _ _ s₁ (mkF m 0 #[.val (.ref a1), .val (.int (2 : Int32)), .val (.ref a2), .unset, .unset, .unset, .unset] [])
    refine own_by (fun t k => XS.aloadN X0.here hx rfl (hb hby d1_0) rfl rfl k) ?_
    show ORun p e below s _ _ _ s₁ (mkF m 1 #[.val (.ref a1), .val (.int (2 : Int32)), .val (.ref a2), .unset, .unset, .unset, .unset] [(.ref a1)])
    obtain ⟨T118, X118, e118, st118⟩ := initO X0 hx hZ hown (hw _ (List.mem_of_getElem? (i := 9) rfl)) (hw _ (List.mem_of_getElem? (i := 10) rfl)) (hw _ (List.mem_of_getElem? (i := 11) rfl)) e0 (g := (mkF m 1 #[.val (.ref a1), .val (.int (2 : Int32)), .val (.ref a2), .unset, .unset, .unset, .unset] [(.ref a1)])) rfl (by rw [hml]; rfl) rfl (hb hby d1_1) (by decide) (W := 0) (by show 2 * 0 + _ ≤ _; exact Nat.le_of_eq rfl) (by decide)
    refine own_by st118 ?_
    show ORun p e below s _ _ _ T118 (mkF m 4 #[.val (.ref a1), .val (.int (2 : Int32)), .val (.ref a2), .unset, .unset, .unset, .unset] [])
    refine own_by (fun t k => XS.aloadN X118.here hx rfl (hb hby d1_4) rfl rfl k) ?_
    show ORun p e below s _ _ _ T118 (mkF m 5 #[.val (.ref a1), .val (.int (2 : Int32)), .val (.ref a2), .unset, .unset, .unset, .unset] [(.ref a1)])
    refine own_by (fun t k => XS.iloadN X118.here hx rfl (hb hby d1_5) rfl k) ?_
    show ORun p e below s _ _ _ T118 (mkF m 6 #[.val (.ref a1), .val (.int (2 : Int32)), .val (.ref a2), .unset, .unset, .unset, .unset] [(.int (2 : Int32)), (.ref a1)])
    refine own_by (fun t k => XS.iconst X118.here hx rfl (hb hby d1_6) k) ?_
    show ORun p e below s _ _ _ T118 (mkF m 7 #[.val (.ref a1), .val (.int (2 : Int32)), .val (.ref a2), .unset, .unset, .unset, .unset] [(.int (1 : Int32)), (.int (2 : Int32)), (.ref a1)])
    refine own_by (fun t k => XS.iadd X118.here hx rfl (hb hby d1_7) rfl k) ?_
    show ORun p e below s _ _ _ T118 (mkF m 8 #[.val (.ref a1), .val (.int (2 : Int32)), .val (.ref a2), .unset, .unset, .unset, .unset] [(.int (3 : Int32)), (.ref a1)])
    refine own_newarray X118 hx hZ (aty := .int) (hw _ (List.mem_of_getElem? (i := 1) rfl)) e118 rfl (N := 3) (cap := 3) (by decide) (Nat.le_refl _) (by decide) (by decide) (by decide) (ad := "[I") (by decide) (hb hby d1_8) ?_
    intro T119 h119 b119 L119 g119 X119 e119 E119 hL119 V119 Ex119
    have len119 : L119.length = 3 := by rw [hL119]; exact List.length_replicate
    have old_b119 : n0 ≤ b119 := Nat.le_trans Z0 (Nat.le_of_eq g119.symm)
    have sz_b119 : h0.size ≤ b119 := Nat.le_trans (Nat.le_refl h0.size) (Nat.le_of_eq g119.symm)
    have ne_a1_b119 : a1 ≠ b119 := Nat.ne_of_lt (Nat.lt_of_lt_of_le E_a1.lt (Nat.le_of_eq g119.symm))
    have ne_a2_b119 : a2 ≠ b119 := Nat.ne_of_lt (Nat.lt_of_lt_of_le VA2.lt (Nat.le_of_eq g119.symm))
    show ORun p e below s _ _ _ T119 (mkF m 10 #[.val (.ref a1), .val (.int (2 : Int32)), .val (.ref a2), .unset, .unset, .unset, .unset] [(.ref b119), (.ref a1)])
    obtain ⟨T120, h120, X120, e120, W120, st120⟩ := putF X119 hx hZ hown (host := "") (Or.inl (hw _ (List.mem_of_getElem? (i := 12) rfl))) Via.refl e119 (F_starts_a1.ext E119) (E_a1.ext E119) (Or.inr ⟨(hw _ (List.mem_of_getElem? (i := 13) rfl)), rfl, hnm⟩) (hw _ (List.mem_of_getElem? (i := 4) rfl)) (ty := (.array .int)) (by decide) rfl rfl (g := (mkF m 10 #[.val (.ref a1), .val (.int (2 : Int32)), .val (.ref a2), .unset, .unset, .unset, .unset] [(.ref b119), (.ref a1)])) rfl rfl (hb hby d1_10)
    have Fw120 := Fld.same W120 (F_starts_a1.ext E119)
    have N120 := Fr.snoc X120 N0 g_a1
    refine own_by st120 ?_
    show ORun p e below s _ _ _ T120 (mkF m 13 #[.val (.ref a1), .val (.int (2 : Int32)), .val (.ref a2), .unset, .unset, .unset, .unset] [])
    refine own_by (fun t k => XS.aloadN X120.here hx rfl (hb hby d1_13) rfl rfl k) ?_
    show ORun p e below s _ _ _ T120 (mkF m 14 #[.val (.ref a1), .val (.int (2 : Int32)), .val (.ref a2), .unset, .unset, .unset, .unset] [(.ref a2)])
    refine own_by (fun t k => XS.astoreN X120.here hx rfl (hb hby d1_14) rfl rfl (l' := #[.val (.ref a1), .val (.int (2 : Int32)), .val (.ref a2), .val (.ref a2), .unset, .unset, .unset]) rfl k) ?_
    show ORun p e below s _ _ _ T120 (mkF m 15 #[.val (.ref a1), .val (.int (2 : Int32)), .val (.ref a2), .val (.ref a2), .unset, .unset, .unset] [])
    refine own_by (fun t k => XS.aloadN X120.here hx rfl (hb hby d1_15) rfl rfl k) ?_
    show ORun p e below s _ _ _ T120 (mkF m 16 #[.val (.ref a1), .val (.int (2 : Int32)), .val (.ref a2), .val (.ref a2), .unset, .unset, .unset] [(.ref a2)])
    refine own_len X120 hx hZ e120 ((VA2.ext E119).other W120 (Ne.symm ne12)) (n := 5) lds (hb hby d1_16) ?_
    show ORun p e below s _ _ _ T120 (mkF m 17 #[.val (.ref a1), .val (.int (2 : Int32)), .val (.ref a2), .val (.ref a2), .unset, .unset, .unset] [(.int (5 : Int32))])
    refine own_by (fun t k => XS.istore X120.here hx rfl (hb hby d1_17) rfl (l' := #[.val (.ref a1), .val (.int (2 : Int32)), .val (.ref a2), .val (.ref a2), .val (.int (5 : Int32)), .unset, .unset]) rfl k) ?_
    show ORun p e below s _ _ _ T120 (mkF m 19 #[.val (.ref a1), .val (.int (2 : Int32)), .val (.ref a2), .val (.ref a2), .val (.int (5 : Int32)), .unset, .unset] [])
    refine own_by (fun t k => XS.iconst X120.here hx rfl (hb hby d1_19) k) ?_
    show ORun p e below s _ _ _ T120 (mkF m 20 #[.val (.ref a1), .val (.int (2 : Int32)), .val (.ref a2), .val (.ref a2), .val (.int (5 : Int32)), .unset, .unset] [(.int (0 : Int32))])
    refine own_by (fun t k => XS.istore X120.here hx rfl (hb hby d1_20) rfl (l' := #[.val (.ref a1), .val (.int (2 : Int32)), .val (.ref a2), .val (.ref a2), .val (.int (5 : Int32)), .val (.int (0 : Int32)), .unset]) rfl k) ?_
    show ORun p e below s _ _ _ T120 (mkF m 22 #[.val (.ref a1), .val (.int (2 : Int32)), .val (.ref a2), .val (.ref a2), .val (.int (5 : Int32)), .val (.int (0 : Int32)), .unset] [])
    refine own_by (fun t k => XS.iload X120.here hx rfl (hb hby d1_22) rfl k) ?_
    show ORun p e below s _ _ _ T120 (mkF m 24 #[.val (.ref a1), .val (.int (2 : Int32)), .val (.ref a2), .val (.ref a2), .val (.int (5 : Int32)), .val (.int (0 : Int32)), .unset] [(.int (0 : Int32))])
    refine own_by (fun t k => XS.iload X120.here hx rfl (hb hby d1_24) rfl k) ?_
    show ORun p e below s _ _ _ T120 (mkF m 26 #[.val (.ref a1), .val (.int (2 : Int32)), .val (.ref a2), .val (.ref a2), .val (.int (5 : Int32)), .val (.int (0 : Int32)), .unset] [(.int (5 : Int32)), (.int (0 : Int32))])
    refine own_by (fun t k => XS.icmpNo X120.here hx rfl (hb hby d1_26) rfl (tlt (by decide)).2.1 k) ?_
    show ORun p e below s _ _ _ T120 (mkF m 29 #[.val (.ref a1), .val (.int (2 : Int32)), .val (.ref a2), .val (.ref a2), .val (.int (5 : Int32)), .val (.int (0 : Int32)), .unset] [])
    refine own_by (fun t k => XS.aloadN X120.here hx rfl (hb hby d1_29) rfl rfl k) ?_
    show ORun p e below s _ _ _ T120 (mkF m 30 #[.val (.ref a1), .val (.int (2 : Int32)), .val (.ref a2), .val (.ref a2), .val (.int (5 : Int32)), .val (.int (0 : Int32)), .unset] [(.ref a2)])
    refine own_by (fun t k => XS.iload X120.here hx rfl (hb hby d1_30) rfl k) ?_
    show ORun p e below s _ _ _ T120 (mkF m 32 #[.val (.ref a1), .val (.int (2 : Int32)), .val (.ref a2), .val (.ref a2), .val (.int (5 : Int32)), .val (.int (0 : Int32)), .unset] [(.int (0 : Int32)), (.ref a2)])
    refine own_iaload X120 hx hZ e120 ((VA2.ext E119).other W120 (Ne.symm ne12)) (i := 0) (by decide) (by omega) (hb hby d1_32) ?_
    intro v121 hv121
    obtain rfl : d0 = v121 := hv121.symm
    show ORun p e below s _ _ _ T120 (mkF m 33 #[.val (.ref a1), .val (.int (2 : Int32)), .val (.ref a2), .val (.ref a2), .val (.int (5 : Int32)), .val (.int (0 : Int32)), .unset] [(.int d0)])
    refine own_by (fun t k => XS.istore X120.here hx rfl (hb hby d1_33) rfl (l' := #[.val (.ref a1), .val (.int (2 : Int32)), .val (.ref a2), .val (.ref a2), .val (.int (5 : Int32)), .val (.int (0 : Int32)), .val (.int d0)]) rfl k) ?_
    show ORun p e below s _ _ _ T120 (mkF m 35 #[.val (.ref a1), .val (.int (2 : Int32)), .val (.ref a2), .val (.ref a2), .val (.int (5 : Int32)), .val (.int (0 : Int32)), .val (.int d0)] [])
    refine own_by (fun t k => XS.aloadN X120.here hx rfl (hb hby d1_35) rfl rfl k) ?_
    show ORun p e below s _ _ _ T120 (mkF m 36 #[.val (.ref a1), .val (.int (2 : Int32)), .val (.ref a2), .val (.ref a2), .val (.int (5 : Int32)), .val (.int (0 : Int32)), .val (.int d0)] [(.ref a1)])
    obtain ⟨T122, X122, e122, st122⟩ := getF X120 hx hZ hown (host := "") (Or.inl (hw _ (List.mem_of_getElem? (i := 12) rfl))) Via.refl e120 Fw120 (g := (mkF m 36 #[.val (.ref a1), .val (.int (2 : Int32)), .val (.ref a2), .val (.ref a2), .val (.int (5 : Int32)), .val (.int (0 : Int32)), .val (.int d0)] [(.ref a1)])) rfl rfl (hb hby d1_36)
    refine own_by st122 ?_
    show ORun p e below s _ _ _ T122 (mkF m 39 #[.val (.ref a1), .val (.int (2 : Int32)), .val (.ref a2), .val (.ref a2), .val (.int (5 : Int32)), .val (.int (0 : Int32)), .val (.int d0)] [(.ref b119)])
    refine own_by (fun t k => XS.iload X122.here hx rfl (hb hby d1_39) rfl k) ?_
    show ORun p e below s _ _ _ T122 (mkF m 41 #[.val (.ref a1), .val (.int (2 : Int32)), .val (.ref a2), .val (.ref a2), .val (.int (5 : Int32)), .val (.int (0 : Int32)), .val (.int d0)] [(.int d0), (.ref b119)])
    refine own_by (fun t k => XS.iconst X122.here hx rfl (hb hby d1_41) k) ?_
    show ORun p e below s _ _ _ T122 (mkF m 42 #[.val (.ref a1), .val (.int (2 : Int32)), .val (.ref a2), .val (.ref a2), .val (.int (5 : Int32)), .val (.int (0 : Int32)), .val (.int d0)] [(.int (1 : Int32)), (.int d0), (.ref b119)])
    refine own_by (fun t k => XS.iadd X122.here hx rfl (hb hby d1_42) rfl k) (own_letI (f := (fun z => (mkF m 43 #[.val (.ref a1), .val (.int (2 : Int32)), .val (.ref a2), .val (.ref a2), .val (.int (5 : Int32)), .val (.int (0 : Int32)), .val (.int d0)] [(.int z), (.ref b119)]))) (d0 + (1 : Int32)) fun v123 hv123 => ?_)
    show ORun p e below s _ _ _ T122 (mkF m 43 #[.val (.ref a1), .val (.int (2 : Int32)), .val (.ref a2), .val (.ref a2), .val (.int (5 : Int32)), .val (.int (0 : Int32)), .val (.int d0)] [(.int v123), (.ref b119)])
    have r123 := rng32 v123
    have a123 : v123.toInt = d0.toInt + 1 := by
      have q : (v123.toInt - (d0.toInt + 1)) % 4294967296 = 0 := by rw [hv123]; exact c_iadd d0 (1 : Int32)
      omega
    refine own_by (fun t k => XT.dup2 X122.here hx rfl (hb hby d1_43) rfl rfl rfl k) ?_
    show ORun p e below s _ _ _ T122 (mkF m 44 #[.val (.ref a1), .val (.int (2 : Int32)), .val (.ref a2), .val (.ref a2), .val (.int (5 : Int32)), .val (.int (0 : Int32)), .val (.int d0)] [(.int v123), (.ref b119), (.int v123), (.ref b119)])
    refine own_iaload X122 hx hZ e122 (V119.other W120 (Ne.symm ne_a1_b119)) (i := v123.toInt.toNat) (by omega) (by omega) (hb hby d1_44) ?_
    intro v124 hv124
    have r124 := rng32 v124
    show ORun p e below s _ _ _ T122 (mkF m 45 #[.val (.ref a1), .val (.int (2 : Int32)), .val (.ref a2), .val (.ref a2), .val (.int (5 : Int32)), .val (.int (0 : Int32)), .val (.int d0)] [(.int v124), (.int v123), (.ref b119)])
    refine own_by (fun t k => XS.iconst X122.here hx rfl (hb hby d1_45) k) ?_
    show ORun p e below s _ _ _ T122 (mkF m 46 #[.val (.ref a1), .val (.int (2 : Int32)), .val (.ref a2), .val (.ref a2), .val (.int (5 : Int32)), .val (.int (0 : Int32)), .val (.int d0)] [(.int (1 : Int32)), (.int v124), (.int v123), (.ref b119)])
    refine own_by (fun t k => XS.iadd X122.here hx rfl (hb hby d1_46) rfl k) (own_letI (f := (fun z => (mkF m 47 #[.val (.ref a1), .val (.int (2 : Int32)), .val (.ref a2), .val (.ref a2), .val (.int (5 : Int32)), .val (.int (0 : Int32)), .val (.int d0)] [(.int z), (.int v123), (.ref b119)]))) (v124 + (1 : Int32)) fun v125 hv125 => ?_)
    show ORun p e below s _ _ _ T122 (mkF m 47 #[.val (.ref a1), .val (.int (2 : Int32)), .val (.ref a2), .val (.ref a2), .val (.int (5 : Int32)), .val (.int (0 : Int32)), .val (.int d0)] [(.int v125), (.int v123), (.ref b119)])
    have a125a : (v125.toInt - (v124.toInt + 1)) % 4294967296 = 0 := by rw [hv125]; exact c_iadd v124 (1 : Int32)
    have r125 := rng32 v125
    refine own_iastore X122 hx hZ e122 (V119.other W120 (Ne.symm ne_a1_b119)) (i := v123.toInt.toNat) (by omega) (by omega) (hb hby d1_47) ?_
    intro T126 h126 L126 X126 e126 W126 hL126 V126
    have len126 : L126.length = 3 := by rw [hL126, List.length_set]; exact len119
    have N126 := Fr.snoc X126 N120 old_b119
    show ORun p e below s _ _ _ T126 (mkF m 48 #[.val (.ref a1), .val (.int (2 : Int32)), .val (.ref a2), .val (.ref a2), .val (.int (5 : Int32)), .val (.int (0 : Int32)), .val (.int d0)] [])
    have mb127 : L126 = own_bump L119 d0 := by rw [hL126, hv125, hv124, hv123]; rfl
    clear a123 r123 r124 a125a r125
    have Kz128 : Keep h0 h126 [a1] := ((((Keep.refl h0 [a1]).ext E119).wr W120 (Or.inl (List.mem_of_getElem? (i := 0) rfl))).wr W126 (Or.inr sz_b119))
    have fz128_0 := (((E_a1.ext E119).wr W120).wr W126)
    have fz128_1 := (Fw120.other W126 (Or.inl ne_a1_b119))
    have fz128_2 := (((F_documents_a1.ext E119).other W120 (Or.inr (slot_ne (Or.inr (hw _ (List.mem_of_getElem? (i := 15) rfl))) (Or.inr (hw _ (List.mem_of_getElem? (i := 13) rfl))) (by decide) (t := (.array .int)) (t' := (.array .int)) (by decide) (by decide)))).other W126 (Or.inl ne_a1_b119))
    have fz128_3 := (((VA2.ext E119).other W120 (Ne.symm ne12)).other W126 ne_a2_b119)
    have fz128_5 := ((Ex119.wr W120).wr W126)
    refine own_by (fun t k => XS.iinc X126.here hx rfl (hb hby d1_48) rfl (l' := #[.val (.ref a1), .val (.int (2 : Int32)), .val (.ref a2), .val (.ref a2), .val (.int (5 : Int32)), .val (.int (1 : Int32)), .val (.int d0)]) rfl k) ?_
    show ORun p e below s _ _ _ T126 (mkF m 51 #[.val (.ref a1), .val (.int (2 : Int32)), .val (.ref a2), .val (.ref a2), .val (.int (5 : Int32)), .val (.int (1 : Int32)), .val (.int d0)] [])
    refine own_by (fun t k => XS.goto X126.here hx rfl (pc0 := 51) (pc' := 22) rfl (hb hby d1_51) (by decide) (by decide) k) ?_
    show ORun p e below s _ _ _ T126 (mkF m 22 #[.val (.ref a1), .val (.int (2 : Int32)), .val (.ref a2), .val (.ref a2), .val (.int (5 : Int32)), .val (.int (1 : Int32)), .val (.int d0)] [])
    refine own_by (fun t k => XS.iload X126.here hx rfl (hb hby d1_22) rfl k) ?_
    show ORun p e below s _ _ _ T126 (mkF m 24 #[.val (.ref a1), .val (.int (2 : Int32)), .val (.ref a2), .val (.ref a2), .val (.int (5 : Int32)), .val (.int (1 : Int32)), .val (.int d0)] [(.int (1 : Int32))])
    refine own_by (fun t k => XS.iload X126.here hx rfl (hb hby d1_24) rfl k) ?_
    show ORun p e below s _ _ _ T126 (mkF m 26 #[.val (.ref a1), .val (.int (2 : Int32)), .val (.ref a2), .val (.ref a2), .val (.int (5 : Int32)), .val (.int (1 : Int32)), .val (.int d0)] [(.int (5 : Int32)), (.int (1 : Int32))])
    refine own_by (fun t k => XS.icmpNo X126.here hx rfl (hb hby d1_26) rfl (tlt (by decide)).2.1 k) ?_
    show ORun p e below s _ _ _ T126 (mkF m 29 #[.val (.ref a1), .val (.int (2 : Int32)), .val (.ref a2), .val (.ref a2), .val (.int (5 : Int32)), .val (.int (1 : Int32)), .val (.int d0)] [])
    refine own_by (fun t k => XS.aloadN X126.here hx rfl (hb hby d1_29) rfl rfl k) ?_
    show ORun p e below s _ _ _ T126 (mkF m 30 #[.val (.ref a1), .val (.int (2 : Int32)), .val (.ref a2), .val (.ref a2), .val (.int (5 : Int32)), .val (.int (1 : Int32)), .val (.int d0)] [(.ref a2)])
    refine own_by (fun t k => XS.iload X126.here hx rfl (hb hby d1_30) rfl k) ?_
    show ORun p e below s _ _ _ T126 (mkF m 32 #[.val (.ref a1), .val (.int (2 : Int32)), .val (.ref a2), .val (.ref a2), .val (.int (5 : Int32)), .val (.int (1 : Int32)), .val (.int d0)] [(.int (1 : Int32)), (.ref a2)])
    refine own_iaload X126 hx hZ e126 fz128_3 (i := 1) (by decide) (by omega) (hb hby d1_32) ?_
    intro v129 hv129
    obtain rfl : d1 = v129 := hv129.symm
    show ORun p e below s _ _ _ T126 (mkF m 33 #[.val (.ref a1), .val (.int (2 : Int32)), .val (.ref a2), .val (.ref a2), .val (.int (5 : Int32)), .val (.int (1 : Int32)), .val (.int d0)] [(.int d1)])
    refine own_by (fun t k => XS.istore X126.here hx rfl (hb hby d1_33) rfl (l' := #[.val (.ref a1), .val (.int (2 : Int32)), .val (.ref a2), .val (.ref a2), .val (.int (5 : Int32)), .val (.int (1 : Int32)), .val (.int d1)]) rfl k) ?_
    show ORun p e below s _ _ _ T126 (mkF m 35 #[.val (.ref a1), .val (.int (2 : Int32)), .val (.ref a2), .val (.ref a2), .val (.int (5 : Int32)), .val (.int (1 : Int32)), .val (.int d1)] [])
    refine own_by (fun t k => XS.aloadN X126.here hx rfl (hb hby d1_35) rfl rfl k) ?_
    show ORun p e below s _ _ _ T126 (mkF m 36 #[.val (.ref a1), .val (.int (2 : Int32)), .val (.ref a2), .val (.ref a2), .val (.int (5 : Int32)), .val (.int (1 : Int32)), .val (.int d1)] [(.ref a1)])
    obtain ⟨T130, X130, e130, st130⟩ := getF X126 hx hZ hown (host := "") (Or.inl (hw _ (List.mem_of_getElem? (i := 12) rfl))) Via.refl e126 fz128_1 (g := (mkF m 36 #[.val (.ref a1), .val (.int (2 : Int32)), .val (.ref a2), .val (.ref a2), .val (.int (5 : Int32)), .val (.int (1 : Int32)), .val (.int d1)] [(.ref a1)])) rfl rfl (hb hby d1_36)
    refine own_by st130 ?_
    show ORun p e below s _ _ _ T130 (mkF m 39 #[.val (.ref a1), .val (.int (2 : Int32)), .val (.ref a2), .val (.ref a2), .val (.int (5 : Int32)), .val (.int (1 : Int32)), .val (.int d1)] [(.ref b119)])
    refine own_by (fun t k => XS.iload X130.here hx rfl (hb hby d1_39) rfl k) ?_
    show ORun p e below s _ _ _ T130 (mkF m 41 #[.val (.ref a1), .val (.int (2 : Int32)), .val (.ref a2), .val (.ref a2), .val (.int (5 : Int32)), .val (.int (1 : Int32)), .val (.int d1)] [(.int d1), (.ref b119)])
    refine own_by (fun t k => XS.iconst X130.here hx rfl (hb hby d1_41) k) ?_
    show ORun p e below s _ _ _ T130 (mkF m 42 #[.val (.ref a1), .val (.int (2 : Int32)), .val (.ref a2), .val (.ref a2), .val (.int (5 : Int32)), .val (.int (1 : Int32)), .val (.int d1)] [(.int (1 : Int32)), (.int d1), (.ref b119)])
    refine own_by (fun t k => XS.iadd X130.here hx rfl (hb hby d1_42) rfl k) (own_letI (f := (fun z => (mkF m 43 #[.val (.ref a1), .val (.int (2 : Int32)), .val (.ref a2), .val (.ref a2), .val (.int (5 : Int32)), .val (.int (1 : Int32)), .val (.int d1)] [(.int z), (.ref b119)]))) (d1 + (1 : Int32)) fun v131 hv131 => ?_)
    show ORun p e below s _ _ _ T130 (mkF m 43 #[.val (.ref a1), .val (.int (2 : Int32)), .val (.ref a2), .val (.ref a2), .val (.int (5 : Int32)), .val (.int (1 : Int32)), .val (.int d1)] [(.int v131), (.ref b119)])
    have r131 := rng32 v131
    have a131 : v131.toInt = d1.toInt + 1 := by
      have q : (v131.toInt - (d1.toInt + 1)) % 4294967296 = 0 := by rw [hv131]; exact c_iadd d1 (1 : Int32)
      omega
    refine own_by (fun t k => XT.dup2 X130.here hx rfl (hb hby d1_43) rfl rfl rfl k) ?_
    show ORun p e below s _ _ _ T130 (mkF m 44 #[.val (.ref a1), .val (.int (2 : Int32)), .val (.ref a2), .val (.ref a2), .val (.int (5 : Int32)), .val (.int (1 : Int32)), .val (.int d1)] [(.int v131), (.ref b119), (.int v131), (.ref b119)])
    refine own_iaload X130 hx hZ e130 V126 (i := v131.toInt.toNat) (by omega) (by omega) (hb hby d1_44) ?_
    intro v132 hv132
    have r132 := rng32 v132
    show ORun p e below s _ _ _ T130 (mkF m 45 #[.val (.ref a1), .val (.int (2 : Int32)), .val (.ref a2), .val (.ref a2), .val (.int (5 : Int32)), .val (.int (1 : Int32)), .val (.int d1)] [(.int v132), (.int v131), (.ref b119)])
    refine own_by (fun t k => XS.iconst X130.here hx rfl (hb hby d1_45) k) ?_
    show ORun p e below s _ _ _ T130 (mkF m 46 #[.val (.ref a1), .val (.int (2 : Int32)), .val (.ref a2), .val (.ref a2), .val (.int (5 : Int32)), .val (.int (1 : Int32)), .val (.int d1)] [(.int (1 : Int32)), (.int v132), (.int v131), (.ref b119)])
    refine own_by (fun t k => XS.iadd X130.here hx rfl (hb hby d1_46) rfl k) (own_letI (f := (fun z => (mkF m 47 #[.val (.ref a1), .val (.int (2 : Int32)), .val (.ref a2), .val (.ref a2), .val (.int (5 : Int32)), .val (.int (1 : Int32)), .val (.int d1)] [(.int z), (.int v131), (.ref b119)]))) (v132 + (1 : Int32)) fun v133 hv133 => ?_)
    show ORun p e below s _ _ _ T130 (mkF m 47 #[.val (.ref a1), .val (.int (2 : Int32)), .val (.ref a2), .val (.ref a2), .val (.int (5 : Int32)), .val (.int (1 : Int32)), .val (.int d1)] [(.int v133), (.int v131), (.ref b119)])
    have a133a : (v133.toInt - (v132.toInt + 1)) % 4294967296 = 0 := by rw [hv133]; exact c_iadd v132 (1 : Int32)
    have r133 := rng32 v133
    refine own_iastore X130 hx hZ e130 V126 (i := v131.toInt.toNat) (by omega) (by omega) (hb hby d1_47) ?_
    intro T134 h134 L134 X134 e134 W134 hL134 V134
    have len134 : L134.length = 3 := by rw [hL134, List.length_set]; exact len126
    have N134 := Fr.snoc X134 N126 old_b119
    show ORun p e below s _ _ _ T134 (mkF m 48 #[.val (.ref a1), .val (.int (2 : Int32)), .val (.ref a2), .val (.ref a2), .val (.int (5 : Int32)), .val (.int (1 : Int32)), .val (.int d1)] [])
    have mb135 : L134 = own_bump L126 d1 := by rw [hL134, hv133, hv132, hv131]; rfl
    clear a131 r131 r132 a133a r133
    have Kz136 : Keep h0 h134 [a1] := (((Keep.refl h0 [a1]).trans Kz128 (allS (Or.inl (List.mem_of_getElem? (i := 0) rfl)) all0)).wr W134 (Or.inr sz_b119))
    have fz136_0 := (fz128_0.wr W134)
    have fz136_1 := (fz128_1.other W134 (Or.inl ne_a1_b119))
    have fz136_2 := (fz128_2.other W134 (Or.inl ne_a1_b119))
    have fz136_3 := (fz128_3.other W134 ne_a2_b119)
    have fz136_5 := (fz128_5.wr W134)
    refine own_by (fun t k => XS.iinc X134.here hx rfl (hb hby d1_48) rfl (l' := #[.val (.ref a1), .val (.int (2 : Int32)), .val (.ref a2), .val (.ref a2), .val (.int (5 : Int32)), .val (.int (2 : Int32)), .val (.int d1)]) rfl k) ?_
    show ORun p e below s _ _ _ T134 (mkF m 51 #[.val (.ref a1), .val (.int (2 : Int32)), .val (.ref a2), .val (.ref a2), .val (.int (5 : Int32)), .val (.int (2 : Int32)), .val (.int d1)] [])
    refine own_by (fun t k => XS.goto X134.here hx rfl (pc0 := 51) (pc' := 22) rfl (hb hby d1_51) (by decide) (by decide) k) ?_
    show ORun p e below s _ _ _ T134 (mkF m 22 #[.val (.ref a1), .val (.int (2 : Int32)), .val (.ref a2), .val (.ref a2), .val (.int (5 : Int32)), .val (.int (2 : Int32)), .val (.int d1)] [])
    refine own_by (fun t k => XS.iload X134.here hx rfl (hb hby d1_22) rfl k) ?_
    show ORun p e below s _ _ _ T134 (mkF m 24 #[.val (.ref a1), .val (.int (2 : Int32)), .val (.ref a2), .val (.ref a2), .val (.int (5 : Int32)), .val (.int (2 : Int32)), .val (.int d1)] [(.int (2 : Int32))])
    refine own_by (fun t k => XS.iload X134.here hx rfl (hb hby d1_24) rfl k) ?_
    show ORun p e below s _ _ _ T134 (mkF m 26 #[.val (.ref a1), .val (.int (2 : Int32)), .val (.ref a2), .val (.ref a2), .val (.int (5 : Int32)), .val (.int (2 : Int32)), .val (.int d1)] [(.int (5 : Int32)), (.int (2 : Int32))])
    refine own_by (fun t k => XS.icmpNo X134.here hx rfl (hb hby d1_26) rfl (tlt (by decide)).2.1 k) ?_
    show ORun p e below s _ _ _ T134 (mkF m 29 #[.val (.ref a1), .val (.int (2 : Int32)), .val (.ref a2), .val (.ref a2), .val (.int (5 : Int32)), .val (.int (2 : Int32)), .val (.int d1)] [])
    refine own_by (fun t k => XS.aloadN X134.here hx rfl (hb hby d1_29) rfl rfl k) ?_
    show ORun p e below s _ _ _ T134 (mkF m 30 #[.val (.ref a1), .val (.int (2 : Int32)), .val (.ref a2), .val (.ref a2), .val (.int (5 : Int32)), .val (.int (2 : Int32)), .val (.int d1)] [(.ref a2)])
    refine own_by (fun t k => XS.iload X134.here hx rfl (hb hby d1_30) rfl k) ?_
    show ORun p e below s _ _ _ T134 (mkF m 32 #[.val (.ref a1), .val (.int (2 : Int32)), .val (.ref a2), .val (.ref a2), .val (.int (5 : Int32)), .val (.int (2 : Int32)), .val (.int d1)] [(.int (2 : Int32)), (.ref a2)])
    refine own_iaload X134 hx hZ e134 fz136_3 (i := 2) (by decide) (by omega) (hb hby d1_32) ?_
    intro v137 hv137
    obtain rfl : d2 = v137 := hv137.symm
    show ORun p e below s _ _ _ T134 (mkF m 33 #[.val (.ref a1), .val (.int (2 : Int32)), .val (.ref a2), .val (.ref a2), .val (.int (5 : Int32)), .val (.int (2 : Int32)), .val (.int d1)] [(.int d2)])
    refine own_by (fun t k => XS.istore X134.here hx rfl (hb hby d1_33) rfl (l' := #[.val (.ref a1), .val (.int (2 : Int32)), .val (.ref a2), .val (.ref a2), .val (.int (5 : Int32)), .val (.int (2 : Int32)), .val (.int d2)]) rfl k) ?_
    show ORun p e below s _ _ _ T134 (mkF m 35 #[.val (.ref a1), .val (.int (2 : Int32)), .val (.ref a2), .val (.ref a2), .val (.int (5 : Int32)), .val (.int (2 : Int32)), .val (.int d2)] [])
    refine own_by (fun t k => XS.aloadN X134.here hx rfl (hb hby d1_35) rfl rfl k) ?_
    show ORun p e below s _ _ _ T134 (mkF m 36 #[.val (.ref a1), .val (.int (2 : Int32)), .val (.ref a2), .val (.ref a2), .val (.int (5 : Int32)), .val (.int (2 : Int32)), .val (.int d2)] [(.ref a1)])
    obtain ⟨T138, X138, e138, st138⟩ := getF X134 hx hZ hown (host := "") (Or.inl (hw _ (List.mem_of_getElem? (i := 12) rfl))) Via.refl e134 fz136_1 (g := (mkF m 36 #[.val (.ref a1), .val (.int (2 : Int32)), .val (.ref a2), .val (.ref a2), .val (.int (5 : Int32)), .val (.int (2 : Int32)), .val (.int d2)] [(.ref a1)])) rfl rfl (hb hby d1_36)
    refine own_by st138 ?_
    show ORun p e below s _ _ _ T138 (mkF m 39 #[.val (.ref a1), .val (.int (2 : Int32)), .val (.ref a2), .val (.ref a2), .val (.int (5 : Int32)), .val (.int (2 : Int32)), .val (.int d2)] [(.ref b119)])
    refine own_by (fun t k => XS.iload X138.here hx rfl (hb hby d1_39) rfl k) ?_
    show ORun p e below s _ _ _ T138 (mkF m 41 #[.val (.ref a1), .val (.int (2 : Int32)), .val (.ref a2), .val (.ref a2), .val (.int (5 : Int32)), .val (.int (2 : Int32)), .val (.int d2)] [(.int d2), (.ref b119)])
    refine own_by (fun t k => XS.iconst X138.here hx rfl (hb hby d1_41) k) ?_
    show ORun p e below s _ _ _ T138 (mkF m 42 #[.val (.ref a1), .val (.int (2 : Int32)), .val (.ref a2), .val (.ref a2), .val (.int (5 : Int32)), .val (.int (2 : Int32)), .val (.int d2)] [(.int (1 : Int32)), (.int d2), (.ref b119)])
    refine own_by (fun t k => XS.iadd X138.here hx rfl (hb hby d1_42) rfl k) (own_letI (f := (fun z => (mkF m 43 #[.val (.ref a1), .val (.int (2 : Int32)), .val (.ref a2), .val (.ref a2), .val (.int (5 : Int32)), .val (.int (2 : Int32)), .val (.int d2)] [(.int z), (.ref b119)]))) (d2 + (1 : Int32)) fun v139 hv139 => ?_)
    show ORun p e below s _ _ _ T138 (mkF m 43 #[.val (.ref a1), .val (.int (2 : Int32)), .val (.ref a2), .val (.ref a2), .val (.int (5 : Int32)), .val (.int (2 : Int32)), .val (.int d2)] [(.int v139), (.ref b119)])
    have r139 := rng32 v139
    have a139 : v139.toInt = d2.toInt + 1 := by
      have q : (v139.toInt - (d2.toInt + 1)) % 4294967296 = 0 := by rw [hv139]; exact c_iadd d2 (1 : Int32)
      omega
    refine own_by (fun t k => XT.dup2 X138.here hx rfl (hb hby d1_43) rfl rfl rfl k) ?_
    show ORun p e below s _ _ _ T138 (mkF m 44 #[.val (.ref a1), .val (.int (2 : Int32)), .val (.ref a2), .val (.ref a2), .val (.int (5 : Int32)), .val (.int (2 : Int32)), .val (.int d2)] [(.int v139), (.ref b119), (.int v139), (.ref b119)])
    refine own_iaload X138 hx hZ e138 V134 (i := v139.toInt.toNat) (by omega) (by omega) (hb hby d1_44) ?_
    intro v140 hv140
    have r140 := rng32 v140
    show ORun p e below s _ _ _ T138 (mkF m 45 #[.val (.ref a1), .val (.int (2 : Int32)), .val (.ref a2), .val (.ref a2), .val (.int (5 : Int32)), .val (.int (2 : Int32)), .val (.int d2)] [(.int v140), (.int v139), (.ref b119)])
    refine own_by (fun t k => XS.iconst X138.here hx rfl (hb hby d1_45) k) ?_
    show ORun p e below s _ _ _ T138 (mkF m 46 #[.val (.ref a1), .val (.int (2 : Int32)), .val (.ref a2), .val (.ref a2), .val (.int (5 : Int32)), .val (.int (2 : Int32)), .val (.int d2)] [(.int (1 : Int32)), (.int v140), (.int v139), (.ref b119)])
    refine own_by (fun t k => XS.iadd X138.here hx rfl (hb hby d1_46) rfl k) (own_letI (f := (fun z => (mkF m 47 #[.val (.ref a1), .val (.int (2 : Int32)), .val (.ref a2), .val (.ref a2), .val (.int (5 : Int32)), .val (.int (2 : Int32)), .val (.int d2)] [(.int z), (.int v139), (.ref b119)]))) (v140 + (1 : Int32)) fun v141 hv141 => ?_)
    show ORun p e below s _ _ _ T138 (mkF m 47 #[.val (.ref a1), .val (.int (2 : Int32)), .val (.ref a2), .val (.ref a2), .val (.int (5 : Int32)), .val (.int (2 : Int32)), .val (.int d2)] [(.int v141), (.int v139), (.ref b119)])
    have a141a : (v141.toInt - (v140.toInt + 1)) % 4294967296 = 0 := by rw [hv141]; exact c_iadd v140 (1 : Int32)
    have r141 := rng32 v141
    refine own_iastore X138 hx hZ e138 V134 (i := v139.toInt.toNat) (by omega) (by omega) (hb hby d1_47) ?_
    intro T142 h142 L142 X142 e142 W142 hL142 V142
    have len142 : L142.length = 3 := by rw [hL142, List.length_set]; exact len134
    have N142 := Fr.snoc X142 N134 old_b119
    show ORun p e below s _ _ _ T142 (mkF m 48 #[.val (.ref a1), .val (.int (2 : Int32)), .val (.ref a2), .val (.ref a2), .val (.int (5 : Int32)), .val (.int (2 : Int32)), .val (.int d2)] [])
    have mb143 : L142 = own_bump L134 d2 := by rw [hL142, hv141, hv140, hv139]; rfl
    clear a139 r139 r140 a141a r141
    have Kz144 : Keep h0 h142 [a1] := (((Keep.refl h0 [a1]).trans Kz136 (allS (Or.inl (List.mem_of_getElem? (i := 0) rfl)) all0)).wr W142 (Or.inr sz_b119))
    have fz144_0 := (fz136_0.wr W142)
    have fz144_1 := (fz136_1.other W142 (Or.inl ne_a1_b119))
    have fz144_2 := (fz136_2.other W142 (Or.inl ne_a1_b119))
    have fz144_3 := (fz136_3.other W142 ne_a2_b119)
    have fz144_5 := (fz136_5.wr W142)
    refine own_by (fun t k => XS.iinc X142.here hx rfl (hb hby d1_48) rfl (l' := #[.val (.ref a1), .val (.int (2 : Int32)), .val (.ref a2), .val (.ref a2), .val (.int (5 : Int32)), .val (.int (3 : Int32)), .val (.int d2)]) rfl k) ?_
    show ORun p e below s _ _ _ T142 (mkF m 51 #[.val (.ref a1), .val (.int (2 : Int32)), .val (.ref a2), .val (.ref a2), .val (.int (5 : Int32)), .val (.int (3 : Int32)), .val (.int d2)] [])
    refine own_by (fun t k => XS.goto X142.here hx rfl (pc0 := 51) (pc' := 22) rfl (hb hby d1_51) (by decide) (by decide) k) ?_
    show ORun p e below s _ _ _ T142 (mkF m 22 #[.val (.ref a1), .val (.int (2 : Int32)), .val (.ref a2), .val (.ref a2), .val (.int (5 : Int32)), .val (.int (3 : Int32)), .val (.int d2)] [])
    refine own_by (fun t k => XS.iload X142.here hx rfl (hb hby d1_22) rfl k) ?_
    show ORun p e below s _ _ _ T142 (mkF m 24 #[.val (.ref a1), .val (.int (2 : Int32)), .val (.ref a2), .val (.ref a2), .val (.int (5 : Int32)), .val (.int (3 : Int32)), .val (.int d2)] [(.int (3 : Int32))])
    refine own_by (fun t k => XS.iload X142.here hx rfl (hb hby d1_24) rfl k) ?_
    show ORun p e below s _ _ _ T142 (mkF m 26 #[.val (.ref a1), .val (.int (2 : Int32)), .val (.ref a2), .val (.ref a2), .val (.int (5 : Int32)), .val (.int (3 : Int32)), .val (.int d2)] [(.int (5 : Int32)), (.int (3 : Int32))])
    refine own_by (fun t k => XS.icmpNo X142.here hx rfl (hb hby d1_26) rfl (tlt (by decide)).2.1 k) ?_
    show ORun p e below s _ _ _ T142 (mkF m 29 #[.val (.ref a1), .val (.int (2 : Int32)), .val (.ref a2), .val (.ref a2), .val (.int (5 : Int32)), .val (.int (3 : Int32)), .val (.int d2)] [])
    refine own_by (fun t k => XS.aloadN X142.here hx rfl (hb hby d1_29) rfl rfl k) ?_
    show ORun p e below s _ _ _ T142 (mkF m 30 #[.val (.ref a1), .val (.int (2 : Int32)), .val (.ref a2), .val (.ref a2), .val (.int (5 : Int32)), .val (.int (3 : Int32)), .val (.int d2)] [(.ref a2)])
    refine own_by (fun t k => XS.iload X142.here hx rfl (hb hby d1_30) rfl k) ?_
    show ORun p e below s _ _ _ T142 (mkF m 32 #[.val (.ref a1), .val (.int (2 : Int32)), .val (.ref a2), .val (.ref a2), .val (.int (5 : Int32)), .val (.int (3 : Int32)), .val (.int d2)] [(.int (3 : Int32)), (.ref a2)])
    refine own_iaload X142 hx hZ e142 fz144_3 (i := 3) (by decide) (by omega) (hb hby d1_32) ?_
    intro v145 hv145
    obtain rfl : d3 = v145 := hv145.symm
    show ORun p e below s _ _ _ T142 (mkF m 33 #[.val (.ref a1), .val (.int (2 : Int32)), .val (.ref a2), .val (.ref a2), .val (.int (5 : Int32)), .val (.int (3 : Int32)), .val (.int d2)] [(.int d3)])
    refine own_by (fun t k => XS.istore X142.here hx rfl (hb hby d1_33) rfl (l' := #[.val (.ref a1), .val (.int (2 : Int32)), .val (.ref a2), .val (.ref a2), .val (.int (5 : Int32)), .val (.int (3 : Int32)), .val (.int d3)]) rfl k) ?_
    show ORun p e below s _ _ _ T142 (mkF m 35 #[.val (.ref a1), .val (.int (2 : Int32)), .val (.ref a2), .val (.ref a2), .val (.int (5 : Int32)), .val (.int (3 : Int32)), .val (.int d3)] [])
    refine own_by (fun t k => XS.aloadN X142.here hx rfl (hb hby d1_35) rfl rfl k) ?_
    show ORun p e below s _ _ _ T142 (mkF m 36 #[.val (.ref a1), .val (.int (2 : Int32)), .val (.ref a2), .val (.ref a2), .val (.int (5 : Int32)), .val (.int (3 : Int32)), .val (.int d3)] [(.ref a1)])
    obtain ⟨T146, X146, e146, st146⟩ := getF X142 hx hZ hown (host := "") (Or.inl (hw _ (List.mem_of_getElem? (i := 12) rfl))) Via.refl e142 fz144_1 (g := (mkF m 36 #[.val (.ref a1), .val (.int (2 : Int32)), .val (.ref a2), .val (.ref a2), .val (.int (5 : Int32)), .val (.int (3 : Int32)), .val (.int d3)] [(.ref a1)])) rfl rfl (hb hby d1_36)
    refine own_by st146 ?_
    show ORun p e below s _ _ _ T146 (mkF m 39 #[.val (.ref a1), .val (.int (2 : Int32)), .val (.ref a2), .val (.ref a2), .val (.int (5 : Int32)), .val (.int (3 : Int32)), .val (.int d3)] [(.ref b119)])
    refine own_by (fun t k => XS.iload X146.here hx rfl (hb hby d1_39) rfl k) ?_
    show ORun p e below s _ _ _ T146 (mkF m 41 #[.val (.ref a1), .val (.int (2 : Int32)), .val (.ref a2), .val (.ref a2), .val (.int (5 : Int32)), .val (.int (3 : Int32)), .val (.int d3)] [(.int d3), (.ref b119)])
    refine own_by (fun t k => XS.iconst X146.here hx rfl (hb hby d1_41) k) ?_
    show ORun p e below s _ _ _ T146 (mkF m 42 #[.val (.ref a1), .val (.int (2 : Int32)), .val (.ref a2), .val (.ref a2), .val (.int (5 : Int32)), .val (.int (3 : Int32)), .val (.int d3)] [(.int (1 : Int32)), (.int d3), (.ref b119)])
    refine own_by (fun t k => XS.iadd X146.here hx rfl (hb hby d1_42) rfl k) (own_letI (f := (fun z => (mkF m 43 #[.val (.ref a1), .val (.int (2 : Int32)), .val (.ref a2), .val (.ref a2), .val (.int (5 : Int32)), .val (.int (3 : Int32)), .val (.int d3)] [(.int z), (.ref b119)]))) (d3 + (1 : Int32)) fun v147 hv147 => ?_)
    show ORun p e below s _ _ _ T146 (mkF m 43 #[.val (.ref a1), .val (.int (2 : Int32)), .val (.ref a2), .val (.ref a2), .val (.int (5 : Int32)), .val (.int (3 : Int32)), .val (.int d3)] [(.int v147), (.ref b119)])
    have r147 := rng32 v147
    have a147 : v147.toInt = d3.toInt + 1 := by
      have q : (v147.toInt - (d3.toInt + 1)) % 4294967296 = 0 := by rw [hv147]; exact c_iadd d3 (1 : Int32)
      omega
    refine own_by (fun t k => XT.dup2 X146.here hx rfl (hb hby d1_43) rfl rfl rfl k) ?_
    show ORun p e below s _ _ _ T146 (mkF m 44 #[.val (.ref a1), .val (.int (2 : Int32)), .val (.ref a2), .val (.ref a2), .val (.int (5 : Int32)), .val (.int (3 : Int32)), .val (.int d3)] [(.int v147), (.ref b119), (.int v147), (.ref b119)])
    refine own_iaload X146 hx hZ e146 V142 (i := v147.toInt.toNat) (by omega) (by omega) (hb hby d1_44) ?_
    intro v148 hv148
    have r148 := rng32 v148
    show ORun p e below s _ _ _ T146 (mkF m 45 #[.val (.ref a1), .val (.int (2 : Int32)), .val (.ref a2), .val (.ref a2), .val (.int (5 : Int32)), .val (.int (3 : Int32)), .val (.int d3)] [(.int v148), (.int v147), (.ref b119)])
    refine own_by (fun t k => XS.iconst X146.here hx rfl (hb hby d1_45) k) ?_
    show ORun p e below s _ _ _ T146 (mkF m 46 #[.val (.ref a1), .val (.int (2 : Int32)), .val (.ref a2), .val (.ref a2), .val (.int (5 : Int32)), .val (.int (3 : Int32)), .val (.int d3)] [(.int (1 : Int32)), (.int v148), (.int v147), (.ref b119)])
    refine own_by (fun t k => XS.iadd X146.here hx rfl (hb hby d1_46) rfl k) (own_letI (f := (fun z => (mkF m 47 #[.val (.ref a1), .val (.int (2 : Int32)), .val (.ref a2), .val (.ref a2), .val (.int (5 : Int32)), .val (.int (3 : Int32)), .val (.int d3)] [(.int z), (.int v147), (.ref b119)]))) (v148 + (1 : Int32)) fun v149 hv149 => ?_)
    show ORun p e below s _ _ _ T146 (mkF m 47 #[.val (.ref a1), .val (.int (2 : Int32)), .val (.ref a2), .val (.ref a2), .val (.int (5 : Int32)), .val (.int (3 : Int32)), .val (.int d3)] [(.int v149), (.int v147), (.ref b119)])
    have a149a : (v149.toInt - (v148.toInt + 1)) % 4294967296 = 0 := by rw [hv149]; exact c_iadd v148 (1 : Int32)
    have r149 := rng32 v149
    refine own_iastore X146 hx hZ e146 V142 (i := v147.toInt.toNat) (by omega) (by omega) (hb hby d1_47) ?_
    intro T150 h150 L150 X150 e150 W150 hL150 V150
    have len150 : L150.length = 3 := by rw [hL150, List.length_set]; exact len142
    have N150 := Fr.snoc X150 N142 old_b119
    show ORun p e below s _ _ _ T150 (mkF m 48 #[.val (.ref a1), .val (.int (2 : Int32)), .val (.ref a2), .val (.ref a2), .val (.int (5 : Int32)), .val (.int (3 : Int32)), .val (.int d3)] [])
    have mb151 : L150 = own_bump L142 d3 := by rw [hL150, hv149, hv148, hv147]; rfl
    clear a147 r147 r148 a149a r149
    have Kz152 : Keep h0 h150 [a1] := (((Keep.refl h0 [a1]).trans Kz144 (allS (Or.inl (List.mem_of_getElem? (i := 0) rfl)) all0)).wr W150 (Or.inr sz_b119))
    have fz152_0 := (fz144_0.wr W150)
    have fz152_1 := (fz144_1.other W150 (Or.inl ne_a1_b119))
    have fz152_2 := (fz144_2.other W150 (Or.inl ne_a1_b119))
    have fz152_3 := (fz144_3.other W150 ne_a2_b119)
    have fz152_5 := (fz144_5.wr W150)
    refine own_by (fun t k => XS.iinc X150.here hx rfl (hb hby d1_48) rfl (l' := #[.val (.ref a1), .val (.int (2 : Int32)), .val (.ref a2), .val (.ref a2), .val (.int (5 : Int32)), .val (.int (4 : Int32)), .val (.int d3)]) rfl k) ?_
    show ORun p e below s _ _ _ T150 (mkF m 51 #[.val (.ref a1), .val (.int (2 : Int32)), .val (.ref a2), .val (.ref a2), .val (.int (5 : Int32)), .val (.int (4 : Int32)), .val (.int d3)] [])
    refine own_by (fun t k => XS.goto X150.here hx rfl (pc0 := 51) (pc' := 22) rfl (hb hby d1_51) (by decide) (by decide) k) ?_
    show ORun p e below s _ _ _ T150 (mkF m 22 #[.val (.ref a1), .val (.int (2 : Int32)), .val (.ref a2), .val (.ref a2), .val (.int (5 : Int32)), .val (.int (4 : Int32)), .val (.int d3)] [])
    refine own_by (fun t k => XS.iload X150.here hx rfl (hb hby d1_22) rfl k) ?_
    show ORun p e below s _ _ _ T150 (mkF m 24 #[.val (.ref a1), .val (.int (2 : Int32)), .val (.ref a2), .val (.ref a2), .val (.int (5 : Int32)), .val (.int (4 : Int32)), .val (.int d3)] [(.int (4 : Int32))])
    refine own_by (fun t k => XS.iload X150.here hx rfl (hb hby d1_24) rfl k) ?_
    show ORun p e below s _ _ _ T150 (mkF m 26 #[.val (.ref a1), .val (.int (2 : Int32)), .val (.ref a2), .val (.ref a2), .val (.int (5 : Int32)), .val (.int (4 : Int32)), .val (.int d3)] [(.int (5 : Int32)), (.int (4 : Int32))])
    refine own_by (fun t k => XS.icmpNo X150.here hx rfl (hb hby d1_26) rfl (tlt (by decide)).2.1 k) ?_
    show ORun p e below s _ _ _ T150 (mkF m 29 #[.val (.ref a1), .val (.int (2 : Int32)), .val (.ref a2), .val (.ref a2), .val (.int (5 : Int32)), .val (.int (4 : Int32)), .val (.int d3)] [])
    refine own_by (fun t k => XS.aloadN X150.here hx rfl (hb hby d1_29) rfl rfl k) ?_
    show ORun p e below s _ _ _ T150 (mkF m 30 #[.val (.ref a1), .val (.int (2 : Int32)), .val (.ref a2), .val (.ref a2), .val (.int (5 : Int32)), .val (.int (4 : Int32)), .val (.int d3)] [(.ref a2)])
    refine own_by (fun t k => XS.iload X150.here hx rfl (hb hby d1_30) rfl k) ?_
    show ORun p e below s _ _ _ T150 (mkF m 32 #[.val (.ref a1), .val (.int (2 : Int32)), .val (.ref a2), .val (.ref a2), .val (.int (5 : Int32)), .val (.int (4 : Int32)), .val (.int d3)] [(.int (4 : Int32)), (.ref a2)])
    refine own_iaload X150 hx hZ e150 fz152_3 (i := 4) (by decide) (by omega) (hb hby d1_32) ?_
    intro v153 hv153
    obtain rfl : d4 = v153 := hv153.symm
    show ORun p e below s _ _ _ T150 (mkF m 33 #[.val (.ref a1), .val (.int (2 : Int32)), .val (.ref a2), .val (.ref a2), .val (.int (5 : Int32)), .val (.int (4 : Int32)), .val (.int d3)] [(.int d4)])
    refine own_by (fun t k => XS.istore X150.here hx rfl (hb hby d1_33) rfl (l' := #[.val (.ref a1), .val (.int (2 : Int32)), .val (.ref a2), .val (.ref a2), .val (.int (5 : Int32)), .val (.int (4 : Int32)), .val (.int d4)]) rfl k) ?_
    show ORun p e below s _ _ _ T150 (mkF m 35 #[.val (.ref a1), .val (.int (2 : Int32)), .val (.ref a2), .val (.ref a2), .val (.int (5 : Int32)), .val (.int (4 : Int32)), .val (.int d4)] [])
    refine own_by (fun t k => XS.aloadN X150.here hx rfl (hb hby d1_35) rfl rfl k) ?_
    show ORun p e below s _ _ _ T150 (mkF m 36 #[.val (.ref a1), .val (.int (2 : Int32)), .val (.ref a2), .val (.ref a2), .val (.int (5 : Int32)), .val (.int (4 : Int32)), .val (.int d4)] [(.ref a1)])
    obtain ⟨T154, X154, e154, st154⟩ := getF X150 hx hZ hown (host := "") (Or.inl (hw _ (List.mem_of_getElem? (i := 12) rfl))) Via.refl e150 fz152_1 (g := (mkF m 36 #[.val (.ref a1), .val (.int (2 : Int32)), .val (.ref a2), .val (.ref a2), .val (.int (5 : Int32)), .val (.int (4 : Int32)), .val (.int d4)] [(.ref a1)])) rfl rfl (hb hby d1_36)
    refine own_by st154 ?_
    show ORun p e below s _ _ _ T154 (mkF m 39 #[.val (.ref a1), .val (.int (2 : Int32)), .val (.ref a2), .val (.ref a2), .val (.int (5 : Int32)), .val (.int (4 : Int32)), .val (.int d4)] [(.ref b119)])
    refine own_by (fun t k => XS.iload X154.here hx rfl (hb hby d1_39) rfl k) ?_
    show ORun p e below s _ _ _ T154 (mkF m 41 #[.val (.ref a1), .val (.int (2 : Int32)), .val (.ref a2), .val (.ref a2), .val (.int (5 : Int32)), .val (.int (4 : Int32)), .val (.int d4)] [(.int d4), (.ref b119)])
    refine own_by (fun t k => XS.iconst X154.here hx rfl (hb hby d1_41) k) ?_
    show ORun p e below s _ _ _ T154 (mkF m 42 #[.val (.ref a1), .val (.int (2 : Int32)), .val (.ref a2), .val (.ref a2), .val (.int (5 : Int32)), .val (.int (4 : Int32)), .val (.int d4)] [(.int (1 : Int32)), (.int d4), (.ref b119)])
    refine own_by (fun t k => XS.iadd X154.here hx rfl (hb hby d1_42) rfl k) (own_letI (f := (fun z => (mkF m 43 #[.val (.ref a1), .val (.int (2 : Int32)), .val (.ref a2), .val (.ref a2), .val (.int (5 : Int32)), .val (.int (4 : Int32)), .val (.int d4)] [(.int z), (.ref b119)]))) (d4 + (1 : Int32)) fun v155 hv155 => ?_)
    show ORun p e below s _ _ _ T154 (mkF m 43 #[.val (.ref a1), .val (.int (2 : Int32)), .val (.ref a2), .val (.ref a2), .val (.int (5 : Int32)), .val (.int (4 : Int32)), .val (.int d4)] [(.int v155), (.ref b119)])
    have r155 := rng32 v155
    have a155 : v155.toInt = d4.toInt + 1 := by
      have q : (v155.toInt - (d4.toInt + 1)) % 4294967296 = 0 := by rw [hv155]; exact c_iadd d4 (1 : Int32)
      omega
    refine own_by (fun t k => XT.dup2 X154.here hx rfl (hb hby d1_43) rfl rfl rfl k) ?_
    show ORun p e below s _ _ _ T154 (mkF m 44 #[.val (.ref a1), .val (.int (2 : Int32)), .val (.ref a2), .val (.ref a2), .val (.int (5 : Int32)), .val (.int (4 : Int32)), .val (.int d4)] [(.int v155), (.ref b119), (.int v155), (.ref b119)])
    refine own_iaload X154 hx hZ e154 V150 (i := v155.toInt.toNat) (by omega) (by omega) (hb hby d1_44) ?_
    intro v156 hv156
    have r156 := rng32 v156
    show ORun p e below s _ _ _ T154 (mkF m 45 #[.val (.ref a1), .val (.int (2 : Int32)), .val (.ref a2), .val (.ref a2), .val (.int (5 : Int32)), .val (.int (4 : Int32)), .val (.int d4)] [(.int v156), (.int v155), (.ref b119)])
    refine own_by (fun t k => XS.iconst X154.here hx rfl (hb hby d1_45) k) ?_
    show ORun p e below s _ _ _ T154 (mkF m 46 #[.val (.ref a1), .val (.int (2 : Int32)), .val (.ref a2), .val (.ref a2), .val (.int (5 : Int32)), .val (.int (4 : Int32)), .val (.int d4)] [(.int (1 : Int32)), (.int v156), (.int v155), (.ref b119)])
    refine own_by (fun t k => XS.iadd X154.here hx rfl (hb hby d1_46) rfl k) (own_letI (f := (fun z => (mkF m 47 #[.val (.ref a1), .val (.int (2 : Int32)), .val (.ref a2), .val (.ref a2), .val (.int (5 : Int32)), .val (.int (4 : Int32)), .val (.int d4)] [(.int z), (.int v155), (.ref b119)]))) (v156 + (1 : Int32)) fun v157 hv157 => ?_)
    show ORun p e below s _ _ _ T154 (mkF m 47 #[.val (.ref a1), .val (.int (2 : Int32)), .val (.ref a2), .val (.ref a2), .val (.int (5 : Int32)), .val (.int (4 : Int32)), .val (.int d4)] [(.int v157), (.int v155), (.ref b119)])
    have a157a : (v157.toInt - (v156.toInt + 1)) % 4294967296 = 0 := by rw [hv157]; exact c_iadd v156 (1 : Int32)
    have r157 := rng32 v157
    refine own_iastore X154 hx hZ e154 V150 (i := v155.toInt.toNat) (by omega) (by omega) (hb hby d1_47) ?_
    intro T158 h158 L158 X158 e158 W158 hL158 V158
    have len158 : L158.length = 3 := by rw [hL158, List.length_set]; exact len150
    have N158 := Fr.snoc X158 N150 old_b119
    show ORun p e below s _ _ _ T158 (mkF m 48 #[.val (.ref a1), .val (.int (2 : Int32)), .val (.ref a2), .val (.ref a2), .val (.int (5 : Int32)), .val (.int (4 : Int32)), .val (.int d4)] [])
    have mb159 : L158 = own_bump L150 d4 := by rw [hL158, hv157, hv156, hv155]; rfl
    clear a155 r155 r156 a157a r157
    have Kz160 : Keep h0 h158 [a1] := (((Keep.refl h0 [a1]).trans Kz152 (allS (Or.inl (List.mem_of_getElem? (i := 0) rfl)) all0)).wr W158 (Or.inr sz_b119))
    have fz160_0 := (fz152_0.wr W158)
    have fz160_1 := (fz152_1.other W158 (Or.inl ne_a1_b119))
    have fz160_2 := (fz152_2.other W158 (Or.inl ne_a1_b119))
    have fz160_3 := (fz152_3.other W158 ne_a2_b119)
    have fz160_5 := (fz152_5.wr W158)
    refine own_by (fun t k => XS.iinc X158.here hx rfl (hb hby d1_48) rfl (l' := #[.val (.ref a1), .val (.int (2 : Int32)), .val (.ref a2), .val (.ref a2), .val (.int (5 : Int32)), .val (.int (5 : Int32)), .val (.int d4)]) rfl k) ?_
    show ORun p e below s _ _ _ T158 (mkF m 51 #[.val (.ref a1), .val (.int (2 : Int32)), .val (.ref a2), .val (.ref a2), .val (.int (5 : Int32)), .val (.int (5 : Int32)), .val (.int d4)] [])
    refine own_by (fun t k => XS.goto X158.here hx rfl (pc0 := 51) (pc' := 22) rfl (hb hby d1_51) (by decide) (by decide) k) ?_
    show ORun p e below s _ _ _ T158 (mkF m 22 #[.val (.ref a1), .val (.int (2 : Int32)), .val (.ref a2), .val (.ref a2), .val (.int (5 : Int32)), .val (.int (5 : Int32)), .val (.int d4)] [])
    refine own_by (fun t k => XS.iload X158.here hx rfl (hb hby d1_22) rfl k) ?_
    show ORun p e below s _ _ _ T158 (mkF m 24 #[.val (.ref a1), .val (.int (2 : Int32)), .val (.ref a2), .val (.ref a2), .val (.int (5 : Int32)), .val (.int (5 : Int32)), .val (.int d4)] [(.int (5 : Int32))])
    refine own_by (fun t k => XS.iload X158.here hx rfl (hb hby d1_24) rfl k) ?_
    show ORun p e below s _ _ _ T158 (mkF m 26 #[.val (.ref a1), .val (.int (2 : Int32)), .val (.ref a2), .val (.ref a2), .val (.int (5 : Int32)), .val (.int (5 : Int32)), .val (.int d4)] [(.int (5 : Int32)), (.int (5 : Int32))])
    refine own_by (fun t k => XS.icmpYes X158.here hx rfl (pc0 := 26) (pc' := 54) rfl (hb hby d1_26) rfl (flt (by decide)).2.1 (by decide) (by decide) k) ?_
    show ORun p e below s _ _ _ T158 (mkF m 54 #[.val (.ref a1), .val (.int (2 : Int32)), .val (.ref a2), .val (.ref a2), .val (.int (5 : Int32)), .val (.int (5 : Int32)), .val (.int d4)] [])
    refine own_by (fun t k => XS.iconst X158.here hx rfl (hb hby d1_54) k) ?_
    show ORun p e below s _ _ _ T158 (mkF m 55 #[.val (.ref a1), .val (.int (2 : Int32)), .val (.ref a2), .val (.ref a2), .val (.int (5 : Int32)), .val (.int (5 : Int32)), .val (.int d4)] [(.int (0 : Int32))])
    refine own_by (fun t k => XS.istoreN X158.here hx rfl (hb hby d1_55) rfl (l' := #[.val (.ref a1), .val (.int (2 : Int32)), .val (.ref a2), .val (.int (0 : Int32)), .val (.int (5 : Int32)), .val (.int (5 : Int32)), .val (.int d4)]) rfl k) ?_
    show ORun p e below s _ _ _ T158 (mkF m 56 #[.val (.ref a1), .val (.int (2 : Int32)), .val (.ref a2), .val (.int (0 : Int32)), .val (.int (5 : Int32)), .val (.int (5 : Int32)), .val (.int d4)] [])
    refine own_by (fun t k => XS.iloadN X158.here hx rfl (hb hby d1_56) rfl k) ?_
    show ORun p e below s _ _ _ T158 (mkF m 57 #[.val (.ref a1), .val (.int (2 : Int32)), .val (.ref a2), .val (.int (0 : Int32)), .val (.int (5 : Int32)), .val (.int (5 : Int32)), .val (.int d4)] [(.int (0 : Int32))])
    refine own_by (fun t k => XS.iloadN X158.here hx rfl (hb hby d1_57) rfl k) ?_
    show ORun p e below s _ _ _ T158 (mkF m 58 #[.val (.ref a1), .val (.int (2 : Int32)), .val (.ref a2), .val (.int (0 : Int32)), .val (.int (5 : Int32)), .val (.int (5 : Int32)), .val (.int d4)] [(.int (2 : Int32)), (.int (0 : Int32))])
    refine own_by (fun t k => XS.icmpNo X158.here hx rfl (hb hby d1_58) rfl (tlt (by decide)).2.1 k) ?_
    show ORun p e below s _ _ _ T158 (mkF m 61 #[.val (.ref a1), .val (.int (2 : Int32)), .val (.ref a2), .val (.int (0 : Int32)), .val (.int (5 : Int32)), .val (.int (5 : Int32)), .val (.int d4)] [])
    refine own_by (fun t k => XS.aloadN X158.here hx rfl (hb hby d1_61) rfl rfl k) ?_
    show ORun p e below s _ _ _ T158 (mkF m 62 #[.val (.ref a1), .val (.int (2 : Int32)), .val (.ref a2), .val (.int (0 : Int32)), .val (.int (5 : Int32)), .val (.int (5 : Int32)), .val (.int d4)] [(.ref a1)])
    obtain ⟨T161, X161, e161, st161⟩ := getF X158 hx hZ hown (host := "") (Or.inl (hw _ (List.mem_of_getElem? (i := 12) rfl))) Via.refl e158 fz160_1 (g := (mkF m 62 #[.val (.ref a1), .val (.int (2 : Int32)), .val (.ref a2), .val (.int (0 : Int32)), .val (.int (5 : Int32)), .val (.int (5 : Int32)), .val (.int d4)] [(.ref a1)])) rfl rfl (hb hby d1_62)
    refine own_by st161 ?_
    show ORun p e below s _ _ _ T161 (mkF m 65 #[.val (.ref a1), .val (.int (2 : Int32)), .val (.ref a2), .val (.int (0 : Int32)), .val (.int (5 : Int32)), .val (.int (5 : Int32)), .val (.int d4)] [(.ref b119)])
    refine own_by (fun t k => XS.iloadN X161.here hx rfl (hb hby d1_65) rfl k) ?_
    show ORun p e below s _ _ _ T161 (mkF m 66 #[.val (.ref a1), .val (.int (2 : Int32)), .val (.ref a2), .val (.int (0 : Int32)), .val (.int (5 : Int32)), .val (.int (5 : Int32)), .val (.int d4)] [(.int (0 : Int32)), (.ref b119)])
    refine own_by (fun t k => XS.iconst X161.here hx rfl (hb hby d1_66) k) ?_
    show ORun p e below s _ _ _ T161 (mkF m 67 #[.val (.ref a1), .val (.int (2 : Int32)), .val (.ref a2), .val (.int (0 : Int32)), .val (.int (5 : Int32)), .val (.int (5 : Int32)), .val (.int d4)] [(.int (1 : Int32)), (.int (0 : Int32)), (.ref b119)])
    refine own_by (fun t k => XS.iadd X161.here hx rfl (hb hby d1_67) rfl k) ?_
    show ORun p e below s _ _ _ T161 (mkF m 68 #[.val (.ref a1), .val (.int (2 : Int32)), .val (.ref a2), .val (.int (0 : Int32)), .val (.int (5 : Int32)), .val (.int (5 : Int32)), .val (.int d4)] [(.int (1 : Int32)), (.ref b119)])
    refine own_by (fun t k => XT.dup2 X161.here hx rfl (hb hby d1_68) rfl rfl rfl k) ?_
    show ORun p e below s _ _ _ T161 (mkF m 69 #[.val (.ref a1), .val (.int (2 : Int32)), .val (.ref a2), .val (.int (0 : Int32)), .val (.int (5 : Int32)), .val (.int (5 : Int32)), .val (.int d4)] [(.int (1 : Int32)), (.ref b119), (.int (1 : Int32)), (.ref b119)])
    refine own_iaload X161 hx hZ e161 V158 (i := 1) (by decide) (by omega) (hb hby d1_69) ?_
    intro v162 hv162
    have r162 := rng32 v162
    show ORun p e below s _ _ _ T161 (mkF m 70 #[.val (.ref a1), .val (.int (2 : Int32)), .val (.ref a2), .val (.int (0 : Int32)), .val (.int (5 : Int32)), .val (.int (5 : Int32)), .val (.int d4)] [(.int v162), (.int (1 : Int32)), (.ref b119)])
    refine own_by (fun t k => XS.aloadN X161.here hx rfl (hb hby d1_70) rfl rfl k) ?_
    show ORun p e below s _ _ _ T161 (mkF m 71 #[.val (.ref a1), .val (.int (2 : Int32)), .val (.ref a2), .val (.int (0 : Int32)), .val (.int (5 : Int32)), .val (.int (5 : Int32)), .val (.int d4)] [(.ref a1), (.int v162), (.int (1 : Int32)), (.ref b119)])
    obtain ⟨T163, X163, e163, st163⟩ := getF X161 hx hZ hown (host := "") (Or.inl (hw _ (List.mem_of_getElem? (i := 12) rfl))) Via.refl e161 fz160_1 (g := (mkF m 71 #[.val (.ref a1), .val (.int (2 : Int32)), .val (.ref a2), .val (.int (0 : Int32)), .val (.int (5 : Int32)), .val (.int (5 : Int32)), .val (.int d4)] [(.ref a1), (.int v162), (.int (1 : Int32)), (.ref b119)])) rfl rfl (hb hby d1_71)
    refine own_by st163 ?_
    show ORun p e below s _ _ _ T163 (mkF m 74 #[.val (.ref a1), .val (.int (2 : Int32)), .val (.ref a2), .val (.int (0 : Int32)), .val (.int (5 : Int32)), .val (.int (5 : Int32)), .val (.int d4)] [(.ref b119), (.int v162), (.int (1 : Int32)), (.ref b119)])
    refine own_by (fun t k => XS.iloadN X163.here hx rfl (hb hby d1_74) rfl k) ?_
    show ORun p e below s _ _ _ T163 (mkF m 75 #[.val (.ref a1), .val (.int (2 : Int32)), .val (.ref a2), .val (.int (0 : Int32)), .val (.int (5 : Int32)), .val (.int (5 : Int32)), .val (.int d4)] [(.int (0 : Int32)), (.ref b119), (.int v162), (.int (1 : Int32)), (.ref b119)])
    refine own_iaload X163 hx hZ e163 V158 (i := 0) (by decide) (by omega) (hb hby d1_75) ?_
    intro v164 hv164
    have r164 := rng32 v164
    show ORun p e below s _ _ _ T163 (mkF m 76 #[.val (.ref a1), .val (.int (2 : Int32)), .val (.ref a2), .val (.int (0 : Int32)), .val (.int (5 : Int32)), .val (.int (5 : Int32)), .val (.int d4)] [(.int v164), (.int v162), (.int (1 : Int32)), (.ref b119)])
    refine own_by (fun t k => XS.iadd X163.here hx rfl (hb hby d1_76) rfl k) (own_letI (f := (fun z => (mkF m 77 #[.val (.ref a1), .val (.int (2 : Int32)), .val (.ref a2), .val (.int (0 : Int32)), .val (.int (5 : Int32)), .val (.int (5 : Int32)), .val (.int d4)] [(.int z), (.int (1 : Int32)), (.ref b119)]))) (v162 + v164) fun v165 hv165 => ?_)
    show ORun p e below s _ _ _ T163 (mkF m 77 #[.val (.ref a1), .val (.int (2 : Int32)), .val (.ref a2), .val (.int (0 : Int32)), .val (.int (5 : Int32)), .val (.int (5 : Int32)), .val (.int d4)] [(.int v165), (.int (1 : Int32)), (.ref b119)])
    have a165a : (v165.toInt - (v162.toInt + v164.toInt)) % 4294967296 = 0 := by rw [hv165]; exact c_iadd v162 v164
    have r165 := rng32 v165
    refine own_iastore X163 hx hZ e163 V158 (i := 1) (by decide) (by omega) (hb hby d1_77) ?_
    intro T166 h166 L166 X166 e166 W166 hL166 V166
    have len166 : L166.length = 3 := by rw [hL166, List.length_set]; exact len158
    have N166 := Fr.snoc X166 N158 old_b119
    show ORun p e below s _ _ _ T166 (mkF m 78 #[.val (.ref a1), .val (.int (2 : Int32)), .val (.ref a2), .val (.int (0 : Int32)), .val (.int (5 : Int32)), .val (.int (5 : Int32)), .val (.int d4)] [])
    have mb167 : L166 = own_acc L158 0 := by rw [hL166, hv165, hv162, hv164]; rfl
    clear r162 r164 a165a r165
    have Kz168 : Keep h0 h166 [a1] := (((Keep.refl h0 [a1]).trans Kz160 (allS (Or.inl (List.mem_of_getElem? (i := 0) rfl)) all0)).wr W166 (Or.inr sz_b119))
    have fz168_0 := (fz160_0.wr W166)
    have fz168_1 := (fz160_1.other W166 (Or.inl ne_a1_b119))
    have fz168_2 := (fz160_2.other W166 (Or.inl ne_a1_b119))
    have fz168_3 := (fz160_3.other W166 ne_a2_b119)
    have fz168_5 := (fz160_5.wr W166)
    refine own_by (fun t k => XS.iinc X166.here hx rfl (hb hby d1_78) rfl (l' := #[.val (.ref a1), .val (.int (2 : Int32)), .val (.ref a2), .val (.int (1 : Int32)), .val (.int (5 : Int32)), .val (.int (5 : Int32)), .val (.int d4)]) rfl k) ?_
    show ORun p e below s _ _ _ T166 (mkF m 81 #[.val (.ref a1), .val (.int (2 : Int32)), .val (.ref a2), .val (.int (1 : Int32)), .val (.int (5 : Int32)), .val (.int (5 : Int32)), .val (.int d4)] [])
    refine own_by (fun t k => XS.goto X166.here hx rfl (pc0 := 81) (pc' := 56) rfl (hb hby d1_81) (by decide) (by decide) k) ?_
    show ORun p e below s _ _ _ T166 (mkF m 56 #[.val (.ref a1), .val (.int (2 : Int32)), .val (.ref a2), .val (.int (1 : Int32)), .val (.int (5 : Int32)), .val (.int (5 : Int32)), .val (.int d4)] [])
    refine own_by (fun t k => XS.iloadN X166.here hx rfl (hb hby d1_56) rfl k) ?_
    show ORun p e below s _ _ _ T166 (mkF m 57 #[.val (.ref a1), .val (.int (2 : Int32)), .val (.ref a2), .val (.int (1 : Int32)), .val (.int (5 : Int32)), .val (.int (5 : Int32)), .val (.int d4)] [(.int (1 : Int32))])
    refine own_by (fun t k => XS.iloadN X166.here hx rfl (hb hby d1_57) rfl k) ?_
    show ORun p e below s _ _ _ T166 (mkF m 58 #[.val (.ref a1), .val (.int (2 : Int32)), .val (.ref a2), .val (.int (1 : Int32)), .val (.int (5 : Int32)), .val (.int (5 : Int32)), .val (.int d4)] [(.int (2 : Int32)), (.int (1 : Int32))])
    refine own_by (fun t k => XS.icmpNo X166.here hx rfl (hb hby d1_58) rfl (tlt (by decide)).2.1 k) ?_
    show ORun p e below s _ _ _ T166 (mkF m 61 #[.val (.ref a1), .val (.int (2 : Int32)), .val (.ref a2), .val (.int (1 : Int32)), .val (.int (5 : Int32)), .val (.int (5 : Int32)), .val (.int d4)] [])
    refine own_by (fun t k => XS.aloadN X166.here hx rfl (hb hby d1_61) rfl rfl k) ?_
    show ORun p e below s _ _ _ T166 (mkF m 62 #[.val (.ref a1), .val (.int (2 : Int32)), .val (.ref a2), .val (.int (1 : Int32)), .val (.int (5 : Int32)), .val (.int (5 : Int32)), .val (.int d4)] [(.ref a1)])
    obtain ⟨T169, X169, e169, st169⟩ := getF X166 hx hZ hown (host := "") (Or.inl (hw _ (List.mem_of_getElem? (i := 12) rfl))) Via.refl e166 fz168_1 (g := (mkF m 62 #[.val (.ref a1), .val (.int (2 : Int32)), .val (.ref a2), .val (.int (1 : Int32)), .val (.int (5 : Int32)), .val (.int (5 : Int32)), .val (.int d4)] [(.ref a1)])) rfl rfl (hb hby d1_62)
    refine own_by st169 ?_
    show ORun p e below s _ _ _ T169 (mkF m 65 #[.val (.ref a1), .val (.int (2 : Int32)), .val (.ref a2), .val (.int (1 : Int32)), .val (.int (5 : Int32)), .val (.int (5 : Int32)), .val (.int d4)] [(.ref b119)])
    refine own_by (fun t k => XS.iloadN X169.here hx rfl (hb hby d1_65) rfl k) ?_
    show ORun p e below s _ _ _ T169 (mkF m 66 #[.val (.ref a1), .val (.int (2 : Int32)), .val (.ref a2), .val (.int (1 : Int32)), .val (.int (5 : Int32)), .val (.int (5 : Int32)), .val (.int d4)] [(.int (1 : Int32)), (.ref b119)])
    refine own_by (fun t k => XS.iconst X169.here hx rfl (hb hby d1_66) k) ?_
    show ORun p e below s _ _ _ T169 (mkF m 67 #[.val (.ref a1), .val (.int (2 : Int32)), .val (.ref a2), .val (.int (1 : Int32)), .val (.int (5 : Int32)), .val (.int (5 : Int32)), .val (.int d4)] [(.int (1 : Int32)), (.int (1 : Int32)), (.ref b119)])
    refine own_by (fun t k => XS.iadd X169.here hx rfl (hb hby d1_67) rfl k) ?_
    show ORun p e below s _ _ _ T169 (mkF m 68 #[.val (.ref a1), .val (.int (2 : Int32)), .val (.ref a2), .val (.int (1 : Int32)), .val (.int (5 : Int32)), .val (.int (5 : Int32)), .val (.int d4)] [(.int (2 : Int32)), (.ref b119)])
    refine own_by (fun t k => XT.dup2 X169.here hx rfl (hb hby d1_68) rfl rfl rfl k) ?_
    show ORun p e below s _ _ _ T169 (mkF m 69 #[.val (.ref a1), .val (.int (2 : Int32)), .val (.ref a2), .val (.int (1 : Int32)), .val (.int (5 : Int32)), .val (.int (5 : Int32)), .val (.int d4)] [(.int (2 : Int32)), (.ref b119), (.int (2 : Int32)), (.ref b119)])
    refine own_iaload X169 hx hZ e169 V166 (i := 2) (by decide) (by omega) (hb hby d1_69) ?_
    intro v170 hv170
    have r170 := rng32 v170
    show ORun p e below s _ _ _ T169 (mkF m 70 #[.val (.ref a1), .val (.int (2 : Int32)), .val (.ref a2), .val (.int (1 : Int32)), .val (.int (5 : Int32)), .val (.int (5 : Int32)), .val (.int d4)] [(.int v170), (.int (2 : Int32)), (.ref b119)])
    refine own_by (fun t k => XS.aloadN X169.here hx rfl (hb hby d1_70) rfl rfl k) ?_
    show ORun p e below s _ _ _ T169 (mkF m 71 #[.val (.ref a1), .val (.int (2 : Int32)), .val (.ref a2), .val (.int (1 : Int32)), .val (.int (5 : Int32)), .val (.int (5 : Int32)), .val (.int d4)] [(.ref a1), (.int v170), (.int (2 : Int32)), (.ref b119)])
    obtain ⟨T171, X171, e171, st171⟩ := getF X169 hx hZ hown (host := "") (Or.inl (hw _ (List.mem_of_getElem? (i := 12) rfl))) Via.refl e169 fz168_1 (g := (mkF m 71 #[.val (.ref a1), .val (.int (2 : Int32)), .val (.ref a2), .val (.int (1 : Int32)), .val (.int (5 : Int32)), .val (.int (5 : Int32)), .val (.int d4)] [(.ref a1), (.int v170), (.int (2 : Int32)), (.ref b119)])) rfl rfl (hb hby d1_71)
    refine own_by st171 ?_
    show ORun p e below s _ _ _ T171 (mkF m 74 #[.val (.ref a1), .val (.int (2 : Int32)), .val (.ref a2), .val (.int (1 : Int32)), .val (.int (5 : Int32)), .val (.int (5 : Int32)), .val (.int d4)] [(.ref b119), (.int v170), (.int (2 : Int32)), (.ref b119)])
    refine own_by (fun t k => XS.iloadN X171.here hx rfl (hb hby d1_74) rfl k) ?_
    show ORun p e below s _ _ _ T171 (mkF m 75 #[.val (.ref a1), .val (.int (2 : Int32)), .val (.ref a2), .val (.int (1 : Int32)), .val (.int (5 : Int32)), .val (.int (5 : Int32)), .val (.int d4)] [(.int (1 : Int32)), (.ref b119), (.int v170), (.int (2 : Int32)), (.ref b119)])
    refine own_iaload X171 hx hZ e171 V166 (i := 1) (by decide) (by omega) (hb hby d1_75) ?_
    intro v172 hv172
    have r172 := rng32 v172
    show ORun p e below s _ _ _ T171 (mkF m 76 #[.val (.ref a1), .val (.int (2 : Int32)), .val (.ref a2), .val (.int (1 : Int32)), .val (.int (5 : Int32)), .val (.int (5 : Int32)), .val (.int d4)] [(.int v172), (.int v170), (.int (2 : Int32)), (.ref b119)])
    refine own_by (fun t k => XS.iadd X171.here hx rfl (hb hby d1_76) rfl k) (own_letI (f := (fun z => (mkF m 77 #[.val (.ref a1), .val (.int (2 : Int32)), .val (.ref a2), .val (.int (1 : Int32)), .val (.int (5 : Int32)), .val (.int (5 : Int32)), .val (.int d4)] [(.int z), (.int (2 : Int32)), (.ref b119)]))) (v170 + v172) fun v173 hv173 => ?_)
    show ORun p e below s _ _ _ T171 (mkF m 77 #[.val (.ref a1), .val (.int (2 : Int32)), .val (.ref a2), .val (.int (1 : Int32)), .val (.int (5 : Int32)), .val (.int (5 : Int32)), .val (.int d4)] [(.int v173), (.int (2 : Int32)), (.ref b119)])
    have a173a : (v173.toInt - (v170.toInt + v172.toInt)) % 4294967296 = 0 := by rw [hv173]; exact c_iadd v170 v172
    have r173 := rng32 v173
    refine own_iastore X171 hx hZ e171 V166 (i := 2) (by decide) (by omega) (hb hby d1_77) ?_
    intro T174 h174 L174 X174 e174 W174 hL174 V174
    have len174 : L174.length = 3 := by rw [hL174, List.length_set]; exact len166
    have N174 := Fr.snoc X174 N166 old_b119
    show ORun p e below s _ _ _ T174 (mkF m 78 #[.val (.ref a1), .val (.int (2 : Int32)), .val (.ref a2), .val (.int (1 : Int32)), .val (.int (5 : Int32)), .val (.int (5 : Int32)), .val (.int d4)] [])
    have mb175 : L174 = own_acc L166 1 := by rw [hL174, hv173, hv170, hv172]; rfl
    clear r170 r172 a173a r173
    have Kz176 : Keep h0 h174 [a1] := (((Keep.refl h0 [a1]).trans Kz168 (allS (Or.inl (List.mem_of_getElem? (i := 0) rfl)) all0)).wr W174 (Or.inr sz_b119))
    have fz176_0 := (fz168_0.wr W174)
    have fz176_1 := (fz168_1.other W174 (Or.inl ne_a1_b119))
    have fz176_2 := (fz168_2.other W174 (Or.inl ne_a1_b119))
    have fz176_3 := (fz168_3.other W174 ne_a2_b119)
    have fz176_5 := (fz168_5.wr W174)
    refine own_by (fun t k => XS.iinc X174.here hx rfl (hb hby d1_78) rfl (l' := #[.val (.ref a1), .val (.int (2 : Int32)), .val (.ref a2), .val (.int (2 : Int32)), .val (.int (5 : Int32)), .val (.int (5 : Int32)), .val (.int d4)]) rfl k) ?_
    show ORun p e below s _ _ _ T174 (mkF m 81 #[.val (.ref a1), .val (.int (2 : Int32)), .val (.ref a2), .val (.int (2 : Int32)), .val (.int (5 : Int32)), .val (.int (5 : Int32)), .val (.int d4)] [])
    refine own_by (fun t k => XS.goto X174.here hx rfl (pc0 := 81) (pc' := 56) rfl (hb hby d1_81) (by decide) (by decide) k) ?_
    show ORun p e below s _ _ _ T174 (mkF m 56 #[.val (.ref a1), .val (.int (2 : Int32)), .val (.ref a2), .val (.int (2 : Int32)), .val (.int (5 : Int32)), .val (.int (5 : Int32)), .val (.int d4)] [])
    refine own_by (fun t k => XS.iloadN X174.here hx rfl (hb hby d1_56) rfl k) ?_
    show ORun p e below s _ _ _ T174 (mkF m 57 #[.val (.ref a1), .val (.int (2 : Int32)), .val (.ref a2), .val (.int (2 : Int32)), .val (.int (5 : Int32)), .val (.int (5 : Int32)), .val (.int d4)] [(.int (2 : Int32))])
    refine own_by (fun t k => XS.iloadN X174.here hx rfl (hb hby d1_57) rfl k) ?_
    show ORun p e below s _ _ _ T174 (mkF m 58 #[.val (.ref a1), .val (.int (2 : Int32)), .val (.ref a2), .val (.int (2 : Int32)), .val (.int (5 : Int32)), .val (.int (5 : Int32)), .val (.int d4)] [(.int (2 : Int32)), (.int (2 : Int32))])
    refine own_by (fun t k => XS.icmpYes X174.here hx rfl (pc0 := 58) (pc' := 84) rfl (hb hby d1_58) rfl (flt (by decide)).2.1 (by decide) (by decide) k) ?_
    show ORun p e below s _ _ _ T174 (mkF m 84 #[.val (.ref a1), .val (.int (2 : Int32)), .val (.ref a2), .val (.int (2 : Int32)), .val (.int (5 : Int32)), .val (.int (5 : Int32)), .val (.int d4)] [])
    have mS177 : L174 = own_S 2 [d0, d1, d2, d3, d4] := by rw [mb175, mb167, mb159, mb151, mb143, mb135, mb127, hL119]; rfl
    refine own_by (fun t k => XS.aloadN X174.here hx rfl (hb hby d1_84) rfl rfl k) ?_
    show ORun p e below s _ _ _ T174 (mkF m 85 #[.val (.ref a1), .val (.int (2 : Int32)), .val (.ref a2), .val (.int (2 : Int32)), .val (.int (5 : Int32)), .val (.int (5 : Int32)), .val (.int d4)] [(.ref a1)])
    refine own_by (fun t k => XS.aloadN X174.here hx rfl (hb hby d1_85) rfl rfl k) ?_
    show ORun p e below s _ _ _ T174 (mkF m 86 #[.val (.ref a1), .val (.int (2 : Int32)), .val (.ref a2), .val (.int (2 : Int32)), .val (.int (5 : Int32)), .val (.int (5 : Int32)), .val (.int d4)] [(.ref a2), (.ref a1)])
    refine own_len X174 hx hZ e174 fz176_3 (n := 5) lds (hb hby d1_86) ?_
    show ORun p e below s _ _ _ T174 (mkF m 87 #[.val (.ref a1), .val (.int (2 : Int32)), .val (.ref a2), .val (.int (2 : Int32)), .val (.int (5 : Int32)), .val (.int (5 : Int32)), .val (.int d4)] [(.int (5 : Int32)), (.ref a1)])
    refine own_newarray X174 hx hZ (aty := .int) (hw _ (List.mem_of_getElem? (i := 1) rfl)) e174 rfl (N := 5) (cap := 5) (by decide) (Nat.le_refl _) (by decide) (by decide) (by decide) (ad := "[I") (by decide) (hb hby d1_87) ?_
    intro T178 h178 b178 L178 g178 X178 e178 E178 hL178 V178 Ex178
    have len178 : L178.length = 5 := by rw [hL178]; exact List.length_replicate
    have old_b178 : n0 ≤ b178 := Nat.le_trans (Nat.le_trans Z0 Kz176.1) (Nat.le_of_eq g178.symm)
    have sz_b178 : h0.size ≤ b178 := Nat.le_trans (Nat.le_trans (Nat.le_refl h0.size) Kz176.1) (Nat.le_of_eq g178.symm)
    have ne_a1_b178 : a1 ≠ b178 := Nat.ne_of_lt (Nat.lt_of_lt_of_le fz176_0.lt (Nat.le_of_eq g178.symm))
    have ne_a2_b178 : a2 ≠ b178 := Nat.ne_of_lt (Nat.lt_of_lt_of_le fz176_3.lt (Nat.le_of_eq g178.symm))
    have ne_b119_b178 : b119 ≠ b178 := Nat.ne_of_lt (Nat.lt_of_lt_of_le V174.lt (Nat.le_of_eq g178.symm))
    show ORun p e below s _ _ _ T178 (mkF m 89 #[.val (.ref a1), .val (.int (2 : Int32)), .val (.ref a2), .val (.int (2 : Int32)), .val (.int (5 : Int32)), .val (.int (5 : Int32)), .val (.int d4)] [(.ref b178), (.ref a1)])
    obtain ⟨T179, h179, X179, e179, W179, st179⟩ := putF X178 hx hZ hown (host := "") (Or.inl (hw _ (List.mem_of_getElem? (i := 14) rfl))) Via.refl e178 (fz176_2.ext E178) (fz176_0.ext E178) (Or.inr ⟨(hw _ (List.mem_of_getElem? (i := 15) rfl)), rfl, hnm⟩) (hw _ (List.mem_of_getElem? (i := 4) rfl)) (ty := (.array .int)) (by decide) rfl rfl (g := (mkF m 89 #[.val (.ref a1), .val (.int (2 : Int32)), .val (.ref a2), .val (.int (2 : Int32)), .val (.int (5 : Int32)), .val (.int (5 : Int32)), .val (.int d4)] [(.ref b178), (.ref a1)])) rfl rfl (hb hby d1_89)
    have Fw179 := Fld.same W179 (fz176_2.ext E178)
    have N179 := Fr.snoc X179 N174 g_a1
    refine own_by st179 ?_
    show ORun p e below s _ _ _ T179 (mkF m 92 #[.val (.ref a1), .val (.int (2 : Int32)), .val (.ref a2), .val (.int (2 : Int32)), .val (.int (5 : Int32)), .val (.int (5 : Int32)), .val (.int d4)] [])
    refine own_by (fun t k => XS.aloadN X179.here hx rfl (hb hby d1_92) rfl rfl k) ?_
    show ORun p e below s _ _ _ T179 (mkF m 93 #[.val (.ref a1), .val (.int (2 : Int32)), .val (.ref a2), .val (.int (2 : Int32)), .val (.int (5 : Int32)), .val (.int (5 : Int32)), .val (.int d4)] [(.ref a1)])
    obtain ⟨T180, X180, e180, st180⟩ := getF X179 hx hZ hown (host := "") (Or.inl (hw _ (List.mem_of_getElem? (i := 12) rfl))) Via.refl e179 ((fz176_1.ext E178).other W179 (Or.inr (slot_ne (Or.inr (hw _ (List.mem_of_getElem? (i := 13) rfl))) (Or.inr (hw _ (List.mem_of_getElem? (i := 15) rfl))) (by decide) (t := (.array .int)) (t' := (.array .int)) (by decide) (by decide)))) (g := (mkF m 93 #[.val (.ref a1), .val (.int (2 : Int32)), .val (.ref a2), .val (.int (2 : Int32)), .val (.int (5 : Int32)), .val (.int (5 : Int32)), .val (.int d4)] [(.ref a1)])) rfl rfl (hb hby d1_93)
    refine own_by st180 ?_
    show ORun p e below s _ _ _ T180 (mkF m 96 #[.val (.ref a1), .val (.int (2 : Int32)), .val (.ref a2), .val (.int (2 : Int32)), .val (.int (5 : Int32)), .val (.int (5 : Int32)), .val (.int d4)] [(.ref b119)])
    refine own_by (fun t k => XS.iloadN X180.here hx rfl (hb hby d1_96) rfl k) ?_
    show ORun p e below s _ _ _ T180 (mkF m 97 #[.val (.ref a1), .val (.int (2 : Int32)), .val (.ref a2), .val (.int (2 : Int32)), .val (.int (5 : Int32)), .val (.int (5 : Int32)), .val (.int d4)] [(.int (2 : Int32)), (.ref b119)])
    refine own_callS X180 hx hZ hown (hw _ (List.mem_of_getElem? (i := 16) rfl)) (hw _ (List.mem_of_getElem? (i := 17) rfl)) (hw _ (List.mem_of_getElem? (i := 18) rfl)) (hw _ (List.mem_of_getElem? (i := 19) rfl)) (by decide) (rm3 l Z a0 hw [] h179 n0 (Nat.le_trans (Nat.le_trans (Nat.le_trans Z0 Kz176.1) E178.1) (Keep.of_wr W179).1) b119 (2 : Int32) L174 3 2 ((V174.ext E178).other W179 (Ne.symm ne_a1_b119)) len174 (by decide) (by omega)) e180 (by decide) (W := 0) (by decide) (by decide) (by decide) (argsL := [(.ref b119), (.int (2 : Int32))]) (rest := []) (by rw [hml]; rfl) (lenOf pd_3 rfl) rfl rfl (Nat.le_of_eq rfl) (hb hby d1_97) ?_
    intro T181 L181 u181 X181 hQ181
    obtain ⟨o181, rfl, Nq181, K181, sz_q181, Vq181⟩ := hQ181
    have N181 := Fr.app N179 Nq181
    have sz_o181 : h0.size ≤ o181 := Nat.le_trans (Nat.le_trans (Nat.le_trans (Nat.le_trans (Nat.le_refl h0.size) Kz176.1) E178.1) (Keep.of_wr W179).1) sz_q181
    have old_o181 : n0 ≤ o181 := Nat.le_trans Z0 sz_o181
    have ne_a1_o181 : a1 ≠ o181 := Nat.ne_of_lt (Nat.lt_of_lt_of_le ((fz176_0.ext E178).wr W179).lt sz_q181)
    have ne_a2_o181 : a2 ≠ o181 := Nat.ne_of_lt (Nat.lt_of_lt_of_le ((fz176_3.ext E178).other W179 (Ne.symm ne12)).lt sz_q181)
    have ne_b119_o181 : b119 ≠ o181 := Nat.ne_of_lt (Nat.lt_of_lt_of_le ((V174.ext E178).other W179 (Ne.symm ne_a1_b119)).lt sz_q181)
    have ne_b178_o181 : b178 ≠ o181 := Nat.ne_of_lt (Nat.lt_of_lt_of_le (V178.other W179 (Ne.symm ne_a1_b178)).lt sz_q181)
    obtain ⟨L181, hL181⟩ : ∃ z, z = L174.take 2 := ⟨_, rfl⟩
    rw [← hL181] at Vq181
    have len181 : L181.length = 2 := by rw [hL181, List.length_take]; omega
    have mN181 : L181 = own_N 2 [d0, d1, d2, d3, d4] 0 := by rw [hL181, mS177]; show _ = (own_S 2 [d0, d1, d2, d3, d4]).take 2; rfl
    show ORun p e below s _ _ _ T181 (mkF m 100 #[.val (.ref a1), .val (.int (2 : Int32)), .val (.ref a2), .val (.int (2 : Int32)), .val (.int (5 : Int32)), .val (.int (5 : Int32)), .val (.int d4)] [(.ref o181)])
    refine own_by (fun t k => XS.astoreN X181.here hx rfl (hb hby d1_100) rfl rfl (l' := #[.val (.ref a1), .val (.int (2 : Int32)), .val (.ref a2), .val (.ref o181), .val (.int (5 : Int32)), .val (.int (5 : Int32)), .val (.int d4)]) rfl k) ?_
    show ORun p e below s _ _ _ T181 (mkF m 101 #[.val (.ref a1), .val (.int (2 : Int32)), .val (.ref a2), .val (.ref o181), .val (.int (5 : Int32)), .val (.int (5 : Int32)), .val (.int d4)] [])
    refine own_by (fun t k => XS.iconst X181.here hx rfl (hb hby d1_101) k) ?_
    show ORun p e below s _ _ _ T181 (mkF m 102 #[.val (.ref a1), .val (.int (2 : Int32)), .val (.ref a2), .val (.ref o181), .val (.int (5 : Int32)), .val (.int (5 : Int32)), .val (.int d4)] [(.int (0 : Int32))])
    refine own_by (fun t k => XS.istore X181.here hx rfl (hb hby d1_102) rfl (l' := #[.val (.ref a1), .val (.int (2 : Int32)), .val (.ref a2), .val (.ref o181), .val (.int (0 : Int32)), .val (.int (5 : Int32)), .val (.int d4)]) rfl k) ?_
    show ORun p e below s _ _ _ T181 (mkF m 104 #[.val (.ref a1), .val (.int (2 : Int32)), .val (.ref a2), .val (.ref o181), .val (.int (0 : Int32)), .val (.int (5 : Int32)), .val (.int d4)] [])
    refine own_by (fun t k => XS.iload X181.here hx rfl (hb hby d1_104) rfl k) ?_
    show ORun p e below s _ _ _ T181 (mkF m 106 #[.val (.ref a1), .val (.int (2 : Int32)), .val (.ref a2), .val (.ref o181), .val (.int (0 : Int32)), .val (.int (5 : Int32)), .val (.int d4)] [(.int (0 : Int32))])
    refine own_by (fun t k => XS.aloadN X181.here hx rfl (hb hby d1_106) rfl rfl k) ?_
    show ORun p e below s _ _ _ T181 (mkF m 107 #[.val (.ref a1), .val (.int (2 : Int32)), .val (.ref a2), .val (.ref o181), .val (.int (0 : Int32)), .val (.int (5 : Int32)), .val (.int d4)] [(.ref a2), (.int (0 : Int32))])
    refine own_len X181 hx hZ rfl (((fz176_3.ext E178).other W179 (Ne.symm ne12)).keep K181 nin0) (n := 5) lds (hb hby d1_107) ?_
    show ORun p e below s _ _ _ T181 (mkF m 108 #[.val (.ref a1), .val (.int (2 : Int32)), .val (.ref a2), .val (.ref o181), .val (.int (0 : Int32)), .val (.int (5 : Int32)), .val (.int d4)] [(.int (5 : Int32)), (.int (0 : Int32))])
    refine own_by (fun t k => XS.icmpNo X181.here hx rfl (hb hby d1_108) rfl (tlt (by decide)).2.1 k) ?_
    show ORun p e below s _ _ _ T181 (mkF m 111 #[.val (.ref a1), .val (.int (2 : Int32)), .val (.ref a2), .val (.ref o181), .val (.int (0 : Int32)), .val (.int (5 : Int32)), .val (.int d4)] [])
    refine own_by (fun t k => XS.aloadN X181.here hx rfl (hb hby d1_111) rfl rfl k) ?_
    show ORun p e below s _ _ _ T181 (mkF m 112 #[.val (.ref a1), .val (.int (2 : Int32)), .val (.ref a2), .val (.ref o181), .val (.int (0 : Int32)), .val (.int (5 : Int32)), .val (.int d4)] [(.ref a1)])
    obtain ⟨T182, X182, e182, st182⟩ := getF X181 hx hZ hown (host := "") (Or.inl (hw _ (List.mem_of_getElem? (i := 14) rfl))) Via.refl rfl (Fw179.keep K181 nin0) (g := (mkF m 112 #[.val (.ref a1), .val (.int (2 : Int32)), .val (.ref a2), .val (.ref o181), .val (.int (0 : Int32)), .val (.int (5 : Int32)), .val (.int d4)] [(.ref a1)])) rfl rfl (hb hby d1_112)
    refine own_by st182 ?_
    show ORun p e below s _ _ _ T182 (mkF m 115 #[.val (.ref a1), .val (.int (2 : Int32)), .val (.ref a2), .val (.ref o181), .val (.int (0 : Int32)), .val (.int (5 : Int32)), .val (.int d4)] [(.ref b178)])
    refine own_by (fun t k => XS.aloadN X182.here hx rfl (hb hby d1_115) rfl rfl k) ?_
    show ORun p e below s _ _ _ T182 (mkF m 116 #[.val (.ref a1), .val (.int (2 : Int32)), .val (.ref a2), .val (.ref o181), .val (.int (0 : Int32)), .val (.int (5 : Int32)), .val (.int d4)] [(.ref o181), (.ref b178)])
    refine own_by (fun t k => XS.aloadN X182.here hx rfl (hb hby d1_116) rfl rfl k) ?_
    show ORun p e below s _ _ _ T182 (mkF m 117 #[.val (.ref a1), .val (.int (2 : Int32)), .val (.ref a2), .val (.ref o181), .val (.int (0 : Int32)), .val (.int (5 : Int32)), .val (.int d4)] [(.ref a2), (.ref o181), (.ref b178)])
    refine own_by (fun t k => XS.iload X182.here hx rfl (hb hby d1_117) rfl k) ?_
    show ORun p e below s _ _ _ T182 (mkF m 119 #[.val (.ref a1), .val (.int (2 : Int32)), .val (.ref a2), .val (.ref o181), .val (.int (0 : Int32)), .val (.int (5 : Int32)), .val (.int d4)] [(.int (0 : Int32)), (.ref a2), (.ref o181), (.ref b178)])
    refine own_iaload X182 hx hZ e182 (((fz176_3.ext E178).other W179 (Ne.symm ne12)).keep K181 nin0) (i := 0) (by decide) (by omega) (hb hby d1_119) ?_
    intro v183 hv183
    obtain rfl : d0 = v183 := hv183.symm
    show ORun p e below s _ _ _ T182 (mkF m 120 #[.val (.ref a1), .val (.int (2 : Int32)), .val (.ref a2), .val (.ref o181), .val (.int (0 : Int32)), .val (.int (5 : Int32)), .val (.int d4)] [(.int d0), (.ref o181), (.ref b178)])
    refine own_iaload X182 hx hZ e182 Vq181 (i := d0.toInt.toNat) (by omega) (by omega) (hb hby d1_120) ?_
    intro v184 hv184
    have r184 := rng32 v184
    show ORun p e below s _ _ _ T182 (mkF m 121 #[.val (.ref a1), .val (.int (2 : Int32)), .val (.ref a2), .val (.ref o181), .val (.int (0 : Int32)), .val (.int (5 : Int32)), .val (.int d4)] [(.int v184), (.ref b178)])
    have mp185 : v184 = own_pos 2 [d0, d1, d2, d3, d4] 0 := by rw [hv184, mN181]; show _ = (own_N 2 [d0, d1, d2, d3, d4] 0).getD (([d0, d1, d2, d3, d4] : List Int32).getD 0 0).toInt.toNat 0; rfl
    have bp185 := own_Ppos PP 0 (by decide)
    rw [← mp185] at bp185
    refine own_by (fun t k => XS.iload X182.here hx rfl (hb hby d1_121) rfl k) ?_
    show ORun p e below s _ _ _ T182 (mkF m 123 #[.val (.ref a1), .val (.int (2 : Int32)), .val (.ref a2), .val (.ref o181), .val (.int (0 : Int32)), .val (.int (5 : Int32)), .val (.int d4)] [(.int (0 : Int32)), (.int v184), (.ref b178)])
    refine own_iastore X182 hx hZ e182 ((V178.other W179 (Ne.symm ne_a1_b178)).keep K181 nin0) (i := v184.toInt.toNat) (by omega) (by omega) (hb hby d1_123) ?_
    intro T186 h186 L186 X186 e186 W186 hL186 V186
    have len186 : L186.length = 5 := by rw [hL186, List.length_set]; exact len178
    have N186 := Fr.snoc X186 N181 old_b178
    show ORun p e below s _ _ _ T186 (mkF m 124 #[.val (.ref a1), .val (.int (2 : Int32)), .val (.ref a2), .val (.ref o181), .val (.int (0 : Int32)), .val (.int (5 : Int32)), .val (.int d4)] [])
    have mE187 : L178 = own_Dk 2 [d0, d1, d2, d3, d4] 0 := by rw [hL178]; rfl
    have mF187 : L186 = own_Dk 2 [d0, d1, d2, d3, d4] 1 := by rw [hL186, mp185, mE187]; show _ = (own_Dk 2 [d0, d1, d2, d3, d4] 0).set (own_pos 2 [d0, d1, d2, d3, d4] 0).toInt.toNat (Int32.ofNat 0); rfl
    refine own_by (fun t k => XS.aloadN X186.here hx rfl (hb hby d1_124) rfl rfl k) ?_
    show ORun p e below s _ _ _ T186 (mkF m 125 #[.val (.ref a1), .val (.int (2 : Int32)), .val (.ref a2), .val (.ref o181), .val (.int (0 : Int32)), .val (.int (5 : Int32)), .val (.int d4)] [(.ref o181)])
    refine own_by (fun t k => XS.aloadN X186.here hx rfl (hb hby d1_125) rfl rfl k) ?_
    show ORun p e below s _ _ _ T186 (mkF m 126 #[.val (.ref a1), .val (.int (2 : Int32)), .val (.ref a2), .val (.ref o181), .val (.int (0 : Int32)), .val (.int (5 : Int32)), .val (.int d4)] [(.ref a2), (.ref o181)])
    refine own_by (fun t k => XS.iload X186.here hx rfl (hb hby d1_126) rfl k) ?_
    show ORun p e below s _ _ _ T186 (mkF m 128 #[.val (.ref a1), .val (.int (2 : Int32)), .val (.ref a2), .val (.ref o181), .val (.int (0 : Int32)), .val (.int (5 : Int32)), .val (.int d4)] [(.int (0 : Int32)), (.ref a2), (.ref o181)])
    refine own_iaload X186 hx hZ e186 ((((fz176_3.ext E178).other W179 (Ne.symm ne12)).keep K181 nin0).other W186 ne_a2_b178) (i := 0) (by decide) (by omega) (hb hby d1_128) ?_
    intro v188 hv188
    obtain rfl : d0 = v188 := hv188.symm
    show ORun p e below s _ _ _ T186 (mkF m 129 #[.val (.ref a1), .val (.int (2 : Int32)), .val (.ref a2), .val (.ref o181), .val (.int (0 : Int32)), .val (.int (5 : Int32)), .val (.int d4)] [(.int d0), (.ref o181)])
    refine own_by (fun t k => XT.dup2 X186.here hx rfl (hb hby d1_129) rfl rfl rfl k) ?_
    show ORun p e below s _ _ _ T186 (mkF m 130 #[.val (.ref a1), .val (.int (2 : Int32)), .val (.ref a2), .val (.ref o181), .val (.int (0 : Int32)), .val (.int (5 : Int32)), .val (.int d4)] [(.int d0), (.ref o181), (.int d0), (.ref o181)])
    refine own_iaload X186 hx hZ e186 (Vq181.other W186 (Ne.symm ne_b178_o181)) (i := d0.toInt.toNat) (by omega) (by omega) (hb hby d1_130) ?_
    intro v189 hv189
    have r189 := rng32 v189
    show ORun p e below s _ _ _ T186 (mkF m 131 #[.val (.ref a1), .val (.int (2 : Int32)), .val (.ref a2), .val (.ref o181), .val (.int (0 : Int32)), .val (.int (5 : Int32)), .val (.int d4)] [(.int v189), (.int d0), (.ref o181)])
    refine own_by (fun t k => XS.iconst X186.here hx rfl (hb hby d1_131) k) ?_
    show ORun p e below s _ _ _ T186 (mkF m 132 #[.val (.ref a1), .val (.int (2 : Int32)), .val (.ref a2), .val (.ref o181), .val (.int (0 : Int32)), .val (.int (5 : Int32)), .val (.int d4)] [(.int (1 : Int32)), (.int v189), (.int d0), (.ref o181)])
    refine own_by (fun t k => XS.iadd X186.here hx rfl (hb hby d1_132) rfl k) (own_letI (f := (fun z => (mkF m 133 #[.val (.ref a1), .val (.int (2 : Int32)), .val (.ref a2), .val (.ref o181), .val (.int (0 : Int32)), .val (.int (5 : Int32)), .val (.int d4)] [(.int z), (.int d0), (.ref o181)]))) (v189 + (1 : Int32)) fun v190 hv190 => ?_)
    show ORun p e below s _ _ _ T186 (mkF m 133 #[.val (.ref a1), .val (.int (2 : Int32)), .val (.ref a2), .val (.ref o181), .val (.int (0 : Int32)), .val (.int (5 : Int32)), .val (.int d4)] [(.int v190), (.int d0), (.ref o181)])
    have a190a : (v190.toInt - (v189.toInt + 1)) % 4294967296 = 0 := by rw [hv190]; exact c_iadd v189 (1 : Int32)
    have r190 := rng32 v190
    refine own_iastore X186 hx hZ e186 (Vq181.other W186 (Ne.symm ne_b178_o181)) (i := d0.toInt.toNat) (by omega) (by omega) (hb hby d1_133) ?_
    intro T191 h191 L191 X191 e191 W191 hL191 V191
    have len191 : L191.length = 2 := by rw [hL191, List.length_set]; exact len181
    have N191 := Fr.snoc X191 N186 old_o181
    show ORun p e below s _ _ _ T191 (mkF m 134 #[.val (.ref a1), .val (.int (2 : Int32)), .val (.ref a2), .val (.ref o181), .val (.int (0 : Int32)), .val (.int (5 : Int32)), .val (.int d4)] [])
    have mN192 : L191 = own_N 2 [d0, d1, d2, d3, d4] 1 := by rw [hL191, hv190, hv189, mN181]; show _ = (own_N 2 [d0, d1, d2, d3, d4] 0).set (([d0, d1, d2, d3, d4] : List Int32).getD 0 0).toInt.toNat ((own_N 2 [d0, d1, d2, d3, d4] 0).getD (([d0, d1, d2, d3, d4] : List Int32).getD 0 0).toInt.toNat 0 + 1); rfl
    clear r184 bp185 r189 a190a r190
    have Kz193 : Keep h0 h191 [a1] := (((((((Keep.refl h0 [a1]).trans Kz176 (allS (Or.inl (List.mem_of_getElem? (i := 0) rfl)) all0)).ext E178).wr W179 (Or.inl (List.mem_of_getElem? (i := 0) rfl))).trans K181 all0).wr W186 (Or.inr sz_b178)).wr W191 (Or.inr sz_o181))
    have fz193_0 := (((((fz176_0.ext E178).wr W179).keep K181).wr W186).wr W191)
    have fz193_1 := (((((fz176_1.ext E178).other W179 (Or.inr (slot_ne (Or.inr (hw _ (List.mem_of_getElem? (i := 13) rfl))) (Or.inr (hw _ (List.mem_of_getElem? (i := 15) rfl))) (by decide) (t := (.array .int)) (t' := (.array .int)) (by decide) (by decide)))).keep K181 nin0).other W186 (Or.inl ne_a1_b178)).other W191 (Or.inl ne_a1_o181))
    have fz193_2 := (((Fw179.keep K181 nin0).other W186 (Or.inl ne_a1_b178)).other W191 (Or.inl ne_a1_o181))
    have fz193_3 := (((((fz176_3.ext E178).other W179 (Ne.symm ne12)).keep K181 nin0).other W186 ne_a2_b178).other W191 ne_a2_o181)
    have fz193_4 := (((((V174.ext E178).other W179 (Ne.symm ne_a1_b119)).keep K181 nin0).other W186 ne_b119_b178).other W191 ne_b119_o181)
    have fz193_5 := (((((fz176_5.ext E178).wr W179).keep K181).wr W186).wr W191)
    have fz193_6 := (V186.other W191 ne_b178_o181)
    have fz193_7 := ((((Ex178.wr W179).keep K181).wr W186).wr W191)
    refine own_by (fun t k => XS.iinc X191.here hx rfl (hb hby d1_134) rfl (l' := #[.val (.ref a1), .val (.int (2 : Int32)), .val (.ref a2), .val (.ref o181), .val (.int (1 : Int32)), .val (.int (5 : Int32)), .val (.int d4)]) rfl k) ?_
    show ORun p e below s _ _ _ T191 (mkF m 137 #[.val (.ref a1), .val (.int (2 : Int32)), .val (.ref a2), .val (.ref o181), .val (.int (1 : Int32)), .val (.int (5 : Int32)), .val (.int d4)] [])
    refine own_by (fun t k => XS.goto X191.here hx rfl (pc0 := 137) (pc' := 104) rfl (hb hby d1_137) (by decide) (by decide) k) ?_
    show ORun p e below s _ _ _ T191 (mkF m 104 #[.val (.ref a1), .val (.int (2 : Int32)), .val (.ref a2), .val (.ref o181), .val (.int (1 : Int32)), .val (.int (5 : Int32)), .val (.int d4)] [])
    refine own_by (fun t k => XS.iload X191.here hx rfl (hb hby d1_104) rfl k) ?_
    show ORun p e below s _ _ _ T191 (mkF m 106 #[.val (.ref a1), .val (.int (2 : Int32)), .val (.ref a2), .val (.ref o181), .val (.int (1 : Int32)), .val (.int (5 : Int32)), .val (.int d4)] [(.int (1 : Int32))])
    refine own_by (fun t k => XS.aloadN X191.here hx rfl (hb hby d1_106) rfl rfl k) ?_
    show ORun p e below s _ _ _ T191 (mkF m 107 #[.val (.ref a1), .val (.int (2 : Int32)), .val (.ref a2), .val (.ref o181), .val (.int (1 : Int32)), .val (.int (5 : Int32)), .val (.int d4)] [(.ref a2), (.int (1 : Int32))])
    refine own_len X191 hx hZ e191 fz193_3 (n := 5) lds (hb hby d1_107) ?_
    show ORun p e below s _ _ _ T191 (mkF m 108 #[.val (.ref a1), .val (.int (2 : Int32)), .val (.ref a2), .val (.ref o181), .val (.int (1 : Int32)), .val (.int (5 : Int32)), .val (.int d4)] [(.int (5 : Int32)), (.int (1 : Int32))])
    refine own_by (fun t k => XS.icmpNo X191.here hx rfl (hb hby d1_108) rfl (tlt (by decide)).2.1 k) ?_
    show ORun p e below s _ _ _ T191 (mkF m 111 #[.val (.ref a1), .val (.int (2 : Int32)), .val (.ref a2), .val (.ref o181), .val (.int (1 : Int32)), .val (.int (5 : Int32)), .val (.int d4)] [])
    refine own_by (fun t k => XS.aloadN X191.here hx rfl (hb hby d1_111) rfl rfl k) ?_
    show ORun p e below s _ _ _ T191 (mkF m 112 #[.val (.ref a1), .val (.int (2 : Int32)), .val (.ref a2), .val (.ref o181), .val (.int (1 : Int32)), .val (.int (5 : Int32)), .val (.int d4)] [(.ref a1)])
    obtain ⟨T194, X194, e194, st194⟩ := getF X191 hx hZ hown (host := "") (Or.inl (hw _ (List.mem_of_getElem? (i := 14) rfl))) Via.refl e191 fz193_2 (g := (mkF m 112 #[.val (.ref a1), .val (.int (2 : Int32)), .val (.ref a2), .val (.ref o181), .val (.int (1 : Int32)), .val (.int (5 : Int32)), .val (.int d4)] [(.ref a1)])) rfl rfl (hb hby d1_112)
    refine own_by st194 ?_
    show ORun p e below s _ _ _ T194 (mkF m 115 #[.val (.ref a1), .val (.int (2 : Int32)), .val (.ref a2), .val (.ref o181), .val (.int (1 : Int32)), .val (.int (5 : Int32)), .val (.int d4)] [(.ref b178)])
    refine own_by (fun t k => XS.aloadN X194.here hx rfl (hb hby d1_115) rfl rfl k) ?_
    show ORun p e below s _ _ _ T194 (mkF m 116 #[.val (.ref a1), .val (.int (2 : Int32)), .val (.ref a2), .val (.ref o181), .val (.int (1 : Int32)), .val (.int (5 : Int32)), .val (.int d4)] [(.ref o181), (.ref b178)])
    refine own_by (fun t k => XS.aloadN X194.here hx rfl (hb hby d1_116) rfl rfl k) ?_
    show ORun p e below s _ _ _ T194 (mkF m 117 #[.val (.ref a1), .val (.int (2 : Int32)), .val (.ref a2), .val (.ref o181), .val (.int (1 : Int32)), .val (.int (5 : Int32)), .val (.int d4)] [(.ref a2), (.ref o181), (.ref b178)])
    refine own_by (fun t k => XS.iload X194.here hx rfl (hb hby d1_117) rfl k) ?_
    show ORun p e below s _ _ _ T194 (mkF m 119 #[.val (.ref a1), .val (.int (2 : Int32)), .val (.ref a2), .val (.ref o181), .val (.int (1 : Int32)), .val (.int (5 : Int32)), .val (.int d4)] [(.int (1 : Int32)), (.ref a2), (.ref o181), (.ref b178)])
    refine own_iaload X194 hx hZ e194 fz193_3 (i := 1) (by decide) (by omega) (hb hby d1_119) ?_
    intro v195 hv195
    obtain rfl : d1 = v195 := hv195.symm
    show ORun p e below s _ _ _ T194 (mkF m 120 #[.val (.ref a1), .val (.int (2 : Int32)), .val (.ref a2), .val (.ref o181), .val (.int (1 : Int32)), .val (.int (5 : Int32)), .val (.int d4)] [(.int d1), (.ref o181), (.ref b178)])
    refine own_iaload X194 hx hZ e194 V191 (i := d1.toInt.toNat) (by omega) (by omega) (hb hby d1_120) ?_
    intro v196 hv196
    have r196 := rng32 v196
    show ORun p e below s _ _ _ T194 (mkF m 121 #[.val (.ref a1), .val (.int (2 : Int32)), .val (.ref a2), .val (.ref o181), .val (.int (1 : Int32)), .val (.int (5 : Int32)), .val (.int d4)] [(.int v196), (.ref b178)])
    have mp197 : v196 = own_pos 2 [d0, d1, d2, d3, d4] 1 := by rw [hv196, mN192]; show _ = (own_N 2 [d0, d1, d2, d3, d4] 1).getD (([d0, d1, d2, d3, d4] : List Int32).getD 1 0).toInt.toNat 0; rfl
    have bp197 := own_Ppos PP 1 (by decide)
    rw [← mp197] at bp197
    refine own_by (fun t k => XS.iload X194.here hx rfl (hb hby d1_121) rfl k) ?_
    show ORun p e below s _ _ _ T194 (mkF m 123 #[.val (.ref a1), .val (.int (2 : Int32)), .val (.ref a2), .val (.ref o181), .val (.int (1 : Int32)), .val (.int (5 : Int32)), .val (.int d4)] [(.int (1 : Int32)), (.int v196), (.ref b178)])
    refine own_iastore X194 hx hZ e194 fz193_6 (i := v196.toInt.toNat) (by omega) (by omega) (hb hby d1_123) ?_
    intro T198 h198 L198 X198 e198 W198 hL198 V198
    have len198 : L198.length = 5 := by rw [hL198, List.length_set]; exact len186
    have N198 := Fr.snoc X198 N191 old_b178
    show ORun p e below s _ _ _ T198 (mkF m 124 #[.val (.ref a1), .val (.int (2 : Int32)), .val (.ref a2), .val (.ref o181), .val (.int (1 : Int32)), .val (.int (5 : Int32)), .val (.int d4)] [])
    have mF199 : L198 = own_Dk 2 [d0, d1, d2, d3, d4] 2 := by rw [hL198, mp197, mF187]; show _ = (own_Dk 2 [d0, d1, d2, d3, d4] 1).set (own_pos 2 [d0, d1, d2, d3, d4] 1).toInt.toNat (Int32.ofNat 1); rfl
    refine own_by (fun t k => XS.aloadN X198.here hx rfl (hb hby d1_124) rfl rfl k) ?_
    show ORun p e below s _ _ _ T198 (mkF m 125 #[.val (.ref a1), .val (.int (2 : Int32)), .val (.ref a2), .val (.ref o181), .val (.int (1 : Int32)), .val (.int (5 : Int32)), .val (.int d4)] [(.ref o181)])
    refine own_by (fun t k => XS.aloadN X198.here hx rfl (hb hby d1_125) rfl rfl k) ?_
    show ORun p e below s _ _ _ T198 (mkF m 126 #[.val (.ref a1), .val (.int (2 : Int32)), .val (.ref a2), .val (.ref o181), .val (.int (1 : Int32)), .val (.int (5 : Int32)), .val (.int d4)] [(.ref a2), (.ref o181)])
    refine own_by (fun t k => XS.iload X198.here hx rfl (hb hby d1_126) rfl k) ?_
    show ORun p e below s _ _ _ T198 (mkF m 128 #[.val (.ref a1), .val (.int (2 : Int32)), .val (.ref a2), .val (.ref o181), .val (.int (1 : Int32)), .val (.int (5 : Int32)), .val (.int d4)] [(.int (1 : Int32)), (.ref a2), (.ref o181)])
    refine own_iaload X198 hx hZ e198 (fz193_3.other W198 ne_a2_b178) (i := 1) (by decide) (by omega) (hb hby d1_128) ?_
    intro v200 hv200
    obtain rfl : d1 = v200 := hv200.symm
    show ORun p e below s _ _ _ T198 (mkF m 129 #[.val (.ref a1), .val (.int (2 : Int32)), .val (.ref a2), .val (.ref o181), .val (.int (1 : Int32)), .val (.int (5 : Int32)), .val (.int d4)] [(.int d1), (.ref o181)])
    refine own_by (fun t k => XT.dup2 X198.here hx rfl (hb hby d1_129) rfl rfl rfl k) ?_
    show ORun p e below s _ _ _ T198 (mkF m 130 #[.val (.ref a1), .val (.int (2 : Int32)), .val (.ref a2), .val (.ref o181), .val (.int (1 : Int32)), .val (.int (5 : Int32)), .val (.int d4)] [(.int d1), (.ref o181), (.int d1), (.ref o181)])
    refine own_iaload X198 hx hZ e198 (V191.other W198 (Ne.symm ne_b178_o181)) (i := d1.toInt.toNat) (by omega) (by omega) (hb hby d1_130) ?_
    intro v201 hv201
    have r201 := rng32 v201
    show ORun p e below s _ _ _ T198 (mkF m 131 #[.val (.ref a1), .val (.int (2 : Int32)), .val (.ref a2), .val (.ref o181), .val (.int (1 : Int32)), .val (.int (5 : Int32)), .val (.int d4)] [(.int v201), (.int d1), (.ref o181)])
    refine own_by (fun t k => XS.iconst X198.here hx rfl (hb hby d1_131) k) ?_
    show ORun p e below s _ _ _ T198 (mkF m 132 #[.val (.ref a1), .val (.int (2 : Int32)), .val (.ref a2), .val (.ref o181), .val (.int (1 : Int32)), .val (.int (5 : Int32)), .val (.int d4)] [(.int (1 : Int32)), (.int v201), (.int d1), (.ref o181)])
    refine own_by (fun t k => XS.iadd X198.here hx rfl (hb hby d1_132) rfl k) (own_letI (f := (fun z => (mkF m 133 #[.val (.ref a1), .val (.int (2 : Int32)), .val (.ref a2), .val (.ref o181), .val (.int (1 : Int32)), .val (.int (5 : Int32)), .val (.int d4)] [(.int z), (.int d1), (.ref o181)]))) (v201 + (1 : Int32)) fun v202 hv202 => ?_)
    show ORun p e below s _ _ _ T198 (mkF m 133 #[.val (.ref a1), .val (.int (2 : Int32)), .val (.ref a2), .val (.ref o181), .val (.int (1 : Int32)), .val (.int (5 : Int32)), .val (.int d4)] [(.int v202), (.int d1), (.ref o181)])
    have a202a : (v202.toInt - (v201.toInt + 1)) % 4294967296 = 0 := by rw [hv202]; exact c_iadd v201 (1 : Int32)
    have r202 := rng32 v202
    refine own_iastore X198 hx hZ e198 (V191.other W198 (Ne.symm ne_b178_o181)) (i := d1.toInt.toNat) (by omega) (by omega) (hb hby d1_133) ?_
    intro T203 h203 L203 X203 e203 W203 hL203 V203
    have len203 : L203.length = 2 := by rw [hL203, List.length_set]; exact len191
    have N203 := Fr.snoc X203 N198 old_o181
    show ORun p e below s _ _ _ T203 (mkF m 134 #[.val (.ref a1), .val (.int (2 : Int32)), .val (.ref a2), .val (.ref o181), .val (.int (1 : Int32)), .val (.int (5 : Int32)), .val (.int d4)] [])
    have mN204 : L203 = own_N 2 [d0, d1, d2, d3, d4] 2 := by rw [hL203, hv202, hv201, mN192]; show _ = (own_N 2 [d0, d1, d2, d3, d4] 1).set (([d0, d1, d2, d3, d4] : List Int32).getD 1 0).toInt.toNat ((own_N 2 [d0, d1, d2, d3, d4] 1).getD (([d0, d1, d2, d3, d4] : List Int32).getD 1 0).toInt.toNat 0 + 1); rfl
    clear r196 bp197 r201 a202a r202
    have Kz205 : Keep h0 h203 [a1] := ((((Keep.refl h0 [a1]).trans Kz193 (allS (Or.inl (List.mem_of_getElem? (i := 0) rfl)) all0)).wr W198 (Or.inr sz_b178)).wr W203 (Or.inr sz_o181))
    have fz205_0 := ((fz193_0.wr W198).wr W203)
    have fz205_1 := ((fz193_1.other W198 (Or.inl ne_a1_b178)).other W203 (Or.inl ne_a1_o181))
    have fz205_2 := ((fz193_2.other W198 (Or.inl ne_a1_b178)).other W203 (Or.inl ne_a1_o181))
    have fz205_3 := ((fz193_3.other W198 ne_a2_b178).other W203 ne_a2_o181)
    have fz205_4 := ((fz193_4.other W198 ne_b119_b178).other W203 ne_b119_o181)
    have fz205_5 := ((fz193_5.wr W198).wr W203)
    have fz205_6 := (V198.other W203 ne_b178_o181)
    have fz205_7 := ((fz193_7.wr W198).wr W203)
    refine own_by (fun t k => XS.iinc X203.here hx rfl (hb hby d1_134) rfl (l' := #[.val (.ref a1), .val (.int (2 : Int32)), .val (.ref a2), .val (.ref o181), .val (.int (2 : Int32)), .val (.int (5 : Int32)), .val (.int d4)]) rfl k) ?_
    show ORun p e below s _ _ _ T203 (mkF m 137 #[.val (.ref a1), .val (.int (2 : Int32)), .val (.ref a2), .val (.ref o181), .val (.int (2 : Int32)), .val (.int (5 : Int32)), .val (.int d4)] [])
    refine own_by (fun t k => XS.goto X203.here hx rfl (pc0 := 137) (pc' := 104) rfl (hb hby d1_137) (by decide) (by decide) k) ?_
    show ORun p e below s _ _ _ T203 (mkF m 104 #[.val (.ref a1), .val (.int (2 : Int32)), .val (.ref a2), .val (.ref o181), .val (.int (2 : Int32)), .val (.int (5 : Int32)), .val (.int d4)] [])
    refine own_by (fun t k => XS.iload X203.here hx rfl (hb hby d1_104) rfl k) ?_
    show ORun p e below s _ _ _ T203 (mkF m 106 #[.val (.ref a1), .val (.int (2 : Int32)), .val (.ref a2), .val (.ref o181), .val (.int (2 : Int32)), .val (.int (5 : Int32)), .val (.int d4)] [(.int (2 : Int32))])
    refine own_by (fun t k => XS.aloadN X203.here hx rfl (hb hby d1_106) rfl rfl k) ?_
    show ORun p e below s _ _ _ T203 (mkF m 107 #[.val (.ref a1), .val (.int (2 : Int32)), .val (.ref a2), .val (.ref o181), .val (.int (2 : Int32)), .val (.int (5 : Int32)), .val (.int d4)] [(.ref a2), (.int (2 : Int32))])
    refine own_len X203 hx hZ e203 fz205_3 (n := 5) lds (hb hby d1_107) ?_
    show ORun p e below s _ _ _ T203 (mkF m 108 #[.val (.ref a1), .val (.int (2 : Int32)), .val (.ref a2), .val (.ref o181), .val (.int (2 : Int32)), .val (.int (5 : Int32)), .val (.int d4)] [(.int (5 : Int32)), (.int (2 : Int32))])
    refine own_by (fun t k => XS.icmpNo X203.here hx rfl (hb hby d1_108) rfl (tlt (by decide)).2.1 k) ?_
    show ORun p e below s _ _ _ T203 (mkF m 111 #[.val (.ref a1), .val (.int (2 : Int32)), .val (.ref a2), .val (.ref o181), .val (.int (2 : Int32)), .val (.int (5 : Int32)), .val (.int d4)] [])
    refine own_by (fun t k => XS.aloadN X203.here hx rfl (hb hby d1_111) rfl rfl k) ?_
    show ORun p e below s _ _ _ T203 (mkF m 112 #[.val (.ref a1), .val (.int (2 : Int32)), .val (.ref a2), .val (.ref o181), .val (.int (2 : Int32)), .val (.int (5 : Int32)), .val (.int d4)] [(.ref a1)])
    obtain ⟨T206, X206, e206, st206⟩ := getF X203 hx hZ hown (host := "") (Or.inl (hw _ (List.mem_of_getElem? (i := 14) rfl))) Via.refl e203 fz205_2 (g := (mkF m 112 #[.val (.ref a1), .val (.int (2 : Int32)), .val (.ref a2), .val (.ref o181), .val (.int (2 : Int32)), .val (.int (5 : Int32)), .val (.int d4)] [(.ref a1)])) rfl rfl (hb hby d1_112)
    refine own_by st206 ?_
    show ORun p e below s _ _ _ T206 (mkF m 115 #[.val (.ref a1), .val (.int (2 : Int32)), .val (.ref a2), .val (.ref o181), .val (.int (2 : Int32)), .val (.int (5 : Int32)), .val (.int d4)] [(.ref b178)])
    refine own_by (fun t k => XS.aloadN X206.here hx rfl (hb hby d1_115) rfl rfl k) ?_
    show ORun p e below s _ _ _ T206 (mkF m 116 #[.val (.ref a1), .val (.int (2 : Int32)), .val (.ref a2), .val (.ref o181), .val (.int (2 : Int32)), .val (.int (5 : Int32)), .val (.int d4)] [(.ref o181), (.ref b178)])
    refine own_by (fun t k => XS.aloadN X206.here hx rfl (hb hby d1_116) rfl rfl k) ?_
    show ORun p e below s _ _ _ T206 (mkF m 117 #[.val (.ref a1), .val (.int (2 : Int32)), .val (.ref a2), .val (.ref o181), .val (.int (2 : Int32)), .val (.int (5 : Int32)), .val (.int d4)] [(.ref a2), (.ref o181), (.ref b178)])
    refine own_by (fun t k => XS.iload X206.here hx rfl (hb hby d1_117) rfl k) ?_
    show ORun p e below s _ _ _ T206 (mkF m 119 #[.val (.ref a1), .val (.int (2 : Int32)), .val (.ref a2), .val (.ref o181), .val (.int (2 : Int32)), .val (.int (5 : Int32)), .val (.int d4)] [(.int (2 : Int32)), (.ref a2), (.ref o181), (.ref b178)])
    refine own_iaload X206 hx hZ e206 fz205_3 (i := 2) (by decide) (by omega) (hb hby d1_119) ?_
    intro v207 hv207
    obtain rfl : d2 = v207 := hv207.symm
    show ORun p e below s _ _ _ T206 (mkF m 120 #[.val (.ref a1), .val (.int (2 : Int32)), .val (.ref a2), .val (.ref o181), .val (.int (2 : Int32)), .val (.int (5 : Int32)), .val (.int d4)] [(.int d2), (.ref o181), (.ref b178)])
    refine own_iaload X206 hx hZ e206 V203 (i := d2.toInt.toNat) (by omega) (by omega) (hb hby d1_120) ?_
    intro v208 hv208
    have r208 := rng32 v208
    show ORun p e below s _ _ _ T206 (mkF m 121 #[.val (.ref a1), .val (.int (2 : Int32)), .val (.ref a2), .val (.ref o181), .val (.int (2 : Int32)), .val (.int (5 : Int32)), .val (.int d4)] [(.int v208), (.ref b178)])
    have mp209 : v208 = own_pos 2 [d0, d1, d2, d3, d4] 2 := by rw [hv208, mN204]; show _ = (own_N 2 [d0, d1, d2, d3, d4] 2).getD (([d0, d1, d2, d3, d4] : List Int32).getD 2 0).toInt.toNat 0; rfl
    have bp209 := own_Ppos PP 2 (by decide)
    rw [← mp209] at bp209
    refine own_by (fun t k => XS.iload X206.here hx rfl (hb hby d1_121) rfl k) ?_
    show ORun p e below s _ _ _ T206 (mkF m 123 #[.val (.ref a1), .val (.int (2 : Int32)), .val (.ref a2), .val (.ref o181), .val (.int (2 : Int32)), .val (.int (5 : Int32)), .val (.int d4)] [(.int (2 : Int32)), (.int v208), (.ref b178)])
    refine own_iastore X206 hx hZ e206 fz205_6 (i := v208.toInt.toNat) (by omega) (by omega) (hb hby d1_123) ?_
    intro T210 h210 L210 X210 e210 W210 hL210 V210
    have len210 : L210.length = 5 := by rw [hL210, List.length_set]; exact len198
    have N210 := Fr.snoc X210 N203 old_b178
    show ORun p e below s _ _ _ T210 (mkF m 124 #[.val (.ref a1), .val (.int (2 : Int32)), .val (.ref a2), .val (.ref o181), .val (.int (2 : Int32)), .val (.int (5 : Int32)), .val (.int d4)] [])
    have mF211 : L210 = own_Dk 2 [d0, d1, d2, d3, d4] 3 := by rw [hL210, mp209, mF199]; show _ = (own_Dk 2 [d0, d1, d2, d3, d4] 2).set (own_pos 2 [d0, d1, d2, d3, d4] 2).toInt.toNat (Int32.ofNat 2); rfl
    refine own_by (fun t k => XS.aloadN X210.here hx rfl (hb hby d1_124) rfl rfl k) ?_
    show ORun p e below s _ _ _ T210 (mkF m 125 #[.val (.ref a1), .val (.int (2 : Int32)), .val (.ref a2), .val (.ref o181), .val (.int (2 : Int32)), .val (.int (5 : Int32)), .val (.int d4)] [(.ref o181)])
    refine own_by (fun t k => XS.aloadN X210.here hx rfl (hb hby d1_125) rfl rfl k) ?_
    show ORun p e below s _ _ _ T210 (mkF m 126 #[.val (.ref a1), .val (.int (2 : Int32)), .val (.ref a2), .val (.ref o181), .val (.int (2 : Int32)), .val (.int (5 : Int32)), .val (.int d4)] [(.ref a2), (.ref o181)])
    refine own_by (fun t k => XS.iload X210.here hx rfl (hb hby d1_126) rfl k) ?_
    show ORun p e below s _ _ _ T210 (mkF m 128 #[.val (.ref a1), .val (.int (2 : Int32)), .val (.ref a2), .val (.ref o181), .val (.int (2 : Int32)), .val (.int (5 : Int32)), .val (.int d4)] [(.int (2 : Int32)), (.ref a2), (.ref o181)])
    refine own_iaload X210 hx hZ e210 (fz205_3.other W210 ne_a2_b178) (i := 2) (by decide) (by omega) (hb hby d1_128) ?_
    intro v212 hv212
    obtain rfl : d2 = v212 := hv212.symm
    show ORun p e below s _ _ _ T210 (mkF m 129 #[.val (.ref a1), .val (.int (2 : Int32)), .val (.ref a2), .val (.ref o181), .val (.int (2 : Int32)), .val (.int (5 : Int32)), .val (.int d4)] [(.int d2), (.ref o181)])
    refine own_by (fun t k => XT.dup2 X210.here hx rfl (hb hby d1_129) rfl rfl rfl k) ?_
    show ORun p e below s _ _ _ T210 (mkF m 130 #[.val (.ref a1), .val (.int (2 : Int32)), .val (.ref a2), .val (.ref o181), .val (.int (2 : Int32)), .val (.int (5 : Int32)), .val (.int d4)] [(.int d2), (.ref o181), (.int d2), (.ref o181)])
    refine own_iaload X210 hx hZ e210 (V203.other W210 (Ne.symm ne_b178_o181)) (i := d2.toInt.toNat) (by omega) (by omega) (hb hby d1_130) ?_
    intro v213 hv213
    have r213 := rng32 v213
    show ORun p e below s _ _ _ T210 (mkF m 131 #[.val (.ref a1), .val (.int (2 : Int32)), .val (.ref a2), .val (.ref o181), .val (.int (2 : Int32)), .val (.int (5 : Int32)), .val (.int d4)] [(.int v213), (.int d2), (.ref o181)])
    refine own_by (fun t k => XS.iconst X210.here hx rfl (hb hby d1_131) k) ?_
    show ORun p e below s _ _ _ T210 (mkF m 132 #[.val (.ref a1), .val (.int (2 : Int32)), .val (.ref a2), .val (.ref o181), .val (.int (2 : Int32)), .val (.int (5 : Int32)), .val (.int d4)] [(.int (1 : Int32)), (.int v213), (.int d2), (.ref o181)])
    refine own_by (fun t k => XS.iadd X210.here hx rfl (hb hby d1_132) rfl k) (own_letI (f := (fun z => (mkF m 133 #[.val (.ref a1), .val (.int (2 : Int32)), .val (.ref a2), .val (.ref o181), .val (.int (2 : Int32)), .val (.int (5 : Int32)), .val (.int d4)] [(.int z), (.int d2), (.ref o181)]))) (v213 + (1 : Int32)) fun v214 hv214 => ?_)
    show ORun p e below s _ _ _ T210 (mkF m 133 #[.val (.ref a1), .val (.int (2 : Int32)), .val (.ref a2), .val (.ref o181), .val (.int (2 : Int32)), .val (.int (5 : Int32)), .val (.int d4)] [(.int v214), (.int d2), (.ref o181)])
    have a214a : (v214.toInt - (v213.toInt + 1)) % 4294967296 = 0 := by rw [hv214]; exact c_iadd v213 (1 : Int32)
    have r214 := rng32 v214
    refine own_iastore X210 hx hZ e210 (V203.other W210 (Ne.symm ne_b178_o181)) (i := d2.toInt.toNat) (by omega) (by omega) (hb hby d1_133) ?_
    intro T215 h215 L215 X215 e215 W215 hL215 V215
    have len215 : L215.length = 2 := by rw [hL215, List.length_set]; exact len203
    have N215 := Fr.snoc X215 N210 old_o181
    show ORun p e below s _ _ _ T215 (mkF m 134 #[.val (.ref a1), .val (.int (2 : Int32)), .val (.ref a2), .val (.ref o181), .val (.int (2 : Int32)), .val (.int (5 : Int32)), .val (.int d4)] [])
    have mN216 : L215 = own_N 2 [d0, d1, d2, d3, d4] 3 := by rw [hL215, hv214, hv213, mN204]; show _ = (own_N 2 [d0, d1, d2, d3, d4] 2).set (([d0, d1, d2, d3, d4] : List Int32).getD 2 0).toInt.toNat ((own_N 2 [d0, d1, d2, d3, d4] 2).getD (([d0, d1, d2, d3, d4] : List Int32).getD 2 0).toInt.toNat 0 + 1); rfl
    clear r208 bp209 r213 a214a r214
    have Kz217 : Keep h0 h215 [a1] := ((((Keep.refl h0 [a1]).trans Kz205 (allS (Or.inl (List.mem_of_getElem? (i := 0) rfl)) all0)).wr W210 (Or.inr sz_b178)).wr W215 (Or.inr sz_o181))
    have fz217_0 := ((fz205_0.wr W210).wr W215)
    have fz217_1 := ((fz205_1.other W210 (Or.inl ne_a1_b178)).other W215 (Or.inl ne_a1_o181))
    have fz217_2 := ((fz205_2.other W210 (Or.inl ne_a1_b178)).other W215 (Or.inl ne_a1_o181))
    have fz217_3 := ((fz205_3.other W210 ne_a2_b178).other W215 ne_a2_o181)
    have fz217_4 := ((fz205_4.other W210 ne_b119_b178).other W215 ne_b119_o181)
    have fz217_5 := ((fz205_5.wr W210).wr W215)
    have fz217_6 := (V210.other W215 ne_b178_o181)
    have fz217_7 := ((fz205_7.wr W210).wr W215)
    refine own_by (fun t k => XS.iinc X215.here hx rfl (hb hby d1_134) rfl (l' := #[.val (.ref a1), .val (.int (2 : Int32)), .val (.ref a2), .val (.ref o181), .val (.int (3 : Int32)), .val (.int (5 : Int32)), .val (.int d4)]) rfl k) ?_
    show ORun p e below s _ _ _ T215 (mkF m 137 #[.val (.ref a1), .val (.int (2 : Int32)), .val (.ref a2), .val (.ref o181), .val (.int (3 : Int32)), .val (.int (5 : Int32)), .val (.int d4)] [])
    refine own_by (fun t k => XS.goto X215.here hx rfl (pc0 := 137) (pc' := 104) rfl (hb hby d1_137) (by decide) (by decide) k) ?_
    show ORun p e below s _ _ _ T215 (mkF m 104 #[.val (.ref a1), .val (.int (2 : Int32)), .val (.ref a2), .val (.ref o181), .val (.int (3 : Int32)), .val (.int (5 : Int32)), .val (.int d4)] [])
    refine own_by (fun t k => XS.iload X215.here hx rfl (hb hby d1_104) rfl k) ?_
    show ORun p e below s _ _ _ T215 (mkF m 106 #[.val (.ref a1), .val (.int (2 : Int32)), .val (.ref a2), .val (.ref o181), .val (.int (3 : Int32)), .val (.int (5 : Int32)), .val (.int d4)] [(.int (3 : Int32))])
    refine own_by (fun t k => XS.aloadN X215.here hx rfl (hb hby d1_106) rfl rfl k) ?_
    show ORun p e below s _ _ _ T215 (mkF m 107 #[.val (.ref a1), .val (.int (2 : Int32)), .val (.ref a2), .val (.ref o181), .val (.int (3 : Int32)), .val (.int (5 : Int32)), .val (.int d4)] [(.ref a2), (.int (3 : Int32))])
    refine own_len X215 hx hZ e215 fz217_3 (n := 5) lds (hb hby d1_107) ?_
    show ORun p e below s _ _ _ T215 (mkF m 108 #[.val (.ref a1), .val (.int (2 : Int32)), .val (.ref a2), .val (.ref o181), .val (.int (3 : Int32)), .val (.int (5 : Int32)), .val (.int d4)] [(.int (5 : Int32)), (.int (3 : Int32))])
    refine own_by (fun t k => XS.icmpNo X215.here hx rfl (hb hby d1_108) rfl (tlt (by decide)).2.1 k) ?_
    show ORun p e below s _ _ _ T215 (mkF m 111 #[.val (.ref a1), .val (.int (2 : Int32)), .val (.ref a2), .val (.ref o181), .val (.int (3 : Int32)), .val (.int (5 : Int32)), .val (.int d4)] [])
    refine own_by (fun t k => XS.aloadN X215.here hx rfl (hb hby d1_111) rfl rfl k) ?_
    show ORun p e below s _ _ _ T215 (mkF m 112 #[.val (.ref a1), .val (.int (2 : Int32)), .val (.ref a2), .val (.ref o181), .val (.int (3 : Int32)), .val (.int (5 : Int32)), .val (.int d4)] [(.ref a1)])
    obtain ⟨T218, X218, e218, st218⟩ := getF X215 hx hZ hown (host := "") (Or.inl (hw _ (List.mem_of_getElem? (i := 14) rfl))) Via.refl e215 fz217_2 (g := (mkF m 112 #[.val (.ref a1), .val (.int (2 : Int32)), .val (.ref a2), .val (.ref o181), .val (.int (3 : Int32)), .val (.int (5 : Int32)), .val (.int d4)] [(.ref a1)])) rfl rfl (hb hby d1_112)
    refine own_by st218 ?_
    show ORun p e below s _ _ _ T218 (mkF m 115 #[.val (.ref a1), .val (.int (2 : Int32)), .val (.ref a2), .val (.ref o181), .val (.int (3 : Int32)), .val (.int (5 : Int32)), .val (.int d4)] [(.ref b178)])
    refine own_by (fun t k => XS.aloadN X218.here hx rfl (hb hby d1_115) rfl rfl k) ?_
    show ORun p e below s _ _ _ T218 (mkF m 116 #[.val (.ref a1), .val (.int (2 : Int32)), .val (.ref a2), .val (.ref o181), .val (.int (3 : Int32)), .val (.int (5 : Int32)), .val (.int d4)] [(.ref o181), (.ref b178)])
    refine own_by (fun t k => XS.aloadN X218.here hx rfl (hb hby d1_116) rfl rfl k) ?_
    show ORun p e below s _ _ _ T218 (mkF m 117 #[.val (.ref a1), .val (.int (2 : Int32)), .val (.ref a2), .val (.ref o181), .val (.int (3 : Int32)), .val (.int (5 : Int32)), .val (.int d4)] [(.ref a2), (.ref o181), (.ref b178)])
    refine own_by (fun t k => XS.iload X218.here hx rfl (hb hby d1_117) rfl k) ?_
    show ORun p e below s _ _ _ T218 (mkF m 119 #[.val (.ref a1), .val (.int (2 : Int32)), .val (.ref a2), .val (.ref o181), .val (.int (3 : Int32)), .val (.int (5 : Int32)), .val (.int d4)] [(.int (3 : Int32)), (.ref a2), (.ref o181), (.ref b178)])
    refine own_iaload X218 hx hZ e218 fz217_3 (i := 3) (by decide) (by omega) (hb hby d1_119) ?_
    intro v219 hv219
    obtain rfl : d3 = v219 := hv219.symm
    show ORun p e below s _ _ _ T218 (mkF m 120 #[.val (.ref a1), .val (.int (2 : Int32)), .val (.ref a2), .val (.ref o181), .val (.int (3 : Int32)), .val (.int (5 : Int32)), .val (.int d4)] [(.int d3), (.ref o181), (.ref b178)])
    refine own_iaload X218 hx hZ e218 V215 (i := d3.toInt.toNat) (by omega) (by omega) (hb hby d1_120) ?_
    intro v220 hv220
    have r220 := rng32 v220
    show ORun p e below s _ _ _ T218 (mkF m 121 #[.val (.ref a1), .val (.int (2 : Int32)), .val (.ref a2), .val (.ref o181), .val (.int (3 : Int32)), .val (.int (5 : Int32)), .val (.int d4)] [(.int v220), (.ref b178)])
    have mp221 : v220 = own_pos 2 [d0, d1, d2, d3, d4] 3 := by rw [hv220, mN216]; show _ = (own_N 2 [d0, d1, d2, d3, d4] 3).getD (([d0, d1, d2, d3, d4] : List Int32).getD 3 0).toInt.toNat 0; rfl
    have bp221 := own_Ppos PP 3 (by decide)
    rw [← mp221] at bp221
    refine own_by (fun t k => XS.iload X218.here hx rfl (hb hby d1_121) rfl k) ?_
    show ORun p e below s _ _ _ T218 (mkF m 123 #[.val (.ref a1), .val (.int (2 : Int32)), .val (.ref a2), .val (.ref o181), .val (.int (3 : Int32)), .val (.int (5 : Int32)), .val (.int d4)] [(.int (3 : Int32)), (.int v220), (.ref b178)])
    refine own_iastore X218 hx hZ e218 fz217_6 (i := v220.toInt.toNat) (by omega) (by omega) (hb hby d1_123) ?_
    intro T222 h222 L222 X222 e222 W222 hL222 V222
    have len222 : L222.length = 5 := by rw [hL222, List.length_set]; exact len210
    have N222 := Fr.snoc X222 N215 old_b178
    show ORun p e below s _ _ _ T222 (mkF m 124 #[.val (.ref a1), .val (.int (2 : Int32)), .val (.ref a2), .val (.ref o181), .val (.int (3 : Int32)), .val (.int (5 : Int32)), .val (.int d4)] [])
    have mF223 : L222 = own_Dk 2 [d0, d1, d2, d3, d4] 4 := by rw [hL222, mp221, mF211]; show _ = (own_Dk 2 [d0, d1, d2, d3, d4] 3).set (own_pos 2 [d0, d1, d2, d3, d4] 3).toInt.toNat (Int32.ofNat 3); rfl
    refine own_by (fun t k => XS.aloadN X222.here hx rfl (hb hby d1_124) rfl rfl k) ?_
    show ORun p e below s _ _ _ T222 (mkF m 125 #[.val (.ref a1), .val (.int (2 : Int32)), .val (.ref a2), .val (.ref o181), .val (.int (3 : Int32)), .val (.int (5 : Int32)), .val (.int d4)] [(.ref o181)])
    refine own_by (fun t k => XS.aloadN X222.here hx rfl (hb hby d1_125) rfl rfl k) ?_
    show ORun p e below s _ _ _ T222 (mkF m 126 #[.val (.ref a1), .val (.int (2 : Int32)), .val (.ref a2), .val (.ref o181), .val (.int (3 : Int32)), .val (.int (5 : Int32)), .val (.int d4)] [(.ref a2), (.ref o181)])
    refine own_by (fun t k => XS.iload X222.here hx rfl (hb hby d1_126) rfl k) ?_
    show ORun p e below s _ _ _ T222 (mkF m 128 #[.val (.ref a1), .val (.int (2 : Int32)), .val (.ref a2), .val (.ref o181), .val (.int (3 : Int32)), .val (.int (5 : Int32)), .val (.int d4)] [(.int (3 : Int32)), (.ref a2), (.ref o181)])
    refine own_iaload X222 hx hZ e222 (fz217_3.other W222 ne_a2_b178) (i := 3) (by decide) (by omega) (hb hby d1_128) ?_
    intro v224 hv224
    obtain rfl : d3 = v224 := hv224.symm
    show ORun p e below s _ _ _ T222 (mkF m 129 #[.val (.ref a1), .val (.int (2 : Int32)), .val (.ref a2), .val (.ref o181), .val (.int (3 : Int32)), .val (.int (5 : Int32)), .val (.int d4)] [(.int d3), (.ref o181)])
    refine own_by (fun t k => XT.dup2 X222.here hx rfl (hb hby d1_129) rfl rfl rfl k) ?_
    show ORun p e below s _ _ _ T222 (mkF m 130 #[.val (.ref a1), .val (.int (2 : Int32)), .val (.ref a2), .val (.ref o181), .val (.int (3 : Int32)), .val (.int (5 : Int32)), .val (.int d4)] [(.int d3), (.ref o181), (.int d3), (.ref o181)])
    refine own_iaload X222 hx hZ e222 (V215.other W222 (Ne.symm ne_b178_o181)) (i := d3.toInt.toNat) (by omega) (by omega) (hb hby d1_130) ?_
    intro v225 hv225
    have r225 := rng32 v225
    show ORun p e below s _ _ _ T222 (mkF m 131 #[.val (.ref a1), .val (.int (2 : Int32)), .val (.ref a2), .val (.ref o181), .val (.int (3 : Int32)), .val (.int (5 : Int32)), .val (.int d4)] [(.int v225), (.int d3), (.ref o181)])
    refine own_by (fun t k => XS.iconst X222.here hx rfl (hb hby d1_131) k) ?_
    show ORun p e below s _ _ _ T222 (mkF m 132 #[.val (.ref a1), .val (.int (2 : Int32)), .val (.ref a2), .val (.ref o181), .val (.int (3 : Int32)), .val (.int (5 : Int32)), .val (.int d4)] [(.int (1 : Int32)), (.int v225), (.int d3), (.ref o181)])
    refine own_by (fun t k => XS.iadd X222.here hx rfl (hb hby d1_132) rfl k) (own_letI (f := (fun z => (mkF m 133 #[.val (.ref a1), .val (.int (2 : Int32)), .val (.ref a2), .val (.ref o181), .val (.int (3 : Int32)), .val (.int (5 : Int32)), .val (.int d4)] [(.int z), (.int d3), (.ref o181)]))) (v225 + (1 : Int32)) fun v226 hv226 => ?_)
    show ORun p e below s _ _ _ T222 (mkF m 133 #[.val (.ref a1), .val (.int (2 : Int32)), .val (.ref a2), .val (.ref o181), .val (.int (3 : Int32)), .val (.int (5 : Int32)), .val (.int d4)] [(.int v226), (.int d3), (.ref o181)])
    have a226a : (v226.toInt - (v225.toInt + 1)) % 4294967296 = 0 := by rw [hv226]; exact c_iadd v225 (1 : Int32)
    have r226 := rng32 v226
    refine own_iastore X222 hx hZ e222 (V215.other W222 (Ne.symm ne_b178_o181)) (i := d3.toInt.toNat) (by omega) (by omega) (hb hby d1_133) ?_
    intro T227 h227 L227 X227 e227 W227 hL227 V227
    have len227 : L227.length = 2 := by rw [hL227, List.length_set]; exact len215
    have N227 := Fr.snoc X227 N222 old_o181
    show ORun p e below s _ _ _ T227 (mkF m 134 #[.val (.ref a1), .val (.int (2 : Int32)), .val (.ref a2), .val (.ref o181), .val (.int (3 : Int32)), .val (.int (5 : Int32)), .val (.int d4)] [])
    have mN228 : L227 = own_N 2 [d0, d1, d2, d3, d4] 4 := by rw [hL227, hv226, hv225, mN216]; show _ = (own_N 2 [d0, d1, d2, d3, d4] 3).set (([d0, d1, d2, d3, d4] : List Int32).getD 3 0).toInt.toNat ((own_N 2 [d0, d1, d2, d3, d4] 3).getD (([d0, d1, d2, d3, d4] : List Int32).getD 3 0).toInt.toNat 0 + 1); rfl
    clear r220 bp221 r225 a226a r226
    have Kz229 : Keep h0 h227 [a1] := ((((Keep.refl h0 [a1]).trans Kz217 (allS (Or.inl (List.mem_of_getElem? (i := 0) rfl)) all0)).wr W222 (Or.inr sz_b178)).wr W227 (Or.inr sz_o181))
    have fz229_0 := ((fz217_0.wr W222).wr W227)
    have fz229_1 := ((fz217_1.other W222 (Or.inl ne_a1_b178)).other W227 (Or.inl ne_a1_o181))
    have fz229_2 := ((fz217_2.other W222 (Or.inl ne_a1_b178)).other W227 (Or.inl ne_a1_o181))
    have fz229_3 := ((fz217_3.other W222 ne_a2_b178).other W227 ne_a2_o181)
    have fz229_4 := ((fz217_4.other W222 ne_b119_b178).other W227 ne_b119_o181)
    have fz229_5 := ((fz217_5.wr W222).wr W227)
    have fz229_6 := (V222.other W227 ne_b178_o181)
    have fz229_7 := ((fz217_7.wr W222).wr W227)
    refine own_by (fun t k => XS.iinc X227.here hx rfl (hb hby d1_134) rfl (l' := #[.val (.ref a1), .val (.int (2 : Int32)), .val (.ref a2), .val (.ref o181), .val (.int (4 : Int32)), .val (.int (5 : Int32)), .val (.int d4)]) rfl k) ?_
    show ORun p e below s _ _ _ T227 (mkF m 137 #[.val (.ref a1), .val (.int (2 : Int32)), .val (.ref a2), .val (.ref o181), .val (.int (4 : Int32)), .val (.int (5 : Int32)), .val (.int d4)] [])
    refine own_by (fun t k => XS.goto X227.here hx rfl (pc0 := 137) (pc' := 104) rfl (hb hby d1_137) (by decide) (by decide) k) ?_
    show ORun p e below s _ _ _ T227 (mkF m 104 #[.val (.ref a1), .val (.int (2 : Int32)), .val (.ref a2), .val (.ref o181), .val (.int (4 : Int32)), .val (.int (5 : Int32)), .val (.int d4)] [])
    refine own_by (fun t k => XS.iload X227.here hx rfl (hb hby d1_104) rfl k) ?_
    show ORun p e below s _ _ _ T227 (mkF m 106 #[.val (.ref a1), .val (.int (2 : Int32)), .val (.ref a2), .val (.ref o181), .val (.int (4 : Int32)), .val (.int (5 : Int32)), .val (.int d4)] [(.int (4 : Int32))])
    refine own_by (fun t k => XS.aloadN X227.here hx rfl (hb hby d1_106) rfl rfl k) ?_
    show ORun p e below s _ _ _ T227 (mkF m 107 #[.val (.ref a1), .val (.int (2 : Int32)), .val (.ref a2), .val (.ref o181), .val (.int (4 : Int32)), .val (.int (5 : Int32)), .val (.int d4)] [(.ref a2), (.int (4 : Int32))])
    refine own_len X227 hx hZ e227 fz229_3 (n := 5) lds (hb hby d1_107) ?_
    show ORun p e below s _ _ _ T227 (mkF m 108 #[.val (.ref a1), .val (.int (2 : Int32)), .val (.ref a2), .val (.ref o181), .val (.int (4 : Int32)), .val (.int (5 : Int32)), .val (.int d4)] [(.int (5 : Int32)), (.int (4 : Int32))])
    refine own_by (fun t k => XS.icmpNo X227.here hx rfl (hb hby d1_108) rfl (tlt (by decide)).2.1 k) ?_
    show ORun p e below s _ _ _ T227 (mkF m 111 #[.val (.ref a1), .val (.int (2 : Int32)), .val (.ref a2), .val (.ref o181), .val (.int (4 : Int32)), .val (.int (5 : Int32)), .val (.int d4)] [])
    refine own_by (fun t k => XS.aloadN X227.here hx rfl (hb hby d1_111) rfl rfl k) ?_
    show ORun p e below s _ _ _ T227 (mkF m 112 #[.val (.ref a1), .val (.int (2 : Int32)), .val (.ref a2), .val (.ref o181), .val (.int (4 : Int32)), .val (.int (5 : Int32)), .val (.int d4)] [(.ref a1)])
    obtain ⟨T230, X230, e230, st230⟩ := getF X227 hx hZ hown (host := "") (Or.inl (hw _ (List.mem_of_getElem? (i := 14) rfl))) Via.refl e227 fz229_2 (g := (mkF m 112 #[.val (.ref a1), .val (.int (2 : Int32)), .val (.ref a2), .val (.ref o181), .val (.int (4 : Int32)), .val (.int (5 : Int32)), .val (.int d4)] [(.ref a1)])) rfl rfl (hb hby d1_112)
    refine own_by st230 ?_
    show ORun p e below s _ _ _ T230 (mkF m 115 #[.val (.ref a1), .val (.int (2 : Int32)), .val (.ref a2), .val (.ref o181), .val (.int (4 : Int32)), .val (.int (5 : Int32)), .val (.int d4)] [(.ref b178)])
    refine own_by (fun t k => XS.aloadN X230.here hx rfl (hb hby d1_115) rfl rfl k) ?_
    show ORun p e below s _ _ _ T230 (mkF m 116 #[.val (.ref a1), .val (.int (2 : Int32)), .val (.ref a2), .val (.ref o181), .val (.int (4 : Int32)), .val (.int (5 : Int32)), .val (.int d4)] [(.ref o181), (.ref b178)])
    refine own_by (fun t k => XS.aloadN X230.here hx rfl (hb hby d1_116) rfl rfl k) ?_
    show ORun p e below s _ _ _ T230 (mkF m 117 #[.val (.ref a1), .val (.int (2 : Int32)), .val (.ref a2), .val (.ref o181), .val (.int (4 : Int32)), .val (.int (5 : Int32)), .val (.int d4)] [(.ref a2), (.ref o181), (.ref b178)])
    refine own_by (fun t k => XS.iload X230.here hx rfl (hb hby d1_117) rfl k) ?_
    show ORun p e below s _ _ _ T230 (mkF m 119 #[.val (.ref a1), .val (.int (2 : Int32)), .val (.ref a2), .val (.ref o181), .val (.int (4 : Int32)), .val (.int (5 : Int32)), .val (.int d4)] [(.int (4 : Int32)), (.ref a2), (.ref o181), (.ref b178)])
    refine own_iaload X230 hx hZ e230 fz229_3 (i := 4) (by decide) (by omega) (hb hby d1_119) ?_
    intro v231 hv231
    obtain rfl : d4 = v231 := hv231.symm
    show ORun p e below s _ _ _ T230 (mkF m 120 #[.val (.ref a1), .val (.int (2 : Int32)), .val (.ref a2), .val (.ref o181), .val (.int (4 : Int32)), .val (.int (5 : Int32)), .val (.int d4)] [(.int d4), (.ref o181), (.ref b178)])
    refine own_iaload X230 hx hZ e230 V227 (i := d4.toInt.toNat) (by omega) (by omega) (hb hby d1_120) ?_
    intro v232 hv232
    have r232 := rng32 v232
    show ORun p e below s _ _ _ T230 (mkF m 121 #[.val (.ref a1), .val (.int (2 : Int32)), .val (.ref a2), .val (.ref o181), .val (.int (4 : Int32)), .val (.int (5 : Int32)), .val (.int d4)] [(.int v232), (.ref b178)])
    have mp233 : v232 = own_pos 2 [d0, d1, d2, d3, d4] 4 := by rw [hv232, mN228]; show _ = (own_N 2 [d0, d1, d2, d3, d4] 4).getD (([d0, d1, d2, d3, d4] : List Int32).getD 4 0).toInt.toNat 0; rfl
    have bp233 := own_Ppos PP 4 (by decide)
    rw [← mp233] at bp233
    refine own_by (fun t k => XS.iload X230.here hx rfl (hb hby d1_121) rfl k) ?_
    show ORun p e below s _ _ _ T230 (mkF m 123 #[.val (.ref a1), .val (.int (2 : Int32)), .val (.ref a2), .val (.ref o181), .val (.int (4 : Int32)), .val (.int (5 : Int32)), .val (.int d4)] [(.int (4 : Int32)), (.int v232), (.ref b178)])
    refine own_iastore X230 hx hZ e230 fz229_6 (i := v232.toInt.toNat) (by omega) (by omega) (hb hby d1_123) ?_
    intro T234 h234 L234 X234 e234 W234 hL234 V234
    have len234 : L234.length = 5 := by rw [hL234, List.length_set]; exact len222
    have N234 := Fr.snoc X234 N227 old_b178
    show ORun p e below s _ _ _ T234 (mkF m 124 #[.val (.ref a1), .val (.int (2 : Int32)), .val (.ref a2), .val (.ref o181), .val (.int (4 : Int32)), .val (.int (5 : Int32)), .val (.int d4)] [])
    have mF235 : L234 = own_Dk 2 [d0, d1, d2, d3, d4] 5 := by rw [hL234, mp233, mF223]; show _ = (own_Dk 2 [d0, d1, d2, d3, d4] 4).set (own_pos 2 [d0, d1, d2, d3, d4] 4).toInt.toNat (Int32.ofNat 4); rfl
    refine own_by (fun t k => XS.aloadN X234.here hx rfl (hb hby d1_124) rfl rfl k) ?_
    show ORun p e below s _ _ _ T234 (mkF m 125 #[.val (.ref a1), .val (.int (2 : Int32)), .val (.ref a2), .val (.ref o181), .val (.int (4 : Int32)), .val (.int (5 : Int32)), .val (.int d4)] [(.ref o181)])
    refine own_by (fun t k => XS.aloadN X234.here hx rfl (hb hby d1_125) rfl rfl k) ?_
    show ORun p e below s _ _ _ T234 (mkF m 126 #[.val (.ref a1), .val (.int (2 : Int32)), .val (.ref a2), .val (.ref o181), .val (.int (4 : Int32)), .val (.int (5 : Int32)), .val (.int d4)] [(.ref a2), (.ref o181)])
    refine own_by (fun t k => XS.iload X234.here hx rfl (hb hby d1_126) rfl k) ?_
    show ORun p e below s _ _ _ T234 (mkF m 128 #[.val (.ref a1), .val (.int (2 : Int32)), .val (.ref a2), .val (.ref o181), .val (.int (4 : Int32)), .val (.int (5 : Int32)), .val (.int d4)] [(.int (4 : Int32)), (.ref a2), (.ref o181)])
    refine own_iaload X234 hx hZ e234 (fz229_3.other W234 ne_a2_b178) (i := 4) (by decide) (by omega) (hb hby d1_128) ?_
    intro v236 hv236
    obtain rfl : d4 = v236 := hv236.symm
    show ORun p e below s _ _ _ T234 (mkF m 129 #[.val (.ref a1), .val (.int (2 : Int32)), .val (.ref a2), .val (.ref o181), .val (.int (4 : Int32)), .val (.int (5 : Int32)), .val (.int d4)] [(.int d4), (.ref o181)])
    refine own_by (fun t k => XT.dup2 X234.here hx rfl (hb hby d1_129) rfl rfl rfl k) ?_
    show ORun p e below s _ _ _ T234 (mkF m 130 #[.val (.ref a1), .val (.int (2 : Int32)), .val (.ref a2), .val (.ref o181), .val (.int (4 : Int32)), .val (.int (5 : Int32)), .val (.int d4)] [(.int d4), (.ref o181), (.int d4), (.ref o181)])
    refine own_iaload X234 hx hZ e234 (V227.other W234 (Ne.symm ne_b178_o181)) (i := d4.toInt.toNat) (by omega) (by omega) (hb hby d1_130) ?_
    intro v237 hv237
    have r237 := rng32 v237
    show ORun p e below s _ _ _ T234 (mkF m 131 #[.val (.ref a1), .val (.int (2 : Int32)), .val (.ref a2), .val (.ref o181), .val (.int (4 : Int32)), .val (.int (5 : Int32)), .val (.int d4)] [(.int v237), (.int d4), (.ref o181)])
    refine own_by (fun t k => XS.iconst X234.here hx rfl (hb hby d1_131) k) ?_
    show ORun p e below s _ _ _ T234 (mkF m 132 #[.val (.ref a1), .val (.int (2 : Int32)), .val (.ref a2), .val (.ref o181), .val (.int (4 : Int32)), .val (.int (5 : Int32)), .val (.int d4)] [(.int (1 : Int32)), (.int v237), (.int d4), (.ref o181)])
    refine own_by (fun t k => XS.iadd X234.here hx rfl (hb hby d1_132) rfl k) (own_letI (f := (fun z => (mkF m 133 #[.val (.ref a1), .val (.int (2 : Int32)), .val (.ref a2), .val (.ref o181), .val (.int (4 : Int32)), .val (.int (5 : Int32)), .val (.int d4)] [(.int z), (.int d4), (.ref o181)]))) (v237 + (1 : Int32)) fun v238 hv238 => ?_)
    show ORun p e below s _ _ _ T234 (mkF m 133 #[.val (.ref a1), .val (.int (2 : Int32)), .val (.ref a2), .val (.ref o181), .val (.int (4 : Int32)), .val (.int (5 : Int32)), .val (.int d4)] [(.int v238), (.int d4), (.ref o181)])
    have a238a : (v238.toInt - (v237.toInt + 1)) % 4294967296 = 0 := by rw [hv238]; exact c_iadd v237 (1 : Int32)
    have r238 := rng32 v238
    refine own_iastore X234 hx hZ e234 (V227.other W234 (Ne.symm ne_b178_o181)) (i := d4.toInt.toNat) (by omega) (by omega) (hb hby d1_133) ?_
    intro T239 h239 L239 X239 e239 W239 hL239 V239
    have len239 : L239.length = 2 := by rw [hL239, List.length_set]; exact len227
    have N239 := Fr.snoc X239 N234 old_o181
    show ORun p e below s _ _ _ T239 (mkF m 134 #[.val (.ref a1), .val (.int (2 : Int32)), .val (.ref a2), .val (.ref o181), .val (.int (4 : Int32)), .val (.int (5 : Int32)), .val (.int d4)] [])
    have mN240 : L239 = own_N 2 [d0, d1, d2, d3, d4] 5 := by rw [hL239, hv238, hv237, mN228]; show _ = (own_N 2 [d0, d1, d2, d3, d4] 4).set (([d0, d1, d2, d3, d4] : List Int32).getD 4 0).toInt.toNat ((own_N 2 [d0, d1, d2, d3, d4] 4).getD (([d0, d1, d2, d3, d4] : List Int32).getD 4 0).toInt.toNat 0 + 1); rfl
    clear r232 bp233 r237 a238a r238
    have Kz241 : Keep h0 h239 [a1] := ((((Keep.refl h0 [a1]).trans Kz229 (allS (Or.inl (List.mem_of_getElem? (i := 0) rfl)) all0)).wr W234 (Or.inr sz_b178)).wr W239 (Or.inr sz_o181))
    have fz241_0 := ((fz229_0.wr W234).wr W239)
    have fz241_1 := ((fz229_1.other W234 (Or.inl ne_a1_b178)).other W239 (Or.inl ne_a1_o181))
    have fz241_2 := ((fz229_2.other W234 (Or.inl ne_a1_b178)).other W239 (Or.inl ne_a1_o181))
    have fz241_3 := ((fz229_3.other W234 ne_a2_b178).other W239 ne_a2_o181)
    have fz241_4 := ((fz229_4.other W234 ne_b119_b178).other W239 ne_b119_o181)
    have fz241_5 := ((fz229_5.wr W234).wr W239)
    have fz241_6 := (V234.other W239 ne_b178_o181)
    have fz241_7 := ((fz229_7.wr W234).wr W239)
    refine own_by (fun t k => XS.iinc X239.here hx rfl (hb hby d1_134) rfl (l' := #[.val (.ref a1), .val (.int (2 : Int32)), .val (.ref a2), .val (.ref o181), .val (.int (5 : Int32)), .val (.int (5 : Int32)), .val (.int d4)]) rfl k) ?_
    show ORun p e below s _ _ _ T239 (mkF m 137 #[.val (.ref a1), .val (.int (2 : Int32)), .val (.ref a2), .val (.ref o181), .val (.int (5 : Int32)), .val (.int (5 : Int32)), .val (.int d4)] [])
    refine own_by (fun t k => XS.goto X239.here hx rfl (pc0 := 137) (pc' := 104) rfl (hb hby d1_137) (by decide) (by decide) k) ?_
    show ORun p e below s _ _ _ T239 (mkF m 104 #[.val (.ref a1), .val (.int (2 : Int32)), .val (.ref a2), .val (.ref o181), .val (.int (5 : Int32)), .val (.int (5 : Int32)), .val (.int d4)] [])
    refine own_by (fun t k => XS.iload X239.here hx rfl (hb hby d1_104) rfl k) ?_
    show ORun p e below s _ _ _ T239 (mkF m 106 #[.val (.ref a1), .val (.int (2 : Int32)), .val (.ref a2), .val (.ref o181), .val (.int (5 : Int32)), .val (.int (5 : Int32)), .val (.int d4)] [(.int (5 : Int32))])
    refine own_by (fun t k => XS.aloadN X239.here hx rfl (hb hby d1_106) rfl rfl k) ?_
    show ORun p e below s _ _ _ T239 (mkF m 107 #[.val (.ref a1), .val (.int (2 : Int32)), .val (.ref a2), .val (.ref o181), .val (.int (5 : Int32)), .val (.int (5 : Int32)), .val (.int d4)] [(.ref a2), (.int (5 : Int32))])
    refine own_len X239 hx hZ e239 fz241_3 (n := 5) lds (hb hby d1_107) ?_
    show ORun p e below s _ _ _ T239 (mkF m 108 #[.val (.ref a1), .val (.int (2 : Int32)), .val (.ref a2), .val (.ref o181), .val (.int (5 : Int32)), .val (.int (5 : Int32)), .val (.int d4)] [(.int (5 : Int32)), (.int (5 : Int32))])
    refine own_by (fun t k => XS.icmpYes X239.here hx rfl (pc0 := 108) (pc' := 140) rfl (hb hby d1_108) rfl (flt (by decide)).2.1 (by decide) (by decide) k) ?_
    show ORun p e below s _ _ _ T239 (mkF m 140 #[.val (.ref a1), .val (.int (2 : Int32)), .val (.ref a2), .val (.ref o181), .val (.int (5 : Int32)), .val (.int (5 : Int32)), .val (.int d4)] [])
    refine own_retV X239 hx hret hlk (hb hby d1_140) (by decide) (by decide) ?_
    have mD242 : L234 = own_D 2 [d0, d1, d2, d3, d4] := mF235
    rw [e239]
    refine ⟨rfl, N239, ((Keep.refl h0 [a1]).trans Kz241 (allS (Or.inl (List.mem_of_getElem? (i := 0) rfl)) all0)), b119, b178, 2, L174, L234, fz241_0, fz241_1, fz241_2, fz241_4, len174, fz241_6, len234, fz241_7, by decide, ?_⟩
    intro q hq
    have z := own_Psel PP q hq
    rw [mS177, mD242]
    exact z
  · have z3 : (3 : Int32).toInt = 3 := by decide
    rw [hp2] at hb0 hb1 hb2 hb3 hb4
    have PP := own_PP (s := 3) (by omega) (a := d0) (b := d1) (c := d2) (d := d3) (e := d4) (by omega) (by omega) (by omega) (by omega) (by omega)
    subst hp2
    show ORun p e below s _ _ _ s₁ (mkF m 0 #[.val (.ref a1), .val (.int (3 : Int32)), .val (.ref a2), .unset, .unset, .unset, .unset] [])
    refine own_by (fun t k => XS.aloadN X0.here hx rfl (hb hby d1_0) rfl rfl k) ?_
    show ORun p e below s _ _ _ s₁ (mkF m 1 #[.val (.ref a1), .val (.int (3 : Int32)), .val (.ref a2), .unset, .unset, .unset, .unset] [(.ref a1)])
    obtain ⟨T243, X243, e243, st243⟩ := initO X0 hx hZ hown (hw _ (List.mem_of_getElem? (i := 9) rfl)) (hw _ (List.mem_of_getElem? (i := 10) rfl)) (hw _ (List.mem_of_getElem? (i := 11) rfl)) e0 (g := (mkF m 1 #[.val (.ref a1), .val (.int (3 : Int32)), .val (.ref a2), .unset, .unset, .unset, .unset] [(.ref a1)])) rfl (by rw [hml]; rfl) rfl (hb hby d1_1) (by decide) (W := 0) (by show 2 * 0 + _ ≤ _; exact Nat.le_of_eq rfl) (by decide)
    refine own_by st243 ?_
    show ORun p e below s _ _ _ T243 (mkF m 4 #[.val (.ref a1), .val (.int (3 : Int32)), .val (.ref a2), .unset, .unset, .unset, .unset] [])
    refine own_by (fun t k => XS.aloadN X243.here hx rfl (hb hby d1_4) rfl rfl k) ?_
    show ORun p e below s _ _ _ T243 (mkF m 5 #[.val (.ref a1), .val (.int (3 : Int32)), .val (.ref a2), .unset, .unset, .unset, .unset] [(.ref a1)])
    refine own_by (fun t k => XS.iloadN X243.here hx rfl (hb hby d1_5) rfl k) ?_
    show ORun p e below s _ _ _ T243 (mkF m 6 #[.val (.ref a1), .val (.int (3 : Int32)), .val (.ref a2), .unset, .unset, .unset, .unset] [(.int (3 : Int32)), (.ref a1)])
    refine own_by (fun t k => XS.iconst X243.here hx rfl (hb hby d1_6) k) ?_
    show ORun p e below s _ _ _ T243 (mkF m 7 #[.val (.ref a1), .val (.int (3 : Int32)), .val (.ref a2), .unset, .unset, .unset, .unset] [(.int (1 : Int32)), (.int (3 : Int32)), (.ref a1)])
    refine own_by (fun t k => XS.iadd X243.here hx rfl (hb hby d1_7) rfl k) ?_
    show ORun p e below s _ _ _ T243 (mkF m 8 #[.val (.ref a1), .val (.int (3 : Int32)), .val (.ref a2), .unset, .unset, .unset, .unset] [(.int (4 : Int32)), (.ref a1)])
    refine own_newarray X243 hx hZ (aty := .int) (hw _ (List.mem_of_getElem? (i := 1) rfl)) e243 rfl (N := 4) (cap := 4) (by decide) (Nat.le_refl _) (by decide) (by decide) (by decide) (ad := "[I") (by decide) (hb hby d1_8) ?_
    intro T244 h244 b244 L244 g244 X244 e244 E244 hL244 V244 Ex244
    have len244 : L244.length = 4 := by rw [hL244]; exact List.length_replicate
    have old_b244 : n0 ≤ b244 := Nat.le_trans Z0 (Nat.le_of_eq g244.symm)
    have sz_b244 : h0.size ≤ b244 := Nat.le_trans (Nat.le_refl h0.size) (Nat.le_of_eq g244.symm)
    have ne_a1_b244 : a1 ≠ b244 := Nat.ne_of_lt (Nat.lt_of_lt_of_le E_a1.lt (Nat.le_of_eq g244.symm))
    have ne_a2_b244 : a2 ≠ b244 := Nat.ne_of_lt (Nat.lt_of_lt_of_le VA2.lt (Nat.le_of_eq g244.symm))
    show ORun p e below s _ _ _ T244 (mkF m 10 #[.val (.ref a1), .val (.int (3 : Int32)), .val (.ref a2), .unset, .unset, .unset, .unset] [(.ref b244), (.ref a1)])
    obtain ⟨T245, h245, X245, e245, W245, st245⟩ := putF X244 hx hZ hown (host := "") (Or.inl (hw _ (List.mem_of_getElem? (i := 12) rfl))) Via.refl e244 (F_starts_a1.ext E244) (E_a1.ext E244) (Or.inr ⟨(hw _ (List.mem_of_getElem? (i := 13) rfl)), rfl, hnm⟩) (hw _ (List.mem_of_getElem? (i := 4) rfl)) (ty := (.array .int)) (by decide) rfl rfl (g := (mkF m 10 #[.val (.ref a1), .val (.int (3 : Int32)), .val (.ref a2), .unset, .unset, .unset, .unset] [(.ref b244), (.ref a1)])) rfl rfl (hb hby d1_10)
    have Fw245 := Fld.same W245 (F_starts_a1.ext E244)
    have N245 := Fr.snoc X245 N0 g_a1
    refine own_by st245 ?_
    show ORun p e below s _ _ _ T245 (mkF m 13 #[.val (.ref a1), .val (.int (3 : Int32)), .val (.ref a2), .unset, .unset, .unset, .unset] [])
    refine own_by (fun t k => XS.aloadN X245.here hx rfl (hb hby d1_13) rfl rfl k) ?_
    show ORun p e below s _ _ _ T245 (mkF m 14 #[.val (.ref a1), .val (.int (3 : Int32)), .val (.ref a2), .unset, .unset, .unset, .unset] [(.ref a2)])
    refine own_by (fun t k => XS.astoreN X245.here hx rfl (hb hby d1_14) rfl rfl (l' := #[.val (.ref a1), .val (.int (3 : Int32)), .val (.ref a2), .val (.ref a2), .unset, .unset, .unset]) rfl k) ?_
    show ORun p e below s _ _ _ T245 (mkF m 15 #[.val (.ref a1), .val (.int (3 : Int32)), .val (.ref a2), .val (.ref a2), .unset, .unset, .unset] [])
    refine own_by (fun t k => XS.aloadN X245.here hx rfl (hb hby d1_15) rfl rfl k) ?_
    show ORun p e below s _ _ _ T245 (mkF m 16 #[.val (.ref a1), .val (.int (3 : Int32)), .val (.ref a2), .val (.ref a2), .unset, .unset, .unset] [(.ref a2)])
    refine own_len X245 hx hZ e245 ((VA2.ext E244).other W245 (Ne.symm ne12)) (n := 5) lds (hb hby d1_16) ?_
    show ORun p e below s _ _ _ T245 (mkF m 17 #[.val (.ref a1), .val (.int (3 : Int32)), .val (.ref a2), .val (.ref a2), .unset, .unset, .unset] [(.int (5 : Int32))])
    refine own_by (fun t k => XS.istore X245.here hx rfl (hb hby d1_17) rfl (l' := #[.val (.ref a1), .val (.int (3 : Int32)), .val (.ref a2), .val (.ref a2), .val (.int (5 : Int32)), .unset, .unset]) rfl k) ?_
    show ORun p e below s _ _ _ T245 (mkF m 19 #[.val (.ref a1), .val (.int (3 : Int32)), .val (.ref a2), .val (.ref a2), .val (.int (5 : Int32)), .unset, .unset] [])
    refine own_by (fun t k => XS.iconst X245.here hx rfl (hb hby d1_19) k) ?_
    show ORun p e below s _ _ _ T245 (mkF m 20 #[.val (.ref a1), .val (.int (3 : Int32)), .val (.ref a2), .val (.ref a2), .val (.int (5 : Int32)), .unset, .unset] [(.int (0 : Int32))])
    refine own_by (fun t k => XS.istore X245.here hx rfl (hb hby d1_20) rfl (l' := #[.val (.ref a1), .val (.int (3 : Int32)), .val (.ref a2), .val (.ref a2), .val (.int (5 : Int32)), .val (.int (0 : Int32)), .unset]) rfl k) ?_
    show ORun p e below s _ _ _ T245 (mkF m 22 #[.val (.ref a1), .val (.int (3 : Int32)), .val (.ref a2), .val (.ref a2), .val (.int (5 : Int32)), .val (.int (0 : Int32)), .unset] [])
    refine own_by (fun t k => XS.iload X245.here hx rfl (hb hby d1_22) rfl k) ?_
    show ORun p e below s _ _ _ T245 (mkF m 24 #[.val (.ref a1), .val (.int (3 : Int32)), .val (.ref a2), .val (.ref a2), .val (.int (5 : Int32)), .val (.int (0 : Int32)), .unset] [(.int (0 : Int32))])
    refine own_by (fun t k => XS.iload X245.here hx rfl (hb hby d1_24) rfl k) ?_
    show ORun p e below s _ _ _ T245 (mkF m 26 #[.val (.ref a1), .val (.int (3 : Int32)), .val (.ref a2), .val (.ref a2), .val (.int (5 : Int32)), .val (.int (0 : Int32)), .unset] [(.int (5 : Int32)), (.int (0 : Int32))])
    refine own_by (fun t k => XS.icmpNo X245.here hx rfl (hb hby d1_26) rfl (tlt (by decide)).2.1 k) ?_
    show ORun p e below s _ _ _ T245 (mkF m 29 #[.val (.ref a1), .val (.int (3 : Int32)), .val (.ref a2), .val (.ref a2), .val (.int (5 : Int32)), .val (.int (0 : Int32)), .unset] [])
    refine own_by (fun t k => XS.aloadN X245.here hx rfl (hb hby d1_29) rfl rfl k) ?_
    show ORun p e below s _ _ _ T245 (mkF m 30 #[.val (.ref a1), .val (.int (3 : Int32)), .val (.ref a2), .val (.ref a2), .val (.int (5 : Int32)), .val (.int (0 : Int32)), .unset] [(.ref a2)])
    refine own_by (fun t k => XS.iload X245.here hx rfl (hb hby d1_30) rfl k) ?_
    show ORun p e below s _ _ _ T245 (mkF m 32 #[.val (.ref a1), .val (.int (3 : Int32)), .val (.ref a2), .val (.ref a2), .val (.int (5 : Int32)), .val (.int (0 : Int32)), .unset] [(.int (0 : Int32)), (.ref a2)])
    refine own_iaload X245 hx hZ e245 ((VA2.ext E244).other W245 (Ne.symm ne12)) (i := 0) (by decide) (by omega) (hb hby d1_32) ?_
    intro v246 hv246
    obtain rfl : d0 = v246 := hv246.symm
    show ORun p e below s _ _ _ T245 (mkF m 33 #[.val (.ref a1), .val (.int (3 : Int32)), .val (.ref a2), .val (.ref a2), .val (.int (5 : Int32)), .val (.int (0 : Int32)), .unset] [(.int d0)])
    refine own_by (fun t k => XS.istore X245.here hx rfl (hb hby d1_33) rfl (l' := #[.val (.ref a1), .val (.int (3 : Int32)), .val (.ref a2), .val (.ref a2), .val (.int (5 : Int32)), .val (.int (0 : Int32)), .val (.int d0)]) rfl k) ?_
    show ORun p e below s _ _ _ T245 (mkF m 35 #[.val (.ref a1), .val (.int (3 : Int32)), .val (.ref a2), .val (.ref a2), .val (.int (5 : Int32)), .val (.int (0 : Int32)), .val (.int d0)] [])
    refine own_by (fun t k => XS.aloadN X245.here hx rfl (hb hby d1_35) rfl rfl k) ?_
    show ORun p e below s _ _ _ T245 (mkF m 36 #[.val (.ref a1), .val (.int (3 : Int32)), .val (.ref a2), .val (.ref a2), .val (.int (5 : Int32)), .val (.int (0 : Int32)), .val (.int d0)] [(.ref a1)])
    obtain ⟨T247, X247, e247, st247⟩ := getF X245 hx hZ hown (host := "") (Or.inl (hw _ (List.mem_of_getElem? (i := 12) rfl))) Via.refl e245 Fw245 (g := (mkF m 36 #[.val (.ref a1), .val (.int (3 : Int32)), .val (.ref a2), .val (.ref a2), .val (.int (5 : Int32)), .val (.int (0 : Int32)), .val (.int d0)] [(.ref a1)])) rfl rfl (hb hby d1_36)
    refine own_by st247 ?_
    show ORun p e below s _ _ _ T247 (mkF m 39 #[.val (.ref a1), .val (.int (3 : Int32)), .val (.ref a2), .val (.ref a2), .val (.int (5 : Int32)), .val (.int (0 : Int32)), .val (.int d0)] [(.ref b244)])
    refine own_by (fun t k => XS.iload X247.here hx rfl (hb hby d1_39) rfl k) ?_
    show ORun p e below s _ _ _ T247 (mkF m 41 #[.val (.ref a1), .val (.int (3 : Int32)), .val (.ref a2), .val (.ref a2), .val (.int (5 : Int32)), .val (.int (0 : Int32)), .val (.int d0)] [(.int d0), (.ref b244)])
    refine own_by (fun t k => XS.iconst X247.here hx rfl (hb hby d1_41) k) ?_
    show ORun p e below s _ _ _ T247 (mkF m 42 #[.val (.ref a1), .val (.int (3 : Int32)), .val (.ref a2), .val (.ref a2), .val (.int (5 : Int32)), .val (.int (0 : Int32)), .val (.int d0)] [(.int (1 : Int32)), (.int d0), (.ref b244)])
    refine own_by (fun t k => XS.iadd X247.here hx rfl (hb hby d1_42) rfl k) (own_letI (f := (fun z => (mkF m 43 #[.val (.ref a1), .val (.int (3 : Int32)), .val (.ref a2), .val (.ref a2), .val (.int (5 : Int32)), .val (.int (0 : Int32)), .val (.int d0)] [(.int z), (.ref b244)]))) (d0 + (1 : Int32)) fun v248 hv248 => ?_)
    show ORun p e below s _ _ _ T247 (mkF m 43 #[.val (.ref a1), .val (.int (3 : Int32)), .val (.ref a2), .val (.ref a2), .val (.int (5 : Int32)), .val (.int (0 : Int32)), .val (.int d0)] [(.int v248), (.ref b244)])
    have r248 := rng32 v248
    have a248 : v248.toInt = d0.toInt + 1 := by
      have q : (v248.toInt - (d0.toInt + 1)) % 4294967296 = 0 := by rw [hv248]; exact c_iadd d0 (1 : Int32)
      omega
    refine own_by (fun t k => XT.dup2 X247.here hx rfl (hb hby d1_43) rfl rfl rfl k) ?_
    show ORun p e below s _ _ _ T247 (mkF m 44 #[.val (.ref a1), .val (.int (3 : Int32)), .val (.ref a2), .val (.ref a2), .val (.int (5 : Int32)), .val (.int (0 : Int32)), .val (.int d0)] [(.int v248), (.ref b244), (.int v248), (.ref b244)])
    refine own_iaload X247 hx hZ e247 (V244.other W245 (Ne.symm ne_a1_b244)) (i := v248.toInt.toNat) (by omega) (by omega) (hb hby d1_44) ?_
    intro v249 hv249
    have r249 := rng32 v249
    show ORun p e below s _ _ _ T247 (mkF m 45 #[.val (.ref a1), .val (.int (3 : Int32)), .val (.ref a2), .val (.ref a2), .val (.int (5 : Int32)), .val (.int (0 : Int32)), .val (.int d0)] [(.int v249), (.int v248), (.ref b244)])
    refine own_by (fun t k => XS.iconst X247.here hx rfl (hb hby d1_45) k) ?_
    show ORun p e below s _ _ _ T247 (mkF m 46 #[.val (.ref a1), .val (.int (3 : Int32)), .val (.ref a2), .val (.ref a2), .val (.int (5 : Int32)), .val (.int (0 : Int32)), .val (.int d0)] [(.int (1 : Int32)), (.int v249), (.int v248), (.ref b244)])
    refine own_by (fun t k => XS.iadd X247.here hx rfl (hb hby d1_46) rfl k) (own_letI (f := (fun z => (mkF m 47 #[.val (.ref a1), .val (.int (3 : Int32)), .val (.ref a2), .val (.ref a2), .val (.int (5 : Int32)), .val (.int (0 : Int32)), .val (.int d0)] [(.int z), (.int v248), (.ref b244)]))) (v249 + (1 : Int32)) fun v250 hv250 => ?_)
    show ORun p e below s _ _ _ T247 (mkF m 47 #[.val (.ref a1), .val (.int (3 : Int32)), .val (.ref a2), .val (.ref a2), .val (.int (5 : Int32)), .val (.int (0 : Int32)), .val (.int d0)] [(.int v250), (.int v248), (.ref b244)])
    have a250a : (v250.toInt - (v249.toInt + 1)) % 4294967296 = 0 := by rw [hv250]; exact c_iadd v249 (1 : Int32)
    have r250 := rng32 v250
    refine own_iastore X247 hx hZ e247 (V244.other W245 (Ne.symm ne_a1_b244)) (i := v248.toInt.toNat) (by omega) (by omega) (hb hby d1_47) ?_
    intro T251 h251 L251 X251 e251 W251 hL251 V251
    have len251 : L251.length = 4 := by rw [hL251, List.length_set]; exact len244
    have N251 := Fr.snoc X251 N245 old_b244
    show ORun p e below s _ _ _ T251 (mkF m 48 #[.val (.ref a1), .val (.int (3 : Int32)), .val (.ref a2), .val (.ref a2), .val (.int (5 : Int32)), .val (.int (0 : Int32)), .val (.int d0)] [])
    have mb252 : L251 = own_bump L244 d0 := by rw [hL251, hv250, hv249, hv248]; rfl
    clear a248 r248 r249 a250a r250
    have Kz253 : Keep h0 h251 [a1] := ((((Keep.refl h0 [a1]).ext E244).wr W245 (Or.inl (List.mem_of_getElem? (i := 0) rfl))).wr W251 (Or.inr sz_b244))
    have fz253_0 := (((E_a1.ext E244).wr W245).wr W251)
    have fz253_1 := (Fw245.other W251 (Or.inl ne_a1_b244))
    have fz253_2 := (((F_documents_a1.ext E244).other W245 (Or.inr (slot_ne (Or.inr (hw _ (List.mem_of_getElem? (i := 15) rfl))) (Or.inr (hw _ (List.mem_of_getElem? (i := 13) rfl))) (by decide) (t := (.array .int)) (t' := (.array .int)) (by decide) (by decide)))).other W251 (Or.inl ne_a1_b244))
    have fz253_3 := (((VA2.ext E244).other W245 (Ne.symm ne12)).other W251 ne_a2_b244)
    have fz253_5 := ((Ex244.wr W245).wr W251)
    refine own_by (fun t k => XS.iinc X251.here hx rfl (hb hby d1_48) rfl (l' := #[.val (.ref a1), .val (.int (3 : Int32)), .val (.ref a2), .val (.ref a2), .val (.int (5 : Int32)), .val (.int (1 : Int32)), .val (.int d0)]) rfl k) ?_
    show ORun p e below s _ _ _ T251 (mkF m 51 #[.val (.ref a1), .val (.int (3 : Int32)), .val (.ref a2), .val (.ref a2), .val (.int (5 : Int32)), .val (.int (1 : Int32)), .val (.int d0)] [])
    refine own_by (fun t k => XS.goto X251.here hx rfl (pc0 := 51) (pc' := 22) rfl (hb hby d1_51) (by decide) (by decide) k) ?_
    show ORun p e below s _ _ _ T251 (mkF m 22 #[.val (.ref a1), .val (.int (3 : Int32)), .val (.ref a2), .val (.ref a2), .val (.int (5 : Int32)), .val (.int (1 : Int32)), .val (.int d0)] [])
    refine own_by (fun t k => XS.iload X251.here hx rfl (hb hby d1_22) rfl k) ?_
    show ORun p e below s _ _ _ T251 (mkF m 24 #[.val (.ref a1), .val (.int (3 : Int32)), .val (.ref a2), .val (.ref a2), .val (.int (5 : Int32)), .val (.int (1 : Int32)), .val (.int d0)] [(.int (1 : Int32))])
    refine own_by (fun t k => XS.iload X251.here hx rfl (hb hby d1_24) rfl k) ?_
    show ORun p e below s _ _ _ T251 (mkF m 26 #[.val (.ref a1), .val (.int (3 : Int32)), .val (.ref a2), .val (.ref a2), .val (.int (5 : Int32)), .val (.int (1 : Int32)), .val (.int d0)] [(.int (5 : Int32)), (.int (1 : Int32))])
    refine own_by (fun t k => XS.icmpNo X251.here hx rfl (hb hby d1_26) rfl (tlt (by decide)).2.1 k) ?_
    show ORun p e below s _ _ _ T251 (mkF m 29 #[.val (.ref a1), .val (.int (3 : Int32)), .val (.ref a2), .val (.ref a2), .val (.int (5 : Int32)), .val (.int (1 : Int32)), .val (.int d0)] [])
    refine own_by (fun t k => XS.aloadN X251.here hx rfl (hb hby d1_29) rfl rfl k) ?_
    show ORun p e below s _ _ _ T251 (mkF m 30 #[.val (.ref a1), .val (.int (3 : Int32)), .val (.ref a2), .val (.ref a2), .val (.int (5 : Int32)), .val (.int (1 : Int32)), .val (.int d0)] [(.ref a2)])
    refine own_by (fun t k => XS.iload X251.here hx rfl (hb hby d1_30) rfl k) ?_
    show ORun p e below s _ _ _ T251 (mkF m 32 #[.val (.ref a1), .val (.int (3 : Int32)), .val (.ref a2), .val (.ref a2), .val (.int (5 : Int32)), .val (.int (1 : Int32)), .val (.int d0)] [(.int (1 : Int32)), (.ref a2)])
    refine own_iaload X251 hx hZ e251 fz253_3 (i := 1) (by decide) (by omega) (hb hby d1_32) ?_
    intro v254 hv254
    obtain rfl : d1 = v254 := hv254.symm
    show ORun p e below s _ _ _ T251 (mkF m 33 #[.val (.ref a1), .val (.int (3 : Int32)), .val (.ref a2), .val (.ref a2), .val (.int (5 : Int32)), .val (.int (1 : Int32)), .val (.int d0)] [(.int d1)])
    refine own_by (fun t k => XS.istore X251.here hx rfl (hb hby d1_33) rfl (l' := #[.val (.ref a1), .val (.int (3 : Int32)), .val (.ref a2), .val (.ref a2), .val (.int (5 : Int32)), .val (.int (1 : Int32)), .val (.int d1)]) rfl k) ?_
    show ORun p e below s _ _ _ T251 (mkF m 35 #[.val (.ref a1), .val (.int (3 : Int32)), .val (.ref a2), .val (.ref a2), .val (.int (5 : Int32)), .val (.int (1 : Int32)), .val (.int d1)] [])
    refine own_by (fun t k => XS.aloadN X251.here hx rfl (hb hby d1_35) rfl rfl k) ?_
    show ORun p e below s _ _ _ T251 (mkF m 36 #[.val (.ref a1), .val (.int (3 : Int32)), .val (.ref a2), .val (.ref a2), .val (.int (5 : Int32)), .val (.int (1 : Int32)), .val (.int d1)] [(.ref a1)])
    obtain ⟨T255, X255, e255, st255⟩ := getF X251 hx hZ hown (host := "") (Or.inl (hw _ (List.mem_of_getElem? (i := 12) rfl))) Via.refl e251 fz253_1 (g := (mkF m 36 #[.val (.ref a1), .val (.int (3 : Int32)), .val (.ref a2), .val (.ref a2), .val (.int (5 : Int32)), .val (.int (1 : Int32)), .val (.int d1)] [(.ref a1)])) rfl rfl (hb hby d1_36)
    refine own_by st255 ?_
    show ORun p e below s _ _ _ T255 (mkF m 39 #[.val (.ref a1), .val (.int (3 : Int32)), .val (.ref a2), .val (.ref a2), .val (.int (5 : Int32)), .val (.int (1 : Int32)), .val (.int d1)] [(.ref b244)])
    refine own_by (fun t k => XS.iload X255.here hx rfl (hb hby d1_39) rfl k) ?_
    show ORun p e below s _ _ _ T255 (mkF m 41 #[.val (.ref a1), .val (.int (3 : Int32)), .val (.ref a2), .val (.ref a2), .val (.int (5 : Int32)), .val (.int (1 : Int32)), .val (.int d1)] [(.int d1), (.ref b244)])
    refine own_by (fun t k => XS.iconst X255.here hx rfl (hb hby d1_41) k) ?_
    show ORun p e below s _ _ _ T255 (mkF m 42 #[.val (.ref a1), .val (.int (3 : Int32)), .val (.ref a2), .val (.ref a2), .val (.int (5 : Int32)), .val (.int (1 : Int32)), .val (.int d1)] [(.int (1 : Int32)), (.int d1), (.ref b244)])
    refine own_by (fun t k => XS.iadd X255.here hx rfl (hb hby d1_42) rfl k) (own_letI (f := (fun z => (mkF m 43 #[.val (.ref a1), .val (.int (3 : Int32)), .val (.ref a2), .val (.ref a2), .val (.int (5 : Int32)), .val (.int (1 : Int32)), .val (.int d1)] [(.int z), (.ref b244)]))) (d1 + (1 : Int32)) fun v256 hv256 => ?_)
    show ORun p e below s _ _ _ T255 (mkF m 43 #[.val (.ref a1), .val (.int (3 : Int32)), .val (.ref a2), .val (.ref a2), .val (.int (5 : Int32)), .val (.int (1 : Int32)), .val (.int d1)] [(.int v256), (.ref b244)])
    have r256 := rng32 v256
    have a256 : v256.toInt = d1.toInt + 1 := by
      have q : (v256.toInt - (d1.toInt + 1)) % 4294967296 = 0 := by rw [hv256]; exact c_iadd d1 (1 : Int32)
      omega
    refine own_by (fun t k => XT.dup2 X255.here hx rfl (hb hby d1_43) rfl rfl rfl k) ?_
    show ORun p e below s _ _ _ T255 (mkF m 44 #[.val (.ref a1), .val (.int (3 : Int32)), .val (.ref a2), .val (.ref a2), .val (.int (5 : Int32)), .val (.int (1 : Int32)), .val (.int d1)] [(.int v256), (.ref b244), (.int v256), (.ref b244)])
    refine own_iaload X255 hx hZ e255 V251 (i := v256.toInt.toNat) (by omega) (by omega) (hb hby d1_44) ?_
    intro v257 hv257
    have r257 := rng32 v257
    show ORun p e below s _ _ _ T255 (mkF m 45 #[.val (.ref a1), .val (.int (3 : Int32)), .val (.ref a2), .val (.ref a2), .val (.int (5 : Int32)), .val (.int (1 : Int32)), .val (.int d1)] [(.int v257), (.int v256), (.ref b244)])
    refine own_by (fun t k => XS.iconst X255.here hx rfl (hb hby d1_45) k) ?_
    show ORun p e below s _ _ _ T255 (mkF m 46 #[.val (.ref a1), .val (.int (3 : Int32)), .val (.ref a2), .val (.ref a2), .val (.int (5 : Int32)), .val (.int (1 : Int32)), .val (.int d1)] [(.int (1 : Int32)), (.int v257), (.int v256), (.ref b244)])
    refine own_by (fun t k => XS.iadd X255.here hx rfl (hb hby d1_46) rfl k) (own_letI (f := (fun z => (mkF m 47 #[.val (.ref a1), .val (.int (3 : Int32)), .val (.ref a2), .val (.ref a2), .val (.int (5 : Int32)), .val (.int (1 : Int32)), .val (.int d1)] [(.int z), (.int v256), (.ref b244)]))) (v257 + (1 : Int32)) fun v258 hv258 => ?_)
    show ORun p e below s _ _ _ T255 (mkF m 47 #[.val (.ref a1), .val (.int (3 : Int32)), .val (.ref a2), .val (.ref a2), .val (.int (5 : Int32)), .val (.int (1 : Int32)), .val (.int d1)] [(.int v258), (.int v256), (.ref b244)])
    have a258a : (v258.toInt - (v257.toInt + 1)) % 4294967296 = 0 := by rw [hv258]; exact c_iadd v257 (1 : Int32)
    have r258 := rng32 v258
    refine own_iastore X255 hx hZ e255 V251 (i := v256.toInt.toNat) (by omega) (by omega) (hb hby d1_47) ?_
    intro T259 h259 L259 X259 e259 W259 hL259 V259
    have len259 : L259.length = 4 := by rw [hL259, List.length_set]; exact len251
    have N259 := Fr.snoc X259 N251 old_b244
    show ORun p e below s _ _ _ T259 (mkF m 48 #[.val (.ref a1), .val (.int (3 : Int32)), .val (.ref a2), .val (.ref a2), .val (.int (5 : Int32)), .val (.int (1 : Int32)), .val (.int d1)] [])
    have mb260 : L259 = own_bump L251 d1 := by rw [hL259, hv258, hv257, hv256]; rfl
    clear a256 r256 r257 a258a r258
    have Kz261 : Keep h0 h259 [a1] := (((Keep.refl h0 [a1]).trans Kz253 (allS (Or.inl (List.mem_of_getElem? (i := 0) rfl)) all0)).wr W259 (Or.inr sz_b244))
    have fz261_0 := (fz253_0.wr W259)
    have fz261_1 := (fz253_1.other W259 (Or.inl ne_a1_b244))
    have fz261_2 := (fz253_2.other W259 (Or.inl ne_a1_b244))
    have fz261_3 := (fz253_3.other W259 ne_a2_b244)
    have fz261_5 := (fz253_5.wr W259)
    refine own_by (fun t k => XS.iinc X259.here hx rfl (hb hby d1_48) rfl (l' := #[.val (.ref a1), .val (.int (3 : Int32)), .val (.ref a2), .val (.ref a2), .val (.int (5 : Int32)), .val (.int (2 : Int32)), .val (.int d1)]) rfl k) ?_
    show ORun p e below s _ _ _ T259 (mkF m 51 #[.val (.ref a1), .val (.int (3 : Int32)), .val (.ref a2), .val (.ref a2), .val (.int (5 : Int32)), .val (.int (2 : Int32)), .val (.int d1)] [])
    refine own_by (fun t k => XS.goto X259.here hx rfl (pc0 := 51) (pc' := 22) rfl (hb hby d1_51) (by decide) (by decide) k) ?_
    show ORun p e below s _ _ _ T259 (mkF m 22 #[.val (.ref a1), .val (.int (3 : Int32)), .val (.ref a2), .val (.ref a2), .val (.int (5 : Int32)), .val (.int (2 : Int32)), .val (.int d1)] [])
    refine own_by (fun t k => XS.iload X259.here hx rfl (hb hby d1_22) rfl k) ?_
    show ORun p e below s _ _ _ T259 (mkF m 24 #[.val (.ref a1), .val (.int (3 : Int32)), .val (.ref a2), .val (.ref a2), .val (.int (5 : Int32)), .val (.int (2 : Int32)), .val (.int d1)] [(.int (2 : Int32))])
    refine own_by (fun t k => XS.iload X259.here hx rfl (hb hby d1_24) rfl k) ?_
    show ORun p e below s _ _ _ T259 (mkF m 26 #[.val (.ref a1), .val (.int (3 : Int32)), .val (.ref a2), .val (.ref a2), .val (.int (5 : Int32)), .val (.int (2 : Int32)), .val (.int d1)] [(.int (5 : Int32)), (.int (2 : Int32))])
    refine own_by (fun t k => XS.icmpNo X259.here hx rfl (hb hby d1_26) rfl (tlt (by decide)).2.1 k) ?_
    show ORun p e below s _ _ _ T259 (mkF m 29 #[.val (.ref a1), .val (.int (3 : Int32)), .val (.ref a2), .val (.ref a2), .val (.int (5 : Int32)), .val (.int (2 : Int32)), .val (.int d1)] [])
    refine own_by (fun t k => XS.aloadN X259.here hx rfl (hb hby d1_29) rfl rfl k) ?_
    show ORun p e below s _ _ _ T259 (mkF m 30 #[.val (.ref a1), .val (.int (3 : Int32)), .val (.ref a2), .val (.ref a2), .val (.int (5 : Int32)), .val (.int (2 : Int32)), .val (.int d1)] [(.ref a2)])
    refine own_by (fun t k => XS.iload X259.here hx rfl (hb hby d1_30) rfl k) ?_
    show ORun p e below s _ _ _ T259 (mkF m 32 #[.val (.ref a1), .val (.int (3 : Int32)), .val (.ref a2), .val (.ref a2), .val (.int (5 : Int32)), .val (.int (2 : Int32)), .val (.int d1)] [(.int (2 : Int32)), (.ref a2)])
    refine own_iaload X259 hx hZ e259 fz261_3 (i := 2) (by decide) (by omega) (hb hby d1_32) ?_
    intro v262 hv262
    obtain rfl : d2 = v262 := hv262.symm
    show ORun p e below s _ _ _ T259 (mkF m 33 #[.val (.ref a1), .val (.int (3 : Int32)), .val (.ref a2), .val (.ref a2), .val (.int (5 : Int32)), .val (.int (2 : Int32)), .val (.int d1)] [(.int d2)])
    refine own_by (fun t k => XS.istore X259.here hx rfl (hb hby d1_33) rfl (l' := #[.val (.ref a1), .val (.int (3 : Int32)), .val (.ref a2), .val (.ref a2), .val (.int (5 : Int32)), .val (.int (2 : Int32)), .val (.int d2)]) rfl k) ?_
    show ORun p e below s _ _ _ T259 (mkF m 35 #[.val (.ref a1), .val (.int (3 : Int32)), .val (.ref a2), .val (.ref a2), .val (.int (5 : Int32)), .val (.int (2 : Int32)), .val (.int d2)] [])
    refine own_by (fun t k => XS.aloadN X259.here hx rfl (hb hby d1_35) rfl rfl k) ?_
    show ORun p e below s _ _ _ T259 (mkF m 36 #[.val (.ref a1), .val (.int (3 : Int32)), .val (.ref a2), .val (.ref a2), .val (.int (5 : Int32)), .val (.int (2 : Int32)), .val (.int d2)] [(.ref a1)])
    obtain ⟨T263, X263, e263, st263⟩ := getF X259 hx hZ hown (host := "") (Or.inl (hw _ (List.mem_of_getElem? (i := 12) rfl))) Via.refl e259 fz261_1 (g := (mkF m 36 #[.val (.ref a1), .val (.int (3 : Int32)), .val (.ref a2), .val (.ref a2), .val (.int (5 : Int32)), .val (.int (2 : Int32)), .val (.int d2)] [(.ref a1)])) rfl rfl (hb hby d1_36)
    refine own_by st263 ?_
    show ORun p e below s _ _ _ T263 (mkF m 39 #[.val (.ref a1), .val (.int (3 : Int32)), .val (.ref a2), .val (.ref a2), .val (.int (5 : Int32)), .val (.int (2 : Int32)), .val (.int d2)] [(.ref b244)])
    refine own_by (fun t k => XS.iload X263.here hx rfl (hb hby d1_39) rfl k) ?_
    show ORun p e below s _ _ _ T263 (mkF m 41 #[.val (.ref a1), .val (.int (3 : Int32)), .val (.ref a2), .val (.ref a2), .val (.int (5 : Int32)), .val (.int (2 : Int32)), .val (.int d2)] [(.int d2), (.ref b244)])
    refine own_by (fun t k => XS.iconst X263.here hx rfl (hb hby d1_41) k) ?_
    show ORun p e below s _ _ _ T263 (mkF m 42 #[.val (.ref a1), .val (.int (3 : Int32)), .val (.ref a2), .val (.ref a2), .val (.int (5 : Int32)), .val (.int (2 : Int32)), .val (.int d2)] [(.int (1 : Int32)), (.int d2), (.ref b244)])
    refine own_by (fun t k => XS.iadd X263.here hx rfl (hb hby d1_42) rfl k) (own_letI (f := (fun z => (mkF m 43 #[.val (.ref a1), .val (.int (3 : Int32)), .val (.ref a2), .val (.ref a2), .val (.int (5 : Int32)), .val (.int (2 : Int32)), .val (.int d2)] [(.int z), (.ref b244)]))) (d2 + (1 : Int32)) fun v264 hv264 => ?_)
    show ORun p e below s _ _ _ T263 (mkF m 43 #[.val (.ref a1), .val (.int (3 : Int32)), .val (.ref a2), .val (.ref a2), .val (.int (5 : Int32)), .val (.int (2 : Int32)), .val (.int d2)] [(.int v264), (.ref b244)])
    have r264 := rng32 v264
    have a264 : v264.toInt = d2.toInt + 1 := by
      have q : (v264.toInt - (d2.toInt + 1)) % 4294967296 = 0 := by rw [hv264]; exact c_iadd d2 (1 : Int32)
      omega
    refine own_by (fun t k => XT.dup2 X263.here hx rfl (hb hby d1_43) rfl rfl rfl k) ?_
    show ORun p e below s _ _ _ T263 (mkF m 44 #[.val (.ref a1), .val (.int (3 : Int32)), .val (.ref a2), .val (.ref a2), .val (.int (5 : Int32)), .val (.int (2 : Int32)), .val (.int d2)] [(.int v264), (.ref b244), (.int v264), (.ref b244)])
    refine own_iaload X263 hx hZ e263 V259 (i := v264.toInt.toNat) (by omega) (by omega) (hb hby d1_44) ?_
    intro v265 hv265
    have r265 := rng32 v265
    show ORun p e below s _ _ _ T263 (mkF m 45 #[.val (.ref a1), .val (.int (3 : Int32)), .val (.ref a2), .val (.ref a2), .val (.int (5 : Int32)), .val (.int (2 : Int32)), .val (.int d2)] [(.int v265), (.int v264), (.ref b244)])
    refine own_by (fun t k => XS.iconst X263.here hx rfl (hb hby d1_45) k) ?_
    show ORun p e below s _ _ _ T263 (mkF m 46 #[.val (.ref a1), .val (.int (3 : Int32)), .val (.ref a2), .val (.ref a2), .val (.int (5 : Int32)), .val (.int (2 : Int32)), .val (.int d2)] [(.int (1 : Int32)), (.int v265), (.int v264), (.ref b244)])
    refine own_by (fun t k => XS.iadd X263.here hx rfl (hb hby d1_46) rfl k) (own_letI (f := (fun z => (mkF m 47 #[.val (.ref a1), .val (.int (3 : Int32)), .val (.ref a2), .val (.ref a2), .val (.int (5 : Int32)), .val (.int (2 : Int32)), .val (.int d2)] [(.int z), (.int v264), (.ref b244)]))) (v265 + (1 : Int32)) fun v266 hv266 => ?_)
    show ORun p e below s _ _ _ T263 (mkF m 47 #[.val (.ref a1), .val (.int (3 : Int32)), .val (.ref a2), .val (.ref a2), .val (.int (5 : Int32)), .val (.int (2 : Int32)), .val (.int d2)] [(.int v266), (.int v264), (.ref b244)])
    have a266a : (v266.toInt - (v265.toInt + 1)) % 4294967296 = 0 := by rw [hv266]; exact c_iadd v265 (1 : Int32)
    have r266 := rng32 v266
    refine own_iastore X263 hx hZ e263 V259 (i := v264.toInt.toNat) (by omega) (by omega) (hb hby d1_47) ?_
    intro T267 h267 L267 X267 e267 W267 hL267 V267
    have len267 : L267.length = 4 := by rw [hL267, List.length_set]; exact len259
    have N267 := Fr.snoc X267 N259 old_b244
    show ORun p e below s _ _ _ T267 (mkF m 48 #[.val (.ref a1), .val (.int (3 : Int32)), .val (.ref a2), .val (.ref a2), .val (.int (5 : Int32)), .val (.int (2 : Int32)), .val (.int d2)] [])
    have mb268 : L267 = own_bump L259 d2 := by rw [hL267, hv266, hv265, hv264]; rfl
    clear a264 r264 r265 a266a r266
    have Kz269 : Keep h0 h267 [a1] := (((Keep.refl h0 [a1]).trans Kz261 (allS (Or.inl (List.mem_of_getElem? (i := 0) rfl)) all0)).wr W267 (Or.inr sz_b244))
    have fz269_0 := (fz261_0.wr W267)
    have fz269_1 := (fz261_1.other W267 (Or.inl ne_a1_b244))
    have fz269_2 := (fz261_2.other W267 (Or.inl ne_a1_b244))
    have fz269_3 := (fz261_3.other W267 ne_a2_b244)
    have fz269_5 := (fz261_5.wr W267)
    refine own_by (fun t k => XS.iinc X267.here hx rfl (hb hby d1_48) rfl (l' := #[.val (.ref a1), .val (.int (3 : Int32)), .val (.ref a2), .val (.ref a2), .val (.int (5 : Int32)), .val (.int (3 : Int32)), .val (.int d2)]) rfl k) ?_
    show ORun p e below s _ _ _ T267 (mkF m 51 #[.val (.ref a1), .val (.int (3 : Int32)), .val (.ref a2), .val (.ref a2), .val (.int (5 : Int32)), .val (.int (3 : Int32)), .val (.int d2)] [])
    refine own_by (fun t k => XS.goto X267.here hx rfl (pc0 := 51) (pc' := 22) rfl (hb hby d1_51) (by decide) (by decide) k) ?_
    show ORun p e below s _ _ _ T267 (mkF m 22 #[.val (.ref a1), .val (.int (3 : Int32)), .val (.ref a2), .val (.ref a2), .val (.int (5 : Int32)), .val (.int (3 : Int32)), .val (.int d2)] [])
    refine own_by (fun t k => XS.iload X267.here hx rfl (hb hby d1_22) rfl k) ?_
    show ORun p e below s _ _ _ T267 (mkF m 24 #[.val (.ref a1), .val (.int (3 : Int32)), .val (.ref a2), .val (.ref a2), .val (.int (5 : Int32)), .val (.int (3 : Int32)), .val (.int d2)] [(.int (3 : Int32))])
    refine own_by (fun t k => XS.iload X267.here hx rfl (hb hby d1_24) rfl k) ?_
    show ORun p e below s _ _ _ T267 (mkF m 26 #[.val (.ref a1), .val (.int (3 : Int32)), .val (.ref a2), .val (.ref a2), .val (.int (5 : Int32)), .val (.int (3 : Int32)), .val (.int d2)] [(.int (5 : Int32)), (.int (3 : Int32))])
    refine own_by (fun t k => XS.icmpNo X267.here hx rfl (hb hby d1_26) rfl (tlt (by decide)).2.1 k) ?_
    show ORun p e below s _ _ _ T267 (mkF m 29 #[.val (.ref a1), .val (.int (3 : Int32)), .val (.ref a2), .val (.ref a2), .val (.int (5 : Int32)), .val (.int (3 : Int32)), .val (.int d2)] [])
    refine own_by (fun t k => XS.aloadN X267.here hx rfl (hb hby d1_29) rfl rfl k) ?_
    show ORun p e below s _ _ _ T267 (mkF m 30 #[.val (.ref a1), .val (.int (3 : Int32)), .val (.ref a2), .val (.ref a2), .val (.int (5 : Int32)), .val (.int (3 : Int32)), .val (.int d2)] [(.ref a2)])
    refine own_by (fun t k => XS.iload X267.here hx rfl (hb hby d1_30) rfl k) ?_
    show ORun p e below s _ _ _ T267 (mkF m 32 #[.val (.ref a1), .val (.int (3 : Int32)), .val (.ref a2), .val (.ref a2), .val (.int (5 : Int32)), .val (.int (3 : Int32)), .val (.int d2)] [(.int (3 : Int32)), (.ref a2)])
    refine own_iaload X267 hx hZ e267 fz269_3 (i := 3) (by decide) (by omega) (hb hby d1_32) ?_
    intro v270 hv270
    obtain rfl : d3 = v270 := hv270.symm
    show ORun p e below s _ _ _ T267 (mkF m 33 #[.val (.ref a1), .val (.int (3 : Int32)), .val (.ref a2), .val (.ref a2), .val (.int (5 : Int32)), .val (.int (3 : Int32)), .val (.int d2)] [(.int d3)])
    refine own_by (fun t k => XS.istore X267.here hx rfl (hb hby d1_33) rfl (l' := #[.val (.ref a1), .val (.int (3 : Int32)), .val (.ref a2), .val (.ref a2), .val (.int (5 : Int32)), .val (.int (3 : Int32)), .val (.int d3)]) rfl k) ?_
    show ORun p e below s _ _ _ T267 (mkF m 35 #[.val (.ref a1), .val (.int (3 : Int32)), .val (.ref a2), .val (.ref a2), .val (.int (5 : Int32)), .val (.int (3 : Int32)), .val (.int d3)] [])
    refine own_by (fun t k => XS.aloadN X267.here hx rfl (hb hby d1_35) rfl rfl k) ?_
    show ORun p e below s _ _ _ T267 (mkF m 36 #[.val (.ref a1), .val (.int (3 : Int32)), .val (.ref a2), .val (.ref a2), .val (.int (5 : Int32)), .val (.int (3 : Int32)), .val (.int d3)] [(.ref a1)])
    obtain ⟨T271, X271, e271, st271⟩ := getF X267 hx hZ hown (host := "") (Or.inl (hw _ (List.mem_of_getElem? (i := 12) rfl))) Via.refl e267 fz269_1 (g := (mkF m 36 #[.val (.ref a1), .val (.int (3 : Int32)), .val (.ref a2), .val (.ref a2), .val (.int (5 : Int32)), .val (.int (3 : Int32)), .val (.int d3)] [(.ref a1)])) rfl rfl (hb hby d1_36)
    refine own_by st271 ?_
    show ORun p e below s _ _ _ T271 (mkF m 39 #[.val (.ref a1), .val (.int (3 : Int32)), .val (.ref a2), .val (.ref a2), .val (.int (5 : Int32)), .val (.int (3 : Int32)), .val (.int d3)] [(.ref b244)])
    refine own_by (fun t k => XS.iload X271.here hx rfl (hb hby d1_39) rfl k) ?_
    show ORun p e below s _ _ _ T271 (mkF m 41 #[.val (.ref a1), .val (.int (3 : Int32)), .val (.ref a2), .val (.ref a2), .val (.int (5 : Int32)), .val (.int (3 : Int32)), .val (.int d3)] [(.int d3), (.ref b244)])
    refine own_by (fun t k => XS.iconst X271.here hx rfl (hb hby d1_41) k) ?_
    show ORun p e below s _ _ _ T271 (mkF m 42 #[.val (.ref a1), .val (.int (3 : Int32)), .val (.ref a2), .val (.ref a2), .val (.int (5 : Int32)), .val (.int (3 : Int32)), .val (.int d3)] [(.int (1 : Int32)), (.int d3), (.ref b244)])
    refine own_by (fun t k => XS.iadd X271.here hx rfl (hb hby d1_42) rfl k) (own_letI (f := (fun z => (mkF m 43 #[.val (.ref a1), .val (.int (3 : Int32)), .val (.ref a2), .val (.ref a2), .val (.int (5 : Int32)), .val (.int (3 : Int32)), .val (.int d3)] [(.int z), (.ref b244)]))) (d3 + (1 : Int32)) fun v272 hv272 => ?_)
    show ORun p e below s _ _ _ T271 (mkF m 43 #[.val (.ref a1), .val (.int (3 : Int32)), .val (.ref a2), .val (.ref a2), .val (.int (5 : Int32)), .val (.int (3 : Int32)), .val (.int d3)] [(.int v272), (.ref b244)])
    have r272 := rng32 v272
    have a272 : v272.toInt = d3.toInt + 1 := by
      have q : (v272.toInt - (d3.toInt + 1)) % 4294967296 = 0 := by rw [hv272]; exact c_iadd d3 (1 : Int32)
      omega
    refine own_by (fun t k => XT.dup2 X271.here hx rfl (hb hby d1_43) rfl rfl rfl k) ?_
    show ORun p e below s _ _ _ T271 (mkF m 44 #[.val (.ref a1), .val (.int (3 : Int32)), .val (.ref a2), .val (.ref a2), .val (.int (5 : Int32)), .val (.int (3 : Int32)), .val (.int d3)] [(.int v272), (.ref b244), (.int v272), (.ref b244)])
    refine own_iaload X271 hx hZ e271 V267 (i := v272.toInt.toNat) (by omega) (by omega) (hb hby d1_44) ?_
    intro v273 hv273
    have r273 := rng32 v273
    show ORun p e below s _ _ _ T271 (mkF m 45 #[.val (.ref a1), .val (.int (3 : Int32)), .val (.ref a2), .val (.ref a2), .val (.int (5 : Int32)), .val (.int (3 : Int32)), .val (.int d3)] [(.int v273), (.int v272), (.ref b244)])
    refine own_by (fun t k => XS.iconst X271.here hx rfl (hb hby d1_45) k) ?_
    show ORun p e below s _ _ _ T271 (mkF m 46 #[.val (.ref a1), .val (.int (3 : Int32)), .val (.ref a2), .val (.ref a2), .val (.int (5 : Int32)), .val (.int (3 : Int32)), .val (.int d3)] [(.int (1 : Int32)), (.int v273), (.int v272), (.ref b244)])
    refine own_by (fun t k => XS.iadd X271.here hx rfl (hb hby d1_46) rfl k) (own_letI (f := (fun z => (mkF m 47 #[.val (.ref a1), .val (.int (3 : Int32)), .val (.ref a2), .val (.ref a2), .val (.int (5 : Int32)), .val (.int (3 : Int32)), .val (.int d3)] [(.int z), (.int v272), (.ref b244)]))) (v273 + (1 : Int32)) fun v274 hv274 => ?_)
    show ORun p e below s _ _ _ T271 (mkF m 47 #[.val (.ref a1), .val (.int (3 : Int32)), .val (.ref a2), .val (.ref a2), .val (.int (5 : Int32)), .val (.int (3 : Int32)), .val (.int d3)] [(.int v274), (.int v272), (.ref b244)])
    have a274a : (v274.toInt - (v273.toInt + 1)) % 4294967296 = 0 := by rw [hv274]; exact c_iadd v273 (1 : Int32)
    have r274 := rng32 v274
    refine own_iastore X271 hx hZ e271 V267 (i := v272.toInt.toNat) (by omega) (by omega) (hb hby d1_47) ?_
    intro T275 h275 L275 X275 e275 W275 hL275 V275
    have len275 : L275.length = 4 := by rw [hL275, List.length_set]; exact len267
    have N275 := Fr.snoc X275 N267 old_b244
    show ORun p e below s _ _ _ T275 (mkF m 48 #[.val (.ref a1), .val (.int (3 : Int32)), .val (.ref a2), .val (.ref a2), .val (.int (5 : Int32)), .val (.int (3 : Int32)), .val (.int d3)] [])
    have mb276 : L275 = own_bump L267 d3 := by rw [hL275, hv274, hv273, hv272]; rfl
    clear a272 r272 r273 a274a r274
    have Kz277 : Keep h0 h275 [a1] := (((Keep.refl h0 [a1]).trans Kz269 (allS (Or.inl (List.mem_of_getElem? (i := 0) rfl)) all0)).wr W275 (Or.inr sz_b244))
    have fz277_0 := (fz269_0.wr W275)
    have fz277_1 := (fz269_1.other W275 (Or.inl ne_a1_b244))
    have fz277_2 := (fz269_2.other W275 (Or.inl ne_a1_b244))
    have fz277_3 := (fz269_3.other W275 ne_a2_b244)
    have fz277_5 := (fz269_5.wr W275)
    refine own_by (fun t k => XS.iinc X275.here hx rfl (hb hby d1_48) rfl (l' := #[.val (.ref a1), .val (.int (3 : Int32)), .val (.ref a2), .val (.ref a2), .val (.int (5 : Int32)), .val (.int (4 : Int32)), .val (.int d3)]) rfl k) ?_
    show ORun p e below s _ _ _ T275 (mkF m 51 #[.val (.ref a1), .val (.int (3 : Int32)), .val (.ref a2), .val (.ref a2), .val (.int (5 : Int32)), .val (.int (4 : Int32)), .val (.int d3)] [])
    refine own_by (fun t k => XS.goto X275.here hx rfl (pc0 := 51) (pc' := 22) rfl (hb hby d1_51) (by decide) (by decide) k) ?_
    show ORun p e below s _ _ _ T275 (mkF m 22 #[.val (.ref a1), .val (.int (3 : Int32)), .val (.ref a2), .val (.ref a2), .val (.int (5 : Int32)), .val (.int (4 : Int32)), .val (.int d3)] [])
    refine own_by (fun t k => XS.iload X275.here hx rfl (hb hby d1_22) rfl k) ?_
    show ORun p e below s _ _ _ T275 (mkF m 24 #[.val (.ref a1), .val (.int (3 : Int32)), .val (.ref a2), .val (.ref a2), .val (.int (5 : Int32)), .val (.int (4 : Int32)), .val (.int d3)] [(.int (4 : Int32))])
    refine own_by (fun t k => XS.iload X275.here hx rfl (hb hby d1_24) rfl k) ?_
    show ORun p e below s _ _ _ T275 (mkF m 26 #[.val (.ref a1), .val (.int (3 : Int32)), .val (.ref a2), .val (.ref a2), .val (.int (5 : Int32)), .val (.int (4 : Int32)), .val (.int d3)] [(.int (5 : Int32)), (.int (4 : Int32))])
    refine own_by (fun t k => XS.icmpNo X275.here hx rfl (hb hby d1_26) rfl (tlt (by decide)).2.1 k) ?_
    show ORun p e below s _ _ _ T275 (mkF m 29 #[.val (.ref a1), .val (.int (3 : Int32)), .val (.ref a2), .val (.ref a2), .val (.int (5 : Int32)), .val (.int (4 : Int32)), .val (.int d3)] [])
    refine own_by (fun t k => XS.aloadN X275.here hx rfl (hb hby d1_29) rfl rfl k) ?_
    show ORun p e below s _ _ _ T275 (mkF m 30 #[.val (.ref a1), .val (.int (3 : Int32)), .val (.ref a2), .val (.ref a2), .val (.int (5 : Int32)), .val (.int (4 : Int32)), .val (.int d3)] [(.ref a2)])
    refine own_by (fun t k => XS.iload X275.here hx rfl (hb hby d1_30) rfl k) ?_
    show ORun p e below s _ _ _ T275 (mkF m 32 #[.val (.ref a1), .val (.int (3 : Int32)), .val (.ref a2), .val (.ref a2), .val (.int (5 : Int32)), .val (.int (4 : Int32)), .val (.int d3)] [(.int (4 : Int32)), (.ref a2)])
    refine own_iaload X275 hx hZ e275 fz277_3 (i := 4) (by decide) (by omega) (hb hby d1_32) ?_
    intro v278 hv278
    obtain rfl : d4 = v278 := hv278.symm
    show ORun p e below s _ _ _ T275 (mkF m 33 #[.val (.ref a1), .val (.int (3 : Int32)), .val (.ref a2), .val (.ref a2), .val (.int (5 : Int32)), .val (.int (4 : Int32)), .val (.int d3)] [(.int d4)])
    refine own_by (fun t k => XS.istore X275.here hx rfl (hb hby d1_33) rfl (l' := #[.val (.ref a1), .val (.int (3 : Int32)), .val (.ref a2), .val (.ref a2), .val (.int (5 : Int32)), .val (.int (4 : Int32)), .val (.int d4)]) rfl k) ?_
    show ORun p e below s _ _ _ T275 (mkF m 35 #[.val (.ref a1), .val (.int (3 : Int32)), .val (.ref a2), .val (.ref a2), .val (.int (5 : Int32)), .val (.int (4 : Int32)), .val (.int d4)] [])
    refine own_by (fun t k => XS.aloadN X275.here hx rfl (hb hby d1_35) rfl rfl k) ?_
    show ORun p e below s _ _ _ T275 (mkF m 36 #[.val (.ref a1), .val (.int (3 : Int32)), .val (.ref a2), .val (.ref a2), .val (.int (5 : Int32)), .val (.int (4 : Int32)), .val (.int d4)] [(.ref a1)])
    obtain ⟨T279, X279, e279, st279⟩ := getF X275 hx hZ hown (host := "") (Or.inl (hw _ (List.mem_of_getElem? (i := 12) rfl))) Via.refl e275 fz277_1 (g := (mkF m 36 #[.val (.ref a1), .val (.int (3 : Int32)), .val (.ref a2), .val (.ref a2), .val (.int (5 : Int32)), .val (.int (4 : Int32)), .val (.int d4)] [(.ref a1)])) rfl rfl (hb hby d1_36)
    refine own_by st279 ?_
    show ORun p e below s _ _ _ T279 (mkF m 39 #[.val (.ref a1), .val (.int (3 : Int32)), .val (.ref a2), .val (.ref a2), .val (.int (5 : Int32)), .val (.int (4 : Int32)), .val (.int d4)] [(.ref b244)])
    refine own_by (fun t k => XS.iload X279.here hx rfl (hb hby d1_39) rfl k) ?_
    show ORun p e below s _ _ _ T279 (mkF m 41 #[.val (.ref a1), .val (.int (3 : Int32)), .val (.ref a2), .val (.ref a2), .val (.int (5 : Int32)), .val (.int (4 : Int32)), .val (.int d4)] [(.int d4), (.ref b244)])
    refine own_by (fun t k => XS.iconst X279.here hx rfl (hb hby d1_41) k) ?_
    show ORun p e below s _ _ _ T279 (mkF m 42 #[.val (.ref a1), .val (.int (3 : Int32)), .val (.ref a2), .val (.ref a2), .val (.int (5 : Int32)), .val (.int (4 : Int32)), .val (.int d4)] [(.int (1 : Int32)), (.int d4), (.ref b244)])
    refine own_by (fun t k => XS.iadd X279.here hx rfl (hb hby d1_42) rfl k) (own_letI (f := (fun z => (mkF m 43 #[.val (.ref a1), .val (.int (3 : Int32)), .val (.ref a2), .val (.ref a2), .val (.int (5 : Int32)), .val (.int (4 : Int32)), .val (.int d4)] [(.int z), (.ref b244)]))) (d4 + (1 : Int32)) fun v280 hv280 => ?_)
    show ORun p e below s _ _ _ T279 (mkF m 43 #[.val (.ref a1), .val (.int (3 : Int32)), .val (.ref a2), .val (.ref a2), .val (.int (5 : Int32)), .val (.int (4 : Int32)), .val (.int d4)] [(.int v280), (.ref b244)])
    have r280 := rng32 v280
    have a280 : v280.toInt = d4.toInt + 1 := by
      have q : (v280.toInt - (d4.toInt + 1)) % 4294967296 = 0 := by rw [hv280]; exact c_iadd d4 (1 : Int32)
      omega
    refine own_by (fun t k => XT.dup2 X279.here hx rfl (hb hby d1_43) rfl rfl rfl k) ?_
    show ORun p e below s _ _ _ T279 (mkF m 44 #[.val (.ref a1), .val (.int (3 : Int32)), .val (.ref a2), .val (.ref a2), .val (.int (5 : Int32)), .val (.int (4 : Int32)), .val (.int d4)] [(.int v280), (.ref b244), (.int v280), (.ref b244)])
    refine own_iaload X279 hx hZ e279 V275 (i := v280.toInt.toNat) (by omega) (by omega) (hb hby d1_44) ?_
    intro v281 hv281
    have r281 := rng32 v281
    show ORun p e below s _ _ _ T279 (mkF m 45 #[.val (.ref a1), .val (.int (3 : Int32)), .val (.ref a2), .val (.ref a2), .val (.int (5 : Int32)), .val (.int (4 : Int32)), .val (.int d4)] [(.int v281), (.int v280), (.ref b244)])
    refine own_by (fun t k => XS.iconst X279.here hx rfl (hb hby d1_45) k) ?_
    show ORun p e below s _ _ _ T279 (mkF m 46 #[.val (.ref a1), .val (.int (3 : Int32)), .val (.ref a2), .val (.ref a2), .val (.int (5 : Int32)), .val (.int (4 : Int32)), .val (.int d4)] [(.int (1 : Int32)), (.int v281), (.int v280), (.ref b244)])
    refine own_by (fun t k => XS.iadd X279.here hx rfl (hb hby d1_46) rfl k) (own_letI (f := (fun z => (mkF m 47 #[.val (.ref a1), .val (.int (3 : Int32)), .val (.ref a2), .val (.ref a2), .val (.int (5 : Int32)), .val (.int (4 : Int32)), .val (.int d4)] [(.int z), (.int v280), (.ref b244)]))) (v281 + (1 : Int32)) fun v282 hv282 => ?_)
    show ORun p e below s _ _ _ T279 (mkF m 47 #[.val (.ref a1), .val (.int (3 : Int32)), .val (.ref a2), .val (.ref a2), .val (.int (5 : Int32)), .val (.int (4 : Int32)), .val (.int d4)] [(.int v282), (.int v280), (.ref b244)])
    have a282a : (v282.toInt - (v281.toInt + 1)) % 4294967296 = 0 := by rw [hv282]; exact c_iadd v281 (1 : Int32)
    have r282 := rng32 v282
    refine own_iastore X279 hx hZ e279 V275 (i := v280.toInt.toNat) (by omega) (by omega) (hb hby d1_47) ?_
    intro T283 h283 L283 X283 e283 W283 hL283 V283
    have len283 : L283.length = 4 := by rw [hL283, List.length_set]; exact len275
    have N283 := Fr.snoc X283 N275 old_b244
    show ORun p e below s _ _ _ T283 (mkF m 48 #[.val (.ref a1), .val (.int (3 : Int32)), .val (.ref a2), .val (.ref a2), .val (.int (5 : Int32)), .val (.int (4 : Int32)), .val (.int d4)] [])
    have mb284 : L283 = own_bump L275 d4 := by rw [hL283, hv282, hv281, hv280]; rfl
    clear a280 r280 r281 a282a r282
    have Kz285 : Keep h0 h283 [a1] := (((Keep.refl h0 [a1]).trans Kz277 (allS (Or.inl (List.mem_of_getElem? (i := 0) rfl)) all0)).wr W283 (Or.inr sz_b244))
    have fz285_0 := (fz277_0.wr W283)
    have fz285_1 := (fz277_1.other W283 (Or.inl ne_a1_b244))
    have fz285_2 := (fz277_2.other W283 (Or.inl ne_a1_b244))
    have fz285_3 := (fz277_3.other W283 ne_a2_b244)
    have fz285_5 := (fz277_5.wr W283)
    refine own_by (fun t k => XS.iinc X283.here hx rfl (hb hby d1_48) rfl (l' := #[.val (.ref a1), .val (.int (3 : Int32)), .val (.ref a2), .val (.ref a2), .val (.int (5 : Int32)), .val (.int (5 : Int32)), .val (.int d4)]) rfl k) ?_
    show ORun p e below s _ _ _ T283 (mkF m 51 #[.val (.ref a1), .val (.int (3 : Int32)), .val (.ref a2), .val (.ref a2), .val (.int (5 : Int32)), .val (.int (5 : Int32)), .val (.int d4)] [])
    refine own_by (fun t k => XS.goto X283.here hx rfl (pc0 := 51) (pc' := 22) rfl (hb hby d1_51) (by decide) (by decide) k) ?_
    show ORun p e below s _ _ _ T283 (mkF m 22 #[.val (.ref a1), .val (.int (3 : Int32)), .val (.ref a2), .val (.ref a2), .val (.int (5 : Int32)), .val (.int (5 : Int32)), .val (.int d4)] [])
    refine own_by (fun t k => XS.iload X283.here hx rfl (hb hby d1_22) rfl k) ?_
    show ORun p e below s _ _ _ T283 (mkF m 24 #[.val (.ref a1), .val (.int (3 : Int32)), .val (.ref a2), .val (.ref a2), .val (.int (5 : Int32)), .val (.int (5 : Int32)), .val (.int d4)] [(.int (5 : Int32))])
    refine own_by (fun t k => XS.iload X283.here hx rfl (hb hby d1_24) rfl k) ?_
    show ORun p e below s _ _ _ T283 (mkF m 26 #[.val (.ref a1), .val (.int (3 : Int32)), .val (.ref a2), .val (.ref a2), .val (.int (5 : Int32)), .val (.int (5 : Int32)), .val (.int d4)] [(.int (5 : Int32)), (.int (5 : Int32))])
    refine own_by (fun t k => XS.icmpYes X283.here hx rfl (pc0 := 26) (pc' := 54) rfl (hb hby d1_26) rfl (flt (by decide)).2.1 (by decide) (by decide) k) ?_
    show ORun p e below s _ _ _ T283 (mkF m 54 #[.val (.ref a1), .val (.int (3 : Int32)), .val (.ref a2), .val (.ref a2), .val (.int (5 : Int32)), .val (.int (5 : Int32)), .val (.int d4)] [])
    refine own_by (fun t k => XS.iconst X283.here hx rfl (hb hby d1_54) k) ?_
    show ORun p e below s _ _ _ T283 (mkF m 55 #[.val (.ref a1), .val (.int (3 : Int32)), .val (.ref a2), .val (.ref a2), .val (.int (5 : Int32)), .val (.int (5 : Int32)), .val (.int d4)] [(.int (0 : Int32))])
    refine own_by (fun t k => XS.istoreN X283.here hx rfl (hb hby d1_55) rfl (l' := #[.val (.ref a1), .val (.int (3 : Int32)), .val (.ref a2), .val (.int (0 : Int32)), .val (.int (5 : Int32)), .val (.int (5 : Int32)), .val (.int d4)]) rfl k) ?_
    show ORun p e below s _ _ _ T283 (mkF m 56 #[.val (.ref a1), .val (.int (3 : Int32)), .val (.ref a2), .val (.int (0 : Int32)), .val (.int (5 : Int32)), .val (.int (5 : Int32)), .val (.int d4)] [])
    refine own_by (fun t k => XS.iloadN X283.here hx rfl (hb hby d1_56) rfl k) ?_
    show ORun p e below s _ _ _ T283 (mkF m 57 #[.val (.ref a1), .val (.int (3 : Int32)), .val (.ref a2), .val (.int (0 : Int32)), .val (.int (5 : Int32)), .val (.int (5 : Int32)), .val (.int d4)] [(.int (0 : Int32))])
    refine own_by (fun t k => XS.iloadN X283.here hx rfl (hb hby d1_57) rfl k) ?_
    show ORun p e below s _ _ _ T283 (mkF m 58 #[.val (.ref a1), .val (.int (3 : Int32)), .val (.ref a2), .val (.int (0 : Int32)), .val (.int (5 : Int32)), .val (.int (5 : Int32)), .val (.int d4)] [(.int (3 : Int32)), (.int (0 : Int32))])
    refine own_by (fun t k => XS.icmpNo X283.here hx rfl (hb hby d1_58) rfl (tlt (by decide)).2.1 k) ?_
    show ORun p e below s _ _ _ T283 (mkF m 61 #[.val (.ref a1), .val (.int (3 : Int32)), .val (.ref a2), .val (.int (0 : Int32)), .val (.int (5 : Int32)), .val (.int (5 : Int32)), .val (.int d4)] [])
    refine own_by (fun t k => XS.aloadN X283.here hx rfl (hb hby d1_61) rfl rfl k) ?_
    show ORun p e below s _ _ _ T283 (mkF m 62 #[.val (.ref a1), .val (.int (3 : Int32)), .val (.ref a2), .val (.int (0 : Int32)), .val (.int (5 : Int32)), .val (.int (5 : Int32)), .val (.int d4)] [(.ref a1)])
    obtain ⟨T286, X286, e286, st286⟩ := getF X283 hx hZ hown (host := "") (Or.inl (hw _ (List.mem_of_getElem? (i := 12) rfl))) Via.refl e283 fz285_1 (g := (mkF m 62 #[.val (.ref a1), .val (.int (3 : Int32)), .val (.ref a2), .val (.int (0 : Int32)), .val (.int (5 : Int32)), .val (.int (5 : Int32)), .val (.int d4)] [(.ref a1)])) rfl rfl (hb hby d1_62)
    refine own_by st286 ?_
    show ORun p e below s _ _ _ T286 (mkF m 65 #[.val (.ref a1), .val (.int (3 : Int32)), .val (.ref a2), .val (.int (0 : Int32)), .val (.int (5 : Int32)), .val (.int (5 : Int32)), .val (.int d4)] [(.ref b244)])
    refine own_by (fun t k => XS.iloadN X286.here hx rfl (hb hby d1_65) rfl k) ?_
    show ORun p e below s _ _ _ T286 (mkF m 66 #[.val (.ref a1), .val (.int (3 : Int32)), .val (.ref a2), .val (.int (0 : Int32)), .val (.int (5 : Int32)), .val (.int (5 : Int32)), .val (.int d4)] [(.int (0 : Int32)), (.ref b244)])
    refine own_by (fun t k => XS.iconst X286.here hx rfl (hb hby d1_66) k) ?_
    show ORun p e below s _ _ _ T286 (mkF m 67 #[.val (.ref a1), .val (.int (3 : Int32)), .val (.ref a2), .val (.int (0 : Int32)), .val (.int (5 : Int32)), .val (.int (5 : Int32)), .val (.int d4)] [(.int (1 : Int32)), (.int (0 : Int32)), (.ref b244)])
    refine own_by (fun t k => XS.iadd X286.here hx rfl (hb hby d1_67) rfl k) ?_
    show ORun p e below s _ _ _ T286 (mkF m 68 #[.val (.ref a1), .val (.int (3 : Int32)), .val (.ref a2), .val (.int (0 : Int32)), .val (.int (5 : Int32)), .val (.int (5 : Int32)), .val (.int d4)] [(.int (1 : Int32)), (.ref b244)])
    refine own_by (fun t k => XT.dup2 X286.here hx rfl (hb hby d1_68) rfl rfl rfl k) ?_
    show ORun p e below s _ _ _ T286 (mkF m 69 #[.val (.ref a1), .val (.int (3 : Int32)), .val (.ref a2), .val (.int (0 : Int32)), .val (.int (5 : Int32)), .val (.int (5 : Int32)), .val (.int d4)] [(.int (1 : Int32)), (.ref b244), (.int (1 : Int32)), (.ref b244)])
    refine own_iaload X286 hx hZ e286 V283 (i := 1) (by decide) (by omega) (hb hby d1_69) ?_
    intro v287 hv287
    have r287 := rng32 v287
    show ORun p e below s _ _ _ T286 (mkF m 70 #[.val (.ref a1), .val (.int (3 : Int32)), .val (.ref a2), .val (.int (0 : Int32)), .val (.int (5 : Int32)), .val (.int (5 : Int32)), .val (.int d4)] [(.int v287), (.int (1 : Int32)), (.ref b244)])
    refine own_by (fun t k => XS.aloadN X286.here hx rfl (hb hby d1_70) rfl rfl k) ?_
    show ORun p e below s _ _ _ T286 (mkF m 71 #[.val (.ref a1), .val (.int (3 : Int32)), .val (.ref a2), .val (.int (0 : Int32)), .val (.int (5 : Int32)), .val (.int (5 : Int32)), .val (.int d4)] [(.ref a1), (.int v287), (.int (1 : Int32)), (.ref b244)])
    obtain ⟨T288, X288, e288, st288⟩ := getF X286 hx hZ hown (host := "") (Or.inl (hw _ (List.mem_of_getElem? (i := 12) rfl))) Via.refl e286 fz285_1 (g := (mkF m 71 #[.val (.ref a1), .val (.int (3 : Int32)), .val (.ref a2), .val (.int (0 : Int32)), .val (.int (5 : Int32)), .val (.int (5 : Int32)), .val (.int d4)] [(.ref a1), (.int v287), (.int (1 : Int32)), (.ref b244)])) rfl rfl (hb hby d1_71)
    refine own_by st288 ?_
    show ORun p e below s _ _ _ T288 (mkF m 74 #[.val (.ref a1), .val (.int (3 : Int32)), .val (.ref a2), .val (.int (0 : Int32)), .val (.int (5 : Int32)), .val (.int (5 : Int32)), .val (.int d4)] [(.ref b244), (.int v287), (.int (1 : Int32)), (.ref b244)])
    refine own_by (fun t k => XS.iloadN X288.here hx rfl (hb hby d1_74) rfl k) ?_
    show ORun p e below s _ _ _ T288 (mkF m 75 #[.val (.ref a1), .val (.int (3 : Int32)), .val (.ref a2), .val (.int (0 : Int32)), .val (.int (5 : Int32)), .val (.int (5 : Int32)), .val (.int d4)] [(.int (0 : Int32)), (.ref b244), (.int v287), (.int (1 : Int32)), (.ref b244)])
    refine own_iaload X288 hx hZ e288 V283 (i := 0) (by decide) (by omega) (hb hby d1_75) ?_
    intro v289 hv289
    have r289 := rng32 v289
    show ORun p e below s _ _ _ T288 (mkF m 76 #[.val (.ref a1), .val (.int (3 : Int32)), .val (.ref a2), .val (.int (0 : Int32)), .val (.int (5 : Int32)), .val (.int (5 : Int32)), .val (.int d4)] [(.int v289), (.int v287), (.int (1 : Int32)), (.ref b244)])
    refine own_by (fun t k => XS.iadd X288.here hx rfl (hb hby d1_76) rfl k) (own_letI (f := (fun z => (mkF m 77 #[.val (.ref a1), .val (.int (3 : Int32)), .val (.ref a2), .val (.int (0 : Int32)), .val (.int (5 : Int32)), .val (.int (5 : Int32)), .val (.int d4)] [(.int z), (.int (1 : Int32)), (.ref b244)]))) (v287 + v289) fun v290 hv290 => ?_)
    show ORun p e below s _ _ _ T288 (mkF m 77 #[.val (.ref a1), .val (.int (3 : Int32)), .val (.ref a2), .val (.int (0 : Int32)), .val (.int (5 : Int32)), .val (.int (5 : Int32)), .val (.int d4)] [(.int v290), (.int (1 : Int32)), (.ref b244)])
    have a290a : (v290.toInt - (v287.toInt + v289.toInt)) % 4294967296 = 0 := by rw [hv290]; exact c_iadd v287 v289
    have r290 := rng32 v290
    refine own_iastore X288 hx hZ e288 V283 (i := 1) (by decide) (by omega) (hb hby d1_77) ?_
    intro T291 h291 L291 X291 e291 W291 hL291 V291
    have len291 : L291.length = 4 := by rw [hL291, List.length_set]; exact len283
    have N291 := Fr.snoc X291 N283 old_b244
    show ORun p e below s _ _ _ T291 (mkF m 78 #[.val (.ref a1), .val (.int (3 : Int32)), .val (.ref a2), .val (.int (0 : Int32)), .val (.int (5 : Int32)), .val (.int (5 : Int32)), .val (.int d4)] [])
    have mb292 : L291 = own_acc L283 0 := by rw [hL291, hv290, hv287, hv289]; rfl
    clear r287 r289 a290a r290
    have Kz293 : Keep h0 h291 [a1] := (((Keep.refl h0 [a1]).trans Kz285 (allS (Or.inl (List.mem_of_getElem? (i := 0) rfl)) all0)).wr W291 (Or.inr sz_b244))
    have fz293_0 := (fz285_0.wr W291)
    have fz293_1 := (fz285_1.other W291 (Or.inl ne_a1_b244))
    have fz293_2 := (fz285_2.other W291 (Or.inl ne_a1_b244))
    have fz293_3 := (fz285_3.other W291 ne_a2_b244)
    have fz293_5 := (fz285_5.wr W291)
    refine own_by (fun t k => XS.iinc X291.here hx rfl (hb hby d1_78) rfl (l' := #[.val (.ref a1), .val (.int (3 : Int32)), .val (.ref a2), .val (.int (1 : Int32)), .val (.int (5 : Int32)), .val (.int (5 : Int32)), .val (.int d4)]) rfl k) ?_
    show ORun p e below s _ _ _ T291 (mkF m 81 #[.val (.ref a1), .val (.int (3 : Int32)), .val (.ref a2), .val (.int (1 : Int32)), .val (.int (5 : Int32)), .val (.int (5 : Int32)), .val (.int d4)] [])
    refine own_by (fun t k => XS.goto X291.here hx rfl (pc0 := 81) (pc' := 56) rfl (hb hby d1_81) (by decide) (by decide) k) ?_
    show ORun p e below s _ _ _ T291 (mkF m 56 #[.val (.ref a1), .val (.int (3 : Int32)), .val (.ref a2), .val (.int (1 : Int32)), .val (.int (5 : Int32)), .val (.int (5 : Int32)), .val (.int d4)] [])
    refine own_by (fun t k => XS.iloadN X291.here hx rfl (hb hby d1_56) rfl k) ?_
    show ORun p e below s _ _ _ T291 (mkF m 57 #[.val (.ref a1), .val (.int (3 : Int32)), .val (.ref a2), .val (.int (1 : Int32)), .val (.int (5 : Int32)), .val (.int (5 : Int32)), .val (.int d4)] [(.int (1 : Int32))])
    refine own_by (fun t k => XS.iloadN X291.here hx rfl (hb hby d1_57) rfl k) ?_
    show ORun p e below s _ _ _ T291 (mkF m 58 #[.val (.ref a1), .val (.int (3 : Int32)), .val (.ref a2), .val (.int (1 : Int32)), .val (.int (5 : Int32)), .val (.int (5 : Int32)), .val (.int d4)] [(.int (3 : Int32)), (.int (1 : Int32))])
    refine own_by (fun t k => XS.icmpNo X291.here hx rfl (hb hby d1_58) rfl (tlt (by decide)).2.1 k) ?_
    show ORun p e below s _ _ _ T291 (mkF m 61 #[.val (.ref a1), .val (.int (3 : Int32)), .val (.ref a2), .val (.int (1 : Int32)), .val (.int (5 : Int32)), .val (.int (5 : Int32)), .val (.int d4)] [])
    refine own_by (fun t k => XS.aloadN X291.here hx rfl (hb hby d1_61) rfl rfl k) ?_
    show ORun p e below s _ _ _ T291 (mkF m 62 #[.val (.ref a1), .val (.int (3 : Int32)), .val (.ref a2), .val (.int (1 : Int32)), .val (.int (5 : Int32)), .val (.int (5 : Int32)), .val (.int d4)] [(.ref a1)])
    obtain ⟨T294, X294, e294, st294⟩ := getF X291 hx hZ hown (host := "") (Or.inl (hw _ (List.mem_of_getElem? (i := 12) rfl))) Via.refl e291 fz293_1 (g := (mkF m 62 #[.val (.ref a1), .val (.int (3 : Int32)), .val (.ref a2), .val (.int (1 : Int32)), .val (.int (5 : Int32)), .val (.int (5 : Int32)), .val (.int d4)] [(.ref a1)])) rfl rfl (hb hby d1_62)
    refine own_by st294 ?_
    show ORun p e below s _ _ _ T294 (mkF m 65 #[.val (.ref a1), .val (.int (3 : Int32)), .val (.ref a2), .val (.int (1 : Int32)), .val (.int (5 : Int32)), .val (.int (5 : Int32)), .val (.int d4)] [(.ref b244)])
    refine own_by (fun t k => XS.iloadN X294.here hx rfl (hb hby d1_65) rfl k) ?_
    show ORun p e below s _ _ _ T294 (mkF m 66 #[.val (.ref a1), .val (.int (3 : Int32)), .val (.ref a2), .val (.int (1 : Int32)), .val (.int (5 : Int32)), .val (.int (5 : Int32)), .val (.int d4)] [(.int (1 : Int32)), (.ref b244)])
    refine own_by (fun t k => XS.iconst X294.here hx rfl (hb hby d1_66) k) ?_
    show ORun p e below s _ _ _ T294 (mkF m 67 #[.val (.ref a1), .val (.int (3 : Int32)), .val (.ref a2), .val (.int (1 : Int32)), .val (.int (5 : Int32)), .val (.int (5 : Int32)), .val (.int d4)] [(.int (1 : Int32)), (.int (1 : Int32)), (.ref b244)])
    refine own_by (fun t k => XS.iadd X294.here hx rfl (hb hby d1_67) rfl k) ?_
    show ORun p e below s _ _ _ T294 (mkF m 68 #[.val (.ref a1), .val (.int (3 : Int32)), .val (.ref a2), .val (.int (1 : Int32)), .val (.int (5 : Int32)), .val (.int (5 : Int32)), .val (.int d4)] [(.int (2 : Int32)), (.ref b244)])
    refine own_by (fun t k => XT.dup2 X294.here hx rfl (hb hby d1_68) rfl rfl rfl k) ?_
    show ORun p e below s _ _ _ T294 (mkF m 69 #[.val (.ref a1), .val (.int (3 : Int32)), .val (.ref a2), .val (.int (1 : Int32)), .val (.int (5 : Int32)), .val (.int (5 : Int32)), .val (.int d4)] [(.int (2 : Int32)), (.ref b244), (.int (2 : Int32)), (.ref b244)])
    refine own_iaload X294 hx hZ e294 V291 (i := 2) (by decide) (by omega) (hb hby d1_69) ?_
    intro v295 hv295
    have r295 := rng32 v295
    show ORun p e below s _ _ _ T294 (mkF m 70 #[.val (.ref a1), .val (.int (3 : Int32)), .val (.ref a2), .val (.int (1 : Int32)), .val (.int (5 : Int32)), .val (.int (5 : Int32)), .val (.int d4)] [(.int v295), (.int (2 : Int32)), (.ref b244)])
    refine own_by (fun t k => XS.aloadN X294.here hx rfl (hb hby d1_70) rfl rfl k) ?_
    show ORun p e below s _ _ _ T294 (mkF m 71 #[.val (.ref a1), .val (.int (3 : Int32)), .val (.ref a2), .val (.int (1 : Int32)), .val (.int (5 : Int32)), .val (.int (5 : Int32)), .val (.int d4)] [(.ref a1), (.int v295), (.int (2 : Int32)), (.ref b244)])
    obtain ⟨T296, X296, e296, st296⟩ := getF X294 hx hZ hown (host := "") (Or.inl (hw _ (List.mem_of_getElem? (i := 12) rfl))) Via.refl e294 fz293_1 (g := (mkF m 71 #[.val (.ref a1), .val (.int (3 : Int32)), .val (.ref a2), .val (.int (1 : Int32)), .val (.int (5 : Int32)), .val (.int (5 : Int32)), .val (.int d4)] [(.ref a1), (.int v295), (.int (2 : Int32)), (.ref b244)])) rfl rfl (hb hby d1_71)
    refine own_by st296 ?_
    show ORun p e below s _ _ _ T296 (mkF m 74 #[.val (.ref a1), .val (.int (3 : Int32)), .val (.ref a2), .val (.int (1 : Int32)), .val (.int (5 : Int32)), .val (.int (5 : Int32)), .val (.int d4)] [(.ref b244), (.int v295), (.int (2 : Int32)), (.ref b244)])
    refine own_by (fun t k => XS.iloadN X296.here hx rfl (hb hby d1_74) rfl k) ?_
    show ORun p e below s _ _ _ T296 (mkF m 75 #[.val (.ref a1), .val (.int (3 : Int32)), .val (.ref a2), .val (.int (1 : Int32)), .val (.int (5 : Int32)), .val (.int (5 : Int32)), .val (.int d4)] [(.int (1 : Int32)), (.ref b244), (.int v295), (.int (2 : Int32)), (.ref b244)])
    refine own_iaload X296 hx hZ e296 V291 (i := 1) (by decide) (by omega) (hb hby d1_75) ?_
    intro v297 hv297
    have r297 := rng32 v297
    show ORun p e below s _ _ _ T296 (mkF m 76 #[.val (.ref a1), .val (.int (3 : Int32)), .val (.ref a2), .val (.int (1 : Int32)), .val (.int (5 : Int32)), .val (.int (5 : Int32)), .val (.int d4)] [(.int v297), (.int v295), (.int (2 : Int32)), (.ref b244)])
    refine own_by (fun t k => XS.iadd X296.here hx rfl (hb hby d1_76) rfl k) (own_letI (f := (fun z => (mkF m 77 #[.val (.ref a1), .val (.int (3 : Int32)), .val (.ref a2), .val (.int (1 : Int32)), .val (.int (5 : Int32)), .val (.int (5 : Int32)), .val (.int d4)] [(.int z), (.int (2 : Int32)), (.ref b244)]))) (v295 + v297) fun v298 hv298 => ?_)
    show ORun p e below s _ _ _ T296 (mkF m 77 #[.val (.ref a1), .val (.int (3 : Int32)), .val (.ref a2), .val (.int (1 : Int32)), .val (.int (5 : Int32)), .val (.int (5 : Int32)), .val (.int d4)] [(.int v298), (.int (2 : Int32)), (.ref b244)])
    have a298a : (v298.toInt - (v295.toInt + v297.toInt)) % 4294967296 = 0 := by rw [hv298]; exact c_iadd v295 v297
    have r298 := rng32 v298
    refine own_iastore X296 hx hZ e296 V291 (i := 2) (by decide) (by omega) (hb hby d1_77) ?_
    intro T299 h299 L299 X299 e299 W299 hL299 V299
    have len299 : L299.length = 4 := by rw [hL299, List.length_set]; exact len291
    have N299 := Fr.snoc X299 N291 old_b244
    show ORun p e below s _ _ _ T299 (mkF m 78 #[.val (.ref a1), .val (.int (3 : Int32)), .val (.ref a2), .val (.int (1 : Int32)), .val (.int (5 : Int32)), .val (.int (5 : Int32)), .val (.int d4)] [])
    have mb300 : L299 = own_acc L291 1 := by rw [hL299, hv298, hv295, hv297]; rfl
    clear r295 r297 a298a r298
    have Kz301 : Keep h0 h299 [a1] := (((Keep.refl h0 [a1]).trans Kz293 (allS (Or.inl (List.mem_of_getElem? (i := 0) rfl)) all0)).wr W299 (Or.inr sz_b244))
    have fz301_0 := (fz293_0.wr W299)
    have fz301_1 := (fz293_1.other W299 (Or.inl ne_a1_b244))
    have fz301_2 := (fz293_2.other W299 (Or.inl ne_a1_b244))
    have fz301_3 := (fz293_3.other W299 ne_a2_b244)
    have fz301_5 := (fz293_5.wr W299)
    refine own_by (fun t k => XS.iinc X299.here hx rfl (hb hby d1_78) rfl (l' := #[.val (.ref a1), .val (.int (3 : Int32)), .val (.ref a2), .val (.int (2 : Int32)), .val (.int (5 : Int32)), .val (.int (5 : Int32)), .val (.int d4)]) rfl k) ?_
    show ORun p e below s _ _ _ T299 (mkF m 81 #[.val (.ref a1), .val (.int (3 : Int32)), .val (.ref a2), .val (.int (2 : Int32)), .val (.int (5 : Int32)), .val (.int (5 : Int32)), .val (.int d4)] [])
    refine own_by (fun t k => XS.goto X299.here hx rfl (pc0 := 81) (pc' := 56) rfl (hb hby d1_81) (by decide) (by decide) k) ?_
    show ORun p e below s _ _ _ T299 (mkF m 56 #[.val (.ref a1), .val (.int (3 : Int32)), .val (.ref a2), .val (.int (2 : Int32)), .val (.int (5 : Int32)), .val (.int (5 : Int32)), .val (.int d4)] [])
    refine own_by (fun t k => XS.iloadN X299.here hx rfl (hb hby d1_56) rfl k) ?_
    show ORun p e below s _ _ _ T299 (mkF m 57 #[.val (.ref a1), .val (.int (3 : Int32)), .val (.ref a2), .val (.int (2 : Int32)), .val (.int (5 : Int32)), .val (.int (5 : Int32)), .val (.int d4)] [(.int (2 : Int32))])
    refine own_by (fun t k => XS.iloadN X299.here hx rfl (hb hby d1_57) rfl k) ?_
    show ORun p e below s _ _ _ T299 (mkF m 58 #[.val (.ref a1), .val (.int (3 : Int32)), .val (.ref a2), .val (.int (2 : Int32)), .val (.int (5 : Int32)), .val (.int (5 : Int32)), .val (.int d4)] [(.int (3 : Int32)), (.int (2 : Int32))])
    refine own_by (fun t k => XS.icmpNo X299.here hx rfl (hb hby d1_58) rfl (tlt (by decide)).2.1 k) ?_
    show ORun p e below s _ _ _ T299 (mkF m 61 #[.val (.ref a1), .val (.int (3 : Int32)), .val (.ref a2), .val (.int (2 : Int32)), .val (.int (5 : Int32)), .val (.int (5 : Int32)), .val (.int d4)] [])
    refine own_by (fun t k => XS.aloadN X299.here hx rfl (hb hby d1_61) rfl rfl k) ?_
    show ORun p e below s _ _ _ T299 (mkF m 62 #[.val (.ref a1), .val (.int (3 : Int32)), .val (.ref a2), .val (.int (2 : Int32)), .val (.int (5 : Int32)), .val (.int (5 : Int32)), .val (.int d4)] [(.ref a1)])
    obtain ⟨T302, X302, e302, st302⟩ := getF X299 hx hZ hown (host := "") (Or.inl (hw _ (List.mem_of_getElem? (i := 12) rfl))) Via.refl e299 fz301_1 (g := (mkF m 62 #[.val (.ref a1), .val (.int (3 : Int32)), .val (.ref a2), .val (.int (2 : Int32)), .val (.int (5 : Int32)), .val (.int (5 : Int32)), .val (.int d4)] [(.ref a1)])) rfl rfl (hb hby d1_62)
    refine own_by st302 ?_
    show ORun p e below s _ _ _ T302 (mkF m 65 #[.val (.ref a1), .val (.int (3 : Int32)), .val (.ref a2), .val (.int (2 : Int32)), .val (.int (5 : Int32)), .val (.int (5 : Int32)), .val (.int d4)] [(.ref b244)])
    refine own_by (fun t k => XS.iloadN X302.here hx rfl (hb hby d1_65) rfl k) ?_
    show ORun p e below s _ _ _ T302 (mkF m 66 #[.val (.ref a1), .val (.int (3 : Int32)), .val (.ref a2), .val (.int (2 : Int32)), .val (.int (5 : Int32)), .val (.int (5 : Int32)), .val (.int d4)] [(.int (2 : Int32)), (.ref b244)])
    refine own_by (fun t k => XS.iconst X302.here hx rfl (hb hby d1_66) k) ?_
    show ORun p e below s _ _ _ T302 (mkF m 67 #[.val (.ref a1), .val (.int (3 : Int32)), .val (.ref a2), .val (.int (2 : Int32)), .val (.int (5 : Int32)), .val (.int (5 : Int32)), .val (.int d4)] [(.int (1 : Int32)), (.int (2 : Int32)), (.ref b244)])
    refine own_by (fun t k => XS.iadd X302.here hx rfl (hb hby d1_67) rfl k) ?_
    show ORun p e below s _ _ _ T302 (mkF m 68 #[.val (.ref a1), .val (.int (3 : Int32)), .val (.ref a2), .val (.int (2 : Int32)), .val (.int (5 : Int32)), .val (.int (5 : Int32)), .val (.int d4)] [(.int (3 : Int32)), (.ref b244)])
    refine own_by (fun t k => XT.dup2 X302.here hx rfl (hb hby d1_68) rfl rfl rfl k) ?_
    show ORun p e below s _ _ _ T302 (mkF m 69 #[.val (.ref a1), .val (.int (3 : Int32)), .val (.ref a2), .val (.int (2 : Int32)), .val (.int (5 : Int32)), .val (.int (5 : Int32)), .val (.int d4)] [(.int (3 : Int32)), (.ref b244), (.int (3 : Int32)), (.ref b244)])
    refine own_iaload X302 hx hZ e302 V299 (i := 3) (by decide) (by omega) (hb hby d1_69) ?_
    intro v303 hv303
    have r303 := rng32 v303
    show ORun p e below s _ _ _ T302 (mkF m 70 #[.val (.ref a1), .val (.int (3 : Int32)), .val (.ref a2), .val (.int (2 : Int32)), .val (.int (5 : Int32)), .val (.int (5 : Int32)), .val (.int d4)] [(.int v303), (.int (3 : Int32)), (.ref b244)])
    refine own_by (fun t k => XS.aloadN X302.here hx rfl (hb hby d1_70) rfl rfl k) ?_
    show ORun p e below s _ _ _ T302 (mkF m 71 #[.val (.ref a1), .val (.int (3 : Int32)), .val (.ref a2), .val (.int (2 : Int32)), .val (.int (5 : Int32)), .val (.int (5 : Int32)), .val (.int d4)] [(.ref a1), (.int v303), (.int (3 : Int32)), (.ref b244)])
    obtain ⟨T304, X304, e304, st304⟩ := getF X302 hx hZ hown (host := "") (Or.inl (hw _ (List.mem_of_getElem? (i := 12) rfl))) Via.refl e302 fz301_1 (g := (mkF m 71 #[.val (.ref a1), .val (.int (3 : Int32)), .val (.ref a2), .val (.int (2 : Int32)), .val (.int (5 : Int32)), .val (.int (5 : Int32)), .val (.int d4)] [(.ref a1), (.int v303), (.int (3 : Int32)), (.ref b244)])) rfl rfl (hb hby d1_71)
    refine own_by st304 ?_
    show ORun p e below s _ _ _ T304 (mkF m 74 #[.val (.ref a1), .val (.int (3 : Int32)), .val (.ref a2), .val (.int (2 : Int32)), .val (.int (5 : Int32)), .val (.int (5 : Int32)), .val (.int d4)] [(.ref b244), (.int v303), (.int (3 : Int32)), (.ref b244)])
    refine own_by (fun t k => XS.iloadN X304.here hx rfl (hb hby d1_74) rfl k) ?_
    show ORun p e below s _ _ _ T304 (mkF m 75 #[.val (.ref a1), .val (.int (3 : Int32)), .val (.ref a2), .val (.int (2 : Int32)), .val (.int (5 : Int32)), .val (.int (5 : Int32)), .val (.int d4)] [(.int (2 : Int32)), (.ref b244), (.int v303), (.int (3 : Int32)), (.ref b244)])
    refine own_iaload X304 hx hZ e304 V299 (i := 2) (by decide) (by omega) (hb hby d1_75) ?_
    intro v305 hv305
    have r305 := rng32 v305
    show ORun p e below s _ _ _ T304 (mkF m 76 #[.val (.ref a1), .val (.int (3 : Int32)), .val (.ref a2), .val (.int (2 : Int32)), .val (.int (5 : Int32)), .val (.int (5 : Int32)), .val (.int d4)] [(.int v305), (.int v303), (.int (3 : Int32)), (.ref b244)])
    refine own_by (fun t k => XS.iadd X304.here hx rfl (hb hby d1_76) rfl k) (own_letI (f := (fun z => (mkF m 77 #[.val (.ref a1), .val (.int (3 : Int32)), .val (.ref a2), .val (.int (2 : Int32)), .val (.int (5 : Int32)), .val (.int (5 : Int32)), .val (.int d4)] [(.int z), (.int (3 : Int32)), (.ref b244)]))) (v303 + v305) fun v306 hv306 => ?_)
    show ORun p e below s _ _ _ T304 (mkF m 77 #[.val (.ref a1), .val (.int (3 : Int32)), .val (.ref a2), .val (.int (2 : Int32)), .val (.int (5 : Int32)), .val (.int (5 : Int32)), .val (.int d4)] [(.int v306), (.int (3 : Int32)), (.ref b244)])
    have a306a : (v306.toInt - (v303.toInt + v305.toInt)) % 4294967296 = 0 := by rw [hv306]; exact c_iadd v303 v305
    have r306 := rng32 v306
    refine own_iastore X304 hx hZ e304 V299 (i := 3) (by decide) (by omega) (hb hby d1_77) ?_
    intro T307 h307 L307 X307 e307 W307 hL307 V307
    have len307 : L307.length = 4 := by rw [hL307, List.length_set]; exact len299
    have N307 := Fr.snoc X307 N299 old_b244
    show ORun p e below s _ _ _ T307 (mkF m 78 #[.val (.ref a1), .val (.int (3 : Int32)), .val (.ref a2), .val (.int (2 : Int32)), .val (.int (5 : Int32)), .val (.int (5 : Int32)), .val (.int d4)] [])
    have mb308 : L307 = own_acc L299 2 := by rw [hL307, hv306, hv303, hv305]; rfl
    clear r303 r305 a306a r306
    have Kz309 : Keep h0 h307 [a1] := (((Keep.refl h0 [a1]).trans Kz301 (allS (Or.inl (List.mem_of_getElem? (i := 0) rfl)) all0)).wr W307 (Or.inr sz_b244))
    have fz309_0 := (fz301_0.wr W307)
    have fz309_1 := (fz301_1.other W307 (Or.inl ne_a1_b244))
    have fz309_2 := (fz301_2.other W307 (Or.inl ne_a1_b244))
    have fz309_3 := (fz301_3.other W307 ne_a2_b244)
    have fz309_5 := (fz301_5.wr W307)
    refine own_by (fun t k => XS.iinc X307.here hx rfl (hb hby d1_78) rfl (l' := #[.val (.ref a1), .val (.int (3 : Int32)), .val (.ref a2), .val (.int (3 : Int32)), .val (.int (5 : Int32)), .val (.int (5 : Int32)), .val (.int d4)]) rfl k) ?_
    show ORun p e below s _ _ _ T307 (mkF m 81 #[.val (.ref a1), .val (.int (3 : Int32)), .val (.ref a2), .val (.int (3 : Int32)), .val (.int (5 : Int32)), .val (.int (5 : Int32)), .val (.int d4)] [])
    refine own_by (fun t k => XS.goto X307.here hx rfl (pc0 := 81) (pc' := 56) rfl (hb hby d1_81) (by decide) (by decide) k) ?_
    show ORun p e below s _ _ _ T307 (mkF m 56 #[.val (.ref a1), .val (.int (3 : Int32)), .val (.ref a2), .val (.int (3 : Int32)), .val (.int (5 : Int32)), .val (.int (5 : Int32)), .val (.int d4)] [])
    refine own_by (fun t k => XS.iloadN X307.here hx rfl (hb hby d1_56) rfl k) ?_
    show ORun p e below s _ _ _ T307 (mkF m 57 #[.val (.ref a1), .val (.int (3 : Int32)), .val (.ref a2), .val (.int (3 : Int32)), .val (.int (5 : Int32)), .val (.int (5 : Int32)), .val (.int d4)] [(.int (3 : Int32))])
    refine own_by (fun t k => XS.iloadN X307.here hx rfl (hb hby d1_57) rfl k) ?_
    show ORun p e below s _ _ _ T307 (mkF m 58 #[.val (.ref a1), .val (.int (3 : Int32)), .val (.ref a2), .val (.int (3 : Int32)), .val (.int (5 : Int32)), .val (.int (5 : Int32)), .val (.int d4)] [(.int (3 : Int32)), (.int (3 : Int32))])
    refine own_by (fun t k => XS.icmpYes X307.here hx rfl (pc0 := 58) (pc' := 84) rfl (hb hby d1_58) rfl (flt (by decide)).2.1 (by decide) (by decide) k) ?_
    show ORun p e below s _ _ _ T307 (mkF m 84 #[.val (.ref a1), .val (.int (3 : Int32)), .val (.ref a2), .val (.int (3 : Int32)), .val (.int (5 : Int32)), .val (.int (5 : Int32)), .val (.int d4)] [])
    have mS310 : L307 = own_S 3 [d0, d1, d2, d3, d4] := by rw [mb308, mb300, mb292, mb284, mb276, mb268, mb260, mb252, hL244]; rfl
    refine own_by (fun t k => XS.aloadN X307.here hx rfl (hb hby d1_84) rfl rfl k) ?_
    show ORun p e below s _ _ _ T307 (mkF m 85 #[.val (.ref a1), .val (.int (3 : Int32)), .val (.ref a2), .val (.int (3 : Int32)), .val (.int (5 : Int32)), .val (.int (5 : Int32)), .val (.int d4)] [(.ref a1)])
    refine own_by (fun t k => XS.aloadN X307.here hx rfl (hb hby d1_85) rfl rfl k) ?_
    show ORun p e below s _ _ _ T307 (mkF m 86 #[.val (.ref a1), .val (.int (3 : Int32)), .val (.ref a2), .val (.int (3 : Int32)), .val (.int (5 : Int32)), .val (.int (5 : Int32)), .val (.int d4)] [(.ref a2), (.ref a1)])
    refine own_len X307 hx hZ e307 fz309_3 (n := 5) lds (hb hby d1_86) ?_
    show ORun p e below s _ _ _ T307 (mkF m 87 #[.val (.ref a1), .val (.int (3 : Int32)), .val (.ref a2), .val (.int (3 : Int32)), .val (.int (5 : Int32)), .val (.int (5 : Int32)), .val (.int d4)] [(.int (5 : Int32)), (.ref a1)])
    refine own_newarray X307 hx hZ (aty := .int) (hw _ (List.mem_of_getElem? (i := 1) rfl)) e307 rfl (N := 5) (cap := 5) (by decide) (Nat.le_refl _) (by decide) (by decide) (by decide) (ad := "[I") (by decide) (hb hby d1_87) ?_
    intro T311 h311 b311 L311 g311 X311 e311 E311 hL311 V311 Ex311
    have len311 : L311.length = 5 := by rw [hL311]; exact List.length_replicate
    have old_b311 : n0 ≤ b311 := Nat.le_trans (Nat.le_trans Z0 Kz309.1) (Nat.le_of_eq g311.symm)
    have sz_b311 : h0.size ≤ b311 := Nat.le_trans (Nat.le_trans (Nat.le_refl h0.size) Kz309.1) (Nat.le_of_eq g311.symm)
    have ne_a1_b311 : a1 ≠ b311 := Nat.ne_of_lt (Nat.lt_of_lt_of_le fz309_0.lt (Nat.le_of_eq g311.symm))
    have ne_a2_b311 : a2 ≠ b311 := Nat.ne_of_lt (Nat.lt_of_lt_of_le fz309_3.lt (Nat.le_of_eq g311.symm))
    have ne_b244_b311 : b244 ≠ b311 := Nat.ne_of_lt (Nat.lt_of_lt_of_le V307.lt (Nat.le_of_eq g311.symm))
    show ORun p e below s _ _ _ T311 (mkF m 89 #[.val (.ref a1), .val (.int (3 : Int32)), .val (.ref a2), .val (.int (3 : Int32)), .val (.int (5 : Int32)), .val (.int (5 : Int32)), .val (.int d4)] [(.ref b311), (.ref a1)])
    obtain ⟨T312, h312, X312, e312, W312, st312⟩ := putF X311 hx hZ hown (host := "") (Or.inl (hw _ (List.mem_of_getElem? (i := 14) rfl))) Via.refl e311 (fz309_2.ext E311) (fz309_0.ext E311) (Or.inr ⟨(hw _ (List.mem_of_getElem? (i := 15) rfl)), rfl, hnm⟩) (hw _ (List.mem_of_getElem? (i := 4) rfl)) (ty := (.array .int)) (by decide) rfl rfl (g := (mkF m 89 #[.val (.ref a1), .val (.int (3 : Int32)), .val (.ref a2), .val (.int (3 : Int32)), .val (.int (5 : Int32)), .val (.int (5 : Int32)), .val (.int d4)] [(.ref b311), (.ref a1)])) rfl rfl (hb hby d1_89)
    have Fw312 := Fld.same W312 (fz309_2.ext E311)
    have N312 := Fr.snoc X312 N307 g_a1
    refine own_by st312 ?_
    show ORun p e below s _ _ _ T312 (mkF m 92 #[.val (.ref a1), .val (.int (3 : Int32)), .val (.ref a2), .val (.int (3 : Int32)), .val (.int (5 : Int32)), .val (.int (5 : Int32)), .val (.int d4)] [])
    refine own_by (fun t k => XS.aloadN X312.here hx rfl (hb hby d1_92) rfl rfl k) ?_
    show ORun p e below s _ _ _ T312 (mkF m 93 #[.val (.ref a1), .val (.int (3 : Int32)), .val (.ref a2), .val (.int (3 : Int32)), .val (.int (5 : Int32)), .val (.int (5 : Int32)), .val (.int d4)] [(.ref a1)])
    obtain ⟨T313, X313, e313, st313⟩ := getF X312 hx hZ hown (host := "") (Or.inl (hw _ (List.mem_of_getElem? (i := 12) rfl))) Via.refl e312 ((fz309_1.ext E311).other W312 (Or.inr (slot_ne (Or.inr (hw _ (List.mem_of_getElem? (i := 13) rfl))) (Or.inr (hw _ (List.mem_of_getElem? (i := 15) rfl))) (by decide) (t := (.array .int)) (t' := (.array .int)) (by decide) (by decide)))) (g := (mkF m 93 #[.val (.ref a1), .val (.int (3 : Int32)), .val (.ref a2), .val (.int (3 : Int32)), .val (.int (5 : Int32)), .val (.int (5 : Int32)), .val (.int d4)] [(.ref a1)])) rfl rfl (hb hby d1_93)
    refine own_by st313 ?_
    show ORun p e below s _ _ _ T313 (mkF m 96 #[.val (.ref a1), .val (.int (3 : Int32)), .val (.ref a2), .val (.int (3 : Int32)), .val (.int (5 : Int32)), .val (.int (5 : Int32)), .val (.int d4)] [(.ref b244)])
    refine own_by (fun t k => XS.iloadN X313.here hx rfl (hb hby d1_96) rfl k) ?_
    show ORun p e below s _ _ _ T313 (mkF m 97 #[.val (.ref a1), .val (.int (3 : Int32)), .val (.ref a2), .val (.int (3 : Int32)), .val (.int (5 : Int32)), .val (.int (5 : Int32)), .val (.int d4)] [(.int (3 : Int32)), (.ref b244)])
    refine own_callS X313 hx hZ hown (hw _ (List.mem_of_getElem? (i := 16) rfl)) (hw _ (List.mem_of_getElem? (i := 17) rfl)) (hw _ (List.mem_of_getElem? (i := 18) rfl)) (hw _ (List.mem_of_getElem? (i := 19) rfl)) (by decide) (rm3 l Z a0 hw [] h312 n0 (Nat.le_trans (Nat.le_trans (Nat.le_trans Z0 Kz309.1) E311.1) (Keep.of_wr W312).1) b244 (3 : Int32) L307 4 3 ((V307.ext E311).other W312 (Ne.symm ne_a1_b244)) len307 (by decide) (by omega)) e313 (by decide) (W := 0) (by decide) (by decide) (by decide) (argsL := [(.ref b244), (.int (3 : Int32))]) (rest := []) (by rw [hml]; rfl) (lenOf pd_3 rfl) rfl rfl (Nat.le_of_eq rfl) (hb hby d1_97) ?_
    intro T314 L314 u314 X314 hQ314
    obtain ⟨o314, rfl, Nq314, K314, sz_q314, Vq314⟩ := hQ314
    have N314 := Fr.app N312 Nq314
    have sz_o314 : h0.size ≤ o314 := Nat.le_trans (Nat.le_trans (Nat.le_trans (Nat.le_trans (Nat.le_refl h0.size) Kz309.1) E311.1) (Keep.of_wr W312).1) sz_q314
    have old_o314 : n0 ≤ o314 := Nat.le_trans Z0 sz_o314
    have ne_a1_o314 : a1 ≠ o314 := Nat.ne_of_lt (Nat.lt_of_lt_of_le ((fz309_0.ext E311).wr W312).lt sz_q314)
    have ne_a2_o314 : a2 ≠ o314 := Nat.ne_of_lt (Nat.lt_of_lt_of_le ((fz309_3.ext E311).other W312 (Ne.symm ne12)).lt sz_q314)
    have ne_b244_o314 : b244 ≠ o314 := Nat.ne_of_lt (Nat.lt_of_lt_of_le ((V307.ext E311).other W312 (Ne.symm ne_a1_b244)).lt sz_q314)
    have ne_b311_o314 : b311 ≠ o314 := Nat.ne_of_lt (Nat.lt_of_lt_of_le (V311.other W312 (Ne.symm ne_a1_b311)).lt sz_q314)
    obtain ⟨L314, hL314⟩ : ∃ z, z = L307.take 3 := ⟨_, rfl⟩
    rw [← hL314] at Vq314
    have len314 : L314.length = 3 := by rw [hL314, List.length_take]; omega
    have mN314 : L314 = own_N 3 [d0, d1, d2, d3, d4] 0 := by rw [hL314, mS310]; show _ = (own_S 3 [d0, d1, d2, d3, d4]).take 3; rfl
    show ORun p e below s _ _ _ T314 (mkF m 100 #[.val (.ref a1), .val (.int (3 : Int32)), .val (.ref a2), .val (.int (3 : Int32)), .val (.int (5 : Int32)), .val (.int (5 : Int32)), .val (.int d4)] [(.ref o314)])
    refine own_by (fun t k => XS.astoreN X314.here hx rfl (hb hby d1_100) rfl rfl (l' := #[.val (.ref a1), .val (.int (3 : Int32)), .val (.ref a2), .val (.ref o314), .val (.int (5 : Int32)), .val (.int (5 : Int32)), .val (.int d4)]) rfl k) ?_
    show ORun p e below s _ _ _ T314 (mkF m 101 #[.val (.ref a1), .val (.int (3 : Int32)), .val (.ref a2), .val (.ref o314), .val (.int (5 : Int32)), .val (.int (5 : Int32)), .val (.int d4)] [])
    refine own_by (fun t k => XS.iconst X314.here hx rfl (hb hby d1_101) k) ?_
    show ORun p e below s _ _ _ T314 (mkF m 102 #[.val (.ref a1), .val (.int (3 : Int32)), .val (.ref a2), .val (.ref o314), .val (.int (5 : Int32)), .val (.int (5 : Int32)), .val (.int d4)] [(.int (0 : Int32))])
    refine own_by (fun t k => XS.istore X314.here hx rfl (hb hby d1_102) rfl (l' := #[.val (.ref a1), .val (.int (3 : Int32)), .val (.ref a2), .val (.ref o314), .val (.int (0 : Int32)), .val (.int (5 : Int32)), .val (.int d4)]) rfl k) ?_
    show ORun p e below s _ _ _ T314 (mkF m 104 #[.val (.ref a1), .val (.int (3 : Int32)), .val (.ref a2), .val (.ref o314), .val (.int (0 : Int32)), .val (.int (5 : Int32)), .val (.int d4)] [])
    refine own_by (fun t k => XS.iload X314.here hx rfl (hb hby d1_104) rfl k) ?_
    show ORun p e below s _ _ _ T314 (mkF m 106 #[.val (.ref a1), .val (.int (3 : Int32)), .val (.ref a2), .val (.ref o314), .val (.int (0 : Int32)), .val (.int (5 : Int32)), .val (.int d4)] [(.int (0 : Int32))])
    refine own_by (fun t k => XS.aloadN X314.here hx rfl (hb hby d1_106) rfl rfl k) ?_
    show ORun p e below s _ _ _ T314 (mkF m 107 #[.val (.ref a1), .val (.int (3 : Int32)), .val (.ref a2), .val (.ref o314), .val (.int (0 : Int32)), .val (.int (5 : Int32)), .val (.int d4)] [(.ref a2), (.int (0 : Int32))])
    refine own_len X314 hx hZ rfl (((fz309_3.ext E311).other W312 (Ne.symm ne12)).keep K314 nin0) (n := 5) lds (hb hby d1_107) ?_
    show ORun p e below s _ _ _ T314 (mkF m 108 #[.val (.ref a1), .val (.int (3 : Int32)), .val (.ref a2), .val (.ref o314), .val (.int (0 : Int32)), .val (.int (5 : Int32)), .val (.int d4)] [(.int (5 : Int32)), (.int (0 : Int32))])
    refine own_by (fun t k => XS.icmpNo X314.here hx rfl (hb hby d1_108) rfl (tlt (by decide)).2.1 k) ?_
    show ORun p e below s _ _ _ T314 (mkF m 111 #[.val (.ref a1), .val (.int (3 : Int32)), .val (.ref a2), .val (.ref o314), .val (.int (0 : Int32)), .val (.int (5 : Int32)), .val (.int d4)] [])
    refine own_by (fun t k => XS.aloadN X314.here hx rfl (hb hby d1_111) rfl rfl k) ?_
    show ORun p e below s _ _ _ T314 (mkF m 112 #[.val (.ref a1), .val (.int (3 : Int32)), .val (.ref a2), .val (.ref o314), .val (.int (0 : Int32)), .val (.int (5 : Int32)), .val (.int d4)] [(.ref a1)])
    obtain ⟨T315, X315, e315, st315⟩ := getF X314 hx hZ hown (host := "") (Or.inl (hw _ (List.mem_of_getElem? (i := 14) rfl))) Via.refl rfl (Fw312.keep K314 nin0) (g := (mkF m 112 #[.val (.ref a1), .val (.int (3 : Int32)), .val (.ref a2), .val (.ref o314), .val (.int (0 : Int32)), .val (.int (5 : Int32)), .val (.int d4)] [(.ref a1)])) rfl rfl (hb hby d1_112)
    refine own_by st315 ?_
    show ORun p e below s _ _ _ T315 (mkF m 115 #[.val (.ref a1), .val (.int (3 : Int32)), .val (.ref a2), .val (.ref o314), .val (.int (0 : Int32)), .val (.int (5 : Int32)), .val (.int d4)] [(.ref b311)])
    refine own_by (fun t k => XS.aloadN X315.here hx rfl (hb hby d1_115) rfl rfl k) ?_
    show ORun p e below s _ _ _ T315 (mkF m 116 #[.val (.ref a1), .val (.int (3 : Int32)), .val (.ref a2), .val (.ref o314), .val (.int (0 : Int32)), .val (.int (5 : Int32)), .val (.int d4)] [(.ref o314), (.ref b311)])
    refine own_by (fun t k => XS.aloadN X315.here hx rfl (hb hby d1_116) rfl rfl k) ?_
    show ORun p e below s _ _ _ T315 (mkF m 117 #[.val (.ref a1), .val (.int (3 : Int32)), .val (.ref a2), .val (.ref o314), .val (.int (0 : Int32)), .val (.int (5 : Int32)), .val (.int d4)] [(.ref a2), (.ref o314), (.ref b311)])
    refine own_by (fun t k => XS.iload X315.here hx rfl (hb hby d1_117) rfl k) ?_
    show ORun p e below s _ _ _ T315 (mkF m 119 #[.val (.ref a1), .val (.int (3 : Int32)), .val (.ref a2), .val (.ref o314), .val (.int (0 : Int32)), .val (.int (5 : Int32)), .val (.int d4)] [(.int (0 : Int32)), (.ref a2), (.ref o314), (.ref b311)])
    refine own_iaload X315 hx hZ e315 (((fz309_3.ext E311).other W312 (Ne.symm ne12)).keep K314 nin0) (i := 0) (by decide) (by omega) (hb hby d1_119) ?_
    intro v316 hv316
    obtain rfl : d0 = v316 := hv316.symm
    show ORun p e below s _ _ _ T315 (mkF m 120 #[.val (.ref a1), .val (.int (3 : Int32)), .val (.ref a2), .val (.ref o314), .val (.int (0 : Int32)), .val (.int (5 : Int32)), .val (.int d4)] [(.int d0), (.ref o314), (.ref b311)])
    refine own_iaload X315 hx hZ e315 Vq314 (i := d0.toInt.toNat) (by omega) (by omega) (hb hby d1_120) ?_
    intro v317 hv317
    have r317 := rng32 v317
    show ORun p e below s _ _ _ T315 (mkF m 121 #[.val (.ref a1), .val (.int (3 : Int32)), .val (.ref a2), .val (.ref o314), .val (.int (0 : Int32)), .val (.int (5 : Int32)), .val (.int d4)] [(.int v317), (.ref b311)])
    have mp318 : v317 = own_pos 3 [d0, d1, d2, d3, d4] 0 := by rw [hv317, mN314]; show _ = (own_N 3 [d0, d1, d2, d3, d4] 0).getD (([d0, d1, d2, d3, d4] : List Int32).getD 0 0).toInt.toNat 0; rfl
    have bp318 := own_Ppos PP 0 (by decide)
    rw [← mp318] at bp318
    refine own_by (fun t k => XS.iload X315.here hx rfl (hb hby d1_121) rfl k) ?_
    show ORun p e below s _ _ _ T315 (mkF m 123 #[.val (.ref a1), .val (.int (3 : Int32)), .val (.ref a2), .val (.ref o314), .val (.int (0 : Int32)), .val (.int (5 : Int32)), .val (.int d4)] [(.int (0 : Int32)), (.int v317), (.ref b311)])
    refine own_iastore X315 hx hZ e315 ((V311.other W312 (Ne.symm ne_a1_b311)).keep K314 nin0) (i := v317.toInt.toNat) (by omega) (by omega) (hb hby d1_123) ?_
    intro T319 h319 L319 X319 e319 W319 hL319 V319
    have len319 : L319.length = 5 := by rw [hL319, List.length_set]; exact len311
    have N319 := Fr.snoc X319 N314 old_b311
    show ORun p e below s _ _ _ T319 (mkF m 124 #[.val (.ref a1), .val (.int (3 : Int32)), .val (.ref a2), .val (.ref o314), .val (.int (0 : Int32)), .val (.int (5 : Int32)), .val (.int d4)] [])
    have mE320 : L311 = own_Dk 3 [d0, d1, d2, d3, d4] 0 := by rw [hL311]; rfl
    have mF320 : L319 = own_Dk 3 [d0, d1, d2, d3, d4] 1 := by rw [hL319, mp318, mE320]; show _ = (own_Dk 3 [d0, d1, d2, d3, d4] 0).set (own_pos 3 [d0, d1, d2, d3, d4] 0).toInt.toNat (Int32.ofNat 0); rfl
    refine own_by (fun t k => XS.aloadN X319.here hx rfl (hb hby d1_124) rfl rfl k) ?_
    show ORun p e below s _ _ _ T319 (mkF m 125 #[.val (.ref a1), .val (.int (3 : Int32)), .val (.ref a2), .val (.ref o314), .val (.int (0 : Int32)), .val (.int (5 : Int32)), .val (.int d4)] [(.ref o314)])
    refine own_by (fun t k => XS.aloadN X319.here hx rfl (hb hby d1_125) rfl rfl k) ?_
    show ORun p e below s _ _ _ T319 (mkF m 126 #[.val (.ref a1), .val (.int (3 : Int32)), .val (.ref a2), .val (.ref o314), .val (.int (0 : Int32)), .val (.int (5 : Int32)), .val (.int d4)] [(.ref a2), (.ref o314)])
    refine own_by (fun t k => XS.iload X319.here hx rfl (hb hby d1_126) rfl k) ?_
    show ORun p e below s _ _ _ T319 (mkF m 128 #[.val (.ref a1), .val (.int (3 : Int32)), .val (.ref a2), .val (.ref o314), .val (.int (0 : Int32)), .val (.int (5 : Int32)), .val (.int d4)] [(.int (0 : Int32)), (.ref a2), (.ref o314)])
    refine own_iaload X319 hx hZ e319 ((((fz309_3.ext E311).other W312 (Ne.symm ne12)).keep K314 nin0).other W319 ne_a2_b311) (i := 0) (by decide) (by omega) (hb hby d1_128) ?_
    intro v321 hv321
    obtain rfl : d0 = v321 := hv321.symm
    show ORun p e below s _ _ _ T319 (mkF m 129 #[.val (.ref a1), .val (.int (3 : Int32)), .val (.ref a2), .val (.ref o314), .val (.int (0 : Int32)), .val (.int (5 : Int32)), .val (.int d4)] [(.int d0), (.ref o314)])
    refine own_by (fun t k => XT.dup2 X319.here hx rfl (hb hby d1_129) rfl rfl rfl k) ?_
    show ORun p e below s _ _ _ T319 (mkF m 130 #[.val (.ref a1), .val (.int (3 : Int32)), .val (.ref a2), .val (.ref o314), .val (.int (0 : Int32)), .val (.int (5 : Int32)), .val (.int d4)] [(.int d0), (.ref o314), (.int d0), (.ref o314)])
    refine own_iaload X319 hx hZ e319 (Vq314.other W319 (Ne.symm ne_b311_o314)) (i := d0.toInt.toNat) (by omega) (by omega) (hb hby d1_130) ?_
    intro v322 hv322
    have r322 := rng32 v322
    show ORun p e below s _ _ _ T319 (mkF m 131 #[.val (.ref a1), .val (.int (3 : Int32)), .val (.ref a2), .val (.ref o314), .val (.int (0 : Int32)), .val (.int (5 : Int32)), .val (.int d4)] [(.int v322), (.int d0), (.ref o314)])
    refine own_by (fun t k => XS.iconst X319.here hx rfl (hb hby d1_131) k) ?_
    show ORun p e below s _ _ _ T319 (mkF m 132 #[.val (.ref a1), .val (.int (3 : Int32)), .val (.ref a2), .val (.ref o314), .val (.int (0 : Int32)), .val (.int (5 : Int32)), .val (.int d4)] [(.int (1 : Int32)), (.int v322), (.int d0), (.ref o314)])
    refine own_by (fun t k => XS.iadd X319.here hx rfl (hb hby d1_132) rfl k) (own_letI (f := (fun z => (mkF m 133 #[.val (.ref a1), .val (.int (3 : Int32)), .val (.ref a2), .val (.ref o314), .val (.int (0 : Int32)), .val (.int (5 : Int32)), .val (.int d4)] [(.int z), (.int d0), (.ref o314)]))) (v322 + (1 : Int32)) fun v323 hv323 => ?_)
    show ORun p e below s _ _ _ T319 (mkF m 133 #[.val (.ref a1), .val (.int (3 : Int32)), .val (.ref a2), .val (.ref o314), .val (.int (0 : Int32)), .val (.int (5 : Int32)), .val (.int d4)] [(.int v323), (.int d0), (.ref o314)])
    have a323a : (v323.toInt - (v322.toInt + 1)) % 4294967296 = 0 := by rw [hv323]; exact c_iadd v322 (1 : Int32)
    have r323 := rng32 v323
    refine own_iastore X319 hx hZ e319 (Vq314.other W319 (Ne.symm ne_b311_o314)) (i := d0.toInt.toNat) (by omega) (by omega) (hb hby d1_133) ?_
    intro T324 h324 L324 X324 e324 W324 hL324 V324
    have len324 : L324.length = 3 := by rw [hL324, List.length_set]; exact len314
    have N324 := Fr.snoc X324 N319 old_o314
    show ORun p e below s _ _ _ T324 (mkF m 134 #[.val (.ref a1), .val (.int (3 : Int32)), .val (.ref a2), .val (.ref o314), .val (.int (0 : Int32)), .val (.int (5 : Int32)), .val (.int d4)] [])
    have mN325 : L324 = own_N 3 [d0, d1, d2, d3, d4] 1 := by rw [hL324, hv323, hv322, mN314]; show _ = (own_N 3 [d0, d1, d2, d3, d4] 0).set (([d0, d1, d2, d3, d4] : List Int32).getD 0 0).toInt.toNat ((own_N 3 [d0, d1, d2, d3, d4] 0).getD (([d0, d1, d2, d3, d4] : List Int32).getD 0 0).toInt.toNat 0 + 1); rfl
    clear r317 bp318 r322 a323a r323
    have Kz326 : Keep h0 h324 [a1] := (((((((Keep.refl h0 [a1]).trans Kz309 (allS (Or.inl (List.mem_of_getElem? (i := 0) rfl)) all0)).ext E311).wr W312 (Or.inl (List.mem_of_getElem? (i := 0) rfl))).trans K314 all0).wr W319 (Or.inr sz_b311)).wr W324 (Or.inr sz_o314))
    have fz326_0 := (((((fz309_0.ext E311).wr W312).keep K314).wr W319).wr W324)
    have fz326_1 := (((((fz309_1.ext E311).other W312 (Or.inr (slot_ne (Or.inr (hw _ (List.mem_of_getElem? (i := 13) rfl))) (Or.inr (hw _ (List.mem_of_getElem? (i := 15) rfl))) (by decide) (t := (.array .int)) (t' := (.array .int)) (by decide) (by decide)))).keep K314 nin0).other W319 (Or.inl ne_a1_b311)).other W324 (Or.inl ne_a1_o314))
    have fz326_2 := (((Fw312.keep K314 nin0).other W319 (Or.inl ne_a1_b311)).other W324 (Or.inl ne_a1_o314))
    have fz326_3 := (((((fz309_3.ext E311).other W312 (Ne.symm ne12)).keep K314 nin0).other W319 ne_a2_b311).other W324 ne_a2_o314)
    have fz326_4 := (((((V307.ext E311).other W312 (Ne.symm ne_a1_b244)).keep K314 nin0).other W319 ne_b244_b311).other W324 ne_b244_o314)
    have fz326_5 := (((((fz309_5.ext E311).wr W312).keep K314).wr W319).wr W324)
    have fz326_6 := (V319.other W324 ne_b311_o314)
    have fz326_7 := ((((Ex311.wr W312).keep K314).wr W319).wr W324)
    refine own_by (fun t k => XS.iinc X324.here hx rfl (hb hby d1_134) rfl (l' := #[.val (.ref a1), .val (.int (3 : Int32)), .val (.ref a2), .val (.ref o314), .val (.int (1 : Int32)), .val (.int (5 : Int32)), .val (.int d4)]) rfl k) ?_
    show ORun p e below s _ _ _ T324 (mkF m 137 #[.val (.ref a1), .val (.int (3 : Int32)), .val (.ref a2), .val (.ref o314), .val (.int (1 : Int32)), .val (.int (5 : Int32)), .val (.int d4)] [])
    refine own_by (fun t k => XS.goto X324.here hx rfl (pc0 := 137) (pc' := 104) rfl (hb hby d1_137) (by decide) (by decide) k) ?_
    show ORun p e below s _ _ _ T324 (mkF m 104 #[.val (.ref a1), .val (.int (3 : Int32)), .val (.ref a2), .val (.ref o314), .val (.int (1 : Int32)), .val (.int (5 : Int32)), .val (.int d4)] [])
    refine own_by (fun t k => XS.iload X324.here hx rfl (hb hby d1_104) rfl k) ?_
    show ORun p e below s _ _ _ T324 (mkF m 106 #[.val (.ref a1), .val (.int (3 : Int32)), .val (.ref a2), .val (.ref o314), .val (.int (1 : Int32)), .val (.int (5 : Int32)), .val (.int d4)] [(.int (1 : Int32))])
    refine own_by (fun t k => XS.aloadN X324.here hx rfl (hb hby d1_106) rfl rfl k) ?_
    show ORun p e below s _ _ _ T324 (mkF m 107 #[.val (.ref a1), .val (.int (3 : Int32)), .val (.ref a2), .val (.ref o314), .val (.int (1 : Int32)), .val (.int (5 : Int32)), .val (.int d4)] [(.ref a2), (.int (1 : Int32))])
    refine own_len X324 hx hZ e324 fz326_3 (n := 5) lds (hb hby d1_107) ?_
    show ORun p e below s _ _ _ T324 (mkF m 108 #[.val (.ref a1), .val (.int (3 : Int32)), .val (.ref a2), .val (.ref o314), .val (.int (1 : Int32)), .val (.int (5 : Int32)), .val (.int d4)] [(.int (5 : Int32)), (.int (1 : Int32))])
    refine own_by (fun t k => XS.icmpNo X324.here hx rfl (hb hby d1_108) rfl (tlt (by decide)).2.1 k) ?_
    show ORun p e below s _ _ _ T324 (mkF m 111 #[.val (.ref a1), .val (.int (3 : Int32)), .val (.ref a2), .val (.ref o314), .val (.int (1 : Int32)), .val (.int (5 : Int32)), .val (.int d4)] [])
    refine own_by (fun t k => XS.aloadN X324.here hx rfl (hb hby d1_111) rfl rfl k) ?_
    show ORun p e below s _ _ _ T324 (mkF m 112 #[.val (.ref a1), .val (.int (3 : Int32)), .val (.ref a2), .val (.ref o314), .val (.int (1 : Int32)), .val (.int (5 : Int32)), .val (.int d4)] [(.ref a1)])
    obtain ⟨T327, X327, e327, st327⟩ := getF X324 hx hZ hown (host := "") (Or.inl (hw _ (List.mem_of_getElem? (i := 14) rfl))) Via.refl e324 fz326_2 (g := (mkF m 112 #[.val (.ref a1), .val (.int (3 : Int32)), .val (.ref a2), .val (.ref o314), .val (.int (1 : Int32)), .val (.int (5 : Int32)), .val (.int d4)] [(.ref a1)])) rfl rfl (hb hby d1_112)
    refine own_by st327 ?_
    show ORun p e below s _ _ _ T327 (mkF m 115 #[.val (.ref a1), .val (.int (3 : Int32)), .val (.ref a2), .val (.ref o314), .val (.int (1 : Int32)), .val (.int (5 : Int32)), .val (.int d4)] [(.ref b311)])
    refine own_by (fun t k => XS.aloadN X327.here hx rfl (hb hby d1_115) rfl rfl k) ?_
    show ORun p e below s _ _ _ T327 (mkF m 116 #[.val (.ref a1), .val (.int (3 : Int32)), .val (.ref a2), .val (.ref o314), .val (.int (1 : Int32)), .val (.int (5 : Int32)), .val (.int d4)] [(.ref o314), (.ref b311)])
    refine own_by (fun t k => XS.aloadN X327.here hx rfl (hb hby d1_116) rfl rfl k) ?_
    show ORun p e below s _ _ _ T327 (mkF m 117 #[.val (.ref a1), .val (.int (3 : Int32)), .val (.ref a2), .val (.ref o314), .val (.int (1 : Int32)), .val (.int (5 : Int32)), .val (.int d4)] [(.ref a2), (.ref o314), (.ref b311)])
    refine own_by (fun t k => XS.iload X327.here hx rfl (hb hby d1_117) rfl k) ?_
    show ORun p e below s _ _ _ T327 (mkF m 119 #[.val (.ref a1), .val (.int (3 : Int32)), .val (.ref a2), .val (.ref o314), .val (.int (1 : Int32)), .val (.int (5 : Int32)), .val (.int d4)] [(.int (1 : Int32)), (.ref a2), (.ref o314), (.ref b311)])
    refine own_iaload X327 hx hZ e327 fz326_3 (i := 1) (by decide) (by omega) (hb hby d1_119) ?_
    intro v328 hv328
    obtain rfl : d1 = v328 := hv328.symm
    show ORun p e below s _ _ _ T327 (mkF m 120 #[.val (.ref a1), .val (.int (3 : Int32)), .val (.ref a2), .val (.ref o314), .val (.int (1 : Int32)), .val (.int (5 : Int32)), .val (.int d4)] [(.int d1), (.ref o314), (.ref b311)])
    refine own_iaload X327 hx hZ e327 V324 (i := d1.toInt.toNat) (by omega) (by omega) (hb hby d1_120) ?_
    intro v329 hv329
    have r329 := rng32 v329
    show ORun p e below s _ _ _ T327 (mkF m 121 #[.val (.ref a1), .val (.int (3 : Int32)), .val (.ref a2), .val (.ref o314), .val (.int (1 : Int32)), .val (.int (5 : Int32)), .val (.int d4)] [(.int v329), (.ref b311)])
    have mp330 : v329 = own_pos 3 [d0, d1, d2, d3, d4] 1 := by rw [hv329, mN325]; show _ = (own_N 3 [d0, d1, d2, d3, d4] 1).getD (([d0, d1, d2, d3, d4] : List Int32).getD 1 0).toInt.toNat 0; rfl
    have bp330 := own_Ppos PP 1 (by decide)
    rw [← mp330] at bp330
    refine own_by (fun t k => XS.iload X327.here hx rfl (hb hby d1_121) rfl k) ?_
    show ORun p e below s _ _ _ T327 (mkF m 123 #[.val (.ref a1), .val (.int (3 : Int32)), .val (.ref a2), .val (.ref o314), .val (.int (1 : Int32)), .val (.int (5 : Int32)), .val (.int d4)] [(.int (1 : Int32)), (.int v329), (.ref b311)])
    refine own_iastore X327 hx hZ e327 fz326_6 (i := v329.toInt.toNat) (by omega) (by omega) (hb hby d1_123) ?_
    intro T331 h331 L331 X331 e331 W331 hL331 V331
    have len331 : L331.length = 5 := by rw [hL331, List.length_set]; exact len319
    have N331 := Fr.snoc X331 N324 old_b311
    show ORun p e below s _ _ _ T331 (mkF m 124 #[.val (.ref a1), .val (.int (3 : Int32)), .val (.ref a2), .val (.ref o314), .val (.int (1 : Int32)), .val (.int (5 : Int32)), .val (.int d4)] [])
    have mF332 : L331 = own_Dk 3 [d0, d1, d2, d3, d4] 2 := by rw [hL331, mp330, mF320]; show _ = (own_Dk 3 [d0, d1, d2, d3, d4] 1).set (own_pos 3 [d0, d1, d2, d3, d4] 1).toInt.toNat (Int32.ofNat 1); rfl
    refine own_by (fun t k => XS.aloadN X331.here hx rfl (hb hby d1_124) rfl rfl k) ?_
    show ORun p e below s _ _ _ T331 (mkF m 125 #[.val (.ref a1), .val (.int (3 : Int32)), .val (.ref a2), .val (.ref o314), .val (.int (1 : Int32)), .val (.int (5 : Int32)), .val (.int d4)] [(.ref o314)])
    refine own_by (fun t k => XS.aloadN X331.here hx rfl (hb hby d1_125) rfl rfl k) ?_
    show ORun p e below s _ _ _ T331 (mkF m 126 #[.val (.ref a1), .val (.int (3 : Int32)), .val (.ref a2), .val (.ref o314), .val (.int (1 : Int32)), .val (.int (5 : Int32)), .val (.int d4)] [(.ref a2), (.ref o314)])
    refine own_by (fun t k => XS.iload X331.here hx rfl (hb hby d1_126) rfl k) ?_
    show ORun p e below s _ _ _ T331 (mkF m 128 #[.val (.ref a1), .val (.int (3 : Int32)), .val (.ref a2), .val (.ref o314), .val (.int (1 : Int32)), .val (.int (5 : Int32)), .val (.int d4)] [(.int (1 : Int32)), (.ref a2), (.ref o314)])
    refine own_iaload X331 hx hZ e331 (fz326_3.other W331 ne_a2_b311) (i := 1) (by decide) (by omega) (hb hby d1_128) ?_
    intro v333 hv333
    obtain rfl : d1 = v333 := hv333.symm
    show ORun p e below s _ _ _ T331 (mkF m 129 #[.val (.ref a1), .val (.int (3 : Int32)), .val (.ref a2), .val (.ref o314), .val (.int (1 : Int32)), .val (.int (5 : Int32)), .val (.int d4)] [(.int d1), (.ref o314)])
    refine own_by (fun t k => XT.dup2 X331.here hx rfl (hb hby d1_129) rfl rfl rfl k) ?_
    show ORun p e below s _ _ _ T331 (mkF m 130 #[.val (.ref a1), .val (.int (3 : Int32)), .val (.ref a2), .val (.ref o314), .val (.int (1 : Int32)), .val (.int (5 : Int32)), .val (.int d4)] [(.int d1), (.ref o314), (.int d1), (.ref o314)])
    refine own_iaload X331 hx hZ e331 (V324.other W331 (Ne.symm ne_b311_o314)) (i := d1.toInt.toNat) (by omega) (by omega) (hb hby d1_130) ?_
    intro v334 hv334
    have r334 := rng32 v334
    show ORun p e below s _ _ _ T331 (mkF m 131 #[.val (.ref a1), .val (.int (3 : Int32)), .val (.ref a2), .val (.ref o314), .val (.int (1 : Int32)), .val (.int (5 : Int32)), .val (.int d4)] [(.int v334), (.int d1), (.ref o314)])
    refine own_by (fun t k => XS.iconst X331.here hx rfl (hb hby d1_131) k) ?_
    show ORun p e below s _ _ _ T331 (mkF m 132 #[.val (.ref a1), .val (.int (3 : Int32)), .val (.ref a2), .val (.ref o314), .val (.int (1 : Int32)), .val (.int (5 : Int32)), .val (.int d4)] [(.int (1 : Int32)), (.int v334), (.int d1), (.ref o314)])
    refine own_by (fun t k => XS.iadd X331.here hx rfl (hb hby d1_132) rfl k) (own_letI (f := (fun z => (mkF m 133 #[.val (.ref a1), .val (.int (3 : Int32)), .val (.ref a2), .val (.ref o314), .val (.int (1 : Int32)), .val (.int (5 : Int32)), .val (.int d4)] [(.int z), (.int d1), (.ref o314)]))) (v334 + (1 : Int32)) fun v335 hv335 => ?_)
    show ORun p e below s _ _ _ T331 (mkF m 133 #[.val (.ref a1), .val (.int (3 : Int32)), .val (.ref a2), .val (.ref o314), .val (.int (1 : Int32)), .val (.int (5 : Int32)), .val (.int d4)] [(.int v335), (.int d1), (.ref o314)])
    have a335a : (v335.toInt - (v334.toInt + 1)) % 4294967296 = 0 := by rw [hv335]; exact c_iadd v334 (1 : Int32)
    have r335 := rng32 v335
    refine own_iastore X331 hx hZ e331 (V324.other W331 (Ne.symm ne_b311_o314)) (i := d1.toInt.toNat) (by omega) (by omega) (hb hby d1_133) ?_
    intro T336 h336 L336 X336 e336 W336 hL336 V336
    have len336 : L336.length = 3 := by rw [hL336, List.length_set]; exact len324
    have N336 := Fr.snoc X336 N331 old_o314
    show ORun p e below s _ _ _ T336 (mkF m 134 #[.val (.ref a1), .val (.int (3 : Int32)), .val (.ref a2), .val (.ref o314), .val (.int (1 : Int32)), .val (.int (5 : Int32)), .val (.int d4)] [])
    have mN337 : L336 = own_N 3 [d0, d1, d2, d3, d4] 2 := by rw [hL336, hv335, hv334, mN325]; show _ = (own_N 3 [d0, d1, d2, d3, d4] 1).set (([d0, d1, d2, d3, d4] : List Int32).getD 1 0).toInt.toNat ((own_N 3 [d0, d1, d2, d3, d4] 1).getD (([d0, d1, d2, d3, d4] : List Int32).getD 1 0).toInt.toNat 0 + 1); rfl
    clear r329 bp330 r334 a335a r335
    have Kz338 : Keep h0 h336 [a1] := ((((Keep.refl h0 [a1]).trans Kz326 (allS (Or.inl (List.mem_of_getElem? (i := 0) rfl)) all0)).wr W331 (Or.inr sz_b311)).wr W336 (Or.inr sz_o314))
    have fz338_0 := ((fz326_0.wr W331).wr W336)
    have fz338_1 := ((fz326_1.other W331 (Or.inl ne_a1_b311)).other W336 (Or.inl ne_a1_o314))
    have fz338_2 := ((fz326_2.other W331 (Or.inl ne_a1_b311)).other W336 (Or.inl ne_a1_o314))
    have fz338_3 := ((fz326_3.other W331 ne_a2_b311).other W336 ne_a2_o314)
    have fz338_4 := ((fz326_4.other W331 ne_b244_b311).other W336 ne_b244_o314)
    have fz338_5 := ((fz326_5.wr W331).wr W336)
    have fz338_6 := (V331.other W336 ne_b311_o314)
    have fz338_7 := ((fz326_7.wr W331).wr W336)
    refine own_by (fun t k => XS.iinc X336.here hx rfl (hb hby d1_134) rfl (l' := #[.val (.ref a1), .val (.int (3 : Int32)), .val (.ref a2), .val (.ref o314), .val (.int (2 : Int32)), .val (.int (5 : Int32)), .val (.int d4)]) rfl k) ?_
    show ORun p e below s _ _ _ T336 (mkF m 137 #[.val (.ref a1), .val (.int (3 : Int32)), .val (.ref a2), .val (.ref o314), .val (.int (2 : Int32)), .val (.int (5 : Int32)), .val (.int d4)] [])
    refine own_by (fun t k => XS.goto X336.here hx rfl (pc0 := 137) (pc' := 104) rfl (hb hby d1_137) (by decide) (by decide) k) ?_
    show ORun p e below s _ _ _ T336 (mkF m 104 #[.val (.ref a1), .val (.int (3 : Int32)), .val (.ref a2), .val (.ref o314), .val (.int (2 : Int32)), .val (.int (5 : Int32)), .val (.int d4)] [])
    refine own_by (fun t k => XS.iload X336.here hx rfl (hb hby d1_104) rfl k) ?_
    show ORun p e below s _ _ _ T336 (mkF m 106 #[.val (.ref a1), .val (.int (3 : Int32)), .val (.ref a2), .val (.ref o314), .val (.int (2 : Int32)), .val (.int (5 : Int32)), .val (.int d4)] [(.int (2 : Int32))])
    refine own_by (fun t k => XS.aloadN X336.here hx rfl (hb hby d1_106) rfl rfl k) ?_
    show ORun p e below s _ _ _ T336 (mkF m 107 #[.val (.ref a1), .val (.int (3 : Int32)), .val (.ref a2), .val (.ref o314), .val (.int (2 : Int32)), .val (.int (5 : Int32)), .val (.int d4)] [(.ref a2), (.int (2 : Int32))])
    refine own_len X336 hx hZ e336 fz338_3 (n := 5) lds (hb hby d1_107) ?_
    show ORun p e below s _ _ _ T336 (mkF m 108 #[.val (.ref a1), .val (.int (3 : Int32)), .val (.ref a2), .val (.ref o314), .val (.int (2 : Int32)), .val (.int (5 : Int32)), .val (.int d4)] [(.int (5 : Int32)), (.int (2 : Int32))])
    refine own_by (fun t k => XS.icmpNo X336.here hx rfl (hb hby d1_108) rfl (tlt (by decide)).2.1 k) ?_
    show ORun p e below s _ _ _ T336 (mkF m 111 #[.val (.ref a1), .val (.int (3 : Int32)), .val (.ref a2), .val (.ref o314), .val (.int (2 : Int32)), .val (.int (5 : Int32)), .val (.int d4)] [])
    refine own_by (fun t k => XS.aloadN X336.here hx rfl (hb hby d1_111) rfl rfl k) ?_
    show ORun p e below s _ _ _ T336 (mkF m 112 #[.val (.ref a1), .val (.int (3 : Int32)), .val (.ref a2), .val (.ref o314), .val (.int (2 : Int32)), .val (.int (5 : Int32)), .val (.int d4)] [(.ref a1)])
    obtain ⟨T339, X339, e339, st339⟩ := getF X336 hx hZ hown (host := "") (Or.inl (hw _ (List.mem_of_getElem? (i := 14) rfl))) Via.refl e336 fz338_2 (g := (mkF m 112 #[.val (.ref a1), .val (.int (3 : Int32)), .val (.ref a2), .val (.ref o314), .val (.int (2 : Int32)), .val (.int (5 : Int32)), .val (.int d4)] [(.ref a1)])) rfl rfl (hb hby d1_112)
    refine own_by st339 ?_
    show ORun p e below s _ _ _ T339 (mkF m 115 #[.val (.ref a1), .val (.int (3 : Int32)), .val (.ref a2), .val (.ref o314), .val (.int (2 : Int32)), .val (.int (5 : Int32)), .val (.int d4)] [(.ref b311)])
    refine own_by (fun t k => XS.aloadN X339.here hx rfl (hb hby d1_115) rfl rfl k) ?_
    show ORun p e below s _ _ _ T339 (mkF m 116 #[.val (.ref a1), .val (.int (3 : Int32)), .val (.ref a2), .val (.ref o314), .val (.int (2 : Int32)), .val (.int (5 : Int32)), .val (.int d4)] [(.ref o314), (.ref b311)])
    refine own_by (fun t k => XS.aloadN X339.here hx rfl (hb hby d1_116) rfl rfl k) ?_
    show ORun p e below s _ _ _ T339 (mkF m 117 #[.val (.ref a1), .val (.int (3 : Int32)), .val (.ref a2), .val (.ref o314), .val (.int (2 : Int32)), .val (.int (5 : Int32)), .val (.int d4)] [(.ref a2), (.ref o314), (.ref b311)])
    refine own_by (fun t k => XS.iload X339.here hx rfl (hb hby d1_117) rfl k) ?_
    show ORun p e below s _ _ _ T339 (mkF m 119 #[.val (.ref a1), .val (.int (3 : Int32)), .val (.ref a2), .val (.ref o314), .val (.int (2 : Int32)), .val (.int (5 : Int32)), .val (.int d4)] [(.int (2 : Int32)), (.ref a2), (.ref o314), (.ref b311)])
    refine own_iaload X339 hx hZ e339 fz338_3 (i := 2) (by decide) (by omega) (hb hby d1_119) ?_
    intro v340 hv340
    obtain rfl : d2 = v340 := hv340.symm
    show ORun p e below s _ _ _ T339 (mkF m 120 #[.val (.ref a1), .val (.int (3 : Int32)), .val (.ref a2), .val (.ref o314), .val (.int (2 : Int32)), .val (.int (5 : Int32)), .val (.int d4)] [(.int d2), (.ref o314), (.ref b311)])
    refine own_iaload X339 hx hZ e339 V336 (i := d2.toInt.toNat) (by omega) (by omega) (hb hby d1_120) ?_
    intro v341 hv341
    have r341 := rng32 v341
    show ORun p e below s _ _ _ T339 (mkF m 121 #[.val (.ref a1), .val (.int (3 : Int32)), .val (.ref a2), .val (.ref o314), .val (.int (2 : Int32)), .val (.int (5 : Int32)), .val (.int d4)] [(.int v341), (.ref b311)])
    have mp342 : v341 = own_pos 3 [d0, d1, d2, d3, d4] 2 := by rw [hv341, mN337]; show _ = (own_N 3 [d0, d1, d2, d3, d4] 2).getD (([d0, d1, d2, d3, d4] : List Int32).getD 2 0).toInt.toNat 0; rfl
    have bp342 := own_Ppos PP 2 (by decide)
    rw [← mp342] at bp342
    refine own_by (fun t k => XS.iload X339.here hx rfl (hb hby d1_121) rfl k) ?_
    show ORun p e below s _ _ _ T339 (mkF m 123 #[.val (.ref a1), .val (.int (3 : Int32)), .val (.ref a2), .val (.ref o314), .val (.int (2 : Int32)), .val (.int (5 : Int32)), .val (.int d4)] [(.int (2 : Int32)), (.int v341), (.ref b311)])
    refine own_iastore X339 hx hZ e339 fz338_6 (i := v341.toInt.toNat) (by omega) (by omega) (hb hby d1_123) ?_
    intro T343 h343 L343 X343 e343 W343 hL343 V343
    have len343 : L343.length = 5 := by rw [hL343, List.length_set]; exact len331
    have N343 := Fr.snoc X343 N336 old_b311
    show ORun p e below s _ _ _ T343 (mkF m 124 #[.val (.ref a1), .val (.int (3 : Int32)), .val (.ref a2), .val (.ref o314), .val (.int (2 : Int32)), .val (.int (5 : Int32)), .val (.int d4)] [])
    have mF344 : L343 = own_Dk 3 [d0, d1, d2, d3, d4] 3 := by rw [hL343, mp342, mF332]; show _ = (own_Dk 3 [d0, d1, d2, d3, d4] 2).set (own_pos 3 [d0, d1, d2, d3, d4] 2).toInt.toNat (Int32.ofNat 2); rfl
    refine own_by (fun t k => XS.aloadN X343.here hx rfl (hb hby d1_124) rfl rfl k) ?_
    show ORun p e below s _ _ _ T343 (mkF m 125 #[.val (.ref a1), .val (.int (3 : Int32)), .val (.ref a2), .val (.ref o314), .val (.int (2 : Int32)), .val (.int (5 : Int32)), .val (.int d4)] [(.ref o314)])
    refine own_by (fun t k => XS.aloadN X343.here hx rfl (hb hby d1_125) rfl rfl k) ?_
    show ORun p e below s _ _ _ T343 (mkF m 126 #[.val (.ref a1), .val (.int (3 : Int32)), .val (.ref a2), .val (.ref o314), .val (.int (2 : Int32)), .val (.int (5 : Int32)), .val (.int d4)] [(.ref a2), (.ref o314)])
    refine own_by (fun t k => XS.iload X343.here hx rfl (hb hby d1_126) rfl k) ?_
    show ORun p e below s _ _ _ T343 (mkF m 128 #[.val (.ref a1), .val (.int (3 : Int32)), .val (.ref a2), .val (.ref o314), .val (.int (2 : Int32)), .val (.int (5 : Int32)), .val (.int d4)] [(.int (2 : Int32)), (.ref a2), (.ref o314)])
    refine own_iaload X343 hx hZ e343 (fz338_3.other W343 ne_a2_b311) (i := 2) (by decide) (by omega) (hb hby d1_128) ?_
    intro v345 hv345
    obtain rfl : d2 = v345 := hv345.symm
    show ORun p e below s _ _ _ T343 (mkF m 129 #[.val (.ref a1), .val (.int (3 : Int32)), .val (.ref a2), .val (.ref o314), .val (.int (2 : Int32)), .val (.int (5 : Int32)), .val (.int d4)] [(.int d2), (.ref o314)])
    refine own_by (fun t k => XT.dup2 X343.here hx rfl (hb hby d1_129) rfl rfl rfl k) ?_
    show ORun p e below s _ _ _ T343 (mkF m 130 #[.val (.ref a1), .val (.int (3 : Int32)), .val (.ref a2), .val (.ref o314), .val (.int (2 : Int32)), .val (.int (5 : Int32)), .val (.int d4)] [(.int d2), (.ref o314), (.int d2), (.ref o314)])
    refine own_iaload X343 hx hZ e343 (V336.other W343 (Ne.symm ne_b311_o314)) (i := d2.toInt.toNat) (by omega) (by omega) (hb hby d1_130) ?_
    intro v346 hv346
    have r346 := rng32 v346
    show ORun p e below s _ _ _ T343 (mkF m 131 #[.val (.ref a1), .val (.int (3 : Int32)), .val (.ref a2), .val (.ref o314), .val (.int (2 : Int32)), .val (.int (5 : Int32)), .val (.int d4)] [(.int v346), (.int d2), (.ref o314)])
    refine own_by (fun t k => XS.iconst X343.here hx rfl (hb hby d1_131) k) ?_
    show ORun p e below s _ _ _ T343 (mkF m 132 #[.val (.ref a1), .val (.int (3 : Int32)), .val (.ref a2), .val (.ref o314), .val (.int (2 : Int32)), .val (.int (5 : Int32)), .val (.int d4)] [(.int (1 : Int32)), (.int v346), (.int d2), (.ref o314)])
    refine own_by (fun t k => XS.iadd X343.here hx rfl (hb hby d1_132) rfl k) (own_letI (f := (fun z => (mkF m 133 #[.val (.ref a1), .val (.int (3 : Int32)), .val (.ref a2), .val (.ref o314), .val (.int (2 : Int32)), .val (.int (5 : Int32)), .val (.int d4)] [(.int z), (.int d2), (.ref o314)]))) (v346 + (1 : Int32)) fun v347 hv347 => ?_)
    show ORun p e below s _ _ _ T343 (mkF m 133 #[.val (.ref a1), .val (.int (3 : Int32)), .val (.ref a2), .val (.ref o314), .val (.int (2 : Int32)), .val (.int (5 : Int32)), .val (.int d4)] [(.int v347), (.int d2), (.ref o314)])
    have a347a : (v347.toInt - (v346.toInt + 1)) % 4294967296 = 0 := by rw [hv347]; exact c_iadd v346 (1 : Int32)
    have r347 := rng32 v347
    refine own_iastore X343 hx hZ e343 (V336.other W343 (Ne.symm ne_b311_o314)) (i := d2.toInt.toNat) (by omega) (by omega) (hb hby d1_133) ?_
    intro T348 h348 L348 X348 e348 W348 hL348 V348
    have len348 : L348.length = 3 := by rw [hL348, List.length_set]; exact len336
    have N348 := Fr.snoc X348 N343 old_o314
    show ORun p e below s _ _ _ T348 (mkF m 134 #[.val (.ref a1), .val (.int (3 : Int32)), .val (.ref a2), .val (.ref o314), .val (.int (2 : Int32)), .val (.int (5 : Int32)), .val (.int d4)] [])
    have mN349 : L348 = own_N 3 [d0, d1, d2, d3, d4] 3 := by rw [hL348, hv347, hv346, mN337]; show _ = (own_N 3 [d0, d1, d2, d3, d4] 2).set (([d0, d1, d2, d3, d4] : List Int32).getD 2 0).toInt.toNat ((own_N 3 [d0, d1, d2, d3, d4] 2).getD (([d0, d1, d2, d3, d4] : List Int32).getD 2 0).toInt.toNat 0 + 1); rfl
    clear r341 bp342 r346 a347a r347
    have Kz350 : Keep h0 h348 [a1] := ((((Keep.refl h0 [a1]).trans Kz338 (allS (Or.inl (List.mem_of_getElem? (i := 0) rfl)) all0)).wr W343 (Or.inr sz_b311)).wr W348 (Or.inr sz_o314))
    have fz350_0 := ((fz338_0.wr W343).wr W348)
    have fz350_1 := ((fz338_1.other W343 (Or.inl ne_a1_b311)).other W348 (Or.inl ne_a1_o314))
    have fz350_2 := ((fz338_2.other W343 (Or.inl ne_a1_b311)).other W348 (Or.inl ne_a1_o314))
    have fz350_3 := ((fz338_3.other W343 ne_a2_b311).other W348 ne_a2_o314)
    have fz350_4 := ((fz338_4.other W343 ne_b244_b311).other W348 ne_b244_o314)
    have fz350_5 := ((fz338_5.wr W343).wr W348)
    have fz350_6 := (V343.other W348 ne_b311_o314)
    have fz350_7 := ((fz338_7.wr W343).wr W348)
    refine own_by (fun t k => XS.iinc X348.here hx rfl (hb hby d1_134) rfl (l' := #[.val (.ref a1), .val (.int (3 : Int32)), .val (.ref a2), .val (.ref o314), .val (.int (3 : Int32)), .val (.int (5 : Int32)), .val (.int d4)]) rfl k) ?_
    show ORun p e below s _ _ _ T348 (mkF m 137 #[.val (.ref a1), .val (.int (3 : Int32)), .val (.ref a2), .val (.ref o314), .val (.int (3 : Int32)), .val (.int (5 : Int32)), .val (.int d4)] [])
    refine own_by (fun t k => XS.goto X348.here hx rfl (pc0 := 137) (pc' := 104) rfl (hb hby d1_137) (by decide) (by decide) k) ?_
    show ORun p e below s _ _ _ T348 (mkF m 104 #[.val (.ref a1), .val (.int (3 : Int32)), .val (.ref a2), .val (.ref o314), .val (.int (3 : Int32)), .val (.int (5 : Int32)), .val (.int d4)] [])
    refine own_by (fun t k => XS.iload X348.here hx rfl (hb hby d1_104) rfl k) ?_
    show ORun p e below s _ _ _ T348 (mkF m 106 #[.val (.ref a1), .val (.int (3 : Int32)), .val (.ref a2), .val (.ref o314), .val (.int (3 : Int32)), .val (.int (5 : Int32)), .val (.int d4)] [(.int (3 : Int32))])
    refine own_by (fun t k => XS.aloadN X348.here hx rfl (hb hby d1_106) rfl rfl k) ?_
    show ORun p e below s _ _ _ T348 (mkF m 107 #[.val (.ref a1), .val (.int (3 : Int32)), .val (.ref a2), .val (.ref o314), .val (.int (3 : Int32)), .val (.int (5 : Int32)), .val (.int d4)] [(.ref a2), (.int (3 : Int32))])
    refine own_len X348 hx hZ e348 fz350_3 (n := 5) lds (hb hby d1_107) ?_
    show ORun p e below s _ _ _ T348 (mkF m 108 #[.val (.ref a1), .val (.int (3 : Int32)), .val (.ref a2), .val (.ref o314), .val (.int (3 : Int32)), .val (.int (5 : Int32)), .val (.int d4)] [(.int (5 : Int32)), (.int (3 : Int32))])
    refine own_by (fun t k => XS.icmpNo X348.here hx rfl (hb hby d1_108) rfl (tlt (by decide)).2.1 k) ?_
    show ORun p e below s _ _ _ T348 (mkF m 111 #[.val (.ref a1), .val (.int (3 : Int32)), .val (.ref a2), .val (.ref o314), .val (.int (3 : Int32)), .val (.int (5 : Int32)), .val (.int d4)] [])
    refine own_by (fun t k => XS.aloadN X348.here hx rfl (hb hby d1_111) rfl rfl k) ?_
    show ORun p e below s _ _ _ T348 (mkF m 112 #[.val (.ref a1), .val (.int (3 : Int32)), .val (.ref a2), .val (.ref o314), .val (.int (3 : Int32)), .val (.int (5 : Int32)), .val (.int d4)] [(.ref a1)])
    obtain ⟨T351, X351, e351, st351⟩ := getF X348 hx hZ hown (host := "") (Or.inl (hw _ (List.mem_of_getElem? (i := 14) rfl))) Via.refl e348 fz350_2 (g := (mkF m 112 #[.val (.ref a1), .val (.int (3 : Int32)), .val (.ref a2), .val (.ref o314), .val (.int (3 : Int32)), .val (.int (5 : Int32)), .val (.int d4)] [(.ref a1)])) rfl rfl (hb hby d1_112)
    refine own_by st351 ?_
    show ORun p e below s _ _ _ T351 (mkF m 115 #[.val (.ref a1), .val (.int (3 : Int32)), .val (.ref a2), .val (.ref o314), .val (.int (3 : Int32)), .val (.int (5 : Int32)), .val (.int d4)] [(.ref b311)])
    refine own_by (fun t k => XS.aloadN X351.here hx rfl (hb hby d1_115) rfl rfl k) ?_
    show ORun p e below s _ _ _ T351 (mkF m 116 #[.val (.ref a1), .val (.int (3 : Int32)), .val (.ref a2), .val (.ref o314), .val (.int (3 : Int32)), .val (.int (5 : Int32)), .val (.int d4)] [(.ref o314), (.ref b311)])
    refine own_by (fun t k => XS.aloadN X351.here hx rfl (hb hby d1_116) rfl rfl k) ?_
    show ORun p e below s _ _ _ T351 (mkF m 117 #[.val (.ref a1), .val (.int (3 : Int32)), .val (.ref a2), .val (.ref o314), .val (.int (3 : Int32)), .val (.int (5 : Int32)), .val (.int d4)] [(.ref a2), (.ref o314), (.ref b311)])
    refine own_by (fun t k => XS.iload X351.here hx rfl (hb hby d1_117) rfl k) ?_
    show ORun p e below s _ _ _ T351 (mkF m 119 #[.val (.ref a1), .val (.int (3 : Int32)), .val (.ref a2), .val (.ref o314), .val (.int (3 : Int32)), .val (.int (5 : Int32)), .val (.int d4)] [(.int (3 : Int32)), (.ref a2), (.ref o314), (.ref b311)])
    refine own_iaload X351 hx hZ e351 fz350_3 (i := 3) (by decide) (by omega) (hb hby d1_119) ?_
    intro v352 hv352
    obtain rfl : d3 = v352 := hv352.symm
    show ORun p e below s _ _ _ T351 (mkF m 120 #[.val (.ref a1), .val (.int (3 : Int32)), .val (.ref a2), .val (.ref o314), .val (.int (3 : Int32)), .val (.int (5 : Int32)), .val (.int d4)] [(.int d3), (.ref o314), (.ref b311)])
    refine own_iaload X351 hx hZ e351 V348 (i := d3.toInt.toNat) (by omega) (by omega) (hb hby d1_120) ?_
    intro v353 hv353
    have r353 := rng32 v353
    show ORun p e below s _ _ _ T351 (mkF m 121 #[.val (.ref a1), .val (.int (3 : Int32)), .val (.ref a2), .val (.ref o314), .val (.int (3 : Int32)), .val (.int (5 : Int32)), .val (.int d4)] [(.int v353), (.ref b311)])
    have mp354 : v353 = own_pos 3 [d0, d1, d2, d3, d4] 3 := by rw [hv353, mN349]; show _ = (own_N 3 [d0, d1, d2, d3, d4] 3).getD (([d0, d1, d2, d3, d4] : List Int32).getD 3 0).toInt.toNat 0; rfl
    have bp354 := own_Ppos PP 3 (by decide)
    rw [← mp354] at bp354
    refine own_by (fun t k => XS.iload X351.here hx rfl (hb hby d1_121) rfl k) ?_
    show ORun p e below s _ _ _ T351 (mkF m 123 #[.val (.ref a1), .val (.int (3 : Int32)), .val (.ref a2), .val (.ref o314), .val (.int (3 : Int32)), .val (.int (5 : Int32)), .val (.int d4)] [(.int (3 : Int32)), (.int v353), (.ref b311)])
    refine own_iastore X351 hx hZ e351 fz350_6 (i := v353.toInt.toNat) (by omega) (by omega) (hb hby d1_123) ?_
    intro T355 h355 L355 X355 e355 W355 hL355 V355
    have len355 : L355.length = 5 := by rw [hL355, List.length_set]; exact len343
    have N355 := Fr.snoc X355 N348 old_b311
    show ORun p e below s _ _ _ T355 (mkF m 124 #[.val (.ref a1), .val (.int (3 : Int32)), .val (.ref a2), .val (.ref o314), .val (.int (3 : Int32)), .val (.int (5 : Int32)), .val (.int d4)] [])
    have mF356 : L355 = own_Dk 3 [d0, d1, d2, d3, d4] 4 := by rw [hL355, mp354, mF344]; show _ = (own_Dk 3 [d0, d1, d2, d3, d4] 3).set (own_pos 3 [d0, d1, d2, d3, d4] 3).toInt.toNat (Int32.ofNat 3); rfl
    refine own_by (fun t k => XS.aloadN X355.here hx rfl (hb hby d1_124) rfl rfl k) ?_
    show ORun p e below s _ _ _ T355 (mkF m 125 #[.val (.ref a1), .val (.int (3 : Int32)), .val (.ref a2), .val (.ref o314), .val (.int (3 : Int32)), .val (.int (5 : Int32)), .val (.int d4)] [(.ref o314)])
    refine own_by (fun t k => XS.aloadN X355.here hx rfl (hb hby d1_125) rfl rfl k) ?_
    show ORun p e below s _ _ _ T355 (mkF m 126 #[.val (.ref a1), .val (.int (3 : Int32)), .val (.ref a2), .val (.ref o314), .val (.int (3 : Int32)), .val (.int (5 : Int32)), .val (.int d4)] [(.ref a2), (.ref o314)])
    refine own_by (fun t k => XS.iload X355.here hx rfl (hb hby d1_126) rfl k) ?_
    show ORun p e below s _ _ _ T355 (mkF m 128 #[.val (.ref a1), .val (.int (3 : Int32)), .val (.ref a2), .val (.ref o314), .val (.int (3 : Int32)), .val (.int (5 : Int32)), .val (.int d4)] [(.int (3 : Int32)), (.ref a2), (.ref o314)])
    refine own_iaload X355 hx hZ e355 (fz350_3.other W355 ne_a2_b311) (i := 3) (by decide) (by omega) (hb hby d1_128) ?_
    intro v357 hv357
    obtain rfl : d3 = v357 := hv357.symm
    show ORun p e below s _ _ _ T355 (mkF m 129 #[.val (.ref a1), .val (.int (3 : Int32)), .val (.ref a2), .val (.ref o314), .val (.int (3 : Int32)), .val (.int (5 : Int32)), .val (.int d4)] [(.int d3), (.ref o314)])
    refine own_by (fun t k => XT.dup2 X355.here hx rfl (hb hby d1_129) rfl rfl rfl k) ?_
    show ORun p e below s _ _ _ T355 (mkF m 130 #[.val (.ref a1), .val (.int (3 : Int32)), .val (.ref a2), .val (.ref o314), .val (.int (3 : Int32)), .val (.int (5 : Int32)), .val (.int d4)] [(.int d3), (.ref o314), (.int d3), (.ref o314)])
    refine own_iaload X355 hx hZ e355 (V348.other W355 (Ne.symm ne_b311_o314)) (i := d3.toInt.toNat) (by omega) (by omega) (hb hby d1_130) ?_
    intro v358 hv358
    have r358 := rng32 v358
    show ORun p e below s _ _ _ T355 (mkF m 131 #[.val (.ref a1), .val (.int (3 : Int32)), .val (.ref a2), .val (.ref o314), .val (.int (3 : Int32)), .val (.int (5 : Int32)), .val (.int d4)] [(.int v358), (.int d3), (.ref o314)])
    refine own_by (fun t k => XS.iconst X355.here hx rfl (hb hby d1_131) k) ?_
    show ORun p e below s _ _ _ T355 (mkF m 132 #[.val (.ref a1), .val (.int (3 : Int32)), .val (.ref a2), .val (.ref o314), .val (.int (3 : Int32)), .val (.int (5 : Int32)), .val (.int d4)] [(.int (1 : Int32)), (.int v358), (.int d3), (.ref o314)])
    refine own_by (fun t k => XS.iadd X355.here hx rfl (hb hby d1_132) rfl k) (own_letI (f := (fun z => (mkF m 133 #[.val (.ref a1), .val (.int (3 : Int32)), .val (.ref a2), .val (.ref o314), .val (.int (3 : Int32)), .val (.int (5 : Int32)), .val (.int d4)] [(.int z), (.int d3), (.ref o314)]))) (v358 + (1 : Int32)) fun v359 hv359 => ?_)
    show ORun p e below s _ _ _ T355 (mkF m 133 #[.val (.ref a1), .val (.int (3 : Int32)), .val (.ref a2), .val (.ref o314), .val (.int (3 : Int32)), .val (.int (5 : Int32)), .val (.int d4)] [(.int v359), (.int d3), (.ref o314)])
    have a359a : (v359.toInt - (v358.toInt + 1)) % 4294967296 = 0 := by rw [hv359]; exact c_iadd v358 (1 : Int32)
    have r359 := rng32 v359
    refine own_iastore X355 hx hZ e355 (V348.other W355 (Ne.symm ne_b311_o314)) (i := d3.toInt.toNat) (by omega) (by omega) (hb hby d1_133) ?_
    intro T360 h360 L360 X360 e360 W360 hL360 V360
    have len360 : L360.length = 3 := by rw [hL360, List.length_set]; exact len348
    have N360 := Fr.snoc X360 N355 old_o314
    show ORun p e below s _ _ _ T360 (mkF m 134 #[.val (.ref a1), .val (.int (3 : Int32)), .val (.ref a2), .val (.ref o314), .val (.int (3 : Int32)), .val (.int (5 : Int32)), .val (.int d4)] [])
    have mN361 : L360 = own_N 3 [d0, d1, d2, d3, d4] 4 := by rw [hL360, hv359, hv358, mN349]; show _ = (own_N 3 [d0, d1, d2, d3, d4] 3).set (([d0, d1, d2, d3, d4] : List Int32).getD 3 0).toInt.toNat ((own_N 3 [d0, d1, d2, d3, d4] 3).getD (([d0, d1, d2, d3, d4] : List Int32).getD 3 0).toInt.toNat 0 + 1); rfl
    clear r353 bp354 r358 a359a r359
    have Kz362 : Keep h0 h360 [a1] := ((((Keep.refl h0 [a1]).trans Kz350 (allS (Or.inl (List.mem_of_getElem? (i := 0) rfl)) all0)).wr W355 (Or.inr sz_b311)).wr W360 (Or.inr sz_o314))
    have fz362_0 := ((fz350_0.wr W355).wr W360)
    have fz362_1 := ((fz350_1.other W355 (Or.inl ne_a1_b311)).other W360 (Or.inl ne_a1_o314))
    have fz362_2 := ((fz350_2.other W355 (Or.inl ne_a1_b311)).other W360 (Or.inl ne_a1_o314))
    have fz362_3 := ((fz350_3.other W355 ne_a2_b311).other W360 ne_a2_o314)
    have fz362_4 := ((fz350_4.other W355 ne_b244_b311).other W360 ne_b244_o314)
    have fz362_5 := ((fz350_5.wr W355).wr W360)
    have fz362_6 := (V355.other W360 ne_b311_o314)
    have fz362_7 := ((fz350_7.wr W355).wr W360)
    refine own_by (fun t k => XS.iinc X360.here hx rfl (hb hby d1_134) rfl (l' := #[.val (.ref a1), .val (.int (3 : Int32)), .val (.ref a2), .val (.ref o314), .val (.int (4 : Int32)), .val (.int (5 : Int32)), .val (.int d4)]) rfl k) ?_
    show ORun p e below s _ _ _ T360 (mkF m 137 #[.val (.ref a1), .val (.int (3 : Int32)), .val (.ref a2), .val (.ref o314), .val (.int (4 : Int32)), .val (.int (5 : Int32)), .val (.int d4)] [])
    refine own_by (fun t k => XS.goto X360.here hx rfl (pc0 := 137) (pc' := 104) rfl (hb hby d1_137) (by decide) (by decide) k) ?_
    show ORun p e below s _ _ _ T360 (mkF m 104 #[.val (.ref a1), .val (.int (3 : Int32)), .val (.ref a2), .val (.ref o314), .val (.int (4 : Int32)), .val (.int (5 : Int32)), .val (.int d4)] [])
    refine own_by (fun t k => XS.iload X360.here hx rfl (hb hby d1_104) rfl k) ?_
    show ORun p e below s _ _ _ T360 (mkF m 106 #[.val (.ref a1), .val (.int (3 : Int32)), .val (.ref a2), .val (.ref o314), .val (.int (4 : Int32)), .val (.int (5 : Int32)), .val (.int d4)] [(.int (4 : Int32))])
    refine own_by (fun t k => XS.aloadN X360.here hx rfl (hb hby d1_106) rfl rfl k) ?_
    show ORun p e below s _ _ _ T360 (mkF m 107 #[.val (.ref a1), .val (.int (3 : Int32)), .val (.ref a2), .val (.ref o314), .val (.int (4 : Int32)), .val (.int (5 : Int32)), .val (.int d4)] [(.ref a2), (.int (4 : Int32))])
    refine own_len X360 hx hZ e360 fz362_3 (n := 5) lds (hb hby d1_107) ?_
    show ORun p e below s _ _ _ T360 (mkF m 108 #[.val (.ref a1), .val (.int (3 : Int32)), .val (.ref a2), .val (.ref o314), .val (.int (4 : Int32)), .val (.int (5 : Int32)), .val (.int d4)] [(.int (5 : Int32)), (.int (4 : Int32))])
    refine own_by (fun t k => XS.icmpNo X360.here hx rfl (hb hby d1_108) rfl (tlt (by decide)).2.1 k) ?_
    show ORun p e below s _ _ _ T360 (mkF m 111 #[.val (.ref a1), .val (.int (3 : Int32)), .val (.ref a2), .val (.ref o314), .val (.int (4 : Int32)), .val (.int (5 : Int32)), .val (.int d4)] [])
    refine own_by (fun t k => XS.aloadN X360.here hx rfl (hb hby d1_111) rfl rfl k) ?_
    show ORun p e below s _ _ _ T360 (mkF m 112 #[.val (.ref a1), .val (.int (3 : Int32)), .val (.ref a2), .val (.ref o314), .val (.int (4 : Int32)), .val (.int (5 : Int32)), .val (.int d4)] [(.ref a1)])
    obtain ⟨T363, X363, e363, st363⟩ := getF X360 hx hZ hown (host := "") (Or.inl (hw _ (List.mem_of_getElem? (i := 14) rfl))) Via.refl e360 fz362_2 (g := (mkF m 112 #[.val (.ref a1), .val (.int (3 : Int32)), .val (.ref a2), .val (.ref o314), .val (.int (4 : Int32)), .val (.int (5 : Int32)), .val (.int d4)] [(.ref a1)])) rfl rfl (hb hby d1_112)
    refine own_by st363 ?_
    show ORun p e below s _ _ _ T363 (mkF m 115 #[.val (.ref a1), .val (.int (3 : Int32)), .val (.ref a2), .val (.ref o314), .val (.int (4 : Int32)), .val (.int (5 : Int32)), .val (.int d4)] [(.ref b311)])
    refine own_by (fun t k => XS.aloadN X363.here hx rfl (hb hby d1_115) rfl rfl k) ?_
    show ORun p e below s _ _ _ T363 (mkF m 116 #[.val (.ref a1), .val (.int (3 : Int32)), .val (.ref a2), .val (.ref o314), .val (.int (4 : Int32)), .val (.int (5 : Int32)), .val (.int d4)] [(.ref o314), (.ref b311)])
    refine own_by (fun t k => XS.aloadN X363.here hx rfl (hb hby d1_116) rfl rfl k) ?_
    show ORun p e below s _ _ _ T363 (mkF m 117 #[.val (.ref a1), .val (.int (3 : Int32)), .val (.ref a2), .val (.ref o314), .val (.int (4 : Int32)), .val (.int (5 : Int32)), .val (.int d4)] [(.ref a2), (.ref o314), (.ref b311)])
    refine own_by (fun t k => XS.iload X363.here hx rfl (hb hby d1_117) rfl k) ?_
    show ORun p e below s _ _ _ T363 (mkF m 119 #[.val (.ref a1), .val (.int (3 : Int32)), .val (.ref a2), .val (.ref o314), .val (.int (4 : Int32)), .val (.int (5 : Int32)), .val (.int d4)] [(.int (4 : Int32)), (.ref a2), (.ref o314), (.ref b311)])
    refine own_iaload X363 hx hZ e363 fz362_3 (i := 4) (by decide) (by omega) (hb hby d1_119) ?_
    intro v364 hv364
    obtain rfl : d4 = v364 := hv364.symm
    show ORun p e below s _ _ _ T363 (mkF m 120 #[.val (.ref a1), .val (.int (3 : Int32)), .val (.ref a2), .val (.ref o314), .val (.int (4 : Int32)), .val (.int (5 : Int32)), .val (.int d4)] [(.int d4), (.ref o314), (.ref b311)])
    refine own_iaload X363 hx hZ e363 V360 (i := d4.toInt.toNat) (by omega) (by omega) (hb hby d1_120) ?_
    intro v365 hv365
    have r365 := rng32 v365
    show ORun p e below s _ _ _ T363 (mkF m 121 #[.val (.ref a1), .val (.int (3 : Int32)), .val (.ref a2), .val (.ref o314), .val (.int (4 : Int32)), .val (.int (5 : Int32)), .val (.int d4)] [(.int v365), (.ref b311)])
    have mp366 : v365 = own_pos 3 [d0, d1, d2, d3, d4] 4 := by rw [hv365, mN361]; show _ = (own_N 3 [d0, d1, d2, d3, d4] 4).getD (([d0, d1, d2, d3, d4] : List Int32).getD 4 0).toInt.toNat 0; rfl
    have bp366 := own_Ppos PP 4 (by decide)
    rw [← mp366] at bp366
    refine own_by (fun t k => XS.iload X363.here hx rfl (hb hby d1_121) rfl k) ?_
    show ORun p e below s _ _ _ T363 (mkF m 123 #[.val (.ref a1), .val (.int (3 : Int32)), .val (.ref a2), .val (.ref o314), .val (.int (4 : Int32)), .val (.int (5 : Int32)), .val (.int d4)] [(.int (4 : Int32)), (.int v365), (.ref b311)])
    refine own_iastore X363 hx hZ e363 fz362_6 (i := v365.toInt.toNat) (by omega) (by omega) (hb hby d1_123) ?_
    intro T367 h367 L367 X367 e367 W367 hL367 V367
    have len367 : L367.length = 5 := by rw [hL367, List.length_set]; exact len355
    have N367 := Fr.snoc X367 N360 old_b311
    show ORun p e below s _ _ _ T367 (mkF m 124 #[.val (.ref a1), .val (.int (3 : Int32)), .val (.ref a2), .val (.ref o314), .val (.int (4 : Int32)), .val (.int (5 : Int32)), .val (.int d4)] [])
    have mF368 : L367 = own_Dk 3 [d0, d1, d2, d3, d4] 5 := by rw [hL367, mp366, mF356]; show _ = (own_Dk 3 [d0, d1, d2, d3, d4] 4).set (own_pos 3 [d0, d1, d2, d3, d4] 4).toInt.toNat (Int32.ofNat 4); rfl
    refine own_by (fun t k => XS.aloadN X367.here hx rfl (hb hby d1_124) rfl rfl k) ?_
    show ORun p e below s _ _ _ T367 (mkF m 125 #[.val (.ref a1), .val (.int (3 : Int32)), .val (.ref a2), .val (.ref o314), .val (.int (4 : Int32)), .val (.int (5 : Int32)), .val (.int d4)] [(.ref o314)])
    refine own_by (fun t k => XS.aloadN X367.here hx rfl (hb hby d1_125) rfl rfl k) ?_
    show ORun p e below s _ _ _ T367 (mkF m 126 #[.val (.ref a1), .val (.int (3 : Int32)), .val (.ref a2), .val (.ref o314), .val (.int (4 : Int32)), .val (.int (5 : Int32)), .val (.int d4)] [(.ref a2), (.ref o314)])
    refine own_by (fun t k => XS.iload X367.here hx rfl (hb hby d1_126) rfl k) ?_
    show ORun p e below s _ _ _ T367 (mkF m 128 #[.val (.ref a1), .val (.int (3 : Int32)), .val (.ref a2), .val (.ref o314), .val (.int (4 : Int32)), .val (.int (5 : Int32)), .val (.int d4)] [(.int (4 : Int32)), (.ref a2), (.ref o314)])
    refine own_iaload X367 hx hZ e367 (fz362_3.other W367 ne_a2_b311) (i := 4) (by decide) (by omega) (hb hby d1_128) ?_
    intro v369 hv369
    obtain rfl : d4 = v369 := hv369.symm
    show ORun p e below s _ _ _ T367 (mkF m 129 #[.val (.ref a1), .val (.int (3 : Int32)), .val (.ref a2), .val (.ref o314), .val (.int (4 : Int32)), .val (.int (5 : Int32)), .val (.int d4)] [(.int d4), (.ref o314)])
    refine own_by (fun t k => XT.dup2 X367.here hx rfl (hb hby d1_129) rfl rfl rfl k) ?_
    show ORun p e below s _ _ _ T367 (mkF m 130 #[.val (.ref a1), .val (.int (3 : Int32)), .val (.ref a2), .val (.ref o314), .val (.int (4 : Int32)), .val (.int (5 : Int32)), .val (.int d4)] [(.int d4), (.ref o314), (.int d4), (.ref o314)])
    refine own_iaload X367 hx hZ e367 (V360.other W367 (Ne.symm ne_b311_o314)) (i := d4.toInt.toNat) (by omega) (by omega) (hb hby d1_130) ?_
    intro v370 hv370
    have r370 := rng32 v370
    show ORun p e below s _ _ _ T367 (mkF m 131 #[.val (.ref a1), .val (.int (3 : Int32)), .val (.ref a2), .val (.ref o314), .val (.int (4 : Int32)), .val (.int (5 : Int32)), .val (.int d4)] [(.int v370), (.int d4), (.ref o314)])
    refine own_by (fun t k => XS.iconst X367.here hx rfl (hb hby d1_131) k) ?_
    show ORun p e below s _ _ _ T367 (mkF m 132 #[.val (.ref a1), .val (.int (3 : Int32)), .val (.ref a2), .val (.ref o314), .val (.int (4 : Int32)), .val (.int (5 : Int32)), .val (.int d4)] [(.int (1 : Int32)), (.int v370), (.int d4), (.ref o314)])
    refine own_by (fun t k => XS.iadd X367.here hx rfl (hb hby d1_132) rfl k) (own_letI (f := (fun z => (mkF m 133 #[.val (.ref a1), .val (.int (3 : Int32)), .val (.ref a2), .val (.ref o314), .val (.int (4 : Int32)), .val (.int (5 : Int32)), .val (.int d4)] [(.int z), (.int d4), (.ref o314)]))) (v370 + (1 : Int32)) fun v371 hv371 => ?_)
    show ORun p e below s _ _ _ T367 (mkF m 133 #[.val (.ref a1), .val (.int (3 : Int32)), .val (.ref a2), .val (.ref o314), .val (.int (4 : Int32)), .val (.int (5 : Int32)), .val (.int d4)] [(.int v371), (.int d4), (.ref o314)])
    have a371a : (v371.toInt - (v370.toInt + 1)) % 4294967296 = 0 := by rw [hv371]; exact c_iadd v370 (1 : Int32)
    have r371 := rng32 v371
    refine own_iastore X367 hx hZ e367 (V360.other W367 (Ne.symm ne_b311_o314)) (i := d4.toInt.toNat) (by omega) (by omega) (hb hby d1_133) ?_
    intro T372 h372 L372 X372 e372 W372 hL372 V372
    have len372 : L372.length = 3 := by rw [hL372, List.length_set]; exact len360
    have N372 := Fr.snoc X372 N367 old_o314
    show ORun p e below s _ _ _ T372 (mkF m 134 #[.val (.ref a1), .val (.int (3 : Int32)), .val (.ref a2), .val (.ref o314), .val (.int (4 : Int32)), .val (.int (5 : Int32)), .val (.int d4)] [])
    have mN373 : L372 = own_N 3 [d0, d1, d2, d3, d4] 5 := by rw [hL372, hv371, hv370, mN361]; show _ = (own_N 3 [d0, d1, d2, d3, d4] 4).set (([d0, d1, d2, d3, d4] : List Int32).getD 4 0).toInt.toNat ((own_N 3 [d0, d1, d2, d3, d4] 4).getD (([d0, d1, d2, d3, d4] : List Int32).getD 4 0).toInt.toNat 0 + 1); rfl
    clear r365 bp366 r370 a371a r371
    have Kz374 : Keep h0 h372 [a1] := ((((Keep.refl h0 [a1]).trans Kz362 (allS (Or.inl (List.mem_of_getElem? (i := 0) rfl)) all0)).wr W367 (Or.inr sz_b311)).wr W372 (Or.inr sz_o314))
    have fz374_0 := ((fz362_0.wr W367).wr W372)
    have fz374_1 := ((fz362_1.other W367 (Or.inl ne_a1_b311)).other W372 (Or.inl ne_a1_o314))
    have fz374_2 := ((fz362_2.other W367 (Or.inl ne_a1_b311)).other W372 (Or.inl ne_a1_o314))
    have fz374_3 := ((fz362_3.other W367 ne_a2_b311).other W372 ne_a2_o314)
    have fz374_4 := ((fz362_4.other W367 ne_b244_b311).other W372 ne_b244_o314)
    have fz374_5 := ((fz362_5.wr W367).wr W372)
    have fz374_6 := (V367.other W372 ne_b311_o314)
    have fz374_7 := ((fz362_7.wr W367).wr W372)
    refine own_by (fun t k => XS.iinc X372.here hx rfl (hb hby d1_134) rfl (l' := #[.val (.ref a1), .val (.int (3 : Int32)), .val (.ref a2), .val (.ref o314), .val (.int (5 : Int32)), .val (.int (5 : Int32)), .val (.int d4)]) rfl k) ?_
    show ORun p e below s _ _ _ T372 (mkF m 137 #[.val (.ref a1), .val (.int (3 : Int32)), .val (.ref a2), .val (.ref o314), .val (.int (5 : Int32)), .val (.int (5 : Int32)), .val (.int d4)] [])
    refine own_by (fun t k => XS.goto X372.here hx rfl (pc0 := 137) (pc' := 104) rfl (hb hby d1_137) (by decide) (by decide) k) ?_
    show ORun p e below s _ _ _ T372 (mkF m 104 #[.val (.ref a1), .val (.int (3 : Int32)), .val (.ref a2), .val (.ref o314), .val (.int (5 : Int32)), .val (.int (5 : Int32)), .val (.int d4)] [])
    refine own_by (fun t k => XS.iload X372.here hx rfl (hb hby d1_104) rfl k) ?_
    show ORun p e below s _ _ _ T372 (mkF m 106 #[.val (.ref a1), .val (.int (3 : Int32)), .val (.ref a2), .val (.ref o314), .val (.int (5 : Int32)), .val (.int (5 : Int32)), .val (.int d4)] [(.int (5 : Int32))])
    refine own_by (fun t k => XS.aloadN X372.here hx rfl (hb hby d1_106) rfl rfl k) ?_
    show ORun p e below s _ _ _ T372 (mkF m 107 #[.val (.ref a1), .val (.int (3 : Int32)), .val (.ref a2), .val (.ref o314), .val (.int (5 : Int32)), .val (.int (5 : Int32)), .val (.int d4)] [(.ref a2), (.int (5 : Int32))])
    refine own_len X372 hx hZ e372 fz374_3 (n := 5) lds (hb hby d1_107) ?_
    show ORun p e below s _ _ _ T372 (mkF m 108 #[.val (.ref a1), .val (.int (3 : Int32)), .val (.ref a2), .val (.ref o314), .val (.int (5 : Int32)), .val (.int (5 : Int32)), .val (.int d4)] [(.int (5 : Int32)), (.int (5 : Int32))])
    refine own_by (fun t k => XS.icmpYes X372.here hx rfl (pc0 := 108) (pc' := 140) rfl (hb hby d1_108) rfl (flt (by decide)).2.1 (by decide) (by decide) k) ?_
    show ORun p e below s _ _ _ T372 (mkF m 140 #[.val (.ref a1), .val (.int (3 : Int32)), .val (.ref a2), .val (.ref o314), .val (.int (5 : Int32)), .val (.int (5 : Int32)), .val (.int d4)] [])
    refine own_retV X372 hx hret hlk (hb hby d1_140) (by decide) (by decide) ?_
    have mD375 : L367 = own_D 3 [d0, d1, d2, d3, d4] := mF368
    rw [e372]
    refine ⟨rfl, N372, ((Keep.refl h0 [a1]).trans Kz374 (allS (Or.inl (List.mem_of_getElem? (i := 0) rfl)) all0)), b244, b311, 3, L307, L367, fz374_0, fz374_1, fz374_2, fz374_4, len307, fz374_6, len367, fz374_7, by decide, ?_⟩
    intro q hq
    have z := own_Psel PP q hq
    rw [mS310, mD375]
    exact z
  · have z4 : (4 : Int32).toInt = 4 := by decide
    rw [hp2] at hb0 hb1 hb2 hb3 hb4
    have PP := own_PP (s := 4) (by omega) (a := d0) (b := d1) (c := d2) (d := d3) (e := d4) (by omega) (by omega) (by omega) (by omega) (by omega)
    subst hp2
    show ORun p e below s _ _ _ s₁ (mkF m 0 #[.val (.ref a1), .val (.int (4 : Int32)), .val (.ref a2), .unset, .unset, .unset, .unset] [])
    refine own_by (fun t k => XS.aloadN X0.here hx rfl (hb hby d1_0) rfl rfl k) ?_
    show ORun p e below s _ _ _ s₁ (mkF m 1 #[.val (.ref a1), .val (.int (4 : Int32)), .val (.ref a2), .unset, .unset, .unset, .unset] [(.ref a1)])
    obtain ⟨T376, X376, e376, st376⟩ := initO X0 hx hZ hown (hw _ (List.mem_of_getElem? (i := 9) rfl)) (hw _ (List.mem_of_getElem? (i := 10) rfl)) (hw _ (List.mem_of_getElem? (i := 11) rfl)) e0 (g := (mkF m 1 #[.val (.ref a1), .val (.int (4 : Int32)), .val (.ref a2), .unset, .unset, .unset, .unset] [(.ref a1)])) rfl (by rw [hml]; rfl) rfl (hb hby d1_1) (by decide) (W := 0) (by show 2 * 0 + _ ≤ _; exact Nat.le_of_eq rfl) (by decide)
    refine own_by st376 ?_
    show ORun p e below s _ _ _ T376 (mkF m 4 #[.val (.ref a1), .val (.int (4 : Int32)), .val (.ref a2), .unset, .unset, .unset, .unset] [])
    refine own_by (fun t k => XS.aloadN X376.here hx rfl (hb hby d1_4) rfl rfl k) ?_
    show ORun p e below s _ _ _ T376 (mkF m 5 #[.val (.ref a1), .val (.int (4 : Int32)), .val (.ref a2), .unset, .unset, .unset, .unset] [(.ref a1)])
    refine own_by (fun t k => XS.iloadN X376.here hx rfl (hb hby d1_5) rfl k) ?_
    show ORun p e below s _ _ _ T376 (mkF m 6 #[.val (.ref a1), .val (.int (4 : Int32)), .val (.ref a2), .unset, .unset, .unset, .unset] [(.int (4 : Int32)), (.ref a1)])
    refine own_by (fun t k => XS.iconst X376.here hx rfl (hb hby d1_6) k) ?_
    show ORun p e below s _ _ _ T376 (mkF m 7 #[.val (.ref a1), .val (.int (4 : Int32)), .val (.ref a2), .unset, .unset, .unset, .unset] [(.int (1 : Int32)), (.int (4 : Int32)), (.ref a1)])
    refine own_by (fun t k => XS.iadd X376.here hx rfl (hb hby d1_7) rfl k) ?_
    show ORun p e below s _ _ _ T376 (mkF m 8 #[.val (.ref a1), .val (.int (4 : Int32)), .val (.ref a2), .unset, .unset, .unset, .unset] [(.int (5 : Int32)), (.ref a1)])
    refine own_newarray X376 hx hZ (aty := .int) (hw _ (List.mem_of_getElem? (i := 1) rfl)) e376 rfl (N := 5) (cap := 5) (by decide) (Nat.le_refl _) (by decide) (by decide) (by decide) (ad := "[I") (by decide) (hb hby d1_8) ?_
    intro T377 h377 b377 L377 g377 X377 e377 E377 hL377 V377 Ex377
    have len377 : L377.length = 5 := by rw [hL377]; exact List.length_replicate
    have old_b377 : n0 ≤ b377 := Nat.le_trans Z0 (Nat.le_of_eq g377.symm)
    have sz_b377 : h0.size ≤ b377 := Nat.le_trans (Nat.le_refl h0.size) (Nat.le_of_eq g377.symm)
    have ne_a1_b377 : a1 ≠ b377 := Nat.ne_of_lt (Nat.lt_of_lt_of_le E_a1.lt (Nat.le_of_eq g377.symm))
    have ne_a2_b377 : a2 ≠ b377 := Nat.ne_of_lt (Nat.lt_of_lt_of_le VA2.lt (Nat.le_of_eq g377.symm))
    show ORun p e below s _ _ _ T377 (mkF m 10 #[.val (.ref a1), .val (.int (4 : Int32)), .val (.ref a2), .unset, .unset, .unset, .unset] [(.ref b377), (.ref a1)])
    obtain ⟨T378, h378, X378, e378, W378, st378⟩ := putF X377 hx hZ hown (host := "") (Or.inl (hw _ (List.mem_of_getElem? (i := 12) rfl))) Via.refl e377 (F_starts_a1.ext E377) (E_a1.ext E377) (Or.inr ⟨(hw _ (List.mem_of_getElem? (i := 13) rfl)), rfl, hnm⟩) (hw _ (List.mem_of_getElem? (i := 4) rfl)) (ty := (.array .int)) (by decide) rfl rfl (g := (mkF m 10 #[.val (.ref a1), .val (.int (4 : Int32)), .val (.ref a2), .unset, .unset, .unset, .unset] [(.ref b377), (.ref a1)])) rfl rfl (hb hby d1_10)
    have Fw378 := Fld.same W378 (F_starts_a1.ext E377)
    have N378 := Fr.snoc X378 N0 g_a1
    refine own_by st378 ?_
    show ORun p e below s _ _ _ T378 (mkF m 13 #[.val (.ref a1), .val (.int (4 : Int32)), .val (.ref a2), .unset, .unset, .unset, .unset] [])
    refine own_by (fun t k => XS.aloadN X378.here hx rfl (hb hby d1_13) rfl rfl k) ?_
    show ORun p e below s _ _ _ T378 (mkF m 14 #[.val (.ref a1), .val (.int (4 : Int32)), .val (.ref a2), .unset, .unset, .unset, .unset] [(.ref a2)])
    refine own_by (fun t k => XS.astoreN X378.here hx rfl (hb hby d1_14) rfl rfl (l' := #[.val (.ref a1), .val (.int (4 : Int32)), .val (.ref a2), .val (.ref a2), .unset, .unset, .unset]) rfl k) ?_
    show ORun p e below s _ _ _ T378 (mkF m 15 #[.val (.ref a1), .val (.int (4 : Int32)), .val (.ref a2), .val (.ref a2), .unset, .unset, .unset] [])
    refine own_by (fun t k => XS.aloadN X378.here hx rfl (hb hby d1_15) rfl rfl k) ?_
    show ORun p e below s _ _ _ T378 (mkF m 16 #[.val (.ref a1), .val (.int (4 : Int32)), .val (.ref a2), .val (.ref a2), .unset, .unset, .unset] [(.ref a2)])
    refine own_len X378 hx hZ e378 ((VA2.ext E377).other W378 (Ne.symm ne12)) (n := 5) lds (hb hby d1_16) ?_
    show ORun p e below s _ _ _ T378 (mkF m 17 #[.val (.ref a1), .val (.int (4 : Int32)), .val (.ref a2), .val (.ref a2), .unset, .unset, .unset] [(.int (5 : Int32))])
    refine own_by (fun t k => XS.istore X378.here hx rfl (hb hby d1_17) rfl (l' := #[.val (.ref a1), .val (.int (4 : Int32)), .val (.ref a2), .val (.ref a2), .val (.int (5 : Int32)), .unset, .unset]) rfl k) ?_
    show ORun p e below s _ _ _ T378 (mkF m 19 #[.val (.ref a1), .val (.int (4 : Int32)), .val (.ref a2), .val (.ref a2), .val (.int (5 : Int32)), .unset, .unset] [])
    refine own_by (fun t k => XS.iconst X378.here hx rfl (hb hby d1_19) k) ?_
    show ORun p e below s _ _ _ T378 (mkF m 20 #[.val (.ref a1), .val (.int (4 : Int32)), .val (.ref a2), .val (.ref a2), .val (.int (5 : Int32)), .unset, .unset] [(.int (0 : Int32))])
    refine own_by (fun t k => XS.istore X378.here hx rfl (hb hby d1_20) rfl (l' := #[.val (.ref a1), .val (.int (4 : Int32)), .val (.ref a2), .val (.ref a2), .val (.int (5 : Int32)), .val (.int (0 : Int32)), .unset]) rfl k) ?_
    show ORun p e below s _ _ _ T378 (mkF m 22 #[.val (.ref a1), .val (.int (4 : Int32)), .val (.ref a2), .val (.ref a2), .val (.int (5 : Int32)), .val (.int (0 : Int32)), .unset] [])
    refine own_by (fun t k => XS.iload X378.here hx rfl (hb hby d1_22) rfl k) ?_
    show ORun p e below s _ _ _ T378 (mkF m 24 #[.val (.ref a1), .val (.int (4 : Int32)), .val (.ref a2), .val (.ref a2), .val (.int (5 : Int32)), .val (.int (0 : Int32)), .unset] [(.int (0 : Int32))])
    refine own_by (fun t k => XS.iload X378.here hx rfl (hb hby d1_24) rfl k) ?_
    show ORun p e below s _ _ _ T378 (mkF m 26 #[.val (.ref a1), .val (.int (4 : Int32)), .val (.ref a2), .val (.ref a2), .val (.int (5 : Int32)), .val (.int (0 : Int32)), .unset] [(.int (5 : Int32)), (.int (0 : Int32))])
    refine own_by (fun t k => XS.icmpNo X378.here hx rfl (hb hby d1_26) rfl (tlt (by decide)).2.1 k) ?_
    show ORun p e below s _ _ _ T378 (mkF m 29 #[.val (.ref a1), .val (.int (4 : Int32)), .val (.ref a2), .val (.ref a2), .val (.int (5 : Int32)), .val (.int (0 : Int32)), .unset] [])
    refine own_by (fun t k => XS.aloadN X378.here hx rfl (hb hby d1_29) rfl rfl k) ?_
    show ORun p e below s _ _ _ T378 (mkF m 30 #[.val (.ref a1), .val (.int (4 : Int32)), .val (.ref a2), .val (.ref a2), .val (.int (5 : Int32)), .val (.int (0 : Int32)), .unset] [(.ref a2)])
    refine own_by (fun t k => XS.iload X378.here hx rfl (hb hby d1_30) rfl k) ?_
    show ORun p e below s _ _ _ T378 (mkF m 32 #[.val (.ref a1), .val (.int (4 : Int32)), .val (.ref a2), .val (.ref a2), .val (.int (5 : Int32)), .val (.int (0 : Int32)), .unset] [(.int (0 : Int32)), (.ref a2)])
    refine own_iaload X378 hx hZ e378 ((VA2.ext E377).other W378 (Ne.symm ne12)) (i := 0) (by decide) (by omega) (hb hby d1_32) ?_
    intro v379 hv379
    obtain rfl : d0 = v379 := hv379.symm
    show ORun p e below s _ _ _ T378 (mkF m 33 #[.val (.ref a1), .val (.int (4 : Int32)), .val (.ref a2), .val (.ref a2), .val (.int (5 : Int32)), .val (.int (0 : Int32)), .unset] [(.int d0)])
    refine own_by (fun t k => XS.istore X378.here hx rfl (hb hby d1_33) rfl (l' := #[.val (.ref a1), .val (.int (4 : Int32)), .val (.ref a2), .val (.ref a2), .val (.int (5 : Int32)), .val (.int (0 : Int32)), .val (.int d0)]) rfl k) ?_
    show ORun p e below s _ _ _ T378 (mkF m 35 #[.val (.ref a1), .val (.int (4 : Int32)), .val (.ref a2), .val (.ref a2), .val (.int (5 : Int32)), .val (.int (0 : Int32)), .val (.int d0)] [])
    refine own_by (fun t k => XS.aloadN X378.here hx rfl (hb hby d1_35) rfl rfl k) ?_
    show ORun p e below s _ _ _ T378 (mkF m 36 #[.val (.ref a1), .val (.int (4 : Int32)), .val (.ref a2), .val (.ref a2), .val (.int (5 : Int32)), .val (.int (0 : Int32)), .val (.int d0)] [(.ref a1)])
    obtain ⟨T380, X380, e380, st380⟩ := getF X378 hx hZ hown (host := "") (Or.inl (hw _ (List.mem_of_getElem? (i := 12) rfl))) Via.refl e378 Fw378 (g := (mkF m 36 #[.val (.ref a1), .val (.int (4 : Int32)), .val (.ref a2), .val (.ref a2), .val (.int (5 : Int32)), .val (.int (0 : Int32)), .val (.int d0)] [(.ref a1)])) rfl rfl (hb hby d1_36)
    refine own_by st380 ?_
    show ORun p e below s _ _ _ T380 (mkF m 39 #[.val (.ref a1), .val (.int (4 : Int32)), .val (.ref a2), .val (.ref a2), .val (.int (5 : Int32)), .val (.int (0 : Int32)), .val (.int d0)] [(.ref b377)])
    refine own_by (fun t k => XS.iload X380.here hx rfl (hb hby d1_39) rfl k) ?_
    show ORun p e below s _ _ _ T380 (mkF m 41 #[.val (.ref a1), .val (.int (4 : Int32)), .val (.ref a2), .val (.ref a2), .val (.int (5 : Int32)), .val (.int (0 : Int32)), .val (.int d0)] [(.int d0), (.ref b377)])
    refine own_by (fun t k => XS.iconst X380.here hx rfl (hb hby d1_41) k) ?_
    show ORun p e below s _ _ _ T380 (mkF m 42 #[.val (.ref a1), .val (.int (4 : Int32)), .val (.ref a2), .val (.ref a2), .val (.int (5 : Int32)), .val (.int (0 : Int32)), .val (.int d0)] [(.int (1 : Int32)), (.int d0), (.ref b377)])
    refine own_by (fun t k => XS.iadd X380.here hx rfl (hb hby d1_42) rfl k) (own_letI (f := (fun z => (mkF m 43 #[.val (.ref a1), .val (.int (4 : Int32)), .val (.ref a2), .val (.ref a2), .val (.int (5 : Int32)), .val (.int (0 : Int32)), .val (.int d0)] [(.int z), (.ref b377)]))) (d0 + (1 : Int32)) fun v381 hv381 => ?_)
    show ORun p e below s _ _ _ T380 (mkF m 43 #[.val (.ref a1), .val (.int (4 : Int32)), .val (.ref a2), .val (.ref a2), .val (.int (5 : Int32)), .val (.int (0 : Int32)), .val (.int d0)] [(.int v381), (.ref b377)])
    have r381 := rng32 v381
    have a381 : v381.toInt = d0.toInt + 1 := by
      have q : (v381.toInt - (d0.toInt + 1)) % 4294967296 = 0 := by rw [hv381]; exact c_iadd d0 (1 : Int32)
      omega
    refine own_by (fun t k => XT.dup2 X380.here hx rfl (hb hby d1_43) rfl rfl rfl k) ?_
    show ORun p e below s _ _ _ T380 (mkF m 44 #[.val (.ref a1), .val (.int (4 : Int32)), .val (.ref a2), .val (.ref a2), .val (.int (5 : Int32)), .val (.int (0 : Int32)), .val (.int d0)] [(.int v381), (.ref b377), (.int v381), (.ref b377)])
    refine own_iaload X380 hx hZ e380 (V377.other W378 (Ne.symm ne_a1_b377)) (i := v381.toInt.toNat) (by omega) (by omega) (hb hby d1_44) ?_
    intro v382 hv382
    have r382 := rng32 v382
    show ORun p e below s _ _ _ T380 (mkF m 45 #[.val (.ref a1), .val (.int (4 : Int32)), .val (.ref a2), .val (.ref a2), .val (.int (5 : Int32)), .val (.int (0 : Int32)), .val (.int d0)] [(.int v382), (.int v381), (.ref b377)])
    refine own_by (fun t k => XS.iconst X380.here hx rfl (hb hby d1_45) k) ?_
    show ORun p e below s _ _ _ T380 (mkF m 46 #[.val (.ref a1), .val (.int (4 : Int32)), .val (.ref a2), .val (.ref a2), .val (.int (5 : Int32)), .val (.int (0 : Int32)), .val (.int d0)] [(.int (1 : Int32)), (.int v382), (.int v381), (.ref b377)])
    refine own_by (fun t k => XS.iadd X380.here hx rfl (hb hby d1_46) rfl k) (own_letI (f := (fun z => (mkF m 47 #[.val (.ref a1), .val (.int (4 : Int32)), .val (.ref a2), .val (.ref a2), .val (.int (5 : Int32)), .val (.int (0 : Int32)), .val (.int d0)] [(.int z), (.int v381), (.ref b377)]))) (v382 + (1 : Int32)) fun v383 hv383 => ?_)
    show ORun p e below s _ _ _ T380 (mkF m 47 #[.val (.ref a1), .val (.int (4 : Int32)), .val (.ref a2), .val (.ref a2), .val (.int (5 : Int32)), .val (.int (0 : Int32)), .val (.int d0)] [(.int v383), (.int v381), (.ref b377)])
    have a383a : (v383.toInt - (v382.toInt + 1)) % 4294967296 = 0 := by rw [hv383]; exact c_iadd v382 (1 : Int32)
    have r383 := rng32 v383
    refine own_iastore X380 hx hZ e380 (V377.other W378 (Ne.symm ne_a1_b377)) (i := v381.toInt.toNat) (by omega) (by omega) (hb hby d1_47) ?_
    intro T384 h384 L384 X384 e384 W384 hL384 V384
    have len384 : L384.length = 5 := by rw [hL384, List.length_set]; exact len377
    have N384 := Fr.snoc X384 N378 old_b377
    show ORun p e below s _ _ _ T384 (mkF m 48 #[.val (.ref a1), .val (.int (4 : Int32)), .val (.ref a2), .val (.ref a2), .val (.int (5 : Int32)), .val (.int (0 : Int32)), .val (.int d0)] [])
    have mb385 : L384 = own_bump L377 d0 := by rw [hL384, hv383, hv382, hv381]; rfl
    clear a381 r381 r382 a383a r383
    have Kz386 : Keep h0 h384 [a1] := ((((Keep.refl h0 [a1]).ext E377).wr W378 (Or.inl (List.mem_of_getElem? (i := 0) rfl))).wr W384 (Or.inr sz_b377))
    have fz386_0 := (((E_a1.ext E377).wr W378).wr W384)
    have fz386_1 := (Fw378.other W384 (Or.inl ne_a1_b377))
    have fz386_2 := (((F_documents_a1.ext E377).other W378 (Or.inr (slot_ne (Or.inr (hw _ (List.mem_of_getElem? (i := 15) rfl))) (Or.inr (hw _ (List.mem_of_getElem? (i := 13) rfl))) (by decide) (t := (.array .int)) (t' := (.array .int)) (by decide) (by decide)))).other W384 (Or.inl ne_a1_b377))
    have fz386_3 := (((VA2.ext E377).other W378 (Ne.symm ne12)).other W384 ne_a2_b377)
    have fz386_5 := ((Ex377.wr W378).wr W384)
    refine own_by (fun t k => XS.iinc X384.here hx rfl (hb hby d1_48) rfl (l' := #[.val (.ref a1), .val (.int (4 : Int32)), .val (.ref a2), .val (.ref a2), .val (.int (5 : Int32)), .val (.int (1 : Int32)), .val (.int d0)]) rfl k) ?_
    show ORun p e below s _ _ _ T384 (mkF m 51 #[.val (.ref a1), .val (.int (4 : Int32)), .val (.ref a2), .val (.ref a2), .val (.int (5 : Int32)), .val (.int (1 : Int32)), .val (.int d0)] [])
    refine own_by (fun t k => XS.goto X384.here hx rfl (pc0 := 51) (pc' := 22) rfl (hb hby d1_51) (by decide) (by decide) k) ?_
    show ORun p e below s _ _ _ T384 (mkF m 22 #[.val (.ref a1), .val (.int (4 : Int32)), .val (.ref a2), .val (.ref a2), .val (.int (5 : Int32)), .val (.int (1 : Int32)), .val (.int d0)] [])
    refine own_by (fun t k => XS.iload X384.here hx rfl (hb hby d1_22) rfl k) ?_
    show ORun p e below s _ _ _ T384 (mkF m 24 #[.val (.ref a1), .val (.int (4 : Int32)), .val (.ref a2), .val (.ref a2), .val (.int (5 : Int32)), .val (.int (1 : Int32)), .val (.int d0)] [(.int (1 : Int32))])
    refine own_by (fun t k => XS.iload X384.here hx rfl (hb hby d1_24) rfl k) ?_
    show ORun p e below s _ _ _ T384 (mkF m 26 #[.val (.ref a1), .val (.int (4 : Int32)), .val (.ref a2), .val (.ref a2), .val (.int (5 : Int32)), .val (.int (1 : Int32)), .val (.int d0)] [(.int (5 : Int32)), (.int (1 : Int32))])
    refine own_by (fun t k => XS.icmpNo X384.here hx rfl (hb hby d1_26) rfl (tlt (by decide)).2.1 k) ?_
    show ORun p e below s _ _ _ T384 (mkF m 29 #[.val (.ref a1), .val (.int (4 : Int32)), .val (.ref a2), .val (.ref a2), .val (.int (5 : Int32)), .val (.int (1 : Int32)), .val (.int d0)] [])
    refine own_by (fun t k => XS.aloadN X384.here hx rfl (hb hby d1_29) rfl rfl k) ?_
    show ORun p e below s _ _ _ T384 (mkF m 30 #[.val (.ref a1), .val (.int (4 : Int32)), .val (.ref a2), .val (.ref a2), .val (.int (5 : Int32)), .val (.int (1 : Int32)), .val (.int d0)] [(.ref a2)])
    refine own_by (fun t k => XS.iload X384.here hx rfl (hb hby d1_30) rfl k) ?_
    show ORun p e below s _ _ _ T384 (mkF m 32 #[.val (.ref a1), .val (.int (4 : Int32)), .val (.ref a2), .val (.ref a2), .val (.int (5 : Int32)), .val (.int (1 : Int32)), .val (.int d0)] [(.int (1 : Int32)), (.ref a2)])
    refine own_iaload X384 hx hZ e384 fz386_3 (i := 1) (by decide) (by omega) (hb hby d1_32) ?_
    intro v387 hv387
    obtain rfl : d1 = v387 := hv387.symm
    show ORun p e below s _ _ _ T384 (mkF m 33 #[.val (.ref a1), .val (.int (4 : Int32)), .val (.ref a2), .val (.ref a2), .val (.int (5 : Int32)), .val (.int (1 : Int32)), .val (.int d0)] [(.int d1)])
    refine own_by (fun t k => XS.istore X384.here hx rfl (hb hby d1_33) rfl (l' := #[.val (.ref a1), .val (.int (4 : Int32)), .val (.ref a2), .val (.ref a2), .val (.int (5 : Int32)), .val (.int (1 : Int32)), .val (.int d1)]) rfl k) ?_
    show ORun p e below s _ _ _ T384 (mkF m 35 #[.val (.ref a1), .val (.int (4 : Int32)), .val (.ref a2), .val (.ref a2), .val (.int (5 : Int32)), .val (.int (1 : Int32)), .val (.int d1)] [])
    refine own_by (fun t k => XS.aloadN X384.here hx rfl (hb hby d1_35) rfl rfl k) ?_
    show ORun p e below s _ _ _ T384 (mkF m 36 #[.val (.ref a1), .val (.int (4 : Int32)), .val (.ref a2), .val (.ref a2), .val (.int (5 : Int32)), .val (.int (1 : Int32)), .val (.int d1)] [(.ref a1)])
    obtain ⟨T388, X388, e388, st388⟩ := getF X384 hx hZ hown (host := "") (Or.inl (hw _ (List.mem_of_getElem? (i := 12) rfl))) Via.refl e384 fz386_1 (g := (mkF m 36 #[.val (.ref a1), .val (.int (4 : Int32)), .val (.ref a2), .val (.ref a2), .val (.int (5 : Int32)), .val (.int (1 : Int32)), .val (.int d1)] [(.ref a1)])) rfl rfl (hb hby d1_36)
    refine own_by st388 ?_
    show ORun p e below s _ _ _ T388 (mkF m 39 #[.val (.ref a1), .val (.int (4 : Int32)), .val (.ref a2), .val (.ref a2), .val (.int (5 : Int32)), .val (.int (1 : Int32)), .val (.int d1)] [(.ref b377)])
    refine own_by (fun t k => XS.iload X388.here hx rfl (hb hby d1_39) rfl k) ?_
    show ORun p e below s _ _ _ T388 (mkF m 41 #[.val (.ref a1), .val (.int (4 : Int32)), .val (.ref a2), .val (.ref a2), .val (.int (5 : Int32)), .val (.int (1 : Int32)), .val (.int d1)] [(.int d1), (.ref b377)])
    refine own_by (fun t k => XS.iconst X388.here hx rfl (hb hby d1_41) k) ?_
    show ORun p e below s _ _ _ T388 (mkF m 42 #[.val (.ref a1), .val (.int (4 : Int32)), .val (.ref a2), .val (.ref a2), .val (.int (5 : Int32)), .val (.int (1 : Int32)), .val (.int d1)] [(.int (1 : Int32)), (.int d1), (.ref b377)])
    refine own_by (fun t k => XS.iadd X388.here hx rfl (hb hby d1_42) rfl k) (own_letI (f := (fun z => (mkF m 43 #[.val (.ref a1), .val (.int (4 : Int32)), .val (.ref a2), .val (.ref a2), .val (.int (5 : Int32)), .val (.int (1 : Int32)), .val (.int d1)] [(.int z), (.ref b377)]))) (d1 + (1 : Int32)) fun v389 hv389 => ?_)
    show ORun p e below s _ _ _ T388 (mkF m 43 #[.val (.ref a1), .val (.int (4 : Int32)), .val (.ref a2), .val (.ref a2), .val (.int (5 : Int32)), .val (.int (1 : Int32)), .val (.int d1)] [(.int v389), (.ref b377)])
    have r389 := rng32 v389
    have a389 : v389.toInt = d1.toInt + 1 := by
      have q : (v389.toInt - (d1.toInt + 1)) % 4294967296 = 0 := by rw [hv389]; exact c_iadd d1 (1 : Int32)
      omega
    refine own_by (fun t k => XT.dup2 X388.here hx rfl (hb hby d1_43) rfl rfl rfl k) ?_
    show ORun p e below s _ _ _ T388 (mkF m 44 #[.val (.ref a1), .val (.int (4 : Int32)), .val (.ref a2), .val (.ref a2), .val (.int (5 : Int32)), .val (.int (1 : Int32)), .val (.int d1)] [(.int v389), (.ref b377), (.int v389), (.ref b377)])
    refine own_iaload X388 hx hZ e388 V384 (i := v389.toInt.toNat) (by omega) (by omega) (hb hby d1_44) ?_
    intro v390 hv390
    have r390 := rng32 v390
    show ORun p e below s _ _ _ T388 (mkF m 45 #[.val (.ref a1), .val (.int (4 : Int32)), .val (.ref a2), .val (.ref a2), .val (.int (5 : Int32)), .val (.int (1 : Int32)), .val (.int d1)] [(.int v390), (.int v389), (.ref b377)])
    refine own_by (fun t k => XS.iconst X388.here hx rfl (hb hby d1_45) k) ?_
    show ORun p e below s _ _ _ T388 (mkF m 46 #[.val (.ref a1), .val (.int (4 : Int32)), .val (.ref a2), .val (.ref a2), .val (.int (5 : Int32)), .val (.int (1 : Int32)), .val (.int d1)] [(.int (1 : Int32)), (.int v390), (.int v389), (.ref b377)])
    refine own_by (fun t k => XS.iadd X388.here hx rfl (hb hby d1_46) rfl k) (own_letI (f := (fun z => (mkF m 47 #[.val (.ref a1), .val (.int (4 : Int32)), .val (.ref a2), .val (.ref a2), .val (.int (5 : Int32)), .val (.int (1 : Int32)), .val (.int d1)] [(.int z), (.int v389), (.ref b377)]))) (v390 + (1 : Int32)) fun v391 hv391 => ?_)
    show ORun p e below s _ _ _ T388 (mkF m 47 #[.val (.ref a1), .val (.int (4 : Int32)), .val (.ref a2), .val (.ref a2), .val (.int (5 : Int32)), .val (.int (1 : Int32)), .val (.int d1)] [(.int v391), (.int v389), (.ref b377)])
    have a391a : (v391.toInt - (v390.toInt + 1)) % 4294967296 = 0 := by rw [hv391]; exact c_iadd v390 (1 : Int32)
    have r391 := rng32 v391
    refine own_iastore X388 hx hZ e388 V384 (i := v389.toInt.toNat) (by omega) (by omega) (hb hby d1_47) ?_
    intro T392 h392 L392 X392 e392 W392 hL392 V392
    have len392 : L392.length = 5 := by rw [hL392, List.length_set]; exact len384
    have N392 := Fr.snoc X392 N384 old_b377
    show ORun p e below s _ _ _ T392 (mkF m 48 #[.val (.ref a1), .val (.int (4 : Int32)), .val (.ref a2), .val (.ref a2), .val (.int (5 : Int32)), .val (.int (1 : Int32)), .val (.int d1)] [])
    have mb393 : L392 = own_bump L384 d1 := by rw [hL392, hv391, hv390, hv389]; rfl
    clear a389 r389 r390 a391a r391
    have Kz394 : Keep h0 h392 [a1] := (((Keep.refl h0 [a1]).trans Kz386 (allS (Or.inl (List.mem_of_getElem? (i := 0) rfl)) all0)).wr W392 (Or.inr sz_b377))
    have fz394_0 := (fz386_0.wr W392)
    have fz394_1 := (fz386_1.other W392 (Or.inl ne_a1_b377))
    have fz394_2 := (fz386_2.other W392 (Or.inl ne_a1_b377))
    have fz394_3 := (fz386_3.other W392 ne_a2_b377)
    have fz394_5 := (fz386_5.wr W392)
    refine own_by (fun t k => XS.iinc X392.here hx rfl (hb hby d1_48) rfl (l' := #[.val (.ref a1), .val (.int (4 : Int32)), .val (.ref a2), .val (.ref a2), .val (.int (5 : Int32)), .val (.int (2 : Int32)), .val (.int d1)]) rfl k) ?_
    show ORun p e below s _ _ _ T392 (mkF m 51 #[.val (.ref a1), .val (.int (4 : Int32)), .val (.ref a2), .val (.ref a2), .val (.int (5 : Int32)), .val (.int (2 : Int32)), .val (.int d1)] [])
    refine own_by (fun t k => XS.goto X392.here hx rfl (pc0 := 51) (pc' := 22) rfl (hb hby d1_51) (by decide) (by decide) k) ?_
    show ORun p e below s _ _ _ T392 (mkF m 22 #[.val (.ref a1), .val (.int (4 : Int32)), .val (.ref a2), .val (.ref a2), .val (.int (5 : Int32)), .val (.int (2 : Int32)), .val (.int d1)] [])
    refine own_by (fun t k => XS.iload X392.here hx rfl (hb hby d1_22) rfl k) ?_
    show ORun p e below s _ _ _ T392 (mkF m 24 #[.val (.ref a1), .val (.int (4 : Int32)), .val (.ref a2), .val (.ref a2), .val (.int (5 : Int32)), .val (.int (2 : Int32)), .val (.int d1)] [(.int (2 : Int32))])
    refine own_by (fun t k => XS.iload X392.here hx rfl (hb hby d1_24) rfl k) ?_
    show ORun p e below s _ _ _ T392 (mkF m 26 #[.val (.ref a1), .val (.int (4 : Int32)), .val (.ref a2), .val (.ref a2), .val (.int (5 : Int32)), .val (.int (2 : Int32)), .val (.int d1)] [(.int (5 : Int32)), (.int (2 : Int32))])
    refine own_by (fun t k => XS.icmpNo X392.here hx rfl (hb hby d1_26) rfl (tlt (by decide)).2.1 k) ?_
    show ORun p e below s _ _ _ T392 (mkF m 29 #[.val (.ref a1), .val (.int (4 : Int32)), .val (.ref a2), .val (.ref a2), .val (.int (5 : Int32)), .val (.int (2 : Int32)), .val (.int d1)] [])
    refine own_by (fun t k => XS.aloadN X392.here hx rfl (hb hby d1_29) rfl rfl k) ?_
    show ORun p e below s _ _ _ T392 (mkF m 30 #[.val (.ref a1), .val (.int (4 : Int32)), .val (.ref a2), .val (.ref a2), .val (.int (5 : Int32)), .val (.int (2 : Int32)), .val (.int d1)] [(.ref a2)])
    refine own_by (fun t k => XS.iload X392.here hx rfl (hb hby d1_30) rfl k) ?_
    show ORun p e below s _ _ _ T392 (mkF m 32 #[.val (.ref a1), .val (.int (4 : Int32)), .val (.ref a2), .val (.ref a2), .val (.int (5 : Int32)), .val (.int (2 : Int32)), .val (.int d1)] [(.int (2 : Int32)), (.ref a2)])
    refine own_iaload X392 hx hZ e392 fz394_3 (i := 2) (by decide) (by omega) (hb hby d1_32) ?_
    intro v395 hv395
    obtain rfl : d2 = v395 := hv395.symm
    show ORun p e below s _ _ _ T392 (mkF m 33 #[.val (.ref a1), .val (.int (4 : Int32)), .val (.ref a2), .val (.ref a2), .val (.int (5 : Int32)), .val (.int (2 : Int32)), .val (.int d1)] [(.int d2)])
    refine own_by (fun t k => XS.istore X392.here hx rfl (hb hby d1_33) rfl (l' := #[.val (.ref a1), .val (.int (4 : Int32)), .val (.ref a2), .val (.ref a2), .val (.int (5 : Int32)), .val (.int (2 : Int32)), .val (.int d2)]) rfl k) ?_
    show ORun p e below s _ _ _ T392 (mkF m 35 #[.val (.ref a1), .val (.int (4 : Int32)), .val (.ref a2), .val (.ref a2), .val (.int (5 : Int32)), .val (.int (2 : Int32)), .val (.int d2)] [])
    refine own_by (fun t k => XS.aloadN X392.here hx rfl (hb hby d1_35) rfl rfl k) ?_
    show ORun p e below s _ _ _ T392 (mkF m 36 #[.val (.ref a1), .val (.int (4 : Int32)), .val (.ref a2), .val (.ref a2), .val (.int (5 : Int32)), .val (.int (2 : Int32)), .val (.int d2)] [(.ref a1)])
    obtain ⟨T396, X396, e396, st396⟩ := getF X392 hx hZ hown (host := "") (Or.inl (hw _ (List.mem_of_getElem? (i := 12) rfl))) Via.refl e392 fz394_1 (g := (mkF m 36 #[.val (.ref a1), .val (.int (4 : Int32)), .val (.ref a2), .val (.ref a2), .val (.int (5 : Int32)), .val (.int (2 : Int32)), .val (.int d2)] [(.ref a1)])) rfl rfl (hb hby d1_36)
    refine own_by st396 ?_
    show ORun p e below s _ _ _ T396 (mkF m 39 #[.val (.ref a1), .val (.int (4 : Int32)), .val (.ref a2), .val (.ref a2), .val (.int (5 : Int32)), .val (.int (2 : Int32)), .val (.int d2)] [(.ref b377)])
    refine own_by (fun t k => XS.iload X396.here hx rfl (hb hby d1_39) rfl k) ?_
    show ORun p e below s _ _ _ T396 (mkF m 41 #[.val (.ref a1), .val (.int (4 : Int32)), .val (.ref a2), .val (.ref a2), .val (.int (5 : Int32)), .val (.int (2 : Int32)), .val (.int d2)] [(.int d2), (.ref b377)])
    refine own_by (fun t k => XS.iconst X396.here hx rfl (hb hby d1_41) k) ?_
    show ORun p e below s _ _ _ T396 (mkF m 42 #[.val (.ref a1), .val (.int (4 : Int32)), .val (.ref a2), .val (.ref a2), .val (.int (5 : Int32)), .val (.int (2 : Int32)), .val (.int d2)] [(.int (1 : Int32)), (.int d2), (.ref b377)])
    refine own_by (fun t k => XS.iadd X396.here hx rfl (hb hby d1_42) rfl k) (own_letI (f := (fun z => (mkF m 43 #[.val (.ref a1), .val (.int (4 : Int32)), .val (.ref a2), .val (.ref a2), .val (.int (5 : Int32)), .val (.int (2 : Int32)), .val (.int d2)] [(.int z), (.ref b377)]))) (d2 + (1 : Int32)) fun v397 hv397 => ?_)
    show ORun p e below s _ _ _ T396 (mkF m 43 #[.val (.ref a1), .val (.int (4 : Int32)), .val (.ref a2), .val (.ref a2), .val (.int (5 : Int32)), .val (.int (2 : Int32)), .val (.int d2)] [(.int v397), (.ref b377)])
    have r397 := rng32 v397
    have a397 : v397.toInt = d2.toInt + 1 := by
      have q : (v397.toInt - (d2.toInt + 1)) % 4294967296 = 0 := by rw [hv397]; exact c_iadd d2 (1 : Int32)
      omega
    refine own_by (fun t k => XT.dup2 X396.here hx rfl (hb hby d1_43) rfl rfl rfl k) ?_
    show ORun p e below s _ _ _ T396 (mkF m 44 #[.val (.ref a1), .val (.int (4 : Int32)), .val (.ref a2), .val (.ref a2), .val (.int (5 : Int32)), .val (.int (2 : Int32)), .val (.int d2)] [(.int v397), (.ref b377), (.int v397), (.ref b377)])
    refine own_iaload X396 hx hZ e396 V392 (i := v397.toInt.toNat) (by omega) (by omega) (hb hby d1_44) ?_
    intro v398 hv398
    have r398 := rng32 v398
    show ORun p e below s _ _ _ T396 (mkF m 45 #[.val (.ref a1), .val (.int (4 : Int32)), .val (.ref a2), .val (.ref a2), .val (.int (5 : Int32)), .val (.int (2 : Int32)), .val (.int d2)] [(.int v398), (.int v397), (.ref b377)])
    refine own_by (fun t k => XS.iconst X396.here hx rfl (hb hby d1_45) k) ?_
    show ORun p e below s _ _ _ T396 (mkF m 46 #[.val (.ref a1), .val (.int (4 : Int32)), .val (.ref a2), .val (.ref a2), .val (.int (5 : Int32)), .val (.int (2 : Int32)), .val (.int d2)] [(.int (1 : Int32)), (.int v398), (.int v397), (.ref b377)])
    refine own_by (fun t k => XS.iadd X396.here hx rfl (hb hby d1_46) rfl k) (own_letI (f := (fun z => (mkF m 47 #[.val (.ref a1), .val (.int (4 : Int32)), .val (.ref a2), .val (.ref a2), .val (.int (5 : Int32)), .val (.int (2 : Int32)), .val (.int d2)] [(.int z), (.int v397), (.ref b377)]))) (v398 + (1 : Int32)) fun v399 hv399 => ?_)
    show ORun p e below s _ _ _ T396 (mkF m 47 #[.val (.ref a1), .val (.int (4 : Int32)), .val (.ref a2), .val (.ref a2), .val (.int (5 : Int32)), .val (.int (2 : Int32)), .val (.int d2)] [(.int v399), (.int v397), (.ref b377)])
    have a399a : (v399.toInt - (v398.toInt + 1)) % 4294967296 = 0 := by rw [hv399]; exact c_iadd v398 (1 : Int32)
    have r399 := rng32 v399
    refine own_iastore X396 hx hZ e396 V392 (i := v397.toInt.toNat) (by omega) (by omega) (hb hby d1_47) ?_
    intro T400 h400 L400 X400 e400 W400 hL400 V400
    have len400 : L400.length = 5 := by rw [hL400, List.length_set]; exact len392
    have N400 := Fr.snoc X400 N392 old_b377
    show ORun p e below s _ _ _ T400 (mkF m 48 #[.val (.ref a1), .val (.int (4 : Int32)), .val (.ref a2), .val (.ref a2), .val (.int (5 : Int32)), .val (.int (2 : Int32)), .val (.int d2)] [])
    have mb401 : L400 = own_bump L392 d2 := by rw [hL400, hv399, hv398, hv397]; rfl
    clear a397 r397 r398 a399a r399
    have Kz402 : Keep h0 h400 [a1] := (((Keep.refl h0 [a1]).trans Kz394 (allS (Or.inl (List.mem_of_getElem? (i := 0) rfl)) all0)).wr W400 (Or.inr sz_b377))
    have fz402_0 := (fz394_0.wr W400)
    have fz402_1 := (fz394_1.other W400 (Or.inl ne_a1_b377))
    have fz402_2 := (fz394_2.other W400 (Or.inl ne_a1_b377))
    have fz402_3 := (fz394_3.other W400 ne_a2_b377)
    have fz402_5 := (fz394_5.wr W400)
    refine own_by (fun t k => XS.iinc X400.here hx rfl (hb hby d1_48) rfl (l' := #[.val (.ref a1), .val (.int (4 : Int32)), .val (.ref a2), .val (.ref a2), .val (.int (5 : Int32)), .val (.int (3 : Int32)), .val (.int d2)]) rfl k) ?_
    show ORun p e below s _ _ _ T400 (mkF m 51 #[.val (.ref a1), .val (.int (4 : Int32)), .val (.ref a2), .val (.ref a2), .val (.int (5 : Int32)), .val (.int (3 : Int32)), .val (.int d2)] [])
    refine own_by (fun t k => XS.goto X400.here hx rfl (pc0 := 51) (pc' := 22) rfl (hb hby d1_51) (by decide) (by decide) k) ?_
    show ORun p e below s _ _ _ T400 (mkF m 22 #[.val (.ref a1), .val (.int (4 : Int32)), .val (.ref a2), .val (.ref a2), .val (.int (5 : Int32)), .val (.int (3 : Int32)), .val (.int d2)] [])
    refine own_by (fun t k => XS.iload X400.here hx rfl (hb hby d1_22) rfl k) ?_
    show ORun p e below s _ _ _ T400 (mkF m 24 #[.val (.ref a1), .val (.int (4 : Int32)), .val (.ref a2), .val (.ref a2), .val (.int (5 : Int32)), .val (.int (3 : Int32)), .val (.int d2)] [(.int (3 : Int32))])
    refine own_by (fun t k => XS.iload X400.here hx rfl (hb hby d1_24) rfl k) ?_
    show ORun p e below s _ _ _ T400 (mkF m 26 #[.val (.ref a1), .val (.int (4 : Int32)), .val (.ref a2), .val (.ref a2), .val (.int (5 : Int32)), .val (.int (3 : Int32)), .val (.int d2)] [(.int (5 : Int32)), (.int (3 : Int32))])
    refine own_by (fun t k => XS.icmpNo X400.here hx rfl (hb hby d1_26) rfl (tlt (by decide)).2.1 k) ?_
    show ORun p e below s _ _ _ T400 (mkF m 29 #[.val (.ref a1), .val (.int (4 : Int32)), .val (.ref a2), .val (.ref a2), .val (.int (5 : Int32)), .val (.int (3 : Int32)), .val (.int d2)] [])
    refine own_by (fun t k => XS.aloadN X400.here hx rfl (hb hby d1_29) rfl rfl k) ?_
    show ORun p e below s _ _ _ T400 (mkF m 30 #[.val (.ref a1), .val (.int (4 : Int32)), .val (.ref a2), .val (.ref a2), .val (.int (5 : Int32)), .val (.int (3 : Int32)), .val (.int d2)] [(.ref a2)])
    refine own_by (fun t k => XS.iload X400.here hx rfl (hb hby d1_30) rfl k) ?_
    show ORun p e below s _ _ _ T400 (mkF m 32 #[.val (.ref a1), .val (.int (4 : Int32)), .val (.ref a2), .val (.ref a2), .val (.int (5 : Int32)), .val (.int (3 : Int32)), .val (.int d2)] [(.int (3 : Int32)), (.ref a2)])
    refine own_iaload X400 hx hZ e400 fz402_3 (i := 3) (by decide) (by omega) (hb hby d1_32) ?_
    intro v403 hv403
    obtain rfl : d3 = v403 := hv403.symm
    show ORun p e below s _ _ _ T400 (mkF m 33 #[.val (.ref a1), .val (.int (4 : Int32)), .val (.ref a2), .val (.ref a2), .val (.int (5 : Int32)), .val (.int (3 : Int32)), .val (.int d2)] [(.int d3)])
    refine own_by (fun t k => XS.istore X400.here hx rfl (hb hby d1_33) rfl (l' := #[.val (.ref a1), .val (.int (4 : Int32)), .val (.ref a2), .val (.ref a2), .val (.int (5 : Int32)), .val (.int (3 : Int32)), .val (.int d3)]) rfl k) ?_
    show ORun p e below s _ _ _ T400 (mkF m 35 #[.val (.ref a1), .val (.int (4 : Int32)), .val (.ref a2), .val (.ref a2), .val (.int (5 : Int32)), .val (.int (3 : Int32)), .val (.int d3)] [])
    refine own_by (fun t k => XS.aloadN X400.here hx rfl (hb hby d1_35) rfl rfl k) ?_
    show ORun p e below s _ _ _ T400 (mkF m 36 #[.val (.ref a1), .val (.int (4 : Int32)), .val (.ref a2), .val (.ref a2), .val (.int (5 : Int32)), .val (.int (3 : Int32)), .val (.int d3)] [(.ref a1)])
    obtain ⟨T404, X404, e404, st404⟩ := getF X400 hx hZ hown (host := "") (Or.inl (hw _ (List.mem_of_getElem? (i := 12) rfl))) Via.refl e400 fz402_1 (g := (mkF m 36 #[.val (.ref a1), .val (.int (4 : Int32)), .val (.ref a2), .val (.ref a2), .val (.int (5 : Int32)), .val (.int (3 : Int32)), .val (.int d3)] [(.ref a1)])) rfl rfl (hb hby d1_36)
    refine own_by st404 ?_
    show ORun p e below s _ _ _ T404 (mkF m 39 #[.val (.ref a1), .val (.int (4 : Int32)), .val (.ref a2), .val (.ref a2), .val (.int (5 : Int32)), .val (.int (3 : Int32)), .val (.int d3)] [(.ref b377)])
    refine own_by (fun t k => XS.iload X404.here hx rfl (hb hby d1_39) rfl k) ?_
    show ORun p e below s _ _ _ T404 (mkF m 41 #[.val (.ref a1), .val (.int (4 : Int32)), .val (.ref a2), .val (.ref a2), .val (.int (5 : Int32)), .val (.int (3 : Int32)), .val (.int d3)] [(.int d3), (.ref b377)])
    refine own_by (fun t k => XS.iconst X404.here hx rfl (hb hby d1_41) k) ?_
    show ORun p e below s _ _ _ T404 (mkF m 42 #[.val (.ref a1), .val (.int (4 : Int32)), .val (.ref a2), .val (.ref a2), .val (.int (5 : Int32)), .val (.int (3 : Int32)), .val (.int d3)] [(.int (1 : Int32)), (.int d3), (.ref b377)])
    refine own_by (fun t k => XS.iadd X404.here hx rfl (hb hby d1_42) rfl k) (own_letI (f := (fun z => (mkF m 43 #[.val (.ref a1), .val (.int (4 : Int32)), .val (.ref a2), .val (.ref a2), .val (.int (5 : Int32)), .val (.int (3 : Int32)), .val (.int d3)] [(.int z), (.ref b377)]))) (d3 + (1 : Int32)) fun v405 hv405 => ?_)
    show ORun p e below s _ _ _ T404 (mkF m 43 #[.val (.ref a1), .val (.int (4 : Int32)), .val (.ref a2), .val (.ref a2), .val (.int (5 : Int32)), .val (.int (3 : Int32)), .val (.int d3)] [(.int v405), (.ref b377)])
    have r405 := rng32 v405
    have a405 : v405.toInt = d3.toInt + 1 := by
      have q : (v405.toInt - (d3.toInt + 1)) % 4294967296 = 0 := by rw [hv405]; exact c_iadd d3 (1 : Int32)
      omega
    refine own_by (fun t k => XT.dup2 X404.here hx rfl (hb hby d1_43) rfl rfl rfl k) ?_
    show ORun p e below s _ _ _ T404 (mkF m 44 #[.val (.ref a1), .val (.int (4 : Int32)), .val (.ref a2), .val (.ref a2), .val (.int (5 : Int32)), .val (.int (3 : Int32)), .val (.int d3)] [(.int v405), (.ref b377), (.int v405), (.ref b377)])
    refine own_iaload X404 hx hZ e404 V400 (i := v405.toInt.toNat) (by omega) (by omega) (hb hby d1_44) ?_
    intro v406 hv406
    have r406 := rng32 v406
    show ORun p e below s _ _ _ T404 (mkF m 45 #[.val (.ref a1), .val (.int (4 : Int32)), .val (.ref a2), .val (.ref a2), .val (.int (5 : Int32)), .val (.int (3 : Int32)), .val (.int d3)] [(.int v406), (.int v405), (.ref b377)])
    refine own_by (fun t k => XS.iconst X404.here hx rfl (hb hby d1_45) k) ?_
    show ORun p e below s _ _ _ T404 (mkF m 46 #[.val (.ref a1), .val (.int (4 : Int32)), .val (.ref a2), .val (.ref a2), .val (.int (5 : Int32)), .val (.int (3 : Int32)), .val (.int d3)] [(.int (1 : Int32)), (.int v406), (.int v405), (.ref b377)])
    refine own_by (fun t k => XS.iadd X404.here hx rfl (hb hby d1_46) rfl k) (own_letI (f := (fun z => (mkF m 47 #[.val (.ref a1), .val (.int (4 : Int32)), .val (.ref a2), .val (.ref a2), .val (.int (5 : Int32)), .val (.int (3 : Int32)), .val (.int d3)] [(.int z), (.int v405), (.ref b377)]))) (v406 + (1 : Int32)) fun v407 hv407 => ?_)
    show ORun p e below s _ _ _ T404 (mkF m 47 #[.val (.ref a1), .val (.int (4 : Int32)), .val (.ref a2), .val (.ref a2), .val (.int (5 : Int32)), .val (.int (3 : Int32)), .val (.int d3)] [(.int v407), (.int v405), (.ref b377)])
    have a407a : (v407.toInt - (v406.toInt + 1)) % 4294967296 = 0 := by rw [hv407]; exact c_iadd v406 (1 : Int32)
    have r407 := rng32 v407
    refine own_iastore X404 hx hZ e404 V400 (i := v405.toInt.toNat) (by omega) (by omega) (hb hby d1_47) ?_
    intro T408 h408 L408 X408 e408 W408 hL408 V408
    have len408 : L408.length = 5 := by rw [hL408, List.length_set]; exact len400
    have N408 := Fr.snoc X408 N400 old_b377
    show ORun p e below s _ _ _ T408 (mkF m 48 #[.val (.ref a1), .val (.int (4 : Int32)), .val (.ref a2), .val (.ref a2), .val (.int (5 : Int32)), .val (.int (3 : Int32)), .val (.int d3)] [])
    have mb409 : L408 = own_bump L400 d3 := by rw [hL408, hv407, hv406, hv405]; rfl
    clear a405 r405 r406 a407a r407
    have Kz410 : Keep h0 h408 [a1] := (((Keep.refl h0 [a1]).trans Kz402 (allS (Or.inl (List.mem_of_getElem? (i := 0) rfl)) all0)).wr W408 (Or.inr sz_b377))
    have fz410_0 := (fz402_0.wr W408)
    have fz410_1 := (fz402_1.other W408 (Or.inl ne_a1_b377))
    have fz410_2 := (fz402_2.other W408 (Or.inl ne_a1_b377))
    have fz410_3 := (fz402_3.other W408 ne_a2_b377)
    have fz410_5 := (fz402_5.wr W408)
    refine own_by (fun t k => XS.iinc X408.here hx rfl (hb hby d1_48) rfl (l' := #[.val (.ref a1), .val (.int (4 : Int32)), .val (.ref a2), .val (.ref a2), .val (.int (5 : Int32)), .val (.int (4 : Int32)), .val (.int d3)]) rfl k) ?_
    show ORun p e below s _ _ _ T408 (mkF m 51 #[.val (.ref a1), .val (.int (4 : Int32)), .val (.ref a2), .val (.ref a2), .val (.int (5 : Int32)), .val (.int (4 : Int32)), .val (.int d3)] [])
    refine own_by (fun t k => XS.goto X408.here hx rfl (pc0 := 51) (pc' := 22) rfl (hb hby d1_51) (by decide) (by decide) k) ?_
    show ORun p e below s _ _ _ T408 (mkF m 22 #[.val (.ref a1), .val (.int (4 : Int32)), .val (.ref a2), .val (.ref a2), .val (.int (5 : Int32)), .val (.int (4 : Int32)), .val (.int d3)] [])
    refine own_by (fun t k => XS.iload X408.here hx rfl (hb hby d1_22) rfl k) ?_
    show ORun p e below s _ _ _ T408 (mkF m 24 #[.val (.ref a1), .val (.int (4 : Int32)), .val (.ref a2), .val (.ref a2), .val (.int (5 : Int32)), .val (.int (4 : Int32)), .val (.int d3)] [(.int (4 : Int32))])
    refine own_by (fun t k => XS.iload X408.here hx rfl (hb hby d1_24) rfl k) ?_
    show ORun p e below s _ _ _ T408 (mkF m 26 #[.val (.ref a1), .val (.int (4 : Int32)), .val (.ref a2), .val (.ref a2), .val (.int (5 : Int32)), .val (.int (4 : Int32)), .val (.int d3)] [(.int (5 : Int32)), (.int (4 : Int32))])
    refine own_by (fun t k => XS.icmpNo X408.here hx rfl (hb hby d1_26) rfl (tlt (by decide)).2.1 k) ?_
    show ORun p e below s _ _ _ T408 (mkF m 29 #[.val (.ref a1), .val (.int (4 : Int32)), .val (.ref a2), .val (.ref a2), .val (.int (5 : Int32)), .val (.int (4 : Int32)), .val (.int d3)] [])
    refine own_by (fun t k => XS.aloadN X408.here hx rfl (hb hby d1_29) rfl rfl k) ?_
    show ORun p e below s _ _ _ T408 (mkF m 30 #[.val (.ref a1), .val (.int (4 : Int32)), .val (.ref a2), .val (.ref a2), .val (.int (5 : Int32)), .val (.int (4 : Int32)), .val (.int d3)] [(.ref a2)])
    refine own_by (fun t k => XS.iload X408.here hx rfl (hb hby d1_30) rfl k) ?_
    show ORun p e below s _ _ _ T408 (mkF m 32 #[.val (.ref a1), .val (.int (4 : Int32)), .val (.ref a2), .val (.ref a2), .val (.int (5 : Int32)), .val (.int (4 : Int32)), .val (.int d3)] [(.int (4 : Int32)), (.ref a2)])
    refine own_iaload X408 hx hZ e408 fz410_3 (i := 4) (by decide) (by omega) (hb hby d1_32) ?_
    intro v411 hv411
    obtain rfl : d4 = v411 := hv411.symm
    show ORun p e below s _ _ _ T408 (mkF m 33 #[.val (.ref a1), .val (.int (4 : Int32)), .val (.ref a2), .val (.ref a2), .val (.int (5 : Int32)), .val (.int (4 : Int32)), .val (.int d3)] [(.int d4)])
    refine own_by (fun t k => XS.istore X408.here hx rfl (hb hby d1_33) rfl (l' := #[.val (.ref a1), .val (.int (4 : Int32)), .val (.ref a2), .val (.ref a2), .val (.int (5 : Int32)), .val (.int (4 : Int32)), .val (.int d4)]) rfl k) ?_
    show ORun p e below s _ _ _ T408 (mkF m 35 #[.val (.ref a1), .val (.int (4 : Int32)), .val (.ref a2), .val (.ref a2), .val (.int (5 : Int32)), .val (.int (4 : Int32)), .val (.int d4)] [])
    refine own_by (fun t k => XS.aloadN X408.here hx rfl (hb hby d1_35) rfl rfl k) ?_
    show ORun p e below s _ _ _ T408 (mkF m 36 #[.val (.ref a1), .val (.int (4 : Int32)), .val (.ref a2), .val (.ref a2), .val (.int (5 : Int32)), .val (.int (4 : Int32)), .val (.int d4)] [(.ref a1)])
    obtain ⟨T412, X412, e412, st412⟩ := getF X408 hx hZ hown (host := "") (Or.inl (hw _ (List.mem_of_getElem? (i := 12) rfl))) Via.refl e408 fz410_1 (g := (mkF m 36 #[.val (.ref a1), .val (.int (4 : Int32)), .val (.ref a2), .val (.ref a2), .val (.int (5 : Int32)), .val (.int (4 : Int32)), .val (.int d4)] [(.ref a1)])) rfl rfl (hb hby d1_36)
    refine own_by st412 ?_
    show ORun p e below s _ _ _ T412 (mkF m 39 #[.val (.ref a1), .val (.int (4 : Int32)), .val (.ref a2), .val (.ref a2), .val (.int (5 : Int32)), .val (.int (4 : Int32)), .val (.int d4)] [(.ref b377)])
    refine own_by (fun t k => XS.iload X412.here hx rfl (hb hby d1_39) rfl k) ?_
    show ORun p e below s _ _ _ T412 (mkF m 41 #[.val (.ref a1), .val (.int (4 : Int32)), .val (.ref a2), .val (.ref a2), .val (.int (5 : Int32)), .val (.int (4 : Int32)), .val (.int d4)] [(.int d4), (.ref b377)])
    refine own_by (fun t k => XS.iconst X412.here hx rfl (hb hby d1_41) k) ?_
    show ORun p e below s _ _ _ T412 (mkF m 42 #[.val (.ref a1), .val (.int (4 : Int32)), .val (.ref a2), .val (.ref a2), .val (.int (5 : Int32)), .val (.int (4 : Int32)), .val (.int d4)] [(.int (1 : Int32)), (.int d4), (.ref b377)])
    refine own_by (fun t k => XS.iadd X412.here hx rfl (hb hby d1_42) rfl k) (own_letI (f := (fun z => (mkF m 43 #[.val (.ref a1), .val (.int (4 : Int32)), .val (.ref a2), .val (.ref a2), .val (.int (5 : Int32)), .val (.int (4 : Int32)), .val (.int d4)] [(.int z), (.ref b377)]))) (d4 + (1 : Int32)) fun v413 hv413 => ?_)
    show ORun p e below s _ _ _ T412 (mkF m 43 #[.val (.ref a1), .val (.int (4 : Int32)), .val (.ref a2), .val (.ref a2), .val (.int (5 : Int32)), .val (.int (4 : Int32)), .val (.int d4)] [(.int v413), (.ref b377)])
    have r413 := rng32 v413
    have a413 : v413.toInt = d4.toInt + 1 := by
      have q : (v413.toInt - (d4.toInt + 1)) % 4294967296 = 0 := by rw [hv413]; exact c_iadd d4 (1 : Int32)
      omega
    refine own_by (fun t k => XT.dup2 X412.here hx rfl (hb hby d1_43) rfl rfl rfl k) ?_
    show ORun p e below s _ _ _ T412 (mkF m 44 #[.val (.ref a1), .val (.int (4 : Int32)), .val (.ref a2), .val (.ref a2), .val (.int (5 : Int32)), .val (.int (4 : Int32)), .val (.int d4)] [(.int v413), (.ref b377), (.int v413), (.ref b377)])
    refine own_iaload X412 hx hZ e412 V408 (i := v413.toInt.toNat) (by omega) (by omega) (hb hby d1_44) ?_
    intro v414 hv414
    have r414 := rng32 v414
    show ORun p e below s _ _ _ T412 (mkF m 45 #[.val (.ref a1), .val (.int (4 : Int32)), .val (.ref a2), .val (.ref a2), .val (.int (5 : Int32)), .val (.int (4 : Int32)), .val (.int d4)] [(.int v414), (.int v413), (.ref b377)])
    refine own_by (fun t k => XS.iconst X412.here hx rfl (hb hby d1_45) k) ?_
    show ORun p e below s _ _ _ T412 (mkF m 46 #[.val (.ref a1), .val (.int (4 : Int32)), .val (.ref a2), .val (.ref a2), .val (.int (5 : Int32)), .val (.int (4 : Int32)), .val (.int d4)] [(.int (1 : Int32)), (.int v414), (.int v413), (.ref b377)])
    refine own_by (fun t k => XS.iadd X412.here hx rfl (hb hby d1_46) rfl k) (own_letI (f := (fun z => (mkF m 47 #[.val (.ref a1), .val (.int (4 : Int32)), .val (.ref a2), .val (.ref a2), .val (.int (5 : Int32)), .val (.int (4 : Int32)), .val (.int d4)] [(.int z), (.int v413), (.ref b377)]))) (v414 + (1 : Int32)) fun v415 hv415 => ?_)
    show ORun p e below s _ _ _ T412 (mkF m 47 #[.val (.ref a1), .val (.int (4 : Int32)), .val (.ref a2), .val (.ref a2), .val (.int (5 : Int32)), .val (.int (4 : Int32)), .val (.int d4)] [(.int v415), (.int v413), (.ref b377)])
    have a415a : (v415.toInt - (v414.toInt + 1)) % 4294967296 = 0 := by rw [hv415]; exact c_iadd v414 (1 : Int32)
    have r415 := rng32 v415
    refine own_iastore X412 hx hZ e412 V408 (i := v413.toInt.toNat) (by omega) (by omega) (hb hby d1_47) ?_
    intro T416 h416 L416 X416 e416 W416 hL416 V416
    have len416 : L416.length = 5 := by rw [hL416, List.length_set]; exact len408
    have N416 := Fr.snoc X416 N408 old_b377
    show ORun p e below s _ _ _ T416 (mkF m 48 #[.val (.ref a1), .val (.int (4 : Int32)), .val (.ref a2), .val (.ref a2), .val (.int (5 : Int32)), .val (.int (4 : Int32)), .val (.int d4)] [])
    have mb417 : L416 = own_bump L408 d4 := by rw [hL416, hv415, hv414, hv413]; rfl
    clear a413 r413 r414 a415a r415
    have Kz418 : Keep h0 h416 [a1] := (((Keep.refl h0 [a1]).trans Kz410 (allS (Or.inl (List.mem_of_getElem? (i := 0) rfl)) all0)).wr W416 (Or.inr sz_b377))
    have fz418_0 := (fz410_0.wr W416)
    have fz418_1 := (fz410_1.other W416 (Or.inl ne_a1_b377))
    have fz418_2 := (fz410_2.other W416 (Or.inl ne_a1_b377))
    have fz418_3 := (fz410_3.other W416 ne_a2_b377)
    have fz418_5 := (fz410_5.wr W416)
    refine own_by (fun t k => XS.iinc X416.here hx rfl (hb hby d1_48) rfl (l' := #[.val (.ref a1), .val (.int (4 : Int32)), .val (.ref a2), .val (.ref a2), .val (.int (5 : Int32)), .val (.int (5 : Int32)), .val (.int d4)]) rfl k) ?_
    show ORun p e below s _ _ _ T416 (mkF m 51 #[.val (.ref a1), .val (.int (4 : Int32)), .val (.ref a2), .val (.ref a2), .val (.int (5 : Int32)), .val (.int (5 : Int32)), .val (.int d4)] [])
    refine own_by (fun t k => XS.goto X416.here hx rfl (pc0 := 51) (pc' := 22) rfl (hb hby d1_51) (by decide) (by decide) k) ?_
    show ORun p e below s _ _ _ T416 (mkF m 22 #[.val (.ref a1), .val (.int (4 : Int32)), .val (.ref a2), .val (.ref a2), .val (.int (5 : Int32)), .val (.int (5 : Int32)), .val (.int d4)] [])
    refine own_by (fun t k => XS.iload X416.here hx rfl (hb hby d1_22) rfl k) ?_
    show ORun p e below s _ _ _ T416 (mkF m 24 #[.val (.ref a1), .val (.int (4 : Int32)), .val (.ref a2), .val (.ref a2), .val (.int (5 : Int32)), .val (.int (5 : Int32)), .val (.int d4)] [(.int (5 : Int32))])
    refine own_by (fun t k => XS.iload X416.here hx rfl (hb hby d1_24) rfl k) ?_
    show ORun p e below s _ _ _ T416 (mkF m 26 #[.val (.ref a1), .val (.int (4 : Int32)), .val (.ref a2), .val (.ref a2), .val (.int (5 : Int32)), .val (.int (5 : Int32)), .val (.int d4)] [(.int (5 : Int32)), (.int (5 : Int32))])
    refine own_by (fun t k => XS.icmpYes X416.here hx rfl (pc0 := 26) (pc' := 54) rfl (hb hby d1_26) rfl (flt (by decide)).2.1 (by decide) (by decide) k) ?_
    show ORun p e below s _ _ _ T416 (mkF m 54 #[.val (.ref a1), .val (.int (4 : Int32)), .val (.ref a2), .val (.ref a2), .val (.int (5 : Int32)), .val (.int (5 : Int32)), .val (.int d4)] [])
    refine own_by (fun t k => XS.iconst X416.here hx rfl (hb hby d1_54) k) ?_
    show ORun p e below s _ _ _ T416 (mkF m 55 #[.val (.ref a1), .val (.int (4 : Int32)), .val (.ref a2), .val (.ref a2), .val (.int (5 : Int32)), .val (.int (5 : Int32)), .val (.int d4)] [(.int (0 : Int32))])
    refine own_by (fun t k => XS.istoreN X416.here hx rfl (hb hby d1_55) rfl (l' := #[.val (.ref a1), .val (.int (4 : Int32)), .val (.ref a2), .val (.int (0 : Int32)), .val (.int (5 : Int32)), .val (.int (5 : Int32)), .val (.int d4)]) rfl k) ?_
    show ORun p e below s _ _ _ T416 (mkF m 56 #[.val (.ref a1), .val (.int (4 : Int32)), .val (.ref a2), .val (.int (0 : Int32)), .val (.int (5 : Int32)), .val (.int (5 : Int32)), .val (.int d4)] [])
    refine own_by (fun t k => XS.iloadN X416.here hx rfl (hb hby d1_56) rfl k) ?_
    show ORun p e below s _ _ _ T416 (mkF m 57 #[.val (.ref a1), .val (.int (4 : Int32)), .val (.ref a2), .val (.int (0 : Int32)), .val (.int (5 : Int32)), .val (.int (5 : Int32)), .val (.int d4)] [(.int (0 : Int32))])
    refine own_by (fun t k => XS.iloadN X416.here hx rfl (hb hby d1_57) rfl k) ?_
    show ORun p e below s _ _ _ T416 (mkF m 58 #[.val (.ref a1), .val (.int (4 : Int32)), .val (.ref a2), .val (.int (0 : Int32)), .val (.int (5 : Int32)), .val (.int (5 : Int32)), .val (.int d4)] [(.int (4 : Int32)), (.int (0 : Int32))])
    refine own_by (fun t k => XS.icmpNo X416.here hx rfl (hb hby d1_58) rfl (tlt (by decide)).2.1 k) ?_
    show ORun p e below s _ _ _ T416 (mkF m 61 #[.val (.ref a1), .val (.int (4 : Int32)), .val (.ref a2), .val (.int (0 : Int32)), .val (.int (5 : Int32)), .val (.int (5 : Int32)), .val (.int d4)] [])
    refine own_by (fun t k => XS.aloadN X416.here hx rfl (hb hby d1_61) rfl rfl k) ?_
    show ORun p e below s _ _ _ T416 (mkF m 62 #[.val (.ref a1), .val (.int (4 : Int32)), .val (.ref a2), .val (.int (0 : Int32)), .val (.int (5 : Int32)), .val (.int (5 : Int32)), .val (.int d4)] [(.ref a1)])
    obtain ⟨T419, X419, e419, st419⟩ := getF X416 hx hZ hown (host := "") (Or.inl (hw _ (List.mem_of_getElem? (i := 12) rfl))) Via.refl e416 fz418_1 (g := (mkF m 62 #[.val (.ref a1), .val (.int (4 : Int32)), .val (.ref a2), .val (.int (0 : Int32)), .val (.int (5 : Int32)), .val (.int (5 : Int32)), .val (.int d4)] [(.ref a1)])) rfl rfl (hb hby d1_62)
    refine own_by st419 ?_
    show ORun p e below s _ _ _ T419 (mkF m 65 #[.val (.ref a1), .val (.int (4 : Int32)), .val (.ref a2), .val (.int (0 : Int32)), .val (.int (5 : Int32)), .val (.int (5 : Int32)), .val (.int d4)] [(.ref b377)])
    refine own_by (fun t k => XS.iloadN X419.here hx rfl (hb hby d1_65) rfl k) ?_
    show ORun p e below s _ _ _ T419 (mkF m 66 #[.val (.ref a1), .val (.int (4 : Int32)), .val (.ref a2), .val (.int (0 : Int32)), .val (.int (5 : Int32)), .val (.int (5 : Int32)), .val (.int d4)] [(.int (0 : Int32)), (.ref b377)])
    refine own_by (fun t k => XS.iconst X419.here hx rfl (hb hby d1_66) k) ?_
    show ORun p e below s _ _ _ T419 (mkF m 67 #[.val (.ref a1), .val (.int (4 : Int32)), .val (.ref a2), .val (.int (0 : Int32)), .val (.int (5 : Int32)), .val (.int (5 : Int32)), .val (.int d4)] [(.int (1 : Int32)), (.int (0 : Int32)), (.ref b377)])
    refine own_by (fun t k => XS.iadd X419.here hx rfl (hb hby d1_67) rfl k) ?_
    show ORun p e below s _ _ _ T419 (mkF m 68 #[.val (.ref a1), .val (.int (4 : Int32)), .val (.ref a2), .val (.int (0 : Int32)), .val (.int (5 : Int32)), .val (.int (5 : Int32)), .val (.int d4)] [(.int (1 : Int32)), (.ref b377)])
    refine own_by (fun t k => XT.dup2 X419.here hx rfl (hb hby d1_68) rfl rfl rfl k) ?_
    show ORun p e below s _ _ _ T419 (mkF m 69 #[.val (.ref a1), .val (.int (4 : Int32)), .val (.ref a2), .val (.int (0 : Int32)), .val (.int (5 : Int32)), .val (.int (5 : Int32)), .val (.int d4)] [(.int (1 : Int32)), (.ref b377), (.int (1 : Int32)), (.ref b377)])
    refine own_iaload X419 hx hZ e419 V416 (i := 1) (by decide) (by omega) (hb hby d1_69) ?_
    intro v420 hv420
    have r420 := rng32 v420
    show ORun p e below s _ _ _ T419 (mkF m 70 #[.val (.ref a1), .val (.int (4 : Int32)), .val (.ref a2), .val (.int (0 : Int32)), .val (.int (5 : Int32)), .val (.int (5 : Int32)), .val (.int d4)] [(.int v420), (.int (1 : Int32)), (.ref b377)])
    refine own_by (fun t k => XS.aloadN X419.here hx rfl (hb hby d1_70) rfl rfl k) ?_
    show ORun p e below s _ _ _ T419 (mkF m 71 #[.val (.ref a1), .val (.int (4 : Int32)), .val (.ref a2), .val (.int (0 : Int32)), .val (.int (5 : Int32)), .val (.int (5 : Int32)), .val (.int d4)] [(.ref a1), (.int v420), (.int (1 : Int32)), (.ref b377)])
    obtain ⟨T421, X421, e421, st421⟩ := getF X419 hx hZ hown (host := "") (Or.inl (hw _ (List.mem_of_getElem? (i := 12) rfl))) Via.refl e419 fz418_1 (g := (mkF m 71 #[.val (.ref a1), .val (.int (4 : Int32)), .val (.ref a2), .val (.int (0 : Int32)), .val (.int (5 : Int32)), .val (.int (5 : Int32)), .val (.int d4)] [(.ref a1), (.int v420), (.int (1 : Int32)), (.ref b377)])) rfl rfl (hb hby d1_71)
    refine own_by st421 ?_
    show ORun p e below s _ _ _ T421 (mkF m 74 #[.val (.ref a1), .val (.int (4 : Int32)), .val (.ref a2), .val (.int (0 : Int32)), .val (.int (5 : Int32)), .val (.int (5 : Int32)), .val (.int d4)] [(.ref b377), (.int v420), (.int (1 : Int32)), (.ref b377)])
    refine own_by (fun t k => XS.iloadN X421.here hx rfl (hb hby d1_74) rfl k) ?_
    show ORun p e below s _ _ _ T421 (mkF m 75 #[.val (.ref a1), .val (.int (4 : Int32)), .val (.ref a2), .val (.int (0 : Int32)), .val (.int (5 : Int32)), .val (.int (5 : Int32)), .val (.int d4)] [(.int (0 : Int32)), (.ref b377), (.int v420), (.int (1 : Int32)), (.ref b377)])
    refine own_iaload X421 hx hZ e421 V416 (i := 0) (by decide) (by omega) (hb hby d1_75) ?_
    intro v422 hv422
    have r422 := rng32 v422
    show ORun p e below s _ _ _ T421 (mkF m 76 #[.val (.ref a1), .val (.int (4 : Int32)), .val (.ref a2), .val (.int (0 : Int32)), .val (.int (5 : Int32)), .val (.int (5 : Int32)), .val (.int d4)] [(.int v422), (.int v420), (.int (1 : Int32)), (.ref b377)])
    refine own_by (fun t k => XS.iadd X421.here hx rfl (hb hby d1_76) rfl k) (own_letI (f := (fun z => (mkF m 77 #[.val (.ref a1), .val (.int (4 : Int32)), .val (.ref a2), .val (.int (0 : Int32)), .val (.int (5 : Int32)), .val (.int (5 : Int32)), .val (.int d4)] [(.int z), (.int (1 : Int32)), (.ref b377)]))) (v420 + v422) fun v423 hv423 => ?_)
    show ORun p e below s _ _ _ T421 (mkF m 77 #[.val (.ref a1), .val (.int (4 : Int32)), .val (.ref a2), .val (.int (0 : Int32)), .val (.int (5 : Int32)), .val (.int (5 : Int32)), .val (.int d4)] [(.int v423), (.int (1 : Int32)), (.ref b377)])
    have a423a : (v423.toInt - (v420.toInt + v422.toInt)) % 4294967296 = 0 := by rw [hv423]; exact c_iadd v420 v422
    have r423 := rng32 v423
    refine own_iastore X421 hx hZ e421 V416 (i := 1) (by decide) (by omega) (hb hby d1_77) ?_
    intro T424 h424 L424 X424 e424 W424 hL424 V424
    have len424 : L424.length = 5 := by rw [hL424, List.length_set]; exact len416
    have N424 := Fr.snoc X424 N416 old_b377
    show ORun p e below s _ _ _ T424 (mkF m 78 #[.val (.ref a1), .val (.int (4 : Int32)), .val (.ref a2), .val (.int (0 : Int32)), .val (.int (5 : Int32)), .val (.int (5 : Int32)), .val (.int d4)] [])
    have mb425 : L424 = own_acc L416 0 := by rw [hL424, hv423, hv420, hv422]; rfl
    clear r420 r422 a423a r423
    have Kz426 : Keep h0 h424 [a1] := (((Keep.refl h0 [a1]).trans Kz418 (allS (Or.inl (List.mem_of_getElem? (i := 0) rfl)) all0)).wr W424 (Or.inr sz_b377))
    have fz426_0 := (fz418_0.wr W424)
    have fz426_1 := (fz418_1.other W424 (Or.inl ne_a1_b377))
    have fz426_2 := (fz418_2.other W424 (Or.inl ne_a1_b377))
    have fz426_3 := (fz418_3.other W424 ne_a2_b377)
    have fz426_5 := (fz418_5.wr W424)
    refine own_by (fun t k => XS.iinc X424.here hx rfl (hb hby d1_78) rfl (l' := #[.val (.ref a1), .val (.int (4 : Int32)), .val (.ref a2), .val (.int (1 : Int32)), .val (.int (5 : Int32)), .val (.int (5 : Int32)), .val (.int d4)]) rfl k) ?_
    show ORun p e below s _ _ _ T424 (mkF m 81 #[.val (.ref a1), .val (.int (4 : Int32)), .val (.ref a2), .val (.int (1 : Int32)), .val (.int (5 : Int32)), .val (.int (5 : Int32)), .val (.int d4)] [])
    refine own_by (fun t k => XS.goto X424.here hx rfl (pc0 := 81) (pc' := 56) rfl (hb hby d1_81) (by decide) (by decide) k) ?_
    show ORun p e below s _ _ _ T424 (mkF m 56 #[.val (.ref a1), .val (.int (4 : Int32)), .val (.ref a2), .val (.int (1 : Int32)), .val (.int (5 : Int32)), .val (.int (5 : Int32)), .val (.int d4)] [])
    refine own_by (fun t k => XS.iloadN X424.here hx rfl (hb hby d1_56) rfl k) ?_
    show ORun p e below s _ _ _ T424 (mkF m 57 #[.val (.ref a1), .val (.int (4 : Int32)), .val (.ref a2), .val (.int (1 : Int32)), .val (.int (5 : Int32)), .val (.int (5 : Int32)), .val (.int d4)] [(.int (1 : Int32))])
    refine own_by (fun t k => XS.iloadN X424.here hx rfl (hb hby d1_57) rfl k) ?_
    show ORun p e below s _ _ _ T424 (mkF m 58 #[.val (.ref a1), .val (.int (4 : Int32)), .val (.ref a2), .val (.int (1 : Int32)), .val (.int (5 : Int32)), .val (.int (5 : Int32)), .val (.int d4)] [(.int (4 : Int32)), (.int (1 : Int32))])
    refine own_by (fun t k => XS.icmpNo X424.here hx rfl (hb hby d1_58) rfl (tlt (by decide)).2.1 k) ?_
    show ORun p e below s _ _ _ T424 (mkF m 61 #[.val (.ref a1), .val (.int (4 : Int32)), .val (.ref a2), .val (.int (1 : Int32)), .val (.int (5 : Int32)), .val (.int (5 : Int32)), .val (.int d4)] [])
    refine own_by (fun t k => XS.aloadN X424.here hx rfl (hb hby d1_61) rfl rfl k) ?_
    show ORun p e below s _ _ _ T424 (mkF m 62 #[.val (.ref a1), .val (.int (4 : Int32)), .val (.ref a2), .val (.int (1 : Int32)), .val (.int (5 : Int32)), .val (.int (5 : Int32)), .val (.int d4)] [(.ref a1)])
    obtain ⟨T427, X427, e427, st427⟩ := getF X424 hx hZ hown (host := "") (Or.inl (hw _ (List.mem_of_getElem? (i := 12) rfl))) Via.refl e424 fz426_1 (g := (mkF m 62 #[.val (.ref a1), .val (.int (4 : Int32)), .val (.ref a2), .val (.int (1 : Int32)), .val (.int (5 : Int32)), .val (.int (5 : Int32)), .val (.int d4)] [(.ref a1)])) rfl rfl (hb hby d1_62)
    refine own_by st427 ?_
    show ORun p e below s _ _ _ T427 (mkF m 65 #[.val (.ref a1), .val (.int (4 : Int32)), .val (.ref a2), .val (.int (1 : Int32)), .val (.int (5 : Int32)), .val (.int (5 : Int32)), .val (.int d4)] [(.ref b377)])
    refine own_by (fun t k => XS.iloadN X427.here hx rfl (hb hby d1_65) rfl k) ?_
    show ORun p e below s _ _ _ T427 (mkF m 66 #[.val (.ref a1), .val (.int (4 : Int32)), .val (.ref a2), .val (.int (1 : Int32)), .val (.int (5 : Int32)), .val (.int (5 : Int32)), .val (.int d4)] [(.int (1 : Int32)), (.ref b377)])
    refine own_by (fun t k => XS.iconst X427.here hx rfl (hb hby d1_66) k) ?_
    show ORun p e below s _ _ _ T427 (mkF m 67 #[.val (.ref a1), .val (.int (4 : Int32)), .val (.ref a2), .val (.int (1 : Int32)), .val (.int (5 : Int32)), .val (.int (5 : Int32)), .val (.int d4)] [(.int (1 : Int32)), (.int (1 : Int32)), (.ref b377)])
    refine own_by (fun t k => XS.iadd X427.here hx rfl (hb hby d1_67) rfl k) ?_
    show ORun p e below s _ _ _ T427 (mkF m 68 #[.val (.ref a1), .val (.int (4 : Int32)), .val (.ref a2), .val (.int (1 : Int32)), .val (.int (5 : Int32)), .val (.int (5 : Int32)), .val (.int d4)] [(.int (2 : Int32)), (.ref b377)])
    refine own_by (fun t k => XT.dup2 X427.here hx rfl (hb hby d1_68) rfl rfl rfl k) ?_
    show ORun p e below s _ _ _ T427 (mkF m 69 #[.val (.ref a1), .val (.int (4 : Int32)), .val (.ref a2), .val (.int (1 : Int32)), .val (.int (5 : Int32)), .val (.int (5 : Int32)), .val (.int d4)] [(.int (2 : Int32)), (.ref b377), (.int (2 : Int32)), (.ref b377)])
    refine own_iaload X427 hx hZ e427 V424 (i := 2) (by decide) (by omega) (hb hby d1_69) ?_
    intro v428 hv428
    have r428 := rng32 v428
    show ORun p e below s _ _ _ T427 (mkF m 70 #[.val (.ref a1), .val (.int (4 : Int32)), .val (.ref a2), .val (.int (1 : Int32)), .val (.int (5 : Int32)), .val (.int (5 : Int32)), .val (.int d4)] [(.int v428), (.int (2 : Int32)), (.ref b377)])
    refine own_by (fun t k => XS.aloadN X427.here hx rfl (hb hby d1_70) rfl rfl k) ?_
    show ORun p e below s _ _ _ T427 (mkF m 71 #[.val (.ref a1), .val (.int (4 : Int32)), .val (.ref a2), .val (.int (1 : Int32)), .val (.int (5 : Int32)), .val (.int (5 : Int32)), .val (.int d4)] [(.ref a1), (.int v428), (.int (2 : Int32)), (.ref b377)])
    obtain ⟨T429, X429, e429, st429⟩ := getF X427 hx hZ hown (host := "") (Or.inl (hw _ (List.mem_of_getElem? (i := 12) rfl))) Via.refl e427 fz426_1 (g := (mkF m 71 #[.val (.ref a1), .val (.int (4 : Int32)), .val (.ref a2), .val (.int (1 : Int32)), .val (.int (5 : Int32)), .val (.int (5 : Int32)), .val (.int d4)] [(.ref a1), (.int v428), (.int (2 : Int32)), (.ref b377)])) rfl rfl (hb hby d1_71)
    refine own_by st429 ?_
    show ORun p e below s _ _ _ T429 (mkF m 74 #[.val (.ref a1), .val (.int (4 : Int32)), .val (.ref a2), .val (.int (1 : Int32)), .val (.int (5 : Int32)), .val (.int (5 : Int32)), .val (.int d4)] [(.ref b377), (.int v428), (.int (2 : Int32)), (.ref b377)])
    refine own_by (fun t k => XS.iloadN X429.here hx rfl (hb hby d1_74) rfl k) ?_
    show ORun p e below s _ _ _ T429 (mkF m 75 #[.val (.ref a1), .val (.int (4 : Int32)), .val (.ref a2), .val (.int (1 : Int32)), .val (.int (5 : Int32)), .val (.int (5 : Int32)), .val (.int d4)] [(.int (1 : Int32)), (.ref b377), (.int v428), (.int (2 : Int32)), (.ref b377)])
    refine own_iaload X429 hx hZ e429 V424 (i := 1) (by decide) (by omega) (hb hby d1_75) ?_
    intro v430 hv430
    have r430 := rng32 v430
    show ORun p e below s _ _ _ T429 (mkF m 76 #[.val (.ref a1), .val (.int (4 : Int32)), .val (.ref a2), .val (.int (1 : Int32)), .val (.int (5 : Int32)), .val (.int (5 : Int32)), .val (.int d4)] [(.int v430), (.int v428), (.int (2 : Int32)), (.ref b377)])
    refine own_by (fun t k => XS.iadd X429.here hx rfl (hb hby d1_76) rfl k) (own_letI (f := (fun z => (mkF m 77 #[.val (.ref a1), .val (.int (4 : Int32)), .val (.ref a2), .val (.int (1 : Int32)), .val (.int (5 : Int32)), .val (.int (5 : Int32)), .val (.int d4)] [(.int z), (.int (2 : Int32)), (.ref b377)]))) (v428 + v430) fun v431 hv431 => ?_)
    show ORun p e below s _ _ _ T429 (mkF m 77 #[.val (.ref a1), .val (.int (4 : Int32)), .val (.ref a2), .val (.int (1 : Int32)), .val (.int (5 : Int32)), .val (.int (5 : Int32)), .val (.int d4)] [(.int v431), (.int (2 : Int32)), (.ref b377)])
    have a431a : (v431.toInt - (v428.toInt + v430.toInt)) % 4294967296 = 0 := by rw [hv431]; exact c_iadd v428 v430
    have r431 := rng32 v431
    refine own_iastore X429 hx hZ e429 V424 (i := 2) (by decide) (by omega) (hb hby d1_77) ?_
    intro T432 h432 L432 X432 e432 W432 hL432 V432
    have len432 : L432.length = 5 := by rw [hL432, List.length_set]; exact len424
    have N432 := Fr.snoc X432 N424 old_b377
    show ORun p e below s _ _ _ T432 (mkF m 78 #[.val (.ref a1), .val (.int (4 : Int32)), .val (.ref a2), .val (.int (1 : Int32)), .val (.int (5 : Int32)), .val (.int (5 : Int32)), .val (.int d4)] [])
    have mb433 : L432 = own_acc L424 1 := by rw [hL432, hv431, hv428, hv430]; rfl
    clear r428 r430 a431a r431
    have Kz434 : Keep h0 h432 [a1] := (((Keep.refl h0 [a1]).trans Kz426 (allS (Or.inl (List.mem_of_getElem? (i := 0) rfl)) all0)).wr W432 (Or.inr sz_b377))
    have fz434_0 := (fz426_0.wr W432)
    have fz434_1 := (fz426_1.other W432 (Or.inl ne_a1_b377))
    have fz434_2 := (fz426_2.other W432 (Or.inl ne_a1_b377))
    have fz434_3 := (fz426_3.other W432 ne_a2_b377)
    have fz434_5 := (fz426_5.wr W432)
    refine own_by (fun t k => XS.iinc X432.here hx rfl (hb hby d1_78) rfl (l' := #[.val (.ref a1), .val (.int (4 : Int32)), .val (.ref a2), .val (.int (2 : Int32)), .val (.int (5 : Int32)), .val (.int (5 : Int32)), .val (.int d4)]) rfl k) ?_
    show ORun p e below s _ _ _ T432 (mkF m 81 #[.val (.ref a1), .val (.int (4 : Int32)), .val (.ref a2), .val (.int (2 : Int32)), .val (.int (5 : Int32)), .val (.int (5 : Int32)), .val (.int d4)] [])
    refine own_by (fun t k => XS.goto X432.here hx rfl (pc0 := 81) (pc' := 56) rfl (hb hby d1_81) (by decide) (by decide) k) ?_
    show ORun p e below s _ _ _ T432 (mkF m 56 #[.val (.ref a1), .val (.int (4 : Int32)), .val (.ref a2), .val (.int (2 : Int32)), .val (.int (5 : Int32)), .val (.int (5 : Int32)), .val (.int d4)] [])
    refine own_by (fun t k => XS.iloadN X432.here hx rfl (hb hby d1_56) rfl k) ?_
    show ORun p e below s _ _ _ T432 (mkF m 57 #[.val (.ref a1), .val (.int (4 : Int32)), .val (.ref a2), .val (.int (2 : Int32)), .val (.int (5 : Int32)), .val (.int (5 : Int32)), .val (.int d4)] [(.int (2 : Int32))])
    refine own_by (fun t k => XS.iloadN X432.here hx rfl (hb hby d1_57) rfl k) ?_
    show ORun p e below s _ _ _ T432 (mkF m 58 #[.val (.ref a1), .val (.int (4 : Int32)), .val (.ref a2), .val (.int (2 : Int32)), .val (.int (5 : Int32)), .val (.int (5 : Int32)), .val (.int d4)] [(.int (4 : Int32)), (.int (2 : Int32))])
    refine own_by (fun t k => XS.icmpNo X432.here hx rfl (hb hby d1_58) rfl (tlt (by decide)).2.1 k) ?_
    show ORun p e below s _ _ _ T432 (mkF m 61 #[.val (.ref a1), .val (.int (4 : Int32)), .val (.ref a2), .val (.int (2 : Int32)), .val (.int (5 : Int32)), .val (.int (5 : Int32)), .val (.int d4)] [])
    refine own_by (fun t k => XS.aloadN X432.here hx rfl (hb hby d1_61) rfl rfl k) ?_
    show ORun p e below s _ _ _ T432 (mkF m 62 #[.val (.ref a1), .val (.int (4 : Int32)), .val (.ref a2), .val (.int (2 : Int32)), .val (.int (5 : Int32)), .val (.int (5 : Int32)), .val (.int d4)] [(.ref a1)])
    obtain ⟨T435, X435, e435, st435⟩ := getF X432 hx hZ hown (host := "") (Or.inl (hw _ (List.mem_of_getElem? (i := 12) rfl))) Via.refl e432 fz434_1 (g := (mkF m 62 #[.val (.ref a1), .val (.int (4 : Int32)), .val (.ref a2), .val (.int (2 : Int32)), .val (.int (5 : Int32)), .val (.int (5 : Int32)), .val (.int d4)] [(.ref a1)])) rfl rfl (hb hby d1_62)
    refine own_by st435 ?_
    show ORun p e below s _ _ _ T435 (mkF m 65 #[.val (.ref a1), .val (.int (4 : Int32)), .val (.ref a2), .val (.int (2 : Int32)), .val (.int (5 : Int32)), .val (.int (5 : Int32)), .val (.int d4)] [(.ref b377)])
    refine own_by (fun t k => XS.iloadN X435.here hx rfl (hb hby d1_65) rfl k) ?_
    show ORun p e below s _ _ _ T435 (mkF m 66 #[.val (.ref a1), .val (.int (4 : Int32)), .val (.ref a2), .val (.int (2 : Int32)), .val (.int (5 : Int32)), .val (.int (5 : Int32)), .val (.int d4)] [(.int (2 : Int32)), (.ref b377)])
    refine own_by (fun t k => XS.iconst X435.here hx rfl (hb hby d1_66) k) ?_
    show ORun p e below s _ _ _ T435 (mkF m 67 #[.val (.ref a1), .val (.int (4 : Int32)), .val (.ref a2), .val (.int (2 : Int32)), .val (.int (5 : Int32)), .val (.int (5 : Int32)), .val (.int d4)] [(.int (1 : Int32)), (.int (2 : Int32)), (.ref b377)])
    refine own_by (fun t k => XS.iadd X435.here hx rfl (hb hby d1_67) rfl k) ?_
    show ORun p e below s _ _ _ T435 (mkF m 68 #[.val (.ref a1), .val (.int (4 : Int32)), .val (.ref a2), .val (.int (2 : Int32)), .val (.int (5 : Int32)), .val (.int (5 : Int32)), .val (.int d4)] [(.int (3 : Int32)), (.ref b377)])
    refine own_by (fun t k => XT.dup2 X435.here hx rfl (hb hby d1_68) rfl rfl rfl k) ?_
    show ORun p e below s _ _ _ T435 (mkF m 69 #[.val (.ref a1), .val (.int (4 : Int32)), .val (.ref a2), .val (.int (2 : Int32)), .val (.int (5 : Int32)), .val (.int (5 : Int32)), .val (.int d4)] [(.int (3 : Int32)), (.ref b377), (.int (3 : Int32)), (.ref b377)])
    refine own_iaload X435 hx hZ e435 V432 (i := 3) (by decide) (by omega) (hb hby d1_69) ?_
    intro v436 hv436
    have r436 := rng32 v436
    show ORun p e below s _ _ _ T435 (mkF m 70 #[.val (.ref a1), .val (.int (4 : Int32)), .val (.ref a2), .val (.int (2 : Int32)), .val (.int (5 : Int32)), .val (.int (5 : Int32)), .val (.int d4)] [(.int v436), (.int (3 : Int32)), (.ref b377)])
    refine own_by (fun t k => XS.aloadN X435.here hx rfl (hb hby d1_70) rfl rfl k) ?_
    show ORun p e below s _ _ _ T435 (mkF m 71 #[.val (.ref a1), .val (.int (4 : Int32)), .val (.ref a2), .val (.int (2 : Int32)), .val (.int (5 : Int32)), .val (.int (5 : Int32)), .val (.int d4)] [(.ref a1), (.int v436), (.int (3 : Int32)), (.ref b377)])
    obtain ⟨T437, X437, e437, st437⟩ := getF X435 hx hZ hown (host := "") (Or.inl (hw _ (List.mem_of_getElem? (i := 12) rfl))) Via.refl e435 fz434_1 (g := (mkF m 71 #[.val (.ref a1), .val (.int (4 : Int32)), .val (.ref a2), .val (.int (2 : Int32)), .val (.int (5 : Int32)), .val (.int (5 : Int32)), .val (.int d4)] [(.ref a1), (.int v436), (.int (3 : Int32)), (.ref b377)])) rfl rfl (hb hby d1_71)
    refine own_by st437 ?_
    show ORun p e below s _ _ _ T437 (mkF m 74 #[.val (.ref a1), .val (.int (4 : Int32)), .val (.ref a2), .val (.int (2 : Int32)), .val (.int (5 : Int32)), .val (.int (5 : Int32)), .val (.int d4)] [(.ref b377), (.int v436), (.int (3 : Int32)), (.ref b377)])
    refine own_by (fun t k => XS.iloadN X437.here hx rfl (hb hby d1_74) rfl k) ?_
    show ORun p e below s _ _ _ T437 (mkF m 75 #[.val (.ref a1), .val (.int (4 : Int32)), .val (.ref a2), .val (.int (2 : Int32)), .val (.int (5 : Int32)), .val (.int (5 : Int32)), .val (.int d4)] [(.int (2 : Int32)), (.ref b377), (.int v436), (.int (3 : Int32)), (.ref b377)])
    refine own_iaload X437 hx hZ e437 V432 (i := 2) (by decide) (by omega) (hb hby d1_75) ?_
    intro v438 hv438
    have r438 := rng32 v438
    show ORun p e below s _ _ _ T437 (mkF m 76 #[.val (.ref a1), .val (.int (4 : Int32)), .val (.ref a2), .val (.int (2 : Int32)), .val (.int (5 : Int32)), .val (.int (5 : Int32)), .val (.int d4)] [(.int v438), (.int v436), (.int (3 : Int32)), (.ref b377)])
    refine own_by (fun t k => XS.iadd X437.here hx rfl (hb hby d1_76) rfl k) (own_letI (f := (fun z => (mkF m 77 #[.val (.ref a1), .val (.int (4 : Int32)), .val (.ref a2), .val (.int (2 : Int32)), .val (.int (5 : Int32)), .val (.int (5 : Int32)), .val (.int d4)] [(.int z), (.int (3 : Int32)), (.ref b377)]))) (v436 + v438) fun v439 hv439 => ?_)
    show ORun p e below s _ _ _ T437 (mkF m 77 #[.val (.ref a1), .val (.int (4 : Int32)), .val (.ref a2), .val (.int (2 : Int32)), .val (.int (5 : Int32)), .val (.int (5 : Int32)), .val (.int d4)] [(.int v439), (.int (3 : Int32)), (.ref b377)])
    have a439a : (v439.toInt - (v436.toInt + v438.toInt)) % 4294967296 = 0 := by rw [hv439]; exact c_iadd v436 v438
    have r439 := rng32 v439
    refine own_iastore X437 hx hZ e437 V432 (i := 3) (by decide) (by omega) (hb hby d1_77) ?_
    intro T440 h440 L440 X440 e440 W440 hL440 V440
    have len440 : L440.length = 5 := by rw [hL440, List.length_set]; exact len432
    have N440 := Fr.snoc X440 N432 old_b377
    show ORun p e below s _ _ _ T440 (mkF m 78 #[.val (.ref a1), .val (.int (4 : Int32)), .val (.ref a2), .val (.int (2 : Int32)), .val (.int (5 : Int32)), .val (.int (5 : Int32)), .val (.int d4)] [])
    have mb441 : L440 = own_acc L432 2 := by rw [hL440, hv439, hv436, hv438]; rfl
    clear r436 r438 a439a r439
    have Kz442 : Keep h0 h440 [a1] := (((Keep.refl h0 [a1]).trans Kz434 (allS (Or.inl (List.mem_of_getElem? (i := 0) rfl)) all0)).wr W440 (Or.inr sz_b377))
    have fz442_0 := (fz434_0.wr W440)
    have fz442_1 := (fz434_1.other W440 (Or.inl ne_a1_b377))
    have fz442_2 := (fz434_2.other W440 (Or.inl ne_a1_b377))
    have fz442_3 := (fz434_3.other W440 ne_a2_b377)
    have fz442_5 := (fz434_5.wr W440)
    refine own_by (fun t k => XS.iinc X440.here hx rfl (hb hby d1_78) rfl (l' := #[.val (.ref a1), .val (.int (4 : Int32)), .val (.ref a2), .val (.int (3 : Int32)), .val (.int (5 : Int32)), .val (.int (5 : Int32)), .val (.int d4)]) rfl k) ?_
    show ORun p e below s _ _ _ T440 (mkF m 81 #[.val (.ref a1), .val (.int (4 : Int32)), .val (.ref a2), .val (.int (3 : Int32)), .val (.int (5 : Int32)), .val (.int (5 : Int32)), .val (.int d4)] [])
    refine own_by (fun t k => XS.goto X440.here hx rfl (pc0 := 81) (pc' := 56) rfl (hb hby d1_81) (by decide) (by decide) k) ?_
    show ORun p e below s _ _ _ T440 (mkF m 56 #[.val (.ref a1), .val (.int (4 : Int32)), .val (.ref a2), .val (.int (3 : Int32)), .val (.int (5 : Int32)), .val (.int (5 : Int32)), .val (.int d4)] [])
    refine own_by (fun t k => XS.iloadN X440.here hx rfl (hb hby d1_56) rfl k) ?_
    show ORun p e below s _ _ _ T440 (mkF m 57 #[.val (.ref a1), .val (.int (4 : Int32)), .val (.ref a2), .val (.int (3 : Int32)), .val (.int (5 : Int32)), .val (.int (5 : Int32)), .val (.int d4)] [(.int (3 : Int32))])
    refine own_by (fun t k => XS.iloadN X440.here hx rfl (hb hby d1_57) rfl k) ?_
    show ORun p e below s _ _ _ T440 (mkF m 58 #[.val (.ref a1), .val (.int (4 : Int32)), .val (.ref a2), .val (.int (3 : Int32)), .val (.int (5 : Int32)), .val (.int (5 : Int32)), .val (.int d4)] [(.int (4 : Int32)), (.int (3 : Int32))])
    refine own_by (fun t k => XS.icmpNo X440.here hx rfl (hb hby d1_58) rfl (tlt (by decide)).2.1 k) ?_
    show ORun p e below s _ _ _ T440 (mkF m 61 #[.val (.ref a1), .val (.int (4 : Int32)), .val (.ref a2), .val (.int (3 : Int32)), .val (.int (5 : Int32)), .val (.int (5 : Int32)), .val (.int d4)] [])
    refine own_by (fun t k => XS.aloadN X440.here hx rfl (hb hby d1_61) rfl rfl k) ?_
    show ORun p e below s _ _ _ T440 (mkF m 62 #[.val (.ref a1), .val (.int (4 : Int32)), .val (.ref a2), .val (.int (3 : Int32)), .val (.int (5 : Int32)), .val (.int (5 : Int32)), .val (.int d4)] [(.ref a1)])
    obtain ⟨T443, X443, e443, st443⟩ := getF X440 hx hZ hown (host := "") (Or.inl (hw _ (List.mem_of_getElem? (i := 12) rfl))) Via.refl e440 fz442_1 (g := (mkF m 62 #[.val (.ref a1), .val (.int (4 : Int32)), .val (.ref a2), .val (.int (3 : Int32)), .val (.int (5 : Int32)), .val (.int (5 : Int32)), .val (.int d4)] [(.ref a1)])) rfl rfl (hb hby d1_62)
    refine own_by st443 ?_
    show ORun p e below s _ _ _ T443 (mkF m 65 #[.val (.ref a1), .val (.int (4 : Int32)), .val (.ref a2), .val (.int (3 : Int32)), .val (.int (5 : Int32)), .val (.int (5 : Int32)), .val (.int d4)] [(.ref b377)])
    refine own_by (fun t k => XS.iloadN X443.here hx rfl (hb hby d1_65) rfl k) ?_
    show ORun p e below s _ _ _ T443 (mkF m 66 #[.val (.ref a1), .val (.int (4 : Int32)), .val (.ref a2), .val (.int (3 : Int32)), .val (.int (5 : Int32)), .val (.int (5 : Int32)), .val (.int d4)] [(.int (3 : Int32)), (.ref b377)])
    refine own_by (fun t k => XS.iconst X443.here hx rfl (hb hby d1_66) k) ?_
    show ORun p e below s _ _ _ T443 (mkF m 67 #[.val (.ref a1), .val (.int (4 : Int32)), .val (.ref a2), .val (.int (3 : Int32)), .val (.int (5 : Int32)), .val (.int (5 : Int32)), .val (.int d4)] [(.int (1 : Int32)), (.int (3 : Int32)), (.ref b377)])
    refine own_by (fun t k => XS.iadd X443.here hx rfl (hb hby d1_67) rfl k) ?_
    show ORun p e below s _ _ _ T443 (mkF m 68 #[.val (.ref a1), .val (.int (4 : Int32)), .val (.ref a2), .val (.int (3 : Int32)), .val (.int (5 : Int32)), .val (.int (5 : Int32)), .val (.int d4)] [(.int (4 : Int32)), (.ref b377)])
    refine own_by (fun t k => XT.dup2 X443.here hx rfl (hb hby d1_68) rfl rfl rfl k) ?_
    show ORun p e below s _ _ _ T443 (mkF m 69 #[.val (.ref a1), .val (.int (4 : Int32)), .val (.ref a2), .val (.int (3 : Int32)), .val (.int (5 : Int32)), .val (.int (5 : Int32)), .val (.int d4)] [(.int (4 : Int32)), (.ref b377), (.int (4 : Int32)), (.ref b377)])
    refine own_iaload X443 hx hZ e443 V440 (i := 4) (by decide) (by omega) (hb hby d1_69) ?_
    intro v444 hv444
    have r444 := rng32 v444
    show ORun p e below s _ _ _ T443 (mkF m 70 #[.val (.ref a1), .val (.int (4 : Int32)), .val (.ref a2), .val (.int (3 : Int32)), .val (.int (5 : Int32)), .val (.int (5 : Int32)), .val (.int d4)] [(.int v444), (.int (4 : Int32)), (.ref b377)])
    refine own_by (fun t k => XS.aloadN X443.here hx rfl (hb hby d1_70) rfl rfl k) ?_
    show ORun p e below s _ _ _ T443 (mkF m 71 #[.val (.ref a1), .val (.int (4 : Int32)), .val (.ref a2), .val (.int (3 : Int32)), .val (.int (5 : Int32)), .val (.int (5 : Int32)), .val (.int d4)] [(.ref a1), (.int v444), (.int (4 : Int32)), (.ref b377)])
    obtain ⟨T445, X445, e445, st445⟩ := getF X443 hx hZ hown (host := "") (Or.inl (hw _ (List.mem_of_getElem? (i := 12) rfl))) Via.refl e443 fz442_1 (g := (mkF m 71 #[.val (.ref a1), .val (.int (4 : Int32)), .val (.ref a2), .val (.int (3 : Int32)), .val (.int (5 : Int32)), .val (.int (5 : Int32)), .val (.int d4)] [(.ref a1), (.int v444), (.int (4 : Int32)), (.ref b377)])) rfl rfl (hb hby d1_71)
    refine own_by st445 ?_
    show ORun p e below s _ _ _ T445 (mkF m 74 #[.val (.ref a1), .val (.int (4 : Int32)), .val (.ref a2), .val (.int (3 : Int32)), .val (.int (5 : Int32)), .val (.int (5 : Int32)), .val (.int d4)] [(.ref b377), (.int v444), (.int (4 : Int32)), (.ref b377)])
    refine own_by (fun t k => XS.iloadN X445.here hx rfl (hb hby d1_74) rfl k) ?_
    show ORun p e below s _ _ _ T445 (mkF m 75 #[.val (.ref a1), .val (.int (4 : Int32)), .val (.ref a2), .val (.int (3 : Int32)), .val (.int (5 : Int32)), .val (.int (5 : Int32)), .val (.int d4)] [(.int (3 : Int32)), (.ref b377), (.int v444), (.int (4 : Int32)), (.ref b377)])
    refine own_iaload X445 hx hZ e445 V440 (i := 3) (by decide) (by omega) (hb hby d1_75) ?_
    intro v446 hv446
    have r446 := rng32 v446
    show ORun p e below s _ _ _ T445 (mkF m 76 #[.val (.ref a1), .val (.int (4 : Int32)), .val (.ref a2), .val (.int (3 : Int32)), .val (.int (5 : Int32)), .val (.int (5 : Int32)), .val (.int d4)] [(.int v446), (.int v444), (.int (4 : Int32)), (.ref b377)])
    refine own_by (fun t k => XS.iadd X445.here hx rfl (hb hby d1_76) rfl k) (own_letI (f := (fun z => (mkF m 77 #[.val (.ref a1), .val (.int (4 : Int32)), .val (.ref a2), .val (.int (3 : Int32)), .val (.int (5 : Int32)), .val (.int (5 : Int32)), .val (.int d4)] [(.int z), (.int (4 : Int32)), (.ref b377)]))) (v444 + v446) fun v447 hv447 => ?_)
    show ORun p e below s _ _ _ T445 (mkF m 77 #[.val (.ref a1), .val (.int (4 : Int32)), .val (.ref a2), .val (.int (3 : Int32)), .val (.int (5 : Int32)), .val (.int (5 : Int32)), .val (.int d4)] [(.int v447), (.int (4 : Int32)), (.ref b377)])
    have a447a : (v447.toInt - (v444.toInt + v446.toInt)) % 4294967296 = 0 := by rw [hv447]; exact c_iadd v444 v446
    have r447 := rng32 v447
    refine own_iastore X445 hx hZ e445 V440 (i := 4) (by decide) (by omega) (hb hby d1_77) ?_
    intro T448 h448 L448 X448 e448 W448 hL448 V448
    have len448 : L448.length = 5 := by rw [hL448, List.length_set]; exact len440
    have N448 := Fr.snoc X448 N440 old_b377
    show ORun p e below s _ _ _ T448 (mkF m 78 #[.val (.ref a1), .val (.int (4 : Int32)), .val (.ref a2), .val (.int (3 : Int32)), .val (.int (5 : Int32)), .val (.int (5 : Int32)), .val (.int d4)] [])
    have mb449 : L448 = own_acc L440 3 := by rw [hL448, hv447, hv444, hv446]; rfl
    clear r444 r446 a447a r447
    have Kz450 : Keep h0 h448 [a1] := (((Keep.refl h0 [a1]).trans Kz442 (allS (Or.inl (List.mem_of_getElem? (i := 0) rfl)) all0)).wr W448 (Or.inr sz_b377))
    have fz450_0 := (fz442_0.wr W448)
    have fz450_1 := (fz442_1.other W448 (Or.inl ne_a1_b377))
    have fz450_2 := (fz442_2.other W448 (Or.inl ne_a1_b377))
    have fz450_3 := (fz442_3.other W448 ne_a2_b377)
    have fz450_5 := (fz442_5.wr W448)
    refine own_by (fun t k => XS.iinc X448.here hx rfl (hb hby d1_78) rfl (l' := #[.val (.ref a1), .val (.int (4 : Int32)), .val (.ref a2), .val (.int (4 : Int32)), .val (.int (5 : Int32)), .val (.int (5 : Int32)), .val (.int d4)]) rfl k) ?_
    show ORun p e below s _ _ _ T448 (mkF m 81 #[.val (.ref a1), .val (.int (4 : Int32)), .val (.ref a2), .val (.int (4 : Int32)), .val (.int (5 : Int32)), .val (.int (5 : Int32)), .val (.int d4)] [])
    refine own_by (fun t k => XS.goto X448.here hx rfl (pc0 := 81) (pc' := 56) rfl (hb hby d1_81) (by decide) (by decide) k) ?_
    show ORun p e below s _ _ _ T448 (mkF m 56 #[.val (.ref a1), .val (.int (4 : Int32)), .val (.ref a2), .val (.int (4 : Int32)), .val (.int (5 : Int32)), .val (.int (5 : Int32)), .val (.int d4)] [])
    refine own_by (fun t k => XS.iloadN X448.here hx rfl (hb hby d1_56) rfl k) ?_
    show ORun p e below s _ _ _ T448 (mkF m 57 #[.val (.ref a1), .val (.int (4 : Int32)), .val (.ref a2), .val (.int (4 : Int32)), .val (.int (5 : Int32)), .val (.int (5 : Int32)), .val (.int d4)] [(.int (4 : Int32))])
    refine own_by (fun t k => XS.iloadN X448.here hx rfl (hb hby d1_57) rfl k) ?_
    show ORun p e below s _ _ _ T448 (mkF m 58 #[.val (.ref a1), .val (.int (4 : Int32)), .val (.ref a2), .val (.int (4 : Int32)), .val (.int (5 : Int32)), .val (.int (5 : Int32)), .val (.int d4)] [(.int (4 : Int32)), (.int (4 : Int32))])
    refine own_by (fun t k => XS.icmpYes X448.here hx rfl (pc0 := 58) (pc' := 84) rfl (hb hby d1_58) rfl (flt (by decide)).2.1 (by decide) (by decide) k) ?_
    show ORun p e below s _ _ _ T448 (mkF m 84 #[.val (.ref a1), .val (.int (4 : Int32)), .val (.ref a2), .val (.int (4 : Int32)), .val (.int (5 : Int32)), .val (.int (5 : Int32)), .val (.int d4)] [])
    have mS451 : L448 = own_S 4 [d0, d1, d2, d3, d4] := by rw [mb449, mb441, mb433, mb425, mb417, mb409, mb401, mb393, mb385, hL377]; rfl
    refine own_by (fun t k => XS.aloadN X448.here hx rfl (hb hby d1_84) rfl rfl k) ?_
    show ORun p e below s _ _ _ T448 (mkF m 85 #[.val (.ref a1), .val (.int (4 : Int32)), .val (.ref a2), .val (.int (4 : Int32)), .val (.int (5 : Int32)), .val (.int (5 : Int32)), .val (.int d4)] [(.ref a1)])
    refine own_by (fun t k => XS.aloadN X448.here hx rfl (hb hby d1_85) rfl rfl k) ?_
    show ORun p e below s _ _ _ T448 (mkF m 86 #[.val (.ref a1), .val (.int (4 : Int32)), .val (.ref a2), .val (.int (4 : Int32)), .val (.int (5 : Int32)), .val (.int (5 : Int32)), .val (.int d4)] [(.ref a2), (.ref a1)])
    refine own_len X448 hx hZ e448 fz450_3 (n := 5) lds (hb hby d1_86) ?_
    show ORun p e below s _ _ _ T448 (mkF m 87 #[.val (.ref a1), .val (.int (4 : Int32)), .val (.ref a2), .val (.int (4 : Int32)), .val (.int (5 : Int32)), .val (.int (5 : Int32)), .val (.int d4)] [(.int (5 : Int32)), (.ref a1)])
    refine own_newarray X448 hx hZ (aty := .int) (hw _ (List.mem_of_getElem? (i := 1) rfl)) e448 rfl (N := 5) (cap := 5) (by decide) (Nat.le_refl _) (by decide) (by decide) (by decide) (ad := "[I") (by decide) (hb hby d1_87) ?_
    intro T452 h452 b452 L452 g452 X452 e452 E452 hL452 V452 Ex452
    have len452 : L452.length = 5 := by rw [hL452]; exact List.length_replicate
    have old_b452 : n0 ≤ b452 := Nat.le_trans (Nat.le_trans Z0 Kz450.1) (Nat.le_of_eq g452.symm)
    have sz_b452 : h0.size ≤ b452 := Nat.le_trans (Nat.le_trans (Nat.le_refl h0.size) Kz450.1) (Nat.le_of_eq g452.symm)
    have ne_a1_b452 : a1 ≠ b452 := Nat.ne_of_lt (Nat.lt_of_lt_of_le fz450_0.lt (Nat.le_of_eq g452.symm))
    have ne_a2_b452 : a2 ≠ b452 := Nat.ne_of_lt (Nat.lt_of_lt_of_le fz450_3.lt (Nat.le_of_eq g452.symm))
    have ne_b377_b452 : b377 ≠ b452 := Nat.ne_of_lt (Nat.lt_of_lt_of_le V448.lt (Nat.le_of_eq g452.symm))
    show ORun p e below s _ _ _ T452 (mkF m 89 #[.val (.ref a1), .val (.int (4 : Int32)), .val (.ref a2), .val (.int (4 : Int32)), .val (.int (5 : Int32)), .val (.int (5 : Int32)), .val (.int d4)] [(.ref b452), (.ref a1)])
    obtain ⟨T453, h453, X453, e453, W453, st453⟩ := putF X452 hx hZ hown (host := "") (Or.inl (hw _ (List.mem_of_getElem? (i := 14) rfl))) Via.refl e452 (fz450_2.ext E452) (fz450_0.ext E452) (Or.inr ⟨(hw _ (List.mem_of_getElem? (i := 15) rfl)), rfl, hnm⟩) (hw _ (List.mem_of_getElem? (i := 4) rfl)) (ty := (.array .int)) (by decide) rfl rfl (g := (mkF m 89 #[.val (.ref a1), .val (.int (4 : Int32)), .val (.ref a2), .val (.int (4 : Int32)), .val (.int (5 : Int32)), .val (.int (5 : Int32)), .val (.int d4)] [(.ref b452), (.ref a1)])) rfl rfl (hb hby d1_89)
    have Fw453 := Fld.same W453 (fz450_2.ext E452)
    have N453 := Fr.snoc X453 N448 g_a1
    refine own_by st453 ?_
    show ORun p e below s _ _ _ T453 (mkF m 92 #[.val (.ref a1), .val (.int (4 : Int32)), .val (.ref a2), .val (.int (4 : Int32)), .val (.int (5 : Int32)), .val (.int (5 : Int32)), .val (.int d4)] [])
    refine own_by (fun t k => XS.aloadN X453.here hx rfl (hb hby d1_92) rfl rfl k) ?_
    show ORun p e below s _ _ _ T453 (mkF m 93 #[.val (.ref a1), .val (.int (4 : Int32)), .val (.ref a2), .val (.int (4 : Int32)), .val (.int (5 : Int32)), .val (.int (5 : Int32)), .val (.int d4)] [(.ref a1)])
    obtain ⟨T454, X454, e454, st454⟩ := getF X453 hx hZ hown (host := "") (Or.inl (hw _ (List.mem_of_getElem? (i := 12) rfl))) Via.refl e453 ((fz450_1.ext E452).other W453 (Or.inr (slot_ne (Or.inr (hw _ (List.mem_of_getElem? (i := 13) rfl))) (Or.inr (hw _ (List.mem_of_getElem? (i := 15) rfl))) (by decide) (t := (.array .int)) (t' := (.array .int)) (by decide) (by decide)))) (g := (mkF m 93 #[.val (.ref a1), .val (.int (4 : Int32)), .val (.ref a2), .val (.int (4 : Int32)), .val (.int (5 : Int32)), .val (.int (5 : Int32)), .val (.int d4)] [(.ref a1)])) rfl rfl (hb hby d1_93)
    refine own_by st454 ?_
    show ORun p e below s _ _ _ T454 (mkF m 96 #[.val (.ref a1), .val (.int (4 : Int32)), .val (.ref a2), .val (.int (4 : Int32)), .val (.int (5 : Int32)), .val (.int (5 : Int32)), .val (.int d4)] [(.ref b377)])
    refine own_by (fun t k => XS.iloadN X454.here hx rfl (hb hby d1_96) rfl k) ?_
    show ORun p e below s _ _ _ T454 (mkF m 97 #[.val (.ref a1), .val (.int (4 : Int32)), .val (.ref a2), .val (.int (4 : Int32)), .val (.int (5 : Int32)), .val (.int (5 : Int32)), .val (.int d4)] [(.int (4 : Int32)), (.ref b377)])
    refine own_callS X454 hx hZ hown (hw _ (List.mem_of_getElem? (i := 16) rfl)) (hw _ (List.mem_of_getElem? (i := 17) rfl)) (hw _ (List.mem_of_getElem? (i := 18) rfl)) (hw _ (List.mem_of_getElem? (i := 19) rfl)) (by decide) (rm3 l Z a0 hw [] h453 n0 (Nat.le_trans (Nat.le_trans (Nat.le_trans Z0 Kz450.1) E452.1) (Keep.of_wr W453).1) b377 (4 : Int32) L448 5 4 ((V448.ext E452).other W453 (Ne.symm ne_a1_b377)) len448 (by decide) (by omega)) e454 (by decide) (W := 0) (by decide) (by decide) (by decide) (argsL := [(.ref b377), (.int (4 : Int32))]) (rest := []) (by rw [hml]; rfl) (lenOf pd_3 rfl) rfl rfl (Nat.le_of_eq rfl) (hb hby d1_97) ?_
    intro T455 L455 u455 X455 hQ455
    obtain ⟨o455, rfl, Nq455, K455, sz_q455, Vq455⟩ := hQ455
    have N455 := Fr.app N453 Nq455
    have sz_o455 : h0.size ≤ o455 := Nat.le_trans (Nat.le_trans (Nat.le_trans (Nat.le_trans (Nat.le_refl h0.size) Kz450.1) E452.1) (Keep.of_wr W453).1) sz_q455
    have old_o455 : n0 ≤ o455 := Nat.le_trans Z0 sz_o455
    have ne_a1_o455 : a1 ≠ o455 := Nat.ne_of_lt (Nat.lt_of_lt_of_le ((fz450_0.ext E452).wr W453).lt sz_q455)
    have ne_a2_o455 : a2 ≠ o455 := Nat.ne_of_lt (Nat.lt_of_lt_of_le ((fz450_3.ext E452).other W453 (Ne.symm ne12)).lt sz_q455)
    have ne_b377_o455 : b377 ≠ o455 := Nat.ne_of_lt (Nat.lt_of_lt_of_le ((V448.ext E452).other W453 (Ne.symm ne_a1_b377)).lt sz_q455)
    have ne_b452_o455 : b452 ≠ o455 := Nat.ne_of_lt (Nat.lt_of_lt_of_le (V452.other W453 (Ne.symm ne_a1_b452)).lt sz_q455)
    obtain ⟨L455, hL455⟩ : ∃ z, z = L448.take 4 := ⟨_, rfl⟩
    rw [← hL455] at Vq455
    have len455 : L455.length = 4 := by rw [hL455, List.length_take]; omega
    have mN455 : L455 = own_N 4 [d0, d1, d2, d3, d4] 0 := by rw [hL455, mS451]; show _ = (own_S 4 [d0, d1, d2, d3, d4]).take 4; rfl
    show ORun p e below s _ _ _ T455 (mkF m 100 #[.val (.ref a1), .val (.int (4 : Int32)), .val (.ref a2), .val (.int (4 : Int32)), .val (.int (5 : Int32)), .val (.int (5 : Int32)), .val (.int d4)] [(.ref o455)])
    refine own_by (fun t k => XS.astoreN X455.here hx rfl (hb hby d1_100) rfl rfl (l' := #[.val (.ref a1), .val (.int (4 : Int32)), .val (.ref a2), .val (.ref o455), .val (.int (5 : Int32)), .val (.int (5 : Int32)), .val (.int d4)]) rfl k) ?_
    show ORun p e below s _ _ _ T455 (mkF m 101 #[.val (.ref a1), .val (.int (4 : Int32)), .val (.ref a2), .val (.ref o455), .val (.int (5 : Int32)), .val (.int (5 : Int32)), .val (.int d4)] [])
    refine own_by (fun t k => XS.iconst X455.here hx rfl (hb hby d1_101) k) ?_
    show ORun p e below s _ _ _ T455 (mkF m 102 #[.val (.ref a1), .val (.int (4 : Int32)), .val (.ref a2), .val (.ref o455), .val (.int (5 : Int32)), .val (.int (5 : Int32)), .val (.int d4)] [(.int (0 : Int32))])
    refine own_by (fun t k => XS.istore X455.here hx rfl (hb hby d1_102) rfl (l' := #[.val (.ref a1), .val (.int (4 : Int32)), .val (.ref a2), .val (.ref o455), .val (.int (0 : Int32)), .val (.int (5 : Int32)), .val (.int d4)]) rfl k) ?_
    show ORun p e below s _ _ _ T455 (mkF m 104 #[.val (.ref a1), .val (.int (4 : Int32)), .val (.ref a2), .val (.ref o455), .val (.int (0 : Int32)), .val (.int (5 : Int32)), .val (.int d4)] [])
    refine own_by (fun t k => XS.iload X455.here hx rfl (hb hby d1_104) rfl k) ?_
    show ORun p e below s _ _ _ T455 (mkF m 106 #[.val (.ref a1), .val (.int (4 : Int32)), .val (.ref a2), .val (.ref o455), .val (.int (0 : Int32)), .val (.int (5 : Int32)), .val (.int d4)] [(.int (0 : Int32))])
    refine own_by (fun t k => XS.aloadN X455.here hx rfl (hb hby d1_106) rfl rfl k) ?_
    show ORun p e below s _ _ _ T455 (mkF m 107 #[.val (.ref a1), .val (.int (4 : Int32)), .val (.ref a2), .val (.ref o455), .val (.int (0 : Int32)), .val (.int (5 : Int32)), .val (.int d4)] [(.ref a2), (.int (0 : Int32))])
    refine own_len X455 hx hZ rfl (((fz450_3.ext E452).other W453 (Ne.symm ne12)).keep K455 nin0) (n := 5) lds (hb hby d1_107) ?_
    show ORun p e below s _ _ _ T455 (mkF m 108 #[.val (.ref a1), .val (.int (4 : Int32)), .val (.ref a2), .val (.ref o455), .val (.int (0 : Int32)), .val (.int (5 : Int32)), .val (.int d4)] [(.int (5 : Int32)), (.int (0 : Int32))])
    refine own_by (fun t k => XS.icmpNo X455.here hx rfl (hb hby d1_108) rfl (tlt (by decide)).2.1 k) ?_
    show ORun p e below s _ _ _ T455 (mkF m 111 #[.val (.ref a1), .val (.int (4 : Int32)), .val (.ref a2), .val (.ref o455), .val (.int (0 : Int32)), .val (.int (5 : Int32)), .val (.int d4)] [])
    refine own_by (fun t k => XS.aloadN X455.here hx rfl (hb hby d1_111) rfl rfl k) ?_
    show ORun p e below s _ _ _ T455 (mkF m 112 #[.val (.ref a1), .val (.int (4 : Int32)), .val (.ref a2), .val (.ref o455), .val (.int (0 : Int32)), .val (.int (5 : Int32)), .val (.int d4)] [(.ref a1)])
    obtain ⟨T456, X456, e456, st456⟩ := getF X455 hx hZ hown (host := "") (Or.inl (hw _ (List.mem_of_getElem? (i := 14) rfl))) Via.refl rfl (Fw453.keep K455 nin0) (g := (mkF m 112 #[.val (.ref a1), .val (.int (4 : Int32)), .val (.ref a2), .val (.ref o455), .val (.int (0 : Int32)), .val (.int (5 : Int32)), .val (.int d4)] [(.ref a1)])) rfl rfl (hb hby d1_112)
    refine own_by st456 ?_
    show ORun p e below s _ _ _ T456 (mkF m 115 #[.val (.ref a1), .val (.int (4 : Int32)), .val (.ref a2), .val (.ref o455), .val (.int (0 : Int32)), .val (.int (5 : Int32)), .val (.int d4)] [(.ref b452)])
    refine own_by (fun t k => XS.aloadN X456.here hx rfl (hb hby d1_115) rfl rfl k) ?_
    show ORun p e below s _ _ _ T456 (mkF m 116 #[.val (.ref a1), .val (.int (4 : Int32)), .val (.ref a2), .val (.ref o455), .val (.int (0 : Int32)), .val (.int (5 : Int32)), .val (.int d4)] [(.ref o455), (.ref b452)])
    refine own_by (fun t k => XS.aloadN X456.here hx rfl (hb hby d1_116) rfl rfl k) ?_
    show ORun p e below s _ _ _ T456 (mkF m 117 #[.val (.ref a1), .val (.int (4 : Int32)), .val (.ref a2), .val (.ref o455), .val (.int (0 : Int32)), .val (.int (5 : Int32)), .val (.int d4)] [(.ref a2), (.ref o455), (.ref b452)])
    refine own_by (fun t k => XS.iload X456.here hx rfl (hb hby d1_117) rfl k) ?_
    show ORun p e below s _ _ _ T456 (mkF m 119 #[.val (.ref a1), .val (.int (4 : Int32)), .val (.ref a2), .val (.ref o455), .val (.int (0 : Int32)), .val (.int (5 : Int32)), .val (.int d4)] [(.int (0 : Int32)), (.ref a2), (.ref o455), (.ref b452)])
    refine own_iaload X456 hx hZ e456 (((fz450_3.ext E452).other W453 (Ne.symm ne12)).keep K455 nin0) (i := 0) (by decide) (by omega) (hb hby d1_119) ?_
    intro v457 hv457
    obtain rfl : d0 = v457 := hv457.symm
    show ORun p e below s _ _ _ T456 (mkF m 120 #[.val (.ref a1), .val (.int (4 : Int32)), .val (.ref a2), .val (.ref o455), .val (.int (0 : Int32)), .val (.int (5 : Int32)), .val (.int d4)] [(.int d0), (.ref o455), (.ref b452)])
    refine own_iaload X456 hx hZ e456 Vq455 (i := d0.toInt.toNat) (by omega) (by omega) (hb hby d1_120) ?_
    intro v458 hv458
    have r458 := rng32 v458
    show ORun p e below s _ _ _ T456 (mkF m 121 #[.val (.ref a1), .val (.int (4 : Int32)), .val (.ref a2), .val (.ref o455), .val (.int (0 : Int32)), .val (.int (5 : Int32)), .val (.int d4)] [(.int v458), (.ref b452)])
    have mp459 : v458 = own_pos 4 [d0, d1, d2, d3, d4] 0 := by rw [hv458, mN455]; show _ = (own_N 4 [d0, d1, d2, d3, d4] 0).getD (([d0, d1, d2, d3, d4] : List Int32).getD 0 0).toInt.toNat 0; rfl
    have bp459 := own_Ppos PP 0 (by decide)
    rw [← mp459] at bp459
    refine own_by (fun t k => XS.iload X456.here hx rfl (hb hby d1_121) rfl k) ?_
    show ORun p e below s _ _ _ T456 (mkF m 123 #[.val (.ref a1), .val (.int (4 : Int32)), .val (.ref a2), .val (.ref o455), .val (.int (0 : Int32)), .val (.int (5 : Int32)), .val (.int d4)] [(.int (0 : Int32)), (.int v458), (.ref b452)])
    refine own_iastore X456 hx hZ e456 ((V452.other W453 (Ne.symm ne_a1_b452)).keep K455 nin0) (i := v458.toInt.toNat) (by omega) (by omega) (hb hby d1_123) ?_
    intro T460 h460 L460 X460 e460 W460 hL460 V460
    have len460 : L460.length = 5 := by rw [hL460, List.length_set]; exact len452
    have N460 := Fr.snoc X460 N455 old_b452
    show ORun p e below s _ _ _ T460 (mkF m 124 #[.val (.ref a1), .val (.int (4 : Int32)), .val (.ref a2), .val (.ref o455), .val (.int (0 : Int32)), .val (.int (5 : Int32)), .val (.int d4)] [])
    have mE461 : L452 = own_Dk 4 [d0, d1, d2, d3, d4] 0 := by rw [hL452]; rfl
    have mF461 : L460 = own_Dk 4 [d0, d1, d2, d3, d4] 1 := by rw [hL460, mp459, mE461]; show _ = (own_Dk 4 [d0, d1, d2, d3, d4] 0).set (own_pos 4 [d0, d1, d2, d3, d4] 0).toInt.toNat (Int32.ofNat 0); rfl
    refine own_by (fun t k => XS.aloadN X460.here hx rfl (hb hby d1_124) rfl rfl k) ?_
    show ORun p e below s _ _ _ T460 (mkF m 125 #[.val (.ref a1), .val (.int (4 : Int32)), .val (.ref a2), .val (.ref o455), .val (.int (0 : Int32)), .val (.int (5 : Int32)), .val (.int d4)] [(.ref o455)])
    refine own_by (fun t k => XS.aloadN X460.here hx rfl (hb hby d1_125) rfl rfl k) ?_
    show ORun p e below s _ _ _ T460 (mkF m 126 #[.val (.ref a1), .val (.int (4 : Int32)), .val (.ref a2), .val (.ref o455), .val (.int (0 : Int32)), .val (.int (5 : Int32)), .val (.int d4)] [(.ref a2), (.ref o455)])
    refine own_by (fun t k => XS.iload X460.here hx rfl (hb hby d1_126) rfl k) ?_
    show ORun p e below s _ _ _ T460 (mkF m 128 #[.val (.ref a1), .val (.int (4 : Int32)), .val (.ref a2), .val (.ref o455), .val (.int (0 : Int32)), .val (.int (5 : Int32)), .val (.int d4)] [(.int (0 : Int32)), (.ref a2), (.ref o455)])
    refine own_iaload X460 hx hZ e460 ((((fz450_3.ext E452).other W453 (Ne.symm ne12)).keep K455 nin0).other W460 ne_a2_b452) (i := 0) (by decide) (by omega) (hb hby d1_128) ?_
    intro v462 hv462
    obtain rfl : d0 = v462 := hv462.symm
    show ORun p e below s _ _ _ T460 (mkF m 129 #[.val (.ref a1), .val (.int (4 : Int32)), .val (.ref a2), .val (.ref o455), .val (.int (0 : Int32)), .val (.int (5 : Int32)), .val (.int d4)] [(.int d0), (.ref o455)])
    refine own_by (fun t k => XT.dup2 X460.here hx rfl (hb hby d1_129) rfl rfl rfl k) ?_
    show ORun p e below s _ _ _ T460 (mkF m 130 #[.val (.ref a1), .val (.int (4 : Int32)), .val (.ref a2), .val (.ref o455), .val (.int (0 : Int32)), .val (.int (5 : Int32)), .val (.int d4)] [(.int d0), (.ref o455), (.int d0), (.ref o455)])
    refine own_iaload X460 hx hZ e460 (Vq455.other W460 (Ne.symm ne_b452_o455)) (i := d0.toInt.toNat) (by omega) (by omega) (hb hby d1_130) ?_
    intro v463 hv463
    have r463 := rng32 v463
    show ORun p e below s _ _ _ T460 (mkF m 131 #[.val (.ref a1), .val (.int (4 : Int32)), .val (.ref a2), .val (.ref o455), .val (.int (0 : Int32)), .val (.int (5 : Int32)), .val (.int d4)] [(.int v463), (.int d0), (.ref o455)])
    refine own_by (fun t k => XS.iconst X460.here hx rfl (hb hby d1_131) k) ?_
    show ORun p e below s _ _ _ T460 (mkF m 132 #[.val (.ref a1), .val (.int (4 : Int32)), .val (.ref a2), .val (.ref o455), .val (.int (0 : Int32)), .val (.int (5 : Int32)), .val (.int d4)] [(.int (1 : Int32)), (.int v463), (.int d0), (.ref o455)])
    refine own_by (fun t k => XS.iadd X460.here hx rfl (hb hby d1_132) rfl k) (own_letI (f := (fun z => (mkF m 133 #[.val (.ref a1), .val (.int (4 : Int32)), .val (.ref a2), .val (.ref o455), .val (.int (0 : Int32)), .val (.int (5 : Int32)), .val (.int d4)] [(.int z), (.int d0), (.ref o455)]))) (v463 + (1 : Int32)) fun v464 hv464 => ?_)
    show ORun p e below s _ _ _ T460 (mkF m 133 #[.val (.ref a1), .val (.int (4 : Int32)), .val (.ref a2), .val (.ref o455), .val (.int (0 : Int32)), .val (.int (5 : Int32)), .val (.int d4)] [(.int v464), (.int d0), (.ref o455)])
    have a464a : (v464.toInt - (v463.toInt + 1)) % 4294967296 = 0 := by rw [hv464]; exact c_iadd v463 (1 : Int32)
    have r464 := rng32 v464
    refine own_iastore X460 hx hZ e460 (Vq455.other W460 (Ne.symm ne_b452_o455)) (i := d0.toInt.toNat) (by omega) (by omega) (hb hby d1_133) ?_
    intro T465 h465 L465 X465 e465 W465 hL465 V465
    have len465 : L465.length = 4 := by rw [hL465, List.length_set]; exact len455
    have N465 := Fr.snoc X465 N460 old_o455
    show ORun p e below s _ _ _ T465 (mkF m 134 #[.val (.ref a1), .val (.int (4 : Int32)), .val (.ref a2), .val (.ref o455), .val (.int (0 : Int32)), .val (.int (5 : Int32)), .val (.int d4)] [])
    have mN466 : L465 = own_N 4 [d0, d1, d2, d3, d4] 1 := by rw [hL465, hv464, hv463, mN455]; show _ = (own_N 4 [d0, d1, d2, d3, d4] 0).set (([d0, d1, d2, d3, d4] : List Int32).getD 0 0).toInt.toNat ((own_N 4 [d0, d1, d2, d3, d4] 0).getD (([d0, d1, d2, d3, d4] : List Int32).getD 0 0).toInt.toNat 0 + 1); rfl
    clear r458 bp459 r463 a464a r464
    have Kz467 : Keep h0 h465 [a1] := (((((((Keep.refl h0 [a1]).trans Kz450 (allS (Or.inl (List.mem_of_getElem? (i := 0) rfl)) all0)).ext E452).wr W453 (Or.inl (List.mem_of_getElem? (i := 0) rfl))).trans K455 all0).wr W460 (Or.inr sz_b452)).wr W465 (Or.inr sz_o455))
    have fz467_0 := (((((fz450_0.ext E452).wr W453).keep K455).wr W460).wr W465)
    have fz467_1 := (((((fz450_1.ext E452).other W453 (Or.inr (slot_ne (Or.inr (hw _ (List.mem_of_getElem? (i := 13) rfl))) (Or.inr (hw _ (List.mem_of_getElem? (i := 15) rfl))) (by decide) (t := (.array .int)) (t' := (.array .int)) (by decide) (by decide)))).keep K455 nin0).other W460 (Or.inl ne_a1_b452)).other W465 (Or.inl ne_a1_o455))
    have fz467_2 := (((Fw453.keep K455 nin0).other W460 (Or.inl ne_a1_b452)).other W465 (Or.inl ne_a1_o455))
    have fz467_3 := (((((fz450_3.ext E452).other W453 (Ne.symm ne12)).keep K455 nin0).other W460 ne_a2_b452).other W465 ne_a2_o455)
    have fz467_4 := (((((V448.ext E452).other W453 (Ne.symm ne_a1_b377)).keep K455 nin0).other W460 ne_b377_b452).other W465 ne_b377_o455)
    have fz467_5 := (((((fz450_5.ext E452).wr W453).keep K455).wr W460).wr W465)
    have fz467_6 := (V460.other W465 ne_b452_o455)
    have fz467_7 := ((((Ex452.wr W453).keep K455).wr W460).wr W465)
    refine own_by (fun t k => XS.iinc X465.here hx rfl (hb hby d1_134) rfl (l' := #[.val (.ref a1), .val (.int (4 : Int32)), .val (.ref a2), .val (.ref o455), .val (.int (1 : Int32)), .val (.int (5 : Int32)), .val (.int d4)]) rfl k) ?_
    show ORun p e below s _ _ _ T465 (mkF m 137 #[.val (.ref a1), .val (.int (4 : Int32)), .val (.ref a2), .val (.ref o455), .val (.int (1 : Int32)), .val (.int (5 : Int32)), .val (.int d4)] [])
    refine own_by (fun t k => XS.goto X465.here hx rfl (pc0 := 137) (pc' := 104) rfl (hb hby d1_137) (by decide) (by decide) k) ?_
    show ORun p e below s _ _ _ T465 (mkF m 104 #[.val (.ref a1), .val (.int (4 : Int32)), .val (.ref a2), .val (.ref o455), .val (.int (1 : Int32)), .val (.int (5 : Int32)), .val (.int d4)] [])
    refine own_by (fun t k => XS.iload X465.here hx rfl (hb hby d1_104) rfl k) ?_
    show ORun p e below s _ _ _ T465 (mkF m 106 #[.val (.ref a1), .val (.int (4 : Int32)), .val (.ref a2), .val (.ref o455), .val (.int (1 : Int32)), .val (.int (5 : Int32)), .val (.int d4)] [(.int (1 : Int32))])
    refine own_by (fun t k => XS.aloadN X465.here hx rfl (hb hby d1_106) rfl rfl k) ?_
    show ORun p e below s _ _ _ T465 (mkF m 107 #[.val (.ref a1), .val (.int (4 : Int32)), .val (.ref a2), .val (.ref o455), .val (.int (1 : Int32)), .val (.int (5 : Int32)), .val (.int d4)] [(.ref a2), (.int (1 : Int32))])
    refine own_len X465 hx hZ e465 fz467_3 (n := 5) lds (hb hby d1_107) ?_
    show ORun p e below s _ _ _ T465 (mkF m 108 #[.val (.ref a1), .val (.int (4 : Int32)), .val (.ref a2), .val (.ref o455), .val (.int (1 : Int32)), .val (.int (5 : Int32)), .val (.int d4)] [(.int (5 : Int32)), (.int (1 : Int32))])
    refine own_by (fun t k => XS.icmpNo X465.here hx rfl (hb hby d1_108) rfl (tlt (by decide)).2.1 k) ?_
    show ORun p e below s _ _ _ T465 (mkF m 111 #[.val (.ref a1), .val (.int (4 : Int32)), .val (.ref a2), .val (.ref o455), .val (.int (1 : Int32)), .val (.int (5 : Int32)), .val (.int d4)] [])
    refine own_by (fun t k => XS.aloadN X465.here hx rfl (hb hby d1_111) rfl rfl k) ?_
    show ORun p e below s _ _ _ T465 (mkF m 112 #[.val (.ref a1), .val (.int (4 : Int32)), .val (.ref a2), .val (.ref o455), .val (.int (1 : Int32)), .val (.int (5 : Int32)), .val (.int d4)] [(.ref a1)])
    obtain ⟨T468, X468, e468, st468⟩ := getF X465 hx hZ hown (host := "") (Or.inl (hw _ (List.mem_of_getElem? (i := 14) rfl))) Via.refl e465 fz467_2 (g := (mkF m 112 #[.val (.ref a1), .val (.int (4 : Int32)), .val (.ref a2), .val (.ref o455), .val (.int (1 : Int32)), .val (.int (5 : Int32)), .val (.int d4)] [(.ref a1)])) rfl rfl (hb hby d1_112)
    refine own_by st468 ?_
    show ORun p e below s _ _ _ T468 (mkF m 115 #[.val (.ref a1), .val (.int (4 : Int32)), .val (.ref a2), .val (.ref o455), .val (.int (1 : Int32)), .val (.int (5 : Int32)), .val (.int d4)] [(.ref b452)])
    refine own_by (fun t k => XS.aloadN X468.here hx rfl (hb hby d1_115) rfl rfl k) ?_
    show ORun p e below s _ _ _ T468 (mkF m 116 #[.val (.ref a1), .val (.int (4 : Int32)), .val (.ref a2), .val (.ref o455), .val (.int (1 : Int32)), .val (.int (5 : Int32)), .val (.int d4)] [(.ref o455), (.ref b452)])
    refine own_by (fun t k => XS.aloadN X468.here hx rfl (hb hby d1_116) rfl rfl k) ?_
    show ORun p e below s _ _ _ T468 (mkF m 117 #[.val (.ref a1), .val (.int (4 : Int32)), .val (.ref a2), .val (.ref o455), .val (.int (1 : Int32)), .val (.int (5 : Int32)), .val (.int d4)] [(.ref a2), (.ref o455), (.ref b452)])
    refine own_by (fun t k => XS.iload X468.here hx rfl (hb hby d1_117) rfl k) ?_
    show ORun p e below s _ _ _ T468 (mkF m 119 #[.val (.ref a1), .val (.int (4 : Int32)), .val (.ref a2), .val (.ref o455), .val (.int (1 : Int32)), .val (.int (5 : Int32)), .val (.int d4)] [(.int (1 : Int32)), (.ref a2), (.ref o455), (.ref b452)])
    refine own_iaload X468 hx hZ e468 fz467_3 (i := 1) (by decide) (by omega) (hb hby d1_119) ?_
    intro v469 hv469
    obtain rfl : d1 = v469 := hv469.symm
    show ORun p e below s _ _ _ T468 (mkF m 120 #[.val (.ref a1), .val (.int (4 : Int32)), .val (.ref a2), .val (.ref o455), .val (.int (1 : Int32)), .val (.int (5 : Int32)), .val (.int d4)] [(.int d1), (.ref o455), (.ref b452)])
    refine own_iaload X468 hx hZ e468 V465 (i := d1.toInt.toNat) (by omega) (by omega) (hb hby d1_120) ?_
    intro v470 hv470
    have r470 := rng32 v470
    show ORun p e below s _ _ _ T468 (mkF m 121 #[.val (.ref a1), .val (.int (4 : Int32)), .val (.ref a2), .val (.ref o455), .val (.int (1 : Int32)), .val (.int (5 : Int32)), .val (.int d4)] [(.int v470), (.ref b452)])
    have mp471 : v470 = own_pos 4 [d0, d1, d2, d3, d4] 1 := by rw [hv470, mN466]; show _ = (own_N 4 [d0, d1, d2, d3, d4] 1).getD (([d0, d1, d2, d3, d4] : List Int32).getD 1 0).toInt.toNat 0; rfl
    have bp471 := own_Ppos PP 1 (by decide)
    rw [← mp471] at bp471
    refine own_by (fun t k => XS.iload X468.here hx rfl (hb hby d1_121) rfl k) ?_
    show ORun p e below s _ _ _ T468 (mkF m 123 #[.val (.ref a1), .val (.int (4 : Int32)), .val (.ref a2), .val (.ref o455), .val (.int (1 : Int32)), .val (.int (5 : Int32)), .val (.int d4)] [(.int (1 : Int32)), (.int v470), (.ref b452)])
    refine own_iastore X468 hx hZ e468 fz467_6 (i := v470.toInt.toNat) (by omega) (by omega) (hb hby d1_123) ?_
    intro T472 h472 L472 X472 e472 W472 hL472 V472
    have len472 : L472.length = 5 := by rw [hL472, List.length_set]; exact len460
    have N472 := Fr.snoc X472 N465 old_b452
    show ORun p e below s _ _ _ T472 (mkF m 124 #[.val (.ref a1), .val (.int (4 : Int32)), .val (.ref a2), .val (.ref o455), .val (.int (1 : Int32)), .val (.int (5 : Int32)), .val (.int d4)] [])
    have mF473 : L472 = own_Dk 4 [d0, d1, d2, d3, d4] 2 := by rw [hL472, mp471, mF461]; show _ = (own_Dk 4 [d0, d1, d2, d3, d4] 1).set (own_pos 4 [d0, d1, d2, d3, d4] 1).toInt.toNat (Int32.ofNat 1); rfl
    refine own_by (fun t k => XS.aloadN X472.here hx rfl (hb hby d1_124) rfl rfl k) ?_
    show ORun p e below s _ _ _ T472 (mkF m 125 #[.val (.ref a1), .val (.int (4 : Int32)), .val (.ref a2), .val (.ref o455), .val (.int (1 : Int32)), .val (.int (5 : Int32)), .val (.int d4)] [(.ref o455)])
    refine own_by (fun t k => XS.aloadN X472.here hx rfl (hb hby d1_125) rfl rfl k) ?_
    show ORun p e below s _ _ _ T472 (mkF m 126 #[.val (.ref a1), .val (.int (4 : Int32)), .val (.ref a2), .val (.ref o455), .val (.int (1 : Int32)), .val (.int (5 : Int32)), .val (.int d4)] [(.ref a2), (.ref o455)])
    refine own_by (fun t k => XS.iload X472.here hx rfl (hb hby d1_126) rfl k) ?_
    show ORun p e below s _ _ _ T472 (mkF m 128 #[.val (.ref a1), .val (.int (4 : Int32)), .val (.ref a2), .val (.ref o455), .val (.int (1 : Int32)), .val (.int (5 : Int32)), .val (.int d4)] [(.int (1 : Int32)), (.ref a2), (.ref o455)])
    refine own_iaload X472 hx hZ e472 (fz467_3.other W472 ne_a2_b452) (i := 1) (by decide) (by omega) (hb hby d1_128) ?_
    intro v474 hv474
    obtain rfl : d1 = v474 := hv474.symm
    show ORun p e below s _ _ _ T472 (mkF m 129 #[.val (.ref a1), .val (.int (4 : Int32)), .val (.ref a2), .val (.ref o455), .val (.int (1 : Int32)), .val (.int (5 : Int32)), .val (.int d4)] [(.int d1), (.ref o455)])
    refine own_by (fun t k => XT.dup2 X472.here hx rfl (hb hby d1_129) rfl rfl rfl k) ?_
    show ORun p e below s _ _ _ T472 (mkF m 130 #[.val (.ref a1), .val (.int (4 : Int32)), .val (.ref a2), .val (.ref o455), .val (.int (1 : Int32)), .val (.int (5 : Int32)), .val (.int d4)] [(.int d1), (.ref o455), (.int d1), (.ref o455)])
    refine own_iaload X472 hx hZ e472 (V465.other W472 (Ne.symm ne_b452_o455)) (i := d1.toInt.toNat) (by omega) (by omega) (hb hby d1_130) ?_
    intro v475 hv475
    have r475 := rng32 v475
    show ORun p e below s _ _ _ T472 (mkF m 131 #[.val (.ref a1), .val (.int (4 : Int32)), .val (.ref a2), .val (.ref o455), .val (.int (1 : Int32)), .val (.int (5 : Int32)), .val (.int d4)] [(.int v475), (.int d1), (.ref o455)])
    refine own_by (fun t k => XS.iconst X472.here hx rfl (hb hby d1_131) k) ?_
    show ORun p e below s _ _ _ T472 (mkF m 132 #[.val (.ref a1), .val (.int (4 : Int32)), .val (.ref a2), .val (.ref o455), .val (.int (1 : Int32)), .val (.int (5 : Int32)), .val (.int d4)] [(.int (1 : Int32)), (.int v475), (.int d1), (.ref o455)])
    refine own_by (fun t k => XS.iadd X472.here hx rfl (hb hby d1_132) rfl k) (own_letI (f := (fun z => (mkF m 133 #[.val (.ref a1), .val (.int (4 : Int32)), .val (.ref a2), .val (.ref o455), .val (.int (1 : Int32)), .val (.int (5 : Int32)), .val (.int d4)] [(.int z), (.int d1), (.ref o455)]))) (v475 + (1 : Int32)) fun v476 hv476 => ?_)
    show ORun p e below s _ _ _ T472 (mkF m 133 #[.val (.ref a1), .val (.int (4 : Int32)), .val (.ref a2), .val (.ref o455), .val (.int (1 : Int32)), .val (.int (5 : Int32)), .val (.int d4)] [(.int v476), (.int d1), (.ref o455)])
    have a476a : (v476.toInt - (v475.toInt + 1)) % 4294967296 = 0 := by rw [hv476]; exact c_iadd v475 (1 : Int32)
    have r476 := rng32 v476
    refine own_iastore X472 hx hZ e472 (V465.other W472 (Ne.symm ne_b452_o455)) (i := d1.toInt.toNat) (by omega) (by omega) (hb hby d1_133) ?_
    intro T477 h477 L477 X477 e477 W477 hL477 V477
    have len477 : L477.length = 4 := by rw [hL477, List.length_set]; exact len465
    have N477 := Fr.snoc X477 N472 old_o455
    show ORun p e below s _ _ _ T477 (mkF m 134 #[.val (.ref a1), .val (.int (4 : Int32)), .val (.ref a2), .val (.ref o455), .val (.int (1 : Int32)), .val (.int (5 : Int32)), .val (.int d4)] [])
    have mN478 : L477 = own_N 4 [d0, d1, d2, d3, d4] 2 := by rw [hL477, hv476, hv475, mN466]; show _ = (own_N 4 [d0, d1, d2, d3, d4] 1).set (([d0, d1, d2, d3, d4] : List Int32).getD 1 0).toInt.toNat ((own_N 4 [d0, d1, d2, d3, d4] 1).getD (([d0, d1, d2, d3, d4] : List Int32).getD 1 0).toInt.toNat 0 + 1); rfl
    clear r470 bp471 r475 a476a r476
    have Kz479 : Keep h0 h477 [a1] := ((((Keep.refl h0 [a1]).trans Kz467 (allS (Or.inl (List.mem_of_getElem? (i := 0) rfl)) all0)).wr W472 (Or.inr sz_b452)).wr W477 (Or.inr sz_o455))
    have fz479_0 := ((fz467_0.wr W472).wr W477)
    have fz479_1 := ((fz467_1.other W472 (Or.inl ne_a1_b452)).other W477 (Or.inl ne_a1_o455))
    have fz479_2 := ((fz467_2.other W472 (Or.inl ne_a1_b452)).other W477 (Or.inl ne_a1_o455))
    have fz479_3 := ((fz467_3.other W472 ne_a2_b452).other W477 ne_a2_o455)
    have fz479_4 := ((fz467_4.other W472 ne_b377_b452).other W477 ne_b377_o455)
    have fz479_5 := ((fz467_5.wr W472).wr W477)
    have fz479_6 := (V472.other W477 ne_b452_o455)
    have fz479_7 := ((fz467_7.wr W472).wr W477)
    refine own_by (fun t k => XS.iinc X477.here hx rfl (hb hby d1_134) rfl (l' := #[.val (.ref a1), .val (.int (4 : Int32)), .val (.ref a2), .val (.ref o455), .val (.int (2 : Int32)), .val (.int (5 : Int32)), .val (.int d4)]) rfl k) ?_
    show ORun p e below s _ _ _ T477 (mkF m 137 #[.val (.ref a1), .val (.int (4 : Int32)), .val (.ref a2), .val (.ref o455), .val (.int (2 : Int32)), .val (.int (5 : Int32)), .val (.int d4)] [])
    refine own_by (fun t k => XS.goto X477.here hx rfl (pc0 := 137) (pc' := 104) rfl (hb hby d1_137) (by decide) (by decide) k) ?_
    show ORun p e below s _ _ _ T477 (mkF m 104 #[.val (.ref a1), .val (.int (4 : Int32)), .val (.ref a2), .val (.ref o455), .val (.int (2 : Int32)), .val (.int (5 : Int32)), .val (.int d4)] [])
    refine own_by (fun t k => XS.iload X477.here hx rfl (hb hby d1_104) rfl k) ?_
    show ORun p e below s _ _ _ T477 (mkF m 106 #[.val (.ref a1), .val (.int (4 : Int32)), .val (.ref a2), .val (.ref o455), .val (.int (2 : Int32)), .val (.int (5 : Int32)), .val (.int d4)] [(.int (2 : Int32))])
    refine own_by (fun t k => XS.aloadN X477.here hx rfl (hb hby d1_106) rfl rfl k) ?_
    show ORun p e below s _ _ _ T477 (mkF m 107 #[.val (.ref a1), .val (.int (4 : Int32)), .val (.ref a2), .val (.ref o455), .val (.int (2 : Int32)), .val (.int (5 : Int32)), .val (.int d4)] [(.ref a2), (.int (2 : Int32))])
    refine own_len X477 hx hZ e477 fz479_3 (n := 5) lds (hb hby d1_107) ?_
    show ORun p e below s _ _ _ T477 (mkF m 108 #[.val (.ref a1), .val (.int (4 : Int32)), .val (.ref a2), .val (.ref o455), .val (.int (2 : Int32)), .val (.int (5 : Int32)), .val (.int d4)] [(.int (5 : Int32)), (.int (2 : Int32))])
    refine own_by (fun t k => XS.icmpNo X477.here hx rfl (hb hby d1_108) rfl (tlt (by decide)).2.1 k) ?_
    show ORun p e below s _ _ _ T477 (mkF m 111 #[.val (.ref a1), .val (.int (4 : Int32)), .val (.ref a2), .val (.ref o455), .val (.int (2 : Int32)), .val (.int (5 : Int32)), .val (.int d4)] [])
    refine own_by (fun t k => XS.aloadN X477.here hx rfl (hb hby d1_111) rfl rfl k) ?_
    show ORun p e below s _ _ _ T477 (mkF m 112 #[.val (.ref a1), .val (.int (4 : Int32)), .val (.ref a2), .val (.ref o455), .val (.int (2 : Int32)), .val (.int (5 : Int32)), .val (.int d4)] [(.ref a1)])
    obtain ⟨T480, X480, e480, st480⟩ := getF X477 hx hZ hown (host := "") (Or.inl (hw _ (List.mem_of_getElem? (i := 14) rfl))) Via.refl e477 fz479_2 (g := (mkF m 112 #[.val (.ref a1), .val (.int (4 : Int32)), .val (.ref a2), .val (.ref o455), .val (.int (2 : Int32)), .val (.int (5 : Int32)), .val (.int d4)] [(.ref a1)])) rfl rfl (hb hby d1_112)
    refine own_by st480 ?_
    show ORun p e below s _ _ _ T480 (mkF m 115 #[.val (.ref a1), .val (.int (4 : Int32)), .val (.ref a2), .val (.ref o455), .val (.int (2 : Int32)), .val (.int (5 : Int32)), .val (.int d4)] [(.ref b452)])
    refine own_by (fun t k => XS.aloadN X480.here hx rfl (hb hby d1_115) rfl rfl k) ?_
    show ORun p e below s _ _ _ T480 (mkF m 116 #[.val (.ref a1), .val (.int (4 : Int32)), .val (.ref a2), .val (.ref o455), .val (.int (2 : Int32)), .val (.int (5 : Int32)), .val (.int d4)] [(.ref o455), (.ref b452)])
    refine own_by (fun t k => XS.aloadN X480.here hx rfl (hb hby d1_116) rfl rfl k) ?_
    show ORun p e below s _ _ _ T480 (mkF m 117 #[.val (.ref a1), .val (.int (4 : Int32)), .val (.ref a2), .val (.ref o455), .val (.int (2 : Int32)), .val (.int (5 : Int32)), .val (.int d4)] [(.ref a2), (.ref o455), (.ref b452)])
    refine own_by (fun t k => XS.iload X480.here hx rfl (hb hby d1_117) rfl k) ?_
    show ORun p e below s _ _ _ T480 (mkF m 119 #[.val (.ref a1), .val (.int (4 : Int32)), .val (.ref a2), .val (.ref o455), .val (.int (2 : Int32)), .val (.int (5 : Int32)), .val (.int d4)] [(.int (2 : Int32)), (.ref a2), (.ref o455), (.ref b452)])
    refine own_iaload X480 hx hZ e480 fz479_3 (i := 2) (by decide) (by omega) (hb hby d1_119) ?_
    intro v481 hv481
    obtain rfl : d2 = v481 := hv481.symm
    show ORun p e below s _ _ _ T480 (mkF m 120 #[.val (.ref a1), .val (.int (4 : Int32)), .val (.ref a2), .val (.ref o455), .val (.int (2 : Int32)), .val (.int (5 : Int32)), .val (.int d4)] [(.int d2), (.ref o455), (.ref b452)])
    refine own_iaload X480 hx hZ e480 V477 (i := d2.toInt.toNat) (by omega) (by omega) (hb hby d1_120) ?_
    intro v482 hv482
    have r482 := rng32 v482
    show ORun p e below s _ _ _ T480 (mkF m 121 #[.val (.ref a1), .val (.int (4 : Int32)), .val (.ref a2), .val (.ref o455), .val (.int (2 : Int32)), .val (.int (5 : Int32)), .val (.int d4)] [(.int v482), (.ref b452)])
    have mp483 : v482 = own_pos 4 [d0, d1, d2, d3, d4] 2 := by rw [hv482, mN478]; show _ = (own_N 4 [d0, d1, d2, d3, d4] 2).getD (([d0, d1, d2, d3, d4] : List Int32).getD 2 0).toInt.toNat 0; rfl
    have bp483 := own_Ppos PP 2 (by decide)
    rw [← mp483] at bp483
    refine own_by (fun t k => XS.iload X480.here hx rfl (hb hby d1_121) rfl k) ?_
    show ORun p e below s _ _ _ T480 (mkF m 123 #[.val (.ref a1), .val (.int (4 : Int32)), .val (.ref a2), .val (.ref o455), .val (.int (2 : Int32)), .val (.int (5 : Int32)), .val (.int d4)] [(.int (2 : Int32)), (.int v482), (.ref b452)])
    refine own_iastore X480 hx hZ e480 fz479_6 (i := v482.toInt.toNat) (by omega) (by omega) (hb hby d1_123) ?_
    intro T484 h484 L484 X484 e484 W484 hL484 V484
    have len484 : L484.length = 5 := by rw [hL484, List.length_set]; exact len472
    have N484 := Fr.snoc X484 N477 old_b452
    show ORun p e below s _ _ _ T484 (mkF m 124 #[.val (.ref a1), .val (.int (4 : Int32)), .val (.ref a2), .val (.ref o455), .val (.int (2 : Int32)), .val (.int (5 : Int32)), .val (.int d4)] [])
    have mF485 : L484 = own_Dk 4 [d0, d1, d2, d3, d4] 3 := by rw [hL484, mp483, mF473]; show _ = (own_Dk 4 [d0, d1, d2, d3, d4] 2).set (own_pos 4 [d0, d1, d2, d3, d4] 2).toInt.toNat (Int32.ofNat 2); rfl
    refine own_by (fun t k => XS.aloadN X484.here hx rfl (hb hby d1_124) rfl rfl k) ?_
    show ORun p e below s _ _ _ T484 (mkF m 125 #[.val (.ref a1), .val (.int (4 : Int32)), .val (.ref a2), .val (.ref o455), .val (.int (2 : Int32)), .val (.int (5 : Int32)), .val (.int d4)] [(.ref o455)])
    refine own_by (fun t k => XS.aloadN X484.here hx rfl (hb hby d1_125) rfl rfl k) ?_
    show ORun p e below s _ _ _ T484 (mkF m 126 #[.val (.ref a1), .val (.int (4 : Int32)), .val (.ref a2), .val (.ref o455), .val (.int (2 : Int32)), .val (.int (5 : Int32)), .val (.int d4)] [(.ref a2), (.ref o455)])
    refine own_by (fun t k => XS.iload X484.here hx rfl (hb hby d1_126) rfl k) ?_
    show ORun p e below s _ _ _ T484 (mkF m 128 #[.val (.ref a1), .val (.int (4 : Int32)), .val (.ref a2), .val (.ref o455), .val (.int (2 : Int32)), .val (.int (5 : Int32)), .val (.int d4)] [(.int (2 : Int32)), (.ref a2), (.ref o455)])
    refine own_iaload X484 hx hZ e484 (fz479_3.other W484 ne_a2_b452) (i := 2) (by decide) (by omega) (hb hby d1_128) ?_
    intro v486 hv486
    obtain rfl : d2 = v486 := hv486.symm
    show ORun p e below s _ _ _ T484 (mkF m 129 #[.val (.ref a1), .val (.int (4 : Int32)), .val (.ref a2), .val (.ref o455), .val (.int (2 : Int32)), .val (.int (5 : Int32)), .val (.int d4)] [(.int d2), (.ref o455)])
    refine own_by (fun t k => XT.dup2 X484.here hx rfl (hb hby d1_129) rfl rfl rfl k) ?_
    show ORun p e below s _ _ _ T484 (mkF m 130 #[.val (.ref a1), .val (.int (4 : Int32)), .val (.ref a2), .val (.ref o455), .val (.int (2 : Int32)), .val (.int (5 : Int32)), .val (.int d4)] [(.int d2), (.ref o455), (.int d2), (.ref o455)])
    refine own_iaload X484 hx hZ e484 (V477.other W484 (Ne.symm ne_b452_o455)) (i := d2.toInt.toNat) (by omega) (by omega) (hb hby d1_130) ?_
    intro v487 hv487
    have r487 := rng32 v487
    show ORun p e below s _ _ _ T484 (mkF m 131 #[.val (.ref a1), .val (.int (4 : Int32)), .val (.ref a2), .val (.ref o455), .val (.int (2 : Int32)), .val (.int (5 : Int32)), .val (.int d4)] [(.int v487), (.int d2), (.ref o455)])
    refine own_by (fun t k => XS.iconst X484.here hx rfl (hb hby d1_131) k) ?_
    show ORun p e below s _ _ _ T484 (mkF m 132 #[.val (.ref a1), .val (.int (4 : Int32)), .val (.ref a2), .val (.ref o455), .val (.int (2 : Int32)), .val (.int (5 : Int32)), .val (.int d4)] [(.int (1 : Int32)), (.int v487), (.int d2), (.ref o455)])
    refine own_by (fun t k => XS.iadd X484.here hx rfl (hb hby d1_132) rfl k) (own_letI (f := (fun z => (mkF m 133 #[.val (.ref a1), .val (.int (4 : Int32)), .val (.ref a2), .val (.ref o455), .val (.int (2 : Int32)), .val (.int (5 : Int32)), .val (.int d4)] [(.int z), (.int d2), (.ref o455)]))) (v487 + (1 : Int32)) fun v488 hv488 => ?_)
    show ORun p e below s _ _ _ T484 (mkF m 133 #[.val (.ref a1), .val (.int (4 : Int32)), .val (.ref a2), .val (.ref o455), .val (.int (2 : Int32)), .val (.int (5 : Int32)), .val (.int d4)] [(.int v488), (.int d2), (.ref o455)])
    have a488a : (v488.toInt - (v487.toInt + 1)) % 4294967296 = 0 := by rw [hv488]; exact c_iadd v487 (1 : Int32)
    have r488 := rng32 v488
    refine own_iastore X484 hx hZ e484 (V477.other W484 (Ne.symm ne_b452_o455)) (i := d2.toInt.toNat) (by omega) (by omega) (hb hby d1_133) ?_
    intro T489 h489 L489 X489 e489 W489 hL489 V489
    have len489 : L489.length = 4 := by rw [hL489, List.length_set]; exact len477
    have N489 := Fr.snoc X489 N484 old_o455
    show ORun p e below s _ _ _ T489 (mkF m 134 #[.val (.ref a1), .val (.int (4 : Int32)), .val (.ref a2), .val (.ref o455), .val (.int (2 : Int32)), .val (.int (5 : Int32)), .val (.int d4)] [])
    have mN490 : L489 = own_N 4 [d0, d1, d2, d3, d4] 3 := by rw [hL489, hv488, hv487, mN478]; show _ = (own_N 4 [d0, d1, d2, d3, d4] 2).set (([d0, d1, d2, d3, d4] : List Int32).getD 2 0).toInt.toNat ((own_N 4 [d0, d1, d2, d3, d4] 2).getD (([d0, d1, d2, d3, d4] : List Int32).getD 2 0).toInt.toNat 0 + 1); rfl
    clear r482 bp483 r487 a488a r488
    have Kz491 : Keep h0 h489 [a1] := ((((Keep.refl h0 [a1]).trans Kz479 (allS (Or.inl (List.mem_of_getElem? (i := 0) rfl)) all0)).wr W484 (Or.inr sz_b452)).wr W489 (Or.inr sz_o455))
    have fz491_0 := ((fz479_0.wr W484).wr W489)
    have fz491_1 := ((fz479_1.other W484 (Or.inl ne_a1_b452)).other W489 (Or.inl ne_a1_o455))
    have fz491_2 := ((fz479_2.other W484 (Or.inl ne_a1_b452)).other W489 (Or.inl ne_a1_o455))
    have fz491_3 := ((fz479_3.other W484 ne_a2_b452).other W489 ne_a2_o455)
    have fz491_4 := ((fz479_4.other W484 ne_b377_b452).other W489 ne_b377_o455)
    have fz491_5 := ((fz479_5.wr W484).wr W489)
    have fz491_6 := (V484.other W489 ne_b452_o455)
    have fz491_7 := ((fz479_7.wr W484).wr W489)
    refine own_by (fun t k => XS.iinc X489.here hx rfl (hb hby d1_134) rfl (l' := #[.val (.ref a1), .val (.int (4 : Int32)), .val (.ref a2), .val (.ref o455), .val (.int (3 : Int32)), .val (.int (5 : Int32)), .val (.int d4)]) rfl k) ?_
    show ORun p e below s _ _ _ T489 (mkF m 137 #[.val (.ref a1), .val (.int (4 : Int32)), .val (.ref a2), .val (.ref o455), .val (.int (3 : Int32)), .val (.int (5 : Int32)), .val (.int d4)] [])
    refine own_by (fun t k => XS.goto X489.here hx rfl (pc0 := 137) (pc' := 104) rfl (hb hby d1_137) (by decide) (by decide) k) ?_
    show ORun p e below s _ _ _ T489 (mkF m 104 #[.val (.ref a1), .val (.int (4 : Int32)), .val (.ref a2), .val (.ref o455), .val (.int (3 : Int32)), .val (.int (5 : Int32)), .val (.int d4)] [])
    refine own_by (fun t k => XS.iload X489.here hx rfl (hb hby d1_104) rfl k) ?_
    show ORun p e below s _ _ _ T489 (mkF m 106 #[.val (.ref a1), .val (.int (4 : Int32)), .val (.ref a2), .val (.ref o455), .val (.int (3 : Int32)), .val (.int (5 : Int32)), .val (.int d4)] [(.int (3 : Int32))])
    refine own_by (fun t k => XS.aloadN X489.here hx rfl (hb hby d1_106) rfl rfl k) ?_
    show ORun p e below s _ _ _ T489 (mkF m 107 #[.val (.ref a1), .val (.int (4 : Int32)), .val (.ref a2), .val (.ref o455), .val (.int (3 : Int32)), .val (.int (5 : Int32)), .val (.int d4)] [(.ref a2), (.int (3 : Int32))])
    refine own_len X489 hx hZ e489 fz491_3 (n := 5) lds (hb hby d1_107) ?_
    show ORun p e below s _ _ _ T489 (mkF m 108 #[.val (.ref a1), .val (.int (4 : Int32)), .val (.ref a2), .val (.ref o455), .val (.int (3 : Int32)), .val (.int (5 : Int32)), .val (.int d4)] [(.int (5 : Int32)), (.int (3 : Int32))])
    refine own_by (fun t k => XS.icmpNo X489.here hx rfl (hb hby d1_108) rfl (tlt (by decide)).2.1 k) ?_
    show ORun p e below s _ _ _ T489 (mkF m 111 #[.val (.ref a1), .val (.int (4 : Int32)), .val (.ref a2), .val (.ref o455), .val (.int (3 : Int32)), .val (.int (5 : Int32)), .val (.int d4)] [])
    refine own_by (fun t k => XS.aloadN X489.here hx rfl (hb hby d1_111) rfl rfl k) ?_
    show ORun p e below s _ _ _ T489 (mkF m 112 #[.val (.ref a1), .val (.int (4 : Int32)), .val (.ref a2), .val (.ref o455), .val (.int (3 : Int32)), .val (.int (5 : Int32)), .val (.int d4)] [(.ref a1)])
    obtain ⟨T492, X492, e492, st492⟩ := getF X489 hx hZ hown (host := "") (Or.inl (hw _ (List.mem_of_getElem? (i := 14) rfl))) Via.refl e489 fz491_2 (g := (mkF m 112 #[.val (.ref a1), .val (.int (4 : Int32)), .val (.ref a2), .val (.ref o455), .val (.int (3 : Int32)), .val (.int (5 : Int32)), .val (.int d4)] [(.ref a1)])) rfl rfl (hb hby d1_112)
    refine own_by st492 ?_
    show ORun p e below s _ _ _ T492 (mkF m 115 #[.val (.ref a1), .val (.int (4 : Int32)), .val (.ref a2), .val (.ref o455), .val (.int (3 : Int32)), .val (.int (5 : Int32)), .val (.int d4)] [(.ref b452)])
    refine own_by (fun t k => XS.aloadN X492.here hx rfl (hb hby d1_115) rfl rfl k) ?_
    show ORun p e below s _ _ _ T492 (mkF m 116 #[.val (.ref a1), .val (.int (4 : Int32)), .val (.ref a2), .val (.ref o455), .val (.int (3 : Int32)), .val (.int (5 : Int32)), .val (.int d4)] [(.ref o455), (.ref b452)])
    refine own_by (fun t k => XS.aloadN X492.here hx rfl (hb hby d1_116) rfl rfl k) ?_
    show ORun p e below s _ _ _ T492 (mkF m 117 #[.val (.ref a1), .val (.int (4 : Int32)), .val (.ref a2), .val (.ref o455), .val (.int (3 : Int32)), .val (.int (5 : Int32)), .val (.int d4)] [(.ref a2), (.ref o455), (.ref b452)])
    refine own_by (fun t k => XS.iload X492.here hx rfl (hb hby d1_117) rfl k) ?_
    show ORun p e below s _ _ _ T492 (mkF m 119 #[.val (.ref a1), .val (.int (4 : Int32)), .val (.ref a2), .val (.ref o455), .val (.int (3 : Int32)), .val (.int (5 : Int32)), .val (.int d4)] [(.int (3 : Int32)), (.ref a2), (.ref o455), (.ref b452)])
    refine own_iaload X492 hx hZ e492 fz491_3 (i := 3) (by decide) (by omega) (hb hby d1_119) ?_
    intro v493 hv493
    obtain rfl : d3 = v493 := hv493.symm
    show ORun p e below s _ _ _ T492 (mkF m 120 #[.val (.ref a1), .val (.int (4 : Int32)), .val (.ref a2), .val (.ref o455), .val (.int (3 : Int32)), .val (.int (5 : Int32)), .val (.int d4)] [(.int d3), (.ref o455), (.ref b452)])
    refine own_iaload X492 hx hZ e492 V489 (i := d3.toInt.toNat) (by omega) (by omega) (hb hby d1_120) ?_
    intro v494 hv494
    have r494 := rng32 v494
    show ORun p e below s _ _ _ T492 (mkF m 121 #[.val (.ref a1), .val (.int (4 : Int32)), .val (.ref a2), .val (.ref o455), .val (.int (3 : Int32)), .val (.int (5 : Int32)), .val (.int d4)] [(.int v494), (.ref b452)])
    have mp495 : v494 = own_pos 4 [d0, d1, d2, d3, d4] 3 := by rw [hv494, mN490]; show _ = (own_N 4 [d0, d1, d2, d3, d4] 3).getD (([d0, d1, d2, d3, d4] : List Int32).getD 3 0).toInt.toNat 0; rfl
    have bp495 := own_Ppos PP 3 (by decide)
    rw [← mp495] at bp495
    refine own_by (fun t k => XS.iload X492.here hx rfl (hb hby d1_121) rfl k) ?_
    show ORun p e below s _ _ _ T492 (mkF m 123 #[.val (.ref a1), .val (.int (4 : Int32)), .val (.ref a2), .val (.ref o455), .val (.int (3 : Int32)), .val (.int (5 : Int32)), .val (.int d4)] [(.int (3 : Int32)), (.int v494), (.ref b452)])
    refine own_iastore X492 hx hZ e492 fz491_6 (i := v494.toInt.toNat) (by omega) (by omega) (hb hby d1_123) ?_
    intro T496 h496 L496 X496 e496 W496 hL496 V496
    have len496 : L496.length = 5 := by rw [hL496, List.length_set]; exact len484
    have N496 := Fr.snoc X496 N489 old_b452
    show ORun p e below s _ _ _ T496 (mkF m 124 #[.val (.ref a1), .val (.int (4 : Int32)), .val (.ref a2), .val (.ref o455), .val (.int (3 : Int32)), .val (.int (5 : Int32)), .val (.int d4)] [])
    have mF497 : L496 = own_Dk 4 [d0, d1, d2, d3, d4] 4 := by rw [hL496, mp495, mF485]; show _ = (own_Dk 4 [d0, d1, d2, d3, d4] 3).set (own_pos 4 [d0, d1, d2, d3, d4] 3).toInt.toNat (Int32.ofNat 3); rfl
    refine own_by (fun t k => XS.aloadN X496.here hx rfl (hb hby d1_124) rfl rfl k) ?_
    show ORun p e below s _ _ _ T496 (mkF m 125 #[.val (.ref a1), .val (.int (4 : Int32)), .val (.ref a2), .val (.ref o455), .val (.int (3 : Int32)), .val (.int (5 : Int32)), .val (.int d4)] [(.ref o455)])
    refine own_by (fun t k => XS.aloadN X496.here hx rfl (hb hby d1_125) rfl rfl k) ?_
    show ORun p e below s _ _ _ T496 (mkF m 126 #[.val (.ref a1), .val (.int (4 : Int32)), .val (.ref a2), .val (.ref o455), .val (.int (3 : Int32)), .val (.int (5 : Int32)), .val (.int d4)] [(.ref a2), (.ref o455)])
    refine own_by (fun t k => XS.iload X496.here hx rfl (hb hby d1_126) rfl k) ?_
    show ORun p e below s _ _ _ T496 (mkF m 128 #[.val (.ref a1), .val (.int (4 : Int32)), .val (.ref a2), .val (.ref o455), .val (.int (3 : Int32)), .val (.int (5 : Int32)), .val (.int d4)] [(.int (3 : Int32)), (.ref a2), (.ref o455)])
    refine own_iaload X496 hx hZ e496 (fz491_3.other W496 ne_a2_b452) (i := 3) (by decide) (by omega) (hb hby d1_128) ?_
    intro v498 hv498
    obtain rfl : d3 = v498 := hv498.symm
    show ORun p e below s _ _ _ T496 (mkF m 129 #[.val (.ref a1), .val (.int (4 : Int32)), .val (.ref a2), .val (.ref o455), .val (.int (3 : Int32)), .val (.int (5 : Int32)), .val (.int d4)] [(.int d3), (.ref o455)])
    refine own_by (fun t k => XT.dup2 X496.here hx rfl (hb hby d1_129) rfl rfl rfl k) ?_
    show ORun p e below s _ _ _ T496 (mkF m 130 #[.val (.ref a1), .val (.int (4 : Int32)), .val (.ref a2), .val (.ref o455), .val (.int (3 : Int32)), .val (.int (5 : Int32)), .val (.int d4)] [(.int d3), (.ref o455), (.int d3), (.ref o455)])
    refine own_iaload X496 hx hZ e496 (V489.other W496 (Ne.symm ne_b452_o455)) (i := d3.toInt.toNat) (by omega) (by omega) (hb hby d1_130) ?_
    intro v499 hv499
    have r499 := rng32 v499
    show ORun p e below s _ _ _ T496 (mkF m 131 #[.val (.ref a1), .val (.int (4 : Int32)), .val (.ref a2), .val (.ref o455), .val (.int (3 : Int32)), .val (.int (5 : Int32)), .val (.int d4)] [(.int v499), (.int d3), (.ref o455)])
    refine own_by (fun t k => XS.iconst X496.here hx rfl (hb hby d1_131) k) ?_
    show ORun p e below s _ _ _ T496 (mkF m 132 #[.val (.ref a1), .val (.int (4 : Int32)), .val (.ref a2), .val (.ref o455), .val (.int (3 : Int32)), .val (.int (5 : Int32)), .val (.int d4)] [(.int (1 : Int32)), (.int v499), (.int d3), (.ref o455)])
    refine own_by (fun t k => XS.iadd X496.here hx rfl (hb hby d1_132) rfl k) (own_letI (f := (fun z => (mkF m 133 #[.val (.ref a1), .val (.int (4 : Int32)), .val (.ref a2), .val (.ref o455), .val (.int (3 : Int32)), .val (.int (5 : Int32)), .val (.int d4)] [(.int z), (.int d3), (.ref o455)]))) (v499 + (1 : Int32)) fun v500 hv500 => ?_)
    show ORun p e below s _ _ _ T496 (mkF m 133 #[.val (.ref a1), .val (.int (4 : Int32)), .val (.ref a2), .val (.ref o455), .val (.int (3 : Int32)), .val (.int (5 : Int32)), .val (.int d4)] [(.int v500), (.int d3), (.ref o455)])
    have a500a : (v500.toInt - (v499.toInt + 1)) % 4294967296 = 0 := by rw [hv500]; exact c_iadd v499 (1 : Int32)
    have r500 := rng32 v500
    refine own_iastore X496 hx hZ e496 (V489.other W496 (Ne.symm ne_b452_o455)) (i := d3.toInt.toNat) (by omega) (by omega) (hb hby d1_133) ?_
    intro T501 h501 L501 X501 e501 W501 hL501 V501
    have len501 : L501.length = 4 := by rw [hL501, List.length_set]; exact len489
    have N501 := Fr.snoc X501 N496 old_o455
    show ORun p e below s _ _ _ T501 (mkF m 134 #[.val (.ref a1), .val (.int (4 : Int32)), .val (.ref a2), .val (.ref o455), .val (.int (3 : Int32)), .val (.int (5 : Int32)), .val (.int d4)] [])
    have mN502 : L501 = own_N 4 [d0, d1, d2, d3, d4] 4 := by rw [hL501, hv500, hv499, mN490]; show _ = (own_N 4 [d0, d1, d2, d3, d4] 3).set (([d0, d1, d2, d3, d4] : List Int32).getD 3 0).toInt.toNat ((own_N 4 [d0, d1, d2, d3, d4] 3).getD (([d0, d1, d2, d3, d4] : List Int32).getD 3 0).toInt.toNat 0 + 1); rfl
    clear r494 bp495 r499 a500a r500
    have Kz503 : Keep h0 h501 [a1] := ((((Keep.refl h0 [a1]).trans Kz491 (allS (Or.inl (List.mem_of_getElem? (i := 0) rfl)) all0)).wr W496 (Or.inr sz_b452)).wr W501 (Or.inr sz_o455))
    have fz503_0 := ((fz491_0.wr W496).wr W501)
    have fz503_1 := ((fz491_1.other W496 (Or.inl ne_a1_b452)).other W501 (Or.inl ne_a1_o455))
    have fz503_2 := ((fz491_2.other W496 (Or.inl ne_a1_b452)).other W501 (Or.inl ne_a1_o455))
    have fz503_3 := ((fz491_3.other W496 ne_a2_b452).other W501 ne_a2_o455)
    have fz503_4 := ((fz491_4.other W496 ne_b377_b452).other W501 ne_b377_o455)
    have fz503_5 := ((fz491_5.wr W496).wr W501)
    have fz503_6 := (V496.other W501 ne_b452_o455)
    have fz503_7 := ((fz491_7.wr W496).wr W501)
    refine own_by (fun t k => XS.iinc X501.here hx rfl (hb hby d1_134) rfl (l' := #[.val (.ref a1), .val (.int (4 : Int32)), .val (.ref a2), .val (.ref o455), .val (.int (4 : Int32)), .val (.int (5 : Int32)), .val (.int d4)]) rfl k) ?_
    show ORun p e below s _ _ _ T501 (mkF m 137 #[.val (.ref a1), .val (.int (4 : Int32)), .val (.ref a2), .val (.ref o455), .val (.int (4 : Int32)), .val (.int (5 : Int32)), .val (.int d4)] [])
    refine own_by (fun t k => XS.goto X501.here hx rfl (pc0 := 137) (pc' := 104) rfl (hb hby d1_137) (by decide) (by decide) k) ?_
    show ORun p e below s _ _ _ T501 (mkF m 104 #[.val (.ref a1), .val (.int (4 : Int32)), .val (.ref a2), .val (.ref o455), .val (.int (4 : Int32)), .val (.int (5 : Int32)), .val (.int d4)] [])
    refine own_by (fun t k => XS.iload X501.here hx rfl (hb hby d1_104) rfl k) ?_
    show ORun p e below s _ _ _ T501 (mkF m 106 #[.val (.ref a1), .val (.int (4 : Int32)), .val (.ref a2), .val (.ref o455), .val (.int (4 : Int32)), .val (.int (5 : Int32)), .val (.int d4)] [(.int (4 : Int32))])
    refine own_by (fun t k => XS.aloadN X501.here hx rfl (hb hby d1_106) rfl rfl k) ?_
    show ORun p e below s _ _ _ T501 (mkF m 107 #[.val (.ref a1), .val (.int (4 : Int32)), .val (.ref a2), .val (.ref o455), .val (.int (4 : Int32)), .val (.int (5 : Int32)), .val (.int d4)] [(.ref a2), (.int (4 : Int32))])
    refine own_len X501 hx hZ e501 fz503_3 (n := 5) lds (hb hby d1_107) ?_
    show ORun p e below s _ _ _ T501 (mkF m 108 #[.val (.ref a1), .val (.int (4 : Int32)), .val (.ref a2), .val (.ref o455), .val (.int (4 : Int32)), .val (.int (5 : Int32)), .val (.int d4)] [(.int (5 : Int32)), (.int (4 : Int32))])
    refine own_by (fun t k => XS.icmpNo X501.here hx rfl (hb hby d1_108) rfl (tlt (by decide)).2.1 k) ?_
    show ORun p e below s _ _ _ T501 (mkF m 111 #[.val (.ref a1), .val (.int (4 : Int32)), .val (.ref a2), .val (.ref o455), .val (.int (4 : Int32)), .val (.int (5 : Int32)), .val (.int d4)] [])
    refine own_by (fun t k => XS.aloadN X501.here hx rfl (hb hby d1_111) rfl rfl k) ?_
    show ORun p e below s _ _ _ T501 (mkF m 112 #[.val (.ref a1), .val (.int (4 : Int32)), .val (.ref a2), .val (.ref o455), .val (.int (4 : Int32)), .val (.int (5 : Int32)), .val (.int d4)] [(.ref a1)])
    obtain ⟨T504, X504, e504, st504⟩ := getF X501 hx hZ hown (host := "") (Or.inl (hw _ (List.mem_of_getElem? (i := 14) rfl))) Via.refl e501 fz503_2 (g := (mkF m 112 #[.val (.ref a1), .val (.int (4 : Int32)), .val (.ref a2), .val (.ref o455), .val (.int (4 : Int32)), .val (.int (5 : Int32)), .val (.int d4)] [(.ref a1)])) rfl rfl (hb hby d1_112)
    refine own_by st504 ?_
    show ORun p e below s _ _ _ T504 (mkF m 115 #[.val (.ref a1), .val (.int (4 : Int32)), .val (.ref a2), .val (.ref o455), .val (.int (4 : Int32)), .val (.int (5 : Int32)), .val (.int d4)] [(.ref b452)])
    refine own_by (fun t k => XS.aloadN X504.here hx rfl (hb hby d1_115) rfl rfl k) ?_
    show ORun p e below s _ _ _ T504 (mkF m 116 #[.val (.ref a1), .val (.int (4 : Int32)), .val (.ref a2), .val (.ref o455), .val (.int (4 : Int32)), .val (.int (5 : Int32)), .val (.int d4)] [(.ref o455), (.ref b452)])
    refine own_by (fun t k => XS.aloadN X504.here hx rfl (hb hby d1_116) rfl rfl k) ?_
    show ORun p e below s _ _ _ T504 (mkF m 117 #[.val (.ref a1), .val (.int (4 : Int32)), .val (.ref a2), .val (.ref o455), .val (.int (4 : Int32)), .val (.int (5 : Int32)), .val (.int d4)] [(.ref a2), (.ref o455), (.ref b452)])
    refine own_by (fun t k => XS.iload X504.here hx rfl (hb hby d1_117) rfl k) ?_
    show ORun p e below s _ _ _ T504 (mkF m 119 #[.val (.ref a1), .val (.int (4 : Int32)), .val (.ref a2), .val (.ref o455), .val (.int (4 : Int32)), .val (.int (5 : Int32)), .val (.int d4)] [(.int (4 : Int32)), (.ref a2), (.ref o455), (.ref b452)])
    refine own_iaload X504 hx hZ e504 fz503_3 (i := 4) (by decide) (by omega) (hb hby d1_119) ?_
    intro v505 hv505
    obtain rfl : d4 = v505 := hv505.symm
    show ORun p e below s _ _ _ T504 (mkF m 120 #[.val (.ref a1), .val (.int (4 : Int32)), .val (.ref a2), .val (.ref o455), .val (.int (4 : Int32)), .val (.int (5 : Int32)), .val (.int d4)] [(.int d4), (.ref o455), (.ref b452)])
    refine own_iaload X504 hx hZ e504 V501 (i := d4.toInt.toNat) (by omega) (by omega) (hb hby d1_120) ?_
    intro v506 hv506
    have r506 := rng32 v506
    show ORun p e below s _ _ _ T504 (mkF m 121 #[.val (.ref a1), .val (.int (4 : Int32)), .val (.ref a2), .val (.ref o455), .val (.int (4 : Int32)), .val (.int (5 : Int32)), .val (.int d4)] [(.int v506), (.ref b452)])
    have mp507 : v506 = own_pos 4 [d0, d1, d2, d3, d4] 4 := by rw [hv506, mN502]; show _ = (own_N 4 [d0, d1, d2, d3, d4] 4).getD (([d0, d1, d2, d3, d4] : List Int32).getD 4 0).toInt.toNat 0; rfl
    have bp507 := own_Ppos PP 4 (by decide)
    rw [← mp507] at bp507
    refine own_by (fun t k => XS.iload X504.here hx rfl (hb hby d1_121) rfl k) ?_
    show ORun p e below s _ _ _ T504 (mkF m 123 #[.val (.ref a1), .val (.int (4 : Int32)), .val (.ref a2), .val (.ref o455), .val (.int (4 : Int32)), .val (.int (5 : Int32)), .val (.int d4)] [(.int (4 : Int32)), (.int v506), (.ref b452)])
    refine own_iastore X504 hx hZ e504 fz503_6 (i := v506.toInt.toNat) (by omega) (by omega) (hb hby d1_123) ?_
    intro T508 h508 L508 X508 e508 W508 hL508 V508
    have len508 : L508.length = 5 := by rw [hL508, List.length_set]; exact len496
    have N508 := Fr.snoc X508 N501 old_b452
    show ORun p e below s _ _ _ T508 (mkF m 124 #[.val (.ref a1), .val (.int (4 : Int32)), .val (.ref a2), .val (.ref o455), .val (.int (4 : Int32)), .val (.int (5 : Int32)), .val (.int d4)] [])
    have mF509 : L508 = own_Dk 4 [d0, d1, d2, d3, d4] 5 := by rw [hL508, mp507, mF497]; show _ = (own_Dk 4 [d0, d1, d2, d3, d4] 4).set (own_pos 4 [d0, d1, d2, d3, d4] 4).toInt.toNat (Int32.ofNat 4); rfl
    refine own_by (fun t k => XS.aloadN X508.here hx rfl (hb hby d1_124) rfl rfl k) ?_
    show ORun p e below s _ _ _ T508 (mkF m 125 #[.val (.ref a1), .val (.int (4 : Int32)), .val (.ref a2), .val (.ref o455), .val (.int (4 : Int32)), .val (.int (5 : Int32)), .val (.int d4)] [(.ref o455)])
    refine own_by (fun t k => XS.aloadN X508.here hx rfl (hb hby d1_125) rfl rfl k) ?_
    show ORun p e below s _ _ _ T508 (mkF m 126 #[.val (.ref a1), .val (.int (4 : Int32)), .val (.ref a2), .val (.ref o455), .val (.int (4 : Int32)), .val (.int (5 : Int32)), .val (.int d4)] [(.ref a2), (.ref o455)])
    refine own_by (fun t k => XS.iload X508.here hx rfl (hb hby d1_126) rfl k) ?_
    show ORun p e below s _ _ _ T508 (mkF m 128 #[.val (.ref a1), .val (.int (4 : Int32)), .val (.ref a2), .val (.ref o455), .val (.int (4 : Int32)), .val (.int (5 : Int32)), .val (.int d4)] [(.int (4 : Int32)), (.ref a2), (.ref o455)])
    refine own_iaload X508 hx hZ e508 (fz503_3.other W508 ne_a2_b452) (i := 4) (by decide) (by omega) (hb hby d1_128) ?_
    intro v510 hv510
    obtain rfl : d4 = v510 := hv510.symm
    show ORun p e below s _ _ _ T508 (mkF m 129 #[.val (.ref a1), .val (.int (4 : Int32)), .val (.ref a2), .val (.ref o455), .val (.int (4 : Int32)), .val (.int (5 : Int32)), .val (.int d4)] [(.int d4), (.ref o455)])
    refine own_by (fun t k => XT.dup2 X508.here hx rfl (hb hby d1_129) rfl rfl rfl k) ?_
    show ORun p e below s _ _ _ T508 (mkF m 130 #[.val (.ref a1), .val (.int (4 : Int32)), .val (.ref a2), .val (.ref o455), .val (.int (4 : Int32)), .val (.int (5 : Int32)), .val (.int d4)] [(.int d4), (.ref o455), (.int d4), (.ref o455)])
    refine own_iaload X508 hx hZ e508 (V501.other W508 (Ne.symm ne_b452_o455)) (i := d4.toInt.toNat) (by omega) (by omega) (hb hby d1_130) ?_
    intro v511 hv511
    have r511 := rng32 v511
    show ORun p e below s _ _ _ T508 (mkF m 131 #[.val (.ref a1), .val (.int (4 : Int32)), .val (.ref a2), .val (.ref o455), .val (.int (4 : Int32)), .val (.int (5 : Int32)), .val (.int d4)] [(.int v511), (.int d4), (.ref o455)])
    refine own_by (fun t k => XS.iconst X508.here hx rfl (hb hby d1_131) k) ?_
    show ORun p e below s _ _ _ T508 (mkF m 132 #[.val (.ref a1), .val (.int (4 : Int32)), .val (.ref a2), .val (.ref o455), .val (.int (4 : Int32)), .val (.int (5 : Int32)), .val (.int d4)] [(.int (1 : Int32)), (.int v511), (.int d4), (.ref o455)])
    refine own_by (fun t k => XS.iadd X508.here hx rfl (hb hby d1_132) rfl k) (own_letI (f := (fun z => (mkF m 133 #[.val (.ref a1), .val (.int (4 : Int32)), .val (.ref a2), .val (.ref o455), .val (.int (4 : Int32)), .val (.int (5 : Int32)), .val (.int d4)] [(.int z), (.int d4), (.ref o455)]))) (v511 + (1 : Int32)) fun v512 hv512 => ?_)
    show ORun p e below s _ _ _ T508 (mkF m 133 #[.val (.ref a1), .val (.int (4 : Int32)), .val (.ref a2), .val (.ref o455), .val (.int (4 : Int32)), .val (.int (5 : Int32)), .val (.int d4)] [(.int v512), (.int d4), (.ref o455)])
    have a512a : (v512.toInt - (v511.toInt + 1)) % 4294967296 = 0 := by rw [hv512]; exact c_iadd v511 (1 : Int32)
    have r512 := rng32 v512
    refine own_iastore X508 hx hZ e508 (V501.other W508 (Ne.symm ne_b452_o455)) (i := d4.toInt.toNat) (by omega) (by omega) (hb hby d1_133) ?_
    intro T513 h513 L513 X513 e513 W513 hL513 V513
    have len513 : L513.length = 4 := by rw [hL513, List.length_set]; exact len501
    have N513 := Fr.snoc X513 N508 old_o455
    show ORun p e below s _ _ _ T513 (mkF m 134 #[.val (.ref a1), .val (.int (4 : Int32)), .val (.ref a2), .val (.ref o455), .val (.int (4 : Int32)), .val (.int (5 : Int32)), .val (.int d4)] [])
    have mN514 : L513 = own_N 4 [d0, d1, d2, d3, d4] 5 := by rw [hL513, hv512, hv511, mN502]; show _ = (own_N 4 [d0, d1, d2, d3, d4] 4).set (([d0, d1, d2, d3, d4] : List Int32).getD 4 0).toInt.toNat ((own_N 4 [d0, d1, d2, d3, d4] 4).getD (([d0, d1, d2, d3, d4] : List Int32).getD 4 0).toInt.toNat 0 + 1); rfl
    clear r506 bp507 r511 a512a r512
    have Kz515 : Keep h0 h513 [a1] := ((((Keep.refl h0 [a1]).trans Kz503 (allS (Or.inl (List.mem_of_getElem? (i := 0) rfl)) all0)).wr W508 (Or.inr sz_b452)).wr W513 (Or.inr sz_o455))
    have fz515_0 := ((fz503_0.wr W508).wr W513)
    have fz515_1 := ((fz503_1.other W508 (Or.inl ne_a1_b452)).other W513 (Or.inl ne_a1_o455))
    have fz515_2 := ((fz503_2.other W508 (Or.inl ne_a1_b452)).other W513 (Or.inl ne_a1_o455))
    have fz515_3 := ((fz503_3.other W508 ne_a2_b452).other W513 ne_a2_o455)
    have fz515_4 := ((fz503_4.other W508 ne_b377_b452).other W513 ne_b377_o455)
    have fz515_5 := ((fz503_5.wr W508).wr W513)
    have fz515_6 := (V508.other W513 ne_b452_o455)
    have fz515_7 := ((fz503_7.wr W508).wr W513)
    refine own_by (fun t k => XS.iinc X513.here hx rfl (hb hby d1_134) rfl (l' := #[.val (.ref a1), .val (.int (4 : Int32)), .val (.ref a2), .val (.ref o455), .val (.int (5 : Int32)), .val (.int (5 : Int32)), .val (.int d4)]) rfl k) ?_
    show ORun p e below s _ _ _ T513 (mkF m 137 #[.val (.ref a1), .val (.int (4 : Int32)), .val (.ref a2), .val (.ref o455), .val (.int (5 : Int32)), .val (.int (5 : Int32)), .val (.int d4)] [])
    refine own_by (fun t k => XS.goto X513.here hx rfl (pc0 := 137) (pc' := 104) rfl (hb hby d1_137) (by decide) (by decide) k) ?_
    show ORun p e below s _ _ _ T513 (mkF m 104 #[.val (.ref a1), .val (.int (4 : Int32)), .val (.ref a2), .val (.ref o455), .val (.int (5 : Int32)), .val (.int (5 : Int32)), .val (.int d4)] [])
    refine own_by (fun t k => XS.iload X513.here hx rfl (hb hby d1_104) rfl k) ?_
    show ORun p e below s _ _ _ T513 (mkF m 106 #[.val (.ref a1), .val (.int (4 : Int32)), .val (.ref a2), .val (.ref o455), .val (.int (5 : Int32)), .val (.int (5 : Int32)), .val (.int d4)] [(.int (5 : Int32))])
    refine own_by (fun t k => XS.aloadN X513.here hx rfl (hb hby d1_106) rfl rfl k) ?_
    show ORun p e below s _ _ _ T513 (mkF m 107 #[.val (.ref a1), .val (.int (4 : Int32)), .val (.ref a2), .val (.ref o455), .val (.int (5 : Int32)), .val (.int (5 : Int32)), .val (.int d4)] [(.ref a2), (.int (5 : Int32))])
    refine own_len X513 hx hZ e513 fz515_3 (n := 5) lds (hb hby d1_107) ?_
    show ORun p e below s _ _ _ T513 (mkF m 108 #[.val (.ref a1), .val (.int (4 : Int32)), .val (.ref a2), .val (.ref o455), .val (.int (5 : Int32)), .val (.int (5 : Int32)), .val (.int d4)] [(.int (5 : Int32)), (.int (5 : Int32))])
    refine own_by (fun t k => XS.icmpYes X513.here hx rfl (pc0 := 108) (pc' := 140) rfl (hb hby d1_108) rfl (flt (by decide)).2.1 (by decide) (by decide) k) ?_
    show ORun p e below s _ _ _ T513 (mkF m 140 #[.val (.ref a1), .val (.int (4 : Int32)), .val (.ref a2), .val (.ref o455), .val (.int (5 : Int32)), .val (.int (5 : Int32)), .val (.int d4)] [])
    refine own_retV X513 hx hret hlk (hb hby d1_140) (by decide) (by decide) ?_
    have mD516 : L508 = own_D 4 [d0, d1, d2, d3, d4] := mF509
    rw [e513]
    refine ⟨rfl, N513, ((Keep.refl h0 [a1]).trans Kz515 (allS (Or.inl (List.mem_of_getElem? (i := 0) rfl)) all0)), b377, b452, 4, L448, L508, fz515_0, fz515_1, fz515_2, fz515_4, len448, fz515_6, len508, fz515_7, by decide, ?_⟩
    intro q hq
    have z := own_Psel PP q hq
    rw [mS451, mD516]
    exact z
theorem pn_rm0 : plainName "com/example/kembar/kembar/cluster/SketchHoldersDocumentsOfPinLaw" = true := by first | (simp [plainName, overriddenIn]; done) | decide +kernel
theorem ef_rm0 (m : MethodId) (x0 : Int32) (x1 : Int32) (x2 : Int32) (x3 : Int32) (x4 : Int32) (x5 : Int32) : entryFrame m #[(.int x0), (.int x1), (.int x2), (.int x3), (.int x4), (.int x5)] maxLocals = mkF m 0 #[.val (.int x0), .val (.int x1), .val (.int x2), .val (.int x3), .val (.int x4), .val (.int x5), .unset, .unset, .unset, .unset, .unset, .unset, .unset] [] := by first | (simp [entryFrame, mkF, argsToLocals, Value.category, maxLocals]; done) | rfl
set_option maxRecDepth 65536 in
set_option maxHeartbeats 40000000 in
theorem rm0 (l : Launch) (Z : State) (a0 : Array Value) (hw : ∀ d ∈ tables_1, d.before a0 Z = true) (ws : List Jvm.Cond) (h0 : Heap) (n0 : Nat) (Z0 : n0 ≤ h0.size) (p1 p2 p3 p4 p5 p6 : Int32) :
    OMet l x code maxLocals ret ws room_1 #[(.int p1), (.int p2), (.int p3), (.int p4), (.int p5), (.int p6)] Z h0 (fun v h L => v = some (.int 1) ∧ Fr n0 L) := by
  refine own_met (plainFor_of_name pn_rm0) ?_
  intro p e s m below meth c s₁ X0 hx hby hml hown hnm hret hlk hZ e0
  rw [ef_rm0]
  have N0 := Fr.nil n0
  have rg_p1 := rng32 p1
  have rg_p2 := rng32 p2
  have rg_p3 := rng32 p3
  have rg_p4 := rng32 p4
  have rg_p5 := rng32 p5
  have rg_p6 := rng32 p6
  show ORun p e below s _ _ _ s₁ (mkF m 0 #[.val (.int p1), .val (.int p2), .val (.int p3), .val (.int p4), .val (.int p5), .val (.int p6), .unset, .unset, .unset, .unset, .unset, .unset, .unset] [])
  refine own_by (fun t k => XS.iconst X0.here hx rfl (hb hby at_0) k) ?_
  show ORun p e below s _ _ _ s₁ (mkF m 1 #[.val (.int p1), .val (.int p2), .val (.int p3), .val (.int p4), .val (.int p5), .val (.int p6), .unset, .unset, .unset, .unset, .unset, .unset, .unset] [(.int (1 : Int32))])
  refine own_by (fun t k => XS.iloadN X0.here hx rfl (hb hby at_1) rfl k) ?_
  show ORun p e below s _ _ _ s₁ (mkF m 2 #[.val (.int p1), .val (.int p2), .val (.int p3), .val (.int p4), .val (.int p5), .val (.int p6), .unset, .unset, .unset, .unset, .unset, .unset, .unset] [(.int p1), (.int (1 : Int32))])
  refine own_by (fun t k => XS.iconst X0.here hx rfl (hb hby at_2) k) ?_
  show ORun p e below s _ _ _ s₁ (mkF m 3 #[.val (.int p1), .val (.int p2), .val (.int p3), .val (.int p4), .val (.int p5), .val (.int p6), .unset, .unset, .unset, .unset, .unset, .unset, .unset] [(.int (3 : Int32)), (.int p1), (.int (1 : Int32))])
  refine own_by (fun t k => XS.iand X0.here hx rfl (hb hby at_3) rfl k) (own_letI (f := (fun z => (mkF m 4 #[.val (.int p1), .val (.int p2), .val (.int p3), .val (.int p4), .val (.int p5), .val (.int p6), .unset, .unset, .unset, .unset, .unset, .unset, .unset] [(.int z), (.int (1 : Int32))]))) (p1 &&& (3 : Int32)) fun v1 hv1 => ?_)
  show ORun p e below s _ _ _ s₁ (mkF m 4 #[.val (.int p1), .val (.int p2), .val (.int p3), .val (.int p4), .val (.int p5), .val (.int p6), .unset, .unset, .unset, .unset, .unset, .unset, .unset] [(.int v1), (.int (1 : Int32))])
  have a1a : v1.toInt = p1.toInt % 4 := by rw [hv1]; exact c_mask p1 (3 : Int32) 2 (by decide) (by decide)
  have r1 := rng32 v1
  refine own_by (fun t k => XS.iadd X0.here hx rfl (hb hby at_4) rfl k) (own_letI (f := (fun z => (mkF m 5 #[.val (.int p1), .val (.int p2), .val (.int p3), .val (.int p4), .val (.int p5), .val (.int p6), .unset, .unset, .unset, .unset, .unset, .unset, .unset] [(.int z)]))) ((1 : Int32) + v1) fun v2 hv2 => ?_)
  show ORun p e below s _ _ _ s₁ (mkF m 5 #[.val (.int p1), .val (.int p2), .val (.int p3), .val (.int p4), .val (.int p5), .val (.int p6), .unset, .unset, .unset, .unset, .unset, .unset, .unset] [(.int v2)])
  have r2 := rng32 v2
  have a2 : v2.toInt = 1 + v1.toInt := by
    have q : (v2.toInt - (1 + v1.toInt)) % 4294967296 = 0 := by rw [hv2]; exact c_iadd (1 : Int32) v1
    omega
  have sb : 1 ≤ v2.toInt ∧ v2.toInt ≤ 4 := by omega
  clear a1a r1 a2 r2
  refine own_by (fun t k => XS.istore X0.here hx rfl (hb hby at_5) rfl (l' := #[.val (.int p1), .val (.int p2), .val (.int p3), .val (.int p4), .val (.int p5), .val (.int p6), .val (.int v2), .unset, .unset, .unset, .unset, .unset, .unset]) rfl k) ?_
  show ORun p e below s _ _ _ s₁ (mkF m 7 #[.val (.int p1), .val (.int p2), .val (.int p3), .val (.int p4), .val (.int p5), .val (.int p6), .val (.int v2), .unset, .unset, .unset, .unset, .unset, .unset] [])
  refine own_by (fun t k => XS.iloadN X0.here hx rfl (hb hby at_7) rfl k) ?_
  show ORun p e below s _ _ _ s₁ (mkF m 8 #[.val (.int p1), .val (.int p2), .val (.int p3), .val (.int p4), .val (.int p5), .val (.int p6), .val (.int v2), .unset, .unset, .unset, .unset, .unset, .unset] [(.int p1)])
  refine own_by (fun t k => XS.iconst X0.here hx rfl (hb hby at_8) k) ?_
  show ORun p e below s _ _ _ s₁ (mkF m 9 #[.val (.int p1), .val (.int p2), .val (.int p3), .val (.int p4), .val (.int p5), .val (.int p6), .val (.int v2), .unset, .unset, .unset, .unset, .unset, .unset] [(.int (2 : Int32)), (.int p1)])
  refine own_by (fun t k => XS.iushr X0.here hx rfl (hb hby at_9) rfl k) (own_letI (f := (fun z => (mkF m 10 #[.val (.int p1), .val (.int p2), .val (.int p3), .val (.int p4), .val (.int p5), .val (.int p6), .val (.int v2), .unset, .unset, .unset, .unset, .unset, .unset] [(.int z)]))) ((p1.toUInt32 >>> ((2 : Int32) &&& 31).toUInt32).toInt32) fun v3 hv3 => ?_)
  show ORun p e below s _ _ _ s₁ (mkF m 10 #[.val (.int p1), .val (.int p2), .val (.int p3), .val (.int p4), .val (.int p5), .val (.int p6), .val (.int v2), .unset, .unset, .unset, .unset, .unset, .unset] [(.int v3)])
  have a3a : v3.toInt = (p1.toInt % 4294967296) / 4 := by rw [hv3]; exact c_iushr p1 (2 : Int32) 2 (by decide) (by decide)
  have r3 := rng32 v3
  refine own_by (fun t k => X0.ldcInt hx hown (mvT hZ (hw _ (List.mem_of_getElem? (i := 0) rfl))) (g := (mkF m 10 #[.val (.int p1), .val (.int p2), .val (.int p3), .val (.int p4), .val (.int p5), .val (.int p6), .val (.int v2), .unset, .unset, .unset, .unset, .unset, .unset] [(.int v3)])) rfl (hb hby at_10) _ k) ?_
  show ORun p e below s _ _ _ s₁ (mkF m 12 #[.val (.int p1), .val (.int p2), .val (.int p3), .val (.int p4), .val (.int p5), .val (.int p6), .val (.int v2), .unset, .unset, .unset, .unset, .unset, .unset] [(.int (1073741823 : Int32)), (.int v3)])
  refine own_by (fun t k => XS.iand X0.here hx rfl (hb hby at_12) rfl k) (own_letI (f := (fun z => (mkF m 13 #[.val (.int p1), .val (.int p2), .val (.int p3), .val (.int p4), .val (.int p5), .val (.int p6), .val (.int v2), .unset, .unset, .unset, .unset, .unset, .unset] [(.int z)]))) (v3 &&& (1073741823 : Int32)) fun v4 hv4 => ?_)
  show ORun p e below s _ _ _ s₁ (mkF m 13 #[.val (.int p1), .val (.int p2), .val (.int p3), .val (.int p4), .val (.int p5), .val (.int p6), .val (.int v2), .unset, .unset, .unset, .unset, .unset, .unset] [(.int v4)])
  have a4a : v4.toInt = v3.toInt % 1073741824 := by rw [hv4]; exact c_mask v3 (1073741823 : Int32) 30 (by decide) (by decide)
  have r4 := rng32 v4
  refine own_by (fun t k => XS.iload X0.here hx rfl (hb hby at_13) rfl k) ?_
  show ORun p e below s _ _ _ s₁ (mkF m 15 #[.val (.int p1), .val (.int p2), .val (.int p3), .val (.int p4), .val (.int p5), .val (.int p6), .val (.int v2), .unset, .unset, .unset, .unset, .unset, .unset] [(.int v2), (.int v4)])
  have nz5 : v2 ≠ 0 := fun q => by have z := congrArg Int32.toInt q; have z0 : (0 : Int32).toInt = 0 := rfl; omega
  refine own_by (fun t k => iremM X0 hx rfl (hb hby at_15) rfl nz5 k) (own_letI (f := (fun z => (mkF m 16 #[.val (.int p1), .val (.int p2), .val (.int p3), .val (.int p4), .val (.int p5), .val (.int p6), .val (.int v2), .unset, .unset, .unset, .unset, .unset, .unset] [(.int z)]))) (v4 % v2) fun v6 hv6 => ?_)
  show ORun p e below s _ _ _ s₁ (mkF m 16 #[.val (.int p1), .val (.int p2), .val (.int p3), .val (.int p4), .val (.int p5), .val (.int p6), .val (.int v2), .unset, .unset, .unset, .unset, .unset, .unset] [(.int v6)])
  have a6a : (0 ≤ v4.toInt → 0 < v2.toInt → 0 ≤ v6.toInt ∧ v6.toInt < v2.toInt ∧ v6.toInt ≤ v4.toInt ∧ (v4.toInt < v2.toInt → v6.toInt = v4.toInt) ∧ (v2.toInt ≤ v4.toInt → v4.toInt < 2 * v2.toInt → v6.toInt = v4.toInt - v2.toInt)) ∧ (v4.toInt < 0 → 0 < v2.toInt → -v2.toInt < v6.toInt ∧ v6.toInt ≤ 0) := by rw [hv6]; exact c_iremV v4 v2
  have r6 := rng32 v6
  have bd7 : 0 ≤ v6.toInt ∧ v6.toInt < v2.toInt := by omega
  clear a3a r3 a4a r4 a6a r6
  refine own_by (fun t k => XS.istore X0.here hx rfl (hb hby at_16) rfl (l' := #[.val (.int p1), .val (.int p2), .val (.int p3), .val (.int p4), .val (.int p5), .val (.int p6), .val (.int v2), .val (.int v6), .unset, .unset, .unset, .unset, .unset]) rfl k) ?_
  show ORun p e below s _ _ _ s₁ (mkF m 18 #[.val (.int p1), .val (.int p2), .val (.int p3), .val (.int p4), .val (.int p5), .val (.int p6), .val (.int v2), .val (.int v6), .unset, .unset, .unset, .unset, .unset] [])
  refine own_by (fun t k => XS.iconst X0.here hx rfl (hb hby at_18) k) ?_
  show ORun p e below s _ _ _ s₁ (mkF m 19 #[.val (.int p1), .val (.int p2), .val (.int p3), .val (.int p4), .val (.int p5), .val (.int p6), .val (.int v2), .val (.int v6), .unset, .unset, .unset, .unset, .unset] [(.int (5 : Int32))])
  refine own_newarray X0 hx hZ (aty := .int) (hw _ (List.mem_of_getElem? (i := 1) rfl)) e0 rfl (N := 5) (cap := 5) (by decide) (Nat.le_refl _) (by decide) (by decide) (by decide) (ad := "[I") (by decide) (hb hby at_19) ?_
  intro T8 h8 b8 L8 g8 X8 e8 E8 hL8 V8 Ex8
  have len8 : L8.length = 5 := by rw [hL8]; exact List.length_replicate
  have old_b8 : n0 ≤ b8 := Nat.le_trans Z0 (Nat.le_of_eq g8.symm)
  have sz_b8 : h0.size ≤ b8 := Nat.le_trans (Nat.le_refl h0.size) (Nat.le_of_eq g8.symm)
  obtain rfl : [(0 : Int32), (0 : Int32), (0 : Int32), (0 : Int32), (0 : Int32)] = L8 := hL8.symm
  show ORun p e below s _ _ _ T8 (mkF m 21 #[.val (.int p1), .val (.int p2), .val (.int p3), .val (.int p4), .val (.int p5), .val (.int p6), .val (.int v2), .val (.int v6), .unset, .unset, .unset, .unset, .unset] [(.ref b8)])
  refine own_by (fun t k => XS.astore X8.here hx rfl (hb hby at_21) rfl rfl (l' := #[.val (.int p1), .val (.int p2), .val (.int p3), .val (.int p4), .val (.int p5), .val (.int p6), .val (.int v2), .val (.int v6), .val (.ref b8), .unset, .unset, .unset, .unset]) rfl k) ?_
  show ORun p e below s _ _ _ T8 (mkF m 23 #[.val (.int p1), .val (.int p2), .val (.int p3), .val (.int p4), .val (.int p5), .val (.int p6), .val (.int v2), .val (.int v6), .val (.ref b8), .unset, .unset, .unset, .unset] [])
  refine own_by (fun t k => XS.aload X8.here hx rfl (hb hby at_23) rfl rfl k) ?_
  show ORun p e below s _ _ _ T8 (mkF m 25 #[.val (.int p1), .val (.int p2), .val (.int p3), .val (.int p4), .val (.int p5), .val (.int p6), .val (.int v2), .val (.int v6), .val (.ref b8), .unset, .unset, .unset, .unset] [(.ref b8)])
  refine own_by (fun t k => XS.iconst X8.here hx rfl (hb hby at_25) k) ?_
  show ORun p e below s _ _ _ T8 (mkF m 26 #[.val (.int p1), .val (.int p2), .val (.int p3), .val (.int p4), .val (.int p5), .val (.int p6), .val (.int v2), .val (.int v6), .val (.ref b8), .unset, .unset, .unset, .unset] [(.int (0 : Int32)), (.ref b8)])
  refine own_by (fun t k => XS.iloadN X8.here hx rfl (hb hby at_26) rfl k) ?_
  show ORun p e below s _ _ _ T8 (mkF m 27 #[.val (.int p1), .val (.int p2), .val (.int p3), .val (.int p4), .val (.int p5), .val (.int p6), .val (.int v2), .val (.int v6), .val (.ref b8), .unset, .unset, .unset, .unset] [(.int p2), (.int (0 : Int32)), (.ref b8)])
  refine own_by (fun t k => X8.ldcInt hx hown (mvT hZ (hw _ (List.mem_of_getElem? (i := 2) rfl))) (g := (mkF m 27 #[.val (.int p1), .val (.int p2), .val (.int p3), .val (.int p4), .val (.int p5), .val (.int p6), .val (.int v2), .val (.int v6), .val (.ref b8), .unset, .unset, .unset, .unset] [(.int p2), (.int (0 : Int32)), (.ref b8)])) rfl (hb hby at_27) _ k) ?_
  show ORun p e below s _ _ _ T8 (mkF m 29 #[.val (.int p1), .val (.int p2), .val (.int p3), .val (.int p4), .val (.int p5), .val (.int p6), .val (.int v2), .val (.int v6), .val (.ref b8), .unset, .unset, .unset, .unset] [(.int (2147483647 : Int32)), (.int p2), (.int (0 : Int32)), (.ref b8)])
  refine own_by (fun t k => XS.iand X8.here hx rfl (hb hby at_29) rfl k) (own_letI (f := (fun z => (mkF m 30 #[.val (.int p1), .val (.int p2), .val (.int p3), .val (.int p4), .val (.int p5), .val (.int p6), .val (.int v2), .val (.int v6), .val (.ref b8), .unset, .unset, .unset, .unset] [(.int z), (.int (0 : Int32)), (.ref b8)]))) (p2 &&& (2147483647 : Int32)) fun v9 hv9 => ?_)
  show ORun p e below s _ _ _ T8 (mkF m 30 #[.val (.int p1), .val (.int p2), .val (.int p3), .val (.int p4), .val (.int p5), .val (.int p6), .val (.int v2), .val (.int v6), .val (.ref b8), .unset, .unset, .unset, .unset] [(.int v9), (.int (0 : Int32)), (.ref b8)])
  have a9a : v9.toInt = p2.toInt % 2147483648 := by rw [hv9]; exact c_mask p2 (2147483647 : Int32) 31 (by decide) (by decide)
  have r9 := rng32 v9
  refine own_by (fun t k => XS.iload X8.here hx rfl (hb hby at_30) rfl k) ?_
  show ORun p e below s _ _ _ T8 (mkF m 32 #[.val (.int p1), .val (.int p2), .val (.int p3), .val (.int p4), .val (.int p5), .val (.int p6), .val (.int v2), .val (.int v6), .val (.ref b8), .unset, .unset, .unset, .unset] [(.int v2), (.int v9), (.int (0 : Int32)), (.ref b8)])
  have nz10 : v2 ≠ 0 := fun q => by have z := congrArg Int32.toInt q; have z0 : (0 : Int32).toInt = 0 := rfl; omega
  refine own_by (fun t k => iremM X8 hx rfl (hb hby at_32) rfl nz10 k) (own_letI (f := (fun z => (mkF m 33 #[.val (.int p1), .val (.int p2), .val (.int p3), .val (.int p4), .val (.int p5), .val (.int p6), .val (.int v2), .val (.int v6), .val (.ref b8), .unset, .unset, .unset, .unset] [(.int z), (.int (0 : Int32)), (.ref b8)]))) (v9 % v2) fun v11 hv11 => ?_)
  show ORun p e below s _ _ _ T8 (mkF m 33 #[.val (.int p1), .val (.int p2), .val (.int p3), .val (.int p4), .val (.int p5), .val (.int p6), .val (.int v2), .val (.int v6), .val (.ref b8), .unset, .unset, .unset, .unset] [(.int v11), (.int (0 : Int32)), (.ref b8)])
  have a11a : (0 ≤ v9.toInt → 0 < v2.toInt → 0 ≤ v11.toInt ∧ v11.toInt < v2.toInt ∧ v11.toInt ≤ v9.toInt ∧ (v9.toInt < v2.toInt → v11.toInt = v9.toInt) ∧ (v2.toInt ≤ v9.toInt → v9.toInt < 2 * v2.toInt → v11.toInt = v9.toInt - v2.toInt)) ∧ (v9.toInt < 0 → 0 < v2.toInt → -v2.toInt < v11.toInt ∧ v11.toInt ≤ 0) := by rw [hv11]; exact c_iremV v9 v2
  have r11 := rng32 v11
  have bd12 : 0 ≤ v11.toInt ∧ v11.toInt < v2.toInt := by omega
  clear a9a r9 a11a r11
  refine own_iastore X8 hx hZ e8 V8 (i := 0) (by decide) (by omega) (hb hby at_33) ?_
  intro T13 h13 L13 X13 e13 W13 hL13 V13
  have len13 : L13.length = 5 := by rw [hL13, List.length_set]; exact len8
  have N13 := Fr.snoc X13 N0 old_b8
  obtain rfl : [v11, (0 : Int32), (0 : Int32), (0 : Int32), (0 : Int32)] = L13 := hL13.symm
  show ORun p e below s _ _ _ T13 (mkF m 34 #[.val (.int p1), .val (.int p2), .val (.int p3), .val (.int p4), .val (.int p5), .val (.int p6), .val (.int v2), .val (.int v6), .val (.ref b8), .unset, .unset, .unset, .unset] [])
  refine own_by (fun t k => XS.aload X13.here hx rfl (hb hby at_34) rfl rfl k) ?_
  show ORun p e below s _ _ _ T13 (mkF m 36 #[.val (.int p1), .val (.int p2), .val (.int p3), .val (.int p4), .val (.int p5), .val (.int p6), .val (.int v2), .val (.int v6), .val (.ref b8), .unset, .unset, .unset, .unset] [(.ref b8)])
  refine own_by (fun t k => XS.iconst X13.here hx rfl (hb hby at_36) k) ?_
  show ORun p e below s _ _ _ T13 (mkF m 37 #[.val (.int p1), .val (.int p2), .val (.int p3), .val (.int p4), .val (.int p5), .val (.int p6), .val (.int v2), .val (.int v6), .val (.ref b8), .unset, .unset, .unset, .unset] [(.int (1 : Int32)), (.ref b8)])
  refine own_by (fun t k => XS.iloadN X13.here hx rfl (hb hby at_37) rfl k) ?_
  show ORun p e below s _ _ _ T13 (mkF m 38 #[.val (.int p1), .val (.int p2), .val (.int p3), .val (.int p4), .val (.int p5), .val (.int p6), .val (.int v2), .val (.int v6), .val (.ref b8), .unset, .unset, .unset, .unset] [(.int p3), (.int (1 : Int32)), (.ref b8)])
  refine own_by (fun t k => X13.ldcInt hx hown (mvT hZ (hw _ (List.mem_of_getElem? (i := 2) rfl))) (g := (mkF m 38 #[.val (.int p1), .val (.int p2), .val (.int p3), .val (.int p4), .val (.int p5), .val (.int p6), .val (.int v2), .val (.int v6), .val (.ref b8), .unset, .unset, .unset, .unset] [(.int p3), (.int (1 : Int32)), (.ref b8)])) rfl (hb hby at_38) _ k) ?_
  show ORun p e below s _ _ _ T13 (mkF m 40 #[.val (.int p1), .val (.int p2), .val (.int p3), .val (.int p4), .val (.int p5), .val (.int p6), .val (.int v2), .val (.int v6), .val (.ref b8), .unset, .unset, .unset, .unset] [(.int (2147483647 : Int32)), (.int p3), (.int (1 : Int32)), (.ref b8)])
  refine own_by (fun t k => XS.iand X13.here hx rfl (hb hby at_40) rfl k) (own_letI (f := (fun z => (mkF m 41 #[.val (.int p1), .val (.int p2), .val (.int p3), .val (.int p4), .val (.int p5), .val (.int p6), .val (.int v2), .val (.int v6), .val (.ref b8), .unset, .unset, .unset, .unset] [(.int z), (.int (1 : Int32)), (.ref b8)]))) (p3 &&& (2147483647 : Int32)) fun v14 hv14 => ?_)
  show ORun p e below s _ _ _ T13 (mkF m 41 #[.val (.int p1), .val (.int p2), .val (.int p3), .val (.int p4), .val (.int p5), .val (.int p6), .val (.int v2), .val (.int v6), .val (.ref b8), .unset, .unset, .unset, .unset] [(.int v14), (.int (1 : Int32)), (.ref b8)])
  have a14a : v14.toInt = p3.toInt % 2147483648 := by rw [hv14]; exact c_mask p3 (2147483647 : Int32) 31 (by decide) (by decide)
  have r14 := rng32 v14
  refine own_by (fun t k => XS.iload X13.here hx rfl (hb hby at_41) rfl k) ?_
  show ORun p e below s _ _ _ T13 (mkF m 43 #[.val (.int p1), .val (.int p2), .val (.int p3), .val (.int p4), .val (.int p5), .val (.int p6), .val (.int v2), .val (.int v6), .val (.ref b8), .unset, .unset, .unset, .unset] [(.int v2), (.int v14), (.int (1 : Int32)), (.ref b8)])
  have nz15 : v2 ≠ 0 := fun q => by have z := congrArg Int32.toInt q; have z0 : (0 : Int32).toInt = 0 := rfl; omega
  refine own_by (fun t k => iremM X13 hx rfl (hb hby at_43) rfl nz15 k) (own_letI (f := (fun z => (mkF m 44 #[.val (.int p1), .val (.int p2), .val (.int p3), .val (.int p4), .val (.int p5), .val (.int p6), .val (.int v2), .val (.int v6), .val (.ref b8), .unset, .unset, .unset, .unset] [(.int z), (.int (1 : Int32)), (.ref b8)]))) (v14 % v2) fun v16 hv16 => ?_)
  show ORun p e below s _ _ _ T13 (mkF m 44 #[.val (.int p1), .val (.int p2), .val (.int p3), .val (.int p4), .val (.int p5), .val (.int p6), .val (.int v2), .val (.int v6), .val (.ref b8), .unset, .unset, .unset, .unset] [(.int v16), (.int (1 : Int32)), (.ref b8)])
  have a16a : (0 ≤ v14.toInt → 0 < v2.toInt → 0 ≤ v16.toInt ∧ v16.toInt < v2.toInt ∧ v16.toInt ≤ v14.toInt ∧ (v14.toInt < v2.toInt → v16.toInt = v14.toInt) ∧ (v2.toInt ≤ v14.toInt → v14.toInt < 2 * v2.toInt → v16.toInt = v14.toInt - v2.toInt)) ∧ (v14.toInt < 0 → 0 < v2.toInt → -v2.toInt < v16.toInt ∧ v16.toInt ≤ 0) := by rw [hv16]; exact c_iremV v14 v2
  have r16 := rng32 v16
  have bd17 : 0 ≤ v16.toInt ∧ v16.toInt < v2.toInt := by omega
  clear a14a r14 a16a r16
  refine own_iastore X13 hx hZ e13 V13 (i := 1) (by decide) (by omega) (hb hby at_44) ?_
  intro T18 h18 L18 X18 e18 W18 hL18 V18
  have len18 : L18.length = 5 := by rw [hL18, List.length_set]; exact len13
  have N18 := Fr.snoc X18 N13 old_b8
  obtain rfl : [v11, v16, (0 : Int32), (0 : Int32), (0 : Int32)] = L18 := hL18.symm
  show ORun p e below s _ _ _ T18 (mkF m 45 #[.val (.int p1), .val (.int p2), .val (.int p3), .val (.int p4), .val (.int p5), .val (.int p6), .val (.int v2), .val (.int v6), .val (.ref b8), .unset, .unset, .unset, .unset] [])
  refine own_by (fun t k => XS.aload X18.here hx rfl (hb hby at_45) rfl rfl k) ?_
  show ORun p e below s _ _ _ T18 (mkF m 47 #[.val (.int p1), .val (.int p2), .val (.int p3), .val (.int p4), .val (.int p5), .val (.int p6), .val (.int v2), .val (.int v6), .val (.ref b8), .unset, .unset, .unset, .unset] [(.ref b8)])
  refine own_by (fun t k => XS.iconst X18.here hx rfl (hb hby at_47) k) ?_
  show ORun p e below s _ _ _ T18 (mkF m 48 #[.val (.int p1), .val (.int p2), .val (.int p3), .val (.int p4), .val (.int p5), .val (.int p6), .val (.int v2), .val (.int v6), .val (.ref b8), .unset, .unset, .unset, .unset] [(.int (2 : Int32)), (.ref b8)])
  refine own_by (fun t k => XS.iloadN X18.here hx rfl (hb hby at_48) rfl k) ?_
  show ORun p e below s _ _ _ T18 (mkF m 49 #[.val (.int p1), .val (.int p2), .val (.int p3), .val (.int p4), .val (.int p5), .val (.int p6), .val (.int v2), .val (.int v6), .val (.ref b8), .unset, .unset, .unset, .unset] [(.int p4), (.int (2 : Int32)), (.ref b8)])
  refine own_by (fun t k => X18.ldcInt hx hown (mvT hZ (hw _ (List.mem_of_getElem? (i := 2) rfl))) (g := (mkF m 49 #[.val (.int p1), .val (.int p2), .val (.int p3), .val (.int p4), .val (.int p5), .val (.int p6), .val (.int v2), .val (.int v6), .val (.ref b8), .unset, .unset, .unset, .unset] [(.int p4), (.int (2 : Int32)), (.ref b8)])) rfl (hb hby at_49) _ k) ?_
  show ORun p e below s _ _ _ T18 (mkF m 51 #[.val (.int p1), .val (.int p2), .val (.int p3), .val (.int p4), .val (.int p5), .val (.int p6), .val (.int v2), .val (.int v6), .val (.ref b8), .unset, .unset, .unset, .unset] [(.int (2147483647 : Int32)), (.int p4), (.int (2 : Int32)), (.ref b8)])
  refine own_by (fun t k => XS.iand X18.here hx rfl (hb hby at_51) rfl k) (own_letI (f := (fun z => (mkF m 52 #[.val (.int p1), .val (.int p2), .val (.int p3), .val (.int p4), .val (.int p5), .val (.int p6), .val (.int v2), .val (.int v6), .val (.ref b8), .unset, .unset, .unset, .unset] [(.int z), (.int (2 : Int32)), (.ref b8)]))) (p4 &&& (2147483647 : Int32)) fun v19 hv19 => ?_)
  show ORun p e below s _ _ _ T18 (mkF m 52 #[.val (.int p1), .val (.int p2), .val (.int p3), .val (.int p4), .val (.int p5), .val (.int p6), .val (.int v2), .val (.int v6), .val (.ref b8), .unset, .unset, .unset, .unset] [(.int v19), (.int (2 : Int32)), (.ref b8)])
  have a19a : v19.toInt = p4.toInt % 2147483648 := by rw [hv19]; exact c_mask p4 (2147483647 : Int32) 31 (by decide) (by decide)
  have r19 := rng32 v19
  refine own_by (fun t k => XS.iload X18.here hx rfl (hb hby at_52) rfl k) ?_
  show ORun p e below s _ _ _ T18 (mkF m 54 #[.val (.int p1), .val (.int p2), .val (.int p3), .val (.int p4), .val (.int p5), .val (.int p6), .val (.int v2), .val (.int v6), .val (.ref b8), .unset, .unset, .unset, .unset] [(.int v2), (.int v19), (.int (2 : Int32)), (.ref b8)])
  have nz20 : v2 ≠ 0 := fun q => by have z := congrArg Int32.toInt q; have z0 : (0 : Int32).toInt = 0 := rfl; omega
  refine own_by (fun t k => iremM X18 hx rfl (hb hby at_54) rfl nz20 k) (own_letI (f := (fun z => (mkF m 55 #[.val (.int p1), .val (.int p2), .val (.int p3), .val (.int p4), .val (.int p5), .val (.int p6), .val (.int v2), .val (.int v6), .val (.ref b8), .unset, .unset, .unset, .unset] [(.int z), (.int (2 : Int32)), (.ref b8)]))) (v19 % v2) fun v21 hv21 => ?_)
  show ORun p e below s _ _ _ T18 (mkF m 55 #[.val (.int p1), .val (.int p2), .val (.int p3), .val (.int p4), .val (.int p5), .val (.int p6), .val (.int v2), .val (.int v6), .val (.ref b8), .unset, .unset, .unset, .unset] [(.int v21), (.int (2 : Int32)), (.ref b8)])
  have a21a : (0 ≤ v19.toInt → 0 < v2.toInt → 0 ≤ v21.toInt ∧ v21.toInt < v2.toInt ∧ v21.toInt ≤ v19.toInt ∧ (v19.toInt < v2.toInt → v21.toInt = v19.toInt) ∧ (v2.toInt ≤ v19.toInt → v19.toInt < 2 * v2.toInt → v21.toInt = v19.toInt - v2.toInt)) ∧ (v19.toInt < 0 → 0 < v2.toInt → -v2.toInt < v21.toInt ∧ v21.toInt ≤ 0) := by rw [hv21]; exact c_iremV v19 v2
  have r21 := rng32 v21
  have bd22 : 0 ≤ v21.toInt ∧ v21.toInt < v2.toInt := by omega
  clear a19a r19 a21a r21
  refine own_iastore X18 hx hZ e18 V18 (i := 2) (by decide) (by omega) (hb hby at_55) ?_
  intro T23 h23 L23 X23 e23 W23 hL23 V23
  have len23 : L23.length = 5 := by rw [hL23, List.length_set]; exact len18
  have N23 := Fr.snoc X23 N18 old_b8
  obtain rfl : [v11, v16, v21, (0 : Int32), (0 : Int32)] = L23 := hL23.symm
  show ORun p e below s _ _ _ T23 (mkF m 56 #[.val (.int p1), .val (.int p2), .val (.int p3), .val (.int p4), .val (.int p5), .val (.int p6), .val (.int v2), .val (.int v6), .val (.ref b8), .unset, .unset, .unset, .unset] [])
  refine own_by (fun t k => XS.aload X23.here hx rfl (hb hby at_56) rfl rfl k) ?_
  show ORun p e below s _ _ _ T23 (mkF m 58 #[.val (.int p1), .val (.int p2), .val (.int p3), .val (.int p4), .val (.int p5), .val (.int p6), .val (.int v2), .val (.int v6), .val (.ref b8), .unset, .unset, .unset, .unset] [(.ref b8)])
  refine own_by (fun t k => XS.iconst X23.here hx rfl (hb hby at_58) k) ?_
  show ORun p e below s _ _ _ T23 (mkF m 59 #[.val (.int p1), .val (.int p2), .val (.int p3), .val (.int p4), .val (.int p5), .val (.int p6), .val (.int v2), .val (.int v6), .val (.ref b8), .unset, .unset, .unset, .unset] [(.int (3 : Int32)), (.ref b8)])
  refine own_by (fun t k => XS.iload X23.here hx rfl (hb hby at_59) rfl k) ?_
  show ORun p e below s _ _ _ T23 (mkF m 61 #[.val (.int p1), .val (.int p2), .val (.int p3), .val (.int p4), .val (.int p5), .val (.int p6), .val (.int v2), .val (.int v6), .val (.ref b8), .unset, .unset, .unset, .unset] [(.int p5), (.int (3 : Int32)), (.ref b8)])
  refine own_by (fun t k => X23.ldcInt hx hown (mvT hZ (hw _ (List.mem_of_getElem? (i := 2) rfl))) (g := (mkF m 61 #[.val (.int p1), .val (.int p2), .val (.int p3), .val (.int p4), .val (.int p5), .val (.int p6), .val (.int v2), .val (.int v6), .val (.ref b8), .unset, .unset, .unset, .unset] [(.int p5), (.int (3 : Int32)), (.ref b8)])) rfl (hb hby at_61) _ k) ?_
  show ORun p e below s _ _ _ T23 (mkF m 63 #[.val (.int p1), .val (.int p2), .val (.int p3), .val (.int p4), .val (.int p5), .val (.int p6), .val (.int v2), .val (.int v6), .val (.ref b8), .unset, .unset, .unset, .unset] [(.int (2147483647 : Int32)), (.int p5), (.int (3 : Int32)), (.ref b8)])
  refine own_by (fun t k => XS.iand X23.here hx rfl (hb hby at_63) rfl k) (own_letI (f := (fun z => (mkF m 64 #[.val (.int p1), .val (.int p2), .val (.int p3), .val (.int p4), .val (.int p5), .val (.int p6), .val (.int v2), .val (.int v6), .val (.ref b8), .unset, .unset, .unset, .unset] [(.int z), (.int (3 : Int32)), (.ref b8)]))) (p5 &&& (2147483647 : Int32)) fun v24 hv24 => ?_)
  show ORun p e below s _ _ _ T23 (mkF m 64 #[.val (.int p1), .val (.int p2), .val (.int p3), .val (.int p4), .val (.int p5), .val (.int p6), .val (.int v2), .val (.int v6), .val (.ref b8), .unset, .unset, .unset, .unset] [(.int v24), (.int (3 : Int32)), (.ref b8)])
  have a24a : v24.toInt = p5.toInt % 2147483648 := by rw [hv24]; exact c_mask p5 (2147483647 : Int32) 31 (by decide) (by decide)
  have r24 := rng32 v24
  refine own_by (fun t k => XS.iload X23.here hx rfl (hb hby at_64) rfl k) ?_
  show ORun p e below s _ _ _ T23 (mkF m 66 #[.val (.int p1), .val (.int p2), .val (.int p3), .val (.int p4), .val (.int p5), .val (.int p6), .val (.int v2), .val (.int v6), .val (.ref b8), .unset, .unset, .unset, .unset] [(.int v2), (.int v24), (.int (3 : Int32)), (.ref b8)])
  have nz25 : v2 ≠ 0 := fun q => by have z := congrArg Int32.toInt q; have z0 : (0 : Int32).toInt = 0 := rfl; omega
  refine own_by (fun t k => iremM X23 hx rfl (hb hby at_66) rfl nz25 k) (own_letI (f := (fun z => (mkF m 67 #[.val (.int p1), .val (.int p2), .val (.int p3), .val (.int p4), .val (.int p5), .val (.int p6), .val (.int v2), .val (.int v6), .val (.ref b8), .unset, .unset, .unset, .unset] [(.int z), (.int (3 : Int32)), (.ref b8)]))) (v24 % v2) fun v26 hv26 => ?_)
  show ORun p e below s _ _ _ T23 (mkF m 67 #[.val (.int p1), .val (.int p2), .val (.int p3), .val (.int p4), .val (.int p5), .val (.int p6), .val (.int v2), .val (.int v6), .val (.ref b8), .unset, .unset, .unset, .unset] [(.int v26), (.int (3 : Int32)), (.ref b8)])
  have a26a : (0 ≤ v24.toInt → 0 < v2.toInt → 0 ≤ v26.toInt ∧ v26.toInt < v2.toInt ∧ v26.toInt ≤ v24.toInt ∧ (v24.toInt < v2.toInt → v26.toInt = v24.toInt) ∧ (v2.toInt ≤ v24.toInt → v24.toInt < 2 * v2.toInt → v26.toInt = v24.toInt - v2.toInt)) ∧ (v24.toInt < 0 → 0 < v2.toInt → -v2.toInt < v26.toInt ∧ v26.toInt ≤ 0) := by rw [hv26]; exact c_iremV v24 v2
  have r26 := rng32 v26
  have bd27 : 0 ≤ v26.toInt ∧ v26.toInt < v2.toInt := by omega
  clear a24a r24 a26a r26
  refine own_iastore X23 hx hZ e23 V23 (i := 3) (by decide) (by omega) (hb hby at_67) ?_
  intro T28 h28 L28 X28 e28 W28 hL28 V28
  have len28 : L28.length = 5 := by rw [hL28, List.length_set]; exact len23
  have N28 := Fr.snoc X28 N23 old_b8
  obtain rfl : [v11, v16, v21, v26, (0 : Int32)] = L28 := hL28.symm
  show ORun p e below s _ _ _ T28 (mkF m 68 #[.val (.int p1), .val (.int p2), .val (.int p3), .val (.int p4), .val (.int p5), .val (.int p6), .val (.int v2), .val (.int v6), .val (.ref b8), .unset, .unset, .unset, .unset] [])
  refine own_by (fun t k => XS.aload X28.here hx rfl (hb hby at_68) rfl rfl k) ?_
  show ORun p e below s _ _ _ T28 (mkF m 70 #[.val (.int p1), .val (.int p2), .val (.int p3), .val (.int p4), .val (.int p5), .val (.int p6), .val (.int v2), .val (.int v6), .val (.ref b8), .unset, .unset, .unset, .unset] [(.ref b8)])
  refine own_by (fun t k => XS.iconst X28.here hx rfl (hb hby at_70) k) ?_
  show ORun p e below s _ _ _ T28 (mkF m 71 #[.val (.int p1), .val (.int p2), .val (.int p3), .val (.int p4), .val (.int p5), .val (.int p6), .val (.int v2), .val (.int v6), .val (.ref b8), .unset, .unset, .unset, .unset] [(.int (4 : Int32)), (.ref b8)])
  refine own_by (fun t k => XS.iload X28.here hx rfl (hb hby at_71) rfl k) ?_
  show ORun p e below s _ _ _ T28 (mkF m 73 #[.val (.int p1), .val (.int p2), .val (.int p3), .val (.int p4), .val (.int p5), .val (.int p6), .val (.int v2), .val (.int v6), .val (.ref b8), .unset, .unset, .unset, .unset] [(.int p6), (.int (4 : Int32)), (.ref b8)])
  refine own_by (fun t k => X28.ldcInt hx hown (mvT hZ (hw _ (List.mem_of_getElem? (i := 2) rfl))) (g := (mkF m 73 #[.val (.int p1), .val (.int p2), .val (.int p3), .val (.int p4), .val (.int p5), .val (.int p6), .val (.int v2), .val (.int v6), .val (.ref b8), .unset, .unset, .unset, .unset] [(.int p6), (.int (4 : Int32)), (.ref b8)])) rfl (hb hby at_73) _ k) ?_
  show ORun p e below s _ _ _ T28 (mkF m 75 #[.val (.int p1), .val (.int p2), .val (.int p3), .val (.int p4), .val (.int p5), .val (.int p6), .val (.int v2), .val (.int v6), .val (.ref b8), .unset, .unset, .unset, .unset] [(.int (2147483647 : Int32)), (.int p6), (.int (4 : Int32)), (.ref b8)])
  refine own_by (fun t k => XS.iand X28.here hx rfl (hb hby at_75) rfl k) (own_letI (f := (fun z => (mkF m 76 #[.val (.int p1), .val (.int p2), .val (.int p3), .val (.int p4), .val (.int p5), .val (.int p6), .val (.int v2), .val (.int v6), .val (.ref b8), .unset, .unset, .unset, .unset] [(.int z), (.int (4 : Int32)), (.ref b8)]))) (p6 &&& (2147483647 : Int32)) fun v29 hv29 => ?_)
  show ORun p e below s _ _ _ T28 (mkF m 76 #[.val (.int p1), .val (.int p2), .val (.int p3), .val (.int p4), .val (.int p5), .val (.int p6), .val (.int v2), .val (.int v6), .val (.ref b8), .unset, .unset, .unset, .unset] [(.int v29), (.int (4 : Int32)), (.ref b8)])
  have a29a : v29.toInt = p6.toInt % 2147483648 := by rw [hv29]; exact c_mask p6 (2147483647 : Int32) 31 (by decide) (by decide)
  have r29 := rng32 v29
  refine own_by (fun t k => XS.iload X28.here hx rfl (hb hby at_76) rfl k) ?_
  show ORun p e below s _ _ _ T28 (mkF m 78 #[.val (.int p1), .val (.int p2), .val (.int p3), .val (.int p4), .val (.int p5), .val (.int p6), .val (.int v2), .val (.int v6), .val (.ref b8), .unset, .unset, .unset, .unset] [(.int v2), (.int v29), (.int (4 : Int32)), (.ref b8)])
  have nz30 : v2 ≠ 0 := fun q => by have z := congrArg Int32.toInt q; have z0 : (0 : Int32).toInt = 0 := rfl; omega
  refine own_by (fun t k => iremM X28 hx rfl (hb hby at_78) rfl nz30 k) (own_letI (f := (fun z => (mkF m 79 #[.val (.int p1), .val (.int p2), .val (.int p3), .val (.int p4), .val (.int p5), .val (.int p6), .val (.int v2), .val (.int v6), .val (.ref b8), .unset, .unset, .unset, .unset] [(.int z), (.int (4 : Int32)), (.ref b8)]))) (v29 % v2) fun v31 hv31 => ?_)
  show ORun p e below s _ _ _ T28 (mkF m 79 #[.val (.int p1), .val (.int p2), .val (.int p3), .val (.int p4), .val (.int p5), .val (.int p6), .val (.int v2), .val (.int v6), .val (.ref b8), .unset, .unset, .unset, .unset] [(.int v31), (.int (4 : Int32)), (.ref b8)])
  have a31a : (0 ≤ v29.toInt → 0 < v2.toInt → 0 ≤ v31.toInt ∧ v31.toInt < v2.toInt ∧ v31.toInt ≤ v29.toInt ∧ (v29.toInt < v2.toInt → v31.toInt = v29.toInt) ∧ (v2.toInt ≤ v29.toInt → v29.toInt < 2 * v2.toInt → v31.toInt = v29.toInt - v2.toInt)) ∧ (v29.toInt < 0 → 0 < v2.toInt → -v2.toInt < v31.toInt ∧ v31.toInt ≤ 0) := by rw [hv31]; exact c_iremV v29 v2
  have r31 := rng32 v31
  have bd32 : 0 ≤ v31.toInt ∧ v31.toInt < v2.toInt := by omega
  clear a29a r29 a31a r31
  refine own_iastore X28 hx hZ e28 V28 (i := 4) (by decide) (by omega) (hb hby at_79) ?_
  intro T33 h33 L33 X33 e33 W33 hL33 V33
  have len33 : L33.length = 5 := by rw [hL33, List.length_set]; exact len28
  have N33 := Fr.snoc X33 N28 old_b8
  obtain rfl : [v11, v16, v21, v26, v31] = L33 := hL33.symm
  show ORun p e below s _ _ _ T33 (mkF m 80 #[.val (.int p1), .val (.int p2), .val (.int p3), .val (.int p4), .val (.int p5), .val (.int p6), .val (.int v2), .val (.int v6), .val (.ref b8), .unset, .unset, .unset, .unset] [])
  refine own_by (fun t k => XS.iconst X33.here hx rfl (hb hby at_80) k) ?_
  show ORun p e below s _ _ _ T33 (mkF m 81 #[.val (.int p1), .val (.int p2), .val (.int p3), .val (.int p4), .val (.int p5), .val (.int p6), .val (.int v2), .val (.int v6), .val (.ref b8), .unset, .unset, .unset, .unset] [(.int (5 : Int32))])
  refine own_newarray X33 hx hZ (aty := .int) (hw _ (List.mem_of_getElem? (i := 1) rfl)) e33 rfl (N := 5) (cap := 5) (by decide) (Nat.le_refl _) (by decide) (by decide) (by decide) (ad := "[I") (by decide) (hb hby at_81) ?_
  intro T34 h34 b34 L34 g34 X34 e34 E34 hL34 V34 Ex34
  have len34 : L34.length = 5 := by rw [hL34]; exact List.length_replicate
  have old_b34 : n0 ≤ b34 := Nat.le_trans (Nat.le_trans (Nat.le_trans (Nat.le_trans (Nat.le_trans (Nat.le_trans (Nat.le_trans Z0 E8.1) (Keep.of_wr W13).1) (Keep.of_wr W18).1) (Keep.of_wr W23).1) (Keep.of_wr W28).1) (Keep.of_wr W33).1) (Nat.le_of_eq g34.symm)
  have sz_b34 : h0.size ≤ b34 := Nat.le_trans (Nat.le_trans (Nat.le_trans (Nat.le_trans (Nat.le_trans (Nat.le_trans (Nat.le_trans (Nat.le_refl h0.size) E8.1) (Keep.of_wr W13).1) (Keep.of_wr W18).1) (Keep.of_wr W23).1) (Keep.of_wr W28).1) (Keep.of_wr W33).1) (Nat.le_of_eq g34.symm)
  have ne_b8_b34 : b8 ≠ b34 := Nat.ne_of_lt (Nat.lt_of_lt_of_le V33.lt (Nat.le_of_eq g34.symm))
  obtain rfl : [(0 : Int32), (0 : Int32), (0 : Int32), (0 : Int32), (0 : Int32)] = L34 := hL34.symm
  show ORun p e below s _ _ _ T34 (mkF m 83 #[.val (.int p1), .val (.int p2), .val (.int p3), .val (.int p4), .val (.int p5), .val (.int p6), .val (.int v2), .val (.int v6), .val (.ref b8), .unset, .unset, .unset, .unset] [(.ref b34)])
  refine own_by (fun t k => XS.astore X34.here hx rfl (hb hby at_83) rfl rfl (l' := #[.val (.int p1), .val (.int p2), .val (.int p3), .val (.int p4), .val (.int p5), .val (.int p6), .val (.int v2), .val (.int v6), .val (.ref b8), .val (.ref b34), .unset, .unset, .unset]) rfl k) ?_
  show ORun p e below s _ _ _ T34 (mkF m 85 #[.val (.int p1), .val (.int p2), .val (.int p3), .val (.int p4), .val (.int p5), .val (.int p6), .val (.int v2), .val (.int v6), .val (.ref b8), .val (.ref b34), .unset, .unset, .unset] [])
  refine own_by (fun t k => XS.iconst X34.here hx rfl (hb hby at_85) k) ?_
  show ORun p e below s _ _ _ T34 (mkF m 86 #[.val (.int p1), .val (.int p2), .val (.int p3), .val (.int p4), .val (.int p5), .val (.int p6), .val (.int v2), .val (.int v6), .val (.ref b8), .val (.ref b34), .unset, .unset, .unset] [(.int (0 : Int32))])
  refine own_by (fun t k => XS.istore X34.here hx rfl (hb hby at_86) rfl (l' := #[.val (.int p1), .val (.int p2), .val (.int p3), .val (.int p4), .val (.int p5), .val (.int p6), .val (.int v2), .val (.int v6), .val (.ref b8), .val (.ref b34), .val (.int (0 : Int32)), .unset, .unset]) rfl k) ?_
  show ORun p e below s _ _ _ T34 (mkF m 88 #[.val (.int p1), .val (.int p2), .val (.int p3), .val (.int p4), .val (.int p5), .val (.int p6), .val (.int v2), .val (.int v6), .val (.ref b8), .val (.ref b34), .val (.int (0 : Int32)), .unset, .unset] [])
  have LP35 : ∀ (Tl35 : State) (hl35 : Heap) (lo35 : List Loc) (kq : Int32) (Esk : List Int32) (E : List Int32), (Stand p l e room_1 s m #[(.int p1), (.int p2), (.int p3), (.int p4), (.int p5), (.int p6)] below meth c Tl35 lo35 2 10) → (Tl35.heap = hl35) → (Fr n0 lo35) → (Keep h0 hl35 []) → (OVec Z hl35 b8 .int Esk) → (Esk.length = 5) → (OVec Z hl35 b34 .int E) → (E.length = 5) → (0 ≤ kq.toInt ∧ kq.toInt ≤ 5) → (own_sel v6 [v11, v16, v21, v26, v31] = E.take kq.toInt.toNat) → (Esk = [v11, v16, v21, v26, v31]) → ORun p e below s (fun v h L => v = some (.int 1) ∧ Fr n0 L) room_1.cells room_1.slots Tl35 (mkF m 178 #[.val (.int p1), .val (.int p2), .val (.int p3), .val (.int p4), .val (.int p5), .val (.int p6), .val (.int v2), .val (.int v6), .val (.ref b8), .val (.ref b34), .val (.int kq), .unset, .unset] []) := by
      intro Tl35 hl35 lo35 kq Esk E Xl35 el35 Nl35 Kl35 Vl35_0 lenl35_0 Vl35_1 lenl35_1 pl35_0 pl35_1 pl35_2
      have hsel := pl35_1
      have hk5 := pl35_0
      have hEl := lenl35_1
      obtain rfl : [v11, v16, v21, v26, v31] = Esk := pl35_2.symm
      show ORun p e below s _ _ _ Tl35 (mkF m 178 #[.val (.int p1), .val (.int p2), .val (.int p3), .val (.int p4), .val (.int p5), .val (.int p6), .val (.int v2), .val (.int v6), .val (.ref b8), .val (.ref b34), .val (.int kq), .unset, .unset] [])
      obtain ⟨T36, h36, X36, e36, E36, A36, D36, -, st36⟩ := newO Xl35 hx hZ hown (hw _ (List.mem_of_getElem? (i := 3) rfl)) (hw _ (List.mem_of_getElem? (i := 4) rfl)) (hw _ (List.mem_of_getElem? (i := 5) rfl)) el35 (g := (mkF m 178 #[.val (.int p1), .val (.int p2), .val (.int p3), .val (.int p4), .val (.int p5), .val (.int p6), .val (.int v2), .val (.int v6), .val (.ref b8), .val (.ref b34), .val (.int kq), .unset, .unset] [])) rfl (hb hby at_178) (by decide) (by decide)
      obtain ⟨b36, g36⟩ : ∃ z, z = hl35.size := ⟨_, rfl⟩
      rw [← g36] at A36 D36 st36
      have old_b36 : n0 ≤ b36 := Nat.le_trans (Nat.le_trans Z0 Kl35.1) (Nat.le_of_eq g36.symm)
      have sz_b36 : h0.size ≤ b36 := Nat.le_trans (Nat.le_trans (Nat.le_refl h0.size) Kl35.1) (Nat.le_of_eq g36.symm)
      have ne_b8_b36 : b8 ≠ b36 := Nat.ne_of_lt (Nat.lt_of_lt_of_le Vl35_0.lt (Nat.le_of_eq g36.symm))
      have ne_b34_b36 : b34 ≠ b36 := Nat.ne_of_lt (Nat.lt_of_lt_of_le Vl35_1.lt (Nat.le_of_eq g36.symm))
      have F36_13 : Fld Z h36 b36 "com/example/kembar/kembar/cluster/SketchHolders" "starts" "[I" .null := D36 (Or.inr (hw _ (List.mem_of_getElem? (i := 13) rfl))) (ty := (.array .int)) (by decide)
      have F36_15 : Fld Z h36 b36 "com/example/kembar/kembar/cluster/SketchHolders" "documents" "[I" .null := D36 (Or.inr (hw _ (List.mem_of_getElem? (i := 15) rfl))) (ty := (.array .int)) (by decide)
      refine own_by st36 ?_
      show ORun p e below s _ _ _ T36 (mkF m 181 #[.val (.int p1), .val (.int p2), .val (.int p3), .val (.int p4), .val (.int p5), .val (.int p6), .val (.int v2), .val (.int v6), .val (.ref b8), .val (.ref b34), .val (.int kq), .unset, .unset] [(.ref b36)])
      refine own_by (fun t k => XS.dup X36.here hx rfl (hb hby at_181) rfl rfl k) ?_
      show ORun p e below s _ _ _ T36 (mkF m 182 #[.val (.int p1), .val (.int p2), .val (.int p3), .val (.int p4), .val (.int p5), .val (.int p6), .val (.int v2), .val (.int v6), .val (.ref b8), .val (.ref b34), .val (.int kq), .unset, .unset] [(.ref b36), (.ref b36)])
      refine own_by (fun t k => XS.iload X36.here hx rfl (hb hby at_182) rfl k) ?_
      show ORun p e below s _ _ _ T36 (mkF m 184 #[.val (.int p1), .val (.int p2), .val (.int p3), .val (.int p4), .val (.int p5), .val (.int p6), .val (.int v2), .val (.int v6), .val (.ref b8), .val (.ref b34), .val (.int kq), .unset, .unset] [(.int v2), (.ref b36), (.ref b36)])
      refine own_by (fun t k => XS.aload X36.here hx rfl (hb hby at_184) rfl rfl k) ?_
      show ORun p e below s _ _ _ T36 (mkF m 186 #[.val (.int p1), .val (.int p2), .val (.int p3), .val (.int p4), .val (.int p5), .val (.int p6), .val (.int v2), .val (.int v6), .val (.ref b8), .val (.ref b34), .val (.int kq), .unset, .unset] [(.ref b8), (.int v2), (.ref b36), (.ref b36)])
      refine own_callC X36 hx hZ hown rfl (hw _ (List.mem_of_getElem? (i := 6) rfl)) (hw _ (List.mem_of_getElem? (i := 7) rfl)) (hw _ (List.mem_of_getElem? (i := 5) rfl)) (hw _ (List.mem_of_getElem? (i := 8) rfl)) (by decide) (rm1 l Z a0 hw [] h36 n0 (Nat.le_trans (Nat.le_trans Z0 Kl35.1) E36.1) b36 v2 b8 v11 v16 v21 v26 v31 A36 old_b36 F36_13 F36_15 (Vl35_0.ext E36) (Ne.symm ne_b8_b36) (by omega) (by omega) (by omega) (by omega) (by omega) (by omega)) e36 (by decide) (W := 1) (by decide) (by decide) (by decide) (b := b36) (argsL := [(.int v2), (.ref b8)]) (rest := [(.ref b36)]) (by rw [hml]; rfl) (lenOf pd_4 rfl) rfl rfl (Nat.le_of_eq rfl) (hb hby at_186) ?_
      intro T37 L37 u37 X37 hQ37
      obtain ⟨rfl, Nq37, K37, as37, ad37, s37, Ls37, Ld37, En37_b36, Fn37_starts_b36, Fn37_documents_b36, Vs37, hls37, Vd37, hld37, Ed37, hs37, sp37⟩ := hQ37
      have N37 := Fr.app Nl35 Nq37
      show ORun p e below s _ _ _ T37 (mkF m 189 #[.val (.int p1), .val (.int p2), .val (.int p3), .val (.int p4), .val (.int p5), .val (.int p6), .val (.int v2), .val (.int v6), .val (.ref b8), .val (.ref b34), .val (.int kq), .unset, .unset] [(.ref b36)])
      refine own_by (fun t k => XS.astore X37.here hx rfl (hb hby at_189) rfl rfl (l' := #[.val (.int p1), .val (.int p2), .val (.int p3), .val (.int p4), .val (.int p5), .val (.int p6), .val (.int v2), .val (.int v6), .val (.ref b8), .val (.ref b34), .val (.int kq), .val (.ref b36), .unset]) rfl k) ?_
      show ORun p e below s _ _ _ T37 (mkF m 191 #[.val (.int p1), .val (.int p2), .val (.int p3), .val (.int p4), .val (.int p5), .val (.int p6), .val (.int v2), .val (.int v6), .val (.ref b8), .val (.ref b34), .val (.int kq), .val (.ref b36), .unset] [])
      refine own_by (fun t k => XS.aload X37.here hx rfl (hb hby at_191) rfl rfl k) ?_
      show ORun p e below s _ _ _ T37 (mkF m 193 #[.val (.int p1), .val (.int p2), .val (.int p3), .val (.int p4), .val (.int p5), .val (.int p6), .val (.int v2), .val (.int v6), .val (.ref b8), .val (.ref b34), .val (.int kq), .val (.ref b36), .unset] [(.ref b36)])
      refine own_by (fun t k => XS.iload X37.here hx rfl (hb hby at_193) rfl k) ?_
      show ORun p e below s _ _ _ T37 (mkF m 195 #[.val (.int p1), .val (.int p2), .val (.int p3), .val (.int p4), .val (.int p5), .val (.int p6), .val (.int v2), .val (.int v6), .val (.ref b8), .val (.ref b34), .val (.int kq), .val (.ref b36), .unset] [(.int v6), (.ref b36)])
      refine own_callV X37 hx hZ hown En37_b36 (hw _ (List.mem_of_getElem? (i := 28) rfl)) (hw _ (List.mem_of_getElem? (i := 29) rfl)) (notFace_of_selects (args := #[]) (mvT hZ (hw _ (List.mem_of_getElem? (i := 31) rfl)))) (hw _ (List.mem_of_getElem? (i := 31) rfl)) (hw _ (List.mem_of_getElem? (i := 30) rfl)) (hw _ (List.mem_of_getElem? (i := 5) rfl)) (hw _ (List.mem_of_getElem? (i := 32) rfl)) (by decide) (rm5 l Z a0 hw [] T37.heap n0 (Nat.le_trans (Nat.le_trans (Nat.le_trans Z0 Kl35.1) E36.1) K37.1) b36 v6 as37 ad37 s37 Ls37 Ld37 [v11, v16, v21, v26, v31] En37_b36 old_b36 Fn37_starts_b36 Fn37_documents_b36 Vs37 hls37 Vd37 hld37 Ed37 sp37 (by omega) (by omega)) rfl (by decide) (W := 0) (by decide) (by decide) (by decide) (argsL := [(.int v6)]) (rest := []) (by rw [hml]; rfl) (lenOf pd_5 rfl) rfl rfl (Nat.le_of_eq rfl) (hb hby at_195) ?_
      intro T38 L38 u38 X38 hQ38
      obtain ⟨o38, rfl, Nq38, K38, sz_o38, Vq38⟩ := hQ38
      have N38 := Fr.app N37 Nq38
      rw [hsel] at Vq38
      have len38 : (E.take kq.toInt.toNat).length = kq.toInt.toNat := by rw [List.length_take]; omega
      show ORun p e below s _ _ _ T38 (mkF m 198 #[.val (.int p1), .val (.int p2), .val (.int p3), .val (.int p4), .val (.int p5), .val (.int p6), .val (.int v2), .val (.int v6), .val (.ref b8), .val (.ref b34), .val (.int kq), .val (.ref b36), .unset] [(.ref o38)])
      refine own_by (fun t k => XS.astore X38.here hx rfl (hb hby at_198) rfl rfl (l' := #[.val (.int p1), .val (.int p2), .val (.int p3), .val (.int p4), .val (.int p5), .val (.int p6), .val (.int v2), .val (.int v6), .val (.ref b8), .val (.ref b34), .val (.int kq), .val (.ref b36), .val (.ref o38)]) rfl k) ?_
      show ORun p e below s _ _ _ T38 (mkF m 200 #[.val (.int p1), .val (.int p2), .val (.int p3), .val (.int p4), .val (.int p5), .val (.int p6), .val (.int v2), .val (.int v6), .val (.ref b8), .val (.ref b34), .val (.int kq), .val (.ref b36), .val (.ref o38)] [])
      refine own_by (fun t k => XS.aload X38.here hx rfl (hb hby at_200) rfl rfl k) ?_
      show ORun p e below s _ _ _ T38 (mkF m 202 #[.val (.int p1), .val (.int p2), .val (.int p3), .val (.int p4), .val (.int p5), .val (.int p6), .val (.int v2), .val (.int v6), .val (.ref b8), .val (.ref b34), .val (.int kq), .val (.ref b36), .val (.ref o38)] [(.ref o38)])
      refine own_lenv X38 hx hZ rfl Vq38 (n := kq.toInt.toNat) len38 (by omega) (hb hby at_202) ?_
      intro v39 hv39
      show ORun p e below s _ _ _ T38 (mkF m 203 #[.val (.int p1), .val (.int p2), .val (.int p3), .val (.int p4), .val (.int p5), .val (.int p6), .val (.int v2), .val (.int v6), .val (.ref b8), .val (.ref b34), .val (.int kq), .val (.ref b36), .val (.ref o38)] [(.int v39)])
      refine own_by (fun t k => XS.iload X38.here hx rfl (hb hby at_203) rfl k) ?_
      show ORun p e below s _ _ _ T38 (mkF m 205 #[.val (.int p1), .val (.int p2), .val (.int p3), .val (.int p4), .val (.int p5), .val (.int p6), .val (.int v2), .val (.int v6), .val (.ref b8), .val (.ref b34), .val (.int kq), .val (.ref b36), .val (.ref o38)] [(.int kq), (.int v39)])
      refine own_by (fun t k => XS.icmpYes X38.here hx rfl (pc0 := 205) (pc' := 210) rfl (hb hby at_205) rfl (teq (Int32.toInt_inj.mp (by omega))).1 (by decide) (by decide) k) ?_
      show ORun p e below s _ _ _ T38 (mkF m 210 #[.val (.int p1), .val (.int p2), .val (.int p3), .val (.int p4), .val (.int p5), .val (.int p6), .val (.int v2), .val (.int v6), .val (.ref b8), .val (.ref b34), .val (.int kq), .val (.ref b36), .val (.ref o38)] [])
      refine own_by (fun t k => XS.iload X38.here hx rfl (hb hby at_210) rfl k) ?_
      show ORun p e below s _ _ _ T38 (mkF m 212 #[.val (.int p1), .val (.int p2), .val (.int p3), .val (.int p4), .val (.int p5), .val (.int p6), .val (.int v2), .val (.int v6), .val (.ref b8), .val (.ref b34), .val (.int kq), .val (.ref b36), .val (.ref o38)] [(.int kq)])
      refine own_by (fun t k => XS.iconst X38.here hx rfl (hb hby at_212) k) ?_
      show ORun p e below s _ _ _ T38 (mkF m 213 #[.val (.int p1), .val (.int p2), .val (.int p3), .val (.int p4), .val (.int p5), .val (.int p6), .val (.int v2), .val (.int v6), .val (.ref b8), .val (.ref b34), .val (.int kq), .val (.ref b36), .val (.ref o38)] [(.int (1 : Int32)), (.int kq)])
      by_cases hc40 : kq < (1 : Int32)
      · have t40 := own_lt hc40 (a := kq.toInt) (b := 1) rfl (by decide)
        refine own_by (fun t k => XS.icmpYes X38.here hx rfl (pc0 := 213) (pc' := 227) rfl (hb hby at_213) rfl (tlt hc40).1 (by decide) (by decide) k) ?_
        show ORun p e below s _ _ _ T38 (mkF m 227 #[.val (.int p1), .val (.int p2), .val (.int p3), .val (.int p4), .val (.int p5), .val (.int p6), .val (.int v2), .val (.int v6), .val (.ref b8), .val (.ref b34), .val (.int kq), .val (.ref b36), .val (.ref o38)] [])
        refine own_by (fun t k => XS.iload X38.here hx rfl (hb hby at_227) rfl k) ?_
        show ORun p e below s _ _ _ T38 (mkF m 229 #[.val (.int p1), .val (.int p2), .val (.int p3), .val (.int p4), .val (.int p5), .val (.int p6), .val (.int v2), .val (.int v6), .val (.ref b8), .val (.ref b34), .val (.int kq), .val (.ref b36), .val (.ref o38)] [(.int kq)])
        refine own_by (fun t k => XS.iconst X38.here hx rfl (hb hby at_229) k) ?_
        show ORun p e below s _ _ _ T38 (mkF m 230 #[.val (.int p1), .val (.int p2), .val (.int p3), .val (.int p4), .val (.int p5), .val (.int p6), .val (.int v2), .val (.int v6), .val (.ref b8), .val (.ref b34), .val (.int kq), .val (.ref b36), .val (.ref o38)] [(.int (2 : Int32)), (.int kq)])
        refine own_by (fun t k => XS.icmpYes X38.here hx rfl (pc0 := 230) (pc' := 244) rfl (hb hby at_230) rfl (tlt (Int32.lt_iff_toInt_lt.mpr (by show kq.toInt < 2; omega))).1 (by decide) (by decide) k) ?_
        show ORun p e below s _ _ _ T38 (mkF m 244 #[.val (.int p1), .val (.int p2), .val (.int p3), .val (.int p4), .val (.int p5), .val (.int p6), .val (.int v2), .val (.int v6), .val (.ref b8), .val (.ref b34), .val (.int kq), .val (.ref b36), .val (.ref o38)] [])
        refine own_by (fun t k => XS.iload X38.here hx rfl (hb hby at_244) rfl k) ?_
        show ORun p e below s _ _ _ T38 (mkF m 246 #[.val (.int p1), .val (.int p2), .val (.int p3), .val (.int p4), .val (.int p5), .val (.int p6), .val (.int v2), .val (.int v6), .val (.ref b8), .val (.ref b34), .val (.int kq), .val (.ref b36), .val (.ref o38)] [(.int kq)])
        refine own_by (fun t k => XS.iconst X38.here hx rfl (hb hby at_246) k) ?_
        show ORun p e below s _ _ _ T38 (mkF m 247 #[.val (.int p1), .val (.int p2), .val (.int p3), .val (.int p4), .val (.int p5), .val (.int p6), .val (.int v2), .val (.int v6), .val (.ref b8), .val (.ref b34), .val (.int kq), .val (.ref b36), .val (.ref o38)] [(.int (3 : Int32)), (.int kq)])
        refine own_by (fun t k => XS.icmpYes X38.here hx rfl (pc0 := 247) (pc' := 261) rfl (hb hby at_247) rfl (tlt (Int32.lt_iff_toInt_lt.mpr (by show kq.toInt < 3; omega))).1 (by decide) (by decide) k) ?_
        show ORun p e below s _ _ _ T38 (mkF m 261 #[.val (.int p1), .val (.int p2), .val (.int p3), .val (.int p4), .val (.int p5), .val (.int p6), .val (.int v2), .val (.int v6), .val (.ref b8), .val (.ref b34), .val (.int kq), .val (.ref b36), .val (.ref o38)] [])
        refine own_by (fun t k => XS.iload X38.here hx rfl (hb hby at_261) rfl k) ?_
        show ORun p e below s _ _ _ T38 (mkF m 263 #[.val (.int p1), .val (.int p2), .val (.int p3), .val (.int p4), .val (.int p5), .val (.int p6), .val (.int v2), .val (.int v6), .val (.ref b8), .val (.ref b34), .val (.int kq), .val (.ref b36), .val (.ref o38)] [(.int kq)])
        refine own_by (fun t k => XS.iconst X38.here hx rfl (hb hby at_263) k) ?_
        show ORun p e below s _ _ _ T38 (mkF m 264 #[.val (.int p1), .val (.int p2), .val (.int p3), .val (.int p4), .val (.int p5), .val (.int p6), .val (.int v2), .val (.int v6), .val (.ref b8), .val (.ref b34), .val (.int kq), .val (.ref b36), .val (.ref o38)] [(.int (4 : Int32)), (.int kq)])
        refine own_by (fun t k => XS.icmpYes X38.here hx rfl (pc0 := 264) (pc' := 278) rfl (hb hby at_264) rfl (tlt (Int32.lt_iff_toInt_lt.mpr (by show kq.toInt < 4; omega))).1 (by decide) (by decide) k) ?_
        show ORun p e below s _ _ _ T38 (mkF m 278 #[.val (.int p1), .val (.int p2), .val (.int p3), .val (.int p4), .val (.int p5), .val (.int p6), .val (.int v2), .val (.int v6), .val (.ref b8), .val (.ref b34), .val (.int kq), .val (.ref b36), .val (.ref o38)] [])
        refine own_by (fun t k => XS.iload X38.here hx rfl (hb hby at_278) rfl k) ?_
        show ORun p e below s _ _ _ T38 (mkF m 280 #[.val (.int p1), .val (.int p2), .val (.int p3), .val (.int p4), .val (.int p5), .val (.int p6), .val (.int v2), .val (.int v6), .val (.ref b8), .val (.ref b34), .val (.int kq), .val (.ref b36), .val (.ref o38)] [(.int kq)])
        refine own_by (fun t k => XS.iconst X38.here hx rfl (hb hby at_280) k) ?_
        show ORun p e below s _ _ _ T38 (mkF m 281 #[.val (.int p1), .val (.int p2), .val (.int p3), .val (.int p4), .val (.int p5), .val (.int p6), .val (.int v2), .val (.int v6), .val (.ref b8), .val (.ref b34), .val (.int kq), .val (.ref b36), .val (.ref o38)] [(.int (5 : Int32)), (.int kq)])
        refine own_by (fun t k => XS.icmpYes X38.here hx rfl (pc0 := 281) (pc' := 295) rfl (hb hby at_281) rfl (tlt (Int32.lt_iff_toInt_lt.mpr (by show kq.toInt < 5; omega))).1 (by decide) (by decide) k) ?_
        show ORun p e below s _ _ _ T38 (mkF m 295 #[.val (.int p1), .val (.int p2), .val (.int p3), .val (.int p4), .val (.int p5), .val (.int p6), .val (.int v2), .val (.int v6), .val (.ref b8), .val (.ref b34), .val (.int kq), .val (.ref b36), .val (.ref o38)] [])
        refine own_by (fun t k => XS.iconst X38.here hx rfl (hb hby at_295) k) ?_
        show ORun p e below s _ _ _ T38 (mkF m 296 #[.val (.int p1), .val (.int p2), .val (.int p3), .val (.int p4), .val (.int p5), .val (.int p6), .val (.int v2), .val (.int v6), .val (.ref b8), .val (.ref b34), .val (.int kq), .val (.ref b36), .val (.ref o38)] [(.int (1 : Int32))])
        refine own_by (fun t k => XS.goto X38.here hx rfl (pc0 := 296) (pc' := 300) rfl (hb hby at_296) (by decide) (by decide) k) ?_
        show ORun p e below s _ _ _ T38 (mkF m 300 #[.val (.int p1), .val (.int p2), .val (.int p3), .val (.int p4), .val (.int p5), .val (.int p6), .val (.int v2), .val (.int v6), .val (.ref b8), .val (.ref b34), .val (.int kq), .val (.ref b36), .val (.ref o38)] [(.int (1 : Int32))])
        refine own_retN X38 hx (t := .boolean) hret (by simp) hlk (hb hby at_300) (by decide) (by decide) ?_
        exact ⟨rfl, N38⟩
      · have t40 := own_nlt hc40 (a := kq.toInt) (b := 1) rfl (by decide)
        refine own_by (fun t k => XS.icmpNo X38.here hx rfl (hb hby at_213) rfl (flt hc40).1 k) ?_
        show ORun p e below s _ _ _ T38 (mkF m 216 #[.val (.int p1), .val (.int p2), .val (.int p3), .val (.int p4), .val (.int p5), .val (.int p6), .val (.int v2), .val (.int v6), .val (.ref b8), .val (.ref b34), .val (.int kq), .val (.ref b36), .val (.ref o38)] [])
        refine own_by (fun t k => XS.aload X38.here hx rfl (hb hby at_216) rfl rfl k) ?_
        show ORun p e below s _ _ _ T38 (mkF m 218 #[.val (.int p1), .val (.int p2), .val (.int p3), .val (.int p4), .val (.int p5), .val (.int p6), .val (.int v2), .val (.int v6), .val (.ref b8), .val (.ref b34), .val (.int kq), .val (.ref b36), .val (.ref o38)] [(.ref o38)])
        refine own_by (fun t k => XS.iconst X38.here hx rfl (hb hby at_218) k) ?_
        show ORun p e below s _ _ _ T38 (mkF m 219 #[.val (.int p1), .val (.int p2), .val (.int p3), .val (.int p4), .val (.int p5), .val (.int p6), .val (.int v2), .val (.int v6), .val (.ref b8), .val (.ref b34), .val (.int kq), .val (.ref b36), .val (.ref o38)] [(.int (0 : Int32)), (.ref o38)])
        refine own_iaload X38 hx hZ rfl Vq38 (i := 0) (by decide) (by omega) (hb hby at_219) ?_
        intro v41 hv41
        have r41 := rng32 v41
        show ORun p e below s _ _ _ T38 (mkF m 220 #[.val (.int p1), .val (.int p2), .val (.int p3), .val (.int p4), .val (.int p5), .val (.int p6), .val (.int v2), .val (.int v6), .val (.ref b8), .val (.ref b34), .val (.int kq), .val (.ref b36), .val (.ref o38)] [(.int v41)])
        refine own_by (fun t k => XS.aload X38.here hx rfl (hb hby at_220) rfl rfl k) ?_
        show ORun p e below s _ _ _ T38 (mkF m 222 #[.val (.int p1), .val (.int p2), .val (.int p3), .val (.int p4), .val (.int p5), .val (.int p6), .val (.int v2), .val (.int v6), .val (.ref b8), .val (.ref b34), .val (.int kq), .val (.ref b36), .val (.ref o38)] [(.ref b34), (.int v41)])
        refine own_by (fun t k => XS.iconst X38.here hx rfl (hb hby at_222) k) ?_
        show ORun p e below s _ _ _ T38 (mkF m 223 #[.val (.int p1), .val (.int p2), .val (.int p3), .val (.int p4), .val (.int p5), .val (.int p6), .val (.int v2), .val (.int v6), .val (.ref b8), .val (.ref b34), .val (.int kq), .val (.ref b36), .val (.ref o38)] [(.int (0 : Int32)), (.ref b34), (.int v41)])
        refine own_iaload X38 hx hZ rfl (((Vl35_1.ext E36).keep K37 (ninS ne_b34_b36 nin0)).keep K38 nin0) (i := 0) (by decide) (by omega) (hb hby at_223) ?_
        intro v42 hv42
        have r42 := rng32 v42
        show ORun p e below s _ _ _ T38 (mkF m 224 #[.val (.int p1), .val (.int p2), .val (.int p3), .val (.int p4), .val (.int p5), .val (.int p6), .val (.int v2), .val (.int v6), .val (.ref b8), .val (.ref b34), .val (.int kq), .val (.ref b36), .val (.ref o38)] [(.int v42), (.int v41)])
        refine own_by (fun t k => XS.icmpNo X38.here hx rfl (hb hby at_224) rfl (teq (by rw [hv41, hv42]; exact own_tk (by omega))).2 k) ?_
        show ORun p e below s _ _ _ T38 (mkF m 227 #[.val (.int p1), .val (.int p2), .val (.int p3), .val (.int p4), .val (.int p5), .val (.int p6), .val (.int v2), .val (.int v6), .val (.ref b8), .val (.ref b34), .val (.int kq), .val (.ref b36), .val (.ref o38)] [])
        refine own_by (fun t k => XS.iload X38.here hx rfl (hb hby at_227) rfl k) ?_
        show ORun p e below s _ _ _ T38 (mkF m 229 #[.val (.int p1), .val (.int p2), .val (.int p3), .val (.int p4), .val (.int p5), .val (.int p6), .val (.int v2), .val (.int v6), .val (.ref b8), .val (.ref b34), .val (.int kq), .val (.ref b36), .val (.ref o38)] [(.int kq)])
        refine own_by (fun t k => XS.iconst X38.here hx rfl (hb hby at_229) k) ?_
        show ORun p e below s _ _ _ T38 (mkF m 230 #[.val (.int p1), .val (.int p2), .val (.int p3), .val (.int p4), .val (.int p5), .val (.int p6), .val (.int v2), .val (.int v6), .val (.ref b8), .val (.ref b34), .val (.int kq), .val (.ref b36), .val (.ref o38)] [(.int (2 : Int32)), (.int kq)])
        by_cases hc43 : kq < (2 : Int32)
        · have t43 := own_lt hc43 (a := kq.toInt) (b := 2) rfl (by decide)
          refine own_by (fun t k => XS.icmpYes X38.here hx rfl (pc0 := 230) (pc' := 244) rfl (hb hby at_230) rfl (tlt hc43).1 (by decide) (by decide) k) ?_
          show ORun p e below s _ _ _ T38 (mkF m 244 #[.val (.int p1), .val (.int p2), .val (.int p3), .val (.int p4), .val (.int p5), .val (.int p6), .val (.int v2), .val (.int v6), .val (.ref b8), .val (.ref b34), .val (.int kq), .val (.ref b36), .val (.ref o38)] [])
          refine own_by (fun t k => XS.iload X38.here hx rfl (hb hby at_244) rfl k) ?_
          show ORun p e below s _ _ _ T38 (mkF m 246 #[.val (.int p1), .val (.int p2), .val (.int p3), .val (.int p4), .val (.int p5), .val (.int p6), .val (.int v2), .val (.int v6), .val (.ref b8), .val (.ref b34), .val (.int kq), .val (.ref b36), .val (.ref o38)] [(.int kq)])
          refine own_by (fun t k => XS.iconst X38.here hx rfl (hb hby at_246) k) ?_
          show ORun p e below s _ _ _ T38 (mkF m 247 #[.val (.int p1), .val (.int p2), .val (.int p3), .val (.int p4), .val (.int p5), .val (.int p6), .val (.int v2), .val (.int v6), .val (.ref b8), .val (.ref b34), .val (.int kq), .val (.ref b36), .val (.ref o38)] [(.int (3 : Int32)), (.int kq)])
          refine own_by (fun t k => XS.icmpYes X38.here hx rfl (pc0 := 247) (pc' := 261) rfl (hb hby at_247) rfl (tlt (Int32.lt_iff_toInt_lt.mpr (by show kq.toInt < 3; omega))).1 (by decide) (by decide) k) ?_
          show ORun p e below s _ _ _ T38 (mkF m 261 #[.val (.int p1), .val (.int p2), .val (.int p3), .val (.int p4), .val (.int p5), .val (.int p6), .val (.int v2), .val (.int v6), .val (.ref b8), .val (.ref b34), .val (.int kq), .val (.ref b36), .val (.ref o38)] [])
          refine own_by (fun t k => XS.iload X38.here hx rfl (hb hby at_261) rfl k) ?_
          show ORun p e below s _ _ _ T38 (mkF m 263 #[.val (.int p1), .val (.int p2), .val (.int p3), .val (.int p4), .val (.int p5), .val (.int p6), .val (.int v2), .val (.int v6), .val (.ref b8), .val (.ref b34), .val (.int kq), .val (.ref b36), .val (.ref o38)] [(.int kq)])
          refine own_by (fun t k => XS.iconst X38.here hx rfl (hb hby at_263) k) ?_
          show ORun p e below s _ _ _ T38 (mkF m 264 #[.val (.int p1), .val (.int p2), .val (.int p3), .val (.int p4), .val (.int p5), .val (.int p6), .val (.int v2), .val (.int v6), .val (.ref b8), .val (.ref b34), .val (.int kq), .val (.ref b36), .val (.ref o38)] [(.int (4 : Int32)), (.int kq)])
          refine own_by (fun t k => XS.icmpYes X38.here hx rfl (pc0 := 264) (pc' := 278) rfl (hb hby at_264) rfl (tlt (Int32.lt_iff_toInt_lt.mpr (by show kq.toInt < 4; omega))).1 (by decide) (by decide) k) ?_
          show ORun p e below s _ _ _ T38 (mkF m 278 #[.val (.int p1), .val (.int p2), .val (.int p3), .val (.int p4), .val (.int p5), .val (.int p6), .val (.int v2), .val (.int v6), .val (.ref b8), .val (.ref b34), .val (.int kq), .val (.ref b36), .val (.ref o38)] [])
          refine own_by (fun t k => XS.iload X38.here hx rfl (hb hby at_278) rfl k) ?_
          show ORun p e below s _ _ _ T38 (mkF m 280 #[.val (.int p1), .val (.int p2), .val (.int p3), .val (.int p4), .val (.int p5), .val (.int p6), .val (.int v2), .val (.int v6), .val (.ref b8), .val (.ref b34), .val (.int kq), .val (.ref b36), .val (.ref o38)] [(.int kq)])
          refine own_by (fun t k => XS.iconst X38.here hx rfl (hb hby at_280) k) ?_
          show ORun p e below s _ _ _ T38 (mkF m 281 #[.val (.int p1), .val (.int p2), .val (.int p3), .val (.int p4), .val (.int p5), .val (.int p6), .val (.int v2), .val (.int v6), .val (.ref b8), .val (.ref b34), .val (.int kq), .val (.ref b36), .val (.ref o38)] [(.int (5 : Int32)), (.int kq)])
          refine own_by (fun t k => XS.icmpYes X38.here hx rfl (pc0 := 281) (pc' := 295) rfl (hb hby at_281) rfl (tlt (Int32.lt_iff_toInt_lt.mpr (by show kq.toInt < 5; omega))).1 (by decide) (by decide) k) ?_
          show ORun p e below s _ _ _ T38 (mkF m 295 #[.val (.int p1), .val (.int p2), .val (.int p3), .val (.int p4), .val (.int p5), .val (.int p6), .val (.int v2), .val (.int v6), .val (.ref b8), .val (.ref b34), .val (.int kq), .val (.ref b36), .val (.ref o38)] [])
          refine own_by (fun t k => XS.iconst X38.here hx rfl (hb hby at_295) k) ?_
          show ORun p e below s _ _ _ T38 (mkF m 296 #[.val (.int p1), .val (.int p2), .val (.int p3), .val (.int p4), .val (.int p5), .val (.int p6), .val (.int v2), .val (.int v6), .val (.ref b8), .val (.ref b34), .val (.int kq), .val (.ref b36), .val (.ref o38)] [(.int (1 : Int32))])
          refine own_by (fun t k => XS.goto X38.here hx rfl (pc0 := 296) (pc' := 300) rfl (hb hby at_296) (by decide) (by decide) k) ?_
          show ORun p e below s _ _ _ T38 (mkF m 300 #[.val (.int p1), .val (.int p2), .val (.int p3), .val (.int p4), .val (.int p5), .val (.int p6), .val (.int v2), .val (.int v6), .val (.ref b8), .val (.ref b34), .val (.int kq), .val (.ref b36), .val (.ref o38)] [(.int (1 : Int32))])
          refine own_retN X38 hx (t := .boolean) hret (by simp) hlk (hb hby at_300) (by decide) (by decide) ?_
          exact ⟨rfl, N38⟩
        · have t43 := own_nlt hc43 (a := kq.toInt) (b := 2) rfl (by decide)
          refine own_by (fun t k => XS.icmpNo X38.here hx rfl (hb hby at_230) rfl (flt hc43).1 k) ?_
          show ORun p e below s _ _ _ T38 (mkF m 233 #[.val (.int p1), .val (.int p2), .val (.int p3), .val (.int p4), .val (.int p5), .val (.int p6), .val (.int v2), .val (.int v6), .val (.ref b8), .val (.ref b34), .val (.int kq), .val (.ref b36), .val (.ref o38)] [])
          refine own_by (fun t k => XS.aload X38.here hx rfl (hb hby at_233) rfl rfl k) ?_
          show ORun p e below s _ _ _ T38 (mkF m 235 #[.val (.int p1), .val (.int p2), .val (.int p3), .val (.int p4), .val (.int p5), .val (.int p6), .val (.int v2), .val (.int v6), .val (.ref b8), .val (.ref b34), .val (.int kq), .val (.ref b36), .val (.ref o38)] [(.ref o38)])
          refine own_by (fun t k => XS.iconst X38.here hx rfl (hb hby at_235) k) ?_
          show ORun p e below s _ _ _ T38 (mkF m 236 #[.val (.int p1), .val (.int p2), .val (.int p3), .val (.int p4), .val (.int p5), .val (.int p6), .val (.int v2), .val (.int v6), .val (.ref b8), .val (.ref b34), .val (.int kq), .val (.ref b36), .val (.ref o38)] [(.int (1 : Int32)), (.ref o38)])
          refine own_iaload X38 hx hZ rfl Vq38 (i := 1) (by decide) (by omega) (hb hby at_236) ?_
          intro v44 hv44
          have r44 := rng32 v44
          show ORun p e below s _ _ _ T38 (mkF m 237 #[.val (.int p1), .val (.int p2), .val (.int p3), .val (.int p4), .val (.int p5), .val (.int p6), .val (.int v2), .val (.int v6), .val (.ref b8), .val (.ref b34), .val (.int kq), .val (.ref b36), .val (.ref o38)] [(.int v44)])
          refine own_by (fun t k => XS.aload X38.here hx rfl (hb hby at_237) rfl rfl k) ?_
          show ORun p e below s _ _ _ T38 (mkF m 239 #[.val (.int p1), .val (.int p2), .val (.int p3), .val (.int p4), .val (.int p5), .val (.int p6), .val (.int v2), .val (.int v6), .val (.ref b8), .val (.ref b34), .val (.int kq), .val (.ref b36), .val (.ref o38)] [(.ref b34), (.int v44)])
          refine own_by (fun t k => XS.iconst X38.here hx rfl (hb hby at_239) k) ?_
          show ORun p e below s _ _ _ T38 (mkF m 240 #[.val (.int p1), .val (.int p2), .val (.int p3), .val (.int p4), .val (.int p5), .val (.int p6), .val (.int v2), .val (.int v6), .val (.ref b8), .val (.ref b34), .val (.int kq), .val (.ref b36), .val (.ref o38)] [(.int (1 : Int32)), (.ref b34), (.int v44)])
          refine own_iaload X38 hx hZ rfl (((Vl35_1.ext E36).keep K37 (ninS ne_b34_b36 nin0)).keep K38 nin0) (i := 1) (by decide) (by omega) (hb hby at_240) ?_
          intro v45 hv45
          have r45 := rng32 v45
          show ORun p e below s _ _ _ T38 (mkF m 241 #[.val (.int p1), .val (.int p2), .val (.int p3), .val (.int p4), .val (.int p5), .val (.int p6), .val (.int v2), .val (.int v6), .val (.ref b8), .val (.ref b34), .val (.int kq), .val (.ref b36), .val (.ref o38)] [(.int v45), (.int v44)])
          refine own_by (fun t k => XS.icmpNo X38.here hx rfl (hb hby at_241) rfl (teq (by rw [hv44, hv45]; exact own_tk (by omega))).2 k) ?_
          show ORun p e below s _ _ _ T38 (mkF m 244 #[.val (.int p1), .val (.int p2), .val (.int p3), .val (.int p4), .val (.int p5), .val (.int p6), .val (.int v2), .val (.int v6), .val (.ref b8), .val (.ref b34), .val (.int kq), .val (.ref b36), .val (.ref o38)] [])
          refine own_by (fun t k => XS.iload X38.here hx rfl (hb hby at_244) rfl k) ?_
          show ORun p e below s _ _ _ T38 (mkF m 246 #[.val (.int p1), .val (.int p2), .val (.int p3), .val (.int p4), .val (.int p5), .val (.int p6), .val (.int v2), .val (.int v6), .val (.ref b8), .val (.ref b34), .val (.int kq), .val (.ref b36), .val (.ref o38)] [(.int kq)])
          refine own_by (fun t k => XS.iconst X38.here hx rfl (hb hby at_246) k) ?_
          show ORun p e below s _ _ _ T38 (mkF m 247 #[.val (.int p1), .val (.int p2), .val (.int p3), .val (.int p4), .val (.int p5), .val (.int p6), .val (.int v2), .val (.int v6), .val (.ref b8), .val (.ref b34), .val (.int kq), .val (.ref b36), .val (.ref o38)] [(.int (3 : Int32)), (.int kq)])
          by_cases hc46 : kq < (3 : Int32)
          · have t46 := own_lt hc46 (a := kq.toInt) (b := 3) rfl (by decide)
            refine own_by (fun t k => XS.icmpYes X38.here hx rfl (pc0 := 247) (pc' := 261) rfl (hb hby at_247) rfl (tlt hc46).1 (by decide) (by decide) k) ?_
            show ORun p e below s _ _ _ T38 (mkF m 261 #[.val (.int p1), .val (.int p2), .val (.int p3), .val (.int p4), .val (.int p5), .val (.int p6), .val (.int v2), .val (.int v6), .val (.ref b8), .val (.ref b34), .val (.int kq), .val (.ref b36), .val (.ref o38)] [])
            refine own_by (fun t k => XS.iload X38.here hx rfl (hb hby at_261) rfl k) ?_
            show ORun p e below s _ _ _ T38 (mkF m 263 #[.val (.int p1), .val (.int p2), .val (.int p3), .val (.int p4), .val (.int p5), .val (.int p6), .val (.int v2), .val (.int v6), .val (.ref b8), .val (.ref b34), .val (.int kq), .val (.ref b36), .val (.ref o38)] [(.int kq)])
            refine own_by (fun t k => XS.iconst X38.here hx rfl (hb hby at_263) k) ?_
            show ORun p e below s _ _ _ T38 (mkF m 264 #[.val (.int p1), .val (.int p2), .val (.int p3), .val (.int p4), .val (.int p5), .val (.int p6), .val (.int v2), .val (.int v6), .val (.ref b8), .val (.ref b34), .val (.int kq), .val (.ref b36), .val (.ref o38)] [(.int (4 : Int32)), (.int kq)])
            refine own_by (fun t k => XS.icmpYes X38.here hx rfl (pc0 := 264) (pc' := 278) rfl (hb hby at_264) rfl (tlt (Int32.lt_iff_toInt_lt.mpr (by show kq.toInt < 4; omega))).1 (by decide) (by decide) k) ?_
            show ORun p e below s _ _ _ T38 (mkF m 278 #[.val (.int p1), .val (.int p2), .val (.int p3), .val (.int p4), .val (.int p5), .val (.int p6), .val (.int v2), .val (.int v6), .val (.ref b8), .val (.ref b34), .val (.int kq), .val (.ref b36), .val (.ref o38)] [])
            refine own_by (fun t k => XS.iload X38.here hx rfl (hb hby at_278) rfl k) ?_
            show ORun p e below s _ _ _ T38 (mkF m 280 #[.val (.int p1), .val (.int p2), .val (.int p3), .val (.int p4), .val (.int p5), .val (.int p6), .val (.int v2), .val (.int v6), .val (.ref b8), .val (.ref b34), .val (.int kq), .val (.ref b36), .val (.ref o38)] [(.int kq)])
            refine own_by (fun t k => XS.iconst X38.here hx rfl (hb hby at_280) k) ?_
            show ORun p e below s _ _ _ T38 (mkF m 281 #[.val (.int p1), .val (.int p2), .val (.int p3), .val (.int p4), .val (.int p5), .val (.int p6), .val (.int v2), .val (.int v6), .val (.ref b8), .val (.ref b34), .val (.int kq), .val (.ref b36), .val (.ref o38)] [(.int (5 : Int32)), (.int kq)])
            refine own_by (fun t k => XS.icmpYes X38.here hx rfl (pc0 := 281) (pc' := 295) rfl (hb hby at_281) rfl (tlt (Int32.lt_iff_toInt_lt.mpr (by show kq.toInt < 5; omega))).1 (by decide) (by decide) k) ?_
            show ORun p e below s _ _ _ T38 (mkF m 295 #[.val (.int p1), .val (.int p2), .val (.int p3), .val (.int p4), .val (.int p5), .val (.int p6), .val (.int v2), .val (.int v6), .val (.ref b8), .val (.ref b34), .val (.int kq), .val (.ref b36), .val (.ref o38)] [])
            refine own_by (fun t k => XS.iconst X38.here hx rfl (hb hby at_295) k) ?_
            show ORun p e below s _ _ _ T38 (mkF m 296 #[.val (.int p1), .val (.int p2), .val (.int p3), .val (.int p4), .val (.int p5), .val (.int p6), .val (.int v2), .val (.int v6), .val (.ref b8), .val (.ref b34), .val (.int kq), .val (.ref b36), .val (.ref o38)] [(.int (1 : Int32))])
            refine own_by (fun t k => XS.goto X38.here hx rfl (pc0 := 296) (pc' := 300) rfl (hb hby at_296) (by decide) (by decide) k) ?_
            show ORun p e below s _ _ _ T38 (mkF m 300 #[.val (.int p1), .val (.int p2), .val (.int p3), .val (.int p4), .val (.int p5), .val (.int p6), .val (.int v2), .val (.int v6), .val (.ref b8), .val (.ref b34), .val (.int kq), .val (.ref b36), .val (.ref o38)] [(.int (1 : Int32))])
            refine own_retN X38 hx (t := .boolean) hret (by simp) hlk (hb hby at_300) (by decide) (by decide) ?_
            exact ⟨rfl, N38⟩
          · have t46 := own_nlt hc46 (a := kq.toInt) (b := 3) rfl (by decide)
            refine own_by (fun t k => XS.icmpNo X38.here hx rfl (hb hby at_247) rfl (flt hc46).1 k) ?_
            show ORun p e below s _ _ _ T38 (mkF m 250 #[.val (.int p1), .val (.int p2), .val (.int p3), .val (.int p4), .val (.int p5), .val (.int p6), .val (.int v2), .val (.int v6), .val (.ref b8), .val (.ref b34), .val (.int kq), .val (.ref b36), .val (.ref o38)] [])
            refine own_by (fun t k => XS.aload X38.here hx rfl (hb hby at_250) rfl rfl k) ?_
            show ORun p e below s _ _ _ T38 (mkF m 252 #[.val (.int p1), .val (.int p2), .val (.int p3), .val (.int p4), .val (.int p5), .val (.int p6), .val (.int v2), .val (.int v6), .val (.ref b8), .val (.ref b34), .val (.int kq), .val (.ref b36), .val (.ref o38)] [(.ref o38)])
            refine own_by (fun t k => XS.iconst X38.here hx rfl (hb hby at_252) k) ?_
            show ORun p e below s _ _ _ T38 (mkF m 253 #[.val (.int p1), .val (.int p2), .val (.int p3), .val (.int p4), .val (.int p5), .val (.int p6), .val (.int v2), .val (.int v6), .val (.ref b8), .val (.ref b34), .val (.int kq), .val (.ref b36), .val (.ref o38)] [(.int (2 : Int32)), (.ref o38)])
            refine own_iaload X38 hx hZ rfl Vq38 (i := 2) (by decide) (by omega) (hb hby at_253) ?_
            intro v47 hv47
            have r47 := rng32 v47
            show ORun p e below s _ _ _ T38 (mkF m 254 #[.val (.int p1), .val (.int p2), .val (.int p3), .val (.int p4), .val (.int p5), .val (.int p6), .val (.int v2), .val (.int v6), .val (.ref b8), .val (.ref b34), .val (.int kq), .val (.ref b36), .val (.ref o38)] [(.int v47)])
            refine own_by (fun t k => XS.aload X38.here hx rfl (hb hby at_254) rfl rfl k) ?_
            show ORun p e below s _ _ _ T38 (mkF m 256 #[.val (.int p1), .val (.int p2), .val (.int p3), .val (.int p4), .val (.int p5), .val (.int p6), .val (.int v2), .val (.int v6), .val (.ref b8), .val (.ref b34), .val (.int kq), .val (.ref b36), .val (.ref o38)] [(.ref b34), (.int v47)])
            refine own_by (fun t k => XS.iconst X38.here hx rfl (hb hby at_256) k) ?_
            show ORun p e below s _ _ _ T38 (mkF m 257 #[.val (.int p1), .val (.int p2), .val (.int p3), .val (.int p4), .val (.int p5), .val (.int p6), .val (.int v2), .val (.int v6), .val (.ref b8), .val (.ref b34), .val (.int kq), .val (.ref b36), .val (.ref o38)] [(.int (2 : Int32)), (.ref b34), (.int v47)])
            refine own_iaload X38 hx hZ rfl (((Vl35_1.ext E36).keep K37 (ninS ne_b34_b36 nin0)).keep K38 nin0) (i := 2) (by decide) (by omega) (hb hby at_257) ?_
            intro v48 hv48
            have r48 := rng32 v48
            show ORun p e below s _ _ _ T38 (mkF m 258 #[.val (.int p1), .val (.int p2), .val (.int p3), .val (.int p4), .val (.int p5), .val (.int p6), .val (.int v2), .val (.int v6), .val (.ref b8), .val (.ref b34), .val (.int kq), .val (.ref b36), .val (.ref o38)] [(.int v48), (.int v47)])
            refine own_by (fun t k => XS.icmpNo X38.here hx rfl (hb hby at_258) rfl (teq (by rw [hv47, hv48]; exact own_tk (by omega))).2 k) ?_
            show ORun p e below s _ _ _ T38 (mkF m 261 #[.val (.int p1), .val (.int p2), .val (.int p3), .val (.int p4), .val (.int p5), .val (.int p6), .val (.int v2), .val (.int v6), .val (.ref b8), .val (.ref b34), .val (.int kq), .val (.ref b36), .val (.ref o38)] [])
            refine own_by (fun t k => XS.iload X38.here hx rfl (hb hby at_261) rfl k) ?_
            show ORun p e below s _ _ _ T38 (mkF m 263 #[.val (.int p1), .val (.int p2), .val (.int p3), .val (.int p4), .val (.int p5), .val (.int p6), .val (.int v2), .val (.int v6), .val (.ref b8), .val (.ref b34), .val (.int kq), .val (.ref b36), .val (.ref o38)] [(.int kq)])
            refine own_by (fun t k => XS.iconst X38.here hx rfl (hb hby at_263) k) ?_
            show ORun p e below s _ _ _ T38 (mkF m 264 #[.val (.int p1), .val (.int p2), .val (.int p3), .val (.int p4), .val (.int p5), .val (.int p6), .val (.int v2), .val (.int v6), .val (.ref b8), .val (.ref b34), .val (.int kq), .val (.ref b36), .val (.ref o38)] [(.int (4 : Int32)), (.int kq)])
            by_cases hc49 : kq < (4 : Int32)
            · have t49 := own_lt hc49 (a := kq.toInt) (b := 4) rfl (by decide)
              refine own_by (fun t k => XS.icmpYes X38.here hx rfl (pc0 := 264) (pc' := 278) rfl (hb hby at_264) rfl (tlt hc49).1 (by decide) (by decide) k) ?_
              show ORun p e below s _ _ _ T38 (mkF m 278 #[.val (.int p1), .val (.int p2), .val (.int p3), .val (.int p4), .val (.int p5), .val (.int p6), .val (.int v2), .val (.int v6), .val (.ref b8), .val (.ref b34), .val (.int kq), .val (.ref b36), .val (.ref o38)] [])
              refine own_by (fun t k => XS.iload X38.here hx rfl (hb hby at_278) rfl k) ?_
              show ORun p e below s _ _ _ T38 (mkF m 280 #[.val (.int p1), .val (.int p2), .val (.int p3), .val (.int p4), .val (.int p5), .val (.int p6), .val (.int v2), .val (.int v6), .val (.ref b8), .val (.ref b34), .val (.int kq), .val (.ref b36), .val (.ref o38)] [(.int kq)])
              refine own_by (fun t k => XS.iconst X38.here hx rfl (hb hby at_280) k) ?_
              show ORun p e below s _ _ _ T38 (mkF m 281 #[.val (.int p1), .val (.int p2), .val (.int p3), .val (.int p4), .val (.int p5), .val (.int p6), .val (.int v2), .val (.int v6), .val (.ref b8), .val (.ref b34), .val (.int kq), .val (.ref b36), .val (.ref o38)] [(.int (5 : Int32)), (.int kq)])
              refine own_by (fun t k => XS.icmpYes X38.here hx rfl (pc0 := 281) (pc' := 295) rfl (hb hby at_281) rfl (tlt (Int32.lt_iff_toInt_lt.mpr (by show kq.toInt < 5; omega))).1 (by decide) (by decide) k) ?_
              show ORun p e below s _ _ _ T38 (mkF m 295 #[.val (.int p1), .val (.int p2), .val (.int p3), .val (.int p4), .val (.int p5), .val (.int p6), .val (.int v2), .val (.int v6), .val (.ref b8), .val (.ref b34), .val (.int kq), .val (.ref b36), .val (.ref o38)] [])
              refine own_by (fun t k => XS.iconst X38.here hx rfl (hb hby at_295) k) ?_
              show ORun p e below s _ _ _ T38 (mkF m 296 #[.val (.int p1), .val (.int p2), .val (.int p3), .val (.int p4), .val (.int p5), .val (.int p6), .val (.int v2), .val (.int v6), .val (.ref b8), .val (.ref b34), .val (.int kq), .val (.ref b36), .val (.ref o38)] [(.int (1 : Int32))])
              refine own_by (fun t k => XS.goto X38.here hx rfl (pc0 := 296) (pc' := 300) rfl (hb hby at_296) (by decide) (by decide) k) ?_
              show ORun p e below s _ _ _ T38 (mkF m 300 #[.val (.int p1), .val (.int p2), .val (.int p3), .val (.int p4), .val (.int p5), .val (.int p6), .val (.int v2), .val (.int v6), .val (.ref b8), .val (.ref b34), .val (.int kq), .val (.ref b36), .val (.ref o38)] [(.int (1 : Int32))])
              refine own_retN X38 hx (t := .boolean) hret (by simp) hlk (hb hby at_300) (by decide) (by decide) ?_
              exact ⟨rfl, N38⟩
            · have t49 := own_nlt hc49 (a := kq.toInt) (b := 4) rfl (by decide)
              refine own_by (fun t k => XS.icmpNo X38.here hx rfl (hb hby at_264) rfl (flt hc49).1 k) ?_
              show ORun p e below s _ _ _ T38 (mkF m 267 #[.val (.int p1), .val (.int p2), .val (.int p3), .val (.int p4), .val (.int p5), .val (.int p6), .val (.int v2), .val (.int v6), .val (.ref b8), .val (.ref b34), .val (.int kq), .val (.ref b36), .val (.ref o38)] [])
              refine own_by (fun t k => XS.aload X38.here hx rfl (hb hby at_267) rfl rfl k) ?_
              show ORun p e below s _ _ _ T38 (mkF m 269 #[.val (.int p1), .val (.int p2), .val (.int p3), .val (.int p4), .val (.int p5), .val (.int p6), .val (.int v2), .val (.int v6), .val (.ref b8), .val (.ref b34), .val (.int kq), .val (.ref b36), .val (.ref o38)] [(.ref o38)])
              refine own_by (fun t k => XS.iconst X38.here hx rfl (hb hby at_269) k) ?_
              show ORun p e below s _ _ _ T38 (mkF m 270 #[.val (.int p1), .val (.int p2), .val (.int p3), .val (.int p4), .val (.int p5), .val (.int p6), .val (.int v2), .val (.int v6), .val (.ref b8), .val (.ref b34), .val (.int kq), .val (.ref b36), .val (.ref o38)] [(.int (3 : Int32)), (.ref o38)])
              refine own_iaload X38 hx hZ rfl Vq38 (i := 3) (by decide) (by omega) (hb hby at_270) ?_
              intro v50 hv50
              have r50 := rng32 v50
              show ORun p e below s _ _ _ T38 (mkF m 271 #[.val (.int p1), .val (.int p2), .val (.int p3), .val (.int p4), .val (.int p5), .val (.int p6), .val (.int v2), .val (.int v6), .val (.ref b8), .val (.ref b34), .val (.int kq), .val (.ref b36), .val (.ref o38)] [(.int v50)])
              refine own_by (fun t k => XS.aload X38.here hx rfl (hb hby at_271) rfl rfl k) ?_
              show ORun p e below s _ _ _ T38 (mkF m 273 #[.val (.int p1), .val (.int p2), .val (.int p3), .val (.int p4), .val (.int p5), .val (.int p6), .val (.int v2), .val (.int v6), .val (.ref b8), .val (.ref b34), .val (.int kq), .val (.ref b36), .val (.ref o38)] [(.ref b34), (.int v50)])
              refine own_by (fun t k => XS.iconst X38.here hx rfl (hb hby at_273) k) ?_
              show ORun p e below s _ _ _ T38 (mkF m 274 #[.val (.int p1), .val (.int p2), .val (.int p3), .val (.int p4), .val (.int p5), .val (.int p6), .val (.int v2), .val (.int v6), .val (.ref b8), .val (.ref b34), .val (.int kq), .val (.ref b36), .val (.ref o38)] [(.int (3 : Int32)), (.ref b34), (.int v50)])
              refine own_iaload X38 hx hZ rfl (((Vl35_1.ext E36).keep K37 (ninS ne_b34_b36 nin0)).keep K38 nin0) (i := 3) (by decide) (by omega) (hb hby at_274) ?_
              intro v51 hv51
              have r51 := rng32 v51
              show ORun p e below s _ _ _ T38 (mkF m 275 #[.val (.int p1), .val (.int p2), .val (.int p3), .val (.int p4), .val (.int p5), .val (.int p6), .val (.int v2), .val (.int v6), .val (.ref b8), .val (.ref b34), .val (.int kq), .val (.ref b36), .val (.ref o38)] [(.int v51), (.int v50)])
              refine own_by (fun t k => XS.icmpNo X38.here hx rfl (hb hby at_275) rfl (teq (by rw [hv50, hv51]; exact own_tk (by omega))).2 k) ?_
              show ORun p e below s _ _ _ T38 (mkF m 278 #[.val (.int p1), .val (.int p2), .val (.int p3), .val (.int p4), .val (.int p5), .val (.int p6), .val (.int v2), .val (.int v6), .val (.ref b8), .val (.ref b34), .val (.int kq), .val (.ref b36), .val (.ref o38)] [])
              refine own_by (fun t k => XS.iload X38.here hx rfl (hb hby at_278) rfl k) ?_
              show ORun p e below s _ _ _ T38 (mkF m 280 #[.val (.int p1), .val (.int p2), .val (.int p3), .val (.int p4), .val (.int p5), .val (.int p6), .val (.int v2), .val (.int v6), .val (.ref b8), .val (.ref b34), .val (.int kq), .val (.ref b36), .val (.ref o38)] [(.int kq)])
              refine own_by (fun t k => XS.iconst X38.here hx rfl (hb hby at_280) k) ?_
              show ORun p e below s _ _ _ T38 (mkF m 281 #[.val (.int p1), .val (.int p2), .val (.int p3), .val (.int p4), .val (.int p5), .val (.int p6), .val (.int v2), .val (.int v6), .val (.ref b8), .val (.ref b34), .val (.int kq), .val (.ref b36), .val (.ref o38)] [(.int (5 : Int32)), (.int kq)])
              by_cases hc52 : kq < (5 : Int32)
              · have t52 := own_lt hc52 (a := kq.toInt) (b := 5) rfl (by decide)
                refine own_by (fun t k => XS.icmpYes X38.here hx rfl (pc0 := 281) (pc' := 295) rfl (hb hby at_281) rfl (tlt hc52).1 (by decide) (by decide) k) ?_
                show ORun p e below s _ _ _ T38 (mkF m 295 #[.val (.int p1), .val (.int p2), .val (.int p3), .val (.int p4), .val (.int p5), .val (.int p6), .val (.int v2), .val (.int v6), .val (.ref b8), .val (.ref b34), .val (.int kq), .val (.ref b36), .val (.ref o38)] [])
                refine own_by (fun t k => XS.iconst X38.here hx rfl (hb hby at_295) k) ?_
                show ORun p e below s _ _ _ T38 (mkF m 296 #[.val (.int p1), .val (.int p2), .val (.int p3), .val (.int p4), .val (.int p5), .val (.int p6), .val (.int v2), .val (.int v6), .val (.ref b8), .val (.ref b34), .val (.int kq), .val (.ref b36), .val (.ref o38)] [(.int (1 : Int32))])
                refine own_by (fun t k => XS.goto X38.here hx rfl (pc0 := 296) (pc' := 300) rfl (hb hby at_296) (by decide) (by decide) k) ?_
                show ORun p e below s _ _ _ T38 (mkF m 300 #[.val (.int p1), .val (.int p2), .val (.int p3), .val (.int p4), .val (.int p5), .val (.int p6), .val (.int v2), .val (.int v6), .val (.ref b8), .val (.ref b34), .val (.int kq), .val (.ref b36), .val (.ref o38)] [(.int (1 : Int32))])
                refine own_retN X38 hx (t := .boolean) hret (by simp) hlk (hb hby at_300) (by decide) (by decide) ?_
                exact ⟨rfl, N38⟩
              · have t52 := own_nlt hc52 (a := kq.toInt) (b := 5) rfl (by decide)
                refine own_by (fun t k => XS.icmpNo X38.here hx rfl (hb hby at_281) rfl (flt hc52).1 k) ?_
                show ORun p e below s _ _ _ T38 (mkF m 284 #[.val (.int p1), .val (.int p2), .val (.int p3), .val (.int p4), .val (.int p5), .val (.int p6), .val (.int v2), .val (.int v6), .val (.ref b8), .val (.ref b34), .val (.int kq), .val (.ref b36), .val (.ref o38)] [])
                refine own_by (fun t k => XS.aload X38.here hx rfl (hb hby at_284) rfl rfl k) ?_
                show ORun p e below s _ _ _ T38 (mkF m 286 #[.val (.int p1), .val (.int p2), .val (.int p3), .val (.int p4), .val (.int p5), .val (.int p6), .val (.int v2), .val (.int v6), .val (.ref b8), .val (.ref b34), .val (.int kq), .val (.ref b36), .val (.ref o38)] [(.ref o38)])
                refine own_by (fun t k => XS.iconst X38.here hx rfl (hb hby at_286) k) ?_
                show ORun p e below s _ _ _ T38 (mkF m 287 #[.val (.int p1), .val (.int p2), .val (.int p3), .val (.int p4), .val (.int p5), .val (.int p6), .val (.int v2), .val (.int v6), .val (.ref b8), .val (.ref b34), .val (.int kq), .val (.ref b36), .val (.ref o38)] [(.int (4 : Int32)), (.ref o38)])
                refine own_iaload X38 hx hZ rfl Vq38 (i := 4) (by decide) (by omega) (hb hby at_287) ?_
                intro v53 hv53
                have r53 := rng32 v53
                show ORun p e below s _ _ _ T38 (mkF m 288 #[.val (.int p1), .val (.int p2), .val (.int p3), .val (.int p4), .val (.int p5), .val (.int p6), .val (.int v2), .val (.int v6), .val (.ref b8), .val (.ref b34), .val (.int kq), .val (.ref b36), .val (.ref o38)] [(.int v53)])
                refine own_by (fun t k => XS.aload X38.here hx rfl (hb hby at_288) rfl rfl k) ?_
                show ORun p e below s _ _ _ T38 (mkF m 290 #[.val (.int p1), .val (.int p2), .val (.int p3), .val (.int p4), .val (.int p5), .val (.int p6), .val (.int v2), .val (.int v6), .val (.ref b8), .val (.ref b34), .val (.int kq), .val (.ref b36), .val (.ref o38)] [(.ref b34), (.int v53)])
                refine own_by (fun t k => XS.iconst X38.here hx rfl (hb hby at_290) k) ?_
                show ORun p e below s _ _ _ T38 (mkF m 291 #[.val (.int p1), .val (.int p2), .val (.int p3), .val (.int p4), .val (.int p5), .val (.int p6), .val (.int v2), .val (.int v6), .val (.ref b8), .val (.ref b34), .val (.int kq), .val (.ref b36), .val (.ref o38)] [(.int (4 : Int32)), (.ref b34), (.int v53)])
                refine own_iaload X38 hx hZ rfl (((Vl35_1.ext E36).keep K37 (ninS ne_b34_b36 nin0)).keep K38 nin0) (i := 4) (by decide) (by omega) (hb hby at_291) ?_
                intro v54 hv54
                have r54 := rng32 v54
                show ORun p e below s _ _ _ T38 (mkF m 292 #[.val (.int p1), .val (.int p2), .val (.int p3), .val (.int p4), .val (.int p5), .val (.int p6), .val (.int v2), .val (.int v6), .val (.ref b8), .val (.ref b34), .val (.int kq), .val (.ref b36), .val (.ref o38)] [(.int v54), (.int v53)])
                refine own_by (fun t k => XS.icmpNo X38.here hx rfl (hb hby at_292) rfl (teq (by rw [hv53, hv54]; exact own_tk (by omega))).2 k) ?_
                show ORun p e below s _ _ _ T38 (mkF m 295 #[.val (.int p1), .val (.int p2), .val (.int p3), .val (.int p4), .val (.int p5), .val (.int p6), .val (.int v2), .val (.int v6), .val (.ref b8), .val (.ref b34), .val (.int kq), .val (.ref b36), .val (.ref o38)] [])
                refine own_by (fun t k => XS.iconst X38.here hx rfl (hb hby at_295) k) ?_
                show ORun p e below s _ _ _ T38 (mkF m 296 #[.val (.int p1), .val (.int p2), .val (.int p3), .val (.int p4), .val (.int p5), .val (.int p6), .val (.int v2), .val (.int v6), .val (.ref b8), .val (.ref b34), .val (.int kq), .val (.ref b36), .val (.ref o38)] [(.int (1 : Int32))])
                refine own_by (fun t k => XS.goto X38.here hx rfl (pc0 := 296) (pc' := 300) rfl (hb hby at_296) (by decide) (by decide) k) ?_
                show ORun p e below s _ _ _ T38 (mkF m 300 #[.val (.int p1), .val (.int p2), .val (.int p3), .val (.int p4), .val (.int p5), .val (.int p6), .val (.int v2), .val (.int v6), .val (.ref b8), .val (.ref b34), .val (.int kq), .val (.ref b36), .val (.ref o38)] [(.int (1 : Int32))])
                refine own_retN X38 hx (t := .boolean) hret (by simp) hlk (hb hby at_300) (by decide) (by decide) ?_
                exact ⟨rfl, N38⟩
  refine own_by (fun t k => XS.aload X34.here hx rfl (hb hby at_88) rfl rfl k) ?_
  show ORun p e below s _ _ _ T34 (mkF m 90 #[.val (.int p1), .val (.int p2), .val (.int p3), .val (.int p4), .val (.int p5), .val (.int p6), .val (.int v2), .val (.int v6), .val (.ref b8), .val (.ref b34), .val (.int (0 : Int32)), .unset, .unset] [(.ref b8)])
  refine own_by (fun t k => XS.iconst X34.here hx rfl (hb hby at_90) k) ?_
  show ORun p e below s _ _ _ T34 (mkF m 91 #[.val (.int p1), .val (.int p2), .val (.int p3), .val (.int p4), .val (.int p5), .val (.int p6), .val (.int v2), .val (.int v6), .val (.ref b8), .val (.ref b34), .val (.int (0 : Int32)), .unset, .unset] [(.int (0 : Int32)), (.ref b8)])
  refine own_iaload X34 hx hZ e34 (V33.ext E34) (i := 0) (by decide) (by omega) (hb hby at_91) ?_
  intro v55 hv55
  obtain rfl : v11 = v55 := hv55.symm
  show ORun p e below s _ _ _ T34 (mkF m 92 #[.val (.int p1), .val (.int p2), .val (.int p3), .val (.int p4), .val (.int p5), .val (.int p6), .val (.int v2), .val (.int v6), .val (.ref b8), .val (.ref b34), .val (.int (0 : Int32)), .unset, .unset] [(.int v11)])
  refine own_by (fun t k => XS.iload X34.here hx rfl (hb hby at_92) rfl k) ?_
  show ORun p e below s _ _ _ T34 (mkF m 94 #[.val (.int p1), .val (.int p2), .val (.int p3), .val (.int p4), .val (.int p5), .val (.int p6), .val (.int v2), .val (.int v6), .val (.ref b8), .val (.ref b34), .val (.int (0 : Int32)), .unset, .unset] [(.int v6), (.int v11)])
  by_cases hc56 : v11 = v6
  · have t56 := own_eq hc56 (a := v11.toInt) (b := v6.toInt) rfl rfl
    refine own_by (fun t k => XS.icmpNo X34.here hx rfl (hb hby at_94) rfl (teq hc56).2 k) ?_
    show ORun p e below s _ _ _ T34 (mkF m 97 #[.val (.int p1), .val (.int p2), .val (.int p3), .val (.int p4), .val (.int p5), .val (.int p6), .val (.int v2), .val (.int v6), .val (.ref b8), .val (.ref b34), .val (.int (0 : Int32)), .unset, .unset] [])
    refine own_by (fun t k => XS.aload X34.here hx rfl (hb hby at_97) rfl rfl k) ?_
    show ORun p e below s _ _ _ T34 (mkF m 99 #[.val (.int p1), .val (.int p2), .val (.int p3), .val (.int p4), .val (.int p5), .val (.int p6), .val (.int v2), .val (.int v6), .val (.ref b8), .val (.ref b34), .val (.int (0 : Int32)), .unset, .unset] [(.ref b34)])
    refine own_by (fun t k => XS.iload X34.here hx rfl (hb hby at_99) rfl k) ?_
    show ORun p e below s _ _ _ T34 (mkF m 101 #[.val (.int p1), .val (.int p2), .val (.int p3), .val (.int p4), .val (.int p5), .val (.int p6), .val (.int v2), .val (.int v6), .val (.ref b8), .val (.ref b34), .val (.int (0 : Int32)), .unset, .unset] [(.int (0 : Int32)), (.ref b34)])
    refine own_by (fun t k => XS.iconst X34.here hx rfl (hb hby at_101) k) ?_
    show ORun p e below s _ _ _ T34 (mkF m 102 #[.val (.int p1), .val (.int p2), .val (.int p3), .val (.int p4), .val (.int p5), .val (.int p6), .val (.int v2), .val (.int v6), .val (.ref b8), .val (.ref b34), .val (.int (0 : Int32)), .unset, .unset] [(.int (0 : Int32)), (.int (0 : Int32)), (.ref b34)])
    refine own_iastore X34 hx hZ e34 V34 (i := 0) (by decide) (by omega) (hb hby at_102) ?_
    intro T57 h57 L57 X57 e57 W57 hL57 V57
    have len57 : L57.length = 5 := by rw [hL57, List.length_set]; exact len34
    have N57 := Fr.snoc X57 N33 old_b34
    obtain rfl : [(0 : Int32), (0 : Int32), (0 : Int32), (0 : Int32), (0 : Int32)] = L57 := hL57.symm
    show ORun p e below s _ _ _ T57 (mkF m 103 #[.val (.int p1), .val (.int p2), .val (.int p3), .val (.int p4), .val (.int p5), .val (.int p6), .val (.int v2), .val (.int v6), .val (.ref b8), .val (.ref b34), .val (.int (0 : Int32)), .unset, .unset] [])
    refine own_by (fun t k => XS.iinc X57.here hx rfl (hb hby at_103) rfl (l' := #[.val (.int p1), .val (.int p2), .val (.int p3), .val (.int p4), .val (.int p5), .val (.int p6), .val (.int v2), .val (.int v6), .val (.ref b8), .val (.ref b34), .val (.int (1 : Int32)), .unset, .unset]) rfl k) ?_
    show ORun p e below s _ _ _ T57 (mkF m 106 #[.val (.int p1), .val (.int p2), .val (.int p3), .val (.int p4), .val (.int p5), .val (.int p6), .val (.int v2), .val (.int v6), .val (.ref b8), .val (.ref b34), .val (.int (1 : Int32)), .unset, .unset] [])
    refine own_by (fun t k => XS.aload X57.here hx rfl (hb hby at_106) rfl rfl k) ?_
    show ORun p e below s _ _ _ T57 (mkF m 108 #[.val (.int p1), .val (.int p2), .val (.int p3), .val (.int p4), .val (.int p5), .val (.int p6), .val (.int v2), .val (.int v6), .val (.ref b8), .val (.ref b34), .val (.int (1 : Int32)), .unset, .unset] [(.ref b8)])
    refine own_by (fun t k => XS.iconst X57.here hx rfl (hb hby at_108) k) ?_
    show ORun p e below s _ _ _ T57 (mkF m 109 #[.val (.int p1), .val (.int p2), .val (.int p3), .val (.int p4), .val (.int p5), .val (.int p6), .val (.int v2), .val (.int v6), .val (.ref b8), .val (.ref b34), .val (.int (1 : Int32)), .unset, .unset] [(.int (1 : Int32)), (.ref b8)])
    refine own_iaload X57 hx hZ e57 ((V33.ext E34).other W57 ne_b8_b34) (i := 1) (by decide) (by omega) (hb hby at_109) ?_
    intro v58 hv58
    obtain rfl : v16 = v58 := hv58.symm
    show ORun p e below s _ _ _ T57 (mkF m 110 #[.val (.int p1), .val (.int p2), .val (.int p3), .val (.int p4), .val (.int p5), .val (.int p6), .val (.int v2), .val (.int v6), .val (.ref b8), .val (.ref b34), .val (.int (1 : Int32)), .unset, .unset] [(.int v16)])
    refine own_by (fun t k => XS.iload X57.here hx rfl (hb hby at_110) rfl k) ?_
    show ORun p e below s _ _ _ T57 (mkF m 112 #[.val (.int p1), .val (.int p2), .val (.int p3), .val (.int p4), .val (.int p5), .val (.int p6), .val (.int v2), .val (.int v6), .val (.ref b8), .val (.ref b34), .val (.int (1 : Int32)), .unset, .unset] [(.int v6), (.int v16)])
    by_cases hc59 : v16 = v6
    · have t59 := own_eq hc59 (a := v16.toInt) (b := v6.toInt) rfl rfl
      refine own_by (fun t k => XS.icmpNo X57.here hx rfl (hb hby at_112) rfl (teq hc59).2 k) ?_
      show ORun p e below s _ _ _ T57 (mkF m 115 #[.val (.int p1), .val (.int p2), .val (.int p3), .val (.int p4), .val (.int p5), .val (.int p6), .val (.int v2), .val (.int v6), .val (.ref b8), .val (.ref b34), .val (.int (1 : Int32)), .unset, .unset] [])
      refine own_by (fun t k => XS.aload X57.here hx rfl (hb hby at_115) rfl rfl k) ?_
      show ORun p e below s _ _ _ T57 (mkF m 117 #[.val (.int p1), .val (.int p2), .val (.int p3), .val (.int p4), .val (.int p5), .val (.int p6), .val (.int v2), .val (.int v6), .val (.ref b8), .val (.ref b34), .val (.int (1 : Int32)), .unset, .unset] [(.ref b34)])
      refine own_by (fun t k => XS.iload X57.here hx rfl (hb hby at_117) rfl k) ?_
      show ORun p e below s _ _ _ T57 (mkF m 119 #[.val (.int p1), .val (.int p2), .val (.int p3), .val (.int p4), .val (.int p5), .val (.int p6), .val (.int v2), .val (.int v6), .val (.ref b8), .val (.ref b34), .val (.int (1 : Int32)), .unset, .unset] [(.int (1 : Int32)), (.ref b34)])
      refine own_by (fun t k => XS.iconst X57.here hx rfl (hb hby at_119) k) ?_
      show ORun p e below s _ _ _ T57 (mkF m 120 #[.val (.int p1), .val (.int p2), .val (.int p3), .val (.int p4), .val (.int p5), .val (.int p6), .val (.int v2), .val (.int v6), .val (.ref b8), .val (.ref b34), .val (.int (1 : Int32)), .unset, .unset] [(.int (1 : Int32)), (.int (1 : Int32)), (.ref b34)])
      refine own_iastore X57 hx hZ e57 V57 (i := 1) (by decide) (by omega) (hb hby at_120) ?_
      intro T60 h60 L60 X60 e60 W60 hL60 V60
      have len60 : L60.length = 5 := by rw [hL60, List.length_set]; exact len57
      have N60 := Fr.snoc X60 N57 old_b34
      obtain rfl : [(0 : Int32), (1 : Int32), (0 : Int32), (0 : Int32), (0 : Int32)] = L60 := hL60.symm
      show ORun p e below s _ _ _ T60 (mkF m 121 #[.val (.int p1), .val (.int p2), .val (.int p3), .val (.int p4), .val (.int p5), .val (.int p6), .val (.int v2), .val (.int v6), .val (.ref b8), .val (.ref b34), .val (.int (1 : Int32)), .unset, .unset] [])
      refine own_by (fun t k => XS.iinc X60.here hx rfl (hb hby at_121) rfl (l' := #[.val (.int p1), .val (.int p2), .val (.int p3), .val (.int p4), .val (.int p5), .val (.int p6), .val (.int v2), .val (.int v6), .val (.ref b8), .val (.ref b34), .val (.int (2 : Int32)), .unset, .unset]) rfl k) ?_
      show ORun p e below s _ _ _ T60 (mkF m 124 #[.val (.int p1), .val (.int p2), .val (.int p3), .val (.int p4), .val (.int p5), .val (.int p6), .val (.int v2), .val (.int v6), .val (.ref b8), .val (.ref b34), .val (.int (2 : Int32)), .unset, .unset] [])
      refine own_by (fun t k => XS.aload X60.here hx rfl (hb hby at_124) rfl rfl k) ?_
      show ORun p e below s _ _ _ T60 (mkF m 126 #[.val (.int p1), .val (.int p2), .val (.int p3), .val (.int p4), .val (.int p5), .val (.int p6), .val (.int v2), .val (.int v6), .val (.ref b8), .val (.ref b34), .val (.int (2 : Int32)), .unset, .unset] [(.ref b8)])
      refine own_by (fun t k => XS.iconst X60.here hx rfl (hb hby at_126) k) ?_
      show ORun p e below s _ _ _ T60 (mkF m 127 #[.val (.int p1), .val (.int p2), .val (.int p3), .val (.int p4), .val (.int p5), .val (.int p6), .val (.int v2), .val (.int v6), .val (.ref b8), .val (.ref b34), .val (.int (2 : Int32)), .unset, .unset] [(.int (2 : Int32)), (.ref b8)])
      refine own_iaload X60 hx hZ e60 (((V33.ext E34).other W57 ne_b8_b34).other W60 ne_b8_b34) (i := 2) (by decide) (by omega) (hb hby at_127) ?_
      intro v61 hv61
      obtain rfl : v21 = v61 := hv61.symm
      show ORun p e below s _ _ _ T60 (mkF m 128 #[.val (.int p1), .val (.int p2), .val (.int p3), .val (.int p4), .val (.int p5), .val (.int p6), .val (.int v2), .val (.int v6), .val (.ref b8), .val (.ref b34), .val (.int (2 : Int32)), .unset, .unset] [(.int v21)])
      refine own_by (fun t k => XS.iload X60.here hx rfl (hb hby at_128) rfl k) ?_
      show ORun p e below s _ _ _ T60 (mkF m 130 #[.val (.int p1), .val (.int p2), .val (.int p3), .val (.int p4), .val (.int p5), .val (.int p6), .val (.int v2), .val (.int v6), .val (.ref b8), .val (.ref b34), .val (.int (2 : Int32)), .unset, .unset] [(.int v6), (.int v21)])
      by_cases hc62 : v21 = v6
      · have t62 := own_eq hc62 (a := v21.toInt) (b := v6.toInt) rfl rfl
        refine own_by (fun t k => XS.icmpNo X60.here hx rfl (hb hby at_130) rfl (teq hc62).2 k) ?_
        show ORun p e below s _ _ _ T60 (mkF m 133 #[.val (.int p1), .val (.int p2), .val (.int p3), .val (.int p4), .val (.int p5), .val (.int p6), .val (.int v2), .val (.int v6), .val (.ref b8), .val (.ref b34), .val (.int (2 : Int32)), .unset, .unset] [])
        refine own_by (fun t k => XS.aload X60.here hx rfl (hb hby at_133) rfl rfl k) ?_
        show ORun p e below s _ _ _ T60 (mkF m 135 #[.val (.int p1), .val (.int p2), .val (.int p3), .val (.int p4), .val (.int p5), .val (.int p6), .val (.int v2), .val (.int v6), .val (.ref b8), .val (.ref b34), .val (.int (2 : Int32)), .unset, .unset] [(.ref b34)])
        refine own_by (fun t k => XS.iload X60.here hx rfl (hb hby at_135) rfl k) ?_
        show ORun p e below s _ _ _ T60 (mkF m 137 #[.val (.int p1), .val (.int p2), .val (.int p3), .val (.int p4), .val (.int p5), .val (.int p6), .val (.int v2), .val (.int v6), .val (.ref b8), .val (.ref b34), .val (.int (2 : Int32)), .unset, .unset] [(.int (2 : Int32)), (.ref b34)])
        refine own_by (fun t k => XS.iconst X60.here hx rfl (hb hby at_137) k) ?_
        show ORun p e below s _ _ _ T60 (mkF m 138 #[.val (.int p1), .val (.int p2), .val (.int p3), .val (.int p4), .val (.int p5), .val (.int p6), .val (.int v2), .val (.int v6), .val (.ref b8), .val (.ref b34), .val (.int (2 : Int32)), .unset, .unset] [(.int (2 : Int32)), (.int (2 : Int32)), (.ref b34)])
        refine own_iastore X60 hx hZ e60 V60 (i := 2) (by decide) (by omega) (hb hby at_138) ?_
        intro T63 h63 L63 X63 e63 W63 hL63 V63
        have len63 : L63.length = 5 := by rw [hL63, List.length_set]; exact len60
        have N63 := Fr.snoc X63 N60 old_b34
        obtain rfl : [(0 : Int32), (1 : Int32), (2 : Int32), (0 : Int32), (0 : Int32)] = L63 := hL63.symm
        show ORun p e below s _ _ _ T63 (mkF m 139 #[.val (.int p1), .val (.int p2), .val (.int p3), .val (.int p4), .val (.int p5), .val (.int p6), .val (.int v2), .val (.int v6), .val (.ref b8), .val (.ref b34), .val (.int (2 : Int32)), .unset, .unset] [])
        refine own_by (fun t k => XS.iinc X63.here hx rfl (hb hby at_139) rfl (l' := #[.val (.int p1), .val (.int p2), .val (.int p3), .val (.int p4), .val (.int p5), .val (.int p6), .val (.int v2), .val (.int v6), .val (.ref b8), .val (.ref b34), .val (.int (3 : Int32)), .unset, .unset]) rfl k) ?_
        show ORun p e below s _ _ _ T63 (mkF m 142 #[.val (.int p1), .val (.int p2), .val (.int p3), .val (.int p4), .val (.int p5), .val (.int p6), .val (.int v2), .val (.int v6), .val (.ref b8), .val (.ref b34), .val (.int (3 : Int32)), .unset, .unset] [])
        refine own_by (fun t k => XS.aload X63.here hx rfl (hb hby at_142) rfl rfl k) ?_
        show ORun p e below s _ _ _ T63 (mkF m 144 #[.val (.int p1), .val (.int p2), .val (.int p3), .val (.int p4), .val (.int p5), .val (.int p6), .val (.int v2), .val (.int v6), .val (.ref b8), .val (.ref b34), .val (.int (3 : Int32)), .unset, .unset] [(.ref b8)])
        refine own_by (fun t k => XS.iconst X63.here hx rfl (hb hby at_144) k) ?_
        show ORun p e below s _ _ _ T63 (mkF m 145 #[.val (.int p1), .val (.int p2), .val (.int p3), .val (.int p4), .val (.int p5), .val (.int p6), .val (.int v2), .val (.int v6), .val (.ref b8), .val (.ref b34), .val (.int (3 : Int32)), .unset, .unset] [(.int (3 : Int32)), (.ref b8)])
        refine own_iaload X63 hx hZ e63 ((((V33.ext E34).other W57 ne_b8_b34).other W60 ne_b8_b34).other W63 ne_b8_b34) (i := 3) (by decide) (by omega) (hb hby at_145) ?_
        intro v64 hv64
        obtain rfl : v26 = v64 := hv64.symm
        show ORun p e below s _ _ _ T63 (mkF m 146 #[.val (.int p1), .val (.int p2), .val (.int p3), .val (.int p4), .val (.int p5), .val (.int p6), .val (.int v2), .val (.int v6), .val (.ref b8), .val (.ref b34), .val (.int (3 : Int32)), .unset, .unset] [(.int v26)])
        refine own_by (fun t k => XS.iload X63.here hx rfl (hb hby at_146) rfl k) ?_
        show ORun p e below s _ _ _ T63 (mkF m 148 #[.val (.int p1), .val (.int p2), .val (.int p3), .val (.int p4), .val (.int p5), .val (.int p6), .val (.int v2), .val (.int v6), .val (.ref b8), .val (.ref b34), .val (.int (3 : Int32)), .unset, .unset] [(.int v6), (.int v26)])
        by_cases hc65 : v26 = v6
        · have t65 := own_eq hc65 (a := v26.toInt) (b := v6.toInt) rfl rfl
          refine own_by (fun t k => XS.icmpNo X63.here hx rfl (hb hby at_148) rfl (teq hc65).2 k) ?_
          show ORun p e below s _ _ _ T63 (mkF m 151 #[.val (.int p1), .val (.int p2), .val (.int p3), .val (.int p4), .val (.int p5), .val (.int p6), .val (.int v2), .val (.int v6), .val (.ref b8), .val (.ref b34), .val (.int (3 : Int32)), .unset, .unset] [])
          refine own_by (fun t k => XS.aload X63.here hx rfl (hb hby at_151) rfl rfl k) ?_
          show ORun p e below s _ _ _ T63 (mkF m 153 #[.val (.int p1), .val (.int p2), .val (.int p3), .val (.int p4), .val (.int p5), .val (.int p6), .val (.int v2), .val (.int v6), .val (.ref b8), .val (.ref b34), .val (.int (3 : Int32)), .unset, .unset] [(.ref b34)])
          refine own_by (fun t k => XS.iload X63.here hx rfl (hb hby at_153) rfl k) ?_
          show ORun p e below s _ _ _ T63 (mkF m 155 #[.val (.int p1), .val (.int p2), .val (.int p3), .val (.int p4), .val (.int p5), .val (.int p6), .val (.int v2), .val (.int v6), .val (.ref b8), .val (.ref b34), .val (.int (3 : Int32)), .unset, .unset] [(.int (3 : Int32)), (.ref b34)])
          refine own_by (fun t k => XS.iconst X63.here hx rfl (hb hby at_155) k) ?_
          show ORun p e below s _ _ _ T63 (mkF m 156 #[.val (.int p1), .val (.int p2), .val (.int p3), .val (.int p4), .val (.int p5), .val (.int p6), .val (.int v2), .val (.int v6), .val (.ref b8), .val (.ref b34), .val (.int (3 : Int32)), .unset, .unset] [(.int (3 : Int32)), (.int (3 : Int32)), (.ref b34)])
          refine own_iastore X63 hx hZ e63 V63 (i := 3) (by decide) (by omega) (hb hby at_156) ?_
          intro T66 h66 L66 X66 e66 W66 hL66 V66
          have len66 : L66.length = 5 := by rw [hL66, List.length_set]; exact len63
          have N66 := Fr.snoc X66 N63 old_b34
          obtain rfl : [(0 : Int32), (1 : Int32), (2 : Int32), (3 : Int32), (0 : Int32)] = L66 := hL66.symm
          show ORun p e below s _ _ _ T66 (mkF m 157 #[.val (.int p1), .val (.int p2), .val (.int p3), .val (.int p4), .val (.int p5), .val (.int p6), .val (.int v2), .val (.int v6), .val (.ref b8), .val (.ref b34), .val (.int (3 : Int32)), .unset, .unset] [])
          refine own_by (fun t k => XS.iinc X66.here hx rfl (hb hby at_157) rfl (l' := #[.val (.int p1), .val (.int p2), .val (.int p3), .val (.int p4), .val (.int p5), .val (.int p6), .val (.int v2), .val (.int v6), .val (.ref b8), .val (.ref b34), .val (.int (4 : Int32)), .unset, .unset]) rfl k) ?_
          show ORun p e below s _ _ _ T66 (mkF m 160 #[.val (.int p1), .val (.int p2), .val (.int p3), .val (.int p4), .val (.int p5), .val (.int p6), .val (.int v2), .val (.int v6), .val (.ref b8), .val (.ref b34), .val (.int (4 : Int32)), .unset, .unset] [])
          refine own_by (fun t k => XS.aload X66.here hx rfl (hb hby at_160) rfl rfl k) ?_
          show ORun p e below s _ _ _ T66 (mkF m 162 #[.val (.int p1), .val (.int p2), .val (.int p3), .val (.int p4), .val (.int p5), .val (.int p6), .val (.int v2), .val (.int v6), .val (.ref b8), .val (.ref b34), .val (.int (4 : Int32)), .unset, .unset] [(.ref b8)])
          refine own_by (fun t k => XS.iconst X66.here hx rfl (hb hby at_162) k) ?_
          show ORun p e below s _ _ _ T66 (mkF m 163 #[.val (.int p1), .val (.int p2), .val (.int p3), .val (.int p4), .val (.int p5), .val (.int p6), .val (.int v2), .val (.int v6), .val (.ref b8), .val (.ref b34), .val (.int (4 : Int32)), .unset, .unset] [(.int (4 : Int32)), (.ref b8)])
          refine own_iaload X66 hx hZ e66 (((((V33.ext E34).other W57 ne_b8_b34).other W60 ne_b8_b34).other W63 ne_b8_b34).other W66 ne_b8_b34) (i := 4) (by decide) (by omega) (hb hby at_163) ?_
          intro v67 hv67
          obtain rfl : v31 = v67 := hv67.symm
          show ORun p e below s _ _ _ T66 (mkF m 164 #[.val (.int p1), .val (.int p2), .val (.int p3), .val (.int p4), .val (.int p5), .val (.int p6), .val (.int v2), .val (.int v6), .val (.ref b8), .val (.ref b34), .val (.int (4 : Int32)), .unset, .unset] [(.int v31)])
          refine own_by (fun t k => XS.iload X66.here hx rfl (hb hby at_164) rfl k) ?_
          show ORun p e below s _ _ _ T66 (mkF m 166 #[.val (.int p1), .val (.int p2), .val (.int p3), .val (.int p4), .val (.int p5), .val (.int p6), .val (.int v2), .val (.int v6), .val (.ref b8), .val (.ref b34), .val (.int (4 : Int32)), .unset, .unset] [(.int v6), (.int v31)])
          by_cases hc68 : v31 = v6
          · have t68 := own_eq hc68 (a := v31.toInt) (b := v6.toInt) rfl rfl
            refine own_by (fun t k => XS.icmpNo X66.here hx rfl (hb hby at_166) rfl (teq hc68).2 k) ?_
            show ORun p e below s _ _ _ T66 (mkF m 169 #[.val (.int p1), .val (.int p2), .val (.int p3), .val (.int p4), .val (.int p5), .val (.int p6), .val (.int v2), .val (.int v6), .val (.ref b8), .val (.ref b34), .val (.int (4 : Int32)), .unset, .unset] [])
            refine own_by (fun t k => XS.aload X66.here hx rfl (hb hby at_169) rfl rfl k) ?_
            show ORun p e below s _ _ _ T66 (mkF m 171 #[.val (.int p1), .val (.int p2), .val (.int p3), .val (.int p4), .val (.int p5), .val (.int p6), .val (.int v2), .val (.int v6), .val (.ref b8), .val (.ref b34), .val (.int (4 : Int32)), .unset, .unset] [(.ref b34)])
            refine own_by (fun t k => XS.iload X66.here hx rfl (hb hby at_171) rfl k) ?_
            show ORun p e below s _ _ _ T66 (mkF m 173 #[.val (.int p1), .val (.int p2), .val (.int p3), .val (.int p4), .val (.int p5), .val (.int p6), .val (.int v2), .val (.int v6), .val (.ref b8), .val (.ref b34), .val (.int (4 : Int32)), .unset, .unset] [(.int (4 : Int32)), (.ref b34)])
            refine own_by (fun t k => XS.iconst X66.here hx rfl (hb hby at_173) k) ?_
            show ORun p e below s _ _ _ T66 (mkF m 174 #[.val (.int p1), .val (.int p2), .val (.int p3), .val (.int p4), .val (.int p5), .val (.int p6), .val (.int v2), .val (.int v6), .val (.ref b8), .val (.ref b34), .val (.int (4 : Int32)), .unset, .unset] [(.int (4 : Int32)), (.int (4 : Int32)), (.ref b34)])
            refine own_iastore X66 hx hZ e66 V66 (i := 4) (by decide) (by omega) (hb hby at_174) ?_
            intro T69 h69 L69 X69 e69 W69 hL69 V69
            have len69 : L69.length = 5 := by rw [hL69, List.length_set]; exact len66
            have N69 := Fr.snoc X69 N66 old_b34
            obtain rfl : [(0 : Int32), (1 : Int32), (2 : Int32), (3 : Int32), (4 : Int32)] = L69 := hL69.symm
            show ORun p e below s _ _ _ T69 (mkF m 175 #[.val (.int p1), .val (.int p2), .val (.int p3), .val (.int p4), .val (.int p5), .val (.int p6), .val (.int v2), .val (.int v6), .val (.ref b8), .val (.ref b34), .val (.int (4 : Int32)), .unset, .unset] [])
            refine own_by (fun t k => XS.iinc X69.here hx rfl (hb hby at_175) rfl (l' := #[.val (.int p1), .val (.int p2), .val (.int p3), .val (.int p4), .val (.int p5), .val (.int p6), .val (.int v2), .val (.int v6), .val (.ref b8), .val (.ref b34), .val (.int (5 : Int32)), .unset, .unset]) rfl k) ?_
            show ORun p e below s _ _ _ T69 (mkF m 178 #[.val (.int p1), .val (.int p2), .val (.int p3), .val (.int p4), .val (.int p5), .val (.int p6), .val (.int v2), .val (.int v6), .val (.ref b8), .val (.ref b34), .val (.int (5 : Int32)), .unset, .unset] [])
            exact LP35  T69 h69 _ ((5 : Int32)) ([v11, v16, v21, v26, v31]) ([(0 : Int32), (1 : Int32), (2 : Int32), (3 : Int32), (4 : Int32)])  X69 e69 N69 (((((((((((((Keep.refl h0 []).ext E8).wr W13 (Or.inr sz_b8)).wr W18 (Or.inr sz_b8)).wr W23 (Or.inr sz_b8)).wr W28 (Or.inr sz_b8)).wr W33 (Or.inr sz_b8)).ext E34).wr W57 (Or.inr sz_b34)).wr W60 (Or.inr sz_b34)).wr W63 (Or.inr sz_b34)).wr W66 (Or.inr sz_b34)).wr W69 (Or.inr sz_b34)) ((((((V33.ext E34).other W57 ne_b8_b34).other W60 ne_b8_b34).other W63 ne_b8_b34).other W66 ne_b8_b34).other W69 ne_b8_b34) len33 V69 len69 (by decide) (by rw [own_sel_eq, if_pos hc56, if_pos hc59, if_pos hc62, if_pos hc65, if_pos hc68]; rfl) rfl
          · have t68 := own_ne hc68 (a := v31.toInt) (b := v6.toInt) rfl rfl
            refine own_by (fun t k => XS.icmpYes X66.here hx rfl (pc0 := 166) (pc' := 178) rfl (hb hby at_166) rfl (feq hc68).2 (by decide) (by decide) k) ?_
            show ORun p e below s _ _ _ T66 (mkF m 178 #[.val (.int p1), .val (.int p2), .val (.int p3), .val (.int p4), .val (.int p5), .val (.int p6), .val (.int v2), .val (.int v6), .val (.ref b8), .val (.ref b34), .val (.int (4 : Int32)), .unset, .unset] [])
            exact LP35  T66 h66 _ ((4 : Int32)) ([v11, v16, v21, v26, v31]) ([(0 : Int32), (1 : Int32), (2 : Int32), (3 : Int32), (0 : Int32)])  X66 e66 N66 ((((((((((((Keep.refl h0 []).ext E8).wr W13 (Or.inr sz_b8)).wr W18 (Or.inr sz_b8)).wr W23 (Or.inr sz_b8)).wr W28 (Or.inr sz_b8)).wr W33 (Or.inr sz_b8)).ext E34).wr W57 (Or.inr sz_b34)).wr W60 (Or.inr sz_b34)).wr W63 (Or.inr sz_b34)).wr W66 (Or.inr sz_b34)) (((((V33.ext E34).other W57 ne_b8_b34).other W60 ne_b8_b34).other W63 ne_b8_b34).other W66 ne_b8_b34) len33 V66 len66 (by decide) (by rw [own_sel_eq, if_pos hc56, if_pos hc59, if_pos hc62, if_pos hc65, if_neg hc68]; rfl) rfl
        · have t65 := own_ne hc65 (a := v26.toInt) (b := v6.toInt) rfl rfl
          refine own_by (fun t k => XS.icmpYes X63.here hx rfl (pc0 := 148) (pc' := 160) rfl (hb hby at_148) rfl (feq hc65).2 (by decide) (by decide) k) ?_
          show ORun p e below s _ _ _ T63 (mkF m 160 #[.val (.int p1), .val (.int p2), .val (.int p3), .val (.int p4), .val (.int p5), .val (.int p6), .val (.int v2), .val (.int v6), .val (.ref b8), .val (.ref b34), .val (.int (3 : Int32)), .unset, .unset] [])
          refine own_by (fun t k => XS.aload X63.here hx rfl (hb hby at_160) rfl rfl k) ?_
          show ORun p e below s _ _ _ T63 (mkF m 162 #[.val (.int p1), .val (.int p2), .val (.int p3), .val (.int p4), .val (.int p5), .val (.int p6), .val (.int v2), .val (.int v6), .val (.ref b8), .val (.ref b34), .val (.int (3 : Int32)), .unset, .unset] [(.ref b8)])
          refine own_by (fun t k => XS.iconst X63.here hx rfl (hb hby at_162) k) ?_
          show ORun p e below s _ _ _ T63 (mkF m 163 #[.val (.int p1), .val (.int p2), .val (.int p3), .val (.int p4), .val (.int p5), .val (.int p6), .val (.int v2), .val (.int v6), .val (.ref b8), .val (.ref b34), .val (.int (3 : Int32)), .unset, .unset] [(.int (4 : Int32)), (.ref b8)])
          refine own_iaload X63 hx hZ e63 ((((V33.ext E34).other W57 ne_b8_b34).other W60 ne_b8_b34).other W63 ne_b8_b34) (i := 4) (by decide) (by omega) (hb hby at_163) ?_
          intro v70 hv70
          obtain rfl : v31 = v70 := hv70.symm
          show ORun p e below s _ _ _ T63 (mkF m 164 #[.val (.int p1), .val (.int p2), .val (.int p3), .val (.int p4), .val (.int p5), .val (.int p6), .val (.int v2), .val (.int v6), .val (.ref b8), .val (.ref b34), .val (.int (3 : Int32)), .unset, .unset] [(.int v31)])
          refine own_by (fun t k => XS.iload X63.here hx rfl (hb hby at_164) rfl k) ?_
          show ORun p e below s _ _ _ T63 (mkF m 166 #[.val (.int p1), .val (.int p2), .val (.int p3), .val (.int p4), .val (.int p5), .val (.int p6), .val (.int v2), .val (.int v6), .val (.ref b8), .val (.ref b34), .val (.int (3 : Int32)), .unset, .unset] [(.int v6), (.int v31)])
          by_cases hc71 : v31 = v6
          · have t71 := own_eq hc71 (a := v31.toInt) (b := v6.toInt) rfl rfl
            refine own_by (fun t k => XS.icmpNo X63.here hx rfl (hb hby at_166) rfl (teq hc71).2 k) ?_
            show ORun p e below s _ _ _ T63 (mkF m 169 #[.val (.int p1), .val (.int p2), .val (.int p3), .val (.int p4), .val (.int p5), .val (.int p6), .val (.int v2), .val (.int v6), .val (.ref b8), .val (.ref b34), .val (.int (3 : Int32)), .unset, .unset] [])
            refine own_by (fun t k => XS.aload X63.here hx rfl (hb hby at_169) rfl rfl k) ?_
            show ORun p e below s _ _ _ T63 (mkF m 171 #[.val (.int p1), .val (.int p2), .val (.int p3), .val (.int p4), .val (.int p5), .val (.int p6), .val (.int v2), .val (.int v6), .val (.ref b8), .val (.ref b34), .val (.int (3 : Int32)), .unset, .unset] [(.ref b34)])
            refine own_by (fun t k => XS.iload X63.here hx rfl (hb hby at_171) rfl k) ?_
            show ORun p e below s _ _ _ T63 (mkF m 173 #[.val (.int p1), .val (.int p2), .val (.int p3), .val (.int p4), .val (.int p5), .val (.int p6), .val (.int v2), .val (.int v6), .val (.ref b8), .val (.ref b34), .val (.int (3 : Int32)), .unset, .unset] [(.int (3 : Int32)), (.ref b34)])
            refine own_by (fun t k => XS.iconst X63.here hx rfl (hb hby at_173) k) ?_
            show ORun p e below s _ _ _ T63 (mkF m 174 #[.val (.int p1), .val (.int p2), .val (.int p3), .val (.int p4), .val (.int p5), .val (.int p6), .val (.int v2), .val (.int v6), .val (.ref b8), .val (.ref b34), .val (.int (3 : Int32)), .unset, .unset] [(.int (4 : Int32)), (.int (3 : Int32)), (.ref b34)])
            refine own_iastore X63 hx hZ e63 V63 (i := 3) (by decide) (by omega) (hb hby at_174) ?_
            intro T72 h72 L72 X72 e72 W72 hL72 V72
            have len72 : L72.length = 5 := by rw [hL72, List.length_set]; exact len63
            have N72 := Fr.snoc X72 N63 old_b34
            obtain rfl : [(0 : Int32), (1 : Int32), (2 : Int32), (4 : Int32), (0 : Int32)] = L72 := hL72.symm
            show ORun p e below s _ _ _ T72 (mkF m 175 #[.val (.int p1), .val (.int p2), .val (.int p3), .val (.int p4), .val (.int p5), .val (.int p6), .val (.int v2), .val (.int v6), .val (.ref b8), .val (.ref b34), .val (.int (3 : Int32)), .unset, .unset] [])
            refine own_by (fun t k => XS.iinc X72.here hx rfl (hb hby at_175) rfl (l' := #[.val (.int p1), .val (.int p2), .val (.int p3), .val (.int p4), .val (.int p5), .val (.int p6), .val (.int v2), .val (.int v6), .val (.ref b8), .val (.ref b34), .val (.int (4 : Int32)), .unset, .unset]) rfl k) ?_
            show ORun p e below s _ _ _ T72 (mkF m 178 #[.val (.int p1), .val (.int p2), .val (.int p3), .val (.int p4), .val (.int p5), .val (.int p6), .val (.int v2), .val (.int v6), .val (.ref b8), .val (.ref b34), .val (.int (4 : Int32)), .unset, .unset] [])
            exact LP35  T72 h72 _ ((4 : Int32)) ([v11, v16, v21, v26, v31]) ([(0 : Int32), (1 : Int32), (2 : Int32), (4 : Int32), (0 : Int32)])  X72 e72 N72 ((((((((((((Keep.refl h0 []).ext E8).wr W13 (Or.inr sz_b8)).wr W18 (Or.inr sz_b8)).wr W23 (Or.inr sz_b8)).wr W28 (Or.inr sz_b8)).wr W33 (Or.inr sz_b8)).ext E34).wr W57 (Or.inr sz_b34)).wr W60 (Or.inr sz_b34)).wr W63 (Or.inr sz_b34)).wr W72 (Or.inr sz_b34)) (((((V33.ext E34).other W57 ne_b8_b34).other W60 ne_b8_b34).other W63 ne_b8_b34).other W72 ne_b8_b34) len33 V72 len72 (by decide) (by rw [own_sel_eq, if_pos hc56, if_pos hc59, if_pos hc62, if_neg hc65, if_pos hc71]; rfl) rfl
          · have t71 := own_ne hc71 (a := v31.toInt) (b := v6.toInt) rfl rfl
            refine own_by (fun t k => XS.icmpYes X63.here hx rfl (pc0 := 166) (pc' := 178) rfl (hb hby at_166) rfl (feq hc71).2 (by decide) (by decide) k) ?_
            show ORun p e below s _ _ _ T63 (mkF m 178 #[.val (.int p1), .val (.int p2), .val (.int p3), .val (.int p4), .val (.int p5), .val (.int p6), .val (.int v2), .val (.int v6), .val (.ref b8), .val (.ref b34), .val (.int (3 : Int32)), .unset, .unset] [])
            exact LP35  T63 h63 _ ((3 : Int32)) ([v11, v16, v21, v26, v31]) ([(0 : Int32), (1 : Int32), (2 : Int32), (0 : Int32), (0 : Int32)])  X63 e63 N63 (((((((((((Keep.refl h0 []).ext E8).wr W13 (Or.inr sz_b8)).wr W18 (Or.inr sz_b8)).wr W23 (Or.inr sz_b8)).wr W28 (Or.inr sz_b8)).wr W33 (Or.inr sz_b8)).ext E34).wr W57 (Or.inr sz_b34)).wr W60 (Or.inr sz_b34)).wr W63 (Or.inr sz_b34)) ((((V33.ext E34).other W57 ne_b8_b34).other W60 ne_b8_b34).other W63 ne_b8_b34) len33 V63 len63 (by decide) (by rw [own_sel_eq, if_pos hc56, if_pos hc59, if_pos hc62, if_neg hc65, if_neg hc71]; rfl) rfl
      · have t62 := own_ne hc62 (a := v21.toInt) (b := v6.toInt) rfl rfl
        refine own_by (fun t k => XS.icmpYes X60.here hx rfl (pc0 := 130) (pc' := 142) rfl (hb hby at_130) rfl (feq hc62).2 (by decide) (by decide) k) ?_
        show ORun p e below s _ _ _ T60 (mkF m 142 #[.val (.int p1), .val (.int p2), .val (.int p3), .val (.int p4), .val (.int p5), .val (.int p6), .val (.int v2), .val (.int v6), .val (.ref b8), .val (.ref b34), .val (.int (2 : Int32)), .unset, .unset] [])
        refine own_by (fun t k => XS.aload X60.here hx rfl (hb hby at_142) rfl rfl k) ?_
        show ORun p e below s _ _ _ T60 (mkF m 144 #[.val (.int p1), .val (.int p2), .val (.int p3), .val (.int p4), .val (.int p5), .val (.int p6), .val (.int v2), .val (.int v6), .val (.ref b8), .val (.ref b34), .val (.int (2 : Int32)), .unset, .unset] [(.ref b8)])
        refine own_by (fun t k => XS.iconst X60.here hx rfl (hb hby at_144) k) ?_
        show ORun p e below s _ _ _ T60 (mkF m 145 #[.val (.int p1), .val (.int p2), .val (.int p3), .val (.int p4), .val (.int p5), .val (.int p6), .val (.int v2), .val (.int v6), .val (.ref b8), .val (.ref b34), .val (.int (2 : Int32)), .unset, .unset] [(.int (3 : Int32)), (.ref b8)])
        refine own_iaload X60 hx hZ e60 (((V33.ext E34).other W57 ne_b8_b34).other W60 ne_b8_b34) (i := 3) (by decide) (by omega) (hb hby at_145) ?_
        intro v73 hv73
        obtain rfl : v26 = v73 := hv73.symm
        show ORun p e below s _ _ _ T60 (mkF m 146 #[.val (.int p1), .val (.int p2), .val (.int p3), .val (.int p4), .val (.int p5), .val (.int p6), .val (.int v2), .val (.int v6), .val (.ref b8), .val (.ref b34), .val (.int (2 : Int32)), .unset, .unset] [(.int v26)])
        refine own_by (fun t k => XS.iload X60.here hx rfl (hb hby at_146) rfl k) ?_
        show ORun p e below s _ _ _ T60 (mkF m 148 #[.val (.int p1), .val (.int p2), .val (.int p3), .val (.int p4), .val (.int p5), .val (.int p6), .val (.int v2), .val (.int v6), .val (.ref b8), .val (.ref b34), .val (.int (2 : Int32)), .unset, .unset] [(.int v6), (.int v26)])
        by_cases hc74 : v26 = v6
        · have t74 := own_eq hc74 (a := v26.toInt) (b := v6.toInt) rfl rfl
          refine own_by (fun t k => XS.icmpNo X60.here hx rfl (hb hby at_148) rfl (teq hc74).2 k) ?_
          show ORun p e below s _ _ _ T60 (mkF m 151 #[.val (.int p1), .val (.int p2), .val (.int p3), .val (.int p4), .val (.int p5), .val (.int p6), .val (.int v2), .val (.int v6), .val (.ref b8), .val (.ref b34), .val (.int (2 : Int32)), .unset, .unset] [])
          refine own_by (fun t k => XS.aload X60.here hx rfl (hb hby at_151) rfl rfl k) ?_
          show ORun p e below s _ _ _ T60 (mkF m 153 #[.val (.int p1), .val (.int p2), .val (.int p3), .val (.int p4), .val (.int p5), .val (.int p6), .val (.int v2), .val (.int v6), .val (.ref b8), .val (.ref b34), .val (.int (2 : Int32)), .unset, .unset] [(.ref b34)])
          refine own_by (fun t k => XS.iload X60.here hx rfl (hb hby at_153) rfl k) ?_
          show ORun p e below s _ _ _ T60 (mkF m 155 #[.val (.int p1), .val (.int p2), .val (.int p3), .val (.int p4), .val (.int p5), .val (.int p6), .val (.int v2), .val (.int v6), .val (.ref b8), .val (.ref b34), .val (.int (2 : Int32)), .unset, .unset] [(.int (2 : Int32)), (.ref b34)])
          refine own_by (fun t k => XS.iconst X60.here hx rfl (hb hby at_155) k) ?_
          show ORun p e below s _ _ _ T60 (mkF m 156 #[.val (.int p1), .val (.int p2), .val (.int p3), .val (.int p4), .val (.int p5), .val (.int p6), .val (.int v2), .val (.int v6), .val (.ref b8), .val (.ref b34), .val (.int (2 : Int32)), .unset, .unset] [(.int (3 : Int32)), (.int (2 : Int32)), (.ref b34)])
          refine own_iastore X60 hx hZ e60 V60 (i := 2) (by decide) (by omega) (hb hby at_156) ?_
          intro T75 h75 L75 X75 e75 W75 hL75 V75
          have len75 : L75.length = 5 := by rw [hL75, List.length_set]; exact len60
          have N75 := Fr.snoc X75 N60 old_b34
          obtain rfl : [(0 : Int32), (1 : Int32), (3 : Int32), (0 : Int32), (0 : Int32)] = L75 := hL75.symm
          show ORun p e below s _ _ _ T75 (mkF m 157 #[.val (.int p1), .val (.int p2), .val (.int p3), .val (.int p4), .val (.int p5), .val (.int p6), .val (.int v2), .val (.int v6), .val (.ref b8), .val (.ref b34), .val (.int (2 : Int32)), .unset, .unset] [])
          refine own_by (fun t k => XS.iinc X75.here hx rfl (hb hby at_157) rfl (l' := #[.val (.int p1), .val (.int p2), .val (.int p3), .val (.int p4), .val (.int p5), .val (.int p6), .val (.int v2), .val (.int v6), .val (.ref b8), .val (.ref b34), .val (.int (3 : Int32)), .unset, .unset]) rfl k) ?_
          show ORun p e below s _ _ _ T75 (mkF m 160 #[.val (.int p1), .val (.int p2), .val (.int p3), .val (.int p4), .val (.int p5), .val (.int p6), .val (.int v2), .val (.int v6), .val (.ref b8), .val (.ref b34), .val (.int (3 : Int32)), .unset, .unset] [])
          refine own_by (fun t k => XS.aload X75.here hx rfl (hb hby at_160) rfl rfl k) ?_
          show ORun p e below s _ _ _ T75 (mkF m 162 #[.val (.int p1), .val (.int p2), .val (.int p3), .val (.int p4), .val (.int p5), .val (.int p6), .val (.int v2), .val (.int v6), .val (.ref b8), .val (.ref b34), .val (.int (3 : Int32)), .unset, .unset] [(.ref b8)])
          refine own_by (fun t k => XS.iconst X75.here hx rfl (hb hby at_162) k) ?_
          show ORun p e below s _ _ _ T75 (mkF m 163 #[.val (.int p1), .val (.int p2), .val (.int p3), .val (.int p4), .val (.int p5), .val (.int p6), .val (.int v2), .val (.int v6), .val (.ref b8), .val (.ref b34), .val (.int (3 : Int32)), .unset, .unset] [(.int (4 : Int32)), (.ref b8)])
          refine own_iaload X75 hx hZ e75 ((((V33.ext E34).other W57 ne_b8_b34).other W60 ne_b8_b34).other W75 ne_b8_b34) (i := 4) (by decide) (by omega) (hb hby at_163) ?_
          intro v76 hv76
          obtain rfl : v31 = v76 := hv76.symm
          show ORun p e below s _ _ _ T75 (mkF m 164 #[.val (.int p1), .val (.int p2), .val (.int p3), .val (.int p4), .val (.int p5), .val (.int p6), .val (.int v2), .val (.int v6), .val (.ref b8), .val (.ref b34), .val (.int (3 : Int32)), .unset, .unset] [(.int v31)])
          refine own_by (fun t k => XS.iload X75.here hx rfl (hb hby at_164) rfl k) ?_
          show ORun p e below s _ _ _ T75 (mkF m 166 #[.val (.int p1), .val (.int p2), .val (.int p3), .val (.int p4), .val (.int p5), .val (.int p6), .val (.int v2), .val (.int v6), .val (.ref b8), .val (.ref b34), .val (.int (3 : Int32)), .unset, .unset] [(.int v6), (.int v31)])
          by_cases hc77 : v31 = v6
          · have t77 := own_eq hc77 (a := v31.toInt) (b := v6.toInt) rfl rfl
            refine own_by (fun t k => XS.icmpNo X75.here hx rfl (hb hby at_166) rfl (teq hc77).2 k) ?_
            show ORun p e below s _ _ _ T75 (mkF m 169 #[.val (.int p1), .val (.int p2), .val (.int p3), .val (.int p4), .val (.int p5), .val (.int p6), .val (.int v2), .val (.int v6), .val (.ref b8), .val (.ref b34), .val (.int (3 : Int32)), .unset, .unset] [])
            refine own_by (fun t k => XS.aload X75.here hx rfl (hb hby at_169) rfl rfl k) ?_
            show ORun p e below s _ _ _ T75 (mkF m 171 #[.val (.int p1), .val (.int p2), .val (.int p3), .val (.int p4), .val (.int p5), .val (.int p6), .val (.int v2), .val (.int v6), .val (.ref b8), .val (.ref b34), .val (.int (3 : Int32)), .unset, .unset] [(.ref b34)])
            refine own_by (fun t k => XS.iload X75.here hx rfl (hb hby at_171) rfl k) ?_
            show ORun p e below s _ _ _ T75 (mkF m 173 #[.val (.int p1), .val (.int p2), .val (.int p3), .val (.int p4), .val (.int p5), .val (.int p6), .val (.int v2), .val (.int v6), .val (.ref b8), .val (.ref b34), .val (.int (3 : Int32)), .unset, .unset] [(.int (3 : Int32)), (.ref b34)])
            refine own_by (fun t k => XS.iconst X75.here hx rfl (hb hby at_173) k) ?_
            show ORun p e below s _ _ _ T75 (mkF m 174 #[.val (.int p1), .val (.int p2), .val (.int p3), .val (.int p4), .val (.int p5), .val (.int p6), .val (.int v2), .val (.int v6), .val (.ref b8), .val (.ref b34), .val (.int (3 : Int32)), .unset, .unset] [(.int (4 : Int32)), (.int (3 : Int32)), (.ref b34)])
            refine own_iastore X75 hx hZ e75 V75 (i := 3) (by decide) (by omega) (hb hby at_174) ?_
            intro T78 h78 L78 X78 e78 W78 hL78 V78
            have len78 : L78.length = 5 := by rw [hL78, List.length_set]; exact len75
            have N78 := Fr.snoc X78 N75 old_b34
            obtain rfl : [(0 : Int32), (1 : Int32), (3 : Int32), (4 : Int32), (0 : Int32)] = L78 := hL78.symm
            show ORun p e below s _ _ _ T78 (mkF m 175 #[.val (.int p1), .val (.int p2), .val (.int p3), .val (.int p4), .val (.int p5), .val (.int p6), .val (.int v2), .val (.int v6), .val (.ref b8), .val (.ref b34), .val (.int (3 : Int32)), .unset, .unset] [])
            refine own_by (fun t k => XS.iinc X78.here hx rfl (hb hby at_175) rfl (l' := #[.val (.int p1), .val (.int p2), .val (.int p3), .val (.int p4), .val (.int p5), .val (.int p6), .val (.int v2), .val (.int v6), .val (.ref b8), .val (.ref b34), .val (.int (4 : Int32)), .unset, .unset]) rfl k) ?_
            show ORun p e below s _ _ _ T78 (mkF m 178 #[.val (.int p1), .val (.int p2), .val (.int p3), .val (.int p4), .val (.int p5), .val (.int p6), .val (.int v2), .val (.int v6), .val (.ref b8), .val (.ref b34), .val (.int (4 : Int32)), .unset, .unset] [])
            exact LP35  T78 h78 _ ((4 : Int32)) ([v11, v16, v21, v26, v31]) ([(0 : Int32), (1 : Int32), (3 : Int32), (4 : Int32), (0 : Int32)])  X78 e78 N78 ((((((((((((Keep.refl h0 []).ext E8).wr W13 (Or.inr sz_b8)).wr W18 (Or.inr sz_b8)).wr W23 (Or.inr sz_b8)).wr W28 (Or.inr sz_b8)).wr W33 (Or.inr sz_b8)).ext E34).wr W57 (Or.inr sz_b34)).wr W60 (Or.inr sz_b34)).wr W75 (Or.inr sz_b34)).wr W78 (Or.inr sz_b34)) (((((V33.ext E34).other W57 ne_b8_b34).other W60 ne_b8_b34).other W75 ne_b8_b34).other W78 ne_b8_b34) len33 V78 len78 (by decide) (by rw [own_sel_eq, if_pos hc56, if_pos hc59, if_neg hc62, if_pos hc74, if_pos hc77]; rfl) rfl
          · have t77 := own_ne hc77 (a := v31.toInt) (b := v6.toInt) rfl rfl
            refine own_by (fun t k => XS.icmpYes X75.here hx rfl (pc0 := 166) (pc' := 178) rfl (hb hby at_166) rfl (feq hc77).2 (by decide) (by decide) k) ?_
            show ORun p e below s _ _ _ T75 (mkF m 178 #[.val (.int p1), .val (.int p2), .val (.int p3), .val (.int p4), .val (.int p5), .val (.int p6), .val (.int v2), .val (.int v6), .val (.ref b8), .val (.ref b34), .val (.int (3 : Int32)), .unset, .unset] [])
            exact LP35  T75 h75 _ ((3 : Int32)) ([v11, v16, v21, v26, v31]) ([(0 : Int32), (1 : Int32), (3 : Int32), (0 : Int32), (0 : Int32)])  X75 e75 N75 (((((((((((Keep.refl h0 []).ext E8).wr W13 (Or.inr sz_b8)).wr W18 (Or.inr sz_b8)).wr W23 (Or.inr sz_b8)).wr W28 (Or.inr sz_b8)).wr W33 (Or.inr sz_b8)).ext E34).wr W57 (Or.inr sz_b34)).wr W60 (Or.inr sz_b34)).wr W75 (Or.inr sz_b34)) ((((V33.ext E34).other W57 ne_b8_b34).other W60 ne_b8_b34).other W75 ne_b8_b34) len33 V75 len75 (by decide) (by rw [own_sel_eq, if_pos hc56, if_pos hc59, if_neg hc62, if_pos hc74, if_neg hc77]; rfl) rfl
        · have t74 := own_ne hc74 (a := v26.toInt) (b := v6.toInt) rfl rfl
          refine own_by (fun t k => XS.icmpYes X60.here hx rfl (pc0 := 148) (pc' := 160) rfl (hb hby at_148) rfl (feq hc74).2 (by decide) (by decide) k) ?_
          show ORun p e below s _ _ _ T60 (mkF m 160 #[.val (.int p1), .val (.int p2), .val (.int p3), .val (.int p4), .val (.int p5), .val (.int p6), .val (.int v2), .val (.int v6), .val (.ref b8), .val (.ref b34), .val (.int (2 : Int32)), .unset, .unset] [])
          refine own_by (fun t k => XS.aload X60.here hx rfl (hb hby at_160) rfl rfl k) ?_
          show ORun p e below s _ _ _ T60 (mkF m 162 #[.val (.int p1), .val (.int p2), .val (.int p3), .val (.int p4), .val (.int p5), .val (.int p6), .val (.int v2), .val (.int v6), .val (.ref b8), .val (.ref b34), .val (.int (2 : Int32)), .unset, .unset] [(.ref b8)])
          refine own_by (fun t k => XS.iconst X60.here hx rfl (hb hby at_162) k) ?_
          show ORun p e below s _ _ _ T60 (mkF m 163 #[.val (.int p1), .val (.int p2), .val (.int p3), .val (.int p4), .val (.int p5), .val (.int p6), .val (.int v2), .val (.int v6), .val (.ref b8), .val (.ref b34), .val (.int (2 : Int32)), .unset, .unset] [(.int (4 : Int32)), (.ref b8)])
          refine own_iaload X60 hx hZ e60 (((V33.ext E34).other W57 ne_b8_b34).other W60 ne_b8_b34) (i := 4) (by decide) (by omega) (hb hby at_163) ?_
          intro v79 hv79
          obtain rfl : v31 = v79 := hv79.symm
          show ORun p e below s _ _ _ T60 (mkF m 164 #[.val (.int p1), .val (.int p2), .val (.int p3), .val (.int p4), .val (.int p5), .val (.int p6), .val (.int v2), .val (.int v6), .val (.ref b8), .val (.ref b34), .val (.int (2 : Int32)), .unset, .unset] [(.int v31)])
          refine own_by (fun t k => XS.iload X60.here hx rfl (hb hby at_164) rfl k) ?_
          show ORun p e below s _ _ _ T60 (mkF m 166 #[.val (.int p1), .val (.int p2), .val (.int p3), .val (.int p4), .val (.int p5), .val (.int p6), .val (.int v2), .val (.int v6), .val (.ref b8), .val (.ref b34), .val (.int (2 : Int32)), .unset, .unset] [(.int v6), (.int v31)])
          by_cases hc80 : v31 = v6
          · have t80 := own_eq hc80 (a := v31.toInt) (b := v6.toInt) rfl rfl
            refine own_by (fun t k => XS.icmpNo X60.here hx rfl (hb hby at_166) rfl (teq hc80).2 k) ?_
            show ORun p e below s _ _ _ T60 (mkF m 169 #[.val (.int p1), .val (.int p2), .val (.int p3), .val (.int p4), .val (.int p5), .val (.int p6), .val (.int v2), .val (.int v6), .val (.ref b8), .val (.ref b34), .val (.int (2 : Int32)), .unset, .unset] [])
            refine own_by (fun t k => XS.aload X60.here hx rfl (hb hby at_169) rfl rfl k) ?_
            show ORun p e below s _ _ _ T60 (mkF m 171 #[.val (.int p1), .val (.int p2), .val (.int p3), .val (.int p4), .val (.int p5), .val (.int p6), .val (.int v2), .val (.int v6), .val (.ref b8), .val (.ref b34), .val (.int (2 : Int32)), .unset, .unset] [(.ref b34)])
            refine own_by (fun t k => XS.iload X60.here hx rfl (hb hby at_171) rfl k) ?_
            show ORun p e below s _ _ _ T60 (mkF m 173 #[.val (.int p1), .val (.int p2), .val (.int p3), .val (.int p4), .val (.int p5), .val (.int p6), .val (.int v2), .val (.int v6), .val (.ref b8), .val (.ref b34), .val (.int (2 : Int32)), .unset, .unset] [(.int (2 : Int32)), (.ref b34)])
            refine own_by (fun t k => XS.iconst X60.here hx rfl (hb hby at_173) k) ?_
            show ORun p e below s _ _ _ T60 (mkF m 174 #[.val (.int p1), .val (.int p2), .val (.int p3), .val (.int p4), .val (.int p5), .val (.int p6), .val (.int v2), .val (.int v6), .val (.ref b8), .val (.ref b34), .val (.int (2 : Int32)), .unset, .unset] [(.int (4 : Int32)), (.int (2 : Int32)), (.ref b34)])
            refine own_iastore X60 hx hZ e60 V60 (i := 2) (by decide) (by omega) (hb hby at_174) ?_
            intro T81 h81 L81 X81 e81 W81 hL81 V81
            have len81 : L81.length = 5 := by rw [hL81, List.length_set]; exact len60
            have N81 := Fr.snoc X81 N60 old_b34
            obtain rfl : [(0 : Int32), (1 : Int32), (4 : Int32), (0 : Int32), (0 : Int32)] = L81 := hL81.symm
            show ORun p e below s _ _ _ T81 (mkF m 175 #[.val (.int p1), .val (.int p2), .val (.int p3), .val (.int p4), .val (.int p5), .val (.int p6), .val (.int v2), .val (.int v6), .val (.ref b8), .val (.ref b34), .val (.int (2 : Int32)), .unset, .unset] [])
            refine own_by (fun t k => XS.iinc X81.here hx rfl (hb hby at_175) rfl (l' := #[.val (.int p1), .val (.int p2), .val (.int p3), .val (.int p4), .val (.int p5), .val (.int p6), .val (.int v2), .val (.int v6), .val (.ref b8), .val (.ref b34), .val (.int (3 : Int32)), .unset, .unset]) rfl k) ?_
            show ORun p e below s _ _ _ T81 (mkF m 178 #[.val (.int p1), .val (.int p2), .val (.int p3), .val (.int p4), .val (.int p5), .val (.int p6), .val (.int v2), .val (.int v6), .val (.ref b8), .val (.ref b34), .val (.int (3 : Int32)), .unset, .unset] [])
            exact LP35  T81 h81 _ ((3 : Int32)) ([v11, v16, v21, v26, v31]) ([(0 : Int32), (1 : Int32), (4 : Int32), (0 : Int32), (0 : Int32)])  X81 e81 N81 (((((((((((Keep.refl h0 []).ext E8).wr W13 (Or.inr sz_b8)).wr W18 (Or.inr sz_b8)).wr W23 (Or.inr sz_b8)).wr W28 (Or.inr sz_b8)).wr W33 (Or.inr sz_b8)).ext E34).wr W57 (Or.inr sz_b34)).wr W60 (Or.inr sz_b34)).wr W81 (Or.inr sz_b34)) ((((V33.ext E34).other W57 ne_b8_b34).other W60 ne_b8_b34).other W81 ne_b8_b34) len33 V81 len81 (by decide) (by rw [own_sel_eq, if_pos hc56, if_pos hc59, if_neg hc62, if_neg hc74, if_pos hc80]; rfl) rfl
          · have t80 := own_ne hc80 (a := v31.toInt) (b := v6.toInt) rfl rfl
            refine own_by (fun t k => XS.icmpYes X60.here hx rfl (pc0 := 166) (pc' := 178) rfl (hb hby at_166) rfl (feq hc80).2 (by decide) (by decide) k) ?_
            show ORun p e below s _ _ _ T60 (mkF m 178 #[.val (.int p1), .val (.int p2), .val (.int p3), .val (.int p4), .val (.int p5), .val (.int p6), .val (.int v2), .val (.int v6), .val (.ref b8), .val (.ref b34), .val (.int (2 : Int32)), .unset, .unset] [])
            exact LP35  T60 h60 _ ((2 : Int32)) ([v11, v16, v21, v26, v31]) ([(0 : Int32), (1 : Int32), (0 : Int32), (0 : Int32), (0 : Int32)])  X60 e60 N60 ((((((((((Keep.refl h0 []).ext E8).wr W13 (Or.inr sz_b8)).wr W18 (Or.inr sz_b8)).wr W23 (Or.inr sz_b8)).wr W28 (Or.inr sz_b8)).wr W33 (Or.inr sz_b8)).ext E34).wr W57 (Or.inr sz_b34)).wr W60 (Or.inr sz_b34)) (((V33.ext E34).other W57 ne_b8_b34).other W60 ne_b8_b34) len33 V60 len60 (by decide) (by rw [own_sel_eq, if_pos hc56, if_pos hc59, if_neg hc62, if_neg hc74, if_neg hc80]; rfl) rfl
    · have t59 := own_ne hc59 (a := v16.toInt) (b := v6.toInt) rfl rfl
      refine own_by (fun t k => XS.icmpYes X57.here hx rfl (pc0 := 112) (pc' := 124) rfl (hb hby at_112) rfl (feq hc59).2 (by decide) (by decide) k) ?_
      show ORun p e below s _ _ _ T57 (mkF m 124 #[.val (.int p1), .val (.int p2), .val (.int p3), .val (.int p4), .val (.int p5), .val (.int p6), .val (.int v2), .val (.int v6), .val (.ref b8), .val (.ref b34), .val (.int (1 : Int32)), .unset, .unset] [])
      refine own_by (fun t k => XS.aload X57.here hx rfl (hb hby at_124) rfl rfl k) ?_
      show ORun p e below s _ _ _ T57 (mkF m 126 #[.val (.int p1), .val (.int p2), .val (.int p3), .val (.int p4), .val (.int p5), .val (.int p6), .val (.int v2), .val (.int v6), .val (.ref b8), .val (.ref b34), .val (.int (1 : Int32)), .unset, .unset] [(.ref b8)])
      refine own_by (fun t k => XS.iconst X57.here hx rfl (hb hby at_126) k) ?_
      show ORun p e below s _ _ _ T57 (mkF m 127 #[.val (.int p1), .val (.int p2), .val (.int p3), .val (.int p4), .val (.int p5), .val (.int p6), .val (.int v2), .val (.int v6), .val (.ref b8), .val (.ref b34), .val (.int (1 : Int32)), .unset, .unset] [(.int (2 : Int32)), (.ref b8)])
      refine own_iaload X57 hx hZ e57 ((V33.ext E34).other W57 ne_b8_b34) (i := 2) (by decide) (by omega) (hb hby at_127) ?_
      intro v82 hv82
      obtain rfl : v21 = v82 := hv82.symm
      show ORun p e below s _ _ _ T57 (mkF m 128 #[.val (.int p1), .val (.int p2), .val (.int p3), .val (.int p4), .val (.int p5), .val (.int p6), .val (.int v2), .val (.int v6), .val (.ref b8), .val (.ref b34), .val (.int (1 : Int32)), .unset, .unset] [(.int v21)])
      refine own_by (fun t k => XS.iload X57.here hx rfl (hb hby at_128) rfl k) ?_
      show ORun p e below s _ _ _ T57 (mkF m 130 #[.val (.int p1), .val (.int p2), .val (.int p3), .val (.int p4), .val (.int p5), .val (.int p6), .val (.int v2), .val (.int v6), .val (.ref b8), .val (.ref b34), .val (.int (1 : Int32)), .unset, .unset] [(.int v6), (.int v21)])
      by_cases hc83 : v21 = v6
      · have t83 := own_eq hc83 (a := v21.toInt) (b := v6.toInt) rfl rfl
        refine own_by (fun t k => XS.icmpNo X57.here hx rfl (hb hby at_130) rfl (teq hc83).2 k) ?_
        show ORun p e below s _ _ _ T57 (mkF m 133 #[.val (.int p1), .val (.int p2), .val (.int p3), .val (.int p4), .val (.int p5), .val (.int p6), .val (.int v2), .val (.int v6), .val (.ref b8), .val (.ref b34), .val (.int (1 : Int32)), .unset, .unset] [])
        refine own_by (fun t k => XS.aload X57.here hx rfl (hb hby at_133) rfl rfl k) ?_
        show ORun p e below s _ _ _ T57 (mkF m 135 #[.val (.int p1), .val (.int p2), .val (.int p3), .val (.int p4), .val (.int p5), .val (.int p6), .val (.int v2), .val (.int v6), .val (.ref b8), .val (.ref b34), .val (.int (1 : Int32)), .unset, .unset] [(.ref b34)])
        refine own_by (fun t k => XS.iload X57.here hx rfl (hb hby at_135) rfl k) ?_
        show ORun p e below s _ _ _ T57 (mkF m 137 #[.val (.int p1), .val (.int p2), .val (.int p3), .val (.int p4), .val (.int p5), .val (.int p6), .val (.int v2), .val (.int v6), .val (.ref b8), .val (.ref b34), .val (.int (1 : Int32)), .unset, .unset] [(.int (1 : Int32)), (.ref b34)])
        refine own_by (fun t k => XS.iconst X57.here hx rfl (hb hby at_137) k) ?_
        show ORun p e below s _ _ _ T57 (mkF m 138 #[.val (.int p1), .val (.int p2), .val (.int p3), .val (.int p4), .val (.int p5), .val (.int p6), .val (.int v2), .val (.int v6), .val (.ref b8), .val (.ref b34), .val (.int (1 : Int32)), .unset, .unset] [(.int (2 : Int32)), (.int (1 : Int32)), (.ref b34)])
        refine own_iastore X57 hx hZ e57 V57 (i := 1) (by decide) (by omega) (hb hby at_138) ?_
        intro T84 h84 L84 X84 e84 W84 hL84 V84
        have len84 : L84.length = 5 := by rw [hL84, List.length_set]; exact len57
        have N84 := Fr.snoc X84 N57 old_b34
        obtain rfl : [(0 : Int32), (2 : Int32), (0 : Int32), (0 : Int32), (0 : Int32)] = L84 := hL84.symm
        show ORun p e below s _ _ _ T84 (mkF m 139 #[.val (.int p1), .val (.int p2), .val (.int p3), .val (.int p4), .val (.int p5), .val (.int p6), .val (.int v2), .val (.int v6), .val (.ref b8), .val (.ref b34), .val (.int (1 : Int32)), .unset, .unset] [])
        refine own_by (fun t k => XS.iinc X84.here hx rfl (hb hby at_139) rfl (l' := #[.val (.int p1), .val (.int p2), .val (.int p3), .val (.int p4), .val (.int p5), .val (.int p6), .val (.int v2), .val (.int v6), .val (.ref b8), .val (.ref b34), .val (.int (2 : Int32)), .unset, .unset]) rfl k) ?_
        show ORun p e below s _ _ _ T84 (mkF m 142 #[.val (.int p1), .val (.int p2), .val (.int p3), .val (.int p4), .val (.int p5), .val (.int p6), .val (.int v2), .val (.int v6), .val (.ref b8), .val (.ref b34), .val (.int (2 : Int32)), .unset, .unset] [])
        refine own_by (fun t k => XS.aload X84.here hx rfl (hb hby at_142) rfl rfl k) ?_
        show ORun p e below s _ _ _ T84 (mkF m 144 #[.val (.int p1), .val (.int p2), .val (.int p3), .val (.int p4), .val (.int p5), .val (.int p6), .val (.int v2), .val (.int v6), .val (.ref b8), .val (.ref b34), .val (.int (2 : Int32)), .unset, .unset] [(.ref b8)])
        refine own_by (fun t k => XS.iconst X84.here hx rfl (hb hby at_144) k) ?_
        show ORun p e below s _ _ _ T84 (mkF m 145 #[.val (.int p1), .val (.int p2), .val (.int p3), .val (.int p4), .val (.int p5), .val (.int p6), .val (.int v2), .val (.int v6), .val (.ref b8), .val (.ref b34), .val (.int (2 : Int32)), .unset, .unset] [(.int (3 : Int32)), (.ref b8)])
        refine own_iaload X84 hx hZ e84 (((V33.ext E34).other W57 ne_b8_b34).other W84 ne_b8_b34) (i := 3) (by decide) (by omega) (hb hby at_145) ?_
        intro v85 hv85
        obtain rfl : v26 = v85 := hv85.symm
        show ORun p e below s _ _ _ T84 (mkF m 146 #[.val (.int p1), .val (.int p2), .val (.int p3), .val (.int p4), .val (.int p5), .val (.int p6), .val (.int v2), .val (.int v6), .val (.ref b8), .val (.ref b34), .val (.int (2 : Int32)), .unset, .unset] [(.int v26)])
        refine own_by (fun t k => XS.iload X84.here hx rfl (hb hby at_146) rfl k) ?_
        show ORun p e below s _ _ _ T84 (mkF m 148 #[.val (.int p1), .val (.int p2), .val (.int p3), .val (.int p4), .val (.int p5), .val (.int p6), .val (.int v2), .val (.int v6), .val (.ref b8), .val (.ref b34), .val (.int (2 : Int32)), .unset, .unset] [(.int v6), (.int v26)])
        by_cases hc86 : v26 = v6
        · have t86 := own_eq hc86 (a := v26.toInt) (b := v6.toInt) rfl rfl
          refine own_by (fun t k => XS.icmpNo X84.here hx rfl (hb hby at_148) rfl (teq hc86).2 k) ?_
          show ORun p e below s _ _ _ T84 (mkF m 151 #[.val (.int p1), .val (.int p2), .val (.int p3), .val (.int p4), .val (.int p5), .val (.int p6), .val (.int v2), .val (.int v6), .val (.ref b8), .val (.ref b34), .val (.int (2 : Int32)), .unset, .unset] [])
          refine own_by (fun t k => XS.aload X84.here hx rfl (hb hby at_151) rfl rfl k) ?_
          show ORun p e below s _ _ _ T84 (mkF m 153 #[.val (.int p1), .val (.int p2), .val (.int p3), .val (.int p4), .val (.int p5), .val (.int p6), .val (.int v2), .val (.int v6), .val (.ref b8), .val (.ref b34), .val (.int (2 : Int32)), .unset, .unset] [(.ref b34)])
          refine own_by (fun t k => XS.iload X84.here hx rfl (hb hby at_153) rfl k) ?_
          show ORun p e below s _ _ _ T84 (mkF m 155 #[.val (.int p1), .val (.int p2), .val (.int p3), .val (.int p4), .val (.int p5), .val (.int p6), .val (.int v2), .val (.int v6), .val (.ref b8), .val (.ref b34), .val (.int (2 : Int32)), .unset, .unset] [(.int (2 : Int32)), (.ref b34)])
          refine own_by (fun t k => XS.iconst X84.here hx rfl (hb hby at_155) k) ?_
          show ORun p e below s _ _ _ T84 (mkF m 156 #[.val (.int p1), .val (.int p2), .val (.int p3), .val (.int p4), .val (.int p5), .val (.int p6), .val (.int v2), .val (.int v6), .val (.ref b8), .val (.ref b34), .val (.int (2 : Int32)), .unset, .unset] [(.int (3 : Int32)), (.int (2 : Int32)), (.ref b34)])
          refine own_iastore X84 hx hZ e84 V84 (i := 2) (by decide) (by omega) (hb hby at_156) ?_
          intro T87 h87 L87 X87 e87 W87 hL87 V87
          have len87 : L87.length = 5 := by rw [hL87, List.length_set]; exact len84
          have N87 := Fr.snoc X87 N84 old_b34
          obtain rfl : [(0 : Int32), (2 : Int32), (3 : Int32), (0 : Int32), (0 : Int32)] = L87 := hL87.symm
          show ORun p e below s _ _ _ T87 (mkF m 157 #[.val (.int p1), .val (.int p2), .val (.int p3), .val (.int p4), .val (.int p5), .val (.int p6), .val (.int v2), .val (.int v6), .val (.ref b8), .val (.ref b34), .val (.int (2 : Int32)), .unset, .unset] [])
          refine own_by (fun t k => XS.iinc X87.here hx rfl (hb hby at_157) rfl (l' := #[.val (.int p1), .val (.int p2), .val (.int p3), .val (.int p4), .val (.int p5), .val (.int p6), .val (.int v2), .val (.int v6), .val (.ref b8), .val (.ref b34), .val (.int (3 : Int32)), .unset, .unset]) rfl k) ?_
          show ORun p e below s _ _ _ T87 (mkF m 160 #[.val (.int p1), .val (.int p2), .val (.int p3), .val (.int p4), .val (.int p5), .val (.int p6), .val (.int v2), .val (.int v6), .val (.ref b8), .val (.ref b34), .val (.int (3 : Int32)), .unset, .unset] [])
          refine own_by (fun t k => XS.aload X87.here hx rfl (hb hby at_160) rfl rfl k) ?_
          show ORun p e below s _ _ _ T87 (mkF m 162 #[.val (.int p1), .val (.int p2), .val (.int p3), .val (.int p4), .val (.int p5), .val (.int p6), .val (.int v2), .val (.int v6), .val (.ref b8), .val (.ref b34), .val (.int (3 : Int32)), .unset, .unset] [(.ref b8)])
          refine own_by (fun t k => XS.iconst X87.here hx rfl (hb hby at_162) k) ?_
          show ORun p e below s _ _ _ T87 (mkF m 163 #[.val (.int p1), .val (.int p2), .val (.int p3), .val (.int p4), .val (.int p5), .val (.int p6), .val (.int v2), .val (.int v6), .val (.ref b8), .val (.ref b34), .val (.int (3 : Int32)), .unset, .unset] [(.int (4 : Int32)), (.ref b8)])
          refine own_iaload X87 hx hZ e87 ((((V33.ext E34).other W57 ne_b8_b34).other W84 ne_b8_b34).other W87 ne_b8_b34) (i := 4) (by decide) (by omega) (hb hby at_163) ?_
          intro v88 hv88
          obtain rfl : v31 = v88 := hv88.symm
          show ORun p e below s _ _ _ T87 (mkF m 164 #[.val (.int p1), .val (.int p2), .val (.int p3), .val (.int p4), .val (.int p5), .val (.int p6), .val (.int v2), .val (.int v6), .val (.ref b8), .val (.ref b34), .val (.int (3 : Int32)), .unset, .unset] [(.int v31)])
          refine own_by (fun t k => XS.iload X87.here hx rfl (hb hby at_164) rfl k) ?_
          show ORun p e below s _ _ _ T87 (mkF m 166 #[.val (.int p1), .val (.int p2), .val (.int p3), .val (.int p4), .val (.int p5), .val (.int p6), .val (.int v2), .val (.int v6), .val (.ref b8), .val (.ref b34), .val (.int (3 : Int32)), .unset, .unset] [(.int v6), (.int v31)])
          by_cases hc89 : v31 = v6
          · have t89 := own_eq hc89 (a := v31.toInt) (b := v6.toInt) rfl rfl
            refine own_by (fun t k => XS.icmpNo X87.here hx rfl (hb hby at_166) rfl (teq hc89).2 k) ?_
            show ORun p e below s _ _ _ T87 (mkF m 169 #[.val (.int p1), .val (.int p2), .val (.int p3), .val (.int p4), .val (.int p5), .val (.int p6), .val (.int v2), .val (.int v6), .val (.ref b8), .val (.ref b34), .val (.int (3 : Int32)), .unset, .unset] [])
            refine own_by (fun t k => XS.aload X87.here hx rfl (hb hby at_169) rfl rfl k) ?_
            show ORun p e below s _ _ _ T87 (mkF m 171 #[.val (.int p1), .val (.int p2), .val (.int p3), .val (.int p4), .val (.int p5), .val (.int p6), .val (.int v2), .val (.int v6), .val (.ref b8), .val (.ref b34), .val (.int (3 : Int32)), .unset, .unset] [(.ref b34)])
            refine own_by (fun t k => XS.iload X87.here hx rfl (hb hby at_171) rfl k) ?_
            show ORun p e below s _ _ _ T87 (mkF m 173 #[.val (.int p1), .val (.int p2), .val (.int p3), .val (.int p4), .val (.int p5), .val (.int p6), .val (.int v2), .val (.int v6), .val (.ref b8), .val (.ref b34), .val (.int (3 : Int32)), .unset, .unset] [(.int (3 : Int32)), (.ref b34)])
            refine own_by (fun t k => XS.iconst X87.here hx rfl (hb hby at_173) k) ?_
            show ORun p e below s _ _ _ T87 (mkF m 174 #[.val (.int p1), .val (.int p2), .val (.int p3), .val (.int p4), .val (.int p5), .val (.int p6), .val (.int v2), .val (.int v6), .val (.ref b8), .val (.ref b34), .val (.int (3 : Int32)), .unset, .unset] [(.int (4 : Int32)), (.int (3 : Int32)), (.ref b34)])
            refine own_iastore X87 hx hZ e87 V87 (i := 3) (by decide) (by omega) (hb hby at_174) ?_
            intro T90 h90 L90 X90 e90 W90 hL90 V90
            have len90 : L90.length = 5 := by rw [hL90, List.length_set]; exact len87
            have N90 := Fr.snoc X90 N87 old_b34
            obtain rfl : [(0 : Int32), (2 : Int32), (3 : Int32), (4 : Int32), (0 : Int32)] = L90 := hL90.symm
            show ORun p e below s _ _ _ T90 (mkF m 175 #[.val (.int p1), .val (.int p2), .val (.int p3), .val (.int p4), .val (.int p5), .val (.int p6), .val (.int v2), .val (.int v6), .val (.ref b8), .val (.ref b34), .val (.int (3 : Int32)), .unset, .unset] [])
            refine own_by (fun t k => XS.iinc X90.here hx rfl (hb hby at_175) rfl (l' := #[.val (.int p1), .val (.int p2), .val (.int p3), .val (.int p4), .val (.int p5), .val (.int p6), .val (.int v2), .val (.int v6), .val (.ref b8), .val (.ref b34), .val (.int (4 : Int32)), .unset, .unset]) rfl k) ?_
            show ORun p e below s _ _ _ T90 (mkF m 178 #[.val (.int p1), .val (.int p2), .val (.int p3), .val (.int p4), .val (.int p5), .val (.int p6), .val (.int v2), .val (.int v6), .val (.ref b8), .val (.ref b34), .val (.int (4 : Int32)), .unset, .unset] [])
            exact LP35  T90 h90 _ ((4 : Int32)) ([v11, v16, v21, v26, v31]) ([(0 : Int32), (2 : Int32), (3 : Int32), (4 : Int32), (0 : Int32)])  X90 e90 N90 ((((((((((((Keep.refl h0 []).ext E8).wr W13 (Or.inr sz_b8)).wr W18 (Or.inr sz_b8)).wr W23 (Or.inr sz_b8)).wr W28 (Or.inr sz_b8)).wr W33 (Or.inr sz_b8)).ext E34).wr W57 (Or.inr sz_b34)).wr W84 (Or.inr sz_b34)).wr W87 (Or.inr sz_b34)).wr W90 (Or.inr sz_b34)) (((((V33.ext E34).other W57 ne_b8_b34).other W84 ne_b8_b34).other W87 ne_b8_b34).other W90 ne_b8_b34) len33 V90 len90 (by decide) (by rw [own_sel_eq, if_pos hc56, if_neg hc59, if_pos hc83, if_pos hc86, if_pos hc89]; rfl) rfl
          · have t89 := own_ne hc89 (a := v31.toInt) (b := v6.toInt) rfl rfl
            refine own_by (fun t k => XS.icmpYes X87.here hx rfl (pc0 := 166) (pc' := 178) rfl (hb hby at_166) rfl (feq hc89).2 (by decide) (by decide) k) ?_
            show ORun p e below s _ _ _ T87 (mkF m 178 #[.val (.int p1), .val (.int p2), .val (.int p3), .val (.int p4), .val (.int p5), .val (.int p6), .val (.int v2), .val (.int v6), .val (.ref b8), .val (.ref b34), .val (.int (3 : Int32)), .unset, .unset] [])
            exact LP35  T87 h87 _ ((3 : Int32)) ([v11, v16, v21, v26, v31]) ([(0 : Int32), (2 : Int32), (3 : Int32), (0 : Int32), (0 : Int32)])  X87 e87 N87 (((((((((((Keep.refl h0 []).ext E8).wr W13 (Or.inr sz_b8)).wr W18 (Or.inr sz_b8)).wr W23 (Or.inr sz_b8)).wr W28 (Or.inr sz_b8)).wr W33 (Or.inr sz_b8)).ext E34).wr W57 (Or.inr sz_b34)).wr W84 (Or.inr sz_b34)).wr W87 (Or.inr sz_b34)) ((((V33.ext E34).other W57 ne_b8_b34).other W84 ne_b8_b34).other W87 ne_b8_b34) len33 V87 len87 (by decide) (by rw [own_sel_eq, if_pos hc56, if_neg hc59, if_pos hc83, if_pos hc86, if_neg hc89]; rfl) rfl
        · have t86 := own_ne hc86 (a := v26.toInt) (b := v6.toInt) rfl rfl
          refine own_by (fun t k => XS.icmpYes X84.here hx rfl (pc0 := 148) (pc' := 160) rfl (hb hby at_148) rfl (feq hc86).2 (by decide) (by decide) k) ?_
          show ORun p e below s _ _ _ T84 (mkF m 160 #[.val (.int p1), .val (.int p2), .val (.int p3), .val (.int p4), .val (.int p5), .val (.int p6), .val (.int v2), .val (.int v6), .val (.ref b8), .val (.ref b34), .val (.int (2 : Int32)), .unset, .unset] [])
          refine own_by (fun t k => XS.aload X84.here hx rfl (hb hby at_160) rfl rfl k) ?_
          show ORun p e below s _ _ _ T84 (mkF m 162 #[.val (.int p1), .val (.int p2), .val (.int p3), .val (.int p4), .val (.int p5), .val (.int p6), .val (.int v2), .val (.int v6), .val (.ref b8), .val (.ref b34), .val (.int (2 : Int32)), .unset, .unset] [(.ref b8)])
          refine own_by (fun t k => XS.iconst X84.here hx rfl (hb hby at_162) k) ?_
          show ORun p e below s _ _ _ T84 (mkF m 163 #[.val (.int p1), .val (.int p2), .val (.int p3), .val (.int p4), .val (.int p5), .val (.int p6), .val (.int v2), .val (.int v6), .val (.ref b8), .val (.ref b34), .val (.int (2 : Int32)), .unset, .unset] [(.int (4 : Int32)), (.ref b8)])
          refine own_iaload X84 hx hZ e84 (((V33.ext E34).other W57 ne_b8_b34).other W84 ne_b8_b34) (i := 4) (by decide) (by omega) (hb hby at_163) ?_
          intro v91 hv91
          obtain rfl : v31 = v91 := hv91.symm
          show ORun p e below s _ _ _ T84 (mkF m 164 #[.val (.int p1), .val (.int p2), .val (.int p3), .val (.int p4), .val (.int p5), .val (.int p6), .val (.int v2), .val (.int v6), .val (.ref b8), .val (.ref b34), .val (.int (2 : Int32)), .unset, .unset] [(.int v31)])
          refine own_by (fun t k => XS.iload X84.here hx rfl (hb hby at_164) rfl k) ?_
          show ORun p e below s _ _ _ T84 (mkF m 166 #[.val (.int p1), .val (.int p2), .val (.int p3), .val (.int p4), .val (.int p5), .val (.int p6), .val (.int v2), .val (.int v6), .val (.ref b8), .val (.ref b34), .val (.int (2 : Int32)), .unset, .unset] [(.int v6), (.int v31)])
          by_cases hc92 : v31 = v6
          · have t92 := own_eq hc92 (a := v31.toInt) (b := v6.toInt) rfl rfl
            refine own_by (fun t k => XS.icmpNo X84.here hx rfl (hb hby at_166) rfl (teq hc92).2 k) ?_
            show ORun p e below s _ _ _ T84 (mkF m 169 #[.val (.int p1), .val (.int p2), .val (.int p3), .val (.int p4), .val (.int p5), .val (.int p6), .val (.int v2), .val (.int v6), .val (.ref b8), .val (.ref b34), .val (.int (2 : Int32)), .unset, .unset] [])
            refine own_by (fun t k => XS.aload X84.here hx rfl (hb hby at_169) rfl rfl k) ?_
            show ORun p e below s _ _ _ T84 (mkF m 171 #[.val (.int p1), .val (.int p2), .val (.int p3), .val (.int p4), .val (.int p5), .val (.int p6), .val (.int v2), .val (.int v6), .val (.ref b8), .val (.ref b34), .val (.int (2 : Int32)), .unset, .unset] [(.ref b34)])
            refine own_by (fun t k => XS.iload X84.here hx rfl (hb hby at_171) rfl k) ?_
            show ORun p e below s _ _ _ T84 (mkF m 173 #[.val (.int p1), .val (.int p2), .val (.int p3), .val (.int p4), .val (.int p5), .val (.int p6), .val (.int v2), .val (.int v6), .val (.ref b8), .val (.ref b34), .val (.int (2 : Int32)), .unset, .unset] [(.int (2 : Int32)), (.ref b34)])
            refine own_by (fun t k => XS.iconst X84.here hx rfl (hb hby at_173) k) ?_
            show ORun p e below s _ _ _ T84 (mkF m 174 #[.val (.int p1), .val (.int p2), .val (.int p3), .val (.int p4), .val (.int p5), .val (.int p6), .val (.int v2), .val (.int v6), .val (.ref b8), .val (.ref b34), .val (.int (2 : Int32)), .unset, .unset] [(.int (4 : Int32)), (.int (2 : Int32)), (.ref b34)])
            refine own_iastore X84 hx hZ e84 V84 (i := 2) (by decide) (by omega) (hb hby at_174) ?_
            intro T93 h93 L93 X93 e93 W93 hL93 V93
            have len93 : L93.length = 5 := by rw [hL93, List.length_set]; exact len84
            have N93 := Fr.snoc X93 N84 old_b34
            obtain rfl : [(0 : Int32), (2 : Int32), (4 : Int32), (0 : Int32), (0 : Int32)] = L93 := hL93.symm
            show ORun p e below s _ _ _ T93 (mkF m 175 #[.val (.int p1), .val (.int p2), .val (.int p3), .val (.int p4), .val (.int p5), .val (.int p6), .val (.int v2), .val (.int v6), .val (.ref b8), .val (.ref b34), .val (.int (2 : Int32)), .unset, .unset] [])
            refine own_by (fun t k => XS.iinc X93.here hx rfl (hb hby at_175) rfl (l' := #[.val (.int p1), .val (.int p2), .val (.int p3), .val (.int p4), .val (.int p5), .val (.int p6), .val (.int v2), .val (.int v6), .val (.ref b8), .val (.ref b34), .val (.int (3 : Int32)), .unset, .unset]) rfl k) ?_
            show ORun p e below s _ _ _ T93 (mkF m 178 #[.val (.int p1), .val (.int p2), .val (.int p3), .val (.int p4), .val (.int p5), .val (.int p6), .val (.int v2), .val (.int v6), .val (.ref b8), .val (.ref b34), .val (.int (3 : Int32)), .unset, .unset] [])
            exact LP35  T93 h93 _ ((3 : Int32)) ([v11, v16, v21, v26, v31]) ([(0 : Int32), (2 : Int32), (4 : Int32), (0 : Int32), (0 : Int32)])  X93 e93 N93 (((((((((((Keep.refl h0 []).ext E8).wr W13 (Or.inr sz_b8)).wr W18 (Or.inr sz_b8)).wr W23 (Or.inr sz_b8)).wr W28 (Or.inr sz_b8)).wr W33 (Or.inr sz_b8)).ext E34).wr W57 (Or.inr sz_b34)).wr W84 (Or.inr sz_b34)).wr W93 (Or.inr sz_b34)) ((((V33.ext E34).other W57 ne_b8_b34).other W84 ne_b8_b34).other W93 ne_b8_b34) len33 V93 len93 (by decide) (by rw [own_sel_eq, if_pos hc56, if_neg hc59, if_pos hc83, if_neg hc86, if_pos hc92]; rfl) rfl
          · have t92 := own_ne hc92 (a := v31.toInt) (b := v6.toInt) rfl rfl
            refine own_by (fun t k => XS.icmpYes X84.here hx rfl (pc0 := 166) (pc' := 178) rfl (hb hby at_166) rfl (feq hc92).2 (by decide) (by decide) k) ?_
            show ORun p e below s _ _ _ T84 (mkF m 178 #[.val (.int p1), .val (.int p2), .val (.int p3), .val (.int p4), .val (.int p5), .val (.int p6), .val (.int v2), .val (.int v6), .val (.ref b8), .val (.ref b34), .val (.int (2 : Int32)), .unset, .unset] [])
            exact LP35  T84 h84 _ ((2 : Int32)) ([v11, v16, v21, v26, v31]) ([(0 : Int32), (2 : Int32), (0 : Int32), (0 : Int32), (0 : Int32)])  X84 e84 N84 ((((((((((Keep.refl h0 []).ext E8).wr W13 (Or.inr sz_b8)).wr W18 (Or.inr sz_b8)).wr W23 (Or.inr sz_b8)).wr W28 (Or.inr sz_b8)).wr W33 (Or.inr sz_b8)).ext E34).wr W57 (Or.inr sz_b34)).wr W84 (Or.inr sz_b34)) (((V33.ext E34).other W57 ne_b8_b34).other W84 ne_b8_b34) len33 V84 len84 (by decide) (by rw [own_sel_eq, if_pos hc56, if_neg hc59, if_pos hc83, if_neg hc86, if_neg hc92]; rfl) rfl
      · have t83 := own_ne hc83 (a := v21.toInt) (b := v6.toInt) rfl rfl
        refine own_by (fun t k => XS.icmpYes X57.here hx rfl (pc0 := 130) (pc' := 142) rfl (hb hby at_130) rfl (feq hc83).2 (by decide) (by decide) k) ?_
        show ORun p e below s _ _ _ T57 (mkF m 142 #[.val (.int p1), .val (.int p2), .val (.int p3), .val (.int p4), .val (.int p5), .val (.int p6), .val (.int v2), .val (.int v6), .val (.ref b8), .val (.ref b34), .val (.int (1 : Int32)), .unset, .unset] [])
        refine own_by (fun t k => XS.aload X57.here hx rfl (hb hby at_142) rfl rfl k) ?_
        show ORun p e below s _ _ _ T57 (mkF m 144 #[.val (.int p1), .val (.int p2), .val (.int p3), .val (.int p4), .val (.int p5), .val (.int p6), .val (.int v2), .val (.int v6), .val (.ref b8), .val (.ref b34), .val (.int (1 : Int32)), .unset, .unset] [(.ref b8)])
        refine own_by (fun t k => XS.iconst X57.here hx rfl (hb hby at_144) k) ?_
        show ORun p e below s _ _ _ T57 (mkF m 145 #[.val (.int p1), .val (.int p2), .val (.int p3), .val (.int p4), .val (.int p5), .val (.int p6), .val (.int v2), .val (.int v6), .val (.ref b8), .val (.ref b34), .val (.int (1 : Int32)), .unset, .unset] [(.int (3 : Int32)), (.ref b8)])
        refine own_iaload X57 hx hZ e57 ((V33.ext E34).other W57 ne_b8_b34) (i := 3) (by decide) (by omega) (hb hby at_145) ?_
        intro v94 hv94
        obtain rfl : v26 = v94 := hv94.symm
        show ORun p e below s _ _ _ T57 (mkF m 146 #[.val (.int p1), .val (.int p2), .val (.int p3), .val (.int p4), .val (.int p5), .val (.int p6), .val (.int v2), .val (.int v6), .val (.ref b8), .val (.ref b34), .val (.int (1 : Int32)), .unset, .unset] [(.int v26)])
        refine own_by (fun t k => XS.iload X57.here hx rfl (hb hby at_146) rfl k) ?_
        show ORun p e below s _ _ _ T57 (mkF m 148 #[.val (.int p1), .val (.int p2), .val (.int p3), .val (.int p4), .val (.int p5), .val (.int p6), .val (.int v2), .val (.int v6), .val (.ref b8), .val (.ref b34), .val (.int (1 : Int32)), .unset, .unset] [(.int v6), (.int v26)])
        by_cases hc95 : v26 = v6
        · have t95 := own_eq hc95 (a := v26.toInt) (b := v6.toInt) rfl rfl
          refine own_by (fun t k => XS.icmpNo X57.here hx rfl (hb hby at_148) rfl (teq hc95).2 k) ?_
          show ORun p e below s _ _ _ T57 (mkF m 151 #[.val (.int p1), .val (.int p2), .val (.int p3), .val (.int p4), .val (.int p5), .val (.int p6), .val (.int v2), .val (.int v6), .val (.ref b8), .val (.ref b34), .val (.int (1 : Int32)), .unset, .unset] [])
          refine own_by (fun t k => XS.aload X57.here hx rfl (hb hby at_151) rfl rfl k) ?_
          show ORun p e below s _ _ _ T57 (mkF m 153 #[.val (.int p1), .val (.int p2), .val (.int p3), .val (.int p4), .val (.int p5), .val (.int p6), .val (.int v2), .val (.int v6), .val (.ref b8), .val (.ref b34), .val (.int (1 : Int32)), .unset, .unset] [(.ref b34)])
          refine own_by (fun t k => XS.iload X57.here hx rfl (hb hby at_153) rfl k) ?_
          show ORun p e below s _ _ _ T57 (mkF m 155 #[.val (.int p1), .val (.int p2), .val (.int p3), .val (.int p4), .val (.int p5), .val (.int p6), .val (.int v2), .val (.int v6), .val (.ref b8), .val (.ref b34), .val (.int (1 : Int32)), .unset, .unset] [(.int (1 : Int32)), (.ref b34)])
          refine own_by (fun t k => XS.iconst X57.here hx rfl (hb hby at_155) k) ?_
          show ORun p e below s _ _ _ T57 (mkF m 156 #[.val (.int p1), .val (.int p2), .val (.int p3), .val (.int p4), .val (.int p5), .val (.int p6), .val (.int v2), .val (.int v6), .val (.ref b8), .val (.ref b34), .val (.int (1 : Int32)), .unset, .unset] [(.int (3 : Int32)), (.int (1 : Int32)), (.ref b34)])
          refine own_iastore X57 hx hZ e57 V57 (i := 1) (by decide) (by omega) (hb hby at_156) ?_
          intro T96 h96 L96 X96 e96 W96 hL96 V96
          have len96 : L96.length = 5 := by rw [hL96, List.length_set]; exact len57
          have N96 := Fr.snoc X96 N57 old_b34
          obtain rfl : [(0 : Int32), (3 : Int32), (0 : Int32), (0 : Int32), (0 : Int32)] = L96 := hL96.symm
          show ORun p e below s _ _ _ T96 (mkF m 157 #[.val (.int p1), .val (.int p2), .val (.int p3), .val (.int p4), .val (.int p5), .val (.int p6), .val (.int v2), .val (.int v6), .val (.ref b8), .val (.ref b34), .val (.int (1 : Int32)), .unset, .unset] [])
          refine own_by (fun t k => XS.iinc X96.here hx rfl (hb hby at_157) rfl (l' := #[.val (.int p1), .val (.int p2), .val (.int p3), .val (.int p4), .val (.int p5), .val (.int p6), .val (.int v2), .val (.int v6), .val (.ref b8), .val (.ref b34), .val (.int (2 : Int32)), .unset, .unset]) rfl k) ?_
          show ORun p e below s _ _ _ T96 (mkF m 160 #[.val (.int p1), .val (.int p2), .val (.int p3), .val (.int p4), .val (.int p5), .val (.int p6), .val (.int v2), .val (.int v6), .val (.ref b8), .val (.ref b34), .val (.int (2 : Int32)), .unset, .unset] [])
          refine own_by (fun t k => XS.aload X96.here hx rfl (hb hby at_160) rfl rfl k) ?_
          show ORun p e below s _ _ _ T96 (mkF m 162 #[.val (.int p1), .val (.int p2), .val (.int p3), .val (.int p4), .val (.int p5), .val (.int p6), .val (.int v2), .val (.int v6), .val (.ref b8), .val (.ref b34), .val (.int (2 : Int32)), .unset, .unset] [(.ref b8)])
          refine own_by (fun t k => XS.iconst X96.here hx rfl (hb hby at_162) k) ?_
          show ORun p e below s _ _ _ T96 (mkF m 163 #[.val (.int p1), .val (.int p2), .val (.int p3), .val (.int p4), .val (.int p5), .val (.int p6), .val (.int v2), .val (.int v6), .val (.ref b8), .val (.ref b34), .val (.int (2 : Int32)), .unset, .unset] [(.int (4 : Int32)), (.ref b8)])
          refine own_iaload X96 hx hZ e96 (((V33.ext E34).other W57 ne_b8_b34).other W96 ne_b8_b34) (i := 4) (by decide) (by omega) (hb hby at_163) ?_
          intro v97 hv97
          obtain rfl : v31 = v97 := hv97.symm
          show ORun p e below s _ _ _ T96 (mkF m 164 #[.val (.int p1), .val (.int p2), .val (.int p3), .val (.int p4), .val (.int p5), .val (.int p6), .val (.int v2), .val (.int v6), .val (.ref b8), .val (.ref b34), .val (.int (2 : Int32)), .unset, .unset] [(.int v31)])
          refine own_by (fun t k => XS.iload X96.here hx rfl (hb hby at_164) rfl k) ?_
          show ORun p e below s _ _ _ T96 (mkF m 166 #[.val (.int p1), .val (.int p2), .val (.int p3), .val (.int p4), .val (.int p5), .val (.int p6), .val (.int v2), .val (.int v6), .val (.ref b8), .val (.ref b34), .val (.int (2 : Int32)), .unset, .unset] [(.int v6), (.int v31)])
          by_cases hc98 : v31 = v6
          · have t98 := own_eq hc98 (a := v31.toInt) (b := v6.toInt) rfl rfl
            refine own_by (fun t k => XS.icmpNo X96.here hx rfl (hb hby at_166) rfl (teq hc98).2 k) ?_
            show ORun p e below s _ _ _ T96 (mkF m 169 #[.val (.int p1), .val (.int p2), .val (.int p3), .val (.int p4), .val (.int p5), .val (.int p6), .val (.int v2), .val (.int v6), .val (.ref b8), .val (.ref b34), .val (.int (2 : Int32)), .unset, .unset] [])
            refine own_by (fun t k => XS.aload X96.here hx rfl (hb hby at_169) rfl rfl k) ?_
            show ORun p e below s _ _ _ T96 (mkF m 171 #[.val (.int p1), .val (.int p2), .val (.int p3), .val (.int p4), .val (.int p5), .val (.int p6), .val (.int v2), .val (.int v6), .val (.ref b8), .val (.ref b34), .val (.int (2 : Int32)), .unset, .unset] [(.ref b34)])
            refine own_by (fun t k => XS.iload X96.here hx rfl (hb hby at_171) rfl k) ?_
            show ORun p e below s _ _ _ T96 (mkF m 173 #[.val (.int p1), .val (.int p2), .val (.int p3), .val (.int p4), .val (.int p5), .val (.int p6), .val (.int v2), .val (.int v6), .val (.ref b8), .val (.ref b34), .val (.int (2 : Int32)), .unset, .unset] [(.int (2 : Int32)), (.ref b34)])
            refine own_by (fun t k => XS.iconst X96.here hx rfl (hb hby at_173) k) ?_
            show ORun p e below s _ _ _ T96 (mkF m 174 #[.val (.int p1), .val (.int p2), .val (.int p3), .val (.int p4), .val (.int p5), .val (.int p6), .val (.int v2), .val (.int v6), .val (.ref b8), .val (.ref b34), .val (.int (2 : Int32)), .unset, .unset] [(.int (4 : Int32)), (.int (2 : Int32)), (.ref b34)])
            refine own_iastore X96 hx hZ e96 V96 (i := 2) (by decide) (by omega) (hb hby at_174) ?_
            intro T99 h99 L99 X99 e99 W99 hL99 V99
            have len99 : L99.length = 5 := by rw [hL99, List.length_set]; exact len96
            have N99 := Fr.snoc X99 N96 old_b34
            obtain rfl : [(0 : Int32), (3 : Int32), (4 : Int32), (0 : Int32), (0 : Int32)] = L99 := hL99.symm
            show ORun p e below s _ _ _ T99 (mkF m 175 #[.val (.int p1), .val (.int p2), .val (.int p3), .val (.int p4), .val (.int p5), .val (.int p6), .val (.int v2), .val (.int v6), .val (.ref b8), .val (.ref b34), .val (.int (2 : Int32)), .unset, .unset] [])
            refine own_by (fun t k => XS.iinc X99.here hx rfl (hb hby at_175) rfl (l' := #[.val (.int p1), .val (.int p2), .val (.int p3), .val (.int p4), .val (.int p5), .val (.int p6), .val (.int v2), .val (.int v6), .val (.ref b8), .val (.ref b34), .val (.int (3 : Int32)), .unset, .unset]) rfl k) ?_
            show ORun p e below s _ _ _ T99 (mkF m 178 #[.val (.int p1), .val (.int p2), .val (.int p3), .val (.int p4), .val (.int p5), .val (.int p6), .val (.int v2), .val (.int v6), .val (.ref b8), .val (.ref b34), .val (.int (3 : Int32)), .unset, .unset] [])
            exact LP35  T99 h99 _ ((3 : Int32)) ([v11, v16, v21, v26, v31]) ([(0 : Int32), (3 : Int32), (4 : Int32), (0 : Int32), (0 : Int32)])  X99 e99 N99 (((((((((((Keep.refl h0 []).ext E8).wr W13 (Or.inr sz_b8)).wr W18 (Or.inr sz_b8)).wr W23 (Or.inr sz_b8)).wr W28 (Or.inr sz_b8)).wr W33 (Or.inr sz_b8)).ext E34).wr W57 (Or.inr sz_b34)).wr W96 (Or.inr sz_b34)).wr W99 (Or.inr sz_b34)) ((((V33.ext E34).other W57 ne_b8_b34).other W96 ne_b8_b34).other W99 ne_b8_b34) len33 V99 len99 (by decide) (by rw [own_sel_eq, if_pos hc56, if_neg hc59, if_neg hc83, if_pos hc95, if_pos hc98]; rfl) rfl
          · have t98 := own_ne hc98 (a := v31.toInt) (b := v6.toInt) rfl rfl
            refine own_by (fun t k => XS.icmpYes X96.here hx rfl (pc0 := 166) (pc' := 178) rfl (hb hby at_166) rfl (feq hc98).2 (by decide) (by decide) k) ?_
            show ORun p e below s _ _ _ T96 (mkF m 178 #[.val (.int p1), .val (.int p2), .val (.int p3), .val (.int p4), .val (.int p5), .val (.int p6), .val (.int v2), .val (.int v6), .val (.ref b8), .val (.ref b34), .val (.int (2 : Int32)), .unset, .unset] [])
            exact LP35  T96 h96 _ ((2 : Int32)) ([v11, v16, v21, v26, v31]) ([(0 : Int32), (3 : Int32), (0 : Int32), (0 : Int32), (0 : Int32)])  X96 e96 N96 ((((((((((Keep.refl h0 []).ext E8).wr W13 (Or.inr sz_b8)).wr W18 (Or.inr sz_b8)).wr W23 (Or.inr sz_b8)).wr W28 (Or.inr sz_b8)).wr W33 (Or.inr sz_b8)).ext E34).wr W57 (Or.inr sz_b34)).wr W96 (Or.inr sz_b34)) (((V33.ext E34).other W57 ne_b8_b34).other W96 ne_b8_b34) len33 V96 len96 (by decide) (by rw [own_sel_eq, if_pos hc56, if_neg hc59, if_neg hc83, if_pos hc95, if_neg hc98]; rfl) rfl
        · have t95 := own_ne hc95 (a := v26.toInt) (b := v6.toInt) rfl rfl
          refine own_by (fun t k => XS.icmpYes X57.here hx rfl (pc0 := 148) (pc' := 160) rfl (hb hby at_148) rfl (feq hc95).2 (by decide) (by decide) k) ?_
          show ORun p e below s _ _ _ T57 (mkF m 160 #[.val (.int p1), .val (.int p2), .val (.int p3), .val (.int p4), .val (.int p5), .val (.int p6), .val (.int v2), .val (.int v6), .val (.ref b8), .val (.ref b34), .val (.int (1 : Int32)), .unset, .unset] [])
          refine own_by (fun t k => XS.aload X57.here hx rfl (hb hby at_160) rfl rfl k) ?_
          show ORun p e below s _ _ _ T57 (mkF m 162 #[.val (.int p1), .val (.int p2), .val (.int p3), .val (.int p4), .val (.int p5), .val (.int p6), .val (.int v2), .val (.int v6), .val (.ref b8), .val (.ref b34), .val (.int (1 : Int32)), .unset, .unset] [(.ref b8)])
          refine own_by (fun t k => XS.iconst X57.here hx rfl (hb hby at_162) k) ?_
          show ORun p e below s _ _ _ T57 (mkF m 163 #[.val (.int p1), .val (.int p2), .val (.int p3), .val (.int p4), .val (.int p5), .val (.int p6), .val (.int v2), .val (.int v6), .val (.ref b8), .val (.ref b34), .val (.int (1 : Int32)), .unset, .unset] [(.int (4 : Int32)), (.ref b8)])
          refine own_iaload X57 hx hZ e57 ((V33.ext E34).other W57 ne_b8_b34) (i := 4) (by decide) (by omega) (hb hby at_163) ?_
          intro v100 hv100
          obtain rfl : v31 = v100 := hv100.symm
          show ORun p e below s _ _ _ T57 (mkF m 164 #[.val (.int p1), .val (.int p2), .val (.int p3), .val (.int p4), .val (.int p5), .val (.int p6), .val (.int v2), .val (.int v6), .val (.ref b8), .val (.ref b34), .val (.int (1 : Int32)), .unset, .unset] [(.int v31)])
          refine own_by (fun t k => XS.iload X57.here hx rfl (hb hby at_164) rfl k) ?_
          show ORun p e below s _ _ _ T57 (mkF m 166 #[.val (.int p1), .val (.int p2), .val (.int p3), .val (.int p4), .val (.int p5), .val (.int p6), .val (.int v2), .val (.int v6), .val (.ref b8), .val (.ref b34), .val (.int (1 : Int32)), .unset, .unset] [(.int v6), (.int v31)])
          by_cases hc101 : v31 = v6
          · have t101 := own_eq hc101 (a := v31.toInt) (b := v6.toInt) rfl rfl
            refine own_by (fun t k => XS.icmpNo X57.here hx rfl (hb hby at_166) rfl (teq hc101).2 k) ?_
            show ORun p e below s _ _ _ T57 (mkF m 169 #[.val (.int p1), .val (.int p2), .val (.int p3), .val (.int p4), .val (.int p5), .val (.int p6), .val (.int v2), .val (.int v6), .val (.ref b8), .val (.ref b34), .val (.int (1 : Int32)), .unset, .unset] [])
            refine own_by (fun t k => XS.aload X57.here hx rfl (hb hby at_169) rfl rfl k) ?_
            show ORun p e below s _ _ _ T57 (mkF m 171 #[.val (.int p1), .val (.int p2), .val (.int p3), .val (.int p4), .val (.int p5), .val (.int p6), .val (.int v2), .val (.int v6), .val (.ref b8), .val (.ref b34), .val (.int (1 : Int32)), .unset, .unset] [(.ref b34)])
            refine own_by (fun t k => XS.iload X57.here hx rfl (hb hby at_171) rfl k) ?_
            show ORun p e below s _ _ _ T57 (mkF m 173 #[.val (.int p1), .val (.int p2), .val (.int p3), .val (.int p4), .val (.int p5), .val (.int p6), .val (.int v2), .val (.int v6), .val (.ref b8), .val (.ref b34), .val (.int (1 : Int32)), .unset, .unset] [(.int (1 : Int32)), (.ref b34)])
            refine own_by (fun t k => XS.iconst X57.here hx rfl (hb hby at_173) k) ?_
            show ORun p e below s _ _ _ T57 (mkF m 174 #[.val (.int p1), .val (.int p2), .val (.int p3), .val (.int p4), .val (.int p5), .val (.int p6), .val (.int v2), .val (.int v6), .val (.ref b8), .val (.ref b34), .val (.int (1 : Int32)), .unset, .unset] [(.int (4 : Int32)), (.int (1 : Int32)), (.ref b34)])
            refine own_iastore X57 hx hZ e57 V57 (i := 1) (by decide) (by omega) (hb hby at_174) ?_
            intro T102 h102 L102 X102 e102 W102 hL102 V102
            have len102 : L102.length = 5 := by rw [hL102, List.length_set]; exact len57
            have N102 := Fr.snoc X102 N57 old_b34
            obtain rfl : [(0 : Int32), (4 : Int32), (0 : Int32), (0 : Int32), (0 : Int32)] = L102 := hL102.symm
            show ORun p e below s _ _ _ T102 (mkF m 175 #[.val (.int p1), .val (.int p2), .val (.int p3), .val (.int p4), .val (.int p5), .val (.int p6), .val (.int v2), .val (.int v6), .val (.ref b8), .val (.ref b34), .val (.int (1 : Int32)), .unset, .unset] [])
            refine own_by (fun t k => XS.iinc X102.here hx rfl (hb hby at_175) rfl (l' := #[.val (.int p1), .val (.int p2), .val (.int p3), .val (.int p4), .val (.int p5), .val (.int p6), .val (.int v2), .val (.int v6), .val (.ref b8), .val (.ref b34), .val (.int (2 : Int32)), .unset, .unset]) rfl k) ?_
            show ORun p e below s _ _ _ T102 (mkF m 178 #[.val (.int p1), .val (.int p2), .val (.int p3), .val (.int p4), .val (.int p5), .val (.int p6), .val (.int v2), .val (.int v6), .val (.ref b8), .val (.ref b34), .val (.int (2 : Int32)), .unset, .unset] [])
            exact LP35  T102 h102 _ ((2 : Int32)) ([v11, v16, v21, v26, v31]) ([(0 : Int32), (4 : Int32), (0 : Int32), (0 : Int32), (0 : Int32)])  X102 e102 N102 ((((((((((Keep.refl h0 []).ext E8).wr W13 (Or.inr sz_b8)).wr W18 (Or.inr sz_b8)).wr W23 (Or.inr sz_b8)).wr W28 (Or.inr sz_b8)).wr W33 (Or.inr sz_b8)).ext E34).wr W57 (Or.inr sz_b34)).wr W102 (Or.inr sz_b34)) (((V33.ext E34).other W57 ne_b8_b34).other W102 ne_b8_b34) len33 V102 len102 (by decide) (by rw [own_sel_eq, if_pos hc56, if_neg hc59, if_neg hc83, if_neg hc95, if_pos hc101]; rfl) rfl
          · have t101 := own_ne hc101 (a := v31.toInt) (b := v6.toInt) rfl rfl
            refine own_by (fun t k => XS.icmpYes X57.here hx rfl (pc0 := 166) (pc' := 178) rfl (hb hby at_166) rfl (feq hc101).2 (by decide) (by decide) k) ?_
            show ORun p e below s _ _ _ T57 (mkF m 178 #[.val (.int p1), .val (.int p2), .val (.int p3), .val (.int p4), .val (.int p5), .val (.int p6), .val (.int v2), .val (.int v6), .val (.ref b8), .val (.ref b34), .val (.int (1 : Int32)), .unset, .unset] [])
            exact LP35  T57 h57 _ ((1 : Int32)) ([v11, v16, v21, v26, v31]) ([(0 : Int32), (0 : Int32), (0 : Int32), (0 : Int32), (0 : Int32)])  X57 e57 N57 (((((((((Keep.refl h0 []).ext E8).wr W13 (Or.inr sz_b8)).wr W18 (Or.inr sz_b8)).wr W23 (Or.inr sz_b8)).wr W28 (Or.inr sz_b8)).wr W33 (Or.inr sz_b8)).ext E34).wr W57 (Or.inr sz_b34)) ((V33.ext E34).other W57 ne_b8_b34) len33 V57 len57 (by decide) (by rw [own_sel_eq, if_pos hc56, if_neg hc59, if_neg hc83, if_neg hc95, if_neg hc101]; rfl) rfl
  · have t56 := own_ne hc56 (a := v11.toInt) (b := v6.toInt) rfl rfl
    refine own_by (fun t k => XS.icmpYes X34.here hx rfl (pc0 := 94) (pc' := 106) rfl (hb hby at_94) rfl (feq hc56).2 (by decide) (by decide) k) ?_
    show ORun p e below s _ _ _ T34 (mkF m 106 #[.val (.int p1), .val (.int p2), .val (.int p3), .val (.int p4), .val (.int p5), .val (.int p6), .val (.int v2), .val (.int v6), .val (.ref b8), .val (.ref b34), .val (.int (0 : Int32)), .unset, .unset] [])
    refine own_by (fun t k => XS.aload X34.here hx rfl (hb hby at_106) rfl rfl k) ?_
    show ORun p e below s _ _ _ T34 (mkF m 108 #[.val (.int p1), .val (.int p2), .val (.int p3), .val (.int p4), .val (.int p5), .val (.int p6), .val (.int v2), .val (.int v6), .val (.ref b8), .val (.ref b34), .val (.int (0 : Int32)), .unset, .unset] [(.ref b8)])
    refine own_by (fun t k => XS.iconst X34.here hx rfl (hb hby at_108) k) ?_
    show ORun p e below s _ _ _ T34 (mkF m 109 #[.val (.int p1), .val (.int p2), .val (.int p3), .val (.int p4), .val (.int p5), .val (.int p6), .val (.int v2), .val (.int v6), .val (.ref b8), .val (.ref b34), .val (.int (0 : Int32)), .unset, .unset] [(.int (1 : Int32)), (.ref b8)])
    refine own_iaload X34 hx hZ e34 (V33.ext E34) (i := 1) (by decide) (by omega) (hb hby at_109) ?_
    intro v103 hv103
    obtain rfl : v16 = v103 := hv103.symm
    show ORun p e below s _ _ _ T34 (mkF m 110 #[.val (.int p1), .val (.int p2), .val (.int p3), .val (.int p4), .val (.int p5), .val (.int p6), .val (.int v2), .val (.int v6), .val (.ref b8), .val (.ref b34), .val (.int (0 : Int32)), .unset, .unset] [(.int v16)])
    refine own_by (fun t k => XS.iload X34.here hx rfl (hb hby at_110) rfl k) ?_
    show ORun p e below s _ _ _ T34 (mkF m 112 #[.val (.int p1), .val (.int p2), .val (.int p3), .val (.int p4), .val (.int p5), .val (.int p6), .val (.int v2), .val (.int v6), .val (.ref b8), .val (.ref b34), .val (.int (0 : Int32)), .unset, .unset] [(.int v6), (.int v16)])
    by_cases hc104 : v16 = v6
    · have t104 := own_eq hc104 (a := v16.toInt) (b := v6.toInt) rfl rfl
      refine own_by (fun t k => XS.icmpNo X34.here hx rfl (hb hby at_112) rfl (teq hc104).2 k) ?_
      show ORun p e below s _ _ _ T34 (mkF m 115 #[.val (.int p1), .val (.int p2), .val (.int p3), .val (.int p4), .val (.int p5), .val (.int p6), .val (.int v2), .val (.int v6), .val (.ref b8), .val (.ref b34), .val (.int (0 : Int32)), .unset, .unset] [])
      refine own_by (fun t k => XS.aload X34.here hx rfl (hb hby at_115) rfl rfl k) ?_
      show ORun p e below s _ _ _ T34 (mkF m 117 #[.val (.int p1), .val (.int p2), .val (.int p3), .val (.int p4), .val (.int p5), .val (.int p6), .val (.int v2), .val (.int v6), .val (.ref b8), .val (.ref b34), .val (.int (0 : Int32)), .unset, .unset] [(.ref b34)])
      refine own_by (fun t k => XS.iload X34.here hx rfl (hb hby at_117) rfl k) ?_
      show ORun p e below s _ _ _ T34 (mkF m 119 #[.val (.int p1), .val (.int p2), .val (.int p3), .val (.int p4), .val (.int p5), .val (.int p6), .val (.int v2), .val (.int v6), .val (.ref b8), .val (.ref b34), .val (.int (0 : Int32)), .unset, .unset] [(.int (0 : Int32)), (.ref b34)])
      refine own_by (fun t k => XS.iconst X34.here hx rfl (hb hby at_119) k) ?_
      show ORun p e below s _ _ _ T34 (mkF m 120 #[.val (.int p1), .val (.int p2), .val (.int p3), .val (.int p4), .val (.int p5), .val (.int p6), .val (.int v2), .val (.int v6), .val (.ref b8), .val (.ref b34), .val (.int (0 : Int32)), .unset, .unset] [(.int (1 : Int32)), (.int (0 : Int32)), (.ref b34)])
      refine own_iastore X34 hx hZ e34 V34 (i := 0) (by decide) (by omega) (hb hby at_120) ?_
      intro T105 h105 L105 X105 e105 W105 hL105 V105
      have len105 : L105.length = 5 := by rw [hL105, List.length_set]; exact len34
      have N105 := Fr.snoc X105 N33 old_b34
      obtain rfl : [(1 : Int32), (0 : Int32), (0 : Int32), (0 : Int32), (0 : Int32)] = L105 := hL105.symm
      show ORun p e below s _ _ _ T105 (mkF m 121 #[.val (.int p1), .val (.int p2), .val (.int p3), .val (.int p4), .val (.int p5), .val (.int p6), .val (.int v2), .val (.int v6), .val (.ref b8), .val (.ref b34), .val (.int (0 : Int32)), .unset, .unset] [])
      refine own_by (fun t k => XS.iinc X105.here hx rfl (hb hby at_121) rfl (l' := #[.val (.int p1), .val (.int p2), .val (.int p3), .val (.int p4), .val (.int p5), .val (.int p6), .val (.int v2), .val (.int v6), .val (.ref b8), .val (.ref b34), .val (.int (1 : Int32)), .unset, .unset]) rfl k) ?_
      show ORun p e below s _ _ _ T105 (mkF m 124 #[.val (.int p1), .val (.int p2), .val (.int p3), .val (.int p4), .val (.int p5), .val (.int p6), .val (.int v2), .val (.int v6), .val (.ref b8), .val (.ref b34), .val (.int (1 : Int32)), .unset, .unset] [])
      refine own_by (fun t k => XS.aload X105.here hx rfl (hb hby at_124) rfl rfl k) ?_
      show ORun p e below s _ _ _ T105 (mkF m 126 #[.val (.int p1), .val (.int p2), .val (.int p3), .val (.int p4), .val (.int p5), .val (.int p6), .val (.int v2), .val (.int v6), .val (.ref b8), .val (.ref b34), .val (.int (1 : Int32)), .unset, .unset] [(.ref b8)])
      refine own_by (fun t k => XS.iconst X105.here hx rfl (hb hby at_126) k) ?_
      show ORun p e below s _ _ _ T105 (mkF m 127 #[.val (.int p1), .val (.int p2), .val (.int p3), .val (.int p4), .val (.int p5), .val (.int p6), .val (.int v2), .val (.int v6), .val (.ref b8), .val (.ref b34), .val (.int (1 : Int32)), .unset, .unset] [(.int (2 : Int32)), (.ref b8)])
      refine own_iaload X105 hx hZ e105 ((V33.ext E34).other W105 ne_b8_b34) (i := 2) (by decide) (by omega) (hb hby at_127) ?_
      intro v106 hv106
      obtain rfl : v21 = v106 := hv106.symm
      show ORun p e below s _ _ _ T105 (mkF m 128 #[.val (.int p1), .val (.int p2), .val (.int p3), .val (.int p4), .val (.int p5), .val (.int p6), .val (.int v2), .val (.int v6), .val (.ref b8), .val (.ref b34), .val (.int (1 : Int32)), .unset, .unset] [(.int v21)])
      refine own_by (fun t k => XS.iload X105.here hx rfl (hb hby at_128) rfl k) ?_
      show ORun p e below s _ _ _ T105 (mkF m 130 #[.val (.int p1), .val (.int p2), .val (.int p3), .val (.int p4), .val (.int p5), .val (.int p6), .val (.int v2), .val (.int v6), .val (.ref b8), .val (.ref b34), .val (.int (1 : Int32)), .unset, .unset] [(.int v6), (.int v21)])
      by_cases hc107 : v21 = v6
      · have t107 := own_eq hc107 (a := v21.toInt) (b := v6.toInt) rfl rfl
        refine own_by (fun t k => XS.icmpNo X105.here hx rfl (hb hby at_130) rfl (teq hc107).2 k) ?_
        show ORun p e below s _ _ _ T105 (mkF m 133 #[.val (.int p1), .val (.int p2), .val (.int p3), .val (.int p4), .val (.int p5), .val (.int p6), .val (.int v2), .val (.int v6), .val (.ref b8), .val (.ref b34), .val (.int (1 : Int32)), .unset, .unset] [])
        refine own_by (fun t k => XS.aload X105.here hx rfl (hb hby at_133) rfl rfl k) ?_
        show ORun p e below s _ _ _ T105 (mkF m 135 #[.val (.int p1), .val (.int p2), .val (.int p3), .val (.int p4), .val (.int p5), .val (.int p6), .val (.int v2), .val (.int v6), .val (.ref b8), .val (.ref b34), .val (.int (1 : Int32)), .unset, .unset] [(.ref b34)])
        refine own_by (fun t k => XS.iload X105.here hx rfl (hb hby at_135) rfl k) ?_
        show ORun p e below s _ _ _ T105 (mkF m 137 #[.val (.int p1), .val (.int p2), .val (.int p3), .val (.int p4), .val (.int p5), .val (.int p6), .val (.int v2), .val (.int v6), .val (.ref b8), .val (.ref b34), .val (.int (1 : Int32)), .unset, .unset] [(.int (1 : Int32)), (.ref b34)])
        refine own_by (fun t k => XS.iconst X105.here hx rfl (hb hby at_137) k) ?_
        show ORun p e below s _ _ _ T105 (mkF m 138 #[.val (.int p1), .val (.int p2), .val (.int p3), .val (.int p4), .val (.int p5), .val (.int p6), .val (.int v2), .val (.int v6), .val (.ref b8), .val (.ref b34), .val (.int (1 : Int32)), .unset, .unset] [(.int (2 : Int32)), (.int (1 : Int32)), (.ref b34)])
        refine own_iastore X105 hx hZ e105 V105 (i := 1) (by decide) (by omega) (hb hby at_138) ?_
        intro T108 h108 L108 X108 e108 W108 hL108 V108
        have len108 : L108.length = 5 := by rw [hL108, List.length_set]; exact len105
        have N108 := Fr.snoc X108 N105 old_b34
        obtain rfl : [(1 : Int32), (2 : Int32), (0 : Int32), (0 : Int32), (0 : Int32)] = L108 := hL108.symm
        show ORun p e below s _ _ _ T108 (mkF m 139 #[.val (.int p1), .val (.int p2), .val (.int p3), .val (.int p4), .val (.int p5), .val (.int p6), .val (.int v2), .val (.int v6), .val (.ref b8), .val (.ref b34), .val (.int (1 : Int32)), .unset, .unset] [])
        refine own_by (fun t k => XS.iinc X108.here hx rfl (hb hby at_139) rfl (l' := #[.val (.int p1), .val (.int p2), .val (.int p3), .val (.int p4), .val (.int p5), .val (.int p6), .val (.int v2), .val (.int v6), .val (.ref b8), .val (.ref b34), .val (.int (2 : Int32)), .unset, .unset]) rfl k) ?_
        show ORun p e below s _ _ _ T108 (mkF m 142 #[.val (.int p1), .val (.int p2), .val (.int p3), .val (.int p4), .val (.int p5), .val (.int p6), .val (.int v2), .val (.int v6), .val (.ref b8), .val (.ref b34), .val (.int (2 : Int32)), .unset, .unset] [])
        refine own_by (fun t k => XS.aload X108.here hx rfl (hb hby at_142) rfl rfl k) ?_
        show ORun p e below s _ _ _ T108 (mkF m 144 #[.val (.int p1), .val (.int p2), .val (.int p3), .val (.int p4), .val (.int p5), .val (.int p6), .val (.int v2), .val (.int v6), .val (.ref b8), .val (.ref b34), .val (.int (2 : Int32)), .unset, .unset] [(.ref b8)])
        refine own_by (fun t k => XS.iconst X108.here hx rfl (hb hby at_144) k) ?_
        show ORun p e below s _ _ _ T108 (mkF m 145 #[.val (.int p1), .val (.int p2), .val (.int p3), .val (.int p4), .val (.int p5), .val (.int p6), .val (.int v2), .val (.int v6), .val (.ref b8), .val (.ref b34), .val (.int (2 : Int32)), .unset, .unset] [(.int (3 : Int32)), (.ref b8)])
        refine own_iaload X108 hx hZ e108 (((V33.ext E34).other W105 ne_b8_b34).other W108 ne_b8_b34) (i := 3) (by decide) (by omega) (hb hby at_145) ?_
        intro v109 hv109
        obtain rfl : v26 = v109 := hv109.symm
        show ORun p e below s _ _ _ T108 (mkF m 146 #[.val (.int p1), .val (.int p2), .val (.int p3), .val (.int p4), .val (.int p5), .val (.int p6), .val (.int v2), .val (.int v6), .val (.ref b8), .val (.ref b34), .val (.int (2 : Int32)), .unset, .unset] [(.int v26)])
        refine own_by (fun t k => XS.iload X108.here hx rfl (hb hby at_146) rfl k) ?_
        show ORun p e below s _ _ _ T108 (mkF m 148 #[.val (.int p1), .val (.int p2), .val (.int p3), .val (.int p4), .val (.int p5), .val (.int p6), .val (.int v2), .val (.int v6), .val (.ref b8), .val (.ref b34), .val (.int (2 : Int32)), .unset, .unset] [(.int v6), (.int v26)])
        by_cases hc110 : v26 = v6
        · have t110 := own_eq hc110 (a := v26.toInt) (b := v6.toInt) rfl rfl
          refine own_by (fun t k => XS.icmpNo X108.here hx rfl (hb hby at_148) rfl (teq hc110).2 k) ?_
          show ORun p e below s _ _ _ T108 (mkF m 151 #[.val (.int p1), .val (.int p2), .val (.int p3), .val (.int p4), .val (.int p5), .val (.int p6), .val (.int v2), .val (.int v6), .val (.ref b8), .val (.ref b34), .val (.int (2 : Int32)), .unset, .unset] [])
          refine own_by (fun t k => XS.aload X108.here hx rfl (hb hby at_151) rfl rfl k) ?_
          show ORun p e below s _ _ _ T108 (mkF m 153 #[.val (.int p1), .val (.int p2), .val (.int p3), .val (.int p4), .val (.int p5), .val (.int p6), .val (.int v2), .val (.int v6), .val (.ref b8), .val (.ref b34), .val (.int (2 : Int32)), .unset, .unset] [(.ref b34)])
          refine own_by (fun t k => XS.iload X108.here hx rfl (hb hby at_153) rfl k) ?_
          show ORun p e below s _ _ _ T108 (mkF m 155 #[.val (.int p1), .val (.int p2), .val (.int p3), .val (.int p4), .val (.int p5), .val (.int p6), .val (.int v2), .val (.int v6), .val (.ref b8), .val (.ref b34), .val (.int (2 : Int32)), .unset, .unset] [(.int (2 : Int32)), (.ref b34)])
          refine own_by (fun t k => XS.iconst X108.here hx rfl (hb hby at_155) k) ?_
          show ORun p e below s _ _ _ T108 (mkF m 156 #[.val (.int p1), .val (.int p2), .val (.int p3), .val (.int p4), .val (.int p5), .val (.int p6), .val (.int v2), .val (.int v6), .val (.ref b8), .val (.ref b34), .val (.int (2 : Int32)), .unset, .unset] [(.int (3 : Int32)), (.int (2 : Int32)), (.ref b34)])
          refine own_iastore X108 hx hZ e108 V108 (i := 2) (by decide) (by omega) (hb hby at_156) ?_
          intro T111 h111 L111 X111 e111 W111 hL111 V111
          have len111 : L111.length = 5 := by rw [hL111, List.length_set]; exact len108
          have N111 := Fr.snoc X111 N108 old_b34
          obtain rfl : [(1 : Int32), (2 : Int32), (3 : Int32), (0 : Int32), (0 : Int32)] = L111 := hL111.symm
          show ORun p e below s _ _ _ T111 (mkF m 157 #[.val (.int p1), .val (.int p2), .val (.int p3), .val (.int p4), .val (.int p5), .val (.int p6), .val (.int v2), .val (.int v6), .val (.ref b8), .val (.ref b34), .val (.int (2 : Int32)), .unset, .unset] [])
          refine own_by (fun t k => XS.iinc X111.here hx rfl (hb hby at_157) rfl (l' := #[.val (.int p1), .val (.int p2), .val (.int p3), .val (.int p4), .val (.int p5), .val (.int p6), .val (.int v2), .val (.int v6), .val (.ref b8), .val (.ref b34), .val (.int (3 : Int32)), .unset, .unset]) rfl k) ?_
          show ORun p e below s _ _ _ T111 (mkF m 160 #[.val (.int p1), .val (.int p2), .val (.int p3), .val (.int p4), .val (.int p5), .val (.int p6), .val (.int v2), .val (.int v6), .val (.ref b8), .val (.ref b34), .val (.int (3 : Int32)), .unset, .unset] [])
          refine own_by (fun t k => XS.aload X111.here hx rfl (hb hby at_160) rfl rfl k) ?_
          show ORun p e below s _ _ _ T111 (mkF m 162 #[.val (.int p1), .val (.int p2), .val (.int p3), .val (.int p4), .val (.int p5), .val (.int p6), .val (.int v2), .val (.int v6), .val (.ref b8), .val (.ref b34), .val (.int (3 : Int32)), .unset, .unset] [(.ref b8)])
          refine own_by (fun t k => XS.iconst X111.here hx rfl (hb hby at_162) k) ?_
          show ORun p e below s _ _ _ T111 (mkF m 163 #[.val (.int p1), .val (.int p2), .val (.int p3), .val (.int p4), .val (.int p5), .val (.int p6), .val (.int v2), .val (.int v6), .val (.ref b8), .val (.ref b34), .val (.int (3 : Int32)), .unset, .unset] [(.int (4 : Int32)), (.ref b8)])
          refine own_iaload X111 hx hZ e111 ((((V33.ext E34).other W105 ne_b8_b34).other W108 ne_b8_b34).other W111 ne_b8_b34) (i := 4) (by decide) (by omega) (hb hby at_163) ?_
          intro v112 hv112
          obtain rfl : v31 = v112 := hv112.symm
          show ORun p e below s _ _ _ T111 (mkF m 164 #[.val (.int p1), .val (.int p2), .val (.int p3), .val (.int p4), .val (.int p5), .val (.int p6), .val (.int v2), .val (.int v6), .val (.ref b8), .val (.ref b34), .val (.int (3 : Int32)), .unset, .unset] [(.int v31)])
          refine own_by (fun t k => XS.iload X111.here hx rfl (hb hby at_164) rfl k) ?_
          show ORun p e below s _ _ _ T111 (mkF m 166 #[.val (.int p1), .val (.int p2), .val (.int p3), .val (.int p4), .val (.int p5), .val (.int p6), .val (.int v2), .val (.int v6), .val (.ref b8), .val (.ref b34), .val (.int (3 : Int32)), .unset, .unset] [(.int v6), (.int v31)])
          by_cases hc113 : v31 = v6
          · have t113 := own_eq hc113 (a := v31.toInt) (b := v6.toInt) rfl rfl
            refine own_by (fun t k => XS.icmpNo X111.here hx rfl (hb hby at_166) rfl (teq hc113).2 k) ?_
            show ORun p e below s _ _ _ T111 (mkF m 169 #[.val (.int p1), .val (.int p2), .val (.int p3), .val (.int p4), .val (.int p5), .val (.int p6), .val (.int v2), .val (.int v6), .val (.ref b8), .val (.ref b34), .val (.int (3 : Int32)), .unset, .unset] [])
            refine own_by (fun t k => XS.aload X111.here hx rfl (hb hby at_169) rfl rfl k) ?_
            show ORun p e below s _ _ _ T111 (mkF m 171 #[.val (.int p1), .val (.int p2), .val (.int p3), .val (.int p4), .val (.int p5), .val (.int p6), .val (.int v2), .val (.int v6), .val (.ref b8), .val (.ref b34), .val (.int (3 : Int32)), .unset, .unset] [(.ref b34)])
            refine own_by (fun t k => XS.iload X111.here hx rfl (hb hby at_171) rfl k) ?_
            show ORun p e below s _ _ _ T111 (mkF m 173 #[.val (.int p1), .val (.int p2), .val (.int p3), .val (.int p4), .val (.int p5), .val (.int p6), .val (.int v2), .val (.int v6), .val (.ref b8), .val (.ref b34), .val (.int (3 : Int32)), .unset, .unset] [(.int (3 : Int32)), (.ref b34)])
            refine own_by (fun t k => XS.iconst X111.here hx rfl (hb hby at_173) k) ?_
            show ORun p e below s _ _ _ T111 (mkF m 174 #[.val (.int p1), .val (.int p2), .val (.int p3), .val (.int p4), .val (.int p5), .val (.int p6), .val (.int v2), .val (.int v6), .val (.ref b8), .val (.ref b34), .val (.int (3 : Int32)), .unset, .unset] [(.int (4 : Int32)), (.int (3 : Int32)), (.ref b34)])
            refine own_iastore X111 hx hZ e111 V111 (i := 3) (by decide) (by omega) (hb hby at_174) ?_
            intro T114 h114 L114 X114 e114 W114 hL114 V114
            have len114 : L114.length = 5 := by rw [hL114, List.length_set]; exact len111
            have N114 := Fr.snoc X114 N111 old_b34
            obtain rfl : [(1 : Int32), (2 : Int32), (3 : Int32), (4 : Int32), (0 : Int32)] = L114 := hL114.symm
            show ORun p e below s _ _ _ T114 (mkF m 175 #[.val (.int p1), .val (.int p2), .val (.int p3), .val (.int p4), .val (.int p5), .val (.int p6), .val (.int v2), .val (.int v6), .val (.ref b8), .val (.ref b34), .val (.int (3 : Int32)), .unset, .unset] [])
            refine own_by (fun t k => XS.iinc X114.here hx rfl (hb hby at_175) rfl (l' := #[.val (.int p1), .val (.int p2), .val (.int p3), .val (.int p4), .val (.int p5), .val (.int p6), .val (.int v2), .val (.int v6), .val (.ref b8), .val (.ref b34), .val (.int (4 : Int32)), .unset, .unset]) rfl k) ?_
            show ORun p e below s _ _ _ T114 (mkF m 178 #[.val (.int p1), .val (.int p2), .val (.int p3), .val (.int p4), .val (.int p5), .val (.int p6), .val (.int v2), .val (.int v6), .val (.ref b8), .val (.ref b34), .val (.int (4 : Int32)), .unset, .unset] [])
            exact LP35  T114 h114 _ ((4 : Int32)) ([v11, v16, v21, v26, v31]) ([(1 : Int32), (2 : Int32), (3 : Int32), (4 : Int32), (0 : Int32)])  X114 e114 N114 ((((((((((((Keep.refl h0 []).ext E8).wr W13 (Or.inr sz_b8)).wr W18 (Or.inr sz_b8)).wr W23 (Or.inr sz_b8)).wr W28 (Or.inr sz_b8)).wr W33 (Or.inr sz_b8)).ext E34).wr W105 (Or.inr sz_b34)).wr W108 (Or.inr sz_b34)).wr W111 (Or.inr sz_b34)).wr W114 (Or.inr sz_b34)) (((((V33.ext E34).other W105 ne_b8_b34).other W108 ne_b8_b34).other W111 ne_b8_b34).other W114 ne_b8_b34) len33 V114 len114 (by decide) (by rw [own_sel_eq, if_neg hc56, if_pos hc104, if_pos hc107, if_pos hc110, if_pos hc113]; rfl) rfl
          · have t113 := own_ne hc113 (a := v31.toInt) (b := v6.toInt) rfl rfl
            refine own_by (fun t k => XS.icmpYes X111.here hx rfl (pc0 := 166) (pc' := 178) rfl (hb hby at_166) rfl (feq hc113).2 (by decide) (by decide) k) ?_
            show ORun p e below s _ _ _ T111 (mkF m 178 #[.val (.int p1), .val (.int p2), .val (.int p3), .val (.int p4), .val (.int p5), .val (.int p6), .val (.int v2), .val (.int v6), .val (.ref b8), .val (.ref b34), .val (.int (3 : Int32)), .unset, .unset] [])
            exact LP35  T111 h111 _ ((3 : Int32)) ([v11, v16, v21, v26, v31]) ([(1 : Int32), (2 : Int32), (3 : Int32), (0 : Int32), (0 : Int32)])  X111 e111 N111 (((((((((((Keep.refl h0 []).ext E8).wr W13 (Or.inr sz_b8)).wr W18 (Or.inr sz_b8)).wr W23 (Or.inr sz_b8)).wr W28 (Or.inr sz_b8)).wr W33 (Or.inr sz_b8)).ext E34).wr W105 (Or.inr sz_b34)).wr W108 (Or.inr sz_b34)).wr W111 (Or.inr sz_b34)) ((((V33.ext E34).other W105 ne_b8_b34).other W108 ne_b8_b34).other W111 ne_b8_b34) len33 V111 len111 (by decide) (by rw [own_sel_eq, if_neg hc56, if_pos hc104, if_pos hc107, if_pos hc110, if_neg hc113]; rfl) rfl
        · have t110 := own_ne hc110 (a := v26.toInt) (b := v6.toInt) rfl rfl
          refine own_by (fun t k => XS.icmpYes X108.here hx rfl (pc0 := 148) (pc' := 160) rfl (hb hby at_148) rfl (feq hc110).2 (by decide) (by decide) k) ?_
          show ORun p e below s _ _ _ T108 (mkF m 160 #[.val (.int p1), .val (.int p2), .val (.int p3), .val (.int p4), .val (.int p5), .val (.int p6), .val (.int v2), .val (.int v6), .val (.ref b8), .val (.ref b34), .val (.int (2 : Int32)), .unset, .unset] [])
          refine own_by (fun t k => XS.aload X108.here hx rfl (hb hby at_160) rfl rfl k) ?_
          show ORun p e below s _ _ _ T108 (mkF m 162 #[.val (.int p1), .val (.int p2), .val (.int p3), .val (.int p4), .val (.int p5), .val (.int p6), .val (.int v2), .val (.int v6), .val (.ref b8), .val (.ref b34), .val (.int (2 : Int32)), .unset, .unset] [(.ref b8)])
          refine own_by (fun t k => XS.iconst X108.here hx rfl (hb hby at_162) k) ?_
          show ORun p e below s _ _ _ T108 (mkF m 163 #[.val (.int p1), .val (.int p2), .val (.int p3), .val (.int p4), .val (.int p5), .val (.int p6), .val (.int v2), .val (.int v6), .val (.ref b8), .val (.ref b34), .val (.int (2 : Int32)), .unset, .unset] [(.int (4 : Int32)), (.ref b8)])
          refine own_iaload X108 hx hZ e108 (((V33.ext E34).other W105 ne_b8_b34).other W108 ne_b8_b34) (i := 4) (by decide) (by omega) (hb hby at_163) ?_
          intro v115 hv115
          obtain rfl : v31 = v115 := hv115.symm
          show ORun p e below s _ _ _ T108 (mkF m 164 #[.val (.int p1), .val (.int p2), .val (.int p3), .val (.int p4), .val (.int p5), .val (.int p6), .val (.int v2), .val (.int v6), .val (.ref b8), .val (.ref b34), .val (.int (2 : Int32)), .unset, .unset] [(.int v31)])
          refine own_by (fun t k => XS.iload X108.here hx rfl (hb hby at_164) rfl k) ?_
          show ORun p e below s _ _ _ T108 (mkF m 166 #[.val (.int p1), .val (.int p2), .val (.int p3), .val (.int p4), .val (.int p5), .val (.int p6), .val (.int v2), .val (.int v6), .val (.ref b8), .val (.ref b34), .val (.int (2 : Int32)), .unset, .unset] [(.int v6), (.int v31)])
          by_cases hc116 : v31 = v6
          · have t116 := own_eq hc116 (a := v31.toInt) (b := v6.toInt) rfl rfl
            refine own_by (fun t k => XS.icmpNo X108.here hx rfl (hb hby at_166) rfl (teq hc116).2 k) ?_
            show ORun p e below s _ _ _ T108 (mkF m 169 #[.val (.int p1), .val (.int p2), .val (.int p3), .val (.int p4), .val (.int p5), .val (.int p6), .val (.int v2), .val (.int v6), .val (.ref b8), .val (.ref b34), .val (.int (2 : Int32)), .unset, .unset] [])
            refine own_by (fun t k => XS.aload X108.here hx rfl (hb hby at_169) rfl rfl k) ?_
            show ORun p e below s _ _ _ T108 (mkF m 171 #[.val (.int p1), .val (.int p2), .val (.int p3), .val (.int p4), .val (.int p5), .val (.int p6), .val (.int v2), .val (.int v6), .val (.ref b8), .val (.ref b34), .val (.int (2 : Int32)), .unset, .unset] [(.ref b34)])
            refine own_by (fun t k => XS.iload X108.here hx rfl (hb hby at_171) rfl k) ?_
            show ORun p e below s _ _ _ T108 (mkF m 173 #[.val (.int p1), .val (.int p2), .val (.int p3), .val (.int p4), .val (.int p5), .val (.int p6), .val (.int v2), .val (.int v6), .val (.ref b8), .val (.ref b34), .val (.int (2 : Int32)), .unset, .unset] [(.int (2 : Int32)), (.ref b34)])
            refine own_by (fun t k => XS.iconst X108.here hx rfl (hb hby at_173) k) ?_
            show ORun p e below s _ _ _ T108 (mkF m 174 #[.val (.int p1), .val (.int p2), .val (.int p3), .val (.int p4), .val (.int p5), .val (.int p6), .val (.int v2), .val (.int v6), .val (.ref b8), .val (.ref b34), .val (.int (2 : Int32)), .unset, .unset] [(.int (4 : Int32)), (.int (2 : Int32)), (.ref b34)])
            refine own_iastore X108 hx hZ e108 V108 (i := 2) (by decide) (by omega) (hb hby at_174) ?_
            intro T117 h117 L117 X117 e117 W117 hL117 V117
            have len117 : L117.length = 5 := by rw [hL117, List.length_set]; exact len108
            have N117 := Fr.snoc X117 N108 old_b34
            obtain rfl : [(1 : Int32), (2 : Int32), (4 : Int32), (0 : Int32), (0 : Int32)] = L117 := hL117.symm
            show ORun p e below s _ _ _ T117 (mkF m 175 #[.val (.int p1), .val (.int p2), .val (.int p3), .val (.int p4), .val (.int p5), .val (.int p6), .val (.int v2), .val (.int v6), .val (.ref b8), .val (.ref b34), .val (.int (2 : Int32)), .unset, .unset] [])
            refine own_by (fun t k => XS.iinc X117.here hx rfl (hb hby at_175) rfl (l' := #[.val (.int p1), .val (.int p2), .val (.int p3), .val (.int p4), .val (.int p5), .val (.int p6), .val (.int v2), .val (.int v6), .val (.ref b8), .val (.ref b34), .val (.int (3 : Int32)), .unset, .unset]) rfl k) ?_
            show ORun p e below s _ _ _ T117 (mkF m 178 #[.val (.int p1), .val (.int p2), .val (.int p3), .val (.int p4), .val (.int p5), .val (.int p6), .val (.int v2), .val (.int v6), .val (.ref b8), .val (.ref b34), .val (.int (3 : Int32)), .unset, .unset] [])
            exact LP35  T117 h117 _ ((3 : Int32)) ([v11, v16, v21, v26, v31]) ([(1 : Int32), (2 : Int32), (4 : Int32), (0 : Int32), (0 : Int32)])  X117 e117 N117 (((((((((((Keep.refl h0 []).ext E8).wr W13 (Or.inr sz_b8)).wr W18 (Or.inr sz_b8)).wr W23 (Or.inr sz_b8)).wr W28 (Or.inr sz_b8)).wr W33 (Or.inr sz_b8)).ext E34).wr W105 (Or.inr sz_b34)).wr W108 (Or.inr sz_b34)).wr W117 (Or.inr sz_b34)) ((((V33.ext E34).other W105 ne_b8_b34).other W108 ne_b8_b34).other W117 ne_b8_b34) len33 V117 len117 (by decide) (by rw [own_sel_eq, if_neg hc56, if_pos hc104, if_pos hc107, if_neg hc110, if_pos hc116]; rfl) rfl
          · have t116 := own_ne hc116 (a := v31.toInt) (b := v6.toInt) rfl rfl
            refine own_by (fun t k => XS.icmpYes X108.here hx rfl (pc0 := 166) (pc' := 178) rfl (hb hby at_166) rfl (feq hc116).2 (by decide) (by decide) k) ?_
            show ORun p e below s _ _ _ T108 (mkF m 178 #[.val (.int p1), .val (.int p2), .val (.int p3), .val (.int p4), .val (.int p5), .val (.int p6), .val (.int v2), .val (.int v6), .val (.ref b8), .val (.ref b34), .val (.int (2 : Int32)), .unset, .unset] [])
            exact LP35  T108 h108 _ ((2 : Int32)) ([v11, v16, v21, v26, v31]) ([(1 : Int32), (2 : Int32), (0 : Int32), (0 : Int32), (0 : Int32)])  X108 e108 N108 ((((((((((Keep.refl h0 []).ext E8).wr W13 (Or.inr sz_b8)).wr W18 (Or.inr sz_b8)).wr W23 (Or.inr sz_b8)).wr W28 (Or.inr sz_b8)).wr W33 (Or.inr sz_b8)).ext E34).wr W105 (Or.inr sz_b34)).wr W108 (Or.inr sz_b34)) (((V33.ext E34).other W105 ne_b8_b34).other W108 ne_b8_b34) len33 V108 len108 (by decide) (by rw [own_sel_eq, if_neg hc56, if_pos hc104, if_pos hc107, if_neg hc110, if_neg hc116]; rfl) rfl
      · have t107 := own_ne hc107 (a := v21.toInt) (b := v6.toInt) rfl rfl
        refine own_by (fun t k => XS.icmpYes X105.here hx rfl (pc0 := 130) (pc' := 142) rfl (hb hby at_130) rfl (feq hc107).2 (by decide) (by decide) k) ?_
        show ORun p e below s _ _ _ T105 (mkF m 142 #[.val (.int p1), .val (.int p2), .val (.int p3), .val (.int p4), .val (.int p5), .val (.int p6), .val (.int v2), .val (.int v6), .val (.ref b8), .val (.ref b34), .val (.int (1 : Int32)), .unset, .unset] [])
        refine own_by (fun t k => XS.aload X105.here hx rfl (hb hby at_142) rfl rfl k) ?_
        show ORun p e below s _ _ _ T105 (mkF m 144 #[.val (.int p1), .val (.int p2), .val (.int p3), .val (.int p4), .val (.int p5), .val (.int p6), .val (.int v2), .val (.int v6), .val (.ref b8), .val (.ref b34), .val (.int (1 : Int32)), .unset, .unset] [(.ref b8)])
        refine own_by (fun t k => XS.iconst X105.here hx rfl (hb hby at_144) k) ?_
        show ORun p e below s _ _ _ T105 (mkF m 145 #[.val (.int p1), .val (.int p2), .val (.int p3), .val (.int p4), .val (.int p5), .val (.int p6), .val (.int v2), .val (.int v6), .val (.ref b8), .val (.ref b34), .val (.int (1 : Int32)), .unset, .unset] [(.int (3 : Int32)), (.ref b8)])
        refine own_iaload X105 hx hZ e105 ((V33.ext E34).other W105 ne_b8_b34) (i := 3) (by decide) (by omega) (hb hby at_145) ?_
        intro v118 hv118
        obtain rfl : v26 = v118 := hv118.symm
        show ORun p e below s _ _ _ T105 (mkF m 146 #[.val (.int p1), .val (.int p2), .val (.int p3), .val (.int p4), .val (.int p5), .val (.int p6), .val (.int v2), .val (.int v6), .val (.ref b8), .val (.ref b34), .val (.int (1 : Int32)), .unset, .unset] [(.int v26)])
        refine own_by (fun t k => XS.iload X105.here hx rfl (hb hby at_146) rfl k) ?_
        show ORun p e below s _ _ _ T105 (mkF m 148 #[.val (.int p1), .val (.int p2), .val (.int p3), .val (.int p4), .val (.int p5), .val (.int p6), .val (.int v2), .val (.int v6), .val (.ref b8), .val (.ref b34), .val (.int (1 : Int32)), .unset, .unset] [(.int v6), (.int v26)])
        by_cases hc119 : v26 = v6
        · have t119 := own_eq hc119 (a := v26.toInt) (b := v6.toInt) rfl rfl
          refine own_by (fun t k => XS.icmpNo X105.here hx rfl (hb hby at_148) rfl (teq hc119).2 k) ?_
          show ORun p e below s _ _ _ T105 (mkF m 151 #[.val (.int p1), .val (.int p2), .val (.int p3), .val (.int p4), .val (.int p5), .val (.int p6), .val (.int v2), .val (.int v6), .val (.ref b8), .val (.ref b34), .val (.int (1 : Int32)), .unset, .unset] [])
          refine own_by (fun t k => XS.aload X105.here hx rfl (hb hby at_151) rfl rfl k) ?_
          show ORun p e below s _ _ _ T105 (mkF m 153 #[.val (.int p1), .val (.int p2), .val (.int p3), .val (.int p4), .val (.int p5), .val (.int p6), .val (.int v2), .val (.int v6), .val (.ref b8), .val (.ref b34), .val (.int (1 : Int32)), .unset, .unset] [(.ref b34)])
          refine own_by (fun t k => XS.iload X105.here hx rfl (hb hby at_153) rfl k) ?_
          show ORun p e below s _ _ _ T105 (mkF m 155 #[.val (.int p1), .val (.int p2), .val (.int p3), .val (.int p4), .val (.int p5), .val (.int p6), .val (.int v2), .val (.int v6), .val (.ref b8), .val (.ref b34), .val (.int (1 : Int32)), .unset, .unset] [(.int (1 : Int32)), (.ref b34)])
          refine own_by (fun t k => XS.iconst X105.here hx rfl (hb hby at_155) k) ?_
          show ORun p e below s _ _ _ T105 (mkF m 156 #[.val (.int p1), .val (.int p2), .val (.int p3), .val (.int p4), .val (.int p5), .val (.int p6), .val (.int v2), .val (.int v6), .val (.ref b8), .val (.ref b34), .val (.int (1 : Int32)), .unset, .unset] [(.int (3 : Int32)), (.int (1 : Int32)), (.ref b34)])
          refine own_iastore X105 hx hZ e105 V105 (i := 1) (by decide) (by omega) (hb hby at_156) ?_
          intro T120 h120 L120 X120 e120 W120 hL120 V120
          have len120 : L120.length = 5 := by rw [hL120, List.length_set]; exact len105
          have N120 := Fr.snoc X120 N105 old_b34
          obtain rfl : [(1 : Int32), (3 : Int32), (0 : Int32), (0 : Int32), (0 : Int32)] = L120 := hL120.symm
          show ORun p e below s _ _ _ T120 (mkF m 157 #[.val (.int p1), .val (.int p2), .val (.int p3), .val (.int p4), .val (.int p5), .val (.int p6), .val (.int v2), .val (.int v6), .val (.ref b8), .val (.ref b34), .val (.int (1 : Int32)), .unset, .unset] [])
          refine own_by (fun t k => XS.iinc X120.here hx rfl (hb hby at_157) rfl (l' := #[.val (.int p1), .val (.int p2), .val (.int p3), .val (.int p4), .val (.int p5), .val (.int p6), .val (.int v2), .val (.int v6), .val (.ref b8), .val (.ref b34), .val (.int (2 : Int32)), .unset, .unset]) rfl k) ?_
          show ORun p e below s _ _ _ T120 (mkF m 160 #[.val (.int p1), .val (.int p2), .val (.int p3), .val (.int p4), .val (.int p5), .val (.int p6), .val (.int v2), .val (.int v6), .val (.ref b8), .val (.ref b34), .val (.int (2 : Int32)), .unset, .unset] [])
          refine own_by (fun t k => XS.aload X120.here hx rfl (hb hby at_160) rfl rfl k) ?_
          show ORun p e below s _ _ _ T120 (mkF m 162 #[.val (.int p1), .val (.int p2), .val (.int p3), .val (.int p4), .val (.int p5), .val (.int p6), .val (.int v2), .val (.int v6), .val (.ref b8), .val (.ref b34), .val (.int (2 : Int32)), .unset, .unset] [(.ref b8)])
          refine own_by (fun t k => XS.iconst X120.here hx rfl (hb hby at_162) k) ?_
          show ORun p e below s _ _ _ T120 (mkF m 163 #[.val (.int p1), .val (.int p2), .val (.int p3), .val (.int p4), .val (.int p5), .val (.int p6), .val (.int v2), .val (.int v6), .val (.ref b8), .val (.ref b34), .val (.int (2 : Int32)), .unset, .unset] [(.int (4 : Int32)), (.ref b8)])
          refine own_iaload X120 hx hZ e120 (((V33.ext E34).other W105 ne_b8_b34).other W120 ne_b8_b34) (i := 4) (by decide) (by omega) (hb hby at_163) ?_
          intro v121 hv121
          obtain rfl : v31 = v121 := hv121.symm
          show ORun p e below s _ _ _ T120 (mkF m 164 #[.val (.int p1), .val (.int p2), .val (.int p3), .val (.int p4), .val (.int p5), .val (.int p6), .val (.int v2), .val (.int v6), .val (.ref b8), .val (.ref b34), .val (.int (2 : Int32)), .unset, .unset] [(.int v31)])
          refine own_by (fun t k => XS.iload X120.here hx rfl (hb hby at_164) rfl k) ?_
          show ORun p e below s _ _ _ T120 (mkF m 166 #[.val (.int p1), .val (.int p2), .val (.int p3), .val (.int p4), .val (.int p5), .val (.int p6), .val (.int v2), .val (.int v6), .val (.ref b8), .val (.ref b34), .val (.int (2 : Int32)), .unset, .unset] [(.int v6), (.int v31)])
          by_cases hc122 : v31 = v6
          · have t122 := own_eq hc122 (a := v31.toInt) (b := v6.toInt) rfl rfl
            refine own_by (fun t k => XS.icmpNo X120.here hx rfl (hb hby at_166) rfl (teq hc122).2 k) ?_
            show ORun p e below s _ _ _ T120 (mkF m 169 #[.val (.int p1), .val (.int p2), .val (.int p3), .val (.int p4), .val (.int p5), .val (.int p6), .val (.int v2), .val (.int v6), .val (.ref b8), .val (.ref b34), .val (.int (2 : Int32)), .unset, .unset] [])
            refine own_by (fun t k => XS.aload X120.here hx rfl (hb hby at_169) rfl rfl k) ?_
            show ORun p e below s _ _ _ T120 (mkF m 171 #[.val (.int p1), .val (.int p2), .val (.int p3), .val (.int p4), .val (.int p5), .val (.int p6), .val (.int v2), .val (.int v6), .val (.ref b8), .val (.ref b34), .val (.int (2 : Int32)), .unset, .unset] [(.ref b34)])
            refine own_by (fun t k => XS.iload X120.here hx rfl (hb hby at_171) rfl k) ?_
            show ORun p e below s _ _ _ T120 (mkF m 173 #[.val (.int p1), .val (.int p2), .val (.int p3), .val (.int p4), .val (.int p5), .val (.int p6), .val (.int v2), .val (.int v6), .val (.ref b8), .val (.ref b34), .val (.int (2 : Int32)), .unset, .unset] [(.int (2 : Int32)), (.ref b34)])
            refine own_by (fun t k => XS.iconst X120.here hx rfl (hb hby at_173) k) ?_
            show ORun p e below s _ _ _ T120 (mkF m 174 #[.val (.int p1), .val (.int p2), .val (.int p3), .val (.int p4), .val (.int p5), .val (.int p6), .val (.int v2), .val (.int v6), .val (.ref b8), .val (.ref b34), .val (.int (2 : Int32)), .unset, .unset] [(.int (4 : Int32)), (.int (2 : Int32)), (.ref b34)])
            refine own_iastore X120 hx hZ e120 V120 (i := 2) (by decide) (by omega) (hb hby at_174) ?_
            intro T123 h123 L123 X123 e123 W123 hL123 V123
            have len123 : L123.length = 5 := by rw [hL123, List.length_set]; exact len120
            have N123 := Fr.snoc X123 N120 old_b34
            obtain rfl : [(1 : Int32), (3 : Int32), (4 : Int32), (0 : Int32), (0 : Int32)] = L123 := hL123.symm
            show ORun p e below s _ _ _ T123 (mkF m 175 #[.val (.int p1), .val (.int p2), .val (.int p3), .val (.int p4), .val (.int p5), .val (.int p6), .val (.int v2), .val (.int v6), .val (.ref b8), .val (.ref b34), .val (.int (2 : Int32)), .unset, .unset] [])
            refine own_by (fun t k => XS.iinc X123.here hx rfl (hb hby at_175) rfl (l' := #[.val (.int p1), .val (.int p2), .val (.int p3), .val (.int p4), .val (.int p5), .val (.int p6), .val (.int v2), .val (.int v6), .val (.ref b8), .val (.ref b34), .val (.int (3 : Int32)), .unset, .unset]) rfl k) ?_
            show ORun p e below s _ _ _ T123 (mkF m 178 #[.val (.int p1), .val (.int p2), .val (.int p3), .val (.int p4), .val (.int p5), .val (.int p6), .val (.int v2), .val (.int v6), .val (.ref b8), .val (.ref b34), .val (.int (3 : Int32)), .unset, .unset] [])
            exact LP35  T123 h123 _ ((3 : Int32)) ([v11, v16, v21, v26, v31]) ([(1 : Int32), (3 : Int32), (4 : Int32), (0 : Int32), (0 : Int32)])  X123 e123 N123 (((((((((((Keep.refl h0 []).ext E8).wr W13 (Or.inr sz_b8)).wr W18 (Or.inr sz_b8)).wr W23 (Or.inr sz_b8)).wr W28 (Or.inr sz_b8)).wr W33 (Or.inr sz_b8)).ext E34).wr W105 (Or.inr sz_b34)).wr W120 (Or.inr sz_b34)).wr W123 (Or.inr sz_b34)) ((((V33.ext E34).other W105 ne_b8_b34).other W120 ne_b8_b34).other W123 ne_b8_b34) len33 V123 len123 (by decide) (by rw [own_sel_eq, if_neg hc56, if_pos hc104, if_neg hc107, if_pos hc119, if_pos hc122]; rfl) rfl
          · have t122 := own_ne hc122 (a := v31.toInt) (b := v6.toInt) rfl rfl
            refine own_by (fun t k => XS.icmpYes X120.here hx rfl (pc0 := 166) (pc' := 178) rfl (hb hby at_166) rfl (feq hc122).2 (by decide) (by decide) k) ?_
            show ORun p e below s _ _ _ T120 (mkF m 178 #[.val (.int p1), .val (.int p2), .val (.int p3), .val (.int p4), .val (.int p5), .val (.int p6), .val (.int v2), .val (.int v6), .val (.ref b8), .val (.ref b34), .val (.int (2 : Int32)), .unset, .unset] [])
            exact LP35  T120 h120 _ ((2 : Int32)) ([v11, v16, v21, v26, v31]) ([(1 : Int32), (3 : Int32), (0 : Int32), (0 : Int32), (0 : Int32)])  X120 e120 N120 ((((((((((Keep.refl h0 []).ext E8).wr W13 (Or.inr sz_b8)).wr W18 (Or.inr sz_b8)).wr W23 (Or.inr sz_b8)).wr W28 (Or.inr sz_b8)).wr W33 (Or.inr sz_b8)).ext E34).wr W105 (Or.inr sz_b34)).wr W120 (Or.inr sz_b34)) (((V33.ext E34).other W105 ne_b8_b34).other W120 ne_b8_b34) len33 V120 len120 (by decide) (by rw [own_sel_eq, if_neg hc56, if_pos hc104, if_neg hc107, if_pos hc119, if_neg hc122]; rfl) rfl
        · have t119 := own_ne hc119 (a := v26.toInt) (b := v6.toInt) rfl rfl
          refine own_by (fun t k => XS.icmpYes X105.here hx rfl (pc0 := 148) (pc' := 160) rfl (hb hby at_148) rfl (feq hc119).2 (by decide) (by decide) k) ?_
          show ORun p e below s _ _ _ T105 (mkF m 160 #[.val (.int p1), .val (.int p2), .val (.int p3), .val (.int p4), .val (.int p5), .val (.int p6), .val (.int v2), .val (.int v6), .val (.ref b8), .val (.ref b34), .val (.int (1 : Int32)), .unset, .unset] [])
          refine own_by (fun t k => XS.aload X105.here hx rfl (hb hby at_160) rfl rfl k) ?_
          show ORun p e below s _ _ _ T105 (mkF m 162 #[.val (.int p1), .val (.int p2), .val (.int p3), .val (.int p4), .val (.int p5), .val (.int p6), .val (.int v2), .val (.int v6), .val (.ref b8), .val (.ref b34), .val (.int (1 : Int32)), .unset, .unset] [(.ref b8)])
          refine own_by (fun t k => XS.iconst X105.here hx rfl (hb hby at_162) k) ?_
          show ORun p e below s _ _ _ T105 (mkF m 163 #[.val (.int p1), .val (.int p2), .val (.int p3), .val (.int p4), .val (.int p5), .val (.int p6), .val (.int v2), .val (.int v6), .val (.ref b8), .val (.ref b34), .val (.int (1 : Int32)), .unset, .unset] [(.int (4 : Int32)), (.ref b8)])
          refine own_iaload X105 hx hZ e105 ((V33.ext E34).other W105 ne_b8_b34) (i := 4) (by decide) (by omega) (hb hby at_163) ?_
          intro v124 hv124
          obtain rfl : v31 = v124 := hv124.symm
          show ORun p e below s _ _ _ T105 (mkF m 164 #[.val (.int p1), .val (.int p2), .val (.int p3), .val (.int p4), .val (.int p5), .val (.int p6), .val (.int v2), .val (.int v6), .val (.ref b8), .val (.ref b34), .val (.int (1 : Int32)), .unset, .unset] [(.int v31)])
          refine own_by (fun t k => XS.iload X105.here hx rfl (hb hby at_164) rfl k) ?_
          show ORun p e below s _ _ _ T105 (mkF m 166 #[.val (.int p1), .val (.int p2), .val (.int p3), .val (.int p4), .val (.int p5), .val (.int p6), .val (.int v2), .val (.int v6), .val (.ref b8), .val (.ref b34), .val (.int (1 : Int32)), .unset, .unset] [(.int v6), (.int v31)])
          by_cases hc125 : v31 = v6
          · have t125 := own_eq hc125 (a := v31.toInt) (b := v6.toInt) rfl rfl
            refine own_by (fun t k => XS.icmpNo X105.here hx rfl (hb hby at_166) rfl (teq hc125).2 k) ?_
            show ORun p e below s _ _ _ T105 (mkF m 169 #[.val (.int p1), .val (.int p2), .val (.int p3), .val (.int p4), .val (.int p5), .val (.int p6), .val (.int v2), .val (.int v6), .val (.ref b8), .val (.ref b34), .val (.int (1 : Int32)), .unset, .unset] [])
            refine own_by (fun t k => XS.aload X105.here hx rfl (hb hby at_169) rfl rfl k) ?_
            show ORun p e below s _ _ _ T105 (mkF m 171 #[.val (.int p1), .val (.int p2), .val (.int p3), .val (.int p4), .val (.int p5), .val (.int p6), .val (.int v2), .val (.int v6), .val (.ref b8), .val (.ref b34), .val (.int (1 : Int32)), .unset, .unset] [(.ref b34)])
            refine own_by (fun t k => XS.iload X105.here hx rfl (hb hby at_171) rfl k) ?_
            show ORun p e below s _ _ _ T105 (mkF m 173 #[.val (.int p1), .val (.int p2), .val (.int p3), .val (.int p4), .val (.int p5), .val (.int p6), .val (.int v2), .val (.int v6), .val (.ref b8), .val (.ref b34), .val (.int (1 : Int32)), .unset, .unset] [(.int (1 : Int32)), (.ref b34)])
            refine own_by (fun t k => XS.iconst X105.here hx rfl (hb hby at_173) k) ?_
            show ORun p e below s _ _ _ T105 (mkF m 174 #[.val (.int p1), .val (.int p2), .val (.int p3), .val (.int p4), .val (.int p5), .val (.int p6), .val (.int v2), .val (.int v6), .val (.ref b8), .val (.ref b34), .val (.int (1 : Int32)), .unset, .unset] [(.int (4 : Int32)), (.int (1 : Int32)), (.ref b34)])
            refine own_iastore X105 hx hZ e105 V105 (i := 1) (by decide) (by omega) (hb hby at_174) ?_
            intro T126 h126 L126 X126 e126 W126 hL126 V126
            have len126 : L126.length = 5 := by rw [hL126, List.length_set]; exact len105
            have N126 := Fr.snoc X126 N105 old_b34
            obtain rfl : [(1 : Int32), (4 : Int32), (0 : Int32), (0 : Int32), (0 : Int32)] = L126 := hL126.symm
            show ORun p e below s _ _ _ T126 (mkF m 175 #[.val (.int p1), .val (.int p2), .val (.int p3), .val (.int p4), .val (.int p5), .val (.int p6), .val (.int v2), .val (.int v6), .val (.ref b8), .val (.ref b34), .val (.int (1 : Int32)), .unset, .unset] [])
            refine own_by (fun t k => XS.iinc X126.here hx rfl (hb hby at_175) rfl (l' := #[.val (.int p1), .val (.int p2), .val (.int p3), .val (.int p4), .val (.int p5), .val (.int p6), .val (.int v2), .val (.int v6), .val (.ref b8), .val (.ref b34), .val (.int (2 : Int32)), .unset, .unset]) rfl k) ?_
            show ORun p e below s _ _ _ T126 (mkF m 178 #[.val (.int p1), .val (.int p2), .val (.int p3), .val (.int p4), .val (.int p5), .val (.int p6), .val (.int v2), .val (.int v6), .val (.ref b8), .val (.ref b34), .val (.int (2 : Int32)), .unset, .unset] [])
            exact LP35  T126 h126 _ ((2 : Int32)) ([v11, v16, v21, v26, v31]) ([(1 : Int32), (4 : Int32), (0 : Int32), (0 : Int32), (0 : Int32)])  X126 e126 N126 ((((((((((Keep.refl h0 []).ext E8).wr W13 (Or.inr sz_b8)).wr W18 (Or.inr sz_b8)).wr W23 (Or.inr sz_b8)).wr W28 (Or.inr sz_b8)).wr W33 (Or.inr sz_b8)).ext E34).wr W105 (Or.inr sz_b34)).wr W126 (Or.inr sz_b34)) (((V33.ext E34).other W105 ne_b8_b34).other W126 ne_b8_b34) len33 V126 len126 (by decide) (by rw [own_sel_eq, if_neg hc56, if_pos hc104, if_neg hc107, if_neg hc119, if_pos hc125]; rfl) rfl
          · have t125 := own_ne hc125 (a := v31.toInt) (b := v6.toInt) rfl rfl
            refine own_by (fun t k => XS.icmpYes X105.here hx rfl (pc0 := 166) (pc' := 178) rfl (hb hby at_166) rfl (feq hc125).2 (by decide) (by decide) k) ?_
            show ORun p e below s _ _ _ T105 (mkF m 178 #[.val (.int p1), .val (.int p2), .val (.int p3), .val (.int p4), .val (.int p5), .val (.int p6), .val (.int v2), .val (.int v6), .val (.ref b8), .val (.ref b34), .val (.int (1 : Int32)), .unset, .unset] [])
            exact LP35  T105 h105 _ ((1 : Int32)) ([v11, v16, v21, v26, v31]) ([(1 : Int32), (0 : Int32), (0 : Int32), (0 : Int32), (0 : Int32)])  X105 e105 N105 (((((((((Keep.refl h0 []).ext E8).wr W13 (Or.inr sz_b8)).wr W18 (Or.inr sz_b8)).wr W23 (Or.inr sz_b8)).wr W28 (Or.inr sz_b8)).wr W33 (Or.inr sz_b8)).ext E34).wr W105 (Or.inr sz_b34)) ((V33.ext E34).other W105 ne_b8_b34) len33 V105 len105 (by decide) (by rw [own_sel_eq, if_neg hc56, if_pos hc104, if_neg hc107, if_neg hc119, if_neg hc125]; rfl) rfl
    · have t104 := own_ne hc104 (a := v16.toInt) (b := v6.toInt) rfl rfl
      refine own_by (fun t k => XS.icmpYes X34.here hx rfl (pc0 := 112) (pc' := 124) rfl (hb hby at_112) rfl (feq hc104).2 (by decide) (by decide) k) ?_
      show ORun p e below s _ _ _ T34 (mkF m 124 #[.val (.int p1), .val (.int p2), .val (.int p3), .val (.int p4), .val (.int p5), .val (.int p6), .val (.int v2), .val (.int v6), .val (.ref b8), .val (.ref b34), .val (.int (0 : Int32)), .unset, .unset] [])
      refine own_by (fun t k => XS.aload X34.here hx rfl (hb hby at_124) rfl rfl k) ?_
      show ORun p e below s _ _ _ T34 (mkF m 126 #[.val (.int p1), .val (.int p2), .val (.int p3), .val (.int p4), .val (.int p5), .val (.int p6), .val (.int v2), .val (.int v6), .val (.ref b8), .val (.ref b34), .val (.int (0 : Int32)), .unset, .unset] [(.ref b8)])
      refine own_by (fun t k => XS.iconst X34.here hx rfl (hb hby at_126) k) ?_
      show ORun p e below s _ _ _ T34 (mkF m 127 #[.val (.int p1), .val (.int p2), .val (.int p3), .val (.int p4), .val (.int p5), .val (.int p6), .val (.int v2), .val (.int v6), .val (.ref b8), .val (.ref b34), .val (.int (0 : Int32)), .unset, .unset] [(.int (2 : Int32)), (.ref b8)])
      refine own_iaload X34 hx hZ e34 (V33.ext E34) (i := 2) (by decide) (by omega) (hb hby at_127) ?_
      intro v127 hv127
      obtain rfl : v21 = v127 := hv127.symm
      show ORun p e below s _ _ _ T34 (mkF m 128 #[.val (.int p1), .val (.int p2), .val (.int p3), .val (.int p4), .val (.int p5), .val (.int p6), .val (.int v2), .val (.int v6), .val (.ref b8), .val (.ref b34), .val (.int (0 : Int32)), .unset, .unset] [(.int v21)])
      refine own_by (fun t k => XS.iload X34.here hx rfl (hb hby at_128) rfl k) ?_
      show ORun p e below s _ _ _ T34 (mkF m 130 #[.val (.int p1), .val (.int p2), .val (.int p3), .val (.int p4), .val (.int p5), .val (.int p6), .val (.int v2), .val (.int v6), .val (.ref b8), .val (.ref b34), .val (.int (0 : Int32)), .unset, .unset] [(.int v6), (.int v21)])
      by_cases hc128 : v21 = v6
      · have t128 := own_eq hc128 (a := v21.toInt) (b := v6.toInt) rfl rfl
        refine own_by (fun t k => XS.icmpNo X34.here hx rfl (hb hby at_130) rfl (teq hc128).2 k) ?_
        show ORun p e below s _ _ _ T34 (mkF m 133 #[.val (.int p1), .val (.int p2), .val (.int p3), .val (.int p4), .val (.int p5), .val (.int p6), .val (.int v2), .val (.int v6), .val (.ref b8), .val (.ref b34), .val (.int (0 : Int32)), .unset, .unset] [])
        refine own_by (fun t k => XS.aload X34.here hx rfl (hb hby at_133) rfl rfl k) ?_
        show ORun p e below s _ _ _ T34 (mkF m 135 #[.val (.int p1), .val (.int p2), .val (.int p3), .val (.int p4), .val (.int p5), .val (.int p6), .val (.int v2), .val (.int v6), .val (.ref b8), .val (.ref b34), .val (.int (0 : Int32)), .unset, .unset] [(.ref b34)])
        refine own_by (fun t k => XS.iload X34.here hx rfl (hb hby at_135) rfl k) ?_
        show ORun p e below s _ _ _ T34 (mkF m 137 #[.val (.int p1), .val (.int p2), .val (.int p3), .val (.int p4), .val (.int p5), .val (.int p6), .val (.int v2), .val (.int v6), .val (.ref b8), .val (.ref b34), .val (.int (0 : Int32)), .unset, .unset] [(.int (0 : Int32)), (.ref b34)])
        refine own_by (fun t k => XS.iconst X34.here hx rfl (hb hby at_137) k) ?_
        show ORun p e below s _ _ _ T34 (mkF m 138 #[.val (.int p1), .val (.int p2), .val (.int p3), .val (.int p4), .val (.int p5), .val (.int p6), .val (.int v2), .val (.int v6), .val (.ref b8), .val (.ref b34), .val (.int (0 : Int32)), .unset, .unset] [(.int (2 : Int32)), (.int (0 : Int32)), (.ref b34)])
        refine own_iastore X34 hx hZ e34 V34 (i := 0) (by decide) (by omega) (hb hby at_138) ?_
        intro T129 h129 L129 X129 e129 W129 hL129 V129
        have len129 : L129.length = 5 := by rw [hL129, List.length_set]; exact len34
        have N129 := Fr.snoc X129 N33 old_b34
        obtain rfl : [(2 : Int32), (0 : Int32), (0 : Int32), (0 : Int32), (0 : Int32)] = L129 := hL129.symm
        show ORun p e below s _ _ _ T129 (mkF m 139 #[.val (.int p1), .val (.int p2), .val (.int p3), .val (.int p4), .val (.int p5), .val (.int p6), .val (.int v2), .val (.int v6), .val (.ref b8), .val (.ref b34), .val (.int (0 : Int32)), .unset, .unset] [])
        refine own_by (fun t k => XS.iinc X129.here hx rfl (hb hby at_139) rfl (l' := #[.val (.int p1), .val (.int p2), .val (.int p3), .val (.int p4), .val (.int p5), .val (.int p6), .val (.int v2), .val (.int v6), .val (.ref b8), .val (.ref b34), .val (.int (1 : Int32)), .unset, .unset]) rfl k) ?_
        show ORun p e below s _ _ _ T129 (mkF m 142 #[.val (.int p1), .val (.int p2), .val (.int p3), .val (.int p4), .val (.int p5), .val (.int p6), .val (.int v2), .val (.int v6), .val (.ref b8), .val (.ref b34), .val (.int (1 : Int32)), .unset, .unset] [])
        refine own_by (fun t k => XS.aload X129.here hx rfl (hb hby at_142) rfl rfl k) ?_
        show ORun p e below s _ _ _ T129 (mkF m 144 #[.val (.int p1), .val (.int p2), .val (.int p3), .val (.int p4), .val (.int p5), .val (.int p6), .val (.int v2), .val (.int v6), .val (.ref b8), .val (.ref b34), .val (.int (1 : Int32)), .unset, .unset] [(.ref b8)])
        refine own_by (fun t k => XS.iconst X129.here hx rfl (hb hby at_144) k) ?_
        show ORun p e below s _ _ _ T129 (mkF m 145 #[.val (.int p1), .val (.int p2), .val (.int p3), .val (.int p4), .val (.int p5), .val (.int p6), .val (.int v2), .val (.int v6), .val (.ref b8), .val (.ref b34), .val (.int (1 : Int32)), .unset, .unset] [(.int (3 : Int32)), (.ref b8)])
        refine own_iaload X129 hx hZ e129 ((V33.ext E34).other W129 ne_b8_b34) (i := 3) (by decide) (by omega) (hb hby at_145) ?_
        intro v130 hv130
        obtain rfl : v26 = v130 := hv130.symm
        show ORun p e below s _ _ _ T129 (mkF m 146 #[.val (.int p1), .val (.int p2), .val (.int p3), .val (.int p4), .val (.int p5), .val (.int p6), .val (.int v2), .val (.int v6), .val (.ref b8), .val (.ref b34), .val (.int (1 : Int32)), .unset, .unset] [(.int v26)])
        refine own_by (fun t k => XS.iload X129.here hx rfl (hb hby at_146) rfl k) ?_
        show ORun p e below s _ _ _ T129 (mkF m 148 #[.val (.int p1), .val (.int p2), .val (.int p3), .val (.int p4), .val (.int p5), .val (.int p6), .val (.int v2), .val (.int v6), .val (.ref b8), .val (.ref b34), .val (.int (1 : Int32)), .unset, .unset] [(.int v6), (.int v26)])
        by_cases hc131 : v26 = v6
        · have t131 := own_eq hc131 (a := v26.toInt) (b := v6.toInt) rfl rfl
          refine own_by (fun t k => XS.icmpNo X129.here hx rfl (hb hby at_148) rfl (teq hc131).2 k) ?_
          show ORun p e below s _ _ _ T129 (mkF m 151 #[.val (.int p1), .val (.int p2), .val (.int p3), .val (.int p4), .val (.int p5), .val (.int p6), .val (.int v2), .val (.int v6), .val (.ref b8), .val (.ref b34), .val (.int (1 : Int32)), .unset, .unset] [])
          refine own_by (fun t k => XS.aload X129.here hx rfl (hb hby at_151) rfl rfl k) ?_
          show ORun p e below s _ _ _ T129 (mkF m 153 #[.val (.int p1), .val (.int p2), .val (.int p3), .val (.int p4), .val (.int p5), .val (.int p6), .val (.int v2), .val (.int v6), .val (.ref b8), .val (.ref b34), .val (.int (1 : Int32)), .unset, .unset] [(.ref b34)])
          refine own_by (fun t k => XS.iload X129.here hx rfl (hb hby at_153) rfl k) ?_
          show ORun p e below s _ _ _ T129 (mkF m 155 #[.val (.int p1), .val (.int p2), .val (.int p3), .val (.int p4), .val (.int p5), .val (.int p6), .val (.int v2), .val (.int v6), .val (.ref b8), .val (.ref b34), .val (.int (1 : Int32)), .unset, .unset] [(.int (1 : Int32)), (.ref b34)])
          refine own_by (fun t k => XS.iconst X129.here hx rfl (hb hby at_155) k) ?_
          show ORun p e below s _ _ _ T129 (mkF m 156 #[.val (.int p1), .val (.int p2), .val (.int p3), .val (.int p4), .val (.int p5), .val (.int p6), .val (.int v2), .val (.int v6), .val (.ref b8), .val (.ref b34), .val (.int (1 : Int32)), .unset, .unset] [(.int (3 : Int32)), (.int (1 : Int32)), (.ref b34)])
          refine own_iastore X129 hx hZ e129 V129 (i := 1) (by decide) (by omega) (hb hby at_156) ?_
          intro T132 h132 L132 X132 e132 W132 hL132 V132
          have len132 : L132.length = 5 := by rw [hL132, List.length_set]; exact len129
          have N132 := Fr.snoc X132 N129 old_b34
          obtain rfl : [(2 : Int32), (3 : Int32), (0 : Int32), (0 : Int32), (0 : Int32)] = L132 := hL132.symm
          show ORun p e below s _ _ _ T132 (mkF m 157 #[.val (.int p1), .val (.int p2), .val (.int p3), .val (.int p4), .val (.int p5), .val (.int p6), .val (.int v2), .val (.int v6), .val (.ref b8), .val (.ref b34), .val (.int (1 : Int32)), .unset, .unset] [])
          refine own_by (fun t k => XS.iinc X132.here hx rfl (hb hby at_157) rfl (l' := #[.val (.int p1), .val (.int p2), .val (.int p3), .val (.int p4), .val (.int p5), .val (.int p6), .val (.int v2), .val (.int v6), .val (.ref b8), .val (.ref b34), .val (.int (2 : Int32)), .unset, .unset]) rfl k) ?_
          show ORun p e below s _ _ _ T132 (mkF m 160 #[.val (.int p1), .val (.int p2), .val (.int p3), .val (.int p4), .val (.int p5), .val (.int p6), .val (.int v2), .val (.int v6), .val (.ref b8), .val (.ref b34), .val (.int (2 : Int32)), .unset, .unset] [])
          refine own_by (fun t k => XS.aload X132.here hx rfl (hb hby at_160) rfl rfl k) ?_
          show ORun p e below s _ _ _ T132 (mkF m 162 #[.val (.int p1), .val (.int p2), .val (.int p3), .val (.int p4), .val (.int p5), .val (.int p6), .val (.int v2), .val (.int v6), .val (.ref b8), .val (.ref b34), .val (.int (2 : Int32)), .unset, .unset] [(.ref b8)])
          refine own_by (fun t k => XS.iconst X132.here hx rfl (hb hby at_162) k) ?_
          show ORun p e below s _ _ _ T132 (mkF m 163 #[.val (.int p1), .val (.int p2), .val (.int p3), .val (.int p4), .val (.int p5), .val (.int p6), .val (.int v2), .val (.int v6), .val (.ref b8), .val (.ref b34), .val (.int (2 : Int32)), .unset, .unset] [(.int (4 : Int32)), (.ref b8)])
          refine own_iaload X132 hx hZ e132 (((V33.ext E34).other W129 ne_b8_b34).other W132 ne_b8_b34) (i := 4) (by decide) (by omega) (hb hby at_163) ?_
          intro v133 hv133
          obtain rfl : v31 = v133 := hv133.symm
          show ORun p e below s _ _ _ T132 (mkF m 164 #[.val (.int p1), .val (.int p2), .val (.int p3), .val (.int p4), .val (.int p5), .val (.int p6), .val (.int v2), .val (.int v6), .val (.ref b8), .val (.ref b34), .val (.int (2 : Int32)), .unset, .unset] [(.int v31)])
          refine own_by (fun t k => XS.iload X132.here hx rfl (hb hby at_164) rfl k) ?_
          show ORun p e below s _ _ _ T132 (mkF m 166 #[.val (.int p1), .val (.int p2), .val (.int p3), .val (.int p4), .val (.int p5), .val (.int p6), .val (.int v2), .val (.int v6), .val (.ref b8), .val (.ref b34), .val (.int (2 : Int32)), .unset, .unset] [(.int v6), (.int v31)])
          by_cases hc134 : v31 = v6
          · have t134 := own_eq hc134 (a := v31.toInt) (b := v6.toInt) rfl rfl
            refine own_by (fun t k => XS.icmpNo X132.here hx rfl (hb hby at_166) rfl (teq hc134).2 k) ?_
            show ORun p e below s _ _ _ T132 (mkF m 169 #[.val (.int p1), .val (.int p2), .val (.int p3), .val (.int p4), .val (.int p5), .val (.int p6), .val (.int v2), .val (.int v6), .val (.ref b8), .val (.ref b34), .val (.int (2 : Int32)), .unset, .unset] [])
            refine own_by (fun t k => XS.aload X132.here hx rfl (hb hby at_169) rfl rfl k) ?_
            show ORun p e below s _ _ _ T132 (mkF m 171 #[.val (.int p1), .val (.int p2), .val (.int p3), .val (.int p4), .val (.int p5), .val (.int p6), .val (.int v2), .val (.int v6), .val (.ref b8), .val (.ref b34), .val (.int (2 : Int32)), .unset, .unset] [(.ref b34)])
            refine own_by (fun t k => XS.iload X132.here hx rfl (hb hby at_171) rfl k) ?_
            show ORun p e below s _ _ _ T132 (mkF m 173 #[.val (.int p1), .val (.int p2), .val (.int p3), .val (.int p4), .val (.int p5), .val (.int p6), .val (.int v2), .val (.int v6), .val (.ref b8), .val (.ref b34), .val (.int (2 : Int32)), .unset, .unset] [(.int (2 : Int32)), (.ref b34)])
            refine own_by (fun t k => XS.iconst X132.here hx rfl (hb hby at_173) k) ?_
            show ORun p e below s _ _ _ T132 (mkF m 174 #[.val (.int p1), .val (.int p2), .val (.int p3), .val (.int p4), .val (.int p5), .val (.int p6), .val (.int v2), .val (.int v6), .val (.ref b8), .val (.ref b34), .val (.int (2 : Int32)), .unset, .unset] [(.int (4 : Int32)), (.int (2 : Int32)), (.ref b34)])
            refine own_iastore X132 hx hZ e132 V132 (i := 2) (by decide) (by omega) (hb hby at_174) ?_
            intro T135 h135 L135 X135 e135 W135 hL135 V135
            have len135 : L135.length = 5 := by rw [hL135, List.length_set]; exact len132
            have N135 := Fr.snoc X135 N132 old_b34
            obtain rfl : [(2 : Int32), (3 : Int32), (4 : Int32), (0 : Int32), (0 : Int32)] = L135 := hL135.symm
            show ORun p e below s _ _ _ T135 (mkF m 175 #[.val (.int p1), .val (.int p2), .val (.int p3), .val (.int p4), .val (.int p5), .val (.int p6), .val (.int v2), .val (.int v6), .val (.ref b8), .val (.ref b34), .val (.int (2 : Int32)), .unset, .unset] [])
            refine own_by (fun t k => XS.iinc X135.here hx rfl (hb hby at_175) rfl (l' := #[.val (.int p1), .val (.int p2), .val (.int p3), .val (.int p4), .val (.int p5), .val (.int p6), .val (.int v2), .val (.int v6), .val (.ref b8), .val (.ref b34), .val (.int (3 : Int32)), .unset, .unset]) rfl k) ?_
            show ORun p e below s _ _ _ T135 (mkF m 178 #[.val (.int p1), .val (.int p2), .val (.int p3), .val (.int p4), .val (.int p5), .val (.int p6), .val (.int v2), .val (.int v6), .val (.ref b8), .val (.ref b34), .val (.int (3 : Int32)), .unset, .unset] [])
            exact LP35  T135 h135 _ ((3 : Int32)) ([v11, v16, v21, v26, v31]) ([(2 : Int32), (3 : Int32), (4 : Int32), (0 : Int32), (0 : Int32)])  X135 e135 N135 (((((((((((Keep.refl h0 []).ext E8).wr W13 (Or.inr sz_b8)).wr W18 (Or.inr sz_b8)).wr W23 (Or.inr sz_b8)).wr W28 (Or.inr sz_b8)).wr W33 (Or.inr sz_b8)).ext E34).wr W129 (Or.inr sz_b34)).wr W132 (Or.inr sz_b34)).wr W135 (Or.inr sz_b34)) ((((V33.ext E34).other W129 ne_b8_b34).other W132 ne_b8_b34).other W135 ne_b8_b34) len33 V135 len135 (by decide) (by rw [own_sel_eq, if_neg hc56, if_neg hc104, if_pos hc128, if_pos hc131, if_pos hc134]; rfl) rfl
          · have t134 := own_ne hc134 (a := v31.toInt) (b := v6.toInt) rfl rfl
            refine own_by (fun t k => XS.icmpYes X132.here hx rfl (pc0 := 166) (pc' := 178) rfl (hb hby at_166) rfl (feq hc134).2 (by decide) (by decide) k) ?_
            show ORun p e below s _ _ _ T132 (mkF m 178 #[.val (.int p1), .val (.int p2), .val (.int p3), .val (.int p4), .val (.int p5), .val (.int p6), .val (.int v2), .val (.int v6), .val (.ref b8), .val (.ref b34), .val (.int (2 : Int32)), .unset, .unset] [])
            exact LP35  T132 h132 _ ((2 : Int32)) ([v11, v16, v21, v26, v31]) ([(2 : Int32), (3 : Int32), (0 : Int32), (0 : Int32), (0 : Int32)])  X132 e132 N132 ((((((((((Keep.refl h0 []).ext E8).wr W13 (Or.inr sz_b8)).wr W18 (Or.inr sz_b8)).wr W23 (Or.inr sz_b8)).wr W28 (Or.inr sz_b8)).wr W33 (Or.inr sz_b8)).ext E34).wr W129 (Or.inr sz_b34)).wr W132 (Or.inr sz_b34)) (((V33.ext E34).other W129 ne_b8_b34).other W132 ne_b8_b34) len33 V132 len132 (by decide) (by rw [own_sel_eq, if_neg hc56, if_neg hc104, if_pos hc128, if_pos hc131, if_neg hc134]; rfl) rfl
        · have t131 := own_ne hc131 (a := v26.toInt) (b := v6.toInt) rfl rfl
          refine own_by (fun t k => XS.icmpYes X129.here hx rfl (pc0 := 148) (pc' := 160) rfl (hb hby at_148) rfl (feq hc131).2 (by decide) (by decide) k) ?_
          show ORun p e below s _ _ _ T129 (mkF m 160 #[.val (.int p1), .val (.int p2), .val (.int p3), .val (.int p4), .val (.int p5), .val (.int p6), .val (.int v2), .val (.int v6), .val (.ref b8), .val (.ref b34), .val (.int (1 : Int32)), .unset, .unset] [])
          refine own_by (fun t k => XS.aload X129.here hx rfl (hb hby at_160) rfl rfl k) ?_
          show ORun p e below s _ _ _ T129 (mkF m 162 #[.val (.int p1), .val (.int p2), .val (.int p3), .val (.int p4), .val (.int p5), .val (.int p6), .val (.int v2), .val (.int v6), .val (.ref b8), .val (.ref b34), .val (.int (1 : Int32)), .unset, .unset] [(.ref b8)])
          refine own_by (fun t k => XS.iconst X129.here hx rfl (hb hby at_162) k) ?_
          show ORun p e below s _ _ _ T129 (mkF m 163 #[.val (.int p1), .val (.int p2), .val (.int p3), .val (.int p4), .val (.int p5), .val (.int p6), .val (.int v2), .val (.int v6), .val (.ref b8), .val (.ref b34), .val (.int (1 : Int32)), .unset, .unset] [(.int (4 : Int32)), (.ref b8)])
          refine own_iaload X129 hx hZ e129 ((V33.ext E34).other W129 ne_b8_b34) (i := 4) (by decide) (by omega) (hb hby at_163) ?_
          intro v136 hv136
          obtain rfl : v31 = v136 := hv136.symm
          show ORun p e below s _ _ _ T129 (mkF m 164 #[.val (.int p1), .val (.int p2), .val (.int p3), .val (.int p4), .val (.int p5), .val (.int p6), .val (.int v2), .val (.int v6), .val (.ref b8), .val (.ref b34), .val (.int (1 : Int32)), .unset, .unset] [(.int v31)])
          refine own_by (fun t k => XS.iload X129.here hx rfl (hb hby at_164) rfl k) ?_
          show ORun p e below s _ _ _ T129 (mkF m 166 #[.val (.int p1), .val (.int p2), .val (.int p3), .val (.int p4), .val (.int p5), .val (.int p6), .val (.int v2), .val (.int v6), .val (.ref b8), .val (.ref b34), .val (.int (1 : Int32)), .unset, .unset] [(.int v6), (.int v31)])
          by_cases hc137 : v31 = v6
          · have t137 := own_eq hc137 (a := v31.toInt) (b := v6.toInt) rfl rfl
            refine own_by (fun t k => XS.icmpNo X129.here hx rfl (hb hby at_166) rfl (teq hc137).2 k) ?_
            show ORun p e below s _ _ _ T129 (mkF m 169 #[.val (.int p1), .val (.int p2), .val (.int p3), .val (.int p4), .val (.int p5), .val (.int p6), .val (.int v2), .val (.int v6), .val (.ref b8), .val (.ref b34), .val (.int (1 : Int32)), .unset, .unset] [])
            refine own_by (fun t k => XS.aload X129.here hx rfl (hb hby at_169) rfl rfl k) ?_
            show ORun p e below s _ _ _ T129 (mkF m 171 #[.val (.int p1), .val (.int p2), .val (.int p3), .val (.int p4), .val (.int p5), .val (.int p6), .val (.int v2), .val (.int v6), .val (.ref b8), .val (.ref b34), .val (.int (1 : Int32)), .unset, .unset] [(.ref b34)])
            refine own_by (fun t k => XS.iload X129.here hx rfl (hb hby at_171) rfl k) ?_
            show ORun p e below s _ _ _ T129 (mkF m 173 #[.val (.int p1), .val (.int p2), .val (.int p3), .val (.int p4), .val (.int p5), .val (.int p6), .val (.int v2), .val (.int v6), .val (.ref b8), .val (.ref b34), .val (.int (1 : Int32)), .unset, .unset] [(.int (1 : Int32)), (.ref b34)])
            refine own_by (fun t k => XS.iconst X129.here hx rfl (hb hby at_173) k) ?_
            show ORun p e below s _ _ _ T129 (mkF m 174 #[.val (.int p1), .val (.int p2), .val (.int p3), .val (.int p4), .val (.int p5), .val (.int p6), .val (.int v2), .val (.int v6), .val (.ref b8), .val (.ref b34), .val (.int (1 : Int32)), .unset, .unset] [(.int (4 : Int32)), (.int (1 : Int32)), (.ref b34)])
            refine own_iastore X129 hx hZ e129 V129 (i := 1) (by decide) (by omega) (hb hby at_174) ?_
            intro T138 h138 L138 X138 e138 W138 hL138 V138
            have len138 : L138.length = 5 := by rw [hL138, List.length_set]; exact len129
            have N138 := Fr.snoc X138 N129 old_b34
            obtain rfl : [(2 : Int32), (4 : Int32), (0 : Int32), (0 : Int32), (0 : Int32)] = L138 := hL138.symm
            show ORun p e below s _ _ _ T138 (mkF m 175 #[.val (.int p1), .val (.int p2), .val (.int p3), .val (.int p4), .val (.int p5), .val (.int p6), .val (.int v2), .val (.int v6), .val (.ref b8), .val (.ref b34), .val (.int (1 : Int32)), .unset, .unset] [])
            refine own_by (fun t k => XS.iinc X138.here hx rfl (hb hby at_175) rfl (l' := #[.val (.int p1), .val (.int p2), .val (.int p3), .val (.int p4), .val (.int p5), .val (.int p6), .val (.int v2), .val (.int v6), .val (.ref b8), .val (.ref b34), .val (.int (2 : Int32)), .unset, .unset]) rfl k) ?_
            show ORun p e below s _ _ _ T138 (mkF m 178 #[.val (.int p1), .val (.int p2), .val (.int p3), .val (.int p4), .val (.int p5), .val (.int p6), .val (.int v2), .val (.int v6), .val (.ref b8), .val (.ref b34), .val (.int (2 : Int32)), .unset, .unset] [])
            exact LP35  T138 h138 _ ((2 : Int32)) ([v11, v16, v21, v26, v31]) ([(2 : Int32), (4 : Int32), (0 : Int32), (0 : Int32), (0 : Int32)])  X138 e138 N138 ((((((((((Keep.refl h0 []).ext E8).wr W13 (Or.inr sz_b8)).wr W18 (Or.inr sz_b8)).wr W23 (Or.inr sz_b8)).wr W28 (Or.inr sz_b8)).wr W33 (Or.inr sz_b8)).ext E34).wr W129 (Or.inr sz_b34)).wr W138 (Or.inr sz_b34)) (((V33.ext E34).other W129 ne_b8_b34).other W138 ne_b8_b34) len33 V138 len138 (by decide) (by rw [own_sel_eq, if_neg hc56, if_neg hc104, if_pos hc128, if_neg hc131, if_pos hc137]; rfl) rfl
          · have t137 := own_ne hc137 (a := v31.toInt) (b := v6.toInt) rfl rfl
            refine own_by (fun t k => XS.icmpYes X129.here hx rfl (pc0 := 166) (pc' := 178) rfl (hb hby at_166) rfl (feq hc137).2 (by decide) (by decide) k) ?_
            show ORun p e below s _ _ _ T129 (mkF m 178 #[.val (.int p1), .val (.int p2), .val (.int p3), .val (.int p4), .val (.int p5), .val (.int p6), .val (.int v2), .val (.int v6), .val (.ref b8), .val (.ref b34), .val (.int (1 : Int32)), .unset, .unset] [])
            exact LP35  T129 h129 _ ((1 : Int32)) ([v11, v16, v21, v26, v31]) ([(2 : Int32), (0 : Int32), (0 : Int32), (0 : Int32), (0 : Int32)])  X129 e129 N129 (((((((((Keep.refl h0 []).ext E8).wr W13 (Or.inr sz_b8)).wr W18 (Or.inr sz_b8)).wr W23 (Or.inr sz_b8)).wr W28 (Or.inr sz_b8)).wr W33 (Or.inr sz_b8)).ext E34).wr W129 (Or.inr sz_b34)) ((V33.ext E34).other W129 ne_b8_b34) len33 V129 len129 (by decide) (by rw [own_sel_eq, if_neg hc56, if_neg hc104, if_pos hc128, if_neg hc131, if_neg hc137]; rfl) rfl
      · have t128 := own_ne hc128 (a := v21.toInt) (b := v6.toInt) rfl rfl
        refine own_by (fun t k => XS.icmpYes X34.here hx rfl (pc0 := 130) (pc' := 142) rfl (hb hby at_130) rfl (feq hc128).2 (by decide) (by decide) k) ?_
        show ORun p e below s _ _ _ T34 (mkF m 142 #[.val (.int p1), .val (.int p2), .val (.int p3), .val (.int p4), .val (.int p5), .val (.int p6), .val (.int v2), .val (.int v6), .val (.ref b8), .val (.ref b34), .val (.int (0 : Int32)), .unset, .unset] [])
        refine own_by (fun t k => XS.aload X34.here hx rfl (hb hby at_142) rfl rfl k) ?_
        show ORun p e below s _ _ _ T34 (mkF m 144 #[.val (.int p1), .val (.int p2), .val (.int p3), .val (.int p4), .val (.int p5), .val (.int p6), .val (.int v2), .val (.int v6), .val (.ref b8), .val (.ref b34), .val (.int (0 : Int32)), .unset, .unset] [(.ref b8)])
        refine own_by (fun t k => XS.iconst X34.here hx rfl (hb hby at_144) k) ?_
        show ORun p e below s _ _ _ T34 (mkF m 145 #[.val (.int p1), .val (.int p2), .val (.int p3), .val (.int p4), .val (.int p5), .val (.int p6), .val (.int v2), .val (.int v6), .val (.ref b8), .val (.ref b34), .val (.int (0 : Int32)), .unset, .unset] [(.int (3 : Int32)), (.ref b8)])
        refine own_iaload X34 hx hZ e34 (V33.ext E34) (i := 3) (by decide) (by omega) (hb hby at_145) ?_
        intro v139 hv139
        obtain rfl : v26 = v139 := hv139.symm
        show ORun p e below s _ _ _ T34 (mkF m 146 #[.val (.int p1), .val (.int p2), .val (.int p3), .val (.int p4), .val (.int p5), .val (.int p6), .val (.int v2), .val (.int v6), .val (.ref b8), .val (.ref b34), .val (.int (0 : Int32)), .unset, .unset] [(.int v26)])
        refine own_by (fun t k => XS.iload X34.here hx rfl (hb hby at_146) rfl k) ?_
        show ORun p e below s _ _ _ T34 (mkF m 148 #[.val (.int p1), .val (.int p2), .val (.int p3), .val (.int p4), .val (.int p5), .val (.int p6), .val (.int v2), .val (.int v6), .val (.ref b8), .val (.ref b34), .val (.int (0 : Int32)), .unset, .unset] [(.int v6), (.int v26)])
        by_cases hc140 : v26 = v6
        · have t140 := own_eq hc140 (a := v26.toInt) (b := v6.toInt) rfl rfl
          refine own_by (fun t k => XS.icmpNo X34.here hx rfl (hb hby at_148) rfl (teq hc140).2 k) ?_
          show ORun p e below s _ _ _ T34 (mkF m 151 #[.val (.int p1), .val (.int p2), .val (.int p3), .val (.int p4), .val (.int p5), .val (.int p6), .val (.int v2), .val (.int v6), .val (.ref b8), .val (.ref b34), .val (.int (0 : Int32)), .unset, .unset] [])
          refine own_by (fun t k => XS.aload X34.here hx rfl (hb hby at_151) rfl rfl k) ?_
          show ORun p e below s _ _ _ T34 (mkF m 153 #[.val (.int p1), .val (.int p2), .val (.int p3), .val (.int p4), .val (.int p5), .val (.int p6), .val (.int v2), .val (.int v6), .val (.ref b8), .val (.ref b34), .val (.int (0 : Int32)), .unset, .unset] [(.ref b34)])
          refine own_by (fun t k => XS.iload X34.here hx rfl (hb hby at_153) rfl k) ?_
          show ORun p e below s _ _ _ T34 (mkF m 155 #[.val (.int p1), .val (.int p2), .val (.int p3), .val (.int p4), .val (.int p5), .val (.int p6), .val (.int v2), .val (.int v6), .val (.ref b8), .val (.ref b34), .val (.int (0 : Int32)), .unset, .unset] [(.int (0 : Int32)), (.ref b34)])
          refine own_by (fun t k => XS.iconst X34.here hx rfl (hb hby at_155) k) ?_
          show ORun p e below s _ _ _ T34 (mkF m 156 #[.val (.int p1), .val (.int p2), .val (.int p3), .val (.int p4), .val (.int p5), .val (.int p6), .val (.int v2), .val (.int v6), .val (.ref b8), .val (.ref b34), .val (.int (0 : Int32)), .unset, .unset] [(.int (3 : Int32)), (.int (0 : Int32)), (.ref b34)])
          refine own_iastore X34 hx hZ e34 V34 (i := 0) (by decide) (by omega) (hb hby at_156) ?_
          intro T141 h141 L141 X141 e141 W141 hL141 V141
          have len141 : L141.length = 5 := by rw [hL141, List.length_set]; exact len34
          have N141 := Fr.snoc X141 N33 old_b34
          obtain rfl : [(3 : Int32), (0 : Int32), (0 : Int32), (0 : Int32), (0 : Int32)] = L141 := hL141.symm
          show ORun p e below s _ _ _ T141 (mkF m 157 #[.val (.int p1), .val (.int p2), .val (.int p3), .val (.int p4), .val (.int p5), .val (.int p6), .val (.int v2), .val (.int v6), .val (.ref b8), .val (.ref b34), .val (.int (0 : Int32)), .unset, .unset] [])
          refine own_by (fun t k => XS.iinc X141.here hx rfl (hb hby at_157) rfl (l' := #[.val (.int p1), .val (.int p2), .val (.int p3), .val (.int p4), .val (.int p5), .val (.int p6), .val (.int v2), .val (.int v6), .val (.ref b8), .val (.ref b34), .val (.int (1 : Int32)), .unset, .unset]) rfl k) ?_
          show ORun p e below s _ _ _ T141 (mkF m 160 #[.val (.int p1), .val (.int p2), .val (.int p3), .val (.int p4), .val (.int p5), .val (.int p6), .val (.int v2), .val (.int v6), .val (.ref b8), .val (.ref b34), .val (.int (1 : Int32)), .unset, .unset] [])
          refine own_by (fun t k => XS.aload X141.here hx rfl (hb hby at_160) rfl rfl k) ?_
          show ORun p e below s _ _ _ T141 (mkF m 162 #[.val (.int p1), .val (.int p2), .val (.int p3), .val (.int p4), .val (.int p5), .val (.int p6), .val (.int v2), .val (.int v6), .val (.ref b8), .val (.ref b34), .val (.int (1 : Int32)), .unset, .unset] [(.ref b8)])
          refine own_by (fun t k => XS.iconst X141.here hx rfl (hb hby at_162) k) ?_
          show ORun p e below s _ _ _ T141 (mkF m 163 #[.val (.int p1), .val (.int p2), .val (.int p3), .val (.int p4), .val (.int p5), .val (.int p6), .val (.int v2), .val (.int v6), .val (.ref b8), .val (.ref b34), .val (.int (1 : Int32)), .unset, .unset] [(.int (4 : Int32)), (.ref b8)])
          refine own_iaload X141 hx hZ e141 ((V33.ext E34).other W141 ne_b8_b34) (i := 4) (by decide) (by omega) (hb hby at_163) ?_
          intro v142 hv142
          obtain rfl : v31 = v142 := hv142.symm
          show ORun p e below s _ _ _ T141 (mkF m 164 #[.val (.int p1), .val (.int p2), .val (.int p3), .val (.int p4), .val (.int p5), .val (.int p6), .val (.int v2), .val (.int v6), .val (.ref b8), .val (.ref b34), .val (.int (1 : Int32)), .unset, .unset] [(.int v31)])
          refine own_by (fun t k => XS.iload X141.here hx rfl (hb hby at_164) rfl k) ?_
          show ORun p e below s _ _ _ T141 (mkF m 166 #[.val (.int p1), .val (.int p2), .val (.int p3), .val (.int p4), .val (.int p5), .val (.int p6), .val (.int v2), .val (.int v6), .val (.ref b8), .val (.ref b34), .val (.int (1 : Int32)), .unset, .unset] [(.int v6), (.int v31)])
          by_cases hc143 : v31 = v6
          · have t143 := own_eq hc143 (a := v31.toInt) (b := v6.toInt) rfl rfl
            refine own_by (fun t k => XS.icmpNo X141.here hx rfl (hb hby at_166) rfl (teq hc143).2 k) ?_
            show ORun p e below s _ _ _ T141 (mkF m 169 #[.val (.int p1), .val (.int p2), .val (.int p3), .val (.int p4), .val (.int p5), .val (.int p6), .val (.int v2), .val (.int v6), .val (.ref b8), .val (.ref b34), .val (.int (1 : Int32)), .unset, .unset] [])
            refine own_by (fun t k => XS.aload X141.here hx rfl (hb hby at_169) rfl rfl k) ?_
            show ORun p e below s _ _ _ T141 (mkF m 171 #[.val (.int p1), .val (.int p2), .val (.int p3), .val (.int p4), .val (.int p5), .val (.int p6), .val (.int v2), .val (.int v6), .val (.ref b8), .val (.ref b34), .val (.int (1 : Int32)), .unset, .unset] [(.ref b34)])
            refine own_by (fun t k => XS.iload X141.here hx rfl (hb hby at_171) rfl k) ?_
            show ORun p e below s _ _ _ T141 (mkF m 173 #[.val (.int p1), .val (.int p2), .val (.int p3), .val (.int p4), .val (.int p5), .val (.int p6), .val (.int v2), .val (.int v6), .val (.ref b8), .val (.ref b34), .val (.int (1 : Int32)), .unset, .unset] [(.int (1 : Int32)), (.ref b34)])
            refine own_by (fun t k => XS.iconst X141.here hx rfl (hb hby at_173) k) ?_
            show ORun p e below s _ _ _ T141 (mkF m 174 #[.val (.int p1), .val (.int p2), .val (.int p3), .val (.int p4), .val (.int p5), .val (.int p6), .val (.int v2), .val (.int v6), .val (.ref b8), .val (.ref b34), .val (.int (1 : Int32)), .unset, .unset] [(.int (4 : Int32)), (.int (1 : Int32)), (.ref b34)])
            refine own_iastore X141 hx hZ e141 V141 (i := 1) (by decide) (by omega) (hb hby at_174) ?_
            intro T144 h144 L144 X144 e144 W144 hL144 V144
            have len144 : L144.length = 5 := by rw [hL144, List.length_set]; exact len141
            have N144 := Fr.snoc X144 N141 old_b34
            obtain rfl : [(3 : Int32), (4 : Int32), (0 : Int32), (0 : Int32), (0 : Int32)] = L144 := hL144.symm
            show ORun p e below s _ _ _ T144 (mkF m 175 #[.val (.int p1), .val (.int p2), .val (.int p3), .val (.int p4), .val (.int p5), .val (.int p6), .val (.int v2), .val (.int v6), .val (.ref b8), .val (.ref b34), .val (.int (1 : Int32)), .unset, .unset] [])
            refine own_by (fun t k => XS.iinc X144.here hx rfl (hb hby at_175) rfl (l' := #[.val (.int p1), .val (.int p2), .val (.int p3), .val (.int p4), .val (.int p5), .val (.int p6), .val (.int v2), .val (.int v6), .val (.ref b8), .val (.ref b34), .val (.int (2 : Int32)), .unset, .unset]) rfl k) ?_
            show ORun p e below s _ _ _ T144 (mkF m 178 #[.val (.int p1), .val (.int p2), .val (.int p3), .val (.int p4), .val (.int p5), .val (.int p6), .val (.int v2), .val (.int v6), .val (.ref b8), .val (.ref b34), .val (.int (2 : Int32)), .unset, .unset] [])
            exact LP35  T144 h144 _ ((2 : Int32)) ([v11, v16, v21, v26, v31]) ([(3 : Int32), (4 : Int32), (0 : Int32), (0 : Int32), (0 : Int32)])  X144 e144 N144 ((((((((((Keep.refl h0 []).ext E8).wr W13 (Or.inr sz_b8)).wr W18 (Or.inr sz_b8)).wr W23 (Or.inr sz_b8)).wr W28 (Or.inr sz_b8)).wr W33 (Or.inr sz_b8)).ext E34).wr W141 (Or.inr sz_b34)).wr W144 (Or.inr sz_b34)) (((V33.ext E34).other W141 ne_b8_b34).other W144 ne_b8_b34) len33 V144 len144 (by decide) (by rw [own_sel_eq, if_neg hc56, if_neg hc104, if_neg hc128, if_pos hc140, if_pos hc143]; rfl) rfl
          · have t143 := own_ne hc143 (a := v31.toInt) (b := v6.toInt) rfl rfl
            refine own_by (fun t k => XS.icmpYes X141.here hx rfl (pc0 := 166) (pc' := 178) rfl (hb hby at_166) rfl (feq hc143).2 (by decide) (by decide) k) ?_
            show ORun p e below s _ _ _ T141 (mkF m 178 #[.val (.int p1), .val (.int p2), .val (.int p3), .val (.int p4), .val (.int p5), .val (.int p6), .val (.int v2), .val (.int v6), .val (.ref b8), .val (.ref b34), .val (.int (1 : Int32)), .unset, .unset] [])
            exact LP35  T141 h141 _ ((1 : Int32)) ([v11, v16, v21, v26, v31]) ([(3 : Int32), (0 : Int32), (0 : Int32), (0 : Int32), (0 : Int32)])  X141 e141 N141 (((((((((Keep.refl h0 []).ext E8).wr W13 (Or.inr sz_b8)).wr W18 (Or.inr sz_b8)).wr W23 (Or.inr sz_b8)).wr W28 (Or.inr sz_b8)).wr W33 (Or.inr sz_b8)).ext E34).wr W141 (Or.inr sz_b34)) ((V33.ext E34).other W141 ne_b8_b34) len33 V141 len141 (by decide) (by rw [own_sel_eq, if_neg hc56, if_neg hc104, if_neg hc128, if_pos hc140, if_neg hc143]; rfl) rfl
        · have t140 := own_ne hc140 (a := v26.toInt) (b := v6.toInt) rfl rfl
          refine own_by (fun t k => XS.icmpYes X34.here hx rfl (pc0 := 148) (pc' := 160) rfl (hb hby at_148) rfl (feq hc140).2 (by decide) (by decide) k) ?_
          show ORun p e below s _ _ _ T34 (mkF m 160 #[.val (.int p1), .val (.int p2), .val (.int p3), .val (.int p4), .val (.int p5), .val (.int p6), .val (.int v2), .val (.int v6), .val (.ref b8), .val (.ref b34), .val (.int (0 : Int32)), .unset, .unset] [])
          refine own_by (fun t k => XS.aload X34.here hx rfl (hb hby at_160) rfl rfl k) ?_
          show ORun p e below s _ _ _ T34 (mkF m 162 #[.val (.int p1), .val (.int p2), .val (.int p3), .val (.int p4), .val (.int p5), .val (.int p6), .val (.int v2), .val (.int v6), .val (.ref b8), .val (.ref b34), .val (.int (0 : Int32)), .unset, .unset] [(.ref b8)])
          refine own_by (fun t k => XS.iconst X34.here hx rfl (hb hby at_162) k) ?_
          show ORun p e below s _ _ _ T34 (mkF m 163 #[.val (.int p1), .val (.int p2), .val (.int p3), .val (.int p4), .val (.int p5), .val (.int p6), .val (.int v2), .val (.int v6), .val (.ref b8), .val (.ref b34), .val (.int (0 : Int32)), .unset, .unset] [(.int (4 : Int32)), (.ref b8)])
          refine own_iaload X34 hx hZ e34 (V33.ext E34) (i := 4) (by decide) (by omega) (hb hby at_163) ?_
          intro v145 hv145
          obtain rfl : v31 = v145 := hv145.symm
          show ORun p e below s _ _ _ T34 (mkF m 164 #[.val (.int p1), .val (.int p2), .val (.int p3), .val (.int p4), .val (.int p5), .val (.int p6), .val (.int v2), .val (.int v6), .val (.ref b8), .val (.ref b34), .val (.int (0 : Int32)), .unset, .unset] [(.int v31)])
          refine own_by (fun t k => XS.iload X34.here hx rfl (hb hby at_164) rfl k) ?_
          show ORun p e below s _ _ _ T34 (mkF m 166 #[.val (.int p1), .val (.int p2), .val (.int p3), .val (.int p4), .val (.int p5), .val (.int p6), .val (.int v2), .val (.int v6), .val (.ref b8), .val (.ref b34), .val (.int (0 : Int32)), .unset, .unset] [(.int v6), (.int v31)])
          by_cases hc146 : v31 = v6
          · have t146 := own_eq hc146 (a := v31.toInt) (b := v6.toInt) rfl rfl
            refine own_by (fun t k => XS.icmpNo X34.here hx rfl (hb hby at_166) rfl (teq hc146).2 k) ?_
            show ORun p e below s _ _ _ T34 (mkF m 169 #[.val (.int p1), .val (.int p2), .val (.int p3), .val (.int p4), .val (.int p5), .val (.int p6), .val (.int v2), .val (.int v6), .val (.ref b8), .val (.ref b34), .val (.int (0 : Int32)), .unset, .unset] [])
            refine own_by (fun t k => XS.aload X34.here hx rfl (hb hby at_169) rfl rfl k) ?_
            show ORun p e below s _ _ _ T34 (mkF m 171 #[.val (.int p1), .val (.int p2), .val (.int p3), .val (.int p4), .val (.int p5), .val (.int p6), .val (.int v2), .val (.int v6), .val (.ref b8), .val (.ref b34), .val (.int (0 : Int32)), .unset, .unset] [(.ref b34)])
            refine own_by (fun t k => XS.iload X34.here hx rfl (hb hby at_171) rfl k) ?_
            show ORun p e below s _ _ _ T34 (mkF m 173 #[.val (.int p1), .val (.int p2), .val (.int p3), .val (.int p4), .val (.int p5), .val (.int p6), .val (.int v2), .val (.int v6), .val (.ref b8), .val (.ref b34), .val (.int (0 : Int32)), .unset, .unset] [(.int (0 : Int32)), (.ref b34)])
            refine own_by (fun t k => XS.iconst X34.here hx rfl (hb hby at_173) k) ?_
            show ORun p e below s _ _ _ T34 (mkF m 174 #[.val (.int p1), .val (.int p2), .val (.int p3), .val (.int p4), .val (.int p5), .val (.int p6), .val (.int v2), .val (.int v6), .val (.ref b8), .val (.ref b34), .val (.int (0 : Int32)), .unset, .unset] [(.int (4 : Int32)), (.int (0 : Int32)), (.ref b34)])
            refine own_iastore X34 hx hZ e34 V34 (i := 0) (by decide) (by omega) (hb hby at_174) ?_
            intro T147 h147 L147 X147 e147 W147 hL147 V147
            have len147 : L147.length = 5 := by rw [hL147, List.length_set]; exact len34
            have N147 := Fr.snoc X147 N33 old_b34
            obtain rfl : [(4 : Int32), (0 : Int32), (0 : Int32), (0 : Int32), (0 : Int32)] = L147 := hL147.symm
            show ORun p e below s _ _ _ T147 (mkF m 175 #[.val (.int p1), .val (.int p2), .val (.int p3), .val (.int p4), .val (.int p5), .val (.int p6), .val (.int v2), .val (.int v6), .val (.ref b8), .val (.ref b34), .val (.int (0 : Int32)), .unset, .unset] [])
            refine own_by (fun t k => XS.iinc X147.here hx rfl (hb hby at_175) rfl (l' := #[.val (.int p1), .val (.int p2), .val (.int p3), .val (.int p4), .val (.int p5), .val (.int p6), .val (.int v2), .val (.int v6), .val (.ref b8), .val (.ref b34), .val (.int (1 : Int32)), .unset, .unset]) rfl k) ?_
            show ORun p e below s _ _ _ T147 (mkF m 178 #[.val (.int p1), .val (.int p2), .val (.int p3), .val (.int p4), .val (.int p5), .val (.int p6), .val (.int v2), .val (.int v6), .val (.ref b8), .val (.ref b34), .val (.int (1 : Int32)), .unset, .unset] [])
            exact LP35  T147 h147 _ ((1 : Int32)) ([v11, v16, v21, v26, v31]) ([(4 : Int32), (0 : Int32), (0 : Int32), (0 : Int32), (0 : Int32)])  X147 e147 N147 (((((((((Keep.refl h0 []).ext E8).wr W13 (Or.inr sz_b8)).wr W18 (Or.inr sz_b8)).wr W23 (Or.inr sz_b8)).wr W28 (Or.inr sz_b8)).wr W33 (Or.inr sz_b8)).ext E34).wr W147 (Or.inr sz_b34)) ((V33.ext E34).other W147 ne_b8_b34) len33 V147 len147 (by decide) (by rw [own_sel_eq, if_neg hc56, if_neg hc104, if_neg hc128, if_neg hc140, if_pos hc146]; rfl) rfl
          · have t146 := own_ne hc146 (a := v31.toInt) (b := v6.toInt) rfl rfl
            refine own_by (fun t k => XS.icmpYes X34.here hx rfl (pc0 := 166) (pc' := 178) rfl (hb hby at_166) rfl (feq hc146).2 (by decide) (by decide) k) ?_
            show ORun p e below s _ _ _ T34 (mkF m 178 #[.val (.int p1), .val (.int p2), .val (.int p3), .val (.int p4), .val (.int p5), .val (.int p6), .val (.int v2), .val (.int v6), .val (.ref b8), .val (.ref b34), .val (.int (0 : Int32)), .unset, .unset] [])
            exact LP35  T34 h34 _ ((0 : Int32)) ([v11, v16, v21, v26, v31]) ([(0 : Int32), (0 : Int32), (0 : Int32), (0 : Int32), (0 : Int32)])  X34 e34 N33 ((((((((Keep.refl h0 []).ext E8).wr W13 (Or.inr sz_b8)).wr W18 (Or.inr sz_b8)).wr W23 (Or.inr sz_b8)).wr W28 (Or.inr sz_b8)).wr W33 (Or.inr sz_b8)).ext E34) (V33.ext E34) len33 V34 len34 (by decide) (by rw [own_sel_eq, if_neg hc56, if_neg hc104, if_neg hc128, if_neg hc140, if_neg hc146]; rfl) rfl
set_option maxRecDepth 65536 in
set_option maxHeartbeats 40000000 in
theorem comes_1 {Post : Tables → Env → Array Value → State → Outcome → State → Prop} (hpost : ∀ tb e args s v u, (limb_1_1.after args s (.returned v) u = true ∧ limb_1_2.after args s (.returned v) u = true ∧ True) → FrameEnd s (.returned v) u (Jvm.fieldLocs frame_1_writes args s ++ Jvm.arrayLocs frame_1_arrays args s ++ Jvm.staticLocs frame_1_statics s) 24 128 → Post tb e args s (.returned v) u) :
    ArmFor flags0 classFile x code maxLocals ret World_1 tables_1 room_1 Calls_1 rest_1 Pre_1 Post := by
  intro l hfl _ _ p e ha hc hk s m args below hf hA hF happ hP
  obtain ⟨hcalls, hrest, hpre⟩ := hP
  obtain ⟨-, -, -, hnamed, -, -, -, hat⟩ := (Spec.applies_iff hf).mp happ
  obtain ⟨hg, hn⟩ := and_e (Cond.before_iff.mp (show (Jvm.Cond.and given_1 narrow_1).before args s = true from hpre))
  obtain ⟨hcnt, g0⟩ := and_e hg
  obtain ⟨k0, g1⟩ := and_e g0
  obtain ⟨k1, g2⟩ := and_e g1
  obtain ⟨k2, g3⟩ := and_e g2
  obtain ⟨k3, g4⟩ := and_e g3
  obtain ⟨k4, g5⟩ := and_e g4
  have k5 := g5
  obtain ⟨w0, w1, w2, w3, w4, w5, rfl⟩ : ∃ w0 w1 w2 w3 w4 w5 : Value, args = #[w0, w1, w2, w3, w4, w5] := by
    have hs : args.size = 6 := by simpa [Cond.value, given_1] using hcnt
    obtain ⟨L⟩ := args
    match L, hs with
    | [w0, w1, w2, w3, w4, w5], _ => exact ⟨w0, w1, w2, w3, w4, w5, rfl⟩
  have hw := fun d (hd : d ∈ tables_1) => atoms_spec (ws := Jvm.Cond.code x code maxLocals ret :: tables_1) hat d (List.mem_cons_of_mem _ hd)
  have hfit : Fit s := fun {y c} hc i hi => by
    obtain ⟨ha, rfl⟩ := Array.getElem?_eq_some_iff.mp hc
    have q := List.all_eq_true.mp ((Array.all_eq_true_iff_forall_mem.mp hF) _ (Array.getElem_mem ha)) i (List.mem_range.mpr hi)
    simpa [Array.getElem?_eq_getElem hi] using q
  obtain ⟨i0, e0⟩ := is_v k0
  obtain rfl : w0 = (.int i0) := Option.some.inj e0
  obtain ⟨i1, e1⟩ := is_v k1
  obtain rfl : w1 = (.int i1) := Option.some.inj e1
  obtain ⟨i2, e2⟩ := is_v k2
  obtain rfl : w2 = (.int i2) := Option.some.inj e2
  obtain ⟨i3, e3⟩ := is_v k3
  obtain rfl : w3 = (.int i3) := Option.some.inj e3
  obtain ⟨i4, e4⟩ := is_v k4
  obtain rfl : w4 = (.int i4) := Option.some.inj e4
  obtain ⟨i5, e5⟩ := is_v k5
  obtain rfl : w5 = (.int i5) := Option.some.inj e5
  obtain ⟨n, o, h1, h2, h3, _, L, rfl, ⟨rfl, N⟩, hq⟩ := rm0 l s _ hw tables_1 s.heap s.heap.size (Nat.le_refl _) i0 i1 i2 i3 i4 i5  p e ha hc hk s m _ below hf ((Spec.applies_iff_loose hf).mp happ).1 ⟨rfl, State.Warmed39.refl s, rfl⟩ trivial
  refine ⟨n, _, h1, h2, h3, hpost _ _ _ _ _ _ ⟨Cond.after_iff.mpr rfl, Cond.after_iff.mpr (eq_i res_at (Term.int_eval (1)) rfl), trivial⟩ ⟨hq.1, hq.2.1, (hq.2.2.sift fun y hy => Or.inr (N y hy)).mono (by decide) (by decide)⟩⟩
theorem main_1_1 : Claimed_1_1 := comes_1 fun _ _ _ _ _ _ h hF => ⟨h.1, hF⟩
theorem main_1_2 : Claimed_1_2 := comes_1 fun _ _ _ _ _ _ h hF => ⟨h.2.1, hF⟩
end Jvm.Pilot.@@N@@
namespace Jvm.Pilot.@@N@@
open Jvm Jvm.ClassFile Sem Op Lib Jvm.Free Jvm.Stand Jvm.Pilot.@@N@@.Jvm.D
/-! MADE BY PROGRAM (witnessworld.py) out of the Statement's table words and the real class files: 12 classes; the members and pool entries that the words name. The judged class is class 1, her method 1. -/
namespace start1
open Jvm.ClassFile
def u (s : String) : CpInfo := .utf8 (stringToUtf16 s)
/-- a pool by its gaps: so many unusable entries, then the entry; so many at the end -/
def gap : Nat → List CpInfo → List CpInfo
  | 0, r => r
  | n + 1, r => .unusable :: gap n r
def poolList (es : List (Nat × CpInfo)) (last : Nat) : List CpInfo := es.foldr (fun e r => gap e.1 (e.2 :: r)) (gap last [])
def pool (es : List (Nat × CpInfo)) (last : Nat) : Array CpInfo := ⟨poolList es last⟩
def fileOf (pool : Array CpInfo) (this : Nat) (attrs : Array Attribute := #[]) (ms : Array MethodInfo := #[]) (fl : Nat := 33) (sup : Nat := 0) (ifs : Array Nat := #[]) (fds : Array FieldInfo := #[]) : ClassFile where
  minorVersion := 0
  majorVersion := 65
  constantPool := pool
  accessFlags := fl
  thisClass := this
  superClass := sup
  interfaces := ifs
  fields := fds
  methods := ms
  attributes := attrs
def plain (name : String) (sup : Option ClassId) : Class where
  name := name
  kind := .ordinary
  loader := none
  accessFlags := 33
  super := sup
  interfaces := #[]
  cf := none
  fields := #[]
  methods := #[]
  instanceTypes := #[]
  staticTypes := #[]
  resolved := #[]
  callSites := []
  init := .initialized
  statics := none
  mirror := none

def pool0 : Array CpInfo := pool [(5, u "<init>"), (0, u "()V"), (1, .class_ 10), (1, u "java/lang/Object"), (85, u "clone"), (0, u "()Ljava/lang/Object;")] 26

def k0c0 : Code := { maxStack := 0, maxLocals := 1, code := object_method_1_code, exceptionTable := #[], attributes := #[] }
def k0m0 : Method := { name := "<init>", desc := "()V", sig := { parameters := [], returnType := none }, accessFlags := 1, code := some k0c0 }
def k0m1 : Method := { name := "clone", desc := "()Ljava/lang/Object;", sig := { parameters := [], returnType := some (.object "java/lang/Object") }, accessFlags := 260, code := none }
/-- java/lang/Object -/
def k0 : Class := { plain "java/lang/Object" none with
  accessFlags := 33
  interfaces := #[]
  cf := some (fileOf pool0 8 #[] #[{ accessFlags := 1, nameIndex := 5, descriptorIndex := 6, attributes := #[] }, { accessFlags := 260, nameIndex := 96, descriptorIndex := 97, attributes := #[] }] 33 0 #[] #[])
  fields := #[]
  methods := #[k0m0, k0m1]
  instanceTypes := #[]
  staticTypes := #[]
  resolved := Array.replicate 124 none
  statics := none }

def pool1 : Array CpInfo := pool [(2, .class_ 4), (1, u "java/lang/Object"), (0, u "<init>"), (0, u "()V"), (0, .integer 1073741823), (0, .integer 2147483647), (0, .class_ 10), (0, u "com/example/kembar/kembar/cluster/SketchHolders"), (0, .methodref 9 12), (0, .nameAndType 5 13), (0, u "(I[I)V"), (0, .methodref 9 15), (0, .nameAndType 16 17), (0, u "documentsOf"), (0, u "(I)[I"), (0, .class_ 19), (0, u "com/example/kembar/kembar/cluster/SketchHoldersDocumentsOfPinLaw"), (2, u "law"), (0, u "(IIIIII)Z")] 5

def k1m0 : Method := { name := "<init>", desc := "()V", sig := { parameters := [], returnType := none }, accessFlags := 1, code := none }
def k1c1 : Code := { maxStack := 4, maxLocals := 13, code := code, exceptionTable := #[], attributes := #[] }
def k1m1 : Method := { name := "law", desc := "(IIIIII)Z", sig := { parameters := [.int, .int, .int, .int, .int, .int], returnType := some .boolean }, accessFlags := 9, code := some k1c1 }
/-- com/example/kembar/kembar/cluster/SketchHoldersDocumentsOfPinLaw -/
def k1 : Class := { plain "com/example/kembar/kembar/cluster/SketchHoldersDocumentsOfPinLaw" (some 0) with
  accessFlags := 49
  interfaces := #[]
  cf := some (fileOf pool1 18 #[] #[{ accessFlags := 1, nameIndex := 5, descriptorIndex := 6, attributes := #[] }, { accessFlags := 9, nameIndex := 22, descriptorIndex := 23, attributes := #[] }] 49 2 #[] #[])
  fields := #[]
  methods := #[k1m0, k1m1]
  instanceTypes := #[]
  staticTypes := #[]
  resolved := Array.replicate 29 none
  statics := none }

def pool2 : Array CpInfo := pool [(9, u "<init>"), (1, .methodref 12 13), (0, .class_ 14), (0, .nameAndType 9 15), (0, u "java/lang/Object"), (0, u "()V"), (0, .fieldref 17 18), (0, .class_ 19), (0, .nameAndType 20 21), (0, u "com/example/kembar/kembar/cluster/SketchHolders"), (0, u "starts"), (0, u "[I"), (0, .fieldref 17 23), (0, .nameAndType 24 21), (0, u "documents"), (0, .methodref 26 27), (0, .class_ 28), (0, .nameAndType 29 30), (0, u "java/util/Arrays"), (0, u "copyOf"), (0, u "([II)[I"), (0, .methodref 26 32), (0, .nameAndType 33 34), (0, u "copyOfRange"), (0, u "([III)[I"), (30, u "(I[I)V"), (1, u "documentsOf"), (0, u "(I)[I")] 24

def k2c0 : Code := { maxStack := 5, maxLocals := 7, code := prog_23_method_2_code, exceptionTable := #[], attributes := #[] }
def k2m0 : Method := { name := "<init>", desc := "(I[I)V", sig := { parameters := [.int, (.array .int)], returnType := none }, accessFlags := 0, code := some k2c0 }
def k2c1 : Code := { maxStack := 5, maxLocals := 2, code := prog_23_method_3_code, exceptionTable := #[], attributes := #[] }
def k2m1 : Method := { name := "documentsOf", desc := "(I)[I", sig := { parameters := [.int], returnType := some (.array .int) }, accessFlags := 0, code := some k2c1 }
/-- com/example/kembar/kembar/cluster/SketchHolders -/
def k2 : Class := { plain "com/example/kembar/kembar/cluster/SketchHolders" (some 0) with
  accessFlags := 48
  interfaces := #[]
  cf := some (fileOf pool2 17 #[] #[{ accessFlags := 0, nameIndex := 9, descriptorIndex := 65, attributes := #[] }, { accessFlags := 0, nameIndex := 67, descriptorIndex := 68, attributes := #[] }] 48 12 #[] #[{ accessFlags := 18, nameIndex := 20, descriptorIndex := 21, attributes := #[] }, { accessFlags := 18, nameIndex := 24, descriptorIndex := 21, attributes := #[] }])
  fields := #[{ name := "starts", type := (.array .int), accessFlags := 18, slot := 0, constantValue := 0 }, { name := "documents", type := (.array .int), accessFlags := 18, slot := 1, constantValue := 0 }]
  methods := #[k2m0, k2m1]
  instanceTypes := #[(.array .int), (.array .int)]
  staticTypes := #[]
  resolved := Array.replicate 93 none
  statics := none }

def pool3 : Array CpInfo := pool [(2, .class_ 4), (1, u "java/lang/Object"), (0, u "<init>"), (0, u "()V"), (7, .class_ 16), (1, u "java/util/Arrays"), (57, .class_ 76), (1, u "java/util/Arrays$NaturalOrder"), (32, u "()Ljava/lang/Object;"), (3, .class_ 115), (1, u "java/util/Arrays$LegacyMergeSort"), (1, u "Z"), (10, .nameAndType 129 109), (0, u "clone"), (9, u "copyOfRange"), (10, .methodref 151 152), (0, .class_ 153), (0, .nameAndType 154 155), (0, u "java/lang/System"), (0, u "arraycopy"), (0, u "(Ljava/lang/Object;ILjava/lang/Object;II)V"), (146, u "copyOf"), (1, .methodref 305 306), (0, .class_ 307), (0, .nameAndType 308 309), (0, u "java/lang/Math"), (0, u "min"), (0, u "(II)I"), (6, .methodref 317 128), (0, .class_ 318), (0, u "[I"), (24, .methodref 14 344), (0, .nameAndType 345 346), (0, u "checkLength"), (0, u "(II)V"), (4, .methodref 14 352), (0, .nameAndType 353 354), (0, u "copyOfRangeInt"), (0, u "([III)[I"), (20, .class_ 376), (0, u "java/util/Arrays$ArrayList"), (68, u "$assertionsDisabled"), (269, u "MIN_ARRAY_SORT_GRAN"), (0, u "I"), (2, u "INSERTIONSORT_THRESHOLD"), (151, u "([II)[I"), (103, .class_ 976), (0, u "java/util/Arrays$ArrayItr")] 52

def k3m0 : Method := { name := "<init>", desc := "()V", sig := { parameters := [], returnType := none }, accessFlags := 2, code := none }
def k3c1 : Code := { maxStack := 6, maxLocals := 3, code := jdk_65_method_123_code, exceptionTable := #[], attributes := #[] }
def k3m1 : Method := { name := "copyOf", desc := "([II)[I", sig := { parameters := [(.array .int), .int], returnType := some (.array .int) }, accessFlags := 9, code := some k3c1 }
def k3c2 : Code := { maxStack := 4, maxLocals := 2, code := jdk_65_method_131_code, exceptionTable := #[], attributes := #[] }
def k3m2 : Method := { name := "checkLength", desc := "(II)V", sig := { parameters := [.int, .int], returnType := none }, accessFlags := 10, code := some k3c2 }
def k3c3 : Code := { maxStack := 3, maxLocals := 3, code := jdk_65_method_136_code, exceptionTable := #[], attributes := #[] }
def k3m3 : Method := { name := "copyOfRange", desc := "([III)[I", sig := { parameters := [(.array .int), .int, .int], returnType := some (.array .int) }, accessFlags := 9, code := some k3c3 }
def k3c4 : Code := { maxStack := 6, maxLocals := 5, code := jdk_65_method_137_code, exceptionTable := #[], attributes := #[] }
def k3m4 : Method := { name := "copyOfRangeInt", desc := "([III)[I", sig := { parameters := [(.array .int), .int, .int], returnType := some (.array .int) }, accessFlags := 10, code := some k3c4 }
/-- java/util/Arrays -/
def k3 : Class := { plain "java/util/Arrays" (some 0) with
  accessFlags := 49
  interfaces := #[]
  cf := some (fileOf pool3 14 #[.nestMembers #[975, 375, 113, 74]] #[{ accessFlags := 2, nameIndex := 5, descriptorIndex := 6, attributes := #[] }, { accessFlags := 9, nameIndex := 302, descriptorIndex := 871, attributes := #[] }, { accessFlags := 10, nameIndex := 345, descriptorIndex := 346, attributes := #[] }, { accessFlags := 9, nameIndex := 139, descriptorIndex := 354, attributes := #[] }, { accessFlags := 10, nameIndex := 353, descriptorIndex := 354, attributes := #[] }] 49 2 #[] #[{ accessFlags := 26, nameIndex := 715, descriptorIndex := 716, attributes := #[] }, { accessFlags := 26, nameIndex := 719, descriptorIndex := 716, attributes := #[] }, { accessFlags := 4120, nameIndex := 445, descriptorIndex := 117, attributes := #[] }])
  fields := #[{ name := "MIN_ARRAY_SORT_GRAN", type := .int, accessFlags := 26, slot := 0, constantValue := 0 }, { name := "INSERTIONSORT_THRESHOLD", type := .int, accessFlags := 26, slot := 1, constantValue := 0 }, { name := "$assertionsDisabled", type := .boolean, accessFlags := 4120, slot := 2, constantValue := 0 }]
  methods := #[k3m0, k3m1, k3m2, k3m3, k3m4]
  instanceTypes := #[]
  staticTypes := #[.int, .int, .boolean]
  resolved := Array.replicate 1029 none
  statics := none }

def pool4 : Array CpInfo := pool [(1, .class_ 2), (0, u "java/lang/Math"), (1, .class_ 6), (1, u "java/lang/Object"), (0, u "<init>"), (0, u "()V"), (89, .class_ 100), (1, u "java/lang/Math$RandomNumberGeneratorHolder"), (71, u "negativeZeroFloatBits"), (0, u "J"), (2, u "negativeZeroDoubleBits"), (24, u "min"), (43, u "$assertionsDisabled"), (0, u "Z"), (88, u "(II)I"), (2, u "twoToTheDoubleScaleDown"), (0, u "D"), (4, u "twoToTheDoubleScaleUp"), (9, u "E"), (3, u "PI"), (2, u "TAU"), (2, u "DEGREES_TO_RADIANS"), (0, u "RADIANS_TO_DEGREES")] 94

def k4m0 : Method := { name := "<init>", desc := "()V", sig := { parameters := [], returnType := none }, accessFlags := 2, code := none }
def k4c1 : Code := { maxStack := 2, maxLocals := 2, code := jdk_29_method_69_code, exceptionTable := #[], attributes := #[] }
def k4m1 : Method := { name := "min", desc := "(II)I", sig := { parameters := [.int, .int], returnType := some .int }, accessFlags := 9, code := some k4c1 }
/-- java/lang/Math -/
def k4 : Class := { plain "java/lang/Math" (some 0) with
  accessFlags := 49
  interfaces := #[]
  cf := some (fileOf pool4 1 #[.nestMembers #[98]] #[{ accessFlags := 2, nameIndex := 7, descriptorIndex := 8, attributes := #[] }, { accessFlags := 9, nameIndex := 201, descriptorIndex := 335, attributes := #[] }] 49 4 #[] #[{ accessFlags := 25, nameIndex := 354, descriptorIndex := 339, attributes := #[] }, { accessFlags := 25, nameIndex := 358, descriptorIndex := 339, attributes := #[] }, { accessFlags := 25, nameIndex := 361, descriptorIndex := 339, attributes := #[] }, { accessFlags := 26, nameIndex := 364, descriptorIndex := 339, attributes := #[] }, { accessFlags := 26, nameIndex := 365, descriptorIndex := 339, attributes := #[] }, { accessFlags := 26, nameIndex := 172, descriptorIndex := 173, attributes := #[] }, { accessFlags := 26, nameIndex := 176, descriptorIndex := 173, attributes := #[] }, { accessFlags := 8, nameIndex := 344, descriptorIndex := 339, attributes := #[] }, { accessFlags := 8, nameIndex := 338, descriptorIndex := 339, attributes := #[] }, { accessFlags := 4120, nameIndex := 245, descriptorIndex := 246, attributes := #[] }])
  fields := #[{ name := "E", type := .double, accessFlags := 25, slot := 0, constantValue := 0 }, { name := "PI", type := .double, accessFlags := 25, slot := 1, constantValue := 0 }, { name := "TAU", type := .double, accessFlags := 25, slot := 2, constantValue := 0 }, { name := "DEGREES_TO_RADIANS", type := .double, accessFlags := 26, slot := 3, constantValue := 0 }, { name := "RADIANS_TO_DEGREES", type := .double, accessFlags := 26, slot := 4, constantValue := 0 }, { name := "negativeZeroFloatBits", type := .long, accessFlags := 26, slot := 5, constantValue := 0 }, { name := "negativeZeroDoubleBits", type := .long, accessFlags := 26, slot := 6, constantValue := 0 }, { name := "twoToTheDoubleScaleUp", type := .double, accessFlags := 8, slot := 7, constantValue := 0 }, { name := "twoToTheDoubleScaleDown", type := .double, accessFlags := 8, slot := 8, constantValue := 0 }, { name := "$assertionsDisabled", type := .boolean, accessFlags := 4120, slot := 9, constantValue := 0 }]
  methods := #[k4m0, k4m1]
  instanceTypes := #[]
  staticTypes := #[.double, .double, .double, .double, .double, .long, .long, .double, .double, .boolean]
  resolved := Array.replicate 460 none
  statics := none }

def pool5 : Array CpInfo := pool [(2, .class_ 4), (1, u "java/lang/Object"), (0, u "<init>"), (0, u "()V"), (1, .class_ 10), (1, u "java/lang/System"), (0, u "allowSecurityManager"), (0, u "I"), (16, u "cons"), (0, u "Ljava/io/Console;"), (77, .class_ 110), (1, u "java/lang/System$CallersHolder"), (43, u "initialErrStream"), (0, u "Ljava/io/PrintStream;"), (19, u "security"), (0, u "Ljava/lang/SecurityManager;"), (31, .class_ 209), (0, u "java/lang/System$1"), (7, u "props"), (0, u "Ljava/util/Properties;"), (2, u "lineSeparator"), (0, u "Ljava/lang/String;"), (96, .class_ 321), (1, u "java/lang/System$LoggerFinder"), (5, .class_ 328), (0, u "java/lang/System$Logger"), (67, u "err"), (2, u "out"), (91, u "notSupportedJnuEncoding"), (15, u "in"), (17, u "initialIn"), (0, u "Ljava/io/InputStream;"), (35, u "bootLayer"), (0, u "Ljava/lang/ModuleLayer;"), (99, .class_ 664), (0, u "java/lang/System$2"), (9, u "NEVER"), (2, u "MAYBE"), (49, u "arraycopy"), (0, u "(Ljava/lang/Object;ILjava/lang/Object;II)V"), (72, .class_ 802), (0, u "java/lang/System$Logger$Level")] 31

def k5m0 : Method := { name := "<init>", desc := "()V", sig := { parameters := [], returnType := none }, accessFlags := 2, code := none }
def k5m1 : Method := { name := "arraycopy", desc := "(Ljava/lang/Object;ILjava/lang/Object;II)V", sig := { parameters := [(.object "java/lang/Object"), .int, (.object "java/lang/Object"), .int, .int], returnType := none }, accessFlags := 265, code := none }
/-- java/lang/System -/
def k5 : Class := { plain "java/lang/System" (some 0) with
  accessFlags := 49
  interfaces := #[]
  cf := some (fileOf pool5 8 #[.nestMembers #[319, 327, 801, 108, 663, 208]] #[{ accessFlags := 2, nameIndex := 5, descriptorIndex := 6, attributes := #[] }, { accessFlags := 265, nameIndex := 727, descriptorIndex := 728, attributes := #[] }] 49 2 #[] #[{ accessFlags := 25, nameIndex := 507, descriptorIndex := 526, attributes := #[] }, { accessFlags := 25, nameIndex := 399, descriptorIndex := 155, attributes := #[] }, { accessFlags := 25, nameIndex := 396, descriptorIndex := 155, attributes := #[] }, { accessFlags := 10, nameIndex := 525, descriptorIndex := 526, attributes := #[] }, { accessFlags := 26, nameIndex := 674, descriptorIndex := 12, attributes := #[] }, { accessFlags := 26, nameIndex := 677, descriptorIndex := 12, attributes := #[] }, { accessFlags := 10, nameIndex := 11, descriptorIndex := 12, attributes := #[] }, { accessFlags := 74, nameIndex := 175, descriptorIndex := 176, attributes := #[] }, { accessFlags := 10, nameIndex := 491, descriptorIndex := 222, attributes := #[] }, { accessFlags := 74, nameIndex := 29, descriptorIndex := 30, attributes := #[] }, { accessFlags := 74, nameIndex := 154, descriptorIndex := 155, attributes := #[] }, { accessFlags := 10, nameIndex := 217, descriptorIndex := 218, attributes := #[] }, { accessFlags := 10, nameIndex := 221, descriptorIndex := 222, attributes := #[] }, { accessFlags := 8, nameIndex := 562, descriptorIndex := 563, attributes := #[] }])
  fields := #[{ name := "in", type := (.object "java/io/InputStream"), accessFlags := 25, slot := 0, constantValue := 0 }, { name := "out", type := (.object "java/io/PrintStream"), accessFlags := 25, slot := 1, constantValue := 0 }, { name := "err", type := (.object "java/io/PrintStream"), accessFlags := 25, slot := 2, constantValue := 0 }, { name := "initialIn", type := (.object "java/io/InputStream"), accessFlags := 10, slot := 3, constantValue := 0 }, { name := "NEVER", type := .int, accessFlags := 26, slot := 4, constantValue := 0 }, { name := "MAYBE", type := .int, accessFlags := 26, slot := 5, constantValue := 0 }, { name := "allowSecurityManager", type := .int, accessFlags := 10, slot := 6, constantValue := 0 }, { name := "security", type := (.object "java/lang/SecurityManager"), accessFlags := 74, slot := 7, constantValue := 0 }, { name := "notSupportedJnuEncoding", type := (.object "java/lang/String"), accessFlags := 10, slot := 8, constantValue := 0 }, { name := "cons", type := (.object "java/io/Console"), accessFlags := 74, slot := 9, constantValue := 0 }, { name := "initialErrStream", type := (.object "java/io/PrintStream"), accessFlags := 74, slot := 10, constantValue := 0 }, { name := "props", type := (.object "java/util/Properties"), accessFlags := 10, slot := 11, constantValue := 0 }, { name := "lineSeparator", type := (.object "java/lang/String"), accessFlags := 10, slot := 12, constantValue := 0 }, { name := "bootLayer", type := (.object "java/lang/ModuleLayer"), accessFlags := 8, slot := 13, constantValue := 0 }]
  methods := #[k5m0, k5m1]
  instanceTypes := #[]
  staticTypes := #[(.object "java/io/InputStream"), (.object "java/io/PrintStream"), (.object "java/io/PrintStream"), (.object "java/io/InputStream"), .int, .int, .int, (.object "java/lang/SecurityManager"), (.object "java/lang/String"), (.object "java/io/Console"), (.object "java/io/PrintStream"), (.object "java/util/Properties"), (.object "java/lang/String"), (.object "java/lang/ModuleLayer")]
  resolved := Array.replicate 834 none
  statics := none }

def pool6 : Array CpInfo := pool [(1, .class_ 2), (0, u "java/lang/Cloneable"), (0, .class_ 4), (0, u "java/lang/Object")] 2

/-- java/lang/Cloneable -/
def k6 : Class := { plain "java/lang/Cloneable" (some 0) with
  accessFlags := 1537
  interfaces := #[]
  cf := some (fileOf pool6 1 #[] #[] 1537 3 #[] #[])
  fields := #[]
  methods := #[]
  instanceTypes := #[]
  staticTypes := #[]
  resolved := Array.replicate 7 none
  statics := none }

def pool7 : Array CpInfo := pool [(1, u "java/io/Serializable"), (0, .class_ 1), (0, u "java/lang/Object"), (0, .class_ 3)] 3

/-- java/io/Serializable -/
def k7 : Class := { plain "java/io/Serializable" (some 0) with
  accessFlags := 1537
  interfaces := #[]
  cf := some (fileOf pool7 2 #[] #[] 1537 4 #[] #[])
  fields := #[]
  methods := #[]
  instanceTypes := #[]
  staticTypes := #[]
  resolved := Array.replicate 8 none
  statics := none }

/-- the primitive byte -/
def k8 : Class := { plain "byte" none with kind := .primitive 'B', accessFlags := 0x411 }
/-- [B -/
def k9 : Class := { plain "[B" (some 0) with kind := .array 8 .byte, interfaces := #[6, 7], accessFlags := 1041 }

/-- the primitive int -/
def k10 : Class := { plain "int" none with kind := .primitive 'I', accessFlags := 0x411 }
/-- [I -/
def k11 : Class := { plain "[I" (some 0) with kind := .array 10 .int, interfaces := #[6, 7], accessFlags := 1041 }

def heap : Heap := #[]
def classes : Array Class := #[k0, k1, k2, k3, k4, k5, k6, k7, k8, k9, k10, k11]
def interned : List (Array UInt16 × Addr) := []
def slotsUsed : Nat := 0
def theMethod : MethodId := ⟨1, 1⟩
def args0 : Array Value := #[.int 7, .int 1, .int 2, .int 3, .int 4, .int 5]
def aboutOver (below : List Frame) : State where
  vm := { classes := classes, interned := interned.toArray }
  heap := heap
  slotsUsed := slotsUsed
  threads := #[{ frames := .invoking theMethod args0 :: below }]
def below0 : List Frame := [.native { method := ⟨0, 0⟩, args := #[] }]
def about1 : State := aboutOver below0
def p0 : Program := .bare "" "" ""
def e0 : Env := launch0.env 0 0 0
theorem w_frames : about1.frames = Frame.invoking theMethod args0 :: below0 := rfl
set_option maxRecDepth 65536 in
theorem w_args : argsFit about1.vm theMethod args0 = true := by decide +kernel
set_option maxRecDepth 65536 in
theorem w_heap : heapFits about1 = true := by decide +kernel
set_option maxRecDepth 65536 in
theorem w_runnable : about1.curStatus? = some .runnable := by decide +kernel
set_option maxRecDepth 65536 in
theorem w_alone : about1.alone = true := by decide +kernel
set_option maxRecDepth 65536 in
theorem w_named : about1.methodNamed? x = some theMethod := by decide +kernel
set_option maxRecDepth 65536 in
theorem w_hears : about1.hears theMethod below0 = true := by decide +kernel
set_option maxRecDepth 65536 in
theorem w_ripe : about1.ripe theMethod args0 below0 = true := by decide +kernel
theorem w_running : about1.status = .running := rfl
set_option maxRecDepth 65536 in
theorem w_room : about1.hasRoom e0.platform room_1 = true :=
  launch0.hasRoom_least _ room_1 (by decide +kernel) (by decide +kernel) (by decide +kernel) (by decide +kernel) (by decide +kernel) (by decide +kernel)
theorem allAtoms_all (ts : List Jvm.Cond) (a : Array Jvm.Value) (st : Jvm.State) : (allAtoms ts).before a st = ts.all (fun c => c.before a st) := by
  induction ts with
  | nil => rfl
  | cons c t ih =>
    show (Jvm.Cond.and c (allAtoms t)).before a st = _
    rw [Jvm.Cond.before_and, ih, List.all_cons]
def words1 : List Jvm.Cond := Jvm.Cond.code x code maxLocals ret :: tables_1
/-- a 'code' word, met by the world's own term for the bytes: nothing is compared byte by byte -/
theorem code_word {y : MethodName} {bytes : ByteArray} {mx : Nat} {rt : Option FieldType} {a : Array Value} {s : State} {m : MethodId} {meth : Method} {c : Code} (h1 : s.methodNamed? y = some m) (h2 : s.vm.method? m = some meth) (h3 : meth.code = some c) (h4 : c.code = bytes)
    (h5 : (c.maxLocals == mx && c.exceptionTable.isEmpty && decide (c.maxStack ≤ mostOperands) && decide (meth.sig.returnType = rt) && !meth.locks && decide (parseMethodDescriptor y.desc = some meth.sig)) = true) : (Jvm.Cond.code y bytes mx rt).before a s = true := by
  simp only [Bool.and_eq_true, beq_iff_eq, Bool.not_eq_true', decide_eq_true_eq] at h5
  obtain ⟨⟨⟨⟨⟨g1, g2⟩, g3⟩, g4⟩, g5⟩, g6⟩ := h5
  simp [Cond.before, Cond.holds, Cond.value, h1, h2, h3, h4, g1, g2, g3, g4, g5, g6]
def isCode : Jvm.Cond → Bool
  | .code _ _ _ _ => true
  | _ => false
theorem all_split {L : List Jvm.Cond} {P : Jvm.Cond → Bool} (h1 : L.all (fun c => isCode c || P c) = true) (h2 : ∀ c ∈ L.filter isCode, P c = true) : L.all P = true := by
  refine List.all_eq_true.mpr fun c hc => ?_
  have h := List.all_eq_true.mp h1 c hc
  rcases Bool.eq_false_or_eq_true (isCode c) with hi | hi
  · exact h2 c (List.mem_filter.mpr ⟨hc, hi⟩)
  · simpa [hi] using h
set_option maxRecDepth 65536 in
theorem w_c0 : (Jvm.Cond.code x code maxLocals ret).before args0 about1 = true := code_word (m := ⟨1, 1⟩) (meth := k1m1) (c := k1c1) (by decide +kernel) rfl rfl rfl (by decide +kernel)
set_option maxRecDepth 65536 in
theorem w_c1 : (Jvm.Cond.code ({ cls := "com/example/kembar/kembar/cluster/SketchHolders", name := "<init>", desc := "(I[I)V" } : Jvm.MethodName) prog_23_method_2_code (7 : Nat) (Option.none : Option Jvm.ClassFile.FieldType)).before args0 about1 = true := code_word (m := ⟨2, 0⟩) (meth := k2m0) (c := k2c0) (by decide +kernel) rfl rfl rfl (by decide +kernel)
set_option maxRecDepth 65536 in
theorem w_c2 : (Jvm.Cond.code ({ cls := "java/lang/Object", name := "<init>", desc := "()V" } : Jvm.MethodName) object_method_1_code (1 : Nat) (Option.none : Option Jvm.ClassFile.FieldType)).before args0 about1 = true := code_word (m := ⟨0, 0⟩) (meth := k0m0) (c := k0c0) (by decide +kernel) rfl rfl rfl (by decide +kernel)
set_option maxRecDepth 65536 in
theorem w_c3 : (Jvm.Cond.code ({ cls := "java/util/Arrays", name := "copyOf", desc := "([II)[I" } : Jvm.MethodName) jdk_65_method_123_code (3 : Nat) (Option.some (Jvm.ClassFile.FieldType.array Jvm.ClassFile.FieldType.int))).before args0 about1 = true := code_word (m := ⟨3, 1⟩) (meth := k3m1) (c := k3c1) (by decide +kernel) rfl rfl rfl (by decide +kernel)
set_option maxRecDepth 65536 in
theorem w_c4 : (Jvm.Cond.code ({ cls := "java/lang/Math", name := "min", desc := "(II)I" } : Jvm.MethodName) jdk_29_method_69_code (2 : Nat) (Option.some Jvm.ClassFile.FieldType.int)).before args0 about1 = true := code_word (m := ⟨4, 1⟩) (meth := k4m1) (c := k4c1) (by decide +kernel) rfl rfl rfl (by decide +kernel)
set_option maxRecDepth 65536 in
theorem w_c5 : (Jvm.Cond.code ({ cls := "com/example/kembar/kembar/cluster/SketchHolders", name := "documentsOf", desc := "(I)[I" } : Jvm.MethodName) prog_23_method_3_code (2 : Nat) (Option.some (Jvm.ClassFile.FieldType.array Jvm.ClassFile.FieldType.int))).before args0 about1 = true := code_word (m := ⟨2, 1⟩) (meth := k2m1) (c := k2c1) (by decide +kernel) rfl rfl rfl (by decide +kernel)
set_option maxRecDepth 65536 in
theorem w_c6 : (Jvm.Cond.code ({ cls := "java/util/Arrays", name := "copyOfRange", desc := "([III)[I" } : Jvm.MethodName) jdk_65_method_136_code (3 : Nat) (Option.some (Jvm.ClassFile.FieldType.array Jvm.ClassFile.FieldType.int))).before args0 about1 = true := code_word (m := ⟨3, 3⟩) (meth := k3m3) (c := k3c3) (by decide +kernel) rfl rfl rfl (by decide +kernel)
set_option maxRecDepth 65536 in
theorem w_c7 : (Jvm.Cond.code ({ cls := "java/util/Arrays", name := "copyOfRangeInt", desc := "([III)[I" } : Jvm.MethodName) jdk_65_method_137_code (5 : Nat) (Option.some (Jvm.ClassFile.FieldType.array Jvm.ClassFile.FieldType.int))).before args0 about1 = true := code_word (m := ⟨3, 4⟩) (meth := k3m4) (c := k3c4) (by decide +kernel) rfl rfl rfl (by decide +kernel)
set_option maxRecDepth 65536 in
theorem w_c8 : (Jvm.Cond.code ({ cls := "java/util/Arrays", name := "checkLength", desc := "(II)V" } : Jvm.MethodName) jdk_65_method_131_code (2 : Nat) (Option.none : Option Jvm.ClassFile.FieldType)).before args0 about1 = true := code_word (m := ⟨3, 2⟩) (meth := k3m2) (c := k3c2) (by decide +kernel) rfl rfl rfl (by decide +kernel)
def codes1 : List Jvm.Cond := [Jvm.Cond.code x code maxLocals ret, Jvm.Cond.code ({ cls := "com/example/kembar/kembar/cluster/SketchHolders", name := "<init>", desc := "(I[I)V" } : Jvm.MethodName) prog_23_method_2_code (7 : Nat) (Option.none : Option Jvm.ClassFile.FieldType), Jvm.Cond.code ({ cls := "java/lang/Object", name := "<init>", desc := "()V" } : Jvm.MethodName) object_method_1_code (1 : Nat) (Option.none : Option Jvm.ClassFile.FieldType), Jvm.Cond.code ({ cls := "java/util/Arrays", name := "copyOf", desc := "([II)[I" } : Jvm.MethodName) jdk_65_method_123_code (3 : Nat) (Option.some (Jvm.ClassFile.FieldType.array Jvm.ClassFile.FieldType.int)), Jvm.Cond.code ({ cls := "java/lang/Math", name := "min", desc := "(II)I" } : Jvm.MethodName) jdk_29_method_69_code (2 : Nat) (Option.some Jvm.ClassFile.FieldType.int), Jvm.Cond.code ({ cls := "com/example/kembar/kembar/cluster/SketchHolders", name := "documentsOf", desc := "(I)[I" } : Jvm.MethodName) prog_23_method_3_code (2 : Nat) (Option.some (Jvm.ClassFile.FieldType.array Jvm.ClassFile.FieldType.int)), Jvm.Cond.code ({ cls := "java/util/Arrays", name := "copyOfRange", desc := "([III)[I" } : Jvm.MethodName) jdk_65_method_136_code (3 : Nat) (Option.some (Jvm.ClassFile.FieldType.array Jvm.ClassFile.FieldType.int)), Jvm.Cond.code ({ cls := "java/util/Arrays", name := "copyOfRangeInt", desc := "([III)[I" } : Jvm.MethodName) jdk_65_method_137_code (5 : Nat) (Option.some (Jvm.ClassFile.FieldType.array Jvm.ClassFile.FieldType.int)), Jvm.Cond.code ({ cls := "java/util/Arrays", name := "checkLength", desc := "(II)V" } : Jvm.MethodName) jdk_65_method_131_code (2 : Nat) (Option.none : Option Jvm.ClassFile.FieldType)]
set_option maxRecDepth 65536 in
theorem codes_eq : words1.filter isCode = codes1 := rfl
theorem w_codes : ∀ c ∈ words1.filter isCode, c.before args0 about1 = true := by
  rw [codes_eq]
  intro c hc
  simp only [codes1, List.mem_cons, List.not_mem_nil, or_false] at hc
  rcases hc with rfl | rfl | rfl | rfl | rfl | rfl | rfl | rfl | rfl
  · exact w_c0
  · exact w_c1
  · exact w_c2
  · exact w_c3
  · exact w_c4
  · exact w_c5
  · exact w_c6
  · exact w_c7
  · exact w_c8
set_option maxRecDepth 65536 in
theorem w_t1 : (words1.take 24).all (fun c => isCode c || c.before args0 about1) = true := by decide +kernel
set_option maxRecDepth 65536 in
theorem w_t2 : ((words1.drop 24).take 24).all (fun c => isCode c || c.before args0 about1) = true := by decide +kernel
set_option maxRecDepth 65536 in
theorem w_t3 : ((words1.drop 24).drop 24).all (fun c => isCode c || c.before args0 about1) = true := by decide +kernel
theorem w_tables : (allAtoms (Jvm.Cond.code x code maxLocals ret :: tables_1)).before args0 about1 = true := by
  rw [allAtoms_all]
  show words1.all (fun c => c.before args0 about1) = true
  refine all_split ?_ w_codes
  rw [← List.take_append_drop 24 words1, List.all_append, w_t1, ← List.take_append_drop 24 (words1.drop 24), List.all_append, w_t2, w_t3]
  rfl
set_option maxRecDepth 65536 in
theorem w_case : (Jvm.Cond.and given_1 narrow_1).before args0 about1 = true := by decide +kernel
theorem w_applies : (headSpec (Jvm.Cond.code x code maxLocals ret :: tables_1) room_1).applies x e0.platform about1 = true :=
  (Spec.applies_iff w_frames).mpr ⟨w_running, w_runnable, w_alone, w_named, w_hears, w_ripe, w_room, w_tables⟩
theorem atStart : AtStart classFile x code maxLocals ret World_1 tables_1 room_1 Calls_1 rest_1 Pre_1 launch0 p0 e0 about1 theMethod args0 below0 :=
  ⟨lists_1, trivial, launch0.admits_env _ _ _, launch0.least_env, fairChoices_fair.cas, fairChoices_fair.clock, w_frames, w_args, w_heap, w_applies, trivial, trivial, w_case⟩
end start1
theorem witness_1 : WitnessClaimed_1 := ⟨start1.p0, start1.e0, start1.about1, start1.theMethod, start1.args0, start1.below0, start1.atStart⟩
end Jvm.Pilot.@@N@@
