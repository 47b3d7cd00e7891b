import JvmDerived
import JvmDerived.Pilot.@@N@@Statement
import JvmDerived.Pilot.@@N@@Code
set_option linter.unusedVariables false
set_option linter.unusedSimpArgs false
namespace Jvm.Pilot.@@N@@
open Jvm Jvm.ClassFile Sem Op Lib Jvm.Free Jvm.Stand Jvm.LawKit Jvm.RoadKit Bundle Jvm.Pilot.@@N@@.Jvm.D
abbrev own_jv (x : Int64) : Slot := .val (.long x)
theorem own_i_lt {a b : Int32} (h : a < b) : a.toInt < b.toInt := Int32.lt_iff_toInt_lt.mp h
theorem own_i_nlt {a b : Int32} (h : ¬ a < b) : b.toInt ≤ a.toInt := Int.not_lt.mp fun q => h (Int32.lt_iff_toInt_lt.mpr q)
theorem own_i_eq {a b : Int32} (h : a = b) : a.toInt = b.toInt := congrArg Int32.toInt h
theorem own_i_ne {a b : Int32} (h : ¬ a = b) : ¬ a.toInt = b.toInt := fun q => h (Int32.toInt_inj.mp q)
theorem own_j_lt {a b : Int64} (h : a < b) : a.toInt < b.toInt := Int64.lt_iff_toInt_lt.mp h
theorem own_j_nlt {a b : Int64} (h : ¬ a < b) : b.toInt ≤ a.toInt := Int.not_lt.mp fun q => h (Int64.lt_iff_toInt_lt.mpr q)
theorem own_j_eq {a b : Int64} (h : a = b) : a.toInt = b.toInt := congrArg Int64.toInt h
theorem own_j_ne {a b : Int64} (h : ¬ a = b) : ¬ a.toInt = b.toInt := fun q => h (Int64.toInt_inj.mp q)
theorem own_b1 {P : Prop} (h : P) : ((1 : Int32).toInt = 1 ∧ P) ∨ ((1 : Int32).toInt = 0 ∧ ¬ P) := Or.inl ⟨by decide, h⟩
theorem own_b0 {P : Prop} (h : ¬ P) : ((0 : Int32).toInt = 1 ∧ P) ∨ ((0 : Int32).toInt = 0 ∧ ¬ P) := Or.inr ⟨by decide, h⟩
theorem own_cat {w : Value} (hw : w.isRef = true) : w.category = 1 := by rcases ref_cases hw with rfl | ⟨a, rfl⟩ <;> rfl
theorem own_fitR {t : FieldType} (ht : t.isReference = true) {w : Value} (hw : w.isRef = true) : fits t w = true := by
  rcases ref_cases hw with rfl | ⟨a, rfl⟩ <;> cases t <;> first | rfl | cases ht
theorem own_static {s : State} {args : Array Value} {C n d K : String} (h : (Jvm.Cond.exactly (Jvm.Term.static C n d) K).value args s none s [] = some true) (wi : (Jvm.Cond.initialized C).before args s = true) (wl : (Jvm.Cond.laysStatic C n d).before args s = true) : ∃ a, (Jvm.Term.static C n d).eval args s none [] s = some (.ref a) ∧ Sta s s.heap C n d (.ref a) ∧ Exa s s.heap a K := by
  obtain ⟨a, ev⟩ := exa_v h
  exact ⟨a, ev, Sta.start ev (Or.inr ⟨wi, wl⟩), Exa.start ev h⟩
theorem own_teq {s : State} {args : Array Value} {t : Jvm.Term} {x : Int32} (h : (Jvm.Cond.eq t (Jvm.Term.int x)).value args s none s [] = some true) : t.eval args s none [] s = some (.int x) := by
  simp only [Cond.value, Term.int_eval] at h
  cases hv : t.eval args s none [] s with
  | none => simp [hv] at h
  | some v => cases v <;> simp [hv] at h ⊢; exact h
theorem own_fint {s : State} {args : Array Value} {t : Jvm.Term} {C n d : String} {x : Int32} {a : Addr} (h : (Jvm.Cond.eq (Jvm.Term.field t C n d) (Jvm.Term.int x)).value args s none s [] = some true) (e : t.eval args s none [] s = some (.ref a)) : s.fieldOf? a C n d = some (.int x) := by
  have q := fld_at (C := C) (n := n) (dd := d) e
  simp only [Cond.value, q, Term.int_eval] at h
  cases hv : s.fieldOf? a C n d with
  | none => simp [hv] at h
  | some v => cases v <;> simp [hv] at h ⊢; exact h
theorem own_ord {s : State} {args : Array Value} {t t' : Jvm.Term} {C n d : String} {x y : Int32} {a b : Nat} (h : (Jvm.Cond.eq (Jvm.Term.field t C n d) (Jvm.Term.int x)).value args s none s [] = some true) (e : t.eval args s none [] s = some (.ref a)) (h' : (Jvm.Cond.eq (Jvm.Term.field t' C n d) (Jvm.Term.int y)).value args s none s [] = some true) (e' : t'.eval args s none [] s = some (.ref b)) (hn : x ≠ y) : ¬ a = b := fun q => by
  subst q
  have := (own_fint h e).symm.trans (own_fint h' e')
  cases this
  exact hn rfl
def own_O (Z : State) (a : Addr) (k : Int32) : Prop := Z.fieldOf? a "java/lang/Enum" "ordinal" "I" = some (.int k)
theorem own_one {Z : State} {a b : Nat} {i j : Int32} (h : own_O Z a i) (h' : own_O Z b j) (hn : i ≠ j) : ¬ a = b := fun q => by
  subst q
  have := Eq.symm h |>.trans h'
  cases this
  exact hn rfl
theorem own_fldR {s : State} {args : Array Value} {t : Jvm.Term} {C n d K : String} {a : Addr} (h : (Jvm.Cond.exactly (Jvm.Term.field t C n d) K).value args s none s [] = some true) (e : t.eval args s none [] s = some (.ref a)) : ∃ b, Fld s s.heap a C n d (.ref b) := by
  obtain ⟨b, ev⟩ := exa_v h
  rw [fld_at e] at ev
  exact ⟨b, Fld.start ev⟩
theorem own_fldN {s : State} {args : Array Value} {t : Jvm.Term} {C n d : String} {a : Addr} (h : (Jvm.Cond.eq (Jvm.Term.field t C n d) Jvm.Term.null).value args s none s [] = some true) (e : t.eval args s none [] s = some (.ref a)) : Fld s s.heap a C n d .null := by
  have ev := null_v h
  rw [fld_at e] at ev
  exact Fld.start ev
section OwnKit
variable {p : Program} {l : Launch} {e : Env} {R : Room} {s : State} {m : MethodId} {args : Array Value} {below : List Frame} {meth : Method} {c : Code} {T : State} {locs : List Loc} {cells slots : Nat} {Z : State} {a0 : Array Value} {h h' : Heap} {Q : Option Value → Heap → List Loc → Prop}
/-- from U the run comes to its end, and what it leaves is Q's -/
def own_Goes (p : Program) (e : Env) (below : List Frame) (s : State) (R : Room) (Q : Option Value → Heap → List Loc → Prop) (U : State) : Prop :=
  ∃ s₂ o, Steps p.tables e below U s₂ ∧ s₂.status = .running ∧ Ended s₂ below o ∧ ∃ v L, o = .returned v ∧ Q v s₂.heap L ∧ FrameEnd s o s₂ L R.cells R.slots
theorem own_st {U U' : State} (k : ∀ t, Steps p.tables e below U' t → Steps p.tables e below U t) (g : own_Goes p e below s R Q U') : own_Goes p e below s R Q U := by
  obtain ⟨s₂, o, h1, h2⟩ := g
  exact ⟨s₂, o, k _ h1, h2⟩
theorem own_fin (X : Stand p l e R s m args below meth c T locs cells slots) (hk : meth.locks = false) {v : Option Value} (hv : meth.sig.returnType = none → v = none) {U : State}
    (hs : ∀ fs, (∀ (f : JFrame) (acts : List Action), f.method = m → f.locked = none → f.entered = [] → (doReturn e (T.setTop f) acts v).1 = T.setFrames fs) → Steps p.tables e below U (T.setFrames fs))
    (hc : cells ≤ R.cells) (hl : slots ≤ R.slots) (q : Q v T.heap locs) : own_Goes p e below s R Q U := by
  obtain ⟨fs, hr, hrun, hended, hW, hsame⟩ := X.leave hv hk
  exact ⟨_, _, hs fs hr, hrun, hended, v, locs, rfl, q, ⟨v, rfl⟩, hW, hsame.mono hc hl⟩
theorem own_ret (X : Stand p l e R s m args below meth c T locs cells slots) (hx : p.tables.exec = Jvm.exec) (hk : meth.locks = false) {pc : Nat} {Ls : Array Slot} {w : Value} {t : FieldType} {i : Instr} {rest : List Value} (hret : meth.sig.returnType = some t) (hn : narrow t w = w)
    (hi : (i = .ireturn ∧ (t = .int ∨ t = .boolean ∨ t = .byte ∨ t = .char ∨ t = .short) ∧ ∃ z, w = .int z) ∨ (i = .lreturn ∧ t = .long ∧ ∃ z, w = .long z) ∨ (i = .dreturn ∧ t = .double ∧ ∃ z, w = .double z) ∨ (i = .freturn ∧ t = .float ∧ ∃ z, w = .float z) ∨ (i = .areturn ∧ t.isReference = true ∧ w.isRef = true))
    (hd : decode c.code pc = .ok (i, 1)) (hc : cells ≤ R.cells) (hl : slots ≤ R.slots) (q : Q (some w) T.heap locs) : own_Goes p e below s R Q (T.setTop (mkF m pc Ls (w :: rest))) :=
  own_fin X hk (fun h => by rw [hret] at h; cases h) (fun fs hr => retOut X hx hret hn hi hd hr) hc hl q
theorem own_retI (X : Stand p l e R s m args below meth c T locs cells slots) (hx : p.tables.exec = Jvm.exec) (hk : meth.locks = false) {pc : Nat} {Ls : Array Slot} {z : Int32} {rest : List Value} (hret : meth.sig.returnType = some .int)
    (hd : decode c.code pc = .ok (.ireturn, 1)) (hc : cells ≤ R.cells) (hl : slots ≤ R.slots) (q : Q (some (.int z)) T.heap locs) : own_Goes p e below s R Q (T.setTop (mkF m pc Ls (.int z :: rest))) :=
  own_ret X hx hk hret rfl (Or.inl ⟨rfl, Or.inl rfl, z, rfl⟩) hd hc hl q
theorem own_retJ (X : Stand p l e R s m args below meth c T locs cells slots) (hx : p.tables.exec = Jvm.exec) (hk : meth.locks = false) {pc : Nat} {Ls : Array Slot} {z : Int64} {rest : List Value} (hret : meth.sig.returnType = some .long)
    (hd : decode c.code pc = .ok (.lreturn, 1)) (hc : cells ≤ R.cells) (hl : slots ≤ R.slots) (q : Q (some (.long z)) T.heap locs) : own_Goes p e below s R Q (T.setTop (mkF m pc Ls (.long z :: rest))) :=
  own_ret X hx hk hret rfl (Or.inr (Or.inl ⟨rfl, rfl, z, rfl⟩)) hd hc hl q
theorem own_narR {t : FieldType} (ht : t.isReference = true) {w : Value} (hw : w.isRef = true) : narrow t w = w := by
  rcases ref_cases hw with rfl | ⟨a, rfl⟩ <;> cases t <;> first | rfl | cases ht
theorem own_retR (X : Stand p l e R s m args below meth c T locs cells slots) (hx : p.tables.exec = Jvm.exec) (hk : meth.locks = false) {pc : Nat} {Ls : Array Slot} {w : Value} {t : FieldType} {rest : List Value} (hret : meth.sig.returnType = some t) (ht : t.isReference = true) (hw : w.isRef = true)
    (hd : decode c.code pc = .ok (.areturn, 1)) (hc : cells ≤ R.cells) (hl : slots ≤ R.slots) (q : Q (some w) T.heap locs) : own_Goes p e below s R Q (T.setTop (mkF m pc Ls (w :: rest))) :=
  own_ret X hx hk hret (own_narR ht hw) (Or.inr (Or.inr (Or.inr (Or.inr ⟨rfl, ht, hw⟩)))) hd hc hl q
theorem own_retN (X : Stand p l e R s m args below meth c T locs cells slots) (hx : p.tables.exec = Jvm.exec) (hk : meth.locks = false) {pc : Nat} {Ls : Array Slot} {z : Int32} (z' : Int32) {t : FieldType} {rest : List Value} (hret : meth.sig.returnType = some t) (ht : t = .boolean ∨ t = .byte ∨ t = .char ∨ t = .short) (hz : nar t z = z')
    (hd : decode c.code pc = .ok (.ireturn, 1)) (hc : cells ≤ R.cells) (hl : slots ≤ R.slots) (q : Q (some (.int z')) T.heap locs) : own_Goes p e below s R Q (T.setTop (mkF m pc Ls (.int z :: rest))) := by
  subst hz
  exact own_fin X hk (fun h => by rw [hret] at h; cases h) (fun fs hr => retN X hx hret ht hd hr) hc hl q
theorem own_ret0 (X : Stand p l e R s m args below meth c T locs cells slots) (hx : p.tables.exec = Jvm.exec) (hk : meth.locks = false) {pc : Nat} {Ls : Array Slot} (hret : meth.sig.returnType = none)
    (hd : decode c.code pc = .ok (.return_, 1)) (hc : cells ≤ R.cells) (hl : slots ≤ R.slots) (q : Q none T.heap locs) : own_Goes p e below s R Q (T.setTop (mkF m pc Ls [])) :=
  own_fin X hk (fun _ => rfl) (fun fs hr => X.returnOut hx hret hd hr) hc hl q
theorem own_enter {y : MethodName} {bytes : ByteArray} {maxL : Nat} {ret : Option FieldType} {ws : List Jvm.Cond} {as' : Array Value} {h0 : Heap} {F : MethodId → JFrame}
    (hp : plainFor y = true) (hf : ∀ m, entryFrame m as' maxL = F m)
    (body : ∀ (p : Program) (e : Env) (s : State) (m : MethodId) (below : List Frame) (meth : Method) (c : Code) (T : State), Stand p l e R s m as' below meth c T [] 0 0 → p.tables.exec = Jvm.exec → c.code = bytes → c.maxLocals = maxL → meth.sig.returnType = ret → meth.locks = false → meth.name = y.name → s.vm.findClass y.cls = some m.cls → Z.Warmed39 s.vm → T.heap = h0 → own_Goes p e below s R Q (T.setTop (F m))) :
    MetFree l y (head1 (Jvm.Cond.code y bytes maxL ret :: ws) R) (fun a U => a = as' ∧ Z.Warmed39 U.vm ∧ U.heap = h0) (fun _ _ _ _ _ => True) (fun _ U o U' => ∃ v L, o = .returned v ∧ Q v U'.heap L ∧ FrameEnd U o U' L R.cells R.slots) := by
  refine MetFree.of_bodySF hp hisR ?_
  intro p e s m args below meth c s₁ Bd hml0 hP hK
  obtain ⟨rfl, hZ, hh⟩ := hP
  have e0 : s₁.heap = h0 := by rw [← hh, Bd.state]; rfl
  have g := body p e s m below meth c s₁ (Stand.of_body Bd) Bd.exec Bd.bytes hml0 Bd.returns Bd.notSynchronized (name_of_methodNamed Bd.named Bd.method).1 (findClass_of_methodNamed Bd.named) hZ e0
  rw [hf]
  exact g
theorem own_callS (X : Stand p l e R s m args below meth c T locs cells slots) (hx : p.tables.exec = Jvm.exec) (hZ : Z.Warmed39 s.vm) {own : String} {index : Nat} {y : MethodName} {bytes : ByteArray} {maxL : Nat} {ret : Option FieldType}
    (hown : s.vm.findClass own = some m.cls) (w1 : (Jvm.Cond.methodLink own index y).before a0 Z = true) (w2 : (Jvm.Cond.static y).before a0 Z = true) (w3 : (Jvm.Cond.initialized y.cls).before a0 Z = true) (w4 : (Jvm.Cond.code y bytes maxL ret).before a0 Z = true)
    (hy : y.cls ≠ "java/lang/invoke/MethodHandle" ∧ y.cls ≠ "java/lang/invoke/VarHandle") {W : Nat} {rm : Room} {argsL rest : List Value} {Qc : Option Value → Heap → List Loc → Prop}
    (hM : MetFree l y (head1 [Jvm.Cond.code y bytes maxL ret] rm) (fun a U => a = argsL.toArray ∧ Z.Warmed39 U.vm ∧ U.heap = h) (fun _ _ _ _ _ => True) (fun _ U o U' => ∃ v L, o = .returned v ∧ Qc v U'.heap L ∧ FrameEnd U o U' L rm.cells rm.slots))
    (hf : rm.frames + 1 ≤ R.frames) (hl : W + (maxL + 11) + rm.locals ≤ R.locals) (hc : cells + rm.cells ≤ R.cells) (hs : slots + rm.slots ≤ R.slots) (eT : T.heap = h)
    {ps : List FieldType} {r : Option FieldType} (hd : parseMethodDescriptor y.desc = some ⟨ps, r⟩) (hlen : argsL.length = ps.length)
    {g : JFrame} (hg : g.method = m) (hsize : g.locals.size = c.maxLocals) (hstack : g.stack = argsL.reverse ++ rest) (hW : 2 * g.monitorRoom + (rest.map fun v => v.category).sum ≤ W) (hdg : decode c.code g.pc = .ok (.invokestatic index, 3)) :
    ∃ (v : Option Value) (T' : State) (L : List Loc), Stand p l e R s m args below meth c T' (locs ++ L) (cells + rm.cells) (slots + rm.slots) ∧ Qc v T'.heap L ∧ ∀ t, Steps p.tables e below (T'.setTop { g with pc := g.pc + 3, stack := v.toList ++ rest }) t → Steps p.tables e below (T.setTop g) t := by
  obtain ⟨v, _, ⟨T', L', k', n'⟩, -, X', ⟨Lc, hQ, l', y', z'⟩, st⟩ := Jvm.LawKit.callS X hx (y := y) hown (mvT hZ w1) (mvT hZ w2) (mvT hZ w3) (mvT hZ w4) hy (backOf (W := W) hM hZ w4 w3 hf hl) hg hsize (argsL := argsL) (rest := rest) (lenOf hd hlen) hstack hW hdg (fun _ _ => ⟨rfl, eT, hc, hs⟩)
  dsimp only [Pt.U, Pt.locs, Pt.cells, Pt.slots] at X' l' y' z' st hQ
  subst l' y' z'
  exact ⟨v, T', Lc, X', hQ, st⟩
theorem own_callI (X : Stand p l e R s m args below meth c T locs cells slots) (hx : p.tables.exec = Jvm.exec) (hZ : Z.Warmed39 s.vm) {own : String} {index : Nat} {y : MethodName} {bytes : ByteArray} {maxL : Nat}
    (hown : s.vm.findClass own = some m.cls) (w1 : (Jvm.Cond.methodLink own index y).before a0 Z = true) (w2 : (Jvm.Cond.instanceMethod y).before a0 Z = true) (w3 : (Jvm.Cond.initialized y.cls).before a0 Z = true) (w4 : (Jvm.Cond.code y bytes maxL none).before a0 Z = true) (hy1 : y.name = "<init>")
    (hy : y.cls ≠ "java/lang/invoke/MethodHandle" ∧ y.cls ≠ "java/lang/invoke/VarHandle") {W : Nat} {rm : Room} {a : Addr} {argsL rest : List Value} {Qc : Option Value → Heap → List Loc → Prop}
    (hM : MetFree l y (head1 [Jvm.Cond.code y bytes maxL none] rm) (fun b U => b = (Value.ref a :: argsL).toArray ∧ Z.Warmed39 U.vm ∧ U.heap = h) (fun _ _ _ _ _ => True) (fun _ U o U' => ∃ v L, o = .returned v ∧ Qc v U'.heap L ∧ FrameEnd U o U' L rm.cells rm.slots))
    (hf : rm.frames + 1 ≤ R.frames) (hl : W + (maxL + 11) + rm.locals ≤ R.locals) (hc : cells + rm.cells ≤ R.cells) (hs : slots + rm.slots ≤ R.slots) (eT : T.heap = h)
    {ps : List FieldType} {r : Option FieldType} (hd : parseMethodDescriptor y.desc = some ⟨ps, r⟩) (hlen : argsL.length = ps.length)
    {g : JFrame} (hg : g.method = m) (hsize : g.locals.size = c.maxLocals) (hstack : g.stack = argsL.reverse ++ .ref a :: rest) (hW : 2 * g.monitorRoom + (rest.map fun v => v.category).sum ≤ W) (hdg : decode c.code g.pc = .ok (.invokespecial index, 3)) :
    ∃ (v : Option Value) (T' : State) (L : List Loc), Stand p l e R s m args below meth c T' (locs ++ L) (cells + rm.cells) (slots + rm.slots) ∧ Qc v T'.heap L ∧ ∀ t, Steps p.tables e below (T'.setTop { g with pc := g.pc + 3, stack := v.toList ++ rest }) t → Steps p.tables e below (T.setTop g) t := by
  obtain ⟨v, _, ⟨T', L', k', n'⟩, -, X', ⟨Lc, hQ, l', y', z'⟩, st⟩ := X.specialBack hx (y := y) hy1 hown (mvT hZ w1) (mvT hZ w2) (mvT hZ w4) hy (backOf (W := W) hM hZ w4 w3 hf hl) hg hsize (Steps.refl _) (a := a) (argsL := argsL) (rest := rest) (lenOf hd hlen) hstack hW hdg (fun _ _ => ⟨rfl, eT, hc, hs⟩)
  dsimp only [Pt.U, Pt.locs, Pt.cells, Pt.slots] at X' l' y' z' st hQ
  subst l' y' z'
  exact ⟨v, T', Lc, X', hQ, fun t k => st.trans k⟩
theorem own_callV (X : Stand p l e R s m args below meth c T locs cells slots) (hx : p.tables.exec = Jvm.exec) (hZ : Z.Warmed39 s.vm) {own C : String} {index : Nat} {y : MethodName} {bytes : ByteArray} {maxL : Nat} {ret : Option FieldType}
    (hown : s.vm.findClass own = some m.cls) (w1 : (Jvm.Cond.methodLink own index y).before a0 Z = true) (w5 : (Jvm.Cond.declares y).before a0 Z = true) (w6 : (Jvm.Cond.selects C y y).before a0 Z = true) (w2 : (Jvm.Cond.instanceMethod y).before a0 Z = true) (w3 : (Jvm.Cond.initialized y.cls).before a0 Z = true) (w4 : (Jvm.Cond.code y bytes maxL ret).before a0 Z = true)
    (hy : y.cls ≠ "java/lang/invoke/MethodHandle" ∧ y.cls ≠ "java/lang/invoke/VarHandle") {W : Nat} {rm : Room} {a : Addr} {argsL rest : List Value} {Qc : Option Value → Heap → List Loc → Prop}
    (hM : MetFree l y (head1 [Jvm.Cond.code y bytes maxL ret] rm) (fun b U => b = (Value.ref a :: argsL).toArray ∧ Z.Warmed39 U.vm ∧ U.heap = h) (fun _ _ _ _ _ => True) (fun _ U o U' => ∃ v L, o = .returned v ∧ Qc v U'.heap L ∧ FrameEnd U o U' L rm.cells rm.slots))
    (hf : rm.frames + 1 ≤ R.frames) (hl : W + (maxL + 11) + rm.locals ≤ R.locals) (hc : cells + rm.cells ≤ R.cells) (hs : slots + rm.slots ≤ R.slots) (eT : T.heap = h) (E : Exa Z h a C)
    {ps : List FieldType} {r : Option FieldType} (hd : parseMethodDescriptor y.desc = some ⟨ps, r⟩) (hlen : argsL.length = ps.length)
    {g : JFrame} (hg : g.method = m) (hsize : g.locals.size = c.maxLocals) (hstack : g.stack = argsL.reverse ++ .ref a :: rest) (hW : 2 * g.monitorRoom + (rest.map fun v => v.category).sum ≤ W) (hdg : decode c.code g.pc = .ok (.invokevirtual index, 3)) :
    ∃ (v : Option Value) (T' : State) (L : List Loc), Stand p l e R s m args below meth c T' (locs ++ L) (cells + rm.cells) (slots + rm.slots) ∧ Qc v T'.heap L ∧ ∀ t, Steps p.tables e below (T'.setTop { g with pc := g.pc + 3, stack := v.toList ++ rest }) t → Steps p.tables e below (T.setTop g) t := by
  obtain ⟨cq, kq, qa, qb, qc⟩ := isOf hZ eT E
  obtain ⟨v, _, ⟨T', L', k', n'⟩, -, X', ⟨Lc, hQ, l', y', z'⟩, st⟩ := X.virtualBack hx (y := y) (z := y) hown (mvT hZ w1) (mvT hZ w5) (notFace_of_selects (args := #[]) (mvT hZ w6)) (mvT hZ w6) (mvT hZ w2) hy (backOf (W := W) hM hZ w4 w3 hf hl) qa qc hg hsize (Steps.refl _) (argsL := argsL) (rest := rest) (lenOf hd hlen) hstack hW hdg (fun _ _ => ⟨rfl, eT, hc, hs⟩)
  dsimp only [Pt.U, Pt.locs, Pt.cells, Pt.slots] at X' l' y' z' st hQ
  subst l' y' z'
  exact ⟨v, T', Lc, X', hQ, fun t k => st.trans k⟩
theorem own_callP (X : Stand p l e R s m args below meth c T locs cells slots) (hx : p.tables.exec = Jvm.exec) (hZ : Z.Warmed39 s.vm) {own : String} {index : Nat} {y : MethodName} {bytes : ByteArray} {maxL : Nat} {ret : Option FieldType}
    (hown : s.vm.findClass own = some m.cls) (w1 : (Jvm.Cond.methodLink own index y).before a0 Z = true) (w5 : (Jvm.Cond.privateMethod y).before a0 Z = true) {ki : Nat} (w6 : (Jvm.Cond.instantiable y.cls ki).before a0 Z = true) (w2 : (Jvm.Cond.instanceMethod y).before a0 Z = true) (w3 : (Jvm.Cond.initialized y.cls).before a0 Z = true) (w4 : (Jvm.Cond.code y bytes maxL ret).before a0 Z = true)
    (hy : y.cls ≠ "java/lang/invoke/MethodHandle" ∧ y.cls ≠ "java/lang/invoke/VarHandle") {W : Nat} {rm : Room} {a : Addr} {argsL rest : List Value} {Qc : Option Value → Heap → List Loc → Prop} {C : String}
    (hM : MetFree l y (head1 [Jvm.Cond.code y bytes maxL ret] rm) (fun b U => b = (Value.ref a :: argsL).toArray ∧ Z.Warmed39 U.vm ∧ U.heap = h) (fun _ _ _ _ _ => True) (fun _ U o U' => ∃ v L, o = .returned v ∧ Qc v U'.heap L ∧ FrameEnd U o U' L rm.cells rm.slots))
    (hf : rm.frames + 1 ≤ R.frames) (hl : W + (maxL + 11) + rm.locals ≤ R.locals) (hc : cells + rm.cells ≤ R.cells) (hs : slots + rm.slots ≤ R.slots) (eT : T.heap = h) (E : Exa Z h a C)
    {ps : List FieldType} {r : Option FieldType} (hd : parseMethodDescriptor y.desc = some ⟨ps, r⟩) (hlen : argsL.length = ps.length)
    {g : JFrame} (hg : g.method = m) (hsize : g.locals.size = c.maxLocals) (hstack : g.stack = argsL.reverse ++ .ref a :: rest) (hW : 2 * g.monitorRoom + (rest.map fun v => v.category).sum ≤ W) (hdg : decode c.code g.pc = .ok (.invokevirtual index, 3)) :
    ∃ (v : Option Value) (T' : State) (L : List Loc), Stand p l e R s m args below meth c T' (locs ++ L) (cells + rm.cells) (slots + rm.slots) ∧ Qc v T'.heap L ∧ ∀ t, Steps p.tables e below (T'.setTop { g with pc := g.pc + 3, stack := v.toList ++ rest }) t → Steps p.tables e below (T.setTop g) t := by
  obtain ⟨cq, q1, q2⟩ := E.cell
  have hsel : (Jvm.Cond.selects y.cls y y).before args s = true := by
    obtain ⟨c2, k2, i1, i2, i3, i4, -⟩ := Cond.instantiable_spec (mv hZ w6 (args := args))
    exact selects_self_of_private i1 i2 (Bool.or_eq_false_iff.mp i4).1 (Cond.privateMethod_at (mvP hZ w5 (args := #[]))) (mvT hZ w2) hy
  obtain ⟨v, _, ⟨T', L', k', n'⟩, -, X', ⟨Lc, hQ, l', y', z'⟩, st⟩ := X.privateBack hx (y := y) hown (mvT hZ w1) (mvT hZ w2) hsel (Cond.privateMethod_at (mvP hZ w5 (args := #[]))) (mvT hZ w4) hy (backOf (W := W) hM hZ w4 w3 hf hl) hg hsize (Steps.refl _) (a := a) (by rw [eT]; exact q1) q2 (argsL := argsL) (rest := rest) (lenOf hd hlen) hstack hW hdg (fun _ _ => ⟨rfl, eT, hc, hs⟩)
  dsimp only [Pt.U, Pt.locs, Pt.cells, Pt.slots] at X' l' y' z' st hQ
  subst l' y' z'
  exact ⟨v, T', Lc, X', hQ, fun t k => st.trans k⟩
theorem own_sta_keep {C n d : String} {w : Value} {ws : List Addr} (F : Sta Z h C n d w) (K : Keep h h' ws) (q : ∀ x ∈ ws, ∀ c : Cell, h[x]? = some c → c.vm.isStatics = false) : Sta Z h' C n d w := by
  obtain ⟨cf, i, k, f, st, cell, h1, h2, h3, h4, h5, h6, h7⟩ := F
  exact ⟨cf, i, k, f, st, cell, h1, h2, h3, h4, K.2.1 _ _ h5 (fun hx => by have := q st hx cell h5; rw [this] at h6; cases h6), h6, h7⟩
theorem own_ext_keep (E : Ext h h') (ws : List Addr) : Keep h h' ws := (Keep.refl h ws).ext E
/-- an array at a: n places, the j-th holds f j -/
def own_Arf (Z : State) (h : Heap) (a : Addr) (ty : FieldType) (n : Nat) (f : Nat → Value) : Prop := ∃ c : Cell, Arr Z h a c ty ∧ c.slots.size = n ∧ ∀ j, j < n → c.slots[j]? = some (f j)
theorem own_Arf.lt {a : Nat} {ty : FieldType} {n : Nat} {f : Nat → Value} (F : own_Arf Z h a ty n f) : a < h.size := by obtain ⟨c, A, -⟩ := F; exact A.lt
theorem own_Arf.ext {a : Addr} {ty : FieldType} {n : Nat} {f : Nat → Value} (F : own_Arf Z h a ty n f) (E : Ext h h') : own_Arf Z h' a ty n f := by obtain ⟨c, A, r⟩ := F; exact ⟨c, A.ext E, r⟩
theorem own_Arf.other {a b : Addr} {ty : FieldType} {n : Nat} {f : Nat → Value} {sl : Nat} {v : Value} (F : own_Arf Z h b ty n f) (W : Wr h h' a sl v) (q : b ≠ a) : own_Arf Z h' b ty n f := by obtain ⟨c, A, r⟩ := F; exact ⟨c, A.other W q, r⟩
theorem own_Arf.keep {a : Addr} {ty : FieldType} {n : Nat} {f : Nat → Value} {ws : List Addr} (F : own_Arf Z h a ty n f) (K : Keep h h' ws) (q : a ∉ ws) : own_Arf Z h' a ty n f := by obtain ⟨c, A, r⟩ := F; exact ⟨c, ⟨K.2.1 a c A.1 q, A.2⟩, r⟩
theorem own_Arf.congr {a : Addr} {ty : FieldType} {n : Nat} {f f' : Nat → Value} (F : own_Arf Z h a ty n f) (q : ∀ j, j < n → f j = f' j) : own_Arf Z h a ty n f' := by obtain ⟨c, A, r1, r2⟩ := F; exact ⟨c, A, r1, fun j hj => by rw [← q j hj]; exact r2 j hj⟩
theorem own_Arf.set {a : Addr} {ty : FieldType} {n : Nat} {f : Nat → Value} {i : Nat} {v : Value} (F : own_Arf Z h a ty n f) (W : Wr h h' a i v) : own_Arf Z h' a ty n (fun k => if k = i then v else f k) := by
  obtain ⟨c, A, r1, r2⟩ := F
  refine ⟨c.setSlot i v, A.same W, by rw [sz_set]; exact r1, fun j hj => ?_⟩
  show (c.slots.setIfInBounds i v)[j]? = some (if j = i then v else f j)
  by_cases q : j = i
  · subst q
    simp [r1, hj]
  · rw [Array.getElem?_setIfInBounds_ne (Ne.symm q), if_neg q]
    exact r2 j hj
theorem own_Arf.setI {a : Addr} {ty : FieldType} {n : Nat} {f : Nat → Int32} {i : Nat} {x : Int32} (F : own_Arf Z h a ty n (fun k => .int (f k))) (W : Wr h h' a i (.int x)) : own_Arf Z h' a ty n (fun k => .int (if k = i then x else f k)) :=
  (own_Arf.set F W).congr fun k _ => by show (if k = i then Value.int x else .int (f k)) = .int (if k = i then x else f k); split <;> rfl
theorem own_Arf.setJ {a : Addr} {ty : FieldType} {n : Nat} {f : Nat → Int64} {i : Nat} {x : Int64} (F : own_Arf Z h a ty n (fun k => .long (f k))) (W : Wr h h' a i (.long x)) : own_Arf Z h' a ty n (fun k => .long (if k = i then x else f k)) :=
  (own_Arf.set F W).congr fun k _ => by show (if k = i then Value.long x else .long (f k)) = .long (if k = i then x else f k); split <;> rfl
theorem own_inb {c : Cell} {n : Nat} {j : Int32} (S : c.slots.size = n) (q : 0 ≤ j.toInt ∧ j.toInt < (n : Int)) : ¬ (j < 0 ∨ c.slots.size ≤ j.toNatClampNeg) := by
  rw [S]
  rintro (q1 | q1)
  · have := Int32.lt_iff_toInt_lt.mp q1
    simp at this
    omega
  · have h1 : j.toNatClampNeg = j.toInt.toNat := rfl
    omega
theorem own_idx {n : Nat} {j : Int32} (q : 0 ≤ j.toInt ∧ j.toInt < (n : Int)) : j.toNatClampNeg < n := by
  have h1 : j.toNatClampNeg = j.toInt.toNat := rfl
  omega
theorem own_newP (X : Stand p l e R s m args below meth c T locs cells slots) (hx : p.tables.exec = Jvm.exec) (hZ : Z.Warmed39 s.vm) {aty : ArrayType} (w : (Jvm.Cond.arrayClass (newarray.typeOf aty)).before a0 Z = true) (eT : T.heap = h) {g : JFrame} (hg : g.method = m) (hd : decode c.code g.pc = .ok (.newarray aty, 2)) {n : Int32} {rest : List Value} (hs : g.stack = .int n :: rest)
    (hn : ¬ n < 0) {cap : Nat} (hcap : n.toNatClampNeg ≤ cap) (hb : cap * 8 ≤ 536870912) (hc : cells + 1 ≤ R.cells) (hl : slots + cap ≤ R.slots) :
    ∃ T' h', Stand p l e R s m args below meth c T' locs (cells + 1) (slots + cap) ∧ T'.heap = h' ∧ Ext h h' ∧ own_Arf Z h' h.size (newarray.typeOf aty) n.toNatClampNeg (fun _ => defaultValue (newarray.typeOf aty)) ∧
      ∀ target, Steps p.tables e below (T'.setTop { g with pc := g.pc + 2, stack := .ref h.size :: rest }) target → Steps p.tables e below (T.setTop g) target := by
  obtain ⟨T', h', cA, X', e', E', A', st⟩ := newP X hx hZ w eT hg hd hs hn hcap hb hc hl
  refine ⟨T', h', X', e', E', ⟨_, A', sz_new _ _ _, fun j hj => ?_⟩, st⟩
  simp [newA, hj]
theorem own_newPE (X : Stand p l e R s m args below meth c T locs cells slots) (hx : p.tables.exec = Jvm.exec) (hZ : Z.Warmed39 s.vm) {aty : ArrayType} (w : (Jvm.Cond.arrayClass (newarray.typeOf aty)).before a0 Z = true) (eT : T.heap = h) {g : JFrame} (hg : g.method = m) (hd : decode c.code g.pc = .ok (.newarray aty, 2)) {n : Int32} {rest : List Value} (hs : g.stack = .int n :: rest)
    (hn : ¬ n < 0) {cap : Nat} (hcap : n.toNatClampNeg ≤ cap) (hb : cap * 8 ≤ 536870912) (hc : cells + 1 ≤ R.cells) (hl : slots + cap ≤ R.slots) {ad : String} (had : "[" ++ (newarray.typeOf aty).toString = ad) :
    ∃ T' h', Stand p l e R s m args below meth c T' locs (cells + 1) (slots + cap) ∧ T'.heap = h' ∧ Ext h h' ∧ own_Arf Z h' h.size (newarray.typeOf aty) n.toNatClampNeg (fun _ => defaultValue (newarray.typeOf aty)) ∧ Exa Z h' h.size ad ∧
      ∀ target, Steps p.tables e below (T'.setTop { g with pc := g.pc + 2, stack := .ref h.size :: rest }) target → Steps p.tables e below (T.setTop g) target := by
  obtain ⟨T', h', cA, X', e', E', A', Ex, st⟩ := newPE X hx hZ w eT hg hd hs hn hcap hb hc hl had
  refine ⟨T', h', X', e', E', ⟨_, A', sz_new _ _ _, fun j hj => ?_⟩, Ex, st⟩
  simp [newA, hj]
theorem own_cloneA (X : Stand p l e R s m args below meth c T locs cells slots) (hx : p.tables.exec = Jvm.exec) (hZ : Z.Warmed39 s.vm) {own ad : String} {index : Nat} (hown : s.vm.findClass own = some m.cls)
    (w1 : (Jvm.Cond.methodLink own index ⟨ad, "clone", "()Ljava/lang/Object;"⟩).before a0 Z = true) (w2 : (Jvm.Cond.sameMethod ad "java/lang/Object" "clone" "()Ljava/lang/Object;").before a0 Z = true) (w3 : (Jvm.Cond.native ⟨"java/lang/Object", "clone", "()Ljava/lang/Object;"⟩).before a0 Z = true)
    (w4 : (Jvm.Cond.instanceMethod ⟨"java/lang/Object", "clone", "()Ljava/lang/Object;"⟩).before a0 Z = true) (w5 : (Jvm.Cond.selects ad ⟨ad, "clone", "()Ljava/lang/Object;"⟩ ⟨"java/lang/Object", "clone", "()Ljava/lang/Object;"⟩).before a0 Z = true) (w6 : (Jvm.Cond.castable ad "java/lang/Cloneable").before a0 Z = true)
    (eT : T.heap = h) {a : Addr} {ty : FieldType} {n : Nat} {f : Nat → Value} (A : own_Arf Z h a ty n f) (E : Exa Z h a ad) (hfit : ∀ k, k < n → fits ty (f k) = true) {g : JFrame} (hg : g.method = m) (hsize : g.locals.size = c.maxLocals) {rest : List Value} (hs : g.stack = .ref a :: rest) (hd : decode c.code g.pc = .ok (.invokevirtual index, 3))
    (hf : 1 ≤ R.frames) {W : Nat} (hW : 2 * g.monitorRoom + (rest.map fun v => v.category).sum ≤ W) (hl : W + 14 ≤ R.locals) (hc : cells + 1 ≤ R.cells) (hsl : slots + n ≤ R.slots) :
    ∃ T' h', Stand p l e R s m args below meth c T' locs (cells + 1) (slots + n) ∧ T'.heap = h' ∧ Ext h h' ∧ own_Arf Z h' h.size ty n f ∧ Exa Z h' h.size ad ∧
      ∀ target, Steps p.tables e below (T'.setTop { g with pc := g.pc + 3, stack := .ref h.size :: rest }) target → Steps p.tables e below (T.setTop g) target := by
  obtain ⟨cl, A1, A2, A3⟩ := A
  have FC : FitC Z cl := fitC_of A1 fun i hi v hv => by
    rw [A3 i (by omega)] at hv
    cases hv
    exact hfit i (by omega)
  obtain ⟨T', h', X', e', ex, A', E', st⟩ := cloneA X hx hZ hown w1 w2 w3 w4 w5 w6 eT A1 E FC hg hsize hs hd hf hW hl (Nat.le_of_eq A2) hc hsl
  exact ⟨T', h', X', e', ex, ⟨cloneOf cl, A', A2, A3⟩, E', st⟩
theorem own_len (X : Stand p l e R s m args below meth c T locs cells slots) (hx : p.tables.exec = Jvm.exec) (hZ : Z.Warmed39 s.vm) (eT : T.heap = h) {a : Addr} {ty : FieldType} {n : Nat} {f : Nat → Value} (A : own_Arf Z h a ty n f) {g : JFrame} (hg : g.method = m) {rest : List Value} (hs : g.stack = .ref a :: rest) (hd : decode c.code g.pc = .ok (.arraylength, 1)) :
    ∀ t, Steps p.tables e below (T.setTop { g with pc := g.pc + 1, stack := .int n.toInt32 :: rest }) t → Steps p.tables e below (T.setTop g) t := by
  obtain ⟨cl, A1, A2, A3⟩ := A
  intro t k
  subst A2
  exact X.arraylength hx (by rw [eT]; exact A1.1) (State.isArrayOf_alike hZ.alike A1.2.1) hg hs hd _ k
theorem own_ldI (X : Stand p l e R s m args below meth c T locs cells slots) (hx : p.tables.exec = Jvm.exec) (hZ : Z.Warmed39 s.vm) (eT : T.heap = h) {a : Addr} {n : Nat} {f : Nat → Int32} (A : own_Arf Z h a .int n (fun k => .int (f k))) {j : Int32} (q : 0 ≤ j.toInt ∧ j.toInt < (n : Int)) {g : JFrame} (hg : g.method = m) {rest : List Value} (hs : g.stack = .int j :: .ref a :: rest) (hd : decode c.code g.pc = .ok (.iaload, 1)) :
    ∀ t, Steps p.tables e below (T.setTop { g with pc := g.pc + 1, stack := .int (f j.toNatClampNeg) :: rest }) t → Steps p.tables e below (T.setTop g) t := by
  obtain ⟨cl, A1, A2, A3⟩ := A
  exact fun t k => X.iaload hx (by rw [eT]; exact A1.1) (State.isArrayOf_alike hZ.alike A1.2.1) A1.2.2 (own_inb A2 q) (A3 _ (own_idx q)) hg hs hd _ k
theorem own_ldJ (X : Stand p l e R s m args below meth c T locs cells slots) (hx : p.tables.exec = Jvm.exec) (hZ : Z.Warmed39 s.vm) (eT : T.heap = h) {a : Addr} {n : Nat} {f : Nat → Int64} (A : own_Arf Z h a .long n (fun k => .long (f k))) {j : Int32} (q : 0 ≤ j.toInt ∧ j.toInt < (n : Int)) {g : JFrame} (hg : g.method = m) {rest : List Value} (hs : g.stack = .int j :: .ref a :: rest) (hd : decode c.code g.pc = .ok (.laload, 1)) :
    ∀ t, Steps p.tables e below (T.setTop { g with pc := g.pc + 1, stack := .long (f j.toNatClampNeg) :: rest }) t → Steps p.tables e below (T.setTop g) t := by
  obtain ⟨cl, A1, A2, A3⟩ := A
  exact fun t k => X.laload hx (by rw [eT]; exact A1.1) (State.isArrayOf_alike hZ.alike A1.2.1) A1.2.2 (own_inb A2 q) (A3 _ (own_idx q)) hg hs hd _ k
theorem own_ldC (X : Stand p l e R s m args below meth c T locs cells slots) (hx : p.tables.exec = Jvm.exec) (hZ : Z.Warmed39 s.vm) (eT : T.heap = h) {a : Addr} {n : Nat} {f : Nat → Int32} (A : own_Arf Z h a .char n (fun k => .int (f k))) {j : Int32} (q : 0 ≤ j.toInt ∧ j.toInt < (n : Int)) {g : JFrame} (hg : g.method = m) {rest : List Value} (hs : g.stack = .int j :: .ref a :: rest) (hd : decode c.code g.pc = .ok (.caload, 1)) :
    ∀ t, Steps p.tables e below (T.setTop { g with pc := g.pc + 1, stack := .int (f j.toNatClampNeg) :: rest }) t → Steps p.tables e below (T.setTop g) t := by
  obtain ⟨cl, A1, A2, A3⟩ := A
  exact fun t k => X.caload hx (by rw [eT]; exact A1.1) (State.isArrayOf_alike hZ.alike A1.2.1) A1.2.2 (own_inb A2 q) (A3 _ (own_idx q)) hg hs hd _ k
theorem own_ldS (X : Stand p l e R s m args below meth c T locs cells slots) (hx : p.tables.exec = Jvm.exec) (hZ : Z.Warmed39 s.vm) (eT : T.heap = h) {a : Addr} {n : Nat} {f : Nat → Int32} (A : own_Arf Z h a .short n (fun k => .int (f k))) {j : Int32} (q : 0 ≤ j.toInt ∧ j.toInt < (n : Int)) {g : JFrame} (hg : g.method = m) {rest : List Value} (hs : g.stack = .int j :: .ref a :: rest) (hd : decode c.code g.pc = .ok (.saload, 1)) :
    ∀ t, Steps p.tables e below (T.setTop { g with pc := g.pc + 1, stack := .int (f j.toNatClampNeg) :: rest }) t → Steps p.tables e below (T.setTop g) t := by
  obtain ⟨cl, A1, A2, A3⟩ := A
  exact fun t k => X.saload hx (by rw [eT]; exact A1.1) (State.isArrayOf_alike hZ.alike A1.2.1) A1.2.2 (own_inb A2 q) (A3 _ (own_idx q)) hg hs hd _ k
theorem own_ldB (X : Stand p l e R s m args below meth c T locs cells slots) (hx : p.tables.exec = Jvm.exec) (hZ : Z.Warmed39 s.vm) (eT : T.heap = h) {a : Addr} {n : Nat} {f : Nat → Int32} (A : own_Arf Z h a .byte n (fun k => .int (f k))) {j : Int32} (q : 0 ≤ j.toInt ∧ j.toInt < (n : Int)) {g : JFrame} (hg : g.method = m) {rest : List Value} (hs : g.stack = .int j :: .ref a :: rest) (hd : decode c.code g.pc = .ok (.baload, 1)) :
    ∀ t, Steps p.tables e below (T.setTop { g with pc := g.pc + 1, stack := .int (f j.toNatClampNeg) :: rest }) t → Steps p.tables e below (T.setTop g) t := by
  obtain ⟨cl, A1, A2, A3⟩ := A
  exact fun t k => X.baloadBytes hx (by rw [eT]; exact A1.1) (State.isArrayOf_alike hZ.alike A1.2.1) A1.2.2 (own_inb A2 q) (A3 _ (own_idx q)) hg hs hd _ k
theorem own_ldR (X : Stand p l e R s m args below meth c T locs cells slots) (hx : p.tables.exec = Jvm.exec) (hZ : Z.Warmed39 s.vm) (eT : T.heap = h) {a : Addr} {ty : FieldType} (hty : ty.isReference = true) {n : Nat} {f : Nat → Value} (A : own_Arf Z h a ty n f) {j : Int32} (q : 0 ≤ j.toInt ∧ j.toInt < (n : Int)) {g : JFrame} (hg : g.method = m) {rest : List Value} (hs : g.stack = .int j :: .ref a :: rest) (hd : decode c.code g.pc = .ok (.aaload, 1)) :
    ∀ t, Steps p.tables e below (T.setTop { g with pc := g.pc + 1, stack := f j.toNatClampNeg :: rest }) t → Steps p.tables e below (T.setTop g) t := by
  obtain ⟨cl, A1, A2, A3⟩ := A
  exact fun t k => X.aaload hx (by rw [eT]; exact A1.1) (State.isArrayOf_alike hZ.alike A1.2.1) hty A1.2.2 (own_inb A2 q) (A3 _ (own_idx q)) hg hs hd _ k
theorem own_stI (X : Stand p l e R s m args below meth c T locs cells slots) (hx : p.tables.exec = Jvm.exec) (hZ : Z.Warmed39 s.vm) (eT : T.heap = h) {a : Addr} {n : Nat} {f : Nat → Int32} (A : own_Arf Z h a .int n (fun k => .int (f k))) {j x : Int32} (q : 0 ≤ j.toInt ∧ j.toInt < (n : Int)) {g : JFrame} (hg : g.method = m) {rest : List Value} (hs : g.stack = .int x :: .int j :: .ref a :: rest) (hd : decode c.code g.pc = .ok (.iastore, 1)) :
    ∃ T' h', Stand p l e R s m args below meth c T' (locs ++ [⟨a, j.toNatClampNeg⟩]) cells slots ∧ T'.heap = h' ∧ Wr h h' a j.toNatClampNeg (.int x) ∧ own_Arf Z h' a .int n (fun k => .int (if k = j.toNatClampNeg then x else f k)) ∧ ∀ t, Steps p.tables e below (T'.setTop { g with pc := g.pc + 1, stack := rest }) t → Steps p.tables e below (T.setTop g) t := by
  obtain ⟨cl, A1, A2, A3⟩ := id A
  obtain ⟨T', h', X', e', W, st⟩ := stI X hx hZ eT A1 (own_inb A2 q) hg hs hd
  exact ⟨T', h', X', e', W, own_Arf.setI A W, st⟩
theorem own_stJ (X : Stand p l e R s m args below meth c T locs cells slots) (hx : p.tables.exec = Jvm.exec) (hZ : Z.Warmed39 s.vm) (eT : T.heap = h) {a : Addr} {n : Nat} {f : Nat → Int64} (A : own_Arf Z h a .long n (fun k => .long (f k))) {j : Int32} {x : Int64} (q : 0 ≤ j.toInt ∧ j.toInt < (n : Int)) {g : JFrame} (hg : g.method = m) {rest : List Value} (hs : g.stack = .long x :: .int j :: .ref a :: rest) (hd : decode c.code g.pc = .ok (.lastore, 1)) :
    ∃ T' h', Stand p l e R s m args below meth c T' (locs ++ [⟨a, j.toNatClampNeg⟩]) cells slots ∧ T'.heap = h' ∧ Wr h h' a j.toNatClampNeg (.long x) ∧ own_Arf Z h' a .long n (fun k => .long (if k = j.toNatClampNeg then x else f k)) ∧ ∀ t, Steps p.tables e below (T'.setTop { g with pc := g.pc + 1, stack := rest }) t → Steps p.tables e below (T.setTop g) t := by
  obtain ⟨cl, A1, A2, A3⟩ := id A
  obtain ⟨T', h', X', e', W, st⟩ := stJ X hx hZ eT A1 (own_inb A2 q) hg hs hd
  exact ⟨T', h', X', e', W, own_Arf.setJ A W, st⟩
theorem own_stC (X : Stand p l e R s m args below meth c T locs cells slots) (hx : p.tables.exec = Jvm.exec) (hZ : Z.Warmed39 s.vm) (eT : T.heap = h) {a : Addr} {n : Nat} {f : Nat → Int32} (A : own_Arf Z h a .char n (fun k => .int (f k))) {j x : Int32} (q : 0 ≤ j.toInt ∧ j.toInt < (n : Int)) {g : JFrame} (hg : g.method = m) {rest : List Value} (hs : g.stack = .int x :: .int j :: .ref a :: rest) (hd : decode c.code g.pc = .ok (.castore, 1)) :
    ∃ T' h', Stand p l e R s m args below meth c T' (locs ++ [⟨a, j.toNatClampNeg⟩]) cells slots ∧ T'.heap = h' ∧ Wr h h' a j.toNatClampNeg (.int (nar .char x)) ∧ own_Arf Z h' a .char n (fun k => .int (if k = j.toNatClampNeg then nar .char x else f k)) ∧ ∀ t, Steps p.tables e below (T'.setTop { g with pc := g.pc + 1, stack := rest }) t → Steps p.tables e below (T.setTop g) t := by
  obtain ⟨cl, A1, A2, A3⟩ := id A
  obtain ⟨T', h', X', e', W, st⟩ := stC X hx hZ eT A1 (own_inb A2 q) hg hs hd
  exact ⟨T', h', X', e', W, own_Arf.setI A W, st⟩
theorem own_stS (X : Stand p l e R s m args below meth c T locs cells slots) (hx : p.tables.exec = Jvm.exec) (hZ : Z.Warmed39 s.vm) (eT : T.heap = h) {a : Addr} {n : Nat} {f : Nat → Int32} (A : own_Arf Z h a .short n (fun k => .int (f k))) {j x : Int32} (q : 0 ≤ j.toInt ∧ j.toInt < (n : Int)) {g : JFrame} (hg : g.method = m) {rest : List Value} (hs : g.stack = .int x :: .int j :: .ref a :: rest) (hd : decode c.code g.pc = .ok (.sastore, 1)) :
    ∃ T' h', Stand p l e R s m args below meth c T' (locs ++ [⟨a, j.toNatClampNeg⟩]) cells slots ∧ T'.heap = h' ∧ Wr h h' a j.toNatClampNeg (.int (nar .short x)) ∧ own_Arf Z h' a .short n (fun k => .int (if k = j.toNatClampNeg then nar .short x else f k)) ∧ ∀ t, Steps p.tables e below (T'.setTop { g with pc := g.pc + 1, stack := rest }) t → Steps p.tables e below (T.setTop g) t := by
  obtain ⟨cl, A1, A2, A3⟩ := id A
  obtain ⟨T', h', X', e', W, st⟩ := stS X hx hZ eT A1 (own_inb A2 q) hg hs hd
  exact ⟨T', h', X', e', W, own_Arf.setI A W, st⟩
theorem own_stB (X : Stand p l e R s m args below meth c T locs cells slots) (hx : p.tables.exec = Jvm.exec) (hZ : Z.Warmed39 s.vm) (eT : T.heap = h) {a : Addr} {n : Nat} {f : Nat → Int32} (A : own_Arf Z h a .byte n (fun k => .int (f k))) {j x : Int32} (q : 0 ≤ j.toInt ∧ j.toInt < (n : Int)) {g : JFrame} (hg : g.method = m) {rest : List Value} (hs : g.stack = .int x :: .int j :: .ref a :: rest) (hd : decode c.code g.pc = .ok (.bastore, 1)) :
    ∃ T' h', Stand p l e R s m args below meth c T' (locs ++ [⟨a, j.toNatClampNeg⟩]) cells slots ∧ T'.heap = h' ∧ Wr h h' a j.toNatClampNeg (.int (nar .byte x)) ∧ own_Arf Z h' a .byte n (fun k => .int (if k = j.toNatClampNeg then nar .byte x else f k)) ∧ ∀ t, Steps p.tables e below (T'.setTop { g with pc := g.pc + 1, stack := rest }) t → Steps p.tables e below (T.setTop g) t := by
  obtain ⟨cl, A1, A2, A3⟩ := id A
  obtain ⟨T', h', X', e', W, st⟩ := stB X hx hZ eT A1 (own_inb A2 q) hg hs hd
  exact ⟨T', h', X', e', W, own_Arf.setI A W, st⟩
theorem own_newR (X : Stand p l e R s m args below meth c T locs cells slots) (hx : p.tables.exec = Jvm.exec) (hZ : Z.Warmed39 s.vm) {own C : String} {index : Nat} (hown : s.vm.findClass own = some m.cls) (w1 : (Jvm.Cond.classLink own index C).before a0 Z = true) (w2 : (Jvm.Cond.arrayOver (.object C)).before a0 Z = true)
    (eT : T.heap = h) {g : JFrame} (hg : g.method = m) (hd : decode c.code g.pc = .ok (.anewarray index, 3)) {n : Int32} {rest : List Value} (hs : g.stack = .int n :: rest) (hn : ¬ n < 0) {cap : Nat} (hcap : n.toNatClampNeg ≤ cap) (hb : cap * 8 ≤ 536870912) (hc : cells + 1 ≤ R.cells) (hl : slots + cap ≤ R.slots) :
    ∃ T' h', Stand p l e R s m args below meth c T' locs (cells + 1) (slots + cap) ∧ T'.heap = h' ∧ Ext h h' ∧ (∃ cl : Cell, h'[h.size]? = some cl ∧ Ovr Z cl.cls C) ∧ own_Arf Z h' h.size (.object C) n.toNatClampNeg (fun _ => .null) ∧
      ∀ target, Steps p.tables e below (T'.setTop { g with pc := g.pc + 3, stack := .ref h.size :: rest }) target → Steps p.tables e below (T.setTop g) target := by
  obtain ⟨T', h', cA, X', e', E', A', O', st⟩ := newR X hx hZ hown w1 w2 eT hg hd hs hn hcap hb hc hl
  refine ⟨T', h', X', e', E', ⟨_, A'.1, O'⟩, ⟨_, A', sz_new _ _ _, fun j hj => ?_⟩, st⟩
  simp [newA, hj, defaultValue]
/-- an array of objects of C: the class of the array is C's -/
def own_Ovr (Z : State) (h : Heap) (a : Addr) (C : String) : Prop := ∃ cl : Cell, h[a]? = some cl ∧ Ovr Z cl.cls C
theorem own_Ovr.ext {a : Addr} {C : String} (F : own_Ovr Z h a C) (E : Ext h h') : own_Ovr Z h' a C := by obtain ⟨cl, h1, h2⟩ := F; exact ⟨cl, E.2 _ _ h1, h2⟩
theorem own_Ovr.wr {a b : Addr} {C : String} {sl : Nat} {v : Value} (F : own_Ovr Z h a C) (W : Wr h h' b sl v) : own_Ovr Z h' a C := by
  obtain ⟨cl, h1, h2⟩ := F
  obtain ⟨c', e1, e2, -⟩ := wr_at W h1
  exact ⟨c', e1, by rw [e2]; exact h2⟩
theorem own_Ovr.keep {a : Addr} {C : String} {ws : List Addr} (F : own_Ovr Z h a C) (K : Keep h h' ws) : own_Ovr Z h' a C := by
  obtain ⟨cl, h1, h2⟩ := F
  obtain ⟨c', e1, e2, -⟩ := K.2.2 _ _ h1
  exact ⟨c', e1, by rw [e2]; exact h2⟩
theorem own_stR (X : Stand p l e R s m args below meth c T locs cells slots) (hx : p.tables.exec = Jvm.exec) (hZ : Z.Warmed39 s.vm) (eT : T.heap = h) {a : Addr} {C : String} {n : Nat} {f : Nat → Value} (A : own_Arf Z h a (.object C) n f) (O : own_Ovr Z h a C) {j : Int32} {v : Value} (I : v = .null ∨ ∃ y, v = .ref y ∧ Ins Z h y C true) (q : 0 ≤ j.toInt ∧ j.toInt < (n : Int)) {g : JFrame} (hg : g.method = m) {rest : List Value} (hs : g.stack = v :: .int j :: .ref a :: rest) (hd : decode c.code g.pc = .ok (.aastore, 1)) :
    ∃ T' h', Stand p l e R s m args below meth c T' (locs ++ [⟨a, j.toNatClampNeg⟩]) cells slots ∧ T'.heap = h' ∧ Wr h h' a j.toNatClampNeg v ∧ own_Arf Z h' a (.object C) n (fun k => if k = j.toNatClampNeg then v else f k) ∧ own_Ovr Z h' a C ∧ ∀ t, Steps p.tables e below (T'.setTop { g with pc := g.pc + 1, stack := rest }) t → Steps p.tables e below (T.setTop g) t := by
  obtain ⟨cl, A1, A2, A3⟩ := id A
  obtain ⟨cl2, o1, o2⟩ := id O
  cases A1.1.symm.trans o1
  have F : Sto Z h a v := by
    rcases I with rfl | ⟨y, rfl, I⟩
    · exact Or.inl rfl
    · exact Sto.of A1 o2 I
  obtain ⟨T', h', X', e', W, st⟩ := stR X hx hZ eT A1 (own_inb A2 q) rfl F hg hs hd
  exact ⟨T', h', X', e', W, own_Arf.set A W, O.wr W, st⟩
end OwnKit
def own_term (c p : Int) : Int := if c = 13 then 1 else if c = 10 then (if p = 13 then 0 else 1) else 0
def own_at (F : Nat → Int) (b : Int) (i fr : Nat) (to : Int) : Int := if (i : Int) < fr ∨ to ≤ i then 0 else if i = fr then own_term (F i) b else own_term (F i) (F (i - 1))
def own_le (F : Nat → Int) (p : Int) (i : Nat) : Nat → Int
  | 0 => 0
  | k + 1 => own_term (F i) p + own_le F (F i) (i + 1) k
theorem own_le_succ (F : Nat → Int) (p : Int) (i k : Nat) : own_le F p i (k + 1) = own_term (F i) p + own_le F (F i) (i + 1) k := rfl
theorem own_inc (j : Int32) (h : j.toInt < 2147483647) : (j + (1 : Int32)).toInt = j.toInt + 1 := by
  have h1 := c_iadd j 1
  have h2 := rng32 (j + 1)
  have h3 := rng32 j
  have h4 : (1 : Int32).toInt = 1 := by decide
  omega
theorem own_nat {j : Int32} (h : 0 ≤ j.toInt) : (j.toNatClampNeg : Int) = j.toInt := by show (j.toInt.toNat : Int) = _; omega
theorem own_ind {j : Int32} (h : 0 ≤ j.toInt) (h1 : (j + (1 : Int32)).toInt = j.toInt + 1) : (j + (1 : Int32)).toNatClampNeg = j.toNatClampNeg + 1 := by
  show (j + (1 : Int32)).toInt.toNat = j.toInt.toNat + 1
  rw [h1]; omega
theorem own_dec' {j : Int32} (h : 0 < j.toInt ∧ j.toInt < 4) : (j - (1 : Int32)).toInt = j.toInt - 1 := by
  have h1 := c_isub j 1
  have h2 := rng32 (j - 1)
  have h4 : (1 : Int32).toInt = 1 := by decide
  omega
theorem own_dec {j : Int32} (h : 0 < j.toInt ∧ j.toInt < 4) : 0 ≤ (j - (1 : Int32)).toInt ∧ (j - (1 : Int32)).toInt < (4 : Nat) := by
  have := own_dec' h
  omega
theorem own_m1 {j : Int32} (h : 0 < j.toInt ∧ j.toInt < 4) : j.toNatClampNeg - 1 = (j - (1 : Int32)).toNatClampNeg := by
  show j.toInt.toNat - 1 = (j - (1 : Int32)).toInt.toNat
  rw [own_dec' h]; omega
theorem own_rem5 (x : Int32) : 0 ≤ ((x &&& (255 : Int32)) % (5 : Int32)).toInt ∧ ((x &&& (255 : Int32)) % (5 : Int32)).toInt ≤ 4 := by
  have h1 : (x &&& (255 : Int32)).toInt = x.toInt % 256 := c_mask x 255 8 (by decide) (by decide)
  have h2 := (c_irem (x &&& (255 : Int32)) 5 5 (by decide)).1 (by omega)
  omega
theorem own_sub5 {f : Int32} (h : 0 ≤ f.toInt ∧ f.toInt ≤ 4) : ((5 : Int32) - f).toInt = 5 - f.toInt := by
  have h1 := c_isub 5 f
  have h2 := rng32 ((5 : Int32) - f)
  have h3 : (5 : Int32).toInt = 5 := by decide
  omega
theorem own_nz5 {f : Int32} (h : 0 ≤ f.toInt ∧ f.toInt ≤ 4) : (5 : Int32) - f ≠ 0 := fun q => by
  have h1 := own_sub5 h
  rw [q] at h1
  have h3 : (0 : Int32).toInt = 0 := by decide
  omega
theorem own_t5 (f x : Int32) (h : 0 ≤ f.toInt ∧ f.toInt ≤ 4) : f.toInt ≤ (f + ((((x.toUInt32 >>> ((8 : Int32) &&& 31).toUInt32).toInt32) &&& (255 : Int32)) % ((5 : Int32) - f))).toInt ∧ (f + ((((x.toUInt32 >>> ((8 : Int32) &&& 31).toUInt32).toInt32) &&& (255 : Int32)) % ((5 : Int32) - f))).toInt ≤ 4 := by
  generalize ((x.toUInt32 >>> ((8 : Int32) &&& 31).toUInt32).toInt32) = y
  have h1 : (y &&& (255 : Int32)).toInt = y.toInt % 256 := c_mask y 255 8 (by decide) (by decide)
  have h2 := own_sub5 h
  have h3 := (c_iremV (y &&& (255 : Int32)) ((5 : Int32) - f)).1 (by omega) (by omega)
  have h4 := c_iadd f ((y &&& (255 : Int32)) % ((5 : Int32) - f))
  have h5 := rng32 (f + ((y &&& (255 : Int32)) % ((5 : Int32) - f)))
  omega
theorem own_term_rng (c p : Int) : 0 ≤ own_term c p ∧ own_term c p ≤ 1 := by unfold own_term; repeat' split; all_goals omega
theorem own_at_rng (F : Nat → Int) (b : Int) (i fr : Nat) (to : Int) : 0 ≤ own_at F b i fr to ∧ own_at F b i fr to ≤ 1 := by
  unfold own_at
  split
  · omega
  · split <;> exact own_term_rng _ _
theorem own_law' (F : Nat → Int) (b : Int) (fr to : Nat) (h1 : fr ≤ to) (h2 : to ≤ 4) : own_le F b fr (to - fr) = own_at F b 0 fr to + own_at F b 1 fr to + own_at F b 2 fr to + own_at F b 3 fr to := by
  have e1 : fr = 0 ∨ fr = 1 ∨ fr = 2 ∨ fr = 3 ∨ fr = 4 := by omega
  have e2 : to = 0 ∨ to = 1 ∨ to = 2 ∨ to = 3 ∨ to = 4 := by omega
  rcases e1 with rfl | rfl | rfl | rfl | rfl <;> rcases e2 with rfl | rfl | rfl | rfl | rfl <;> first | (exfalso; omega) | (simp [own_le, own_at]; done) | (simp [own_le, own_at]; omega)
theorem own_law {F : Nat → Int} {fr to b r0 r1 r2 r3 r : Int32} (hf : 0 ≤ fr.toInt ∧ fr.toInt ≤ 4) (ht : fr.toInt ≤ to.toInt ∧ to.toInt ≤ 4) (h0 : r0.toInt = own_at F b.toInt (0 : Int32).toNatClampNeg fr.toNatClampNeg to.toInt) (h1 : r1.toInt = own_at F b.toInt (1 : Int32).toNatClampNeg fr.toNatClampNeg to.toInt) (h2 : r2.toInt = own_at F b.toInt (2 : Int32).toNatClampNeg fr.toNatClampNeg to.toInt) (h3 : r3.toInt = own_at F b.toInt (3 : Int32).toNatClampNeg fr.toNatClampNeg to.toInt) (h : r.toInt = own_le F b.toInt fr.toNatClampNeg (to.toInt - fr.toInt).toNat) : r = (((r0 + r1) + r2) + r3) := by
  have a := own_law' F b.toInt fr.toInt.toNat to.toInt.toNat (by omega) (by omega)
  have e : to.toInt.toNat - fr.toInt.toNat = (to.toInt - fr.toInt).toNat := by omega
  have e' : (to.toInt.toNat : Int) = to.toInt := by omega
  rw [e, e'] at a
  change r0.toInt = own_at F b.toInt 0 fr.toInt.toNat to.toInt at h0
  change r1.toInt = own_at F b.toInt 1 fr.toInt.toNat to.toInt at h1
  change r2.toInt = own_at F b.toInt 2 fr.toInt.toNat to.toInt at h2
  change r3.toInt = own_at F b.toInt 3 fr.toInt.toNat to.toInt at h3
  change r.toInt = own_le F b.toInt fr.toInt.toNat (to.toInt - fr.toInt).toNat at h
  rw [a] at h
  have g0 := own_at_rng F b.toInt 0 fr.toInt.toNat to.toInt
  have g1 := own_at_rng F b.toInt 1 fr.toInt.toNat to.toInt
  have g2 := own_at_rng F b.toInt 2 fr.toInt.toNat to.toInt
  have g3 := own_at_rng F b.toInt 3 fr.toInt.toNat to.toInt
  apply Int32.toInt_inj.mp
  have a1 := c_iadd r0 r1
  have a2 := rng32 (r0 + r1)
  have a3 := c_iadd (r0 + r1) r2
  have a4 := rng32 (r0 + r1 + r2)
  have a5 := c_iadd (r0 + r1 + r2) r3
  have a6 := rng32 (r0 + r1 + r2 + r3)
  omega
theorem own_pn0 : plainFor (⟨"com/example/resolvent/resolvent/text/DecodingReaderLineEndsPinLaw", "term", "(CC)I"⟩ : MethodName) = true := by first | exact plainFor_of_name (by simp [plainName, overriddenIn]; done) | decide +kernel
theorem own_d3_0 : decode method_2_code 0 = .ok (.iconst 0, 1) := by decide +kernel
theorem own_d3_1 : decode method_2_code 1 = .ok (.istore_n 2, 1) := by decide +kernel
theorem own_d3_2 : decode method_2_code 2 = .ok (.iload_n 0, 1) := by decide +kernel
theorem own_d3_3 : decode method_2_code 3 = .ok (.bipush 13, 2) := by decide +kernel
theorem own_d3_5 : decode method_2_code 5 = .ok (.if_icmp .ne 7, 3) := by decide +kernel
theorem own_d3_8 : decode method_2_code 8 = .ok (.iload_n 2, 1) := by decide +kernel
theorem own_d3_9 : decode method_2_code 9 = .ok (.iconst 1, 1) := by decide +kernel
theorem own_d3_10 : decode method_2_code 10 = .ok (.iadd, 1) := by decide +kernel
theorem own_d3_11 : decode method_2_code 11 = .ok (.istore_n 2, 1) := by decide +kernel
theorem own_d3_12 : decode method_2_code 12 = .ok (.iload_n 0, 1) := by decide +kernel
theorem own_d3_13 : decode method_2_code 13 = .ok (.bipush 10, 2) := by decide +kernel
theorem own_d3_15 : decode method_2_code 15 = .ok (.if_icmp .ne 7, 3) := by decide +kernel
theorem own_d3_18 : decode method_2_code 18 = .ok (.iload_n 2, 1) := by decide +kernel
theorem own_d3_19 : decode method_2_code 19 = .ok (.iconst 1, 1) := by decide +kernel
theorem own_d3_20 : decode method_2_code 20 = .ok (.iadd, 1) := by decide +kernel
theorem own_d3_21 : decode method_2_code 21 = .ok (.istore_n 2, 1) := by decide +kernel
theorem own_d3_22 : decode method_2_code 22 = .ok (.iload_n 0, 1) := by decide +kernel
theorem own_d3_23 : decode method_2_code 23 = .ok (.bipush 10, 2) := by decide +kernel
theorem own_d3_25 : decode method_2_code 25 = .ok (.if_icmp .ne 13, 3) := by decide +kernel
theorem own_d3_28 : decode method_2_code 28 = .ok (.iload_n 1, 1) := by decide +kernel
theorem own_d3_29 : decode method_2_code 29 = .ok (.bipush 13, 2) := by decide +kernel
theorem own_d3_31 : decode method_2_code 31 = .ok (.if_icmp .ne 7, 3) := by decide +kernel
theorem own_d3_34 : decode method_2_code 34 = .ok (.iload_n 2, 1) := by decide +kernel
theorem own_d3_35 : decode method_2_code 35 = .ok (.iconst 1, 1) := by decide +kernel
theorem own_d3_36 : decode method_2_code 36 = .ok (.isub, 1) := by decide +kernel
theorem own_d3_37 : decode method_2_code 37 = .ok (.istore_n 2, 1) := by decide +kernel
theorem own_d3_38 : decode method_2_code 38 = .ok (.iload_n 2, 1) := by decide +kernel
theorem own_d3_39 : decode method_2_code 39 = .ok (.ireturn, 1) := by decide +kernel
theorem own_ef_rmT (m : MethodId) (p1 : Int32) (p2 : Int32) : entryFrame m #[(.int p1), (.int p2)] 3 = mkF m 0 #[iv p1, iv p2, .unset] [] := by first | (simp [entryFrame, mkF, argsToLocals, Value.category, maxLocals]; done) | rfl
abbrev own_Q_rmT (Z : State) (p1 : Int32) (p2 : Int32) (h0 : Heap) (n0 : Nat) (v : Option Value) (h : Heap) (L : List Loc) : Prop := ∃ r : Int32, v = some (.int r) ∧ r.toInt = own_term p1.toInt p2.toInt ∧ Fr n0 L ∧ h = h0
set_option maxRecDepth 65536 in
set_option maxHeartbeats 40000000 in
theorem rmT (l : Launch) (Z : State) (a0 : Array Value) (hw : ∀ d ∈ tables_1, d.before a0 Z = true) (ws : List Jvm.Cond) (p1 : Int32) (p2 : Int32) (h0 : Heap) (n0 : Nat) (Z0 : n0 ≤ h0.size) :
    MetFree l (⟨"com/example/resolvent/resolvent/text/DecodingReaderLineEndsPinLaw", "term", "(CC)I"⟩ : MethodName) (head1 (Jvm.Cond.code (⟨"com/example/resolvent/resolvent/text/DecodingReaderLineEndsPinLaw", "term", "(CC)I"⟩ : MethodName) method_2_code 3 (some .int) :: ws) ({ frames := 0, cells := 0, slots := 0, locals := 0 } : Room)) (fun a U => a = #[(.int p1), (.int p2)] ∧ Z.Warmed39 U.vm ∧ U.heap = h0) (fun _ _ _ _ _ => True) (fun _ U o U' => ∃ v L, o = .returned v ∧ own_Q_rmT Z p1 p2 h0 n0 v U'.heap L ∧ FrameEnd U o U' L ({ frames := 0, cells := 0, slots := 0, locals := 0 } : Room).cells ({ frames := 0, cells := 0, slots := 0, locals := 0 } : Room).slots) := by
  refine own_enter (Q := fun v h L => own_Q_rmT Z p1 p2 h0 n0 v h L) (F := fun m => mkF m 0 #[iv p1, iv p2, .unset] []) own_pn0 (fun m => own_ef_rmT m p1 p2) ?_
  intro p e s m below meth c T X hx hby hml hret hlk hnm hown hZ e0
  show own_Goes p e below s _ _ (T.setTop (mkF m 0 #[iv p1, iv p2, .unset] []))
  have N0 := Fr.nil n0
  refine own_st (fun _ k => XS.iconst X.here hx rfl (hb hby own_d3_0) k) ?_
  show own_Goes p e below s _ _ (T.setTop (mkF m 1 #[iv p1, iv p2, .unset] [(.int (0 : Int32))]))
  refine own_st (fun _ k => XS.istoreN X.here hx rfl (hb hby own_d3_1) rfl (l' := #[iv p1, iv p2, iv (0 : Int32)]) rfl k) ?_
  show own_Goes p e below s _ _ (T.setTop (mkF m 2 #[iv p1, iv p2, iv (0 : Int32)] []))
  refine own_st (fun _ k => XS.iloadN X.here hx rfl (hb hby own_d3_2) rfl  k) ?_
  show own_Goes p e below s _ _ (T.setTop (mkF m 3 #[iv p1, iv p2, iv (0 : Int32)] [(.int p1)]))
  refine own_st (fun _ k => XS.bipush X.here hx rfl (hb hby own_d3_3) k) ?_
  show own_Goes p e below s _ _ (T.setTop (mkF m 5 #[iv p1, iv p2, iv (0 : Int32)] [(.int (13 : Int32)), (.int p1)]))
  by_cases c101 : p1 = (13 : Int32)
  · have c101i : p1.toInt = 13 := own_i_eq c101
    refine own_st (fun _ k => XS.icmpNo X.here hx rfl (hb hby own_d3_5) rfl (teq c101).2 k) ?_
    show own_Goes p e below s _ _ (T.setTop (mkF m 8 #[iv p1, iv p2, iv (0 : Int32)] []))
    refine own_st (fun _ k => XS.iloadN X.here hx rfl (hb hby own_d3_8) rfl  k) ?_
    show own_Goes p e below s _ _ (T.setTop (mkF m 9 #[iv p1, iv p2, iv (0 : Int32)] [(.int (0 : Int32))]))
    refine own_st (fun _ k => XS.iconst X.here hx rfl (hb hby own_d3_9) k) ?_
    show own_Goes p e below s _ _ (T.setTop (mkF m 10 #[iv p1, iv p2, iv (0 : Int32)] [(.int (1 : Int32)), (.int (0 : Int32))]))
    refine own_st (fun _ k => XS.iadd X.here hx rfl (hb hby own_d3_10) rfl k) ?_
    show own_Goes p e below s _ _ (T.setTop (mkF m 11 #[iv p1, iv p2, iv (0 : Int32)] [(.int (1 : Int32))]))
    refine own_st (fun _ k => XS.istoreN X.here hx rfl (hb hby own_d3_11) rfl (l' := #[iv p1, iv p2, iv (1 : Int32)]) rfl k) ?_
    show own_Goes p e below s _ _ (T.setTop (mkF m 12 #[iv p1, iv p2, iv (1 : Int32)] []))
    refine own_st (fun _ k => XS.iloadN X.here hx rfl (hb hby own_d3_12) rfl  k) ?_
    show own_Goes p e below s _ _ (T.setTop (mkF m 13 #[iv p1, iv p2, iv (1 : Int32)] [(.int p1)]))
    refine own_st (fun _ k => XS.bipush X.here hx rfl (hb hby own_d3_13) k) ?_
    show own_Goes p e below s _ _ (T.setTop (mkF m 15 #[iv p1, iv p2, iv (1 : Int32)] [(.int (10 : Int32)), (.int p1)]))
    by_cases c102 : p1 = (10 : Int32)
    · have c102i : p1.toInt = 10 := own_i_eq c102
      refine own_st (fun _ k => XS.icmpNo X.here hx rfl (hb hby own_d3_15) rfl (teq c102).2 k) ?_
      show own_Goes p e below s _ _ (T.setTop (mkF m 18 #[iv p1, iv p2, iv (1 : Int32)] []))
      refine own_st (fun _ k => XS.iloadN X.here hx rfl (hb hby own_d3_18) rfl  k) ?_
      show own_Goes p e below s _ _ (T.setTop (mkF m 19 #[iv p1, iv p2, iv (1 : Int32)] [(.int (1 : Int32))]))
      refine own_st (fun _ k => XS.iconst X.here hx rfl (hb hby own_d3_19) k) ?_
      show own_Goes p e below s _ _ (T.setTop (mkF m 20 #[iv p1, iv p2, iv (1 : Int32)] [(.int (1 : Int32)), (.int (1 : Int32))]))
      refine own_st (fun _ k => XS.iadd X.here hx rfl (hb hby own_d3_20) rfl k) ?_
      show own_Goes p e below s _ _ (T.setTop (mkF m 21 #[iv p1, iv p2, iv (1 : Int32)] [(.int (2 : Int32))]))
      refine own_st (fun _ k => XS.istoreN X.here hx rfl (hb hby own_d3_21) rfl (l' := #[iv p1, iv p2, iv (2 : Int32)]) rfl k) ?_
      show own_Goes p e below s _ _ (T.setTop (mkF m 22 #[iv p1, iv p2, iv (2 : Int32)] []))
      refine own_st (fun _ k => XS.iloadN X.here hx rfl (hb hby own_d3_22) rfl  k) ?_
      show own_Goes p e below s _ _ (T.setTop (mkF m 23 #[iv p1, iv p2, iv (2 : Int32)] [(.int p1)]))
      refine own_st (fun _ k => XS.bipush X.here hx rfl (hb hby own_d3_23) k) ?_
      show own_Goes p e below s _ _ (T.setTop (mkF m 25 #[iv p1, iv p2, iv (2 : Int32)] [(.int (10 : Int32)), (.int p1)]))
      refine own_st (fun _ k => XS.icmpNo X.here hx rfl (hb hby own_d3_25) rfl (teq c102).2 k) ?_
      show own_Goes p e below s _ _ (T.setTop (mkF m 28 #[iv p1, iv p2, iv (2 : Int32)] []))
      refine own_st (fun _ k => XS.iloadN X.here hx rfl (hb hby own_d3_28) rfl  k) ?_
      show own_Goes p e below s _ _ (T.setTop (mkF m 29 #[iv p1, iv p2, iv (2 : Int32)] [(.int p2)]))
      refine own_st (fun _ k => XS.bipush X.here hx rfl (hb hby own_d3_29) k) ?_
      show own_Goes p e below s _ _ (T.setTop (mkF m 31 #[iv p1, iv p2, iv (2 : Int32)] [(.int (13 : Int32)), (.int p2)]))
      by_cases c103 : p2 = (13 : Int32)
      · have c103i : p2.toInt = 13 := own_i_eq c103
        refine own_st (fun _ k => XS.icmpNo X.here hx rfl (hb hby own_d3_31) rfl (teq c103).2 k) ?_
        show own_Goes p e below s _ _ (T.setTop (mkF m 34 #[iv p1, iv p2, iv (2 : Int32)] []))
        refine own_st (fun _ k => XS.iloadN X.here hx rfl (hb hby own_d3_34) rfl  k) ?_
        show own_Goes p e below s _ _ (T.setTop (mkF m 35 #[iv p1, iv p2, iv (2 : Int32)] [(.int (2 : Int32))]))
        refine own_st (fun _ k => XS.iconst X.here hx rfl (hb hby own_d3_35) k) ?_
        show own_Goes p e below s _ _ (T.setTop (mkF m 36 #[iv p1, iv p2, iv (2 : Int32)] [(.int (1 : Int32)), (.int (2 : Int32))]))
        refine own_st (fun _ k => XS.isub X.here hx rfl (hb hby own_d3_36) rfl k) ?_
        show own_Goes p e below s _ _ (T.setTop (mkF m 37 #[iv p1, iv p2, iv (2 : Int32)] [(.int (1 : Int32))]))
        refine own_st (fun _ k => XS.istoreN X.here hx rfl (hb hby own_d3_37) rfl (l' := #[iv p1, iv p2, iv (1 : Int32)]) rfl k) ?_
        show own_Goes p e below s _ _ (T.setTop (mkF m 38 #[iv p1, iv p2, iv (1 : Int32)] []))
        refine own_st (fun _ k => XS.iloadN X.here hx rfl (hb hby own_d3_38) rfl  k) ?_
        show own_Goes p e below s _ _ (T.setTop (mkF m 39 #[iv p1, iv p2, iv (1 : Int32)] [(.int (1 : Int32))]))
        exact own_retI X hx hlk hret (hb hby own_d3_39) (by decide) (by decide) ⟨(1 : Int32), rfl, by unfold own_term; have e : (1 : Int32).toInt = 1 := (by decide); rw [e]; repeat' split; all_goals omega, N0, e0⟩
      · have c103i : ¬ p2.toInt = 13 := own_i_ne c103
        refine own_st (fun _ k => XS.icmpYes X.here hx rfl (pc0 := 31) (pc' := 38) rfl (hb hby own_d3_31) rfl (feq c103).2 (by decide) (by decide) k) ?_
        show own_Goes p e below s _ _ (T.setTop (mkF m 38 #[iv p1, iv p2, iv (2 : Int32)] []))
        refine own_st (fun _ k => XS.iloadN X.here hx rfl (hb hby own_d3_38) rfl  k) ?_
        show own_Goes p e below s _ _ (T.setTop (mkF m 39 #[iv p1, iv p2, iv (2 : Int32)] [(.int (2 : Int32))]))
        exact own_retI X hx hlk hret (hb hby own_d3_39) (by decide) (by decide) ⟨(2 : Int32), rfl, by unfold own_term; have e : (2 : Int32).toInt = 2 := (by decide); rw [e]; repeat' split; all_goals omega, N0, e0⟩
    · have c102i : ¬ p1.toInt = 10 := own_i_ne c102
      refine own_st (fun _ k => XS.icmpYes X.here hx rfl (pc0 := 15) (pc' := 22) rfl (hb hby own_d3_15) rfl (feq c102).2 (by decide) (by decide) k) ?_
      show own_Goes p e below s _ _ (T.setTop (mkF m 22 #[iv p1, iv p2, iv (1 : Int32)] []))
      refine own_st (fun _ k => XS.iloadN X.here hx rfl (hb hby own_d3_22) rfl  k) ?_
      show own_Goes p e below s _ _ (T.setTop (mkF m 23 #[iv p1, iv p2, iv (1 : Int32)] [(.int p1)]))
      refine own_st (fun _ k => XS.bipush X.here hx rfl (hb hby own_d3_23) k) ?_
      show own_Goes p e below s _ _ (T.setTop (mkF m 25 #[iv p1, iv p2, iv (1 : Int32)] [(.int (10 : Int32)), (.int p1)]))
      refine own_st (fun _ k => XS.icmpYes X.here hx rfl (pc0 := 25) (pc' := 38) rfl (hb hby own_d3_25) rfl (feq c102).2 (by decide) (by decide) k) ?_
      show own_Goes p e below s _ _ (T.setTop (mkF m 38 #[iv p1, iv p2, iv (1 : Int32)] []))
      refine own_st (fun _ k => XS.iloadN X.here hx rfl (hb hby own_d3_38) rfl  k) ?_
      show own_Goes p e below s _ _ (T.setTop (mkF m 39 #[iv p1, iv p2, iv (1 : Int32)] [(.int (1 : Int32))]))
      exact own_retI X hx hlk hret (hb hby own_d3_39) (by decide) (by decide) ⟨(1 : Int32), rfl, by unfold own_term; have e : (1 : Int32).toInt = 1 := (by decide); rw [e]; repeat' split; all_goals omega, N0, e0⟩
  · have c101i : ¬ p1.toInt = 13 := own_i_ne c101
    refine own_st (fun _ k => XS.icmpYes X.here hx rfl (pc0 := 5) (pc' := 12) rfl (hb hby own_d3_5) rfl (feq c101).2 (by decide) (by decide) k) ?_
    show own_Goes p e below s _ _ (T.setTop (mkF m 12 #[iv p1, iv p2, iv (0 : Int32)] []))
    refine own_st (fun _ k => XS.iloadN X.here hx rfl (hb hby own_d3_12) rfl  k) ?_
    show own_Goes p e below s _ _ (T.setTop (mkF m 13 #[iv p1, iv p2, iv (0 : Int32)] [(.int p1)]))
    refine own_st (fun _ k => XS.bipush X.here hx rfl (hb hby own_d3_13) k) ?_
    show own_Goes p e below s _ _ (T.setTop (mkF m 15 #[iv p1, iv p2, iv (0 : Int32)] [(.int (10 : Int32)), (.int p1)]))
    by_cases c104 : p1 = (10 : Int32)
    · have c104i : p1.toInt = 10 := own_i_eq c104
      refine own_st (fun _ k => XS.icmpNo X.here hx rfl (hb hby own_d3_15) rfl (teq c104).2 k) ?_
      show own_Goes p e below s _ _ (T.setTop (mkF m 18 #[iv p1, iv p2, iv (0 : Int32)] []))
      refine own_st (fun _ k => XS.iloadN X.here hx rfl (hb hby own_d3_18) rfl  k) ?_
      show own_Goes p e below s _ _ (T.setTop (mkF m 19 #[iv p1, iv p2, iv (0 : Int32)] [(.int (0 : Int32))]))
      refine own_st (fun _ k => XS.iconst X.here hx rfl (hb hby own_d3_19) k) ?_
      show own_Goes p e below s _ _ (T.setTop (mkF m 20 #[iv p1, iv p2, iv (0 : Int32)] [(.int (1 : Int32)), (.int (0 : Int32))]))
      refine own_st (fun _ k => XS.iadd X.here hx rfl (hb hby own_d3_20) rfl k) ?_
      show own_Goes p e below s _ _ (T.setTop (mkF m 21 #[iv p1, iv p2, iv (0 : Int32)] [(.int (1 : Int32))]))
      refine own_st (fun _ k => XS.istoreN X.here hx rfl (hb hby own_d3_21) rfl (l' := #[iv p1, iv p2, iv (1 : Int32)]) rfl k) ?_
      show own_Goes p e below s _ _ (T.setTop (mkF m 22 #[iv p1, iv p2, iv (1 : Int32)] []))
      refine own_st (fun _ k => XS.iloadN X.here hx rfl (hb hby own_d3_22) rfl  k) ?_
      show own_Goes p e below s _ _ (T.setTop (mkF m 23 #[iv p1, iv p2, iv (1 : Int32)] [(.int p1)]))
      refine own_st (fun _ k => XS.bipush X.here hx rfl (hb hby own_d3_23) k) ?_
      show own_Goes p e below s _ _ (T.setTop (mkF m 25 #[iv p1, iv p2, iv (1 : Int32)] [(.int (10 : Int32)), (.int p1)]))
      refine own_st (fun _ k => XS.icmpNo X.here hx rfl (hb hby own_d3_25) rfl (teq c104).2 k) ?_
      show own_Goes p e below s _ _ (T.setTop (mkF m 28 #[iv p1, iv p2, iv (1 : Int32)] []))
      refine own_st (fun _ k => XS.iloadN X.here hx rfl (hb hby own_d3_28) rfl  k) ?_
      show own_Goes p e below s _ _ (T.setTop (mkF m 29 #[iv p1, iv p2, iv (1 : Int32)] [(.int p2)]))
      refine own_st (fun _ k => XS.bipush X.here hx rfl (hb hby own_d3_29) k) ?_
      show own_Goes p e below s _ _ (T.setTop (mkF m 31 #[iv p1, iv p2, iv (1 : Int32)] [(.int (13 : Int32)), (.int p2)]))
      by_cases c105 : p2 = (13 : Int32)
      · have c105i : p2.toInt = 13 := own_i_eq c105
        refine own_st (fun _ k => XS.icmpNo X.here hx rfl (hb hby own_d3_31) rfl (teq c105).2 k) ?_
        show own_Goes p e below s _ _ (T.setTop (mkF m 34 #[iv p1, iv p2, iv (1 : Int32)] []))
        refine own_st (fun _ k => XS.iloadN X.here hx rfl (hb hby own_d3_34) rfl  k) ?_
        show own_Goes p e below s _ _ (T.setTop (mkF m 35 #[iv p1, iv p2, iv (1 : Int32)] [(.int (1 : Int32))]))
        refine own_st (fun _ k => XS.iconst X.here hx rfl (hb hby own_d3_35) k) ?_
        show own_Goes p e below s _ _ (T.setTop (mkF m 36 #[iv p1, iv p2, iv (1 : Int32)] [(.int (1 : Int32)), (.int (1 : Int32))]))
        refine own_st (fun _ k => XS.isub X.here hx rfl (hb hby own_d3_36) rfl k) ?_
        show own_Goes p e below s _ _ (T.setTop (mkF m 37 #[iv p1, iv p2, iv (1 : Int32)] [(.int (0 : Int32))]))
        refine own_st (fun _ k => XS.istoreN X.here hx rfl (hb hby own_d3_37) rfl (l' := #[iv p1, iv p2, iv (0 : Int32)]) rfl k) ?_
        show own_Goes p e below s _ _ (T.setTop (mkF m 38 #[iv p1, iv p2, iv (0 : Int32)] []))
        refine own_st (fun _ k => XS.iloadN X.here hx rfl (hb hby own_d3_38) rfl  k) ?_
        show own_Goes p e below s _ _ (T.setTop (mkF m 39 #[iv p1, iv p2, iv (0 : Int32)] [(.int (0 : Int32))]))
        exact own_retI X hx hlk hret (hb hby own_d3_39) (by decide) (by decide) ⟨(0 : Int32), rfl, by unfold own_term; have e : (0 : Int32).toInt = 0 := (by decide); rw [e]; repeat' split; all_goals omega, N0, e0⟩
      · have c105i : ¬ p2.toInt = 13 := own_i_ne c105
        refine own_st (fun _ k => XS.icmpYes X.here hx rfl (pc0 := 31) (pc' := 38) rfl (hb hby own_d3_31) rfl (feq c105).2 (by decide) (by decide) k) ?_
        show own_Goes p e below s _ _ (T.setTop (mkF m 38 #[iv p1, iv p2, iv (1 : Int32)] []))
        refine own_st (fun _ k => XS.iloadN X.here hx rfl (hb hby own_d3_38) rfl  k) ?_
        show own_Goes p e below s _ _ (T.setTop (mkF m 39 #[iv p1, iv p2, iv (1 : Int32)] [(.int (1 : Int32))]))
        exact own_retI X hx hlk hret (hb hby own_d3_39) (by decide) (by decide) ⟨(1 : Int32), rfl, by unfold own_term; have e : (1 : Int32).toInt = 1 := (by decide); rw [e]; repeat' split; all_goals omega, N0, e0⟩
    · have c104i : ¬ p1.toInt = 10 := own_i_ne c104
      refine own_st (fun _ k => XS.icmpYes X.here hx rfl (pc0 := 15) (pc' := 22) rfl (hb hby own_d3_15) rfl (feq c104).2 (by decide) (by decide) k) ?_
      show own_Goes p e below s _ _ (T.setTop (mkF m 22 #[iv p1, iv p2, iv (0 : Int32)] []))
      refine own_st (fun _ k => XS.iloadN X.here hx rfl (hb hby own_d3_22) rfl  k) ?_
      show own_Goes p e below s _ _ (T.setTop (mkF m 23 #[iv p1, iv p2, iv (0 : Int32)] [(.int p1)]))
      refine own_st (fun _ k => XS.bipush X.here hx rfl (hb hby own_d3_23) k) ?_
      show own_Goes p e below s _ _ (T.setTop (mkF m 25 #[iv p1, iv p2, iv (0 : Int32)] [(.int (10 : Int32)), (.int p1)]))
      refine own_st (fun _ k => XS.icmpYes X.here hx rfl (pc0 := 25) (pc' := 38) rfl (hb hby own_d3_25) rfl (feq c104).2 (by decide) (by decide) k) ?_
      show own_Goes p e below s _ _ (T.setTop (mkF m 38 #[iv p1, iv p2, iv (0 : Int32)] []))
      refine own_st (fun _ k => XS.iloadN X.here hx rfl (hb hby own_d3_38) rfl  k) ?_
      show own_Goes p e below s _ _ (T.setTop (mkF m 39 #[iv p1, iv p2, iv (0 : Int32)] [(.int (0 : Int32))]))
      exact own_retI X hx hlk hret (hb hby own_d3_39) (by decide) (by decide) ⟨(0 : Int32), rfl, by unfold own_term; have e : (0 : Int32).toInt = 0 := (by decide); rw [e]; repeat' split; all_goals omega, N0, e0⟩
theorem own_pn1 : plainFor (⟨"com/example/resolvent/resolvent/text/DecodingReaderLineEndsPinLaw", "at", "([CIIIC)I"⟩ : MethodName) = true := by first | exact plainFor_of_name (by simp [plainName, overriddenIn]; done) | decide +kernel
theorem own_d1_0 : decode method_3_code 0 = .ok (.iload_n 1, 1) := by decide +kernel
theorem own_d1_1 : decode method_3_code 1 = .ok (.iload_n 2, 1) := by decide +kernel
theorem own_d1_2 : decode method_3_code 2 = .ok (.if_icmp .lt 8, 3) := by decide +kernel
theorem own_d1_10 : decode method_3_code 10 = .ok (.iconst 0, 1) := by decide +kernel
theorem own_d1_11 : decode method_3_code 11 = .ok (.ireturn, 1) := by decide +kernel
theorem own_d1_5 : decode method_3_code 5 = .ok (.iload_n 1, 1) := by decide +kernel
theorem own_d1_6 : decode method_3_code 6 = .ok (.iload_n 3, 1) := by decide +kernel
theorem own_d1_7 : decode method_3_code 7 = .ok (.if_icmp .lt 5, 3) := by decide +kernel
theorem own_d1_12 : decode method_3_code 12 = .ok (.iload_n 1, 1) := by decide +kernel
theorem own_d1_13 : decode method_3_code 13 = .ok (.iload_n 2, 1) := by decide +kernel
theorem own_d1_14 : decode method_3_code 14 = .ok (.if_icmp .ne 8, 3) := by decide +kernel
theorem own_d1_17 : decode method_3_code 17 = .ok (.iload 4, 2) := by decide +kernel
theorem own_d1_19 : decode method_3_code 19 = .ok (.goto 8, 3) := by decide +kernel
theorem own_d1_27 : decode method_3_code 27 = .ok (.istore 5, 2) := by decide +kernel
theorem own_d1_29 : decode method_3_code 29 = .ok (.aload_n 0, 1) := by decide +kernel
theorem own_d1_30 : decode method_3_code 30 = .ok (.iload_n 1, 1) := by decide +kernel
theorem own_d1_31 : decode method_3_code 31 = .ok (.caload, 1) := by decide +kernel
theorem own_d1_32 : decode method_3_code 32 = .ok (.iload 5, 2) := by decide +kernel
theorem own_d1_34 : decode method_3_code 34 = .ok (.invokestatic 7, 3) := by decide +kernel
theorem own_pd0 : parseMethodDescriptor "(CC)I" = some ⟨[.char, .char], some .int⟩ := by decide +kernel
theorem own_d1_37 : decode method_3_code 37 = .ok (.ireturn, 1) := by decide +kernel
theorem own_d1_22 : decode method_3_code 22 = .ok (.aload_n 0, 1) := by decide +kernel
theorem own_d1_23 : decode method_3_code 23 = .ok (.iload_n 1, 1) := by decide +kernel
theorem own_d1_24 : decode method_3_code 24 = .ok (.iconst 1, 1) := by decide +kernel
theorem own_d1_25 : decode method_3_code 25 = .ok (.isub, 1) := by decide +kernel
theorem own_d1_26 : decode method_3_code 26 = .ok (.caload, 1) := by decide +kernel
theorem own_ef_rmA (m : MethodId) (a0_ : Nat) (p1 : Int32) (p2 : Int32) (p3 : Int32) (p4 : Int32) : entryFrame m #[(.ref a0_), (.int p1), (.int p2), (.int p3), (.int p4)] 6 = mkF m 0 #[rv a0_, iv p1, iv p2, iv p3, iv p4, .unset] [] := by first | (simp [entryFrame, mkF, argsToLocals, Value.category, maxLocals]; done) | rfl
abbrev own_Q_rmA (Z : State) (a0_ : Nat) (p1 : Int32) (p2 : Int32) (p3 : Int32) (p4 : Int32) (f : Nat → Int32) (h0 : Heap) (n0 : Nat) (v : Option Value) (h : Heap) (L : List Loc) : Prop := ∃ r : Int32, v = some (.int r) ∧ r.toInt = own_at (fun k => (f k).toInt) p4.toInt p1.toNatClampNeg p2.toNatClampNeg p3.toInt ∧ Fr n0 L ∧ h = h0
set_option maxRecDepth 65536 in
set_option maxHeartbeats 40000000 in
theorem rmA (l : Launch) (Z : State) (a0 : Array Value) (hw : ∀ d ∈ tables_1, d.before a0 Z = true) (ws : List Jvm.Cond) (a0_ : Nat) (p1 : Int32) (p2 : Int32) (p3 : Int32) (p4 : Int32) (f : Nat → Int32) (h0 : Heap) (n0 : Nat) (Z0 : n0 ≤ h0.size) (V1 : own_Arf Z h0 a0_ .char 4 (fun k => .int (f k))) (hp1 : 0 ≤ p1.toInt ∧ p1.toInt < 4) (hp2 : 0 ≤ p2.toInt) :
    MetFree l (⟨"com/example/resolvent/resolvent/text/DecodingReaderLineEndsPinLaw", "at", "([CIIIC)I"⟩ : MethodName) (head1 (Jvm.Cond.code (⟨"com/example/resolvent/resolvent/text/DecodingReaderLineEndsPinLaw", "at", "([CIIIC)I"⟩ : MethodName) method_3_code 6 (some .int) :: ws) ({ frames := 1, cells := 0, slots := 0, locals := 14 } : Room)) (fun a U => a = #[(.ref a0_), (.int p1), (.int p2), (.int p3), (.int p4)] ∧ Z.Warmed39 U.vm ∧ U.heap = h0) (fun _ _ _ _ _ => True) (fun _ U o U' => ∃ v L, o = .returned v ∧ own_Q_rmA Z a0_ p1 p2 p3 p4 f h0 n0 v U'.heap L ∧ FrameEnd U o U' L ({ frames := 1, cells := 0, slots := 0, locals := 14 } : Room).cells ({ frames := 1, cells := 0, slots := 0, locals := 14 } : Room).slots) := by
  refine own_enter (Q := fun v h L => own_Q_rmA Z a0_ p1 p2 p3 p4 f h0 n0 v h L) (F := fun m => mkF m 0 #[rv a0_, iv p1, iv p2, iv p3, iv p4, .unset] []) own_pn1 (fun m => own_ef_rmA m a0_ p1 p2 p3 p4) ?_
  intro p e s m below meth c T X hx hby hml hret hlk hnm hown hZ e0
  show own_Goes p e below s _ _ (T.setTop (mkF m 0 #[rv a0_, iv p1, iv p2, iv p3, iv p4, .unset] []))
  have N0 := Fr.nil n0
  have hn1 := own_nat hp1.1
  have hn2 := own_nat hp2
  refine own_st (fun _ k => XS.iloadN X.here hx rfl (hb hby own_d1_0) rfl  k) ?_
  show own_Goes p e below s _ _ (T.setTop (mkF m 1 #[rv a0_, iv p1, iv p2, iv p3, iv p4, .unset] [(.int p1)]))
  refine own_st (fun _ k => XS.iloadN X.here hx rfl (hb hby own_d1_1) rfl  k) ?_
  show own_Goes p e below s _ _ (T.setTop (mkF m 2 #[rv a0_, iv p1, iv p2, iv p3, iv p4, .unset] [(.int p2), (.int p1)]))
  by_cases c101 : p1 < p2
  · have c101i : p1.toInt < p2.toInt := own_i_lt c101
    refine own_st (fun _ k => XS.icmpYes X.here hx rfl (pc0 := 2) (pc' := 10) rfl (hb hby own_d1_2) rfl (tlt c101).1 (by decide) (by decide) k) ?_
    show own_Goes p e below s _ _ (T.setTop (mkF m 10 #[rv a0_, iv p1, iv p2, iv p3, iv p4, .unset] []))
    refine own_st (fun _ k => XS.iconst X.here hx rfl (hb hby own_d1_10) k) ?_
    show own_Goes p e below s _ _ (T.setTop (mkF m 11 #[rv a0_, iv p1, iv p2, iv p3, iv p4, .unset] [(.int (0 : Int32))]))
    exact own_retI X hx hlk hret (hb hby own_d1_11) (by decide) (by decide) ⟨(0 : Int32), rfl, by rw [own_at, if_pos (by omega)]; decide, N0, e0⟩
  · have c101i : p2.toInt ≤ p1.toInt := own_i_nlt c101
    refine own_st (fun _ k => XS.icmpNo X.here hx rfl (hb hby own_d1_2) rfl (flt c101).1 k) ?_
    show own_Goes p e below s _ _ (T.setTop (mkF m 5 #[rv a0_, iv p1, iv p2, iv p3, iv p4, .unset] []))
    refine own_st (fun _ k => XS.iloadN X.here hx rfl (hb hby own_d1_5) rfl  k) ?_
    show own_Goes p e below s _ _ (T.setTop (mkF m 6 #[rv a0_, iv p1, iv p2, iv p3, iv p4, .unset] [(.int p1)]))
    refine own_st (fun _ k => XS.iloadN X.here hx rfl (hb hby own_d1_6) rfl  k) ?_
    show own_Goes p e below s _ _ (T.setTop (mkF m 7 #[rv a0_, iv p1, iv p2, iv p3, iv p4, .unset] [(.int p3), (.int p1)]))
    by_cases c102 : p1 < p3
    · have c102i : p1.toInt < p3.toInt := own_i_lt c102
      refine own_st (fun _ k => XS.icmpYes X.here hx rfl (pc0 := 7) (pc' := 12) rfl (hb hby own_d1_7) rfl (tlt c102).1 (by decide) (by decide) k) ?_
      show own_Goes p e below s _ _ (T.setTop (mkF m 12 #[rv a0_, iv p1, iv p2, iv p3, iv p4, .unset] []))
      refine own_st (fun _ k => XS.iloadN X.here hx rfl (hb hby own_d1_12) rfl  k) ?_
      show own_Goes p e below s _ _ (T.setTop (mkF m 13 #[rv a0_, iv p1, iv p2, iv p3, iv p4, .unset] [(.int p1)]))
      refine own_st (fun _ k => XS.iloadN X.here hx rfl (hb hby own_d1_13) rfl  k) ?_
      show own_Goes p e below s _ _ (T.setTop (mkF m 14 #[rv a0_, iv p1, iv p2, iv p3, iv p4, .unset] [(.int p2), (.int p1)]))
      by_cases c103 : p1 = p2
      · have c103i : p1.toInt = p2.toInt := own_i_eq c103
        refine own_st (fun _ k => XS.icmpNo X.here hx rfl (hb hby own_d1_14) rfl (teq c103).2 k) ?_
        show own_Goes p e below s _ _ (T.setTop (mkF m 17 #[rv a0_, iv p1, iv p2, iv p3, iv p4, .unset] []))
        refine own_st (fun _ k => XS.iload X.here hx rfl (hb hby own_d1_17) rfl  k) ?_
        show own_Goes p e below s _ _ (T.setTop (mkF m 19 #[rv a0_, iv p1, iv p2, iv p3, iv p4, .unset] [(.int p4)]))
        refine own_st (fun _ k => XS.goto X.here hx rfl (pc0 := 19) (pc' := 27) rfl (hb hby own_d1_19) (by decide) (by decide) k) ?_
        show own_Goes p e below s _ _ (T.setTop (mkF m 27 #[rv a0_, iv p1, iv p2, iv p3, iv p4, .unset] [(.int p4)]))
        refine own_st (fun _ k => XS.istore X.here hx rfl (hb hby own_d1_27) rfl (l' := #[rv a0_, iv p1, iv p2, iv p3, iv p4, iv p4]) rfl k) ?_
        show own_Goes p e below s _ _ (T.setTop (mkF m 29 #[rv a0_, iv p1, iv p2, iv p3, iv p4, iv p4] []))
        refine own_st (fun _ k => XS.aloadN X.here hx rfl (hb hby own_d1_29) rfl rfl  k) ?_
        show own_Goes p e below s _ _ (T.setTop (mkF m 30 #[rv a0_, iv p1, iv p2, iv p3, iv p4, iv p4] [(.ref a0_)]))
        refine own_st (fun _ k => XS.iloadN X.here hx rfl (hb hby own_d1_30) rfl  k) ?_
        show own_Goes p e below s _ _ (T.setTop (mkF m 31 #[rv a0_, iv p1, iv p2, iv p3, iv p4, iv p4] [(.int p1), (.ref a0_)]))
        refine own_st (fun _ k => own_ldC X hx hZ e0 V1 (j := p1) ⟨by omega, by omega⟩ (g := (mkF m 31 #[rv a0_, iv p1, iv p2, iv p3, iv p4, iv p4] [(.int p1), (.ref a0_)])) rfl rfl (hb hby own_d1_31) _ k) ?_
        show own_Goes p e below s _ _ (T.setTop (mkF m 32 #[rv a0_, iv p1, iv p2, iv p3, iv p4, iv p4] [(.int (f (p1).toNatClampNeg))]))
        refine own_st (fun _ k => XS.iload X.here hx rfl (hb hby own_d1_32) rfl  k) ?_
        show own_Goes p e below s _ _ (T.setTop (mkF m 34 #[rv a0_, iv p1, iv p2, iv p3, iv p4, iv p4] [(.int p4), (.int (f (p1).toNatClampNeg))]))
        obtain ⟨v104, T104, L104, X104, Q104, st104⟩ := own_callS X hx hZ (y := (⟨"com/example/resolvent/resolvent/text/DecodingReaderLineEndsPinLaw", "term", "(CC)I"⟩ : MethodName)) hown (hw _ (List.mem_of_getElem? (i := 9) rfl)) (hw _ (List.mem_of_getElem? (i := 10) rfl)) (hw _ (List.mem_of_getElem? (i := 3) rfl)) (hw _ (List.mem_of_getElem? (i := 11) rfl)) (by decide) (W := 0) (rest := []) (argsL := [(.int (f (p1).toNatClampNeg)), (.int p4)]) (rmT l Z a0 hw [] (f (p1).toNatClampNeg) p4 h0 n0 (by omega)) (by decide) (by decide) (by decide) (by decide) e0 own_pd0 rfl (g := (mkF m 34 #[rv a0_, iv p1, iv p2, iv p3, iv p4, iv p4] [(.int p4), (.int (f (p1).toNatClampNeg))])) rfl (by rw [hml]; rfl) rfl (by show 2 * 0 + _ ≤ _; exact Nat.le_of_eq rfl) (hb hby own_d1_34)
        obtain ⟨r104, rfl, hr104, N104q, e104⟩ := Q104
        have N104 := Fr.app N0 N104q
        refine own_st st104 ?_
        show own_Goes p e below s _ _ (T104.setTop (mkF m 37 #[rv a0_, iv p1, iv p2, iv p3, iv p4, iv p4] [(.int r104)]))
        exact own_retI X104 hx hlk hret (hb hby own_d1_37) (by decide) (by decide) ⟨_, rfl, by rw [hr104, own_at, if_neg (by omega), if_pos (by omega)], N104, e104⟩
      · have c103i : ¬ p1.toInt = p2.toInt := own_i_ne c103
        refine own_st (fun _ k => XS.icmpYes X.here hx rfl (pc0 := 14) (pc' := 22) rfl (hb hby own_d1_14) rfl (feq c103).2 (by decide) (by decide) k) ?_
        show own_Goes p e below s _ _ (T.setTop (mkF m 22 #[rv a0_, iv p1, iv p2, iv p3, iv p4, .unset] []))
        refine own_st (fun _ k => XS.aloadN X.here hx rfl (hb hby own_d1_22) rfl rfl  k) ?_
        show own_Goes p e below s _ _ (T.setTop (mkF m 23 #[rv a0_, iv p1, iv p2, iv p3, iv p4, .unset] [(.ref a0_)]))
        refine own_st (fun _ k => XS.iloadN X.here hx rfl (hb hby own_d1_23) rfl  k) ?_
        show own_Goes p e below s _ _ (T.setTop (mkF m 24 #[rv a0_, iv p1, iv p2, iv p3, iv p4, .unset] [(.int p1), (.ref a0_)]))
        refine own_st (fun _ k => XS.iconst X.here hx rfl (hb hby own_d1_24) k) ?_
        show own_Goes p e below s _ _ (T.setTop (mkF m 25 #[rv a0_, iv p1, iv p2, iv p3, iv p4, .unset] [(.int (1 : Int32)), (.int p1), (.ref a0_)]))
        refine own_st (fun _ k => XS.isub X.here hx rfl (hb hby own_d1_25) rfl k) ?_
        show own_Goes p e below s _ _ (T.setTop (mkF m 26 #[rv a0_, iv p1, iv p2, iv p3, iv p4, .unset] [(.int (p1 - (1 : Int32))), (.ref a0_)]))
        refine own_st (fun _ k => own_ldC X hx hZ e0 V1 (j := (p1 - (1 : Int32))) (own_dec (by omega)) (g := (mkF m 26 #[rv a0_, iv p1, iv p2, iv p3, iv p4, .unset] [(.int (p1 - (1 : Int32))), (.ref a0_)])) rfl rfl (hb hby own_d1_26) _ k) ?_
        show own_Goes p e below s _ _ (T.setTop (mkF m 27 #[rv a0_, iv p1, iv p2, iv p3, iv p4, .unset] [(.int (f ((p1 - (1 : Int32))).toNatClampNeg))]))
        refine own_st (fun _ k => XS.istore X.here hx rfl (hb hby own_d1_27) rfl (l' := #[rv a0_, iv p1, iv p2, iv p3, iv p4, iv (f ((p1 - (1 : Int32))).toNatClampNeg)]) rfl k) ?_
        show own_Goes p e below s _ _ (T.setTop (mkF m 29 #[rv a0_, iv p1, iv p2, iv p3, iv p4, iv (f ((p1 - (1 : Int32))).toNatClampNeg)] []))
        refine own_st (fun _ k => XS.aloadN X.here hx rfl (hb hby own_d1_29) rfl rfl  k) ?_
        show own_Goes p e below s _ _ (T.setTop (mkF m 30 #[rv a0_, iv p1, iv p2, iv p3, iv p4, iv (f ((p1 - (1 : Int32))).toNatClampNeg)] [(.ref a0_)]))
        refine own_st (fun _ k => XS.iloadN X.here hx rfl (hb hby own_d1_30) rfl  k) ?_
        show own_Goes p e below s _ _ (T.setTop (mkF m 31 #[rv a0_, iv p1, iv p2, iv p3, iv p4, iv (f ((p1 - (1 : Int32))).toNatClampNeg)] [(.int p1), (.ref a0_)]))
        refine own_st (fun _ k => own_ldC X hx hZ e0 V1 (j := p1) ⟨by omega, by omega⟩ (g := (mkF m 31 #[rv a0_, iv p1, iv p2, iv p3, iv p4, iv (f ((p1 - (1 : Int32))).toNatClampNeg)] [(.int p1), (.ref a0_)])) rfl rfl (hb hby own_d1_31) _ k) ?_
        show own_Goes p e below s _ _ (T.setTop (mkF m 32 #[rv a0_, iv p1, iv p2, iv p3, iv p4, iv (f ((p1 - (1 : Int32))).toNatClampNeg)] [(.int (f (p1).toNatClampNeg))]))
        refine own_st (fun _ k => XS.iload X.here hx rfl (hb hby own_d1_32) rfl  k) ?_
        show own_Goes p e below s _ _ (T.setTop (mkF m 34 #[rv a0_, iv p1, iv p2, iv p3, iv p4, iv (f ((p1 - (1 : Int32))).toNatClampNeg)] [(.int (f ((p1 - (1 : Int32))).toNatClampNeg)), (.int (f (p1).toNatClampNeg))]))
        obtain ⟨v105, T105, L105, X105, Q105, st105⟩ := own_callS X hx hZ (y := (⟨"com/example/resolvent/resolvent/text/DecodingReaderLineEndsPinLaw", "term", "(CC)I"⟩ : MethodName)) hown (hw _ (List.mem_of_getElem? (i := 9) rfl)) (hw _ (List.mem_of_getElem? (i := 10) rfl)) (hw _ (List.mem_of_getElem? (i := 3) rfl)) (hw _ (List.mem_of_getElem? (i := 11) rfl)) (by decide) (W := 0) (rest := []) (argsL := [(.int (f (p1).toNatClampNeg)), (.int (f ((p1 - (1 : Int32))).toNatClampNeg))]) (rmT l Z a0 hw [] (f (p1).toNatClampNeg) (f ((p1 - (1 : Int32))).toNatClampNeg) h0 n0 (by omega)) (by decide) (by decide) (by decide) (by decide) e0 own_pd0 rfl (g := (mkF m 34 #[rv a0_, iv p1, iv p2, iv p3, iv p4, iv (f ((p1 - (1 : Int32))).toNatClampNeg)] [(.int (f ((p1 - (1 : Int32))).toNatClampNeg)), (.int (f (p1).toNatClampNeg))])) rfl (by rw [hml]; rfl) rfl (by show 2 * 0 + _ ≤ _; exact Nat.le_of_eq rfl) (hb hby own_d1_34)
        obtain ⟨r105, rfl, hr105, N105q, e105⟩ := Q105
        have N105 := Fr.app N0 N105q
        refine own_st st105 ?_
        show own_Goes p e below s _ _ (T105.setTop (mkF m 37 #[rv a0_, iv p1, iv p2, iv p3, iv p4, iv (f ((p1 - (1 : Int32))).toNatClampNeg)] [(.int r105)]))
        exact own_retI X105 hx hlk hret (hb hby own_d1_37) (by decide) (by decide) ⟨_, rfl, by rw [hr105, own_at, if_neg (by omega), if_neg (by omega), own_m1 (by omega)], N105, e105⟩
    · have c102i : p3.toInt ≤ p1.toInt := own_i_nlt c102
      refine own_st (fun _ k => XS.icmpNo X.here hx rfl (hb hby own_d1_7) rfl (flt c102).1 k) ?_
      show own_Goes p e below s _ _ (T.setTop (mkF m 10 #[rv a0_, iv p1, iv p2, iv p3, iv p4, .unset] []))
      refine own_st (fun _ k => XS.iconst X.here hx rfl (hb hby own_d1_10) k) ?_
      show own_Goes p e below s _ _ (T.setTop (mkF m 11 #[rv a0_, iv p1, iv p2, iv p3, iv p4, .unset] [(.int (0 : Int32))]))
      exact own_retI X hx hlk hret (hb hby own_d1_11) (by decide) (by decide) ⟨(0 : Int32), rfl, by rw [own_at, if_pos (by omega)]; decide, N0, e0⟩
theorem own_pn2 : plainFor (⟨"com/example/resolvent/resolvent/text/DecodingReader", "lineEnds", "([CIIC)I"⟩ : MethodName) = true := by first | exact plainFor_of_name (by simp [plainName, overriddenIn]; done) | decide +kernel
theorem own_d2_0 : decode prog_107_method_2_code 0 = .ok (.iconst 0, 1) := by decide +kernel
theorem own_d2_1 : decode prog_107_method_2_code 1 = .ok (.istore 4, 2) := by decide +kernel
theorem own_d2_3 : decode prog_107_method_2_code 3 = .ok (.iload_n 3, 1) := by decide +kernel
theorem own_d2_4 : decode prog_107_method_2_code 4 = .ok (.istore 5, 2) := by decide +kernel
theorem own_d2_6 : decode prog_107_method_2_code 6 = .ok (.iload_n 1, 1) := by decide +kernel
theorem own_d2_7 : decode prog_107_method_2_code 7 = .ok (.istore 6, 2) := by decide +kernel
theorem own_d2_9 : decode prog_107_method_2_code 9 = .ok (.iload 6, 2) := by decide +kernel
theorem own_d2_11 : decode prog_107_method_2_code 11 = .ok (.iload_n 2, 1) := by decide +kernel
theorem own_d2_12 : decode prog_107_method_2_code 12 = .ok (.if_icmp .ge 43, 3) := by decide +kernel
theorem own_d2_55 : decode prog_107_method_2_code 55 = .ok (.iload 4, 2) := by decide +kernel
theorem own_d2_57 : decode prog_107_method_2_code 57 = .ok (.ireturn, 1) := by decide +kernel
theorem own_d2_15 : decode prog_107_method_2_code 15 = .ok (.aload_n 0, 1) := by decide +kernel
theorem own_d2_16 : decode prog_107_method_2_code 16 = .ok (.iload 6, 2) := by decide +kernel
theorem own_d2_18 : decode prog_107_method_2_code 18 = .ok (.caload, 1) := by decide +kernel
theorem own_d2_19 : decode prog_107_method_2_code 19 = .ok (.istore 7, 2) := by decide +kernel
theorem own_d2_21 : decode prog_107_method_2_code 21 = .ok (.iload 7, 2) := by decide +kernel
theorem own_d2_23 : decode prog_107_method_2_code 23 = .ok (.bipush 13, 2) := by decide +kernel
theorem own_d2_25 : decode prog_107_method_2_code 25 = .ok (.if_icmp .eq 17, 3) := by decide +kernel
theorem own_d2_42 : decode prog_107_method_2_code 42 = .ok (.iinc 4 1, 3) := by decide +kernel
theorem own_d2_45 : decode prog_107_method_2_code 45 = .ok (.iload 7, 2) := by decide +kernel
theorem own_d2_47 : decode prog_107_method_2_code 47 = .ok (.istore 5, 2) := by decide +kernel
theorem own_d2_49 : decode prog_107_method_2_code 49 = .ok (.iinc 6 1, 3) := by decide +kernel
theorem own_d2_52 : decode prog_107_method_2_code 52 = .ok (.goto (-43), 3) := by decide +kernel
theorem own_d2_28 : decode prog_107_method_2_code 28 = .ok (.iload 7, 2) := by decide +kernel
theorem own_d2_30 : decode prog_107_method_2_code 30 = .ok (.bipush 10, 2) := by decide +kernel
theorem own_d2_32 : decode prog_107_method_2_code 32 = .ok (.if_icmp .ne 13, 3) := by decide +kernel
theorem own_d2_35 : decode prog_107_method_2_code 35 = .ok (.iload 5, 2) := by decide +kernel
theorem own_d2_37 : decode prog_107_method_2_code 37 = .ok (.bipush 13, 2) := by decide +kernel
theorem own_d2_39 : decode prog_107_method_2_code 39 = .ok (.if_icmp .eq 6, 3) := by decide +kernel
theorem own_ef_rmL (m : MethodId) (a0_ : Nat) (p1 : Int32) (p2 : Int32) (p3 : Int32) : entryFrame m #[(.ref a0_), (.int p1), (.int p2), (.int p3)] 8 = mkF m 0 #[rv a0_, iv p1, iv p2, iv p3, .unset, .unset, .unset, .unset] [] := by first | (simp [entryFrame, mkF, argsToLocals, Value.category, maxLocals]; done) | rfl
abbrev own_Q_rmL (Z : State) (a0_ : Nat) (p1 : Int32) (p2 : Int32) (p3 : Int32) (f : Nat → Int32) (h0 : Heap) (n0 : Nat) (v : Option Value) (h : Heap) (L : List Loc) : Prop := ∃ r : Int32, v = some (.int r) ∧ r.toInt = own_le (fun k => (f k).toInt) p3.toInt p1.toNatClampNeg (p2.toInt - p1.toInt).toNat ∧ Fr n0 L ∧ h = h0
set_option maxRecDepth 65536 in
set_option maxHeartbeats 40000000 in
theorem rmL (l : Launch) (Z : State) (a0 : Array Value) (hw : ∀ d ∈ tables_1, d.before a0 Z = true) (ws : List Jvm.Cond) (a0_ : Nat) (p1 : Int32) (p2 : Int32) (p3 : Int32) (f : Nat → Int32) (h0 : Heap) (n0 : Nat) (Z0 : n0 ≤ h0.size) (V1 : own_Arf Z h0 a0_ .char 4 (fun k => .int (f k))) (hp1 : 0 ≤ p1.toInt ∧ p1.toInt ≤ p2.toInt ∧ p2.toInt ≤ 4) :
    MetFree l (⟨"com/example/resolvent/resolvent/text/DecodingReader", "lineEnds", "([CIIC)I"⟩ : MethodName) (head1 (Jvm.Cond.code (⟨"com/example/resolvent/resolvent/text/DecodingReader", "lineEnds", "([CIIC)I"⟩ : MethodName) prog_107_method_2_code 8 (some .int) :: ws) ({ frames := 0, cells := 0, slots := 0, locals := 0 } : Room)) (fun a U => a = #[(.ref a0_), (.int p1), (.int p2), (.int p3)] ∧ Z.Warmed39 U.vm ∧ U.heap = h0) (fun _ _ _ _ _ => True) (fun _ U o U' => ∃ v L, o = .returned v ∧ own_Q_rmL Z a0_ p1 p2 p3 f h0 n0 v U'.heap L ∧ FrameEnd U o U' L ({ frames := 0, cells := 0, slots := 0, locals := 0 } : Room).cells ({ frames := 0, cells := 0, slots := 0, locals := 0 } : Room).slots) := by
  refine own_enter (Q := fun v h L => own_Q_rmL Z a0_ p1 p2 p3 f h0 n0 v h L) (F := fun m => mkF m 0 #[rv a0_, iv p1, iv p2, iv p3, .unset, .unset, .unset, .unset] []) own_pn2 (fun m => own_ef_rmL m a0_ p1 p2 p3) ?_
  intro p e s m below meth c T X hx hby hml hret hlk hnm hown hZ e0
  show own_Goes p e below s _ _ (T.setTop (mkF m 0 #[rv a0_, iv p1, iv p2, iv p3, .unset, .unset, .unset, .unset] []))
  have N0 := Fr.nil n0
  refine own_st (fun _ k => XS.iconst X.here hx rfl (hb hby own_d2_0) k) ?_
  show own_Goes p e below s _ _ (T.setTop (mkF m 1 #[rv a0_, iv p1, iv p2, iv p3, .unset, .unset, .unset, .unset] [(.int (0 : Int32))]))
  refine own_st (fun _ k => XS.istore X.here hx rfl (hb hby own_d2_1) rfl (l' := #[rv a0_, iv p1, iv p2, iv p3, iv (0 : Int32), .unset, .unset, .unset]) rfl k) ?_
  show own_Goes p e below s _ _ (T.setTop (mkF m 3 #[rv a0_, iv p1, iv p2, iv p3, iv (0 : Int32), .unset, .unset, .unset] []))
  refine own_st (fun _ k => XS.iloadN X.here hx rfl (hb hby own_d2_3) rfl  k) ?_
  show own_Goes p e below s _ _ (T.setTop (mkF m 4 #[rv a0_, iv p1, iv p2, iv p3, iv (0 : Int32), .unset, .unset, .unset] [(.int p3)]))
  refine own_st (fun _ k => XS.istore X.here hx rfl (hb hby own_d2_4) rfl (l' := #[rv a0_, iv p1, iv p2, iv p3, iv (0 : Int32), iv p3, .unset, .unset]) rfl k) ?_
  show own_Goes p e below s _ _ (T.setTop (mkF m 6 #[rv a0_, iv p1, iv p2, iv p3, iv (0 : Int32), iv p3, .unset, .unset] []))
  refine own_st (fun _ k => XS.iloadN X.here hx rfl (hb hby own_d2_6) rfl  k) ?_
  show own_Goes p e below s _ _ (T.setTop (mkF m 7 #[rv a0_, iv p1, iv p2, iv p3, iv (0 : Int32), iv p3, .unset, .unset] [(.int p1)]))
  refine own_st (fun _ k => XS.istore X.here hx rfl (hb hby own_d2_7) rfl (l' := #[rv a0_, iv p1, iv p2, iv p3, iv (0 : Int32), iv p3, iv p1, .unset]) rfl k) ?_
  show own_Goes p e below s _ _ (T.setTop (mkF m 9 #[rv a0_, iv p1, iv p2, iv p3, iv (0 : Int32), iv p3, iv p1, .unset] []))
  have lp : ∀ (k : Nat) (j nn pv : Int32) (sl : Slot), j.toInt + k = p2.toInt → 0 ≤ j.toInt → (0 ≤ nn.toInt ∧ nn.toInt ≤ j.toInt ∧ nn.toInt + own_le (fun k => (f k).toInt) pv.toInt j.toNatClampNeg k = own_le (fun k => (f k).toInt) p3.toInt p1.toNatClampNeg (p2.toInt - p1.toInt).toNat) → One sl → own_Goes p e below s ({ frames := 0, cells := 0, slots := 0, locals := 0 } : Room) (fun v h L => own_Q_rmL Z a0_ p1 p2 p3 f h0 n0 v h L) (T.setTop (mkF m 9 #[rv a0_, iv p1, iv p2, iv p3, iv nn, iv pv, iv j, sl] [])) := by
    intro k
    induction k with
    | zero =>
      intro j nn pv sl hk hj0 hS hO
      refine own_st (fun _ k => XS.iload X.here hx rfl (hb hby own_d2_9) rfl  k) ?_
      show own_Goes p e below s _ _ (T.setTop (mkF m 11 #[rv a0_, iv p1, iv p2, iv p3, iv nn, iv pv, iv j, sl] [(.int j)]))
      refine own_st (fun _ k => XS.iloadN X.here hx rfl (hb hby own_d2_11) rfl  k) ?_
      show own_Goes p e below s _ _ (T.setTop (mkF m 12 #[rv a0_, iv p1, iv p2, iv p3, iv nn, iv pv, iv j, sl] [(.int p2), (.int j)]))
      by_cases c101 : j < p2
      · have c101i : j.toInt < p2.toInt := own_i_lt c101
        exfalso; omega
      · have c101i : p2.toInt ≤ j.toInt := own_i_nlt c101
        refine own_st (fun _ k => XS.icmpYes X.here hx rfl (pc0 := 12) (pc' := 55) rfl (hb hby own_d2_12) rfl (flt c101).2.1 (by decide) (by decide) k) ?_
        show own_Goes p e below s _ _ (T.setTop (mkF m 55 #[rv a0_, iv p1, iv p2, iv p3, iv nn, iv pv, iv j, sl] []))
        refine own_st (fun _ k => XS.iload X.here hx rfl (hb hby own_d2_55) rfl  k) ?_
        show own_Goes p e below s _ _ (T.setTop (mkF m 57 #[rv a0_, iv p1, iv p2, iv p3, iv nn, iv pv, iv j, sl] [(.int nn)]))
        exact own_retI X hx hlk hret (hb hby own_d2_57) (by decide) (by decide) ⟨nn, rfl, by have := hS.2.2; simp only [own_le] at this; omega, N0, e0⟩
    | succ k ih =>
      intro j nn pv sl hk hj0 hS hO
      refine own_st (fun _ k => XS.iload X.here hx rfl (hb hby own_d2_9) rfl  k) ?_
      show own_Goes p e below s _ _ (T.setTop (mkF m 11 #[rv a0_, iv p1, iv p2, iv p3, iv nn, iv pv, iv j, sl] [(.int j)]))
      refine own_st (fun _ k => XS.iloadN X.here hx rfl (hb hby own_d2_11) rfl  k) ?_
      show own_Goes p e below s _ _ (T.setTop (mkF m 12 #[rv a0_, iv p1, iv p2, iv p3, iv nn, iv pv, iv j, sl] [(.int p2), (.int j)]))
      by_cases c102 : j < p2
      · have c102i : j.toInt < p2.toInt := own_i_lt c102
        refine own_st (fun _ k => XS.icmpNo X.here hx rfl (hb hby own_d2_12) rfl (tlt c102).2.1 k) ?_
        show own_Goes p e below s _ _ (T.setTop (mkF m 15 #[rv a0_, iv p1, iv p2, iv p3, iv nn, iv pv, iv j, sl] []))
        refine own_st (fun _ k => XS.aloadN X.here hx rfl (hb hby own_d2_15) rfl rfl  k) ?_
        show own_Goes p e below s _ _ (T.setTop (mkF m 16 #[rv a0_, iv p1, iv p2, iv p3, iv nn, iv pv, iv j, sl] [(.ref a0_)]))
        refine own_st (fun _ k => XS.iload X.here hx rfl (hb hby own_d2_16) rfl  k) ?_
        show own_Goes p e below s _ _ (T.setTop (mkF m 18 #[rv a0_, iv p1, iv p2, iv p3, iv nn, iv pv, iv j, sl] [(.int j), (.ref a0_)]))
        refine own_st (fun _ k => own_ldC X hx hZ e0 V1 (j := j) ⟨hj0, by omega⟩ (g := (mkF m 18 #[rv a0_, iv p1, iv p2, iv p3, iv nn, iv pv, iv j, sl] [(.int j), (.ref a0_)])) rfl rfl (hb hby own_d2_18) _ k) ?_
        show own_Goes p e below s _ _ (T.setTop (mkF m 19 #[rv a0_, iv p1, iv p2, iv p3, iv nn, iv pv, iv j, sl] [(.int (f (j).toNatClampNeg))]))
        refine own_st (fun _ k => XS.istoreS X.here hx rfl (hb hby own_d2_19) rfl rfl hO k) ?_
        show own_Goes p e below s _ _ (T.setTop (mkF m 21 #[rv a0_, iv p1, iv p2, iv p3, iv nn, iv pv, iv j, iv (f (j).toNatClampNeg)] []))
        refine own_st (fun _ k => XS.iload X.here hx rfl (hb hby own_d2_21) rfl  k) ?_
        show own_Goes p e below s _ _ (T.setTop (mkF m 23 #[rv a0_, iv p1, iv p2, iv p3, iv nn, iv pv, iv j, iv (f (j).toNatClampNeg)] [(.int (f (j).toNatClampNeg))]))
        refine own_st (fun _ k => XS.bipush X.here hx rfl (hb hby own_d2_23) k) ?_
        show own_Goes p e below s _ _ (T.setTop (mkF m 25 #[rv a0_, iv p1, iv p2, iv p3, iv nn, iv pv, iv j, iv (f (j).toNatClampNeg)] [(.int (13 : Int32)), (.int (f (j).toNatClampNeg))]))
        by_cases c103 : (f (j).toNatClampNeg) = (13 : Int32)
        · have c103i : (f (j).toNatClampNeg).toInt = 13 := own_i_eq c103
          refine own_st (fun _ k => XS.icmpYes X.here hx rfl (pc0 := 25) (pc' := 42) rfl (hb hby own_d2_25) rfl (teq c103).1 (by decide) (by decide) k) ?_
          show own_Goes p e below s _ _ (T.setTop (mkF m 42 #[rv a0_, iv p1, iv p2, iv p3, iv nn, iv pv, iv j, iv (f (j).toNatClampNeg)] []))
          refine own_st (fun _ k => XS.iinc X.here hx rfl (hb hby own_d2_42) rfl (l' := #[rv a0_, iv p1, iv p2, iv p3, iv (nn + (1 : Int32)), iv pv, iv j, iv (f (j).toNatClampNeg)]) rfl k) ?_
          show own_Goes p e below s _ _ (T.setTop (mkF m 45 #[rv a0_, iv p1, iv p2, iv p3, iv (nn + (1 : Int32)), iv pv, iv j, iv (f (j).toNatClampNeg)] []))
          refine own_st (fun _ k => XS.iload X.here hx rfl (hb hby own_d2_45) rfl  k) ?_
          show own_Goes p e below s _ _ (T.setTop (mkF m 47 #[rv a0_, iv p1, iv p2, iv p3, iv (nn + (1 : Int32)), iv pv, iv j, iv (f (j).toNatClampNeg)] [(.int (f (j).toNatClampNeg))]))
          refine own_st (fun _ k => XS.istore X.here hx rfl (hb hby own_d2_47) rfl (l' := #[rv a0_, iv p1, iv p2, iv p3, iv (nn + (1 : Int32)), iv (f (j).toNatClampNeg), iv j, iv (f (j).toNatClampNeg)]) rfl k) ?_
          show own_Goes p e below s _ _ (T.setTop (mkF m 49 #[rv a0_, iv p1, iv p2, iv p3, iv (nn + (1 : Int32)), iv (f (j).toNatClampNeg), iv j, iv (f (j).toNatClampNeg)] []))
          refine own_st (fun _ k => XS.iinc X.here hx rfl (hb hby own_d2_49) rfl (l' := #[rv a0_, iv p1, iv p2, iv p3, iv (nn + (1 : Int32)), iv (f (j).toNatClampNeg), iv (j + (1 : Int32)), iv (f (j).toNatClampNeg)]) rfl k) ?_
          show own_Goes p e below s _ _ (T.setTop (mkF m 52 #[rv a0_, iv p1, iv p2, iv p3, iv (nn + (1 : Int32)), iv (f (j).toNatClampNeg), iv (j + (1 : Int32)), iv (f (j).toNatClampNeg)] []))
          refine own_st (fun _ k => XS.goto X.here hx rfl (pc0 := 52) (pc' := 9) rfl (hb hby own_d2_52) (by decide) (by decide) k) ?_
          show own_Goes p e below s _ _ (T.setTop (mkF m 9 #[rv a0_, iv p1, iv p2, iv p3, iv (nn + (1 : Int32)), iv (f (j).toNatClampNeg), iv (j + (1 : Int32)), iv (f (j).toNatClampNeg)] []))
          have hj1 := own_inc j (by omega)
          have hn1 := own_inc nn (by omega)
          have hl := own_le_succ (fun k => (f k).toInt) pv.toInt j.toNatClampNeg k
          have hi := own_ind hj0 hj1
          rw [hl, ← hi] at hS
          have ht : own_term (f j.toNatClampNeg).toInt pv.toInt = 1 := by unfold own_term; repeat' split; all_goals omega
          exact ih (j + (1 : Int32)) (nn + (1 : Int32)) (f (j).toNatClampNeg) _ (by omega) (by omega) ⟨by omega, by omega, by omega⟩ (One.val rfl)
        · have c103i : ¬ (f (j).toNatClampNeg).toInt = 13 := own_i_ne c103
          refine own_st (fun _ k => XS.icmpNo X.here hx rfl (hb hby own_d2_25) rfl (feq c103).1 k) ?_
          show own_Goes p e below s _ _ (T.setTop (mkF m 28 #[rv a0_, iv p1, iv p2, iv p3, iv nn, iv pv, iv j, iv (f (j).toNatClampNeg)] []))
          refine own_st (fun _ k => XS.iload X.here hx rfl (hb hby own_d2_28) rfl  k) ?_
          show own_Goes p e below s _ _ (T.setTop (mkF m 30 #[rv a0_, iv p1, iv p2, iv p3, iv nn, iv pv, iv j, iv (f (j).toNatClampNeg)] [(.int (f (j).toNatClampNeg))]))
          refine own_st (fun _ k => XS.bipush X.here hx rfl (hb hby own_d2_30) k) ?_
          show own_Goes p e below s _ _ (T.setTop (mkF m 32 #[rv a0_, iv p1, iv p2, iv p3, iv nn, iv pv, iv j, iv (f (j).toNatClampNeg)] [(.int (10 : Int32)), (.int (f (j).toNatClampNeg))]))
          by_cases c104 : (f (j).toNatClampNeg) = (10 : Int32)
          · have c104i : (f (j).toNatClampNeg).toInt = 10 := own_i_eq c104
            refine own_st (fun _ k => XS.icmpNo X.here hx rfl (hb hby own_d2_32) rfl (teq c104).2 k) ?_
            show own_Goes p e below s _ _ (T.setTop (mkF m 35 #[rv a0_, iv p1, iv p2, iv p3, iv nn, iv pv, iv j, iv (f (j).toNatClampNeg)] []))
            refine own_st (fun _ k => XS.iload X.here hx rfl (hb hby own_d2_35) rfl  k) ?_
            show own_Goes p e below s _ _ (T.setTop (mkF m 37 #[rv a0_, iv p1, iv p2, iv p3, iv nn, iv pv, iv j, iv (f (j).toNatClampNeg)] [(.int pv)]))
            refine own_st (fun _ k => XS.bipush X.here hx rfl (hb hby own_d2_37) k) ?_
            show own_Goes p e below s _ _ (T.setTop (mkF m 39 #[rv a0_, iv p1, iv p2, iv p3, iv nn, iv pv, iv j, iv (f (j).toNatClampNeg)] [(.int (13 : Int32)), (.int pv)]))
            by_cases c105 : pv = (13 : Int32)
            · have c105i : pv.toInt = 13 := own_i_eq c105
              refine own_st (fun _ k => XS.icmpYes X.here hx rfl (pc0 := 39) (pc' := 45) rfl (hb hby own_d2_39) rfl (teq c105).1 (by decide) (by decide) k) ?_
              show own_Goes p e below s _ _ (T.setTop (mkF m 45 #[rv a0_, iv p1, iv p2, iv p3, iv nn, iv pv, iv j, iv (f (j).toNatClampNeg)] []))
              refine own_st (fun _ k => XS.iload X.here hx rfl (hb hby own_d2_45) rfl  k) ?_
              show own_Goes p e below s _ _ (T.setTop (mkF m 47 #[rv a0_, iv p1, iv p2, iv p3, iv nn, iv pv, iv j, iv (f (j).toNatClampNeg)] [(.int (f (j).toNatClampNeg))]))
              refine own_st (fun _ k => XS.istore X.here hx rfl (hb hby own_d2_47) rfl (l' := #[rv a0_, iv p1, iv p2, iv p3, iv nn, iv (f (j).toNatClampNeg), iv j, iv (f (j).toNatClampNeg)]) rfl k) ?_
              show own_Goes p e below s _ _ (T.setTop (mkF m 49 #[rv a0_, iv p1, iv p2, iv p3, iv nn, iv (f (j).toNatClampNeg), iv j, iv (f (j).toNatClampNeg)] []))
              refine own_st (fun _ k => XS.iinc X.here hx rfl (hb hby own_d2_49) rfl (l' := #[rv a0_, iv p1, iv p2, iv p3, iv nn, iv (f (j).toNatClampNeg), iv (j + (1 : Int32)), iv (f (j).toNatClampNeg)]) rfl k) ?_
              show own_Goes p e below s _ _ (T.setTop (mkF m 52 #[rv a0_, iv p1, iv p2, iv p3, iv nn, iv (f (j).toNatClampNeg), iv (j + (1 : Int32)), iv (f (j).toNatClampNeg)] []))
              refine own_st (fun _ k => XS.goto X.here hx rfl (pc0 := 52) (pc' := 9) rfl (hb hby own_d2_52) (by decide) (by decide) k) ?_
              show own_Goes p e below s _ _ (T.setTop (mkF m 9 #[rv a0_, iv p1, iv p2, iv p3, iv nn, iv (f (j).toNatClampNeg), iv (j + (1 : Int32)), iv (f (j).toNatClampNeg)] []))
              have hj1 := own_inc j (by omega)
              have hl := own_le_succ (fun k => (f k).toInt) pv.toInt j.toNatClampNeg k
              have hi := own_ind hj0 hj1
              rw [hl, ← hi] at hS
              have ht : own_term (f j.toNatClampNeg).toInt pv.toInt = 0 := by unfold own_term; repeat' split; all_goals omega
              exact ih (j + (1 : Int32)) nn (f (j).toNatClampNeg) _ (by omega) (by omega) ⟨by omega, by omega, by omega⟩ (One.val rfl)
            · have c105i : ¬ pv.toInt = 13 := own_i_ne c105
              refine own_st (fun _ k => XS.icmpNo X.here hx rfl (hb hby own_d2_39) rfl (feq c105).1 k) ?_
              show own_Goes p e below s _ _ (T.setTop (mkF m 42 #[rv a0_, iv p1, iv p2, iv p3, iv nn, iv pv, iv j, iv (f (j).toNatClampNeg)] []))
              refine own_st (fun _ k => XS.iinc X.here hx rfl (hb hby own_d2_42) rfl (l' := #[rv a0_, iv p1, iv p2, iv p3, iv (nn + (1 : Int32)), iv pv, iv j, iv (f (j).toNatClampNeg)]) rfl k) ?_
              show own_Goes p e below s _ _ (T.setTop (mkF m 45 #[rv a0_, iv p1, iv p2, iv p3, iv (nn + (1 : Int32)), iv pv, iv j, iv (f (j).toNatClampNeg)] []))
              refine own_st (fun _ k => XS.iload X.here hx rfl (hb hby own_d2_45) rfl  k) ?_
              show own_Goes p e below s _ _ (T.setTop (mkF m 47 #[rv a0_, iv p1, iv p2, iv p3, iv (nn + (1 : Int32)), iv pv, iv j, iv (f (j).toNatClampNeg)] [(.int (f (j).toNatClampNeg))]))
              refine own_st (fun _ k => XS.istore X.here hx rfl (hb hby own_d2_47) rfl (l' := #[rv a0_, iv p1, iv p2, iv p3, iv (nn + (1 : Int32)), iv (f (j).toNatClampNeg), iv j, iv (f (j).toNatClampNeg)]) rfl k) ?_
              show own_Goes p e below s _ _ (T.setTop (mkF m 49 #[rv a0_, iv p1, iv p2, iv p3, iv (nn + (1 : Int32)), iv (f (j).toNatClampNeg), iv j, iv (f (j).toNatClampNeg)] []))
              refine own_st (fun _ k => XS.iinc X.here hx rfl (hb hby own_d2_49) rfl (l' := #[rv a0_, iv p1, iv p2, iv p3, iv (nn + (1 : Int32)), iv (f (j).toNatClampNeg), iv (j + (1 : Int32)), iv (f (j).toNatClampNeg)]) rfl k) ?_
              show own_Goes p e below s _ _ (T.setTop (mkF m 52 #[rv a0_, iv p1, iv p2, iv p3, iv (nn + (1 : Int32)), iv (f (j).toNatClampNeg), iv (j + (1 : Int32)), iv (f (j).toNatClampNeg)] []))
              refine own_st (fun _ k => XS.goto X.here hx rfl (pc0 := 52) (pc' := 9) rfl (hb hby own_d2_52) (by decide) (by decide) k) ?_
              show own_Goes p e below s _ _ (T.setTop (mkF m 9 #[rv a0_, iv p1, iv p2, iv p3, iv (nn + (1 : Int32)), iv (f (j).toNatClampNeg), iv (j + (1 : Int32)), iv (f (j).toNatClampNeg)] []))
              have hj1 := own_inc j (by omega)
              have hn1 := own_inc nn (by omega)
              have hl := own_le_succ (fun k => (f k).toInt) pv.toInt j.toNatClampNeg k
              have hi := own_ind hj0 hj1
              rw [hl, ← hi] at hS
              have ht : own_term (f j.toNatClampNeg).toInt pv.toInt = 1 := by unfold own_term; repeat' split; all_goals omega
              exact ih (j + (1 : Int32)) (nn + (1 : Int32)) (f (j).toNatClampNeg) _ (by omega) (by omega) ⟨by omega, by omega, by omega⟩ (One.val rfl)
          · have c104i : ¬ (f (j).toNatClampNeg).toInt = 10 := own_i_ne c104
            refine own_st (fun _ k => XS.icmpYes X.here hx rfl (pc0 := 32) (pc' := 45) rfl (hb hby own_d2_32) rfl (feq c104).2 (by decide) (by decide) k) ?_
            show own_Goes p e below s _ _ (T.setTop (mkF m 45 #[rv a0_, iv p1, iv p2, iv p3, iv nn, iv pv, iv j, iv (f (j).toNatClampNeg)] []))
            refine own_st (fun _ k => XS.iload X.here hx rfl (hb hby own_d2_45) rfl  k) ?_
            show own_Goes p e below s _ _ (T.setTop (mkF m 47 #[rv a0_, iv p1, iv p2, iv p3, iv nn, iv pv, iv j, iv (f (j).toNatClampNeg)] [(.int (f (j).toNatClampNeg))]))
            refine own_st (fun _ k => XS.istore X.here hx rfl (hb hby own_d2_47) rfl (l' := #[rv a0_, iv p1, iv p2, iv p3, iv nn, iv (f (j).toNatClampNeg), iv j, iv (f (j).toNatClampNeg)]) rfl k) ?_
            show own_Goes p e below s _ _ (T.setTop (mkF m 49 #[rv a0_, iv p1, iv p2, iv p3, iv nn, iv (f (j).toNatClampNeg), iv j, iv (f (j).toNatClampNeg)] []))
            refine own_st (fun _ k => XS.iinc X.here hx rfl (hb hby own_d2_49) rfl (l' := #[rv a0_, iv p1, iv p2, iv p3, iv nn, iv (f (j).toNatClampNeg), iv (j + (1 : Int32)), iv (f (j).toNatClampNeg)]) rfl k) ?_
            show own_Goes p e below s _ _ (T.setTop (mkF m 52 #[rv a0_, iv p1, iv p2, iv p3, iv nn, iv (f (j).toNatClampNeg), iv (j + (1 : Int32)), iv (f (j).toNatClampNeg)] []))
            refine own_st (fun _ k => XS.goto X.here hx rfl (pc0 := 52) (pc' := 9) rfl (hb hby own_d2_52) (by decide) (by decide) k) ?_
            show own_Goes p e below s _ _ (T.setTop (mkF m 9 #[rv a0_, iv p1, iv p2, iv p3, iv nn, iv (f (j).toNatClampNeg), iv (j + (1 : Int32)), iv (f (j).toNatClampNeg)] []))
            have hj1 := own_inc j (by omega)
            have hl := own_le_succ (fun k => (f k).toInt) pv.toInt j.toNatClampNeg k
            have hi := own_ind hj0 hj1
            rw [hl, ← hi] at hS
            have ht : own_term (f j.toNatClampNeg).toInt pv.toInt = 0 := by unfold own_term; repeat' split; all_goals omega
            exact ih (j + (1 : Int32)) nn (f (j).toNatClampNeg) _ (by omega) (by omega) ⟨by omega, by omega, by omega⟩ (One.val rfl)
      · have c102i : p2.toInt ≤ j.toInt := own_i_nlt c102
        exfalso; omega
  exact lp (p2.toInt - p1.toInt).toNat p1 (0 : Int32) p3 .unset (by omega) (by omega) ⟨by decide, by show (0 : Int) ≤ _; omega, by show (0 : Int) + _ = _; omega⟩ One.u
theorem own_pn3 : plainFor (⟨"com/example/resolvent/resolvent/text/DecodingReaderLineEndsPinLaw", "law", "(IIIIII)Z"⟩ : MethodName) = true := by first | exact plainFor_of_name (by simp [plainName, overriddenIn]; done) | decide +kernel
theorem own_pd1 : parseMethodDescriptor "([CIIIC)I" = some ⟨[(.array .char), .int, .int, .int, .char], some .int⟩ := by decide +kernel
theorem own_pd2 : parseMethodDescriptor "([CIIC)I" = some ⟨[(.array .char), .int, .int, .char], some .int⟩ := by decide +kernel
theorem own_ef_rm0 (m : MethodId) (p0 : Int32) (p1 : Int32) (p2 : Int32) (p3 : Int32) (p4 : Int32) (p5 : Int32) : entryFrame m #[(.int p0), (.int p1), (.int p2), (.int p3), (.int p4), (.int p5)] maxLocals = mkF m 0 #[iv p0, iv p1, iv p2, iv p3, iv p4, iv p5, .unset, .unset, .unset, .unset, .unset, .unset] [] := by first | (simp [entryFrame, mkF, argsToLocals, Value.category, maxLocals]; done) | rfl
abbrev own_Q_rm0 (Z : State) (p0 : Int32) (p1 : Int32) (p2 : Int32) (p3 : Int32) (p4 : Int32) (p5 : Int32) (h0 : Heap) (n0 : Nat) (v : Option Value) (h : Heap) (L : List Loc) : Prop := v = some (.int 1) ∧ Fr n0 L
set_option maxRecDepth 65536 in
set_option maxHeartbeats 40000000 in
theorem rm0 (l : Launch) (Z : State) (a0 : Array Value) (hw : ∀ d ∈ tables_1, d.before a0 Z = true) (ws : List Jvm.Cond) (p0 : Int32) (p1 : Int32) (p2 : Int32) (p3 : Int32) (p4 : Int32) (p5 : Int32) (h0 : Heap) (n0 : Nat) (Z0 : n0 ≤ h0.size) :
    MetFree l x (head1 (Jvm.Cond.code x code maxLocals ret :: ws) room_1) (fun a U => a = #[(.int p0), (.int p1), (.int p2), (.int p3), (.int p4), (.int p5)] ∧ Z.Warmed39 U.vm ∧ U.heap = h0) (fun _ _ _ _ _ => True) (fun _ U o U' => ∃ v L, o = .returned v ∧ own_Q_rm0 Z p0 p1 p2 p3 p4 p5 h0 n0 v U'.heap L ∧ FrameEnd U o U' L room_1.cells room_1.slots) := by
  refine own_enter (Q := fun v h L => own_Q_rm0 Z p0 p1 p2 p3 p4 p5 h0 n0 v h L) (F := fun m => mkF m 0 #[iv p0, iv p1, iv p2, iv p3, iv p4, iv p5, .unset, .unset, .unset, .unset, .unset, .unset] []) own_pn3 (fun m => own_ef_rm0 m p0 p1 p2 p3 p4 p5) ?_
  intro p e s m below meth c T X hx hby hml hret hlk hnm hown hZ e0
  show own_Goes p e below s _ _ (T.setTop (mkF m 0 #[iv p0, iv p1, iv p2, iv p3, iv p4, iv p5, .unset, .unset, .unset, .unset, .unset, .unset] []))
  have N0 := Fr.nil n0
  refine own_st (fun _ k => XS.iconst X.here hx rfl (hb hby at_0) k) ?_
  show own_Goes p e below s _ _ (T.setTop (mkF m 1 #[iv p0, iv p1, iv p2, iv p3, iv p4, iv p5, .unset, .unset, .unset, .unset, .unset, .unset] [(.int (4 : Int32))]))
  obtain ⟨T101, h101, X101, e101, E101, A101, st101⟩ := own_newP X hx hZ (aty := .char) (hw _ (List.mem_of_getElem? (i := 0) rfl)) e0 (g := (mkF m 1 #[iv p0, iv p1, iv p2, iv p3, iv p4, iv p5, .unset, .unset, .unset, .unset, .unset, .unset] [(.int (4 : Int32))])) rfl (hb hby at_1) rfl (by decide) (cap := 4) (by decide) (by decide) (by decide) (by decide)
  obtain ⟨b101, g101⟩ : ∃ z, z = h0.size := ⟨_, rfl⟩
  rw [← g101] at A101 st101
  have V101 : own_Arf Z h101 b101 .char 4 (fun k => .int ((fun _ => (0 : Int32)) k)) := A101
  have y101 := V101.lt
  have z101 := E101.1
  refine own_st st101 ?_
  show own_Goes p e below s _ _ (T101.setTop (mkF m 3 #[iv p0, iv p1, iv p2, iv p3, iv p4, iv p5, .unset, .unset, .unset, .unset, .unset, .unset] [(.ref b101)]))
  refine own_st (fun _ k => XS.astore X101.here hx rfl (hb hby at_3) rfl rfl (l' := #[iv p0, iv p1, iv p2, iv p3, iv p4, iv p5, rv b101, .unset, .unset, .unset, .unset, .unset]) rfl k) ?_
  show own_Goes p e below s _ _ (T101.setTop (mkF m 5 #[iv p0, iv p1, iv p2, iv p3, iv p4, iv p5, rv b101, .unset, .unset, .unset, .unset, .unset] []))
  refine own_st (fun _ k => XS.aload X101.here hx rfl (hb hby at_5) rfl rfl  k) ?_
  show own_Goes p e below s _ _ (T101.setTop (mkF m 7 #[iv p0, iv p1, iv p2, iv p3, iv p4, iv p5, rv b101, .unset, .unset, .unset, .unset, .unset] [(.ref b101)]))
  refine own_st (fun _ k => XS.iconst X101.here hx rfl (hb hby at_7) k) ?_
  show own_Goes p e below s _ _ (T101.setTop (mkF m 8 #[iv p0, iv p1, iv p2, iv p3, iv p4, iv p5, rv b101, .unset, .unset, .unset, .unset, .unset] [(.int (0 : Int32)), (.ref b101)]))
  refine own_st (fun _ k => XS.iloadN X101.here hx rfl (hb hby at_8) rfl  k) ?_
  show own_Goes p e below s _ _ (T101.setTop (mkF m 9 #[iv p0, iv p1, iv p2, iv p3, iv p4, iv p5, rv b101, .unset, .unset, .unset, .unset, .unset] [(.int p0), (.int (0 : Int32)), (.ref b101)]))
  refine own_st (fun _ k => XS.i2c X101.here hx rfl (hb hby at_9) rfl k) ?_
  show own_Goes p e below s _ _ (T101.setTop (mkF m 10 #[iv p0, iv p1, iv p2, iv p3, iv p4, iv p5, rv b101, .unset, .unset, .unset, .unset, .unset] [(.int (p0.toUInt32.toUInt16.toUInt32.toInt32)), (.int (0 : Int32)), (.ref b101)]))
  obtain ⟨T102, h102, X102, e102, W102, A102, st102⟩ := own_stC X101 hx hZ e101 V101 (j := (0 : Int32)) (by decide) (g := (mkF m 10 #[iv p0, iv p1, iv p2, iv p3, iv p4, iv p5, rv b101, .unset, .unset, .unset, .unset, .unset] [(.int (p0.toUInt32.toUInt16.toUInt32.toInt32)), (.int (0 : Int32)), (.ref b101)])) rfl rfl (hb hby at_10)
  have V102 : own_Arf Z h102 b101 .char 4 (fun k => .int ((fun k => if k = 0 then (nar .char (p0.toUInt32.toUInt16.toUInt32.toInt32)) else (fun _ => (0 : Int32)) k) k)) := A102
  have z102 := W102.size
  have N102 := Fr.snoc X102 N0 (by omega)
  refine own_st st102 ?_
  show own_Goes p e below s _ _ (T102.setTop (mkF m 11 #[iv p0, iv p1, iv p2, iv p3, iv p4, iv p5, rv b101, .unset, .unset, .unset, .unset, .unset] []))
  refine own_st (fun _ k => XS.aload X102.here hx rfl (hb hby at_11) rfl rfl  k) ?_
  show own_Goes p e below s _ _ (T102.setTop (mkF m 13 #[iv p0, iv p1, iv p2, iv p3, iv p4, iv p5, rv b101, .unset, .unset, .unset, .unset, .unset] [(.ref b101)]))
  refine own_st (fun _ k => XS.iconst X102.here hx rfl (hb hby at_13) k) ?_
  show own_Goes p e below s _ _ (T102.setTop (mkF m 14 #[iv p0, iv p1, iv p2, iv p3, iv p4, iv p5, rv b101, .unset, .unset, .unset, .unset, .unset] [(.int (1 : Int32)), (.ref b101)]))
  refine own_st (fun _ k => XS.iloadN X102.here hx rfl (hb hby at_14) rfl  k) ?_
  show own_Goes p e below s _ _ (T102.setTop (mkF m 15 #[iv p0, iv p1, iv p2, iv p3, iv p4, iv p5, rv b101, .unset, .unset, .unset, .unset, .unset] [(.int p1), (.int (1 : Int32)), (.ref b101)]))
  refine own_st (fun _ k => XS.i2c X102.here hx rfl (hb hby at_15) rfl k) ?_
  show own_Goes p e below s _ _ (T102.setTop (mkF m 16 #[iv p0, iv p1, iv p2, iv p3, iv p4, iv p5, rv b101, .unset, .unset, .unset, .unset, .unset] [(.int (p1.toUInt32.toUInt16.toUInt32.toInt32)), (.int (1 : Int32)), (.ref b101)]))
  obtain ⟨T103, h103, X103, e103, W103, A103, st103⟩ := own_stC X102 hx hZ e102 V102 (j := (1 : Int32)) (by decide) (g := (mkF m 16 #[iv p0, iv p1, iv p2, iv p3, iv p4, iv p5, rv b101, .unset, .unset, .unset, .unset, .unset] [(.int (p1.toUInt32.toUInt16.toUInt32.toInt32)), (.int (1 : Int32)), (.ref b101)])) rfl rfl (hb hby at_16)
  have V103 : own_Arf Z h103 b101 .char 4 (fun k => .int ((fun k => if k = 1 then (nar .char (p1.toUInt32.toUInt16.toUInt32.toInt32)) else (fun k => if k = 0 then (nar .char (p0.toUInt32.toUInt16.toUInt32.toInt32)) else (fun _ => (0 : Int32)) k) k) k)) := A103
  have z103 := W103.size
  have N103 := Fr.snoc X103 N102 (by omega)
  refine own_st st103 ?_
  show own_Goes p e below s _ _ (T103.setTop (mkF m 17 #[iv p0, iv p1, iv p2, iv p3, iv p4, iv p5, rv b101, .unset, .unset, .unset, .unset, .unset] []))
  refine own_st (fun _ k => XS.aload X103.here hx rfl (hb hby at_17) rfl rfl  k) ?_
  show own_Goes p e below s _ _ (T103.setTop (mkF m 19 #[iv p0, iv p1, iv p2, iv p3, iv p4, iv p5, rv b101, .unset, .unset, .unset, .unset, .unset] [(.ref b101)]))
  refine own_st (fun _ k => XS.iconst X103.here hx rfl (hb hby at_19) k) ?_
  show own_Goes p e below s _ _ (T103.setTop (mkF m 20 #[iv p0, iv p1, iv p2, iv p3, iv p4, iv p5, rv b101, .unset, .unset, .unset, .unset, .unset] [(.int (2 : Int32)), (.ref b101)]))
  refine own_st (fun _ k => XS.iloadN X103.here hx rfl (hb hby at_20) rfl  k) ?_
  show own_Goes p e below s _ _ (T103.setTop (mkF m 21 #[iv p0, iv p1, iv p2, iv p3, iv p4, iv p5, rv b101, .unset, .unset, .unset, .unset, .unset] [(.int p2), (.int (2 : Int32)), (.ref b101)]))
  refine own_st (fun _ k => XS.i2c X103.here hx rfl (hb hby at_21) rfl k) ?_
  show own_Goes p e below s _ _ (T103.setTop (mkF m 22 #[iv p0, iv p1, iv p2, iv p3, iv p4, iv p5, rv b101, .unset, .unset, .unset, .unset, .unset] [(.int (p2.toUInt32.toUInt16.toUInt32.toInt32)), (.int (2 : Int32)), (.ref b101)]))
  obtain ⟨T104, h104, X104, e104, W104, A104, st104⟩ := own_stC X103 hx hZ e103 V103 (j := (2 : Int32)) (by decide) (g := (mkF m 22 #[iv p0, iv p1, iv p2, iv p3, iv p4, iv p5, rv b101, .unset, .unset, .unset, .unset, .unset] [(.int (p2.toUInt32.toUInt16.toUInt32.toInt32)), (.int (2 : Int32)), (.ref b101)])) rfl rfl (hb hby at_22)
  have V104 : own_Arf Z h104 b101 .char 4 (fun k => .int ((fun k => if k = 2 then (nar .char (p2.toUInt32.toUInt16.toUInt32.toInt32)) else (fun k => if k = 1 then (nar .char (p1.toUInt32.toUInt16.toUInt32.toInt32)) else (fun k => if k = 0 then (nar .char (p0.toUInt32.toUInt16.toUInt32.toInt32)) else (fun _ => (0 : Int32)) k) k) k) k)) := A104
  have z104 := W104.size
  have N104 := Fr.snoc X104 N103 (by omega)
  refine own_st st104 ?_
  show own_Goes p e below s _ _ (T104.setTop (mkF m 23 #[iv p0, iv p1, iv p2, iv p3, iv p4, iv p5, rv b101, .unset, .unset, .unset, .unset, .unset] []))
  refine own_st (fun _ k => XS.aload X104.here hx rfl (hb hby at_23) rfl rfl  k) ?_
  show own_Goes p e below s _ _ (T104.setTop (mkF m 25 #[iv p0, iv p1, iv p2, iv p3, iv p4, iv p5, rv b101, .unset, .unset, .unset, .unset, .unset] [(.ref b101)]))
  refine own_st (fun _ k => XS.iconst X104.here hx rfl (hb hby at_25) k) ?_
  show own_Goes p e below s _ _ (T104.setTop (mkF m 26 #[iv p0, iv p1, iv p2, iv p3, iv p4, iv p5, rv b101, .unset, .unset, .unset, .unset, .unset] [(.int (3 : Int32)), (.ref b101)]))
  refine own_st (fun _ k => XS.iloadN X104.here hx rfl (hb hby at_26) rfl  k) ?_
  show own_Goes p e below s _ _ (T104.setTop (mkF m 27 #[iv p0, iv p1, iv p2, iv p3, iv p4, iv p5, rv b101, .unset, .unset, .unset, .unset, .unset] [(.int p3), (.int (3 : Int32)), (.ref b101)]))
  refine own_st (fun _ k => XS.i2c X104.here hx rfl (hb hby at_27) rfl k) ?_
  show own_Goes p e below s _ _ (T104.setTop (mkF m 28 #[iv p0, iv p1, iv p2, iv p3, iv p4, iv p5, rv b101, .unset, .unset, .unset, .unset, .unset] [(.int (p3.toUInt32.toUInt16.toUInt32.toInt32)), (.int (3 : Int32)), (.ref b101)]))
  obtain ⟨T105, h105, X105, e105, W105, A105, st105⟩ := own_stC X104 hx hZ e104 V104 (j := (3 : Int32)) (by decide) (g := (mkF m 28 #[iv p0, iv p1, iv p2, iv p3, iv p4, iv p5, rv b101, .unset, .unset, .unset, .unset, .unset] [(.int (p3.toUInt32.toUInt16.toUInt32.toInt32)), (.int (3 : Int32)), (.ref b101)])) rfl rfl (hb hby at_28)
  have V105 : own_Arf Z h105 b101 .char 4 (fun k => .int ((fun k => if k = 3 then (nar .char (p3.toUInt32.toUInt16.toUInt32.toInt32)) else (fun k => if k = 2 then (nar .char (p2.toUInt32.toUInt16.toUInt32.toInt32)) else (fun k => if k = 1 then (nar .char (p1.toUInt32.toUInt16.toUInt32.toInt32)) else (fun k => if k = 0 then (nar .char (p0.toUInt32.toUInt16.toUInt32.toInt32)) else (fun _ => (0 : Int32)) k) k) k) k) k)) := A105
  have z105 := W105.size
  have N105 := Fr.snoc X105 N104 (by omega)
  refine own_st st105 ?_
  show own_Goes p e below s _ _ (T105.setTop (mkF m 29 #[iv p0, iv p1, iv p2, iv p3, iv p4, iv p5, rv b101, .unset, .unset, .unset, .unset, .unset] []))
  refine own_st (fun _ k => XS.iload X105.here hx rfl (hb hby at_29) rfl  k) ?_
  show own_Goes p e below s _ _ (T105.setTop (mkF m 31 #[iv p0, iv p1, iv p2, iv p3, iv p4, iv p5, rv b101, .unset, .unset, .unset, .unset, .unset] [(.int p4)]))
  refine own_st (fun _ k => XS.i2c X105.here hx rfl (hb hby at_31) rfl k) ?_
  show own_Goes p e below s _ _ (T105.setTop (mkF m 32 #[iv p0, iv p1, iv p2, iv p3, iv p4, iv p5, rv b101, .unset, .unset, .unset, .unset, .unset] [(.int (p4.toUInt32.toUInt16.toUInt32.toInt32))]))
  refine own_st (fun _ k => XS.istore X105.here hx rfl (hb hby at_32) rfl (l' := #[iv p0, iv p1, iv p2, iv p3, iv p4, iv p5, rv b101, iv (p4.toUInt32.toUInt16.toUInt32.toInt32), .unset, .unset, .unset, .unset]) rfl k) ?_
  show own_Goes p e below s _ _ (T105.setTop (mkF m 34 #[iv p0, iv p1, iv p2, iv p3, iv p4, iv p5, rv b101, iv (p4.toUInt32.toUInt16.toUInt32.toInt32), .unset, .unset, .unset, .unset] []))
  refine own_st (fun _ k => XS.iload X105.here hx rfl (hb hby at_34) rfl  k) ?_
  show own_Goes p e below s _ _ (T105.setTop (mkF m 36 #[iv p0, iv p1, iv p2, iv p3, iv p4, iv p5, rv b101, iv (p4.toUInt32.toUInt16.toUInt32.toInt32), .unset, .unset, .unset, .unset] [(.int p5)]))
  refine own_st (fun _ k => XS.sipush X105.here hx rfl (hb hby at_36) k) ?_
  show own_Goes p e below s _ _ (T105.setTop (mkF m 39 #[iv p0, iv p1, iv p2, iv p3, iv p4, iv p5, rv b101, iv (p4.toUInt32.toUInt16.toUInt32.toInt32), .unset, .unset, .unset, .unset] [(.int (255 : Int32)), (.int p5)]))
  refine own_st (fun _ k => XS.iand X105.here hx rfl (hb hby at_39) rfl k) ?_
  show own_Goes p e below s _ _ (T105.setTop (mkF m 40 #[iv p0, iv p1, iv p2, iv p3, iv p4, iv p5, rv b101, iv (p4.toUInt32.toUInt16.toUInt32.toInt32), .unset, .unset, .unset, .unset] [(.int (p5 &&& (255 : Int32)))]))
  refine own_st (fun _ k => XS.iconst X105.here hx rfl (hb hby at_40) k) ?_
  show own_Goes p e below s _ _ (T105.setTop (mkF m 41 #[iv p0, iv p1, iv p2, iv p3, iv p4, iv p5, rv b101, iv (p4.toUInt32.toUInt16.toUInt32.toInt32), .unset, .unset, .unset, .unset] [(.int (5 : Int32)), (.int (p5 &&& (255 : Int32)))]))
  refine own_st (fun _ k => iremM X105 hx rfl (hb hby at_41) rfl (by decide) k) ?_
  show own_Goes p e below s _ _ (T105.setTop (mkF m 42 #[iv p0, iv p1, iv p2, iv p3, iv p4, iv p5, rv b101, iv (p4.toUInt32.toUInt16.toUInt32.toInt32), .unset, .unset, .unset, .unset] [(.int ((p5 &&& (255 : Int32)) % (5 : Int32)))]))
  have hfrom := own_rem5 p5
  generalize ((p5 &&& (255 : Int32)) % (5 : Int32)) = fr at hfrom ⊢
  show own_Goes p e below s _ _ (T105.setTop (mkF m 42 #[iv p0, iv p1, iv p2, iv p3, iv p4, iv p5, rv b101, iv (p4.toUInt32.toUInt16.toUInt32.toInt32), .unset, .unset, .unset, .unset] [(.int fr)]))
  refine own_st (fun _ k => XS.istore X105.here hx rfl (hb hby at_42) rfl (l' := #[iv p0, iv p1, iv p2, iv p3, iv p4, iv p5, rv b101, iv (p4.toUInt32.toUInt16.toUInt32.toInt32), iv fr, .unset, .unset, .unset]) rfl k) ?_
  show own_Goes p e below s _ _ (T105.setTop (mkF m 44 #[iv p0, iv p1, iv p2, iv p3, iv p4, iv p5, rv b101, iv (p4.toUInt32.toUInt16.toUInt32.toInt32), iv fr, .unset, .unset, .unset] []))
  refine own_st (fun _ k => XS.iload X105.here hx rfl (hb hby at_44) rfl  k) ?_
  show own_Goes p e below s _ _ (T105.setTop (mkF m 46 #[iv p0, iv p1, iv p2, iv p3, iv p4, iv p5, rv b101, iv (p4.toUInt32.toUInt16.toUInt32.toInt32), iv fr, .unset, .unset, .unset] [(.int fr)]))
  refine own_st (fun _ k => XS.iload X105.here hx rfl (hb hby at_46) rfl  k) ?_
  show own_Goes p e below s _ _ (T105.setTop (mkF m 48 #[iv p0, iv p1, iv p2, iv p3, iv p4, iv p5, rv b101, iv (p4.toUInt32.toUInt16.toUInt32.toInt32), iv fr, .unset, .unset, .unset] [(.int p5), (.int fr)]))
  refine own_st (fun _ k => XS.bipush X105.here hx rfl (hb hby at_48) k) ?_
  show own_Goes p e below s _ _ (T105.setTop (mkF m 50 #[iv p0, iv p1, iv p2, iv p3, iv p4, iv p5, rv b101, iv (p4.toUInt32.toUInt16.toUInt32.toInt32), iv fr, .unset, .unset, .unset] [(.int (8 : Int32)), (.int p5), (.int fr)]))
  refine own_st (fun _ k => XS.iushr X105.here hx rfl (hb hby at_50) rfl k) ?_
  show own_Goes p e below s _ _ (T105.setTop (mkF m 51 #[iv p0, iv p1, iv p2, iv p3, iv p4, iv p5, rv b101, iv (p4.toUInt32.toUInt16.toUInt32.toInt32), iv fr, .unset, .unset, .unset] [(.int ((p5.toUInt32 >>> ((8 : Int32) &&& 31).toUInt32).toInt32)), (.int fr)]))
  refine own_st (fun _ k => XS.sipush X105.here hx rfl (hb hby at_51) k) ?_
  show own_Goes p e below s _ _ (T105.setTop (mkF m 54 #[iv p0, iv p1, iv p2, iv p3, iv p4, iv p5, rv b101, iv (p4.toUInt32.toUInt16.toUInt32.toInt32), iv fr, .unset, .unset, .unset] [(.int (255 : Int32)), (.int ((p5.toUInt32 >>> ((8 : Int32) &&& 31).toUInt32).toInt32)), (.int fr)]))
  refine own_st (fun _ k => XS.iand X105.here hx rfl (hb hby at_54) rfl k) ?_
  show own_Goes p e below s _ _ (T105.setTop (mkF m 55 #[iv p0, iv p1, iv p2, iv p3, iv p4, iv p5, rv b101, iv (p4.toUInt32.toUInt16.toUInt32.toInt32), iv fr, .unset, .unset, .unset] [(.int (((p5.toUInt32 >>> ((8 : Int32) &&& 31).toUInt32).toInt32) &&& (255 : Int32))), (.int fr)]))
  refine own_st (fun _ k => XS.iconst X105.here hx rfl (hb hby at_55) k) ?_
  show own_Goes p e below s _ _ (T105.setTop (mkF m 56 #[iv p0, iv p1, iv p2, iv p3, iv p4, iv p5, rv b101, iv (p4.toUInt32.toUInt16.toUInt32.toInt32), iv fr, .unset, .unset, .unset] [(.int (5 : Int32)), (.int (((p5.toUInt32 >>> ((8 : Int32) &&& 31).toUInt32).toInt32) &&& (255 : Int32))), (.int fr)]))
  refine own_st (fun _ k => XS.iload X105.here hx rfl (hb hby at_56) rfl  k) ?_
  show own_Goes p e below s _ _ (T105.setTop (mkF m 58 #[iv p0, iv p1, iv p2, iv p3, iv p4, iv p5, rv b101, iv (p4.toUInt32.toUInt16.toUInt32.toInt32), iv fr, .unset, .unset, .unset] [(.int fr), (.int (5 : Int32)), (.int (((p5.toUInt32 >>> ((8 : Int32) &&& 31).toUInt32).toInt32) &&& (255 : Int32))), (.int fr)]))
  refine own_st (fun _ k => XS.isub X105.here hx rfl (hb hby at_58) rfl k) ?_
  show own_Goes p e below s _ _ (T105.setTop (mkF m 59 #[iv p0, iv p1, iv p2, iv p3, iv p4, iv p5, rv b101, iv (p4.toUInt32.toUInt16.toUInt32.toInt32), iv fr, .unset, .unset, .unset] [(.int ((5 : Int32) - fr)), (.int (((p5.toUInt32 >>> ((8 : Int32) &&& 31).toUInt32).toInt32) &&& (255 : Int32))), (.int fr)]))
  refine own_st (fun _ k => iremM X105 hx rfl (hb hby at_59) rfl (own_nz5 hfrom) k) ?_
  show own_Goes p e below s _ _ (T105.setTop (mkF m 60 #[iv p0, iv p1, iv p2, iv p3, iv p4, iv p5, rv b101, iv (p4.toUInt32.toUInt16.toUInt32.toInt32), iv fr, .unset, .unset, .unset] [(.int ((((p5.toUInt32 >>> ((8 : Int32) &&& 31).toUInt32).toInt32) &&& (255 : Int32)) % ((5 : Int32) - fr))), (.int fr)]))
  refine own_st (fun _ k => XS.iadd X105.here hx rfl (hb hby at_60) rfl k) ?_
  show own_Goes p e below s _ _ (T105.setTop (mkF m 61 #[iv p0, iv p1, iv p2, iv p3, iv p4, iv p5, rv b101, iv (p4.toUInt32.toUInt16.toUInt32.toInt32), iv fr, .unset, .unset, .unset] [(.int (fr + ((((p5.toUInt32 >>> ((8 : Int32) &&& 31).toUInt32).toInt32) &&& (255 : Int32)) % ((5 : Int32) - fr))))]))
  have hto := own_t5 fr p5 hfrom
  generalize (fr + ((((p5.toUInt32 >>> ((8 : Int32) &&& 31).toUInt32).toInt32) &&& (255 : Int32)) % ((5 : Int32) - fr))) = to at hto ⊢
  show own_Goes p e below s _ _ (T105.setTop (mkF m 61 #[iv p0, iv p1, iv p2, iv p3, iv p4, iv p5, rv b101, iv (p4.toUInt32.toUInt16.toUInt32.toInt32), iv fr, .unset, .unset, .unset] [(.int to)]))
  refine own_st (fun _ k => XS.istore X105.here hx rfl (hb hby at_61) rfl (l' := #[iv p0, iv p1, iv p2, iv p3, iv p4, iv p5, rv b101, iv (p4.toUInt32.toUInt16.toUInt32.toInt32), iv fr, iv to, .unset, .unset]) rfl k) ?_
  show own_Goes p e below s _ _ (T105.setTop (mkF m 63 #[iv p0, iv p1, iv p2, iv p3, iv p4, iv p5, rv b101, iv (p4.toUInt32.toUInt16.toUInt32.toInt32), iv fr, iv to, .unset, .unset] []))
  generalize (fun k => if k = 3 then (nar .char (p3.toUInt32.toUInt16.toUInt32.toInt32)) else (fun k => if k = 2 then (nar .char (p2.toUInt32.toUInt16.toUInt32.toInt32)) else (fun k => if k = 1 then (nar .char (p1.toUInt32.toUInt16.toUInt32.toInt32)) else (fun k => if k = 0 then (nar .char (p0.toUInt32.toUInt16.toUInt32.toInt32)) else (fun _ => (0 : Int32)) k) k) k) k) = F at V105
  generalize (p4.toUInt32.toUInt16.toUInt32.toInt32) = bef
  show own_Goes p e below s _ _ (T105.setTop (mkF m 63 #[iv p0, iv p1, iv p2, iv p3, iv p4, iv p5, rv b101, iv bef, iv fr, iv to, .unset, .unset] []))
  refine own_st (fun _ k => XS.aload X105.here hx rfl (hb hby at_63) rfl rfl  k) ?_
  show own_Goes p e below s _ _ (T105.setTop (mkF m 65 #[iv p0, iv p1, iv p2, iv p3, iv p4, iv p5, rv b101, iv bef, iv fr, iv to, .unset, .unset] [(.ref b101)]))
  refine own_st (fun _ k => XS.iconst X105.here hx rfl (hb hby at_65) k) ?_
  show own_Goes p e below s _ _ (T105.setTop (mkF m 66 #[iv p0, iv p1, iv p2, iv p3, iv p4, iv p5, rv b101, iv bef, iv fr, iv to, .unset, .unset] [(.int (0 : Int32)), (.ref b101)]))
  refine own_st (fun _ k => XS.iload X105.here hx rfl (hb hby at_66) rfl  k) ?_
  show own_Goes p e below s _ _ (T105.setTop (mkF m 68 #[iv p0, iv p1, iv p2, iv p3, iv p4, iv p5, rv b101, iv bef, iv fr, iv to, .unset, .unset] [(.int fr), (.int (0 : Int32)), (.ref b101)]))
  refine own_st (fun _ k => XS.iload X105.here hx rfl (hb hby at_68) rfl  k) ?_
  show own_Goes p e below s _ _ (T105.setTop (mkF m 70 #[iv p0, iv p1, iv p2, iv p3, iv p4, iv p5, rv b101, iv bef, iv fr, iv to, .unset, .unset] [(.int to), (.int fr), (.int (0 : Int32)), (.ref b101)]))
  refine own_st (fun _ k => XS.iload X105.here hx rfl (hb hby at_70) rfl  k) ?_
  show own_Goes p e below s _ _ (T105.setTop (mkF m 72 #[iv p0, iv p1, iv p2, iv p3, iv p4, iv p5, rv b101, iv bef, iv fr, iv to, .unset, .unset] [(.int bef), (.int to), (.int fr), (.int (0 : Int32)), (.ref b101)]))
  obtain ⟨v106, T106, L106, X106, Q106, st106⟩ := own_callS X105 hx hZ (y := (⟨"com/example/resolvent/resolvent/text/DecodingReaderLineEndsPinLaw", "at", "([CIIIC)I"⟩ : MethodName)) hown (hw _ (List.mem_of_getElem? (i := 1) rfl)) (hw _ (List.mem_of_getElem? (i := 2) rfl)) (hw _ (List.mem_of_getElem? (i := 3) rfl)) (hw _ (List.mem_of_getElem? (i := 4) rfl)) (by decide) (W := 0) (rest := []) (argsL := [(.ref b101), (.int (0 : Int32)), (.int fr), (.int to), (.int bef)]) (rmA l Z a0 hw [] b101 (0 : Int32) fr to bef _ h105 n0 (by omega) V105 (by decide) hfrom.1) (by decide) (by decide) (by decide) (by decide) e105 own_pd1 rfl (g := (mkF m 72 #[iv p0, iv p1, iv p2, iv p3, iv p4, iv p5, rv b101, iv bef, iv fr, iv to, .unset, .unset] [(.int bef), (.int to), (.int fr), (.int (0 : Int32)), (.ref b101)])) rfl (by rw [hml]; rfl) rfl (by show 2 * 0 + _ ≤ _; exact Nat.le_of_eq rfl) (hb hby at_72)
  obtain ⟨r106, rfl, hr106, N106q, e106⟩ := Q106
  have N106 := Fr.app N105 N106q
  refine own_st st106 ?_
  show own_Goes p e below s _ _ (T106.setTop (mkF m 75 #[iv p0, iv p1, iv p2, iv p3, iv p4, iv p5, rv b101, iv bef, iv fr, iv to, .unset, .unset] [(.int r106)]))
  refine own_st (fun _ k => XS.aload X106.here hx rfl (hb hby at_75) rfl rfl  k) ?_
  show own_Goes p e below s _ _ (T106.setTop (mkF m 77 #[iv p0, iv p1, iv p2, iv p3, iv p4, iv p5, rv b101, iv bef, iv fr, iv to, .unset, .unset] [(.ref b101), (.int r106)]))
  refine own_st (fun _ k => XS.iconst X106.here hx rfl (hb hby at_77) k) ?_
  show own_Goes p e below s _ _ (T106.setTop (mkF m 78 #[iv p0, iv p1, iv p2, iv p3, iv p4, iv p5, rv b101, iv bef, iv fr, iv to, .unset, .unset] [(.int (1 : Int32)), (.ref b101), (.int r106)]))
  refine own_st (fun _ k => XS.iload X106.here hx rfl (hb hby at_78) rfl  k) ?_
  show own_Goes p e below s _ _ (T106.setTop (mkF m 80 #[iv p0, iv p1, iv p2, iv p3, iv p4, iv p5, rv b101, iv bef, iv fr, iv to, .unset, .unset] [(.int fr), (.int (1 : Int32)), (.ref b101), (.int r106)]))
  refine own_st (fun _ k => XS.iload X106.here hx rfl (hb hby at_80) rfl  k) ?_
  show own_Goes p e below s _ _ (T106.setTop (mkF m 82 #[iv p0, iv p1, iv p2, iv p3, iv p4, iv p5, rv b101, iv bef, iv fr, iv to, .unset, .unset] [(.int to), (.int fr), (.int (1 : Int32)), (.ref b101), (.int r106)]))
  refine own_st (fun _ k => XS.iload X106.here hx rfl (hb hby at_82) rfl  k) ?_
  show own_Goes p e below s _ _ (T106.setTop (mkF m 84 #[iv p0, iv p1, iv p2, iv p3, iv p4, iv p5, rv b101, iv bef, iv fr, iv to, .unset, .unset] [(.int bef), (.int to), (.int fr), (.int (1 : Int32)), (.ref b101), (.int r106)]))
  obtain ⟨v107, T107, L107, X107, Q107, st107⟩ := own_callS X106 hx hZ (y := (⟨"com/example/resolvent/resolvent/text/DecodingReaderLineEndsPinLaw", "at", "([CIIIC)I"⟩ : MethodName)) hown (hw _ (List.mem_of_getElem? (i := 1) rfl)) (hw _ (List.mem_of_getElem? (i := 2) rfl)) (hw _ (List.mem_of_getElem? (i := 3) rfl)) (hw _ (List.mem_of_getElem? (i := 4) rfl)) (by decide) (W := 1) (rest := [(.int r106)]) (argsL := [(.ref b101), (.int (1 : Int32)), (.int fr), (.int to), (.int bef)]) (rmA l Z a0 hw [] b101 (1 : Int32) fr to bef _ h105 n0 (by omega) V105 (by decide) hfrom.1) (by decide) (by decide) (by decide) (by decide) e106 own_pd1 rfl (g := (mkF m 84 #[iv p0, iv p1, iv p2, iv p3, iv p4, iv p5, rv b101, iv bef, iv fr, iv to, .unset, .unset] [(.int bef), (.int to), (.int fr), (.int (1 : Int32)), (.ref b101), (.int r106)])) rfl (by rw [hml]; rfl) rfl (by show 2 * 0 + _ ≤ _; exact Nat.le_of_eq rfl) (hb hby at_84)
  obtain ⟨r107, rfl, hr107, N107q, e107⟩ := Q107
  have N107 := Fr.app N106 N107q
  refine own_st st107 ?_
  show own_Goes p e below s _ _ (T107.setTop (mkF m 87 #[iv p0, iv p1, iv p2, iv p3, iv p4, iv p5, rv b101, iv bef, iv fr, iv to, .unset, .unset] [(.int r107), (.int r106)]))
  refine own_st (fun _ k => XS.iadd X107.here hx rfl (hb hby at_87) rfl k) ?_
  show own_Goes p e below s _ _ (T107.setTop (mkF m 88 #[iv p0, iv p1, iv p2, iv p3, iv p4, iv p5, rv b101, iv bef, iv fr, iv to, .unset, .unset] [(.int (r106 + r107))]))
  refine own_st (fun _ k => XS.aload X107.here hx rfl (hb hby at_88) rfl rfl  k) ?_
  show own_Goes p e below s _ _ (T107.setTop (mkF m 90 #[iv p0, iv p1, iv p2, iv p3, iv p4, iv p5, rv b101, iv bef, iv fr, iv to, .unset, .unset] [(.ref b101), (.int (r106 + r107))]))
  refine own_st (fun _ k => XS.iconst X107.here hx rfl (hb hby at_90) k) ?_
  show own_Goes p e below s _ _ (T107.setTop (mkF m 91 #[iv p0, iv p1, iv p2, iv p3, iv p4, iv p5, rv b101, iv bef, iv fr, iv to, .unset, .unset] [(.int (2 : Int32)), (.ref b101), (.int (r106 + r107))]))
  refine own_st (fun _ k => XS.iload X107.here hx rfl (hb hby at_91) rfl  k) ?_
  show own_Goes p e below s _ _ (T107.setTop (mkF m 93 #[iv p0, iv p1, iv p2, iv p3, iv p4, iv p5, rv b101, iv bef, iv fr, iv to, .unset, .unset] [(.int fr), (.int (2 : Int32)), (.ref b101), (.int (r106 + r107))]))
  refine own_st (fun _ k => XS.iload X107.here hx rfl (hb hby at_93) rfl  k) ?_
  show own_Goes p e below s _ _ (T107.setTop (mkF m 95 #[iv p0, iv p1, iv p2, iv p3, iv p4, iv p5, rv b101, iv bef, iv fr, iv to, .unset, .unset] [(.int to), (.int fr), (.int (2 : Int32)), (.ref b101), (.int (r106 + r107))]))
  refine own_st (fun _ k => XS.iload X107.here hx rfl (hb hby at_95) rfl  k) ?_
  show own_Goes p e below s _ _ (T107.setTop (mkF m 97 #[iv p0, iv p1, iv p2, iv p3, iv p4, iv p5, rv b101, iv bef, iv fr, iv to, .unset, .unset] [(.int bef), (.int to), (.int fr), (.int (2 : Int32)), (.ref b101), (.int (r106 + r107))]))
  obtain ⟨v108, T108, L108, X108, Q108, st108⟩ := own_callS X107 hx hZ (y := (⟨"com/example/resolvent/resolvent/text/DecodingReaderLineEndsPinLaw", "at", "([CIIIC)I"⟩ : MethodName)) hown (hw _ (List.mem_of_getElem? (i := 1) rfl)) (hw _ (List.mem_of_getElem? (i := 2) rfl)) (hw _ (List.mem_of_getElem? (i := 3) rfl)) (hw _ (List.mem_of_getElem? (i := 4) rfl)) (by decide) (W := 1) (rest := [(.int (r106 + r107))]) (argsL := [(.ref b101), (.int (2 : Int32)), (.int fr), (.int to), (.int bef)]) (rmA l Z a0 hw [] b101 (2 : Int32) fr to bef _ h105 n0 (by omega) V105 (by decide) hfrom.1) (by decide) (by decide) (by decide) (by decide) e107 own_pd1 rfl (g := (mkF m 97 #[iv p0, iv p1, iv p2, iv p3, iv p4, iv p5, rv b101, iv bef, iv fr, iv to, .unset, .unset] [(.int bef), (.int to), (.int fr), (.int (2 : Int32)), (.ref b101), (.int (r106 + r107))])) rfl (by rw [hml]; rfl) rfl (by show 2 * 0 + _ ≤ _; exact Nat.le_of_eq rfl) (hb hby at_97)
  obtain ⟨r108, rfl, hr108, N108q, e108⟩ := Q108
  have N108 := Fr.app N107 N108q
  refine own_st st108 ?_
  show own_Goes p e below s _ _ (T108.setTop (mkF m 100 #[iv p0, iv p1, iv p2, iv p3, iv p4, iv p5, rv b101, iv bef, iv fr, iv to, .unset, .unset] [(.int r108), (.int (r106 + r107))]))
  refine own_st (fun _ k => XS.iadd X108.here hx rfl (hb hby at_100) rfl k) ?_
  show own_Goes p e below s _ _ (T108.setTop (mkF m 101 #[iv p0, iv p1, iv p2, iv p3, iv p4, iv p5, rv b101, iv bef, iv fr, iv to, .unset, .unset] [(.int ((r106 + r107) + r108))]))
  refine own_st (fun _ k => XS.aload X108.here hx rfl (hb hby at_101) rfl rfl  k) ?_
  show own_Goes p e below s _ _ (T108.setTop (mkF m 103 #[iv p0, iv p1, iv p2, iv p3, iv p4, iv p5, rv b101, iv bef, iv fr, iv to, .unset, .unset] [(.ref b101), (.int ((r106 + r107) + r108))]))
  refine own_st (fun _ k => XS.iconst X108.here hx rfl (hb hby at_103) k) ?_
  show own_Goes p e below s _ _ (T108.setTop (mkF m 104 #[iv p0, iv p1, iv p2, iv p3, iv p4, iv p5, rv b101, iv bef, iv fr, iv to, .unset, .unset] [(.int (3 : Int32)), (.ref b101), (.int ((r106 + r107) + r108))]))
  refine own_st (fun _ k => XS.iload X108.here hx rfl (hb hby at_104) rfl  k) ?_
  show own_Goes p e below s _ _ (T108.setTop (mkF m 106 #[iv p0, iv p1, iv p2, iv p3, iv p4, iv p5, rv b101, iv bef, iv fr, iv to, .unset, .unset] [(.int fr), (.int (3 : Int32)), (.ref b101), (.int ((r106 + r107) + r108))]))
  refine own_st (fun _ k => XS.iload X108.here hx rfl (hb hby at_106) rfl  k) ?_
  show own_Goes p e below s _ _ (T108.setTop (mkF m 108 #[iv p0, iv p1, iv p2, iv p3, iv p4, iv p5, rv b101, iv bef, iv fr, iv to, .unset, .unset] [(.int to), (.int fr), (.int (3 : Int32)), (.ref b101), (.int ((r106 + r107) + r108))]))
  refine own_st (fun _ k => XS.iload X108.here hx rfl (hb hby at_108) rfl  k) ?_
  show own_Goes p e below s _ _ (T108.setTop (mkF m 110 #[iv p0, iv p1, iv p2, iv p3, iv p4, iv p5, rv b101, iv bef, iv fr, iv to, .unset, .unset] [(.int bef), (.int to), (.int fr), (.int (3 : Int32)), (.ref b101), (.int ((r106 + r107) + r108))]))
  obtain ⟨v109, T109, L109, X109, Q109, st109⟩ := own_callS X108 hx hZ (y := (⟨"com/example/resolvent/resolvent/text/DecodingReaderLineEndsPinLaw", "at", "([CIIIC)I"⟩ : MethodName)) hown (hw _ (List.mem_of_getElem? (i := 1) rfl)) (hw _ (List.mem_of_getElem? (i := 2) rfl)) (hw _ (List.mem_of_getElem? (i := 3) rfl)) (hw _ (List.mem_of_getElem? (i := 4) rfl)) (by decide) (W := 1) (rest := [(.int ((r106 + r107) + r108))]) (argsL := [(.ref b101), (.int (3 : Int32)), (.int fr), (.int to), (.int bef)]) (rmA l Z a0 hw [] b101 (3 : Int32) fr to bef _ h105 n0 (by omega) V105 (by decide) hfrom.1) (by decide) (by decide) (by decide) (by decide) e108 own_pd1 rfl (g := (mkF m 110 #[iv p0, iv p1, iv p2, iv p3, iv p4, iv p5, rv b101, iv bef, iv fr, iv to, .unset, .unset] [(.int bef), (.int to), (.int fr), (.int (3 : Int32)), (.ref b101), (.int ((r106 + r107) + r108))])) rfl (by rw [hml]; rfl) rfl (by show 2 * 0 + _ ≤ _; exact Nat.le_of_eq rfl) (hb hby at_110)
  obtain ⟨r109, rfl, hr109, N109q, e109⟩ := Q109
  have N109 := Fr.app N108 N109q
  refine own_st st109 ?_
  show own_Goes p e below s _ _ (T109.setTop (mkF m 113 #[iv p0, iv p1, iv p2, iv p3, iv p4, iv p5, rv b101, iv bef, iv fr, iv to, .unset, .unset] [(.int r109), (.int ((r106 + r107) + r108))]))
  refine own_st (fun _ k => XS.iadd X109.here hx rfl (hb hby at_113) rfl k) ?_
  show own_Goes p e below s _ _ (T109.setTop (mkF m 114 #[iv p0, iv p1, iv p2, iv p3, iv p4, iv p5, rv b101, iv bef, iv fr, iv to, .unset, .unset] [(.int (((r106 + r107) + r108) + r109))]))
  refine own_st (fun _ k => XS.istore X109.here hx rfl (hb hby at_114) rfl (l' := #[iv p0, iv p1, iv p2, iv p3, iv p4, iv p5, rv b101, iv bef, iv fr, iv to, iv (((r106 + r107) + r108) + r109), .unset]) rfl k) ?_
  show own_Goes p e below s _ _ (T109.setTop (mkF m 116 #[iv p0, iv p1, iv p2, iv p3, iv p4, iv p5, rv b101, iv bef, iv fr, iv to, iv (((r106 + r107) + r108) + r109), .unset] []))
  refine own_st (fun _ k => XS.aload X109.here hx rfl (hb hby at_116) rfl rfl  k) ?_
  show own_Goes p e below s _ _ (T109.setTop (mkF m 118 #[iv p0, iv p1, iv p2, iv p3, iv p4, iv p5, rv b101, iv bef, iv fr, iv to, iv (((r106 + r107) + r108) + r109), .unset] [(.ref b101)]))
  refine own_st (fun _ k => XS.iload X109.here hx rfl (hb hby at_118) rfl  k) ?_
  show own_Goes p e below s _ _ (T109.setTop (mkF m 120 #[iv p0, iv p1, iv p2, iv p3, iv p4, iv p5, rv b101, iv bef, iv fr, iv to, iv (((r106 + r107) + r108) + r109), .unset] [(.int fr), (.ref b101)]))
  refine own_st (fun _ k => XS.iload X109.here hx rfl (hb hby at_120) rfl  k) ?_
  show own_Goes p e below s _ _ (T109.setTop (mkF m 122 #[iv p0, iv p1, iv p2, iv p3, iv p4, iv p5, rv b101, iv bef, iv fr, iv to, iv (((r106 + r107) + r108) + r109), .unset] [(.int to), (.int fr), (.ref b101)]))
  refine own_st (fun _ k => XS.iload X109.here hx rfl (hb hby at_122) rfl  k) ?_
  show own_Goes p e below s _ _ (T109.setTop (mkF m 124 #[iv p0, iv p1, iv p2, iv p3, iv p4, iv p5, rv b101, iv bef, iv fr, iv to, iv (((r106 + r107) + r108) + r109), .unset] [(.int bef), (.int to), (.int fr), (.ref b101)]))
  obtain ⟨v110, T110, L110, X110, Q110, st110⟩ := own_callS X109 hx hZ (y := (⟨"com/example/resolvent/resolvent/text/DecodingReader", "lineEnds", "([CIIC)I"⟩ : MethodName)) hown (hw _ (List.mem_of_getElem? (i := 5) rfl)) (hw _ (List.mem_of_getElem? (i := 6) rfl)) (hw _ (List.mem_of_getElem? (i := 7) rfl)) (hw _ (List.mem_of_getElem? (i := 8) rfl)) (by decide) (W := 0) (rest := []) (argsL := [(.ref b101), (.int fr), (.int to), (.int bef)]) (rmL l Z a0 hw [] b101 fr to bef _ h105 n0 (by omega) V105 ⟨hfrom.1, hto.1, hto.2⟩) (by decide) (by decide) (by decide) (by decide) e109 own_pd2 rfl (g := (mkF m 124 #[iv p0, iv p1, iv p2, iv p3, iv p4, iv p5, rv b101, iv bef, iv fr, iv to, iv (((r106 + r107) + r108) + r109), .unset] [(.int bef), (.int to), (.int fr), (.ref b101)])) rfl (by rw [hml]; rfl) rfl (by show 2 * 0 + _ ≤ _; exact Nat.le_of_eq rfl) (hb hby at_124)
  obtain ⟨r110, rfl, hr110, N110q, e110⟩ := Q110
  have N110 := Fr.app N109 N110q
  refine own_st st110 ?_
  show own_Goes p e below s _ _ (T110.setTop (mkF m 127 #[iv p0, iv p1, iv p2, iv p3, iv p4, iv p5, rv b101, iv bef, iv fr, iv to, iv (((r106 + r107) + r108) + r109), .unset] [(.int r110)]))
  refine own_st (fun _ k => XS.istore X110.here hx rfl (hb hby at_127) rfl (l' := #[iv p0, iv p1, iv p2, iv p3, iv p4, iv p5, rv b101, iv bef, iv fr, iv to, iv (((r106 + r107) + r108) + r109), iv r110]) rfl k) ?_
  show own_Goes p e below s _ _ (T110.setTop (mkF m 129 #[iv p0, iv p1, iv p2, iv p3, iv p4, iv p5, rv b101, iv bef, iv fr, iv to, iv (((r106 + r107) + r108) + r109), iv r110] []))
  refine own_st (fun _ k => XS.iload X110.here hx rfl (hb hby at_129) rfl  k) ?_
  show own_Goes p e below s _ _ (T110.setTop (mkF m 131 #[iv p0, iv p1, iv p2, iv p3, iv p4, iv p5, rv b101, iv bef, iv fr, iv to, iv (((r106 + r107) + r108) + r109), iv r110] [(.int r110)]))
  refine own_st (fun _ k => XS.iload X110.here hx rfl (hb hby at_131) rfl  k) ?_
  show own_Goes p e below s _ _ (T110.setTop (mkF m 133 #[iv p0, iv p1, iv p2, iv p3, iv p4, iv p5, rv b101, iv bef, iv fr, iv to, iv (((r106 + r107) + r108) + r109), iv r110] [(.int (((r106 + r107) + r108) + r109)), (.int r110)]))
  by_cases c111 : r110 = (((r106 + r107) + r108) + r109)
  · have c111i : r110.toInt = (((r106 + r107) + r108) + r109).toInt := own_i_eq c111
    refine own_st (fun _ k => XS.icmpNo X110.here hx rfl (hb hby at_133) rfl (teq c111).2 k) ?_
    show own_Goes p e below s _ _ (T110.setTop (mkF m 136 #[iv p0, iv p1, iv p2, iv p3, iv p4, iv p5, rv b101, iv bef, iv fr, iv to, iv (((r106 + r107) + r108) + r109), iv r110] []))
    refine own_st (fun _ k => XS.iconst X110.here hx rfl (hb hby at_136) k) ?_
    show own_Goes p e below s _ _ (T110.setTop (mkF m 137 #[iv p0, iv p1, iv p2, iv p3, iv p4, iv p5, rv b101, iv bef, iv fr, iv to, iv (((r106 + r107) + r108) + r109), iv r110] [(.int (1 : Int32))]))
    refine own_st (fun _ k => XS.goto X110.here hx rfl (pc0 := 137) (pc' := 141) rfl (hb hby at_137) (by decide) (by decide) k) ?_
    show own_Goes p e below s _ _ (T110.setTop (mkF m 141 #[iv p0, iv p1, iv p2, iv p3, iv p4, iv p5, rv b101, iv bef, iv fr, iv to, iv (((r106 + r107) + r108) + r109), iv r110] [(.int (1 : Int32))]))
    exact own_retN X110 hx hlk (1 : Int32) hret (Or.inl rfl) rfl (hb hby at_141) (by decide) (by decide) ⟨rfl, N110⟩
  · have c111i : ¬ r110.toInt = (((r106 + r107) + r108) + r109).toInt := own_i_ne c111
    exfalso; exact c111 (own_law (F := fun k => (F k).toInt) hfrom hto hr106 hr107 hr108 hr109 hr110)
set_option maxRecDepth 65536 in
set_option maxHeartbeats 40000000 in
theorem comes_1 {Post : Tables → Env → Array Value → State → Outcome → State → Prop} (hpost : ∀ tb e args s v u, (limb_1_1.after args s (.returned v) u = true ∧ limb_1_2.after args s (.returned v) u = true ∧ True) → FrameEnd s (.returned v) u (Jvm.fieldLocs frame_1_writes args s ++ Jvm.arrayLocs frame_1_arrays args s ++ Jvm.staticLocs frame_1_statics s) 16 128 → Post tb e args s (.returned v) u) :
    ArmFor flags0 classFile x code maxLocals ret World_1 tables_1 room_1 Calls_1 rest_1 Pre_1 Post := by
  intro l hfl _ _ p e ha hc hk s m args below hf hA hF happ hP
  obtain ⟨hcalls, hrest, hpre⟩ := hP
  obtain ⟨-, -, -, hnamed, -, -, -, hat⟩ := (Spec.applies_iff hf).mp happ
  obtain ⟨hg, hn⟩ := and_e (Cond.before_iff.mp (show (Jvm.Cond.and given_1 narrow_1).before args s = true from hpre))
  obtain ⟨hcnt, q0⟩ := and_e hg
  obtain ⟨u0, q1⟩ := and_e q0
  obtain ⟨u1, q2⟩ := and_e q1
  obtain ⟨u2, q3⟩ := and_e q2
  obtain ⟨u3, q4⟩ := and_e q3
  obtain ⟨u4, q5⟩ := and_e q4
  obtain ⟨w0, w1, w2, w3, w4, w5, rfl⟩ : ∃ w0 w1 w2 w3 w4 w5 : Value, args = #[w0, w1, w2, w3, w4, w5] := by
    have hs : args.size = 6 := by simpa [Cond.value, given_1] using hcnt
    obtain ⟨L⟩ := args
    match L, hs with
    | [w0, w1, w2, w3, w4, w5], _ => exact ⟨w0, w1, w2, w3, w4, w5, rfl⟩
  have hw := fun d (hd : d ∈ tables_1) => atoms_spec (ws := Jvm.Cond.code x code maxLocals ret :: tables_1) hat d (List.mem_cons_of_mem _ hd)
  have hfit : Fit s := fun {y c} hc i hi => by
    obtain ⟨ha, rfl⟩ := Array.getElem?_eq_some_iff.mp hc
    have q := List.all_eq_true.mp ((Array.all_eq_true_iff_forall_mem.mp hF) _ (Array.getElem_mem ha)) i (List.mem_range.mpr hi)
    simpa [Array.getElem?_eq_getElem hi] using q
  obtain ⟨i0, ei0⟩ := is_v u0
  obtain rfl : w0 = (.int i0) := Option.some.inj ei0
  obtain ⟨i1, ei1⟩ := is_v u1
  obtain rfl : w1 = (.int i1) := Option.some.inj ei1
  obtain ⟨i2, ei2⟩ := is_v u2
  obtain rfl : w2 = (.int i2) := Option.some.inj ei2
  obtain ⟨i3, ei3⟩ := is_v u3
  obtain rfl : w3 = (.int i3) := Option.some.inj ei3
  obtain ⟨i4, ei4⟩ := is_v u4
  obtain rfl : w4 = (.int i4) := Option.some.inj ei4
  obtain ⟨i5, ei5⟩ := is_v q5
  obtain rfl : w5 = (.int i5) := Option.some.inj ei5
  obtain ⟨n, o, h1, h2, h3, _, L, rfl, ⟨rfl, N⟩, hq⟩ := rm0 l s _ hw tables_1 i0 i1 i2 i3 i4 i5 s.heap s.heap.size (Nat.le_refl _) p e ha hc hk s m _ below hf ((Spec.applies_iff_loose hf).mp happ).1 ⟨rfl, State.Warmed39.refl s, rfl⟩ trivial
  refine ⟨n, _, h1, h2, h3, hpost _ _ _ _ _ _ ⟨Cond.after_iff.mpr rfl, Cond.after_iff.mpr (eq_i res_at (Term.int_eval (1)) rfl), trivial⟩ ⟨hq.1, hq.2.1, (hq.2.2.sift fun y hy => Or.inr (N y hy)).mono (by decide) (by decide)⟩⟩
theorem main_1_1 : Claimed_1_1 := comes_1 fun _ _ _ _ _ _ h hF => ⟨h.1, hF⟩
theorem main_1_2 : Claimed_1_2 := comes_1 fun _ _ _ _ _ _ h hF => ⟨h.2.1, hF⟩
end Jvm.Pilot.@@N@@
namespace Jvm.Pilot.@@N@@
open Jvm Jvm.ClassFile Sem Op Lib Jvm.Free Jvm.Stand Jvm.Pilot.@@N@@.Jvm.D
/-! MADE BY PROGRAM (witnessworld.py) out of the Statement's table words and the real class files: 15 classes; the members and pool entries that the words name. The judged class is class 1, her method 3. -/
namespace start1
open Jvm.ClassFile
def u (s : String) : CpInfo := .utf8 (stringToUtf16 s)
/-- a pool by its gaps: so many unusable entries, then the entry; so many at the end -/
def gap : Nat → List CpInfo → List CpInfo
  | 0, r => r
  | n + 1, r => .unusable :: gap n r
def poolList (es : List (Nat × CpInfo)) (last : Nat) : List CpInfo := es.foldr (fun e r => gap e.1 (e.2 :: r)) (gap last [])
def pool (es : List (Nat × CpInfo)) (last : Nat) : Array CpInfo := ⟨poolList es last⟩
def fileOf (pool : Array CpInfo) (this : Nat) (attrs : Array Attribute := #[]) (ms : Array MethodInfo := #[]) (fl : Nat := 33) (sup : Nat := 0) (ifs : Array Nat := #[]) (fds : Array FieldInfo := #[]) : ClassFile where
  minorVersion := 0
  majorVersion := 65
  constantPool := pool
  accessFlags := fl
  thisClass := this
  superClass := sup
  interfaces := ifs
  fields := fds
  methods := ms
  attributes := attrs
def plain (name : String) (sup : Option ClassId) : Class where
  name := name
  kind := .ordinary
  loader := none
  accessFlags := 33
  super := sup
  interfaces := #[]
  cf := none
  fields := #[]
  methods := #[]
  instanceTypes := #[]
  staticTypes := #[]
  resolved := #[]
  callSites := []
  init := .initialized
  statics := none
  mirror := none

def pool0 : Array CpInfo := pool [(5, u "<init>"), (0, u "()V"), (1, .class_ 10), (1, u "java/lang/Object")] 113

def k0m0 : Method := { name := "<init>", desc := "()V", sig := { parameters := [], returnType := none }, accessFlags := 1, code := none }
/-- java/lang/Object -/
def k0 : Class := { plain "java/lang/Object" none with
  accessFlags := 33
  interfaces := #[]
  cf := some (fileOf pool0 8 #[] #[{ accessFlags := 1, nameIndex := 5, descriptorIndex := 6, attributes := #[] }] 33 0 #[] #[])
  fields := #[]
  methods := #[k0m0]
  instanceTypes := #[]
  staticTypes := #[]
  resolved := Array.replicate 124 none
  statics := none }

def pool1 : Array CpInfo := pool [(2, .class_ 4), (1, u "java/lang/Object"), (0, u "<init>"), (0, u "()V"), (0, .methodref 8 9), (0, .class_ 10), (0, .nameAndType 11 12), (0, u "com/example/resolvent/resolvent/text/DecodingReaderLineEndsPinLaw"), (0, u "term"), (0, u "(CC)I"), (0, .methodref 8 14), (0, .nameAndType 15 16), (0, u "at"), (0, u "([CIIIC)I"), (0, .methodref 18 19), (0, .class_ 20), (0, .nameAndType 21 22), (0, u "com/example/resolvent/resolvent/text/DecodingReader"), (0, u "lineEnds"), (0, u "([CIIC)I"), (3, u "law"), (0, u "(IIIIII)Z")] 4

def k1m0 : Method := { name := "<init>", desc := "()V", sig := { parameters := [], returnType := none }, accessFlags := 1, code := none }
def k1c1 : Code := { maxStack := 2, maxLocals := 3, code := method_2_code, exceptionTable := #[], attributes := #[] }
def k1m1 : Method := { name := "term", desc := "(CC)I", sig := { parameters := [.char, .char], returnType := some .int }, accessFlags := 10, code := some k1c1 }
def k1c2 : Code := { maxStack := 3, maxLocals := 6, code := method_3_code, exceptionTable := #[], attributes := #[] }
def k1m2 : Method := { name := "at", desc := "([CIIIC)I", sig := { parameters := [(.array .char), .int, .int, .int, .char], returnType := some .int }, accessFlags := 10, code := some k1c2 }
def k1c3 : Code := { maxStack := 6, maxLocals := 12, code := code, exceptionTable := #[], attributes := #[] }
def k1m3 : Method := { name := "law", desc := "(IIIIII)Z", sig := { parameters := [.int, .int, .int, .int, .int, .int], returnType := some .boolean }, accessFlags := 9, code := some k1c3 }
/-- com/example/resolvent/resolvent/text/DecodingReaderLineEndsPinLaw -/
def k1 : Class := { plain "com/example/resolvent/resolvent/text/DecodingReaderLineEndsPinLaw" (some 0) with
  accessFlags := 49
  interfaces := #[]
  cf := some (fileOf pool1 8 #[] #[{ accessFlags := 1, nameIndex := 5, descriptorIndex := 6, attributes := #[] }, { accessFlags := 10, nameIndex := 11, descriptorIndex := 12, attributes := #[] }, { accessFlags := 10, nameIndex := 15, descriptorIndex := 16, attributes := #[] }, { accessFlags := 9, nameIndex := 26, descriptorIndex := 27, attributes := #[] }] 49 2 #[] #[])
  fields := #[]
  methods := #[k1m0, k1m1, k1m2, k1m3]
  instanceTypes := #[]
  staticTypes := #[]
  resolved := Array.replicate 32 none
  statics := none }

def pool2 : Array CpInfo := pool [(1, .class_ 2), (0, u "java/lang/Readable"), (0, .class_ 4), (0, u "java/lang/Object")] 7

/-- java/lang/Readable -/
def k2 : Class := { plain "java/lang/Readable" (some 0) with
  accessFlags := 1537
  interfaces := #[]
  cf := some (fileOf pool2 1 #[] #[] 1537 3 #[] #[])
  fields := #[]
  methods := #[]
  instanceTypes := #[]
  staticTypes := #[]
  resolved := Array.replicate 12 none
  statics := none }

def pool3 : Array CpInfo := pool [(1, .class_ 2), (0, u "java/lang/AutoCloseable"), (0, .class_ 4), (0, u "java/lang/Object")] 7

/-- java/lang/AutoCloseable -/
def k3 : Class := { plain "java/lang/AutoCloseable" (some 0) with
  accessFlags := 1537
  interfaces := #[]
  cf := some (fileOf pool3 1 #[] #[] 1537 3 #[] #[])
  fields := #[]
  methods := #[]
  instanceTypes := #[]
  staticTypes := #[]
  resolved := Array.replicate 12 none
  statics := none }

def pool4 : Array CpInfo := pool [(1, .class_ 2), (0, u "java/io/Closeable"), (0, .class_ 4), (0, u "java/lang/Object"), (0, .class_ 6), (0, u "java/lang/AutoCloseable")] 7

/-- java/io/Closeable -/
def k4 : Class := { plain "java/io/Closeable" (some 0) with
  accessFlags := 1537
  interfaces := #[3]
  cf := some (fileOf pool4 1 #[] #[] 1537 3 #[5] #[])
  fields := #[]
  methods := #[]
  instanceTypes := #[]
  staticTypes := #[]
  resolved := Array.replicate 14 none
  statics := none }

def pool5 : Array CpInfo := pool [(1, .class_ 2), (0, u "java/io/Reader$1"), (2, u "<init>"), (0, u "()V"), (1, .class_ 9), (0, u "java/lang/Object"), (1, .class_ 13), (1, u "java/io/Reader"), (0, u "skipBuffer"), (0, u "[C"), (2, u "lock"), (0, u "Ljava/lang/Object;"), (117, .class_ 138), (0, u "java/lang/Readable"), (0, .class_ 140), (0, u "java/io/Closeable"), (0, u "TRANSFER_BUFFER_SIZE"), (0, u "I"), (2, u "maxSkipBufferSize")] 59

def k5m0 : Method := { name := "<init>", desc := "()V", sig := { parameters := [], returnType := none }, accessFlags := 4, code := none }
/-- java/io/Reader -/
def k5 : Class := { plain "java/io/Reader" (some 0) with
  accessFlags := 1057
  interfaces := #[2, 4]
  cf := some (fileOf pool5 11 #[.nestMembers #[1]] #[{ accessFlags := 4, nameIndex := 5, descriptorIndex := 6, attributes := #[] }] 1057 8 #[137, 139] #[{ accessFlags := 26, nameIndex := 141, descriptorIndex := 142, attributes := #[] }, { accessFlags := 4, nameIndex := 18, descriptorIndex := 19, attributes := #[] }, { accessFlags := 26, nameIndex := 145, descriptorIndex := 142, attributes := #[] }, { accessFlags := 2, nameIndex := 14, descriptorIndex := 15, attributes := #[] }])
  fields := #[{ name := "TRANSFER_BUFFER_SIZE", type := .int, accessFlags := 26, slot := 0, constantValue := 0 }, { name := "lock", type := (.object "java/lang/Object"), accessFlags := 4, slot := 0, constantValue := 0 }, { name := "maxSkipBufferSize", type := .int, accessFlags := 26, slot := 1, constantValue := 0 }, { name := "skipBuffer", type := (.array .char), accessFlags := 2, slot := 1, constantValue := 0 }]
  methods := #[k5m0]
  instanceTypes := #[(.object "java/lang/Object"), (.array .char)]
  staticTypes := #[.int, .int]
  resolved := Array.replicate 205 none
  statics := none }

def pool6 : Array CpInfo := pool [(2, .class_ 4), (1, u "java/io/Reader"), (2, .class_ 8), (0, u "com/example/resolvent/resolvent/text/DecodingReader"), (12, u "bytes"), (0, u "Ljava/nio/ByteBuffer;"), (10, u "decoded"), (0, u "Ljava/nio/CharBuffer;"), (2, u "line"), (0, u "I"), (2, u "in"), (0, u "Ljava/io/InputStream;"), (23, u "decoder"), (0, u "Ljava/nio/charset/CharsetDecoder;"), (2, u "failure"), (0, u "Lcom/example/resolvent/resolvent/text/DecodingReader$UndecodableException;"), (35, u "lastRead"), (0, u "C"), (2, u "lineEnds"), (0, u "([CIIC)I"), (13, u "flushed"), (0, u "Z"), (2, u "endOfInput"), (66, .class_ 198), (0, u "com/example/resolvent/resolvent/text/DecodingReader$UndecodableException"), (14, u "BUFFER_SIZE")] 38

def k6c0 : Code := { maxStack := 2, maxLocals := 8, code := prog_107_method_2_code, exceptionTable := #[], attributes := #[] }
def k6m0 : Method := { name := "lineEnds", desc := "([CIIC)I", sig := { parameters := [(.array .char), .int, .int, .char], returnType := some .int }, accessFlags := 9, code := some k6c0 }
/-- com/example/resolvent/resolvent/text/DecodingReader -/
def k6 : Class := { plain "com/example/resolvent/resolvent/text/DecodingReader" (some 5) with
  accessFlags := 33
  interfaces := #[]
  cf := some (fileOf pool6 7 #[.nestMembers #[197]] #[{ accessFlags := 9, nameIndex := 111, descriptorIndex := 112, attributes := #[] }] 33 2 #[] #[{ accessFlags := 26, nameIndex := 213, descriptorIndex := 38, attributes := #[] }, { accessFlags := 18, nameIndex := 41, descriptorIndex := 42, attributes := #[] }, { accessFlags := 18, nameIndex := 21, descriptorIndex := 22, attributes := #[] }, { accessFlags := 18, nameIndex := 66, descriptorIndex := 67, attributes := #[] }, { accessFlags := 2, nameIndex := 130, descriptorIndex := 127, attributes := #[] }, { accessFlags := 2, nameIndex := 126, descriptorIndex := 127, attributes := #[] }, { accessFlags := 18, nameIndex := 33, descriptorIndex := 34, attributes := #[] }, { accessFlags := 2, nameIndex := 37, descriptorIndex := 38, attributes := #[] }, { accessFlags := 2, nameIndex := 107, descriptorIndex := 108, attributes := #[] }, { accessFlags := 2, nameIndex := 70, descriptorIndex := 71, attributes := #[] }])
  fields := #[{ name := "BUFFER_SIZE", type := .int, accessFlags := 26, slot := 0, constantValue := 0 }, { name := "in", type := (.object "java/io/InputStream"), accessFlags := 18, slot := 2, constantValue := 0 }, { name := "bytes", type := (.object "java/nio/ByteBuffer"), accessFlags := 18, slot := 3, constantValue := 0 }, { name := "decoder", type := (.object "java/nio/charset/CharsetDecoder"), accessFlags := 18, slot := 4, constantValue := 0 }, { name := "endOfInput", type := .boolean, accessFlags := 2, slot := 5, constantValue := 0 }, { name := "flushed", type := .boolean, accessFlags := 2, slot := 6, constantValue := 0 }, { name := "decoded", type := (.object "java/nio/CharBuffer"), accessFlags := 18, slot := 7, constantValue := 0 }, { name := "line", type := .int, accessFlags := 2, slot := 8, constantValue := 0 }, { name := "lastRead", type := .char, accessFlags := 2, slot := 9, constantValue := 0 }, { name := "failure", type := (.object "com/example/resolvent/resolvent/text/DecodingReader$UndecodableException"), accessFlags := 2, slot := 10, constantValue := 0 }]
  methods := #[k6m0]
  instanceTypes := #[(.object "java/lang/Object"), (.array .char), (.object "java/io/InputStream"), (.object "java/nio/ByteBuffer"), (.object "java/nio/charset/CharsetDecoder"), .boolean, .boolean, (.object "java/nio/CharBuffer"), .int, .char, (.object "com/example/resolvent/resolvent/text/DecodingReader$UndecodableException")]
  staticTypes := #[.int]
  resolved := Array.replicate 252 none
  statics := none }

def pool7 : Array CpInfo := pool [(1, u "java/lang/Cloneable"), (0, .class_ 1), (0, u "java/lang/Object"), (0, .class_ 3)] 3

/-- java/lang/Cloneable -/
def k7 : Class := { plain "java/lang/Cloneable" (some 0) with
  accessFlags := 1537
  interfaces := #[]
  cf := some (fileOf pool7 2 #[] #[] 1537 4 #[] #[])
  fields := #[]
  methods := #[]
  instanceTypes := #[]
  staticTypes := #[]
  resolved := Array.replicate 8 none
  statics := none }

def pool8 : Array CpInfo := pool [(1, u "java/io/Serializable"), (0, .class_ 1), (0, u "java/lang/Object"), (0, .class_ 3)] 3

/-- java/io/Serializable -/
def k8 : Class := { plain "java/io/Serializable" (some 0) with
  accessFlags := 1537
  interfaces := #[]
  cf := some (fileOf pool8 2 #[] #[] 1537 4 #[] #[])
  fields := #[]
  methods := #[]
  instanceTypes := #[]
  staticTypes := #[]
  resolved := Array.replicate 8 none
  statics := none }

/-- the primitive byte -/
def k9 : Class := { plain "byte" none with kind := .primitive 'B', accessFlags := 0x411 }
/-- [B -/
def k10 : Class := { plain "[B" (some 0) with kind := .array 9 .byte, interfaces := #[7, 8], accessFlags := 1041 }

/-- the primitive char -/
def k11 : Class := { plain "char" none with kind := .primitive 'C', accessFlags := 0x411 }
/-- [C -/
def k12 : Class := { plain "[C" (some 0) with kind := .array 11 .char, interfaces := #[7, 8], accessFlags := 1041 }

/-- the primitive int -/
def k13 : Class := { plain "int" none with kind := .primitive 'I', accessFlags := 0x411 }
/-- [I -/
def k14 : Class := { plain "[I" (some 0) with kind := .array 13 .int, interfaces := #[7, 8], accessFlags := 1041 }

def heap : Heap := #[]
def classes : Array Class := #[k0, k1, k2, k3, k4, k5, k6, k7, k8, k9, k10, k11, k12, k13, k14]
def interned : List (Array UInt16 × Addr) := []
def slotsUsed : Nat := 0
def theMethod : MethodId := ⟨1, 3⟩
def args0 : Array Value := #[.int 1, .int 2, .int 3, .int 4, .int 5, .int 6]
def aboutOver (below : List Frame) : State where
  vm := { classes := classes, interned := interned.toArray }
  heap := heap
  slotsUsed := slotsUsed
  threads := #[{ frames := .invoking theMethod args0 :: below }]
def below0 : List Frame := [.native { method := ⟨0, 0⟩, args := #[] }]
def about1 : State := aboutOver below0
def p0 : Program := .bare "" "" ""
def e0 : Env := launch0.env 0 0 0
theorem w_frames : about1.frames = Frame.invoking theMethod args0 :: below0 := rfl
set_option maxRecDepth 65536 in
theorem w_args : argsFit about1.vm theMethod args0 = true := by decide +kernel
set_option maxRecDepth 65536 in
theorem w_heap : heapFits about1 = true := by decide +kernel
set_option maxRecDepth 65536 in
theorem w_runnable : about1.curStatus? = some .runnable := by decide +kernel
set_option maxRecDepth 65536 in
theorem w_alone : about1.alone = true := by decide +kernel
set_option maxRecDepth 65536 in
theorem w_named : about1.methodNamed? x = some theMethod := by decide +kernel
set_option maxRecDepth 65536 in
theorem w_hears : about1.hears theMethod below0 = true := by decide +kernel
set_option maxRecDepth 65536 in
theorem w_ripe : about1.ripe theMethod args0 below0 = true := by decide +kernel
theorem w_running : about1.status = .running := rfl
set_option maxRecDepth 65536 in
theorem w_room : about1.hasRoom e0.platform room_1 = true :=
  launch0.hasRoom_least _ room_1 (by decide +kernel) (by decide +kernel) (by decide +kernel) (by decide +kernel) (by decide +kernel) (by decide +kernel)
theorem allAtoms_all (ts : List Jvm.Cond) (a : Array Jvm.Value) (st : Jvm.State) : (allAtoms ts).before a st = ts.all (fun c => c.before a st) := by
  induction ts with
  | nil => rfl
  | cons c t ih =>
    show (Jvm.Cond.and c (allAtoms t)).before a st = _
    rw [Jvm.Cond.before_and, ih, List.all_cons]
def words1 : List Jvm.Cond := Jvm.Cond.code x code maxLocals ret :: tables_1
/-- a 'code' word, met by the world's own term for the bytes: nothing is compared byte by byte -/
theorem code_word {y : MethodName} {bytes : ByteArray} {mx : Nat} {rt : Option FieldType} {a : Array Value} {s : State} {m : MethodId} {meth : Method} {c : Code} (h1 : s.methodNamed? y = some m) (h2 : s.vm.method? m = some meth) (h3 : meth.code = some c) (h4 : c.code = bytes)
    (h5 : (c.maxLocals == mx && c.exceptionTable.isEmpty && decide (c.maxStack ≤ mostOperands) && decide (meth.sig.returnType = rt) && !meth.locks && decide (parseMethodDescriptor y.desc = some meth.sig)) = true) : (Jvm.Cond.code y bytes mx rt).before a s = true := by
  simp only [Bool.and_eq_true, beq_iff_eq, Bool.not_eq_true', decide_eq_true_eq] at h5
  obtain ⟨⟨⟨⟨⟨g1, g2⟩, g3⟩, g4⟩, g5⟩, g6⟩ := h5
  simp [Cond.before, Cond.holds, Cond.value, h1, h2, h3, h4, g1, g2, g3, g4, g5, g6]
def isCode : Jvm.Cond → Bool
  | .code _ _ _ _ => true
  | _ => false
theorem all_split {L : List Jvm.Cond} {P : Jvm.Cond → Bool} (h1 : L.all (fun c => isCode c || P c) = true) (h2 : ∀ c ∈ L.filter isCode, P c = true) : L.all P = true := by
  refine List.all_eq_true.mpr fun c hc => ?_
  have h := List.all_eq_true.mp h1 c hc
  rcases Bool.eq_false_or_eq_true (isCode c) with hi | hi
  · exact h2 c (List.mem_filter.mpr ⟨hc, hi⟩)
  · simpa [hi] using h
set_option maxRecDepth 65536 in
theorem w_c0 : (Jvm.Cond.code x code maxLocals ret).before args0 about1 = true := code_word (m := ⟨1, 3⟩) (meth := k1m3) (c := k1c3) (by decide +kernel) rfl rfl rfl (by decide +kernel)
set_option maxRecDepth 65536 in
theorem w_c1 : (Jvm.Cond.code ({ cls := "com/example/resolvent/resolvent/text/DecodingReaderLineEndsPinLaw", name := "at", desc := "([CIIIC)I" } : Jvm.MethodName) method_3_code (6 : Nat) (Option.some Jvm.ClassFile.FieldType.int)).before args0 about1 = true := code_word (m := ⟨1, 2⟩) (meth := k1m2) (c := k1c2) (by decide +kernel) rfl rfl rfl (by decide +kernel)
set_option maxRecDepth 65536 in
theorem w_c2 : (Jvm.Cond.code ({ cls := "com/example/resolvent/resolvent/text/DecodingReader", name := "lineEnds", desc := "([CIIC)I" } : Jvm.MethodName) prog_107_method_2_code (8 : Nat) (Option.some Jvm.ClassFile.FieldType.int)).before args0 about1 = true := code_word (m := ⟨6, 0⟩) (meth := k6m0) (c := k6c0) (by decide +kernel) rfl rfl rfl (by decide +kernel)
set_option maxRecDepth 65536 in
theorem w_c3 : (Jvm.Cond.code ({ cls := "com/example/resolvent/resolvent/text/DecodingReaderLineEndsPinLaw", name := "term", desc := "(CC)I" } : Jvm.MethodName) method_2_code (3 : Nat) (Option.some Jvm.ClassFile.FieldType.int)).before args0 about1 = true := code_word (m := ⟨1, 1⟩) (meth := k1m1) (c := k1c1) (by decide +kernel) rfl rfl rfl (by decide +kernel)
def codes1 : List Jvm.Cond := [Jvm.Cond.code x code maxLocals ret, Jvm.Cond.code ({ cls := "com/example/resolvent/resolvent/text/DecodingReaderLineEndsPinLaw", name := "at", desc := "([CIIIC)I" } : Jvm.MethodName) method_3_code (6 : Nat) (Option.some Jvm.ClassFile.FieldType.int), Jvm.Cond.code ({ cls := "com/example/resolvent/resolvent/text/DecodingReader", name := "lineEnds", desc := "([CIIC)I" } : Jvm.MethodName) prog_107_method_2_code (8 : Nat) (Option.some Jvm.ClassFile.FieldType.int), Jvm.Cond.code ({ cls := "com/example/resolvent/resolvent/text/DecodingReaderLineEndsPinLaw", name := "term", desc := "(CC)I" } : Jvm.MethodName) method_2_code (3 : Nat) (Option.some Jvm.ClassFile.FieldType.int)]
set_option maxRecDepth 65536 in
theorem codes_eq : words1.filter isCode = codes1 := rfl
theorem w_codes : ∀ c ∈ words1.filter isCode, c.before args0 about1 = true := by
  rw [codes_eq]
  intro c hc
  simp only [codes1, List.mem_cons, List.not_mem_nil, or_false] at hc
  rcases hc with rfl | rfl | rfl | rfl
  · exact w_c0
  · exact w_c1
  · exact w_c2
  · exact w_c3
set_option maxRecDepth 65536 in
theorem w_t1 : words1.all (fun c => isCode c || c.before args0 about1) = true := by decide +kernel
theorem w_tables : (allAtoms (Jvm.Cond.code x code maxLocals ret :: tables_1)).before args0 about1 = true := by
  rw [allAtoms_all]
  show words1.all (fun c => c.before args0 about1) = true
  refine all_split ?_ w_codes
  rw [w_t1]
set_option maxRecDepth 65536 in
theorem w_case : (Jvm.Cond.and given_1 narrow_1).before args0 about1 = true := by decide +kernel
theorem w_applies : (headSpec (Jvm.Cond.code x code maxLocals ret :: tables_1) room_1).applies x e0.platform about1 = true :=
  (Spec.applies_iff w_frames).mpr ⟨w_running, w_runnable, w_alone, w_named, w_hears, w_ripe, w_room, w_tables⟩
theorem atStart : AtStart classFile x code maxLocals ret World_1 tables_1 room_1 Calls_1 rest_1 Pre_1 launch0 p0 e0 about1 theMethod args0 below0 :=
  ⟨lists_1, trivial, launch0.admits_env _ _ _, launch0.least_env, fairChoices_fair.cas, fairChoices_fair.clock, w_frames, w_args, w_heap, w_applies, trivial, trivial, w_case⟩
end start1
theorem witness_1 : WitnessClaimed_1 := ⟨start1.p0, start1.e0, start1.about1, start1.theMethod, start1.args0, start1.below0, start1.atStart⟩
end Jvm.Pilot.@@N@@
