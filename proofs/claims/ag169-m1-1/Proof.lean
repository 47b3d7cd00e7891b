import JvmDerived
import JvmDerived.Pilot.@@N@@Statement
import JvmDerived.Pilot.@@N@@Code
set_option linter.unusedVariables false
set_option linter.unusedSimpArgs false
namespace Jvm.Pilot.@@N@@
open Jvm Jvm.ClassFile Sem Op Lib Jvm.Free Jvm.Stand Jvm.LawKit Jvm.RoadKit Bundle Jvm.Pilot.@@N@@.Jvm.D
abbrev own_jv (x : Int64) : Slot := .val (.long x)
theorem own_i_lt {a b : Int32} (h : a < b) : a.toInt < b.toInt := Int32.lt_iff_toInt_lt.mp h
theorem own_i_nlt {a b : Int32} (h : ¬ a < b) : b.toInt ≤ a.toInt := Int.not_lt.mp fun q => h (Int32.lt_iff_toInt_lt.mpr q)
theorem own_i_eq {a b : Int32} (h : a = b) : a.toInt = b.toInt := congrArg Int32.toInt h
theorem own_i_ne {a b : Int32} (h : ¬ a = b) : ¬ a.toInt = b.toInt := fun q => h (Int32.toInt_inj.mp q)
theorem own_j_lt {a b : Int64} (h : a < b) : a.toInt < b.toInt := Int64.lt_iff_toInt_lt.mp h
theorem own_j_nlt {a b : Int64} (h : ¬ a < b) : b.toInt ≤ a.toInt := Int.not_lt.mp fun q => h (Int64.lt_iff_toInt_lt.mpr q)
theorem own_j_eq {a b : Int64} (h : a = b) : a.toInt = b.toInt := congrArg Int64.toInt h
theorem own_j_ne {a b : Int64} (h : ¬ a = b) : ¬ a.toInt = b.toInt := fun q => h (Int64.toInt_inj.mp q)
theorem own_b1 {P : Prop} (h : P) : ((1 : Int32).toInt = 1 ∧ P) ∨ ((1 : Int32).toInt = 0 ∧ ¬ P) := Or.inl ⟨by decide, h⟩
theorem own_b0 {P : Prop} (h : ¬ P) : ((0 : Int32).toInt = 1 ∧ P) ∨ ((0 : Int32).toInt = 0 ∧ ¬ P) := Or.inr ⟨by decide, h⟩
theorem own_cat {w : Value} (hw : w.isRef = true) : w.category = 1 := by rcases ref_cases hw with rfl | ⟨a, rfl⟩ <;> rfl
theorem own_fitR {t : FieldType} (ht : t.isReference = true) {w : Value} (hw : w.isRef = true) : fits t w = true := by
  rcases ref_cases hw with rfl | ⟨a, rfl⟩ <;> cases t <;> first | rfl | cases ht
theorem own_static {s : State} {args : Array Value} {C n d K : String} (h : (Jvm.Cond.exactly (Jvm.Term.static C n d) K).value args s none s [] = some true) (wi : (Jvm.Cond.initialized C).before args s = true) (wl : (Jvm.Cond.laysStatic C n d).before args s = true) : ∃ a, (Jvm.Term.static C n d).eval args s none [] s = some (.ref a) ∧ Sta s s.heap C n d (.ref a) ∧ Exa s s.heap a K := by
  obtain ⟨a, ev⟩ := exa_v h
  exact ⟨a, ev, Sta.start ev (Or.inr ⟨wi, wl⟩), Exa.start ev h⟩
theorem own_teq {s : State} {args : Array Value} {t : Jvm.Term} {x : Int32} (h : (Jvm.Cond.eq t (Jvm.Term.int x)).value args s none s [] = some true) : t.eval args s none [] s = some (.int x) := by
  simp only [Cond.value, Term.int_eval] at h
  cases hv : t.eval args s none [] s with
  | none => simp [hv] at h
  | some v => cases v <;> simp [hv] at h ⊢; exact h
theorem own_fint {s : State} {args : Array Value} {t : Jvm.Term} {C n d : String} {x : Int32} {a : Addr} (h : (Jvm.Cond.eq (Jvm.Term.field t C n d) (Jvm.Term.int x)).value args s none s [] = some true) (e : t.eval args s none [] s = some (.ref a)) : s.fieldOf? a C n d = some (.int x) := by
  have q := fld_at (C := C) (n := n) (dd := d) e
  simp only [Cond.value, q, Term.int_eval] at h
  cases hv : s.fieldOf? a C n d with
  | none => simp [hv] at h
  | some v => cases v <;> simp [hv] at h ⊢; exact h
theorem own_ord {s : State} {args : Array Value} {t t' : Jvm.Term} {C n d : String} {x y : Int32} {a b : Nat} (h : (Jvm.Cond.eq (Jvm.Term.field t C n d) (Jvm.Term.int x)).value args s none s [] = some true) (e : t.eval args s none [] s = some (.ref a)) (h' : (Jvm.Cond.eq (Jvm.Term.field t' C n d) (Jvm.Term.int y)).value args s none s [] = some true) (e' : t'.eval args s none [] s = some (.ref b)) (hn : x ≠ y) : ¬ a = b := fun q => by
  subst q
  have := (own_fint h e).symm.trans (own_fint h' e')
  cases this
  exact hn rfl
def own_O (Z : State) (a : Addr) (k : Int32) : Prop := Z.fieldOf? a "java/lang/Enum" "ordinal" "I" = some (.int k)
theorem own_one {Z : State} {a b : Nat} {i j : Int32} (h : own_O Z a i) (h' : own_O Z b j) (hn : i ≠ j) : ¬ a = b := fun q => by
  subst q
  have := Eq.symm h |>.trans h'
  cases this
  exact hn rfl
theorem own_fldR {s : State} {args : Array Value} {t : Jvm.Term} {C n d K : String} {a : Addr} (h : (Jvm.Cond.exactly (Jvm.Term.field t C n d) K).value args s none s [] = some true) (e : t.eval args s none [] s = some (.ref a)) : ∃ b, Fld s s.heap a C n d (.ref b) := by
  obtain ⟨b, ev⟩ := exa_v h
  rw [fld_at e] at ev
  exact ⟨b, Fld.start ev⟩
theorem own_fldN {s : State} {args : Array Value} {t : Jvm.Term} {C n d : String} {a : Addr} (h : (Jvm.Cond.eq (Jvm.Term.field t C n d) Jvm.Term.null).value args s none s [] = some true) (e : t.eval args s none [] s = some (.ref a)) : Fld s s.heap a C n d .null := by
  have ev := null_v h
  rw [fld_at e] at ev
  exact Fld.start ev
theorem own_ne {x y : Addr} (h : @Ne Nat x y) : x ≠ y := h
section OwnKit
variable {p : Program} {l : Launch} {e : Env} {R : Room} {s : State} {m : MethodId} {args : Array Value} {below : List Frame} {meth : Method} {c : Code} {T : State} {locs : List Loc} {cells slots : Nat} {Z : State} {a0 : Array Value} {h h' : Heap} {Q : Option Value → Heap → List Loc → Prop}
/-- from U the run comes to its end, and what it leaves is Q's -/
def own_Goes (p : Program) (e : Env) (below : List Frame) (s : State) (R : Room) (Q : Option Value → Heap → List Loc → Prop) (U : State) : Prop :=
  ∃ s₂ o, Steps p.tables e below U s₂ ∧ s₂.status = .running ∧ Ended s₂ below o ∧ ∃ v L, o = .returned v ∧ Q v s₂.heap L ∧ FrameEnd s o s₂ L R.cells R.slots
theorem own_st {U U' : State} (k : ∀ t, Steps p.tables e below U' t → Steps p.tables e below U t) (g : own_Goes p e below s R Q U') : own_Goes p e below s R Q U := by
  obtain ⟨s₂, o, h1, h2⟩ := g
  exact ⟨s₂, o, k _ h1, h2⟩
theorem own_fin (X : Stand p l e R s m args below meth c T locs cells slots) (hk : meth.locks = false) {v : Option Value} (hv : meth.sig.returnType = none → v = none) {U : State}
    (hs : ∀ fs, (∀ (f : JFrame) (acts : List Action), f.method = m → f.locked = none → f.entered = [] → (doReturn e (T.setTop f) acts v).1 = T.setFrames fs) → Steps p.tables e below U (T.setFrames fs))
    (hc : cells ≤ R.cells) (hl : slots ≤ R.slots) (q : Q v T.heap locs) : own_Goes p e below s R Q U := by
  obtain ⟨fs, hr, hrun, hended, hW, hsame⟩ := X.leave hv hk
  exact ⟨_, _, hs fs hr, hrun, hended, v, locs, rfl, q, ⟨v, rfl⟩, hW, hsame.mono hc hl⟩
theorem own_ret (X : Stand p l e R s m args below meth c T locs cells slots) (hx : p.tables.exec = Jvm.exec) (hk : meth.locks = false) {pc : Nat} {Ls : Array Slot} {w : Value} {t : FieldType} {i : Instr} {rest : List Value} (hret : meth.sig.returnType = some t) (hn : narrow t w = w)
    (hi : (i = .ireturn ∧ (t = .int ∨ t = .boolean ∨ t = .byte ∨ t = .char ∨ t = .short) ∧ ∃ z, w = .int z) ∨ (i = .lreturn ∧ t = .long ∧ ∃ z, w = .long z) ∨ (i = .dreturn ∧ t = .double ∧ ∃ z, w = .double z) ∨ (i = .freturn ∧ t = .float ∧ ∃ z, w = .float z) ∨ (i = .areturn ∧ t.isReference = true ∧ w.isRef = true))
    (hd : decode c.code pc = .ok (i, 1)) (hc : cells ≤ R.cells) (hl : slots ≤ R.slots) (q : Q (some w) T.heap locs) : own_Goes p e below s R Q (T.setTop (mkF m pc Ls (w :: rest))) :=
  own_fin X hk (fun h => by rw [hret] at h; cases h) (fun fs hr => retOut X hx hret hn hi hd hr) hc hl q
theorem own_retI (X : Stand p l e R s m args below meth c T locs cells slots) (hx : p.tables.exec = Jvm.exec) (hk : meth.locks = false) {pc : Nat} {Ls : Array Slot} {z : Int32} {rest : List Value} (hret : meth.sig.returnType = some .int)
    (hd : decode c.code pc = .ok (.ireturn, 1)) (hc : cells ≤ R.cells) (hl : slots ≤ R.slots) (q : Q (some (.int z)) T.heap locs) : own_Goes p e below s R Q (T.setTop (mkF m pc Ls (.int z :: rest))) :=
  own_ret X hx hk hret rfl (Or.inl ⟨rfl, Or.inl rfl, z, rfl⟩) hd hc hl q
theorem own_retJ (X : Stand p l e R s m args below meth c T locs cells slots) (hx : p.tables.exec = Jvm.exec) (hk : meth.locks = false) {pc : Nat} {Ls : Array Slot} {z : Int64} {rest : List Value} (hret : meth.sig.returnType = some .long)
    (hd : decode c.code pc = .ok (.lreturn, 1)) (hc : cells ≤ R.cells) (hl : slots ≤ R.slots) (q : Q (some (.long z)) T.heap locs) : own_Goes p e below s R Q (T.setTop (mkF m pc Ls (.long z :: rest))) :=
  own_ret X hx hk hret rfl (Or.inr (Or.inl ⟨rfl, rfl, z, rfl⟩)) hd hc hl q
theorem own_narR {t : FieldType} (ht : t.isReference = true) {w : Value} (hw : w.isRef = true) : narrow t w = w := by
  rcases ref_cases hw with rfl | ⟨a, rfl⟩ <;> cases t <;> first | rfl | cases ht
theorem own_retR (X : Stand p l e R s m args below meth c T locs cells slots) (hx : p.tables.exec = Jvm.exec) (hk : meth.locks = false) {pc : Nat} {Ls : Array Slot} {w : Value} {t : FieldType} {rest : List Value} (hret : meth.sig.returnType = some t) (ht : t.isReference = true) (hw : w.isRef = true)
    (hd : decode c.code pc = .ok (.areturn, 1)) (hc : cells ≤ R.cells) (hl : slots ≤ R.slots) (q : Q (some w) T.heap locs) : own_Goes p e below s R Q (T.setTop (mkF m pc Ls (w :: rest))) :=
  own_ret X hx hk hret (own_narR ht hw) (Or.inr (Or.inr (Or.inr (Or.inr ⟨rfl, ht, hw⟩)))) hd hc hl q
theorem own_retN (X : Stand p l e R s m args below meth c T locs cells slots) (hx : p.tables.exec = Jvm.exec) (hk : meth.locks = false) {pc : Nat} {Ls : Array Slot} {z : Int32} (z' : Int32) {t : FieldType} {rest : List Value} (hret : meth.sig.returnType = some t) (ht : t = .boolean ∨ t = .byte ∨ t = .char ∨ t = .short) (hz : nar t z = z')
    (hd : decode c.code pc = .ok (.ireturn, 1)) (hc : cells ≤ R.cells) (hl : slots ≤ R.slots) (q : Q (some (.int z')) T.heap locs) : own_Goes p e below s R Q (T.setTop (mkF m pc Ls (.int z :: rest))) := by
  subst hz
  exact own_fin X hk (fun h => by rw [hret] at h; cases h) (fun fs hr => retN X hx hret ht hd hr) hc hl q
theorem own_ret0 (X : Stand p l e R s m args below meth c T locs cells slots) (hx : p.tables.exec = Jvm.exec) (hk : meth.locks = false) {pc : Nat} {Ls : Array Slot} (hret : meth.sig.returnType = none)
    (hd : decode c.code pc = .ok (.return_, 1)) (hc : cells ≤ R.cells) (hl : slots ≤ R.slots) (q : Q none T.heap locs) : own_Goes p e below s R Q (T.setTop (mkF m pc Ls [])) :=
  own_fin X hk (fun _ => rfl) (fun fs hr => X.returnOut hx hret hd hr) hc hl q
theorem own_enter {y : MethodName} {bytes : ByteArray} {maxL : Nat} {ret : Option FieldType} {ws : List Jvm.Cond} {as' : Array Value} {h0 : Heap} {F : MethodId → JFrame}
    (hp : plainFor y = true) (hf : ∀ m, entryFrame m as' maxL = F m)
    (body : ∀ (p : Program) (e : Env) (s : State) (m : MethodId) (below : List Frame) (meth : Method) (c : Code) (T : State), Stand p l e R s m as' below meth c T [] 0 0 → p.tables.exec = Jvm.exec → c.code = bytes → c.maxLocals = maxL → meth.sig.returnType = ret → meth.locks = false → meth.name = y.name → s.vm.findClass y.cls = some m.cls → Z.Warmed39 s.vm → T.heap = h0 → own_Goes p e below s R Q (T.setTop (F m))) :
    MetFree l y (head1 (Jvm.Cond.code y bytes maxL ret :: ws) R) (fun a U => a = as' ∧ Z.Warmed39 U.vm ∧ U.heap = h0) (fun _ _ _ _ _ => True) (fun _ U o U' => ∃ v L, o = .returned v ∧ Q v U'.heap L ∧ FrameEnd U o U' L R.cells R.slots) := by
  refine MetFree.of_bodySF hp hisR ?_
  intro p e s m args below meth c s₁ Bd hml0 hP hK
  obtain ⟨rfl, hZ, hh⟩ := hP
  have e0 : s₁.heap = h0 := by rw [← hh, Bd.state]; rfl
  have g := body p e s m below meth c s₁ (Stand.of_body Bd) Bd.exec Bd.bytes hml0 Bd.returns Bd.notSynchronized (name_of_methodNamed Bd.named Bd.method).1 (findClass_of_methodNamed Bd.named) hZ e0
  rw [hf]
  exact g
theorem own_callS (X : Stand p l e R s m args below meth c T locs cells slots) (hx : p.tables.exec = Jvm.exec) (hZ : Z.Warmed39 s.vm) {own : String} {index : Nat} {y : MethodName} {bytes : ByteArray} {maxL : Nat} {ret : Option FieldType}
    (hown : s.vm.findClass own = some m.cls) (w1 : (Jvm.Cond.methodLink own index y).before a0 Z = true) (w2 : (Jvm.Cond.static y).before a0 Z = true) (w3 : (Jvm.Cond.initialized y.cls).before a0 Z = true) (w4 : (Jvm.Cond.code y bytes maxL ret).before a0 Z = true)
    (hy : y.cls ≠ "java/lang/invoke/MethodHandle" ∧ y.cls ≠ "java/lang/invoke/VarHandle") {W : Nat} {rm : Room} {argsL rest : List Value} {Qc : Option Value → Heap → List Loc → Prop}
    (hM : MetFree l y (head1 [Jvm.Cond.code y bytes maxL ret] rm) (fun a U => a = argsL.toArray ∧ Z.Warmed39 U.vm ∧ U.heap = h) (fun _ _ _ _ _ => True) (fun _ U o U' => ∃ v L, o = .returned v ∧ Qc v U'.heap L ∧ FrameEnd U o U' L rm.cells rm.slots))
    (hf : rm.frames + 1 ≤ R.frames) (hl : W + (maxL + 11) + rm.locals ≤ R.locals) (hc : cells + rm.cells ≤ R.cells) (hs : slots + rm.slots ≤ R.slots) (eT : T.heap = h)
    {ps : List FieldType} {r : Option FieldType} (hd : parseMethodDescriptor y.desc = some ⟨ps, r⟩) (hlen : argsL.length = ps.length)
    {g : JFrame} (hg : g.method = m) (hsize : g.locals.size = c.maxLocals) (hstack : g.stack = argsL.reverse ++ rest) (hW : 2 * g.monitorRoom + (rest.map fun v => v.category).sum ≤ W) (hdg : decode c.code g.pc = .ok (.invokestatic index, 3)) :
    ∃ (v : Option Value) (T' : State) (L : List Loc), Stand p l e R s m args below meth c T' (locs ++ L) (cells + rm.cells) (slots + rm.slots) ∧ Qc v T'.heap L ∧ ∀ t, Steps p.tables e below (T'.setTop { g with pc := g.pc + 3, stack := v.toList ++ rest }) t → Steps p.tables e below (T.setTop g) t := by
  obtain ⟨v, _, ⟨T', L', k', n'⟩, -, X', ⟨Lc, hQ, l', y', z'⟩, st⟩ := Jvm.LawKit.callS X hx (y := y) hown (mvT hZ w1) (mvT hZ w2) (mvT hZ w3) (mvT hZ w4) hy (backOf (W := W) hM hZ w4 w3 hf hl) hg hsize (argsL := argsL) (rest := rest) (lenOf hd hlen) hstack hW hdg (fun _ _ => ⟨rfl, eT, hc, hs⟩)
  dsimp only [Pt.U, Pt.locs, Pt.cells, Pt.slots] at X' l' y' z' st hQ
  subst l' y' z'
  exact ⟨v, T', Lc, X', hQ, st⟩
theorem own_callI (X : Stand p l e R s m args below meth c T locs cells slots) (hx : p.tables.exec = Jvm.exec) (hZ : Z.Warmed39 s.vm) {own : String} {index : Nat} {y : MethodName} {bytes : ByteArray} {maxL : Nat}
    (hown : s.vm.findClass own = some m.cls) (w1 : (Jvm.Cond.methodLink own index y).before a0 Z = true) (w2 : (Jvm.Cond.instanceMethod y).before a0 Z = true) (w3 : (Jvm.Cond.initialized y.cls).before a0 Z = true) (w4 : (Jvm.Cond.code y bytes maxL none).before a0 Z = true) (hy1 : y.name = "<init>")
    (hy : y.cls ≠ "java/lang/invoke/MethodHandle" ∧ y.cls ≠ "java/lang/invoke/VarHandle") {W : Nat} {rm : Room} {a : Addr} {argsL rest : List Value} {Qc : Option Value → Heap → List Loc → Prop}
    (hM : MetFree l y (head1 [Jvm.Cond.code y bytes maxL none] rm) (fun b U => b = (Value.ref a :: argsL).toArray ∧ Z.Warmed39 U.vm ∧ U.heap = h) (fun _ _ _ _ _ => True) (fun _ U o U' => ∃ v L, o = .returned v ∧ Qc v U'.heap L ∧ FrameEnd U o U' L rm.cells rm.slots))
    (hf : rm.frames + 1 ≤ R.frames) (hl : W + (maxL + 11) + rm.locals ≤ R.locals) (hc : cells + rm.cells ≤ R.cells) (hs : slots + rm.slots ≤ R.slots) (eT : T.heap = h)
    {ps : List FieldType} {r : Option FieldType} (hd : parseMethodDescriptor y.desc = some ⟨ps, r⟩) (hlen : argsL.length = ps.length)
    {g : JFrame} (hg : g.method = m) (hsize : g.locals.size = c.maxLocals) (hstack : g.stack = argsL.reverse ++ .ref a :: rest) (hW : 2 * g.monitorRoom + (rest.map fun v => v.category).sum ≤ W) (hdg : decode c.code g.pc = .ok (.invokespecial index, 3)) :
    ∃ (v : Option Value) (T' : State) (L : List Loc), Stand p l e R s m args below meth c T' (locs ++ L) (cells + rm.cells) (slots + rm.slots) ∧ Qc v T'.heap L ∧ ∀ t, Steps p.tables e below (T'.setTop { g with pc := g.pc + 3, stack := v.toList ++ rest }) t → Steps p.tables e below (T.setTop g) t := by
  obtain ⟨v, _, ⟨T', L', k', n'⟩, -, X', ⟨Lc, hQ, l', y', z'⟩, st⟩ := X.specialBack hx (y := y) hy1 hown (mvT hZ w1) (mvT hZ w2) (mvT hZ w4) hy (backOf (W := W) hM hZ w4 w3 hf hl) hg hsize (Steps.refl _) (a := a) (argsL := argsL) (rest := rest) (lenOf hd hlen) hstack hW hdg (fun _ _ => ⟨rfl, eT, hc, hs⟩)
  dsimp only [Pt.U, Pt.locs, Pt.cells, Pt.slots] at X' l' y' z' st hQ
  subst l' y' z'
  exact ⟨v, T', Lc, X', hQ, fun t k => st.trans k⟩
theorem own_callV (X : Stand p l e R s m args below meth c T locs cells slots) (hx : p.tables.exec = Jvm.exec) (hZ : Z.Warmed39 s.vm) {own C : String} {index : Nat} {y : MethodName} {bytes : ByteArray} {maxL : Nat} {ret : Option FieldType}
    (hown : s.vm.findClass own = some m.cls) (w1 : (Jvm.Cond.methodLink own index y).before a0 Z = true) (w5 : (Jvm.Cond.declares y).before a0 Z = true) (w6 : (Jvm.Cond.selects C y y).before a0 Z = true) (w2 : (Jvm.Cond.instanceMethod y).before a0 Z = true) (w3 : (Jvm.Cond.initialized y.cls).before a0 Z = true) (w4 : (Jvm.Cond.code y bytes maxL ret).before a0 Z = true)
    (hy : y.cls ≠ "java/lang/invoke/MethodHandle" ∧ y.cls ≠ "java/lang/invoke/VarHandle") {W : Nat} {rm : Room} {a : Addr} {argsL rest : List Value} {Qc : Option Value → Heap → List Loc → Prop}
    (hM : MetFree l y (head1 [Jvm.Cond.code y bytes maxL ret] rm) (fun b U => b = (Value.ref a :: argsL).toArray ∧ Z.Warmed39 U.vm ∧ U.heap = h) (fun _ _ _ _ _ => True) (fun _ U o U' => ∃ v L, o = .returned v ∧ Qc v U'.heap L ∧ FrameEnd U o U' L rm.cells rm.slots))
    (hf : rm.frames + 1 ≤ R.frames) (hl : W + (maxL + 11) + rm.locals ≤ R.locals) (hc : cells + rm.cells ≤ R.cells) (hs : slots + rm.slots ≤ R.slots) (eT : T.heap = h) (E : Exa Z h a C)
    {ps : List FieldType} {r : Option FieldType} (hd : parseMethodDescriptor y.desc = some ⟨ps, r⟩) (hlen : argsL.length = ps.length)
    {g : JFrame} (hg : g.method = m) (hsize : g.locals.size = c.maxLocals) (hstack : g.stack = argsL.reverse ++ .ref a :: rest) (hW : 2 * g.monitorRoom + (rest.map fun v => v.category).sum ≤ W) (hdg : decode c.code g.pc = .ok (.invokevirtual index, 3)) :
    ∃ (v : Option Value) (T' : State) (L : List Loc), Stand p l e R s m args below meth c T' (locs ++ L) (cells + rm.cells) (slots + rm.slots) ∧ Qc v T'.heap L ∧ ∀ t, Steps p.tables e below (T'.setTop { g with pc := g.pc + 3, stack := v.toList ++ rest }) t → Steps p.tables e below (T.setTop g) t := by
  obtain ⟨cq, kq, qa, qb, qc⟩ := isOf hZ eT E
  obtain ⟨v, _, ⟨T', L', k', n'⟩, -, X', ⟨Lc, hQ, l', y', z'⟩, st⟩ := X.virtualBack hx (y := y) (z := y) hown (mvT hZ w1) (mvT hZ w5) (notFace_of_selects (args := #[]) (mvT hZ w6)) (mvT hZ w6) (mvT hZ w2) hy (backOf (W := W) hM hZ w4 w3 hf hl) qa qc hg hsize (Steps.refl _) (argsL := argsL) (rest := rest) (lenOf hd hlen) hstack hW hdg (fun _ _ => ⟨rfl, eT, hc, hs⟩)
  dsimp only [Pt.U, Pt.locs, Pt.cells, Pt.slots] at X' l' y' z' st hQ
  subst l' y' z'
  exact ⟨v, T', Lc, X', hQ, fun t k => st.trans k⟩
theorem own_callP (X : Stand p l e R s m args below meth c T locs cells slots) (hx : p.tables.exec = Jvm.exec) (hZ : Z.Warmed39 s.vm) {own : String} {index : Nat} {y : MethodName} {bytes : ByteArray} {maxL : Nat} {ret : Option FieldType}
    (hown : s.vm.findClass own = some m.cls) (w1 : (Jvm.Cond.methodLink own index y).before a0 Z = true) (w5 : (Jvm.Cond.privateMethod y).before a0 Z = true) {ki : Nat} (w6 : (Jvm.Cond.instantiable y.cls ki).before a0 Z = true) (w2 : (Jvm.Cond.instanceMethod y).before a0 Z = true) (w3 : (Jvm.Cond.initialized y.cls).before a0 Z = true) (w4 : (Jvm.Cond.code y bytes maxL ret).before a0 Z = true)
    (hy : y.cls ≠ "java/lang/invoke/MethodHandle" ∧ y.cls ≠ "java/lang/invoke/VarHandle") {W : Nat} {rm : Room} {a : Addr} {argsL rest : List Value} {Qc : Option Value → Heap → List Loc → Prop} {C : String}
    (hM : MetFree l y (head1 [Jvm.Cond.code y bytes maxL ret] rm) (fun b U => b = (Value.ref a :: argsL).toArray ∧ Z.Warmed39 U.vm ∧ U.heap = h) (fun _ _ _ _ _ => True) (fun _ U o U' => ∃ v L, o = .returned v ∧ Qc v U'.heap L ∧ FrameEnd U o U' L rm.cells rm.slots))
    (hf : rm.frames + 1 ≤ R.frames) (hl : W + (maxL + 11) + rm.locals ≤ R.locals) (hc : cells + rm.cells ≤ R.cells) (hs : slots + rm.slots ≤ R.slots) (eT : T.heap = h) (E : Exa Z h a C)
    {ps : List FieldType} {r : Option FieldType} (hd : parseMethodDescriptor y.desc = some ⟨ps, r⟩) (hlen : argsL.length = ps.length)
    {g : JFrame} (hg : g.method = m) (hsize : g.locals.size = c.maxLocals) (hstack : g.stack = argsL.reverse ++ .ref a :: rest) (hW : 2 * g.monitorRoom + (rest.map fun v => v.category).sum ≤ W) (hdg : decode c.code g.pc = .ok (.invokevirtual index, 3)) :
    ∃ (v : Option Value) (T' : State) (L : List Loc), Stand p l e R s m args below meth c T' (locs ++ L) (cells + rm.cells) (slots + rm.slots) ∧ Qc v T'.heap L ∧ ∀ t, Steps p.tables e below (T'.setTop { g with pc := g.pc + 3, stack := v.toList ++ rest }) t → Steps p.tables e below (T.setTop g) t := by
  obtain ⟨cq, q1, q2⟩ := E.cell
  have hsel : (Jvm.Cond.selects y.cls y y).before args s = true := by
    obtain ⟨c2, k2, i1, i2, i3, i4, -⟩ := Cond.instantiable_spec (mv hZ w6 (args := args))
    exact selects_self_of_private i1 i2 (Bool.or_eq_false_iff.mp i4).1 (Cond.privateMethod_at (mvP hZ w5 (args := #[]))) (mvT hZ w2) hy
  obtain ⟨v, _, ⟨T', L', k', n'⟩, -, X', ⟨Lc, hQ, l', y', z'⟩, st⟩ := X.privateBack hx (y := y) hown (mvT hZ w1) (mvT hZ w2) hsel (Cond.privateMethod_at (mvP hZ w5 (args := #[]))) (mvT hZ w4) hy (backOf (W := W) hM hZ w4 w3 hf hl) hg hsize (Steps.refl _) (a := a) (by rw [eT]; exact q1) q2 (argsL := argsL) (rest := rest) (lenOf hd hlen) hstack hW hdg (fun _ _ => ⟨rfl, eT, hc, hs⟩)
  dsimp only [Pt.U, Pt.locs, Pt.cells, Pt.slots] at X' l' y' z' st hQ
  subst l' y' z'
  exact ⟨v, T', Lc, X', hQ, fun t k => st.trans k⟩
theorem own_sta_keep {C n d : String} {w : Value} {ws : List Addr} (F : Sta Z h C n d w) (K : Keep h h' ws) (q : ∀ x ∈ ws, ∀ c : Cell, h[x]? = some c → c.vm.isStatics = false) : Sta Z h' C n d w := by
  obtain ⟨cf, i, k, f, st, cell, h1, h2, h3, h4, h5, h6, h7⟩ := F
  exact ⟨cf, i, k, f, st, cell, h1, h2, h3, h4, K.2.1 _ _ h5 (fun hx => by have := q st hx cell h5; rw [this] at h6; cases h6), h6, h7⟩
theorem own_ext_keep (E : Ext h h') (ws : List Addr) : Keep h h' ws := (Keep.refl h ws).ext E
/-- an array at a: n places, the j-th holds f j -/
def own_Arf (Z : State) (h : Heap) (a : Addr) (ty : FieldType) (n : Nat) (f : Nat → Value) : Prop := ∃ c : Cell, Arr Z h a c ty ∧ c.slots.size = n ∧ ∀ j, j < n → c.slots[j]? = some (f j)
theorem own_Arf.lt {a : Nat} {ty : FieldType} {n : Nat} {f : Nat → Value} (F : own_Arf Z h a ty n f) : a < h.size := by obtain ⟨c, A, -⟩ := F; exact A.lt
theorem own_Arf.ext {a : Addr} {ty : FieldType} {n : Nat} {f : Nat → Value} (F : own_Arf Z h a ty n f) (E : Ext h h') : own_Arf Z h' a ty n f := by obtain ⟨c, A, r⟩ := F; exact ⟨c, A.ext E, r⟩
theorem own_Arf.other {a b : Addr} {ty : FieldType} {n : Nat} {f : Nat → Value} {sl : Nat} {v : Value} (F : own_Arf Z h b ty n f) (W : Wr h h' a sl v) (q : b ≠ a) : own_Arf Z h' b ty n f := by obtain ⟨c, A, r⟩ := F; exact ⟨c, A.other W q, r⟩
theorem own_Arf.keep {a : Addr} {ty : FieldType} {n : Nat} {f : Nat → Value} {ws : List Addr} (F : own_Arf Z h a ty n f) (K : Keep h h' ws) (q : a ∉ ws) : own_Arf Z h' a ty n f := by obtain ⟨c, A, r⟩ := F; exact ⟨c, ⟨K.2.1 a c A.1 q, A.2⟩, r⟩
theorem own_Arf.congr {a : Addr} {ty : FieldType} {n : Nat} {f f' : Nat → Value} (F : own_Arf Z h a ty n f) (q : ∀ j, j < n → f j = f' j) : own_Arf Z h a ty n f' := by obtain ⟨c, A, r1, r2⟩ := F; exact ⟨c, A, r1, fun j hj => by rw [← q j hj]; exact r2 j hj⟩
theorem own_Arf.set {a : Addr} {ty : FieldType} {n : Nat} {f : Nat → Value} {i : Nat} {v : Value} (F : own_Arf Z h a ty n f) (W : Wr h h' a i v) : own_Arf Z h' a ty n (fun k => if k = i then v else f k) := by
  obtain ⟨c, A, r1, r2⟩ := F
  refine ⟨c.setSlot i v, A.same W, by rw [sz_set]; exact r1, fun j hj => ?_⟩
  show (c.slots.setIfInBounds i v)[j]? = some (if j = i then v else f j)
  by_cases q : j = i
  · subst q
    simp [r1, hj]
  · rw [Array.getElem?_setIfInBounds_ne (Ne.symm q), if_neg q]
    exact r2 j hj
theorem own_Arf.setI {a : Addr} {ty : FieldType} {n : Nat} {f : Nat → Int32} {i : Nat} {x : Int32} (F : own_Arf Z h a ty n (fun k => .int (f k))) (W : Wr h h' a i (.int x)) : own_Arf Z h' a ty n (fun k => .int (if k = i then x else f k)) :=
  (own_Arf.set F W).congr fun k _ => by show (if k = i then Value.int x else .int (f k)) = .int (if k = i then x else f k); split <;> rfl
theorem own_Arf.setJ {a : Addr} {ty : FieldType} {n : Nat} {f : Nat → Int64} {i : Nat} {x : Int64} (F : own_Arf Z h a ty n (fun k => .long (f k))) (W : Wr h h' a i (.long x)) : own_Arf Z h' a ty n (fun k => .long (if k = i then x else f k)) :=
  (own_Arf.set F W).congr fun k _ => by show (if k = i then Value.long x else .long (f k)) = .long (if k = i then x else f k); split <;> rfl
theorem own_inb {c : Cell} {n : Nat} {j : Int32} (S : c.slots.size = n) (q : 0 ≤ j.toInt ∧ j.toInt < (n : Int)) : ¬ (j < 0 ∨ c.slots.size ≤ j.toNatClampNeg) := by
  rw [S]
  rintro (q1 | q1)
  · have := Int32.lt_iff_toInt_lt.mp q1
    simp at this
    omega
  · have h1 : j.toNatClampNeg = j.toInt.toNat := rfl
    omega
theorem own_idx {n : Nat} {j : Int32} (q : 0 ≤ j.toInt ∧ j.toInt < (n : Int)) : j.toNatClampNeg < n := by
  have h1 : j.toNatClampNeg = j.toInt.toNat := rfl
  omega
theorem own_newP (X : Stand p l e R s m args below meth c T locs cells slots) (hx : p.tables.exec = Jvm.exec) (hZ : Z.Warmed39 s.vm) {aty : ArrayType} (w : (Jvm.Cond.arrayClass (newarray.typeOf aty)).before a0 Z = true) (eT : T.heap = h) {g : JFrame} (hg : g.method = m) (hd : decode c.code g.pc = .ok (.newarray aty, 2)) {n : Int32} {rest : List Value} (hs : g.stack = .int n :: rest)
    (hn : ¬ n < 0) {cap : Nat} (hcap : n.toNatClampNeg ≤ cap) (hb : cap * 8 ≤ 536870912) (hc : cells + 1 ≤ R.cells) (hl : slots + cap ≤ R.slots) :
    ∃ T' h', Stand p l e R s m args below meth c T' locs (cells + 1) (slots + cap) ∧ T'.heap = h' ∧ Ext h h' ∧ own_Arf Z h' h.size (newarray.typeOf aty) n.toNatClampNeg (fun _ => defaultValue (newarray.typeOf aty)) ∧
      ∀ target, Steps p.tables e below (T'.setTop { g with pc := g.pc + 2, stack := .ref h.size :: rest }) target → Steps p.tables e below (T.setTop g) target := by
  obtain ⟨T', h', cA, X', e', E', A', st⟩ := newP X hx hZ w eT hg hd hs hn hcap hb hc hl
  refine ⟨T', h', X', e', E', ⟨_, A', sz_new _ _ _, fun j hj => ?_⟩, st⟩
  simp [newA, hj]
theorem own_newPE (X : Stand p l e R s m args below meth c T locs cells slots) (hx : p.tables.exec = Jvm.exec) (hZ : Z.Warmed39 s.vm) {aty : ArrayType} (w : (Jvm.Cond.arrayClass (newarray.typeOf aty)).before a0 Z = true) (eT : T.heap = h) {g : JFrame} (hg : g.method = m) (hd : decode c.code g.pc = .ok (.newarray aty, 2)) {n : Int32} {rest : List Value} (hs : g.stack = .int n :: rest)
    (hn : ¬ n < 0) {cap : Nat} (hcap : n.toNatClampNeg ≤ cap) (hb : cap * 8 ≤ 536870912) (hc : cells + 1 ≤ R.cells) (hl : slots + cap ≤ R.slots) {ad : String} (had : "[" ++ (newarray.typeOf aty).toString = ad) :
    ∃ T' h', Stand p l e R s m args below meth c T' locs (cells + 1) (slots + cap) ∧ T'.heap = h' ∧ Ext h h' ∧ own_Arf Z h' h.size (newarray.typeOf aty) n.toNatClampNeg (fun _ => defaultValue (newarray.typeOf aty)) ∧ Exa Z h' h.size ad ∧
      ∀ target, Steps p.tables e below (T'.setTop { g with pc := g.pc + 2, stack := .ref h.size :: rest }) target → Steps p.tables e below (T.setTop g) target := by
  obtain ⟨T', h', cA, X', e', E', A', Ex, st⟩ := newPE X hx hZ w eT hg hd hs hn hcap hb hc hl had
  refine ⟨T', h', X', e', E', ⟨_, A', sz_new _ _ _, fun j hj => ?_⟩, Ex, st⟩
  simp [newA, hj]
theorem own_cloneA (X : Stand p l e R s m args below meth c T locs cells slots) (hx : p.tables.exec = Jvm.exec) (hZ : Z.Warmed39 s.vm) {own ad : String} {index : Nat} (hown : s.vm.findClass own = some m.cls)
    (w1 : (Jvm.Cond.methodLink own index ⟨ad, "clone", "()Ljava/lang/Object;"⟩).before a0 Z = true) (w2 : (Jvm.Cond.sameMethod ad "java/lang/Object" "clone" "()Ljava/lang/Object;").before a0 Z = true) (w3 : (Jvm.Cond.native ⟨"java/lang/Object", "clone", "()Ljava/lang/Object;"⟩).before a0 Z = true)
    (w4 : (Jvm.Cond.instanceMethod ⟨"java/lang/Object", "clone", "()Ljava/lang/Object;"⟩).before a0 Z = true) (w5 : (Jvm.Cond.selects ad ⟨ad, "clone", "()Ljava/lang/Object;"⟩ ⟨"java/lang/Object", "clone", "()Ljava/lang/Object;"⟩).before a0 Z = true) (w6 : (Jvm.Cond.castable ad "java/lang/Cloneable").before a0 Z = true)
    (eT : T.heap = h) {a : Addr} {ty : FieldType} {n : Nat} {f : Nat → Value} (A : own_Arf Z h a ty n f) (E : Exa Z h a ad) (hfit : ∀ k, k < n → fits ty (f k) = true) {g : JFrame} (hg : g.method = m) (hsize : g.locals.size = c.maxLocals) {rest : List Value} (hs : g.stack = .ref a :: rest) (hd : decode c.code g.pc = .ok (.invokevirtual index, 3))
    (hf : 1 ≤ R.frames) {W : Nat} (hW : 2 * g.monitorRoom + (rest.map fun v => v.category).sum ≤ W) (hl : W + 14 ≤ R.locals) (hc : cells + 1 ≤ R.cells) (hsl : slots + n ≤ R.slots) :
    ∃ T' h', Stand p l e R s m args below meth c T' locs (cells + 1) (slots + n) ∧ T'.heap = h' ∧ Ext h h' ∧ own_Arf Z h' h.size ty n f ∧ Exa Z h' h.size ad ∧
      ∀ target, Steps p.tables e below (T'.setTop { g with pc := g.pc + 3, stack := .ref h.size :: rest }) target → Steps p.tables e below (T.setTop g) target := by
  obtain ⟨cl, A1, A2, A3⟩ := A
  have FC : FitC Z cl := fitC_of A1 fun i hi v hv => by
    rw [A3 i (by omega)] at hv
    cases hv
    exact hfit i (by omega)
  obtain ⟨T', h', X', e', ex, A', E', st⟩ := cloneA X hx hZ hown w1 w2 w3 w4 w5 w6 eT A1 E FC hg hsize hs hd hf hW hl (Nat.le_of_eq A2) hc hsl
  exact ⟨T', h', X', e', ex, ⟨cloneOf cl, A', A2, A3⟩, E', st⟩
theorem own_len (X : Stand p l e R s m args below meth c T locs cells slots) (hx : p.tables.exec = Jvm.exec) (hZ : Z.Warmed39 s.vm) (eT : T.heap = h) {a : Addr} {ty : FieldType} {n : Nat} {f : Nat → Value} (A : own_Arf Z h a ty n f) {g : JFrame} (hg : g.method = m) {rest : List Value} (hs : g.stack = .ref a :: rest) (hd : decode c.code g.pc = .ok (.arraylength, 1)) :
    ∀ t, Steps p.tables e below (T.setTop { g with pc := g.pc + 1, stack := .int n.toInt32 :: rest }) t → Steps p.tables e below (T.setTop g) t := by
  obtain ⟨cl, A1, A2, A3⟩ := A
  intro t k
  subst A2
  exact X.arraylength hx (by rw [eT]; exact A1.1) (State.isArrayOf_alike hZ.alike A1.2.1) hg hs hd _ k
theorem own_ldI (X : Stand p l e R s m args below meth c T locs cells slots) (hx : p.tables.exec = Jvm.exec) (hZ : Z.Warmed39 s.vm) (eT : T.heap = h) {a : Addr} {n : Nat} {f : Nat → Int32} (A : own_Arf Z h a .int n (fun k => .int (f k))) {j : Int32} (q : 0 ≤ j.toInt ∧ j.toInt < (n : Int)) {g : JFrame} (hg : g.method = m) {rest : List Value} (hs : g.stack = .int j :: .ref a :: rest) (hd : decode c.code g.pc = .ok (.iaload, 1)) :
    ∀ t, Steps p.tables e below (T.setTop { g with pc := g.pc + 1, stack := .int (f j.toNatClampNeg) :: rest }) t → Steps p.tables e below (T.setTop g) t := by
  obtain ⟨cl, A1, A2, A3⟩ := A
  exact fun t k => X.iaload hx (by rw [eT]; exact A1.1) (State.isArrayOf_alike hZ.alike A1.2.1) A1.2.2 (own_inb A2 q) (A3 _ (own_idx q)) hg hs hd _ k
theorem own_ldJ (X : Stand p l e R s m args below meth c T locs cells slots) (hx : p.tables.exec = Jvm.exec) (hZ : Z.Warmed39 s.vm) (eT : T.heap = h) {a : Addr} {n : Nat} {f : Nat → Int64} (A : own_Arf Z h a .long n (fun k => .long (f k))) {j : Int32} (q : 0 ≤ j.toInt ∧ j.toInt < (n : Int)) {g : JFrame} (hg : g.method = m) {rest : List Value} (hs : g.stack = .int j :: .ref a :: rest) (hd : decode c.code g.pc = .ok (.laload, 1)) :
    ∀ t, Steps p.tables e below (T.setTop { g with pc := g.pc + 1, stack := .long (f j.toNatClampNeg) :: rest }) t → Steps p.tables e below (T.setTop g) t := by
  obtain ⟨cl, A1, A2, A3⟩ := A
  exact fun t k => X.laload hx (by rw [eT]; exact A1.1) (State.isArrayOf_alike hZ.alike A1.2.1) A1.2.2 (own_inb A2 q) (A3 _ (own_idx q)) hg hs hd _ k
theorem own_ldC (X : Stand p l e R s m args below meth c T locs cells slots) (hx : p.tables.exec = Jvm.exec) (hZ : Z.Warmed39 s.vm) (eT : T.heap = h) {a : Addr} {n : Nat} {f : Nat → Int32} (A : own_Arf Z h a .char n (fun k => .int (f k))) {j : Int32} (q : 0 ≤ j.toInt ∧ j.toInt < (n : Int)) {g : JFrame} (hg : g.method = m) {rest : List Value} (hs : g.stack = .int j :: .ref a :: rest) (hd : decode c.code g.pc = .ok (.caload, 1)) :
    ∀ t, Steps p.tables e below (T.setTop { g with pc := g.pc + 1, stack := .int (f j.toNatClampNeg) :: rest }) t → Steps p.tables e below (T.setTop g) t := by
  obtain ⟨cl, A1, A2, A3⟩ := A
  exact fun t k => X.caload hx (by rw [eT]; exact A1.1) (State.isArrayOf_alike hZ.alike A1.2.1) A1.2.2 (own_inb A2 q) (A3 _ (own_idx q)) hg hs hd _ k
theorem own_ldS (X : Stand p l e R s m args below meth c T locs cells slots) (hx : p.tables.exec = Jvm.exec) (hZ : Z.Warmed39 s.vm) (eT : T.heap = h) {a : Addr} {n : Nat} {f : Nat → Int32} (A : own_Arf Z h a .short n (fun k => .int (f k))) {j : Int32} (q : 0 ≤ j.toInt ∧ j.toInt < (n : Int)) {g : JFrame} (hg : g.method = m) {rest : List Value} (hs : g.stack = .int j :: .ref a :: rest) (hd : decode c.code g.pc = .ok (.saload, 1)) :
    ∀ t, Steps p.tables e below (T.setTop { g with pc := g.pc + 1, stack := .int (f j.toNatClampNeg) :: rest }) t → Steps p.tables e below (T.setTop g) t := by
  obtain ⟨cl, A1, A2, A3⟩ := A
  exact fun t k => X.saload hx (by rw [eT]; exact A1.1) (State.isArrayOf_alike hZ.alike A1.2.1) A1.2.2 (own_inb A2 q) (A3 _ (own_idx q)) hg hs hd _ k
theorem own_ldB (X : Stand p l e R s m args below meth c T locs cells slots) (hx : p.tables.exec = Jvm.exec) (hZ : Z.Warmed39 s.vm) (eT : T.heap = h) {a : Addr} {n : Nat} {f : Nat → Int32} (A : own_Arf Z h a .byte n (fun k => .int (f k))) {j : Int32} (q : 0 ≤ j.toInt ∧ j.toInt < (n : Int)) {g : JFrame} (hg : g.method = m) {rest : List Value} (hs : g.stack = .int j :: .ref a :: rest) (hd : decode c.code g.pc = .ok (.baload, 1)) :
    ∀ t, Steps p.tables e below (T.setTop { g with pc := g.pc + 1, stack := .int (f j.toNatClampNeg) :: rest }) t → Steps p.tables e below (T.setTop g) t := by
  obtain ⟨cl, A1, A2, A3⟩ := A
  exact fun t k => X.baloadBytes hx (by rw [eT]; exact A1.1) (State.isArrayOf_alike hZ.alike A1.2.1) A1.2.2 (own_inb A2 q) (A3 _ (own_idx q)) hg hs hd _ k
theorem own_ldR (X : Stand p l e R s m args below meth c T locs cells slots) (hx : p.tables.exec = Jvm.exec) (hZ : Z.Warmed39 s.vm) (eT : T.heap = h) {a : Addr} {ty : FieldType} (hty : ty.isReference = true) {n : Nat} {f : Nat → Value} (A : own_Arf Z h a ty n f) {j : Int32} (q : 0 ≤ j.toInt ∧ j.toInt < (n : Int)) {g : JFrame} (hg : g.method = m) {rest : List Value} (hs : g.stack = .int j :: .ref a :: rest) (hd : decode c.code g.pc = .ok (.aaload, 1)) :
    ∀ t, Steps p.tables e below (T.setTop { g with pc := g.pc + 1, stack := f j.toNatClampNeg :: rest }) t → Steps p.tables e below (T.setTop g) t := by
  obtain ⟨cl, A1, A2, A3⟩ := A
  exact fun t k => X.aaload hx (by rw [eT]; exact A1.1) (State.isArrayOf_alike hZ.alike A1.2.1) hty A1.2.2 (own_inb A2 q) (A3 _ (own_idx q)) hg hs hd _ k
theorem own_stI (X : Stand p l e R s m args below meth c T locs cells slots) (hx : p.tables.exec = Jvm.exec) (hZ : Z.Warmed39 s.vm) (eT : T.heap = h) {a : Addr} {n : Nat} {f : Nat → Int32} (A : own_Arf Z h a .int n (fun k => .int (f k))) {j x : Int32} (q : 0 ≤ j.toInt ∧ j.toInt < (n : Int)) {g : JFrame} (hg : g.method = m) {rest : List Value} (hs : g.stack = .int x :: .int j :: .ref a :: rest) (hd : decode c.code g.pc = .ok (.iastore, 1)) :
    ∃ T' h', Stand p l e R s m args below meth c T' (locs ++ [⟨a, j.toNatClampNeg⟩]) cells slots ∧ T'.heap = h' ∧ Wr h h' a j.toNatClampNeg (.int x) ∧ own_Arf Z h' a .int n (fun k => .int (if k = j.toNatClampNeg then x else f k)) ∧ ∀ t, Steps p.tables e below (T'.setTop { g with pc := g.pc + 1, stack := rest }) t → Steps p.tables e below (T.setTop g) t := by
  obtain ⟨cl, A1, A2, A3⟩ := id A
  obtain ⟨T', h', X', e', W, st⟩ := stI X hx hZ eT A1 (own_inb A2 q) hg hs hd
  exact ⟨T', h', X', e', W, own_Arf.setI A W, st⟩
theorem own_stJ (X : Stand p l e R s m args below meth c T locs cells slots) (hx : p.tables.exec = Jvm.exec) (hZ : Z.Warmed39 s.vm) (eT : T.heap = h) {a : Addr} {n : Nat} {f : Nat → Int64} (A : own_Arf Z h a .long n (fun k => .long (f k))) {j : Int32} {x : Int64} (q : 0 ≤ j.toInt ∧ j.toInt < (n : Int)) {g : JFrame} (hg : g.method = m) {rest : List Value} (hs : g.stack = .long x :: .int j :: .ref a :: rest) (hd : decode c.code g.pc = .ok (.lastore, 1)) :
    ∃ T' h', Stand p l e R s m args below meth c T' (locs ++ [⟨a, j.toNatClampNeg⟩]) cells slots ∧ T'.heap = h' ∧ Wr h h' a j.toNatClampNeg (.long x) ∧ own_Arf Z h' a .long n (fun k => .long (if k = j.toNatClampNeg then x else f k)) ∧ ∀ t, Steps p.tables e below (T'.setTop { g with pc := g.pc + 1, stack := rest }) t → Steps p.tables e below (T.setTop g) t := by
  obtain ⟨cl, A1, A2, A3⟩ := id A
  obtain ⟨T', h', X', e', W, st⟩ := stJ X hx hZ eT A1 (own_inb A2 q) hg hs hd
  exact ⟨T', h', X', e', W, own_Arf.setJ A W, st⟩
theorem own_stC (X : Stand p l e R s m args below meth c T locs cells slots) (hx : p.tables.exec = Jvm.exec) (hZ : Z.Warmed39 s.vm) (eT : T.heap = h) {a : Addr} {n : Nat} {f : Nat → Int32} (A : own_Arf Z h a .char n (fun k => .int (f k))) {j x : Int32} (q : 0 ≤ j.toInt ∧ j.toInt < (n : Int)) {g : JFrame} (hg : g.method = m) {rest : List Value} (hs : g.stack = .int x :: .int j :: .ref a :: rest) (hd : decode c.code g.pc = .ok (.castore, 1)) :
    ∃ T' h', Stand p l e R s m args below meth c T' (locs ++ [⟨a, j.toNatClampNeg⟩]) cells slots ∧ T'.heap = h' ∧ Wr h h' a j.toNatClampNeg (.int (nar .char x)) ∧ own_Arf Z h' a .char n (fun k => .int (if k = j.toNatClampNeg then nar .char x else f k)) ∧ ∀ t, Steps p.tables e below (T'.setTop { g with pc := g.pc + 1, stack := rest }) t → Steps p.tables e below (T.setTop g) t := by
  obtain ⟨cl, A1, A2, A3⟩ := id A
  obtain ⟨T', h', X', e', W, st⟩ := stC X hx hZ eT A1 (own_inb A2 q) hg hs hd
  exact ⟨T', h', X', e', W, own_Arf.setI A W, st⟩
theorem own_stS (X : Stand p l e R s m args below meth c T locs cells slots) (hx : p.tables.exec = Jvm.exec) (hZ : Z.Warmed39 s.vm) (eT : T.heap = h) {a : Addr} {n : Nat} {f : Nat → Int32} (A : own_Arf Z h a .short n (fun k => .int (f k))) {j x : Int32} (q : 0 ≤ j.toInt ∧ j.toInt < (n : Int)) {g : JFrame} (hg : g.method = m) {rest : List Value} (hs : g.stack = .int x :: .int j :: .ref a :: rest) (hd : decode c.code g.pc = .ok (.sastore, 1)) :
    ∃ T' h', Stand p l e R s m args below meth c T' (locs ++ [⟨a, j.toNatClampNeg⟩]) cells slots ∧ T'.heap = h' ∧ Wr h h' a j.toNatClampNeg (.int (nar .short x)) ∧ own_Arf Z h' a .short n (fun k => .int (if k = j.toNatClampNeg then nar .short x else f k)) ∧ ∀ t, Steps p.tables e below (T'.setTop { g with pc := g.pc + 1, stack := rest }) t → Steps p.tables e below (T.setTop g) t := by
  obtain ⟨cl, A1, A2, A3⟩ := id A
  obtain ⟨T', h', X', e', W, st⟩ := stS X hx hZ eT A1 (own_inb A2 q) hg hs hd
  exact ⟨T', h', X', e', W, own_Arf.setI A W, st⟩
theorem own_stB (X : Stand p l e R s m args below meth c T locs cells slots) (hx : p.tables.exec = Jvm.exec) (hZ : Z.Warmed39 s.vm) (eT : T.heap = h) {a : Addr} {n : Nat} {f : Nat → Int32} (A : own_Arf Z h a .byte n (fun k => .int (f k))) {j x : Int32} (q : 0 ≤ j.toInt ∧ j.toInt < (n : Int)) {g : JFrame} (hg : g.method = m) {rest : List Value} (hs : g.stack = .int x :: .int j :: .ref a :: rest) (hd : decode c.code g.pc = .ok (.bastore, 1)) :
    ∃ T' h', Stand p l e R s m args below meth c T' (locs ++ [⟨a, j.toNatClampNeg⟩]) cells slots ∧ T'.heap = h' ∧ Wr h h' a j.toNatClampNeg (.int (nar .byte x)) ∧ own_Arf Z h' a .byte n (fun k => .int (if k = j.toNatClampNeg then nar .byte x else f k)) ∧ ∀ t, Steps p.tables e below (T'.setTop { g with pc := g.pc + 1, stack := rest }) t → Steps p.tables e below (T.setTop g) t := by
  obtain ⟨cl, A1, A2, A3⟩ := id A
  obtain ⟨T', h', X', e', W, st⟩ := stB X hx hZ eT A1 (own_inb A2 q) hg hs hd
  exact ⟨T', h', X', e', W, own_Arf.setI A W, st⟩
theorem own_newR (X : Stand p l e R s m args below meth c T locs cells slots) (hx : p.tables.exec = Jvm.exec) (hZ : Z.Warmed39 s.vm) {own C : String} {index : Nat} (hown : s.vm.findClass own = some m.cls) (w1 : (Jvm.Cond.classLink own index C).before a0 Z = true) (w2 : (Jvm.Cond.arrayOver (.object C)).before a0 Z = true)
    (eT : T.heap = h) {g : JFrame} (hg : g.method = m) (hd : decode c.code g.pc = .ok (.anewarray index, 3)) {n : Int32} {rest : List Value} (hs : g.stack = .int n :: rest) (hn : ¬ n < 0) {cap : Nat} (hcap : n.toNatClampNeg ≤ cap) (hb : cap * 8 ≤ 536870912) (hc : cells + 1 ≤ R.cells) (hl : slots + cap ≤ R.slots) :
    ∃ T' h', Stand p l e R s m args below meth c T' locs (cells + 1) (slots + cap) ∧ T'.heap = h' ∧ Ext h h' ∧ (∃ cl : Cell, h'[h.size]? = some cl ∧ Ovr Z cl.cls C) ∧ own_Arf Z h' h.size (.object C) n.toNatClampNeg (fun _ => .null) ∧
      ∀ target, Steps p.tables e below (T'.setTop { g with pc := g.pc + 3, stack := .ref h.size :: rest }) target → Steps p.tables e below (T.setTop g) target := by
  obtain ⟨T', h', cA, X', e', E', A', O', st⟩ := newR X hx hZ hown w1 w2 eT hg hd hs hn hcap hb hc hl
  refine ⟨T', h', X', e', E', ⟨_, A'.1, O'⟩, ⟨_, A', sz_new _ _ _, fun j hj => ?_⟩, st⟩
  simp [newA, hj, defaultValue]
/-- an array of objects of C: the class of the array is C's -/
def own_Ovr (Z : State) (h : Heap) (a : Addr) (C : String) : Prop := ∃ cl : Cell, h[a]? = some cl ∧ Ovr Z cl.cls C
theorem own_Ovr.ext {a : Addr} {C : String} (F : own_Ovr Z h a C) (E : Ext h h') : own_Ovr Z h' a C := by obtain ⟨cl, h1, h2⟩ := F; exact ⟨cl, E.2 _ _ h1, h2⟩
theorem own_Ovr.wr {a b : Addr} {C : String} {sl : Nat} {v : Value} (F : own_Ovr Z h a C) (W : Wr h h' b sl v) : own_Ovr Z h' a C := by
  obtain ⟨cl, h1, h2⟩ := F
  obtain ⟨c', e1, e2, -⟩ := wr_at W h1
  exact ⟨c', e1, by rw [e2]; exact h2⟩
theorem own_Ovr.keep {a : Addr} {C : String} {ws : List Addr} (F : own_Ovr Z h a C) (K : Keep h h' ws) : own_Ovr Z h' a C := by
  obtain ⟨cl, h1, h2⟩ := F
  obtain ⟨c', e1, e2, -⟩ := K.2.2 _ _ h1
  exact ⟨c', e1, by rw [e2]; exact h2⟩
theorem own_stR (X : Stand p l e R s m args below meth c T locs cells slots) (hx : p.tables.exec = Jvm.exec) (hZ : Z.Warmed39 s.vm) (eT : T.heap = h) {a : Addr} {C : String} {n : Nat} {f : Nat → Value} (A : own_Arf Z h a (.object C) n f) (O : own_Ovr Z h a C) {j : Int32} {v : Value} (I : v = .null ∨ ∃ y, v = .ref y ∧ Ins Z h y C true) (q : 0 ≤ j.toInt ∧ j.toInt < (n : Int)) {g : JFrame} (hg : g.method = m) {rest : List Value} (hs : g.stack = v :: .int j :: .ref a :: rest) (hd : decode c.code g.pc = .ok (.aastore, 1)) :
    ∃ T' h', Stand p l e R s m args below meth c T' (locs ++ [⟨a, j.toNatClampNeg⟩]) cells slots ∧ T'.heap = h' ∧ Wr h h' a j.toNatClampNeg v ∧ own_Arf Z h' a (.object C) n (fun k => if k = j.toNatClampNeg then v else f k) ∧ own_Ovr Z h' a C ∧ ∀ t, Steps p.tables e below (T'.setTop { g with pc := g.pc + 1, stack := rest }) t → Steps p.tables e below (T.setTop g) t := by
  obtain ⟨cl, A1, A2, A3⟩ := id A
  obtain ⟨cl2, o1, o2⟩ := id O
  cases A1.1.symm.trans o1
  have F : Sto Z h a v := by
    rcases I with rfl | ⟨y, rfl, I⟩
    · exact Or.inl rfl
    · exact Sto.of A1 o2 I
  obtain ⟨T', h', X', e', W, st⟩ := stR X hx hZ eT A1 (own_inb A2 q) rfl F hg hs hd
  exact ⟨T', h', X', e', W, own_Arf.set A W, O.wr W, st⟩
end OwnKit
def own_sum (F : Nat → Int) : Nat → Int
  | 0 => 0
  | n + 1 => own_sum F n + F n
def own_tot (F : Nat → Int) : Int := own_sum F 512 + 256 - (F 148 + F 149 + F 150 + F 151 + F 152 + F 153 + F 154 + F 155)
theorem own_sum_rng (F : Nat → Int) (hF : ∀ n, -128 ≤ F n ∧ F n ≤ 255) : ∀ n : Nat, -(128 * (n : Int)) ≤ own_sum F n ∧ own_sum F n ≤ 255 * (n : Int)
  | 0 => by simp [own_sum]
  | n + 1 => by
    have h1 := own_sum_rng F hF n
    have h2 := hF n
    show -(128 * ((n + 1 : Nat) : Int)) ≤ own_sum F n + F n ∧ own_sum F n + F n ≤ 255 * ((n + 1 : Nat) : Int)
    omega
theorem own_sum_ite (F : Nat → Int) (a : Nat) (x : Int) : ∀ n : Nat, own_sum (fun k => if k = a then x else F k) n = own_sum F n + (if a < n then x - F a else 0)
  | 0 => by simp [own_sum]
  | n + 1 => by
    have h1 := own_sum_ite F a x n
    show own_sum (fun k => if k = a then x else F k) n + (if n = a then x else F n) = own_sum F n + F n + (if a < n + 1 then x - F a else 0)
    rw [h1]
    by_cases q : n = a
    · subst q
      simp
      omega
    · by_cases r : a < n
      · rw [if_pos r, if_neg q, if_pos (by omega)]; omega
      · rw [if_neg r, if_neg q, if_neg (by omega)]; omega
theorem own_sum_zero : ∀ n : Nat, own_sum (fun _ => 0) n = 0
  | 0 => rfl
  | n + 1 => by show own_sum (fun _ => 0) n + 0 = 0; rw [own_sum_zero n]; rfl
theorem own_tot_eq {a b c : Nat} {x y z : Int} (ha : a < 148) (hb : 148 ≤ b) (hb' : b < 156) (hc : 156 ≤ c) (hc' : c < 512) : own_tot (fun k => if k = c then z else if k = b then y else if k = a then x else 0) = x + z + 256 := by
  unfold own_tot
  rw [own_sum_ite (fun k => if k = b then y else if k = a then x else 0) c z 512, own_sum_ite (fun k => if k = a then x else 0) b y 512, own_sum_ite (fun _ => 0) a x 512, own_sum_zero]
  have e : b = 148 ∨ b = 149 ∨ b = 150 ∨ b = 151 ∨ b = 152 ∨ b = 153 ∨ b = 154 ∨ b = 155 := by omega
  have c1 : ¬ c = b := by omega
  have c2 : ¬ c = a := by omega
  have c3 : ¬ b = a := by omega
  have d : ∀ n, 148 ≤ n → n < 156 → ¬ n = c ∧ ¬ n = a := fun n _ _ => by omega
  simp only [if_pos hc', if_pos (show b < 512 by omega), if_pos (show a < 512 by omega), if_neg c1, if_neg c2, if_neg c3]
  simp only [if_neg (d 148 (by decide) (by decide)).1, if_neg (d 149 (by decide) (by decide)).1, if_neg (d 150 (by decide) (by decide)).1, if_neg (d 151 (by decide) (by decide)).1, if_neg (d 152 (by decide) (by decide)).1, if_neg (d 153 (by decide) (by decide)).1, if_neg (d 154 (by decide) (by decide)).1, if_neg (d 155 (by decide) (by decide)).1, if_neg (d 148 (by decide) (by decide)).2, if_neg (d 149 (by decide) (by decide)).2, if_neg (d 150 (by decide) (by decide)).2, if_neg (d 151 (by decide) (by decide)).2, if_neg (d 152 (by decide) (by decide)).2, if_neg (d 153 (by decide) (by decide)).2, if_neg (d 154 (by decide) (by decide)).2, if_neg (d 155 (by decide) (by decide)).2]
  rcases e with rfl | rfl | rfl | rfl | rfl | rfl | rfl | rfl <;> simp <;> omega
theorem own_inc (j : Int32) (h : j.toInt < 2147483647) : (j + (1 : Int32)).toInt = j.toInt + 1 := by
  have h1 := c_iadd j 1
  have h2 := rng32 (j + 1)
  have h3 := rng32 j
  have h4 : (1 : Int32).toInt = 1 := by decide
  omega
theorem own_addJ (S : Int64) (x : Int32) (h : -4398046511104 ≤ S.toInt ∧ S.toInt ≤ 4398046511104) : (S + x.toInt64).toInt = S.toInt + x.toInt := by
  have h1 := c_ladd S x.toInt64
  have h2 := rng64 (S + x.toInt64)
  have h3 := c_i2l x
  have h4 := rng32 x
  omega
theorem own_v255 (x : Int32) : ((x &&& (255 : Int32)).toInt64).toInt = x.toInt % 256 := by
  rw [c_i2l]
  exact c_mask x 255 8 (by decide) (by decide)
theorem own_step (f : Nat → Int32) (hf : ∀ n, -128 ≤ (f n).toInt ∧ (f n).toInt ≤ 127) {j : Int32} {S : Int64} (hS : S.toInt = own_sum (fun n => (f n).toInt) j.toNatClampNeg) (h0 : 0 ≤ j.toInt) (h1 : j.toInt < 512) : (S + (f j.toNatClampNeg).toInt64).toInt = own_sum (fun n => (f n).toInt) (j + (1 : Int32)).toNatClampNeg := by
  have r := own_sum_rng (fun n => (f n).toInt) (fun n => by have := hf n; show -128 ≤ (f n).toInt ∧ (f n).toInt ≤ 255; omega) j.toNatClampNeg
  have e : (j + (1 : Int32)).toNatClampNeg = j.toNatClampNeg + 1 := by
    show (j + (1 : Int32)).toInt.toNat = j.toInt.toNat + 1
    rw [own_inc j (by omega)]; omega
  have e2 : (j.toNatClampNeg : Int) = j.toInt := by show (j.toInt.toNat : Int) = _; omega
  rw [e, own_addJ _ _ (by rw [hS]; omega), hS]
  rfl
theorem own_stepu (f : Nat → Int32) (hf : ∀ n, -128 ≤ (f n).toInt ∧ (f n).toInt ≤ 127) {j : Int32} {S : Int64} (hS : S.toInt = own_sum (fun n => (f n).toInt % 256) j.toNatClampNeg) (h0 : 0 ≤ j.toInt) (h1 : j.toInt < 512) : (S + (f j.toNatClampNeg &&& (255 : Int32)).toInt64).toInt = own_sum (fun n => (f n).toInt % 256) (j + (1 : Int32)).toNatClampNeg := by
  have r := own_sum_rng (fun n => (f n).toInt % 256) (fun n => by show -128 ≤ (f n).toInt % 256 ∧ (f n).toInt % 256 ≤ 255; omega) j.toNatClampNeg
  have e : (j + (1 : Int32)).toNatClampNeg = j.toNatClampNeg + 1 := by
    show (j + (1 : Int32)).toInt.toNat = j.toInt.toNat + 1
    rw [own_inc j (by omega)]; omega
  have e2 : (j.toNatClampNeg : Int) = j.toInt := by show (j.toInt.toNat : Int) = _; omega
  have e3 : (f j.toNatClampNeg &&& (255 : Int32)).toInt = (f j.toNatClampNeg).toInt % 256 := c_mask _ 255 8 (by decide) (by decide)
  rw [e, own_addJ _ _ (by rw [hS]; omega), hS, e3]
  rfl
theorem own_rngS (f : Nat → Int32) (hf : ∀ n, -128 ≤ (f n).toInt ∧ (f n).toInt ≤ 127) : -65536 ≤ own_sum (fun n => (f n).toInt) 512 ∧ own_sum (fun n => (f n).toInt) 512 ≤ 130560 := by
  have r := own_sum_rng (fun n => (f n).toInt) (fun n => by have := hf n; show -128 ≤ (f n).toInt ∧ (f n).toInt ≤ 255; omega) 512
  omega
theorem own_rngSu (f : Nat → Int32) (hf : ∀ n, -128 ≤ (f n).toInt ∧ (f n).toInt ≤ 127) : -65536 ≤ own_sum (fun n => (f n).toInt % 256) 512 ∧ own_sum (fun n => (f n).toInt % 256) 512 ≤ 130560 := by
  have r := own_sum_rng (fun n => (f n).toInt % 256) (fun n => by show -128 ≤ (f n).toInt % 256 ∧ (f n).toInt % 256 ≤ 255; omega) 512
  omega
theorem own_add32 (S : Int64) (f : Nat → Int32) (n : Nat) (hf : ∀ n, -128 ≤ (f n).toInt ∧ (f n).toInt ≤ 127) (h : -1000000000 ≤ S.toInt ∧ S.toInt ≤ 1000000000) : (S + ((32 : Int32) - f n).toInt64).toInt = S.toInt + 32 - (f n).toInt := by
  have h0 := hf n
  have h1 := c_isub 32 (f n)
  have h2 := rng32 ((32 : Int32) - f n)
  have h3 : (32 : Int32).toInt = 32 := by decide
  rw [own_addJ _ _ (by omega)]
  omega
theorem own_add32u (S : Int64) (f : Nat → Int32) (n : Nat) (hf : ∀ n, -128 ≤ (f n).toInt ∧ (f n).toInt ≤ 127) (h : -1000000000 ≤ S.toInt ∧ S.toInt ≤ 1000000000) : (S + ((32 : Int32) - (f n &&& (255 : Int32))).toInt64).toInt = S.toInt + 32 - (f n).toInt % 256 := by
  have e3 : (f n &&& (255 : Int32)).toInt = (f n).toInt % 256 := c_mask _ 255 8 (by decide) (by decide)
  have h1 := c_isub 32 (f n &&& (255 : Int32))
  have h2 := rng32 ((32 : Int32) - (f n &&& (255 : Int32)))
  have h3 : (32 : Int32).toInt = 32 := by decide
  rw [own_addJ _ _ (by omega)]
  omega
theorem own_pa (x : Int32) : 0 ≤ (((x.toUInt32 >>> ((1 : Int32) &&& 31).toUInt32).toInt32) % (148 : Int32)).toInt ∧ (((x.toUInt32 >>> ((1 : Int32) &&& 31).toUInt32).toInt32) % (148 : Int32)).toInt < 148 := by
  have h1 : (((x.toUInt32 >>> ((1 : Int32) &&& 31).toUInt32).toInt32)).toInt = (x.toInt % 4294967296) / 2 := c_iushr x 1 1 (by decide) (by decide)
  have h2 := (c_irem ((x.toUInt32 >>> ((1 : Int32) &&& 31).toUInt32).toInt32) 148 148 (by decide)).1 (by omega)
  omega
theorem own_pb (x : Int32) : 148 ≤ ((148 : Int32) + (x &&& (7 : Int32))).toInt ∧ ((148 : Int32) + (x &&& (7 : Int32))).toInt < 156 := by
  have h1 : (x &&& (7 : Int32)).toInt = x.toInt % 8 := c_mask x 7 3 (by decide) (by decide)
  have h2 := c_iadd 148 (x &&& (7 : Int32))
  have h3 := rng32 ((148 : Int32) + (x &&& (7 : Int32)))
  have h4 : (148 : Int32).toInt = 148 := by decide
  omega
theorem own_pq (x : Int32) : 156 ≤ ((156 : Int32) + ((x &&& (2147483647 : Int32)) % (356 : Int32))).toInt ∧ ((156 : Int32) + ((x &&& (2147483647 : Int32)) % (356 : Int32))).toInt < 512 := by
  have h1 : (x &&& (2147483647 : Int32)).toInt = x.toInt % 2147483648 := c_mask x 2147483647 31 (by decide) (by decide)
  have h2 := (c_irem (x &&& (2147483647 : Int32)) 356 356 (by decide)).1 (by omega)
  have h3 := c_iadd 156 ((x &&& (2147483647 : Int32)) % (356 : Int32))
  have h5 := rng32 ((156 : Int32) + ((x &&& (2147483647 : Int32)) % (356 : Int32)))
  have h4 : (156 : Int32).toInt = 156 := by decide
  omega
abbrev own_arr (a b c : Nat) (x y z : Int32) : Nat → Int32 := (fun k => if k = c then (nar .byte (z.toInt8.toInt32)) else (fun k => if k = b then (nar .byte (y.toInt8.toInt32)) else (fun k => if k = a then (nar .byte (x.toInt8.toInt32)) else (fun _ => (0 : Int32)) k) k) k)
theorem own_nb (x : Int32) : (nar .byte (x.toInt8.toInt32)).toInt = (x.toInt8.toInt32).toInt ∧ -128 ≤ (x.toInt8.toInt32).toInt ∧ (x.toInt8.toInt32).toInt ≤ 127 ∧ (x.toInt8.toInt32).toInt % 256 = x.toInt % 256 := by
  have h1 := c_i2b x
  have h2 := c_i2b x.toInt8.toInt32
  show (x.toInt8.toInt32).toInt8.toInt32.toInt = _ ∧ _
  omega
theorem own_rngs (a b c : Nat) (x y z : Int32) : ∀ n, -128 ≤ (own_arr a b c x y z n).toInt ∧ (own_arr a b c x y z n).toInt ≤ 127 := by
  intro n
  have hx := own_nb x
  have hy := own_nb y
  have hz := own_nb z
  have h0 : (0 : Int32).toInt = 0 := by decide
  show -128 ≤ (if n = c then (nar .byte (z.toInt8.toInt32)) else if n = b then (nar .byte (y.toInt8.toInt32)) else if n = a then (nar .byte (x.toInt8.toInt32)) else (0 : Int32)).toInt ∧ (if n = c then (nar .byte (z.toInt8.toInt32)) else if n = b then (nar .byte (y.toInt8.toInt32)) else if n = a then (nar .byte (x.toInt8.toInt32)) else (0 : Int32)).toInt ≤ 127
  split
  · omega
  · split
    · omega
    · split <;> omega
theorem own_arr_s (a b c : Nat) (x y z : Int32) : (fun n => (own_arr a b c x y z n).toInt) = fun k => if k = c then (z.toInt8.toInt32).toInt else if k = b then (y.toInt8.toInt32).toInt else if k = a then (x.toInt8.toInt32).toInt else 0 := by
  funext n
  have hx := own_nb x
  have hy := own_nb y
  have hz := own_nb z
  have h0 : (0 : Int32).toInt = 0 := by decide
  show (if n = c then (nar .byte (z.toInt8.toInt32)) else if n = b then (nar .byte (y.toInt8.toInt32)) else if n = a then (nar .byte (x.toInt8.toInt32)) else (0 : Int32)).toInt = _
  split
  · exact hz.1
  · split
    · exact hy.1
    · split
      · exact hx.1
      · exact h0
theorem own_arr_u (a b c : Nat) (x y z : Int32) : (fun n => (own_arr a b c x y z n).toInt % 256) = fun k => if k = c then z.toInt % 256 else if k = b then y.toInt % 256 else if k = a then x.toInt % 256 else 0 := by
  funext n
  have hx := own_nb x
  have hy := own_nb y
  have hz := own_nb z
  have h0 : (0 : Int32).toInt = 0 := by decide
  show (if n = c then (nar .byte (z.toInt8.toInt32)) else if n = b then (nar .byte (y.toInt8.toInt32)) else if n = a then (nar .byte (x.toInt8.toInt32)) else (0 : Int32)).toInt % 256 = _
  split
  · omega
  · split
    · omega
    · split <;> omega
theorem own_nat {j : Int32} (h : 0 ≤ j.toInt) : (j.toNatClampNeg : Int) = j.toInt := by show (j.toInt.toNat : Int) = _; omega
theorem own_add3 {r r1 r2 : Int64} (h1 : -256 ≤ r1.toInt ∧ r1.toInt ≤ 256) (h2 : -256 ≤ r2.toInt ∧ r2.toInt ≤ 256) (h : r.toInt = r1.toInt + r2.toInt + 256) : r = r1 + r2 + (256 : Int64) := by
  apply Int64.toInt_inj.mp
  have a1 := c_ladd r1 r2
  have a2 := rng64 (r1 + r2)
  have a3 := c_ladd (r1 + r2) 256
  have a4 := rng64 (r1 + r2 + 256)
  have a5 : (256 : Int64).toInt = 256 := by decide
  omega
theorem own_fins {pa pb pq x y z : Int32} {r r1 r2 : Int64} (ha : 0 ≤ pa.toInt ∧ pa.toInt < 148) (hb : 148 ≤ pb.toInt ∧ pb.toInt < 156) (hq : 156 ≤ pq.toInt ∧ pq.toInt < 512) (h : r.toInt = own_tot (fun n => (own_arr pa.toNatClampNeg pb.toNatClampNeg pq.toNatClampNeg x y z n).toInt)) (h1 : r1.toInt = (x.toInt8.toInt32).toInt) (h2 : r2.toInt = (z.toInt8.toInt32).toInt) : r = r1 + r2 + (256 : Int64) := by
  have a1 := own_nat ha.1
  have a2 := own_nat (show 0 ≤ pb.toInt by omega)
  have a3 := own_nat (show 0 ≤ pq.toInt by omega)
  have hx := own_nb x
  have hz := own_nb z
  rw [own_arr_s, own_tot_eq (by omega) (by omega) (by omega) (by omega) (by omega)] at h
  exact own_add3 (by omega) (by omega) (by omega)
theorem own_finu {pa pb pq x y z : Int32} {r r1 r2 : Int64} (ha : 0 ≤ pa.toInt ∧ pa.toInt < 148) (hb : 148 ≤ pb.toInt ∧ pb.toInt < 156) (hq : 156 ≤ pq.toInt ∧ pq.toInt < 512) (h : r.toInt = own_tot (fun n => (own_arr pa.toNatClampNeg pb.toNatClampNeg pq.toNatClampNeg x y z n).toInt % 256)) (h1 : r1.toInt = x.toInt % 256) (h2 : r2.toInt = z.toInt % 256) : r = r1 + r2 + (256 : Int64) := by
  have a1 := own_nat ha.1
  have a2 := own_nat (show 0 ≤ pb.toInt by omega)
  have a3 := own_nat (show 0 ≤ pq.toInt by omega)
  rw [own_arr_u, own_tot_eq (by omega) (by omega) (by omega) (by omega) (by omega)] at h
  exact own_add3 (by omega) (by omega) (by omega)
theorem own_pn0 : plainFor (⟨"com/example/tender_parcel/tenderparcel/TarHeader", "checksum", "([BZ)J"⟩ : MethodName) = true := by first | exact plainFor_of_name (by simp [plainName, overriddenIn]; done) | decide +kernel
theorem own_d1_0 : decode prog_104_method_2_code 0 = .ok (.lconst 0, 1) := by decide +kernel
theorem own_d1_1 : decode prog_104_method_2_code 1 = .ok (.lstore_n 2, 1) := by decide +kernel
theorem own_d1_2 : decode prog_104_method_2_code 2 = .ok (.iload_n 1, 1) := by decide +kernel
theorem own_d1_3 : decode prog_104_method_2_code 3 = .ok (.ifCond .eq 43, 3) := by decide +kernel
theorem own_d1_46 : decode prog_104_method_2_code 46 = .ok (.aload_n 0, 1) := by decide +kernel
theorem own_d1_47 : decode prog_104_method_2_code 47 = .ok (.astore 4, 2) := by decide +kernel
theorem own_d1_49 : decode prog_104_method_2_code 49 = .ok (.aload 4, 2) := by decide +kernel
theorem own_d1_51 : decode prog_104_method_2_code 51 = .ok (.arraylength, 1) := by decide +kernel
theorem own_d1_52 : decode prog_104_method_2_code 52 = .ok (.istore 5, 2) := by decide +kernel
theorem own_d1_54 : decode prog_104_method_2_code 54 = .ok (.iconst 0, 1) := by decide +kernel
theorem own_d1_55 : decode prog_104_method_2_code 55 = .ok (.istore 6, 2) := by decide +kernel
theorem own_d1_57 : decode prog_104_method_2_code 57 = .ok (.iload 6, 2) := by decide +kernel
theorem own_d1_59 : decode prog_104_method_2_code 59 = .ok (.iload 5, 2) := by decide +kernel
theorem own_d1_61 : decode prog_104_method_2_code 61 = .ok (.if_icmp .ge 26, 3) := by decide +kernel
theorem own_d1_87 : decode prog_104_method_2_code 87 = .ok (.sipush 148, 3) := by decide +kernel
theorem own_d1_90 : decode prog_104_method_2_code 90 = .ok (.istore 4, 2) := by decide +kernel
theorem own_d1_92 : decode prog_104_method_2_code 92 = .ok (.iload 4, 2) := by decide +kernel
theorem own_d1_94 : decode prog_104_method_2_code 94 = .ok (.sipush 156, 3) := by decide +kernel
theorem own_d1_97 : decode prog_104_method_2_code 97 = .ok (.if_icmp .ge 35, 3) := by decide +kernel
theorem own_d1_100 : decode prog_104_method_2_code 100 = .ok (.lload_n 2, 1) := by decide +kernel
theorem own_d1_101 : decode prog_104_method_2_code 101 = .ok (.bipush 32, 2) := by decide +kernel
theorem own_d1_103 : decode prog_104_method_2_code 103 = .ok (.iload_n 1, 1) := by decide +kernel
theorem own_d1_104 : decode prog_104_method_2_code 104 = .ok (.ifCond .eq 10, 3) := by decide +kernel
theorem own_d1_114 : decode prog_104_method_2_code 114 = .ok (.aload_n 0, 1) := by decide +kernel
theorem own_d1_115 : decode prog_104_method_2_code 115 = .ok (.iload 4, 2) := by decide +kernel
theorem own_d1_117 : decode prog_104_method_2_code 117 = .ok (.baload, 1) := by decide +kernel
theorem own_d1_118 : decode prog_104_method_2_code 118 = .ok (.sipush 255, 3) := by decide +kernel
theorem own_d1_121 : decode prog_104_method_2_code 121 = .ok (.iand, 1) := by decide +kernel
theorem own_d1_122 : decode prog_104_method_2_code 122 = .ok (.isub, 1) := by decide +kernel
theorem own_d1_123 : decode prog_104_method_2_code 123 = .ok (.i2l, 1) := by decide +kernel
theorem own_d1_124 : decode prog_104_method_2_code 124 = .ok (.ladd, 1) := by decide +kernel
theorem own_d1_125 : decode prog_104_method_2_code 125 = .ok (.lstore_n 2, 1) := by decide +kernel
theorem own_d1_126 : decode prog_104_method_2_code 126 = .ok (.iinc 4 1, 3) := by decide +kernel
theorem own_d1_129 : decode prog_104_method_2_code 129 = .ok (.goto (-37), 3) := by decide +kernel
theorem own_d1_132 : decode prog_104_method_2_code 132 = .ok (.lload_n 2, 1) := by decide +kernel
theorem own_d1_133 : decode prog_104_method_2_code 133 = .ok (.lreturn, 1) := by decide +kernel
theorem own_d1_64 : decode prog_104_method_2_code 64 = .ok (.aload 4, 2) := by decide +kernel
theorem own_d1_66 : decode prog_104_method_2_code 66 = .ok (.iload 6, 2) := by decide +kernel
theorem own_d1_68 : decode prog_104_method_2_code 68 = .ok (.baload, 1) := by decide +kernel
theorem own_d1_69 : decode prog_104_method_2_code 69 = .ok (.istore 7, 2) := by decide +kernel
theorem own_d1_71 : decode prog_104_method_2_code 71 = .ok (.lload_n 2, 1) := by decide +kernel
theorem own_d1_72 : decode prog_104_method_2_code 72 = .ok (.iload 7, 2) := by decide +kernel
theorem own_d1_74 : decode prog_104_method_2_code 74 = .ok (.sipush 255, 3) := by decide +kernel
theorem own_d1_77 : decode prog_104_method_2_code 77 = .ok (.iand, 1) := by decide +kernel
theorem own_d1_78 : decode prog_104_method_2_code 78 = .ok (.i2l, 1) := by decide +kernel
theorem own_d1_79 : decode prog_104_method_2_code 79 = .ok (.ladd, 1) := by decide +kernel
theorem own_d1_80 : decode prog_104_method_2_code 80 = .ok (.lstore_n 2, 1) := by decide +kernel
theorem own_d1_81 : decode prog_104_method_2_code 81 = .ok (.iinc 6 1, 3) := by decide +kernel
theorem own_d1_84 : decode prog_104_method_2_code 84 = .ok (.goto (-27), 3) := by decide +kernel
theorem own_d1_6 : decode prog_104_method_2_code 6 = .ok (.aload_n 0, 1) := by decide +kernel
theorem own_d1_7 : decode prog_104_method_2_code 7 = .ok (.astore 4, 2) := by decide +kernel
theorem own_d1_9 : decode prog_104_method_2_code 9 = .ok (.aload 4, 2) := by decide +kernel
theorem own_d1_11 : decode prog_104_method_2_code 11 = .ok (.arraylength, 1) := by decide +kernel
theorem own_d1_12 : decode prog_104_method_2_code 12 = .ok (.istore 5, 2) := by decide +kernel
theorem own_d1_14 : decode prog_104_method_2_code 14 = .ok (.iconst 0, 1) := by decide +kernel
theorem own_d1_15 : decode prog_104_method_2_code 15 = .ok (.istore 6, 2) := by decide +kernel
theorem own_d1_17 : decode prog_104_method_2_code 17 = .ok (.iload 6, 2) := by decide +kernel
theorem own_d1_19 : decode prog_104_method_2_code 19 = .ok (.iload 5, 2) := by decide +kernel
theorem own_d1_21 : decode prog_104_method_2_code 21 = .ok (.if_icmp .ge 22, 3) := by decide +kernel
theorem own_d1_43 : decode prog_104_method_2_code 43 = .ok (.goto 44, 3) := by decide +kernel
theorem own_d1_107 : decode prog_104_method_2_code 107 = .ok (.aload_n 0, 1) := by decide +kernel
theorem own_d1_108 : decode prog_104_method_2_code 108 = .ok (.iload 4, 2) := by decide +kernel
theorem own_d1_110 : decode prog_104_method_2_code 110 = .ok (.baload, 1) := by decide +kernel
theorem own_d1_111 : decode prog_104_method_2_code 111 = .ok (.goto 11, 3) := by decide +kernel
theorem own_d1_24 : decode prog_104_method_2_code 24 = .ok (.aload 4, 2) := by decide +kernel
theorem own_d1_26 : decode prog_104_method_2_code 26 = .ok (.iload 6, 2) := by decide +kernel
theorem own_d1_28 : decode prog_104_method_2_code 28 = .ok (.baload, 1) := by decide +kernel
theorem own_d1_29 : decode prog_104_method_2_code 29 = .ok (.istore 7, 2) := by decide +kernel
theorem own_d1_31 : decode prog_104_method_2_code 31 = .ok (.lload_n 2, 1) := by decide +kernel
theorem own_d1_32 : decode prog_104_method_2_code 32 = .ok (.iload 7, 2) := by decide +kernel
theorem own_d1_34 : decode prog_104_method_2_code 34 = .ok (.i2l, 1) := by decide +kernel
theorem own_d1_35 : decode prog_104_method_2_code 35 = .ok (.ladd, 1) := by decide +kernel
theorem own_d1_36 : decode prog_104_method_2_code 36 = .ok (.lstore_n 2, 1) := by decide +kernel
theorem own_d1_37 : decode prog_104_method_2_code 37 = .ok (.iinc 6 1, 3) := by decide +kernel
theorem own_d1_40 : decode prog_104_method_2_code 40 = .ok (.goto (-23), 3) := by decide +kernel
theorem own_ef_rmC (m : MethodId) (a1 : Nat) (p1 : Int32) : entryFrame m #[(.ref a1), (.int p1)] 8 = mkF m 0 #[rv a1, iv p1, .unset, .unset, .unset, .unset, .unset, .unset] [] := by first | (simp [entryFrame, mkF, argsToLocals, Value.category, maxLocals]; done) | rfl
abbrev own_Q_rmC (Z : State) (a1 : Nat) (p1 : Int32) (f : Nat → Int32) (h0 : Heap) (n0 : Nat) (v : Option Value) (h : Heap) (L : List Loc) : Prop := ∃ r : Int64, v = some (.long r) ∧ (¬ p1.toInt = 0 → r.toInt = own_tot (fun n => (f n).toInt)) ∧ (p1.toInt = 0 → r.toInt = own_tot (fun n => (f n).toInt % 256)) ∧ Fr n0 L ∧ h = h0
set_option maxRecDepth 65536 in
set_option maxHeartbeats 40000000 in
theorem rmC (l : Launch) (Z : State) (a0 : Array Value) (hw : ∀ d ∈ tables_1, d.before a0 Z = true) (ws : List Jvm.Cond) (a1 : Nat) (p1 : Int32) (f : Nat → Int32) (h0 : Heap) (n0 : Nat) (Z0 : n0 ≤ h0.size) (V1 : own_Arf Z h0 a1 .byte 512 (fun k => .int (f k))) (hf : ∀ n, -128 ≤ (f n).toInt ∧ (f n).toInt ≤ 127) :
    MetFree l (⟨"com/example/tender_parcel/tenderparcel/TarHeader", "checksum", "([BZ)J"⟩ : MethodName) (head1 (Jvm.Cond.code (⟨"com/example/tender_parcel/tenderparcel/TarHeader", "checksum", "([BZ)J"⟩ : MethodName) prog_104_method_2_code 8 (some .long) :: ws) ({ frames := 0, cells := 0, slots := 0, locals := 0 } : Room)) (fun a U => a = #[(.ref a1), (.int p1)] ∧ Z.Warmed39 U.vm ∧ U.heap = h0) (fun _ _ _ _ _ => True) (fun _ U o U' => ∃ v L, o = .returned v ∧ own_Q_rmC Z a1 p1 f h0 n0 v U'.heap L ∧ FrameEnd U o U' L ({ frames := 0, cells := 0, slots := 0, locals := 0 } : Room).cells ({ frames := 0, cells := 0, slots := 0, locals := 0 } : Room).slots) := by
  refine own_enter (Q := fun v h L => own_Q_rmC Z a1 p1 f h0 n0 v h L) (F := fun m => mkF m 0 #[rv a1, iv p1, .unset, .unset, .unset, .unset, .unset, .unset] []) own_pn0 (fun m => own_ef_rmC m a1 p1) ?_
  intro p e s m below meth c T X hx hby hml hret hlk hnm hown hZ e0
  show own_Goes p e below s _ _ (T.setTop (mkF m 0 #[rv a1, iv p1, .unset, .unset, .unset, .unset, .unset, .unset] []))
  have N0 := Fr.nil n0
  refine own_st (fun _ k => XS.lconst X.here hx rfl (hb hby own_d1_0) k) ?_
  show own_Goes p e below s _ _ (T.setTop (mkF m 1 #[rv a1, iv p1, .unset, .unset, .unset, .unset, .unset, .unset] [(.long (0 : Int64))]))
  refine own_st (fun _ k => XS.lstoreN X.here hx rfl (hb hby own_d1_1) rfl (l' := #[rv a1, iv p1, own_jv (0 : Int64), .second, .unset, .unset, .unset, .unset]) rfl k) ?_
  show own_Goes p e below s _ _ (T.setTop (mkF m 2 #[rv a1, iv p1, own_jv (0 : Int64), .second, .unset, .unset, .unset, .unset] []))
  refine own_st (fun _ k => XS.iloadN X.here hx rfl (hb hby own_d1_2) rfl  k) ?_
  show own_Goes p e below s _ _ (T.setTop (mkF m 3 #[rv a1, iv p1, own_jv (0 : Int64), .second, .unset, .unset, .unset, .unset] [(.int p1)]))
  by_cases c101 : p1 = (0 : Int32)
  · have c101i : p1.toInt = 0 := own_i_eq c101
    refine own_st (fun _ k => XS.ifYes X.here hx rfl (pc0 := 3) (pc' := 46) rfl (hb hby own_d1_3) rfl ((if0 _ _).trans (teq c101).1) (by decide) (by decide) k) ?_
    show own_Goes p e below s _ _ (T.setTop (mkF m 46 #[rv a1, iv p1, own_jv (0 : Int64), .second, .unset, .unset, .unset, .unset] []))
    refine own_st (fun _ k => XS.aloadN X.here hx rfl (hb hby own_d1_46) rfl rfl  k) ?_
    show own_Goes p e below s _ _ (T.setTop (mkF m 47 #[rv a1, iv p1, own_jv (0 : Int64), .second, .unset, .unset, .unset, .unset] [(.ref a1)]))
    refine own_st (fun _ k => XS.astore X.here hx rfl (hb hby own_d1_47) rfl rfl (l' := #[rv a1, iv p1, own_jv (0 : Int64), .second, rv a1, .unset, .unset, .unset]) rfl k) ?_
    show own_Goes p e below s _ _ (T.setTop (mkF m 49 #[rv a1, iv p1, own_jv (0 : Int64), .second, rv a1, .unset, .unset, .unset] []))
    refine own_st (fun _ k => XS.aload X.here hx rfl (hb hby own_d1_49) rfl rfl  k) ?_
    show own_Goes p e below s _ _ (T.setTop (mkF m 51 #[rv a1, iv p1, own_jv (0 : Int64), .second, rv a1, .unset, .unset, .unset] [(.ref a1)]))
    refine own_st (fun _ k => own_len X hx hZ e0 V1 (g := (mkF m 51 #[rv a1, iv p1, own_jv (0 : Int64), .second, rv a1, .unset, .unset, .unset] [(.ref a1)])) rfl rfl (hb hby own_d1_51) _ k) ?_
    show own_Goes p e below s _ _ (T.setTop (mkF m 52 #[rv a1, iv p1, own_jv (0 : Int64), .second, rv a1, .unset, .unset, .unset] [(.int (512 : Int32))]))
    refine own_st (fun _ k => XS.istore X.here hx rfl (hb hby own_d1_52) rfl (l' := #[rv a1, iv p1, own_jv (0 : Int64), .second, rv a1, iv (512 : Int32), .unset, .unset]) rfl k) ?_
    show own_Goes p e below s _ _ (T.setTop (mkF m 54 #[rv a1, iv p1, own_jv (0 : Int64), .second, rv a1, iv (512 : Int32), .unset, .unset] []))
    refine own_st (fun _ k => XS.iconst X.here hx rfl (hb hby own_d1_54) k) ?_
    show own_Goes p e below s _ _ (T.setTop (mkF m 55 #[rv a1, iv p1, own_jv (0 : Int64), .second, rv a1, iv (512 : Int32), .unset, .unset] [(.int (0 : Int32))]))
    refine own_st (fun _ k => XS.istore X.here hx rfl (hb hby own_d1_55) rfl (l' := #[rv a1, iv p1, own_jv (0 : Int64), .second, rv a1, iv (512 : Int32), iv (0 : Int32), .unset]) rfl k) ?_
    show own_Goes p e below s _ _ (T.setTop (mkF m 57 #[rv a1, iv p1, own_jv (0 : Int64), .second, rv a1, iv (512 : Int32), iv (0 : Int32), .unset] []))
    have lp57 : ∀ (k : Nat) (j : Int32) (S : Int64) (sl : Slot), j.toInt + k = 512 → 0 ≤ j.toInt → S.toInt = own_sum (fun n => (f n).toInt % 256) j.toNatClampNeg → One sl → own_Goes p e below s ({ frames := 0, cells := 0, slots := 0, locals := 0 } : Room) (fun v h L => own_Q_rmC Z a1 p1 f h0 n0 v h L) (T.setTop (mkF m 57 #[rv a1, iv p1, own_jv S, .second, rv a1, iv (512 : Int32), iv j, sl] [])) := by
      intro k
      induction k with
      | zero =>
        intro j S sl hk hj0 hS hO
        have hS2 : S.toInt = own_sum (fun n => (f n).toInt % 256) 512 := by rw [hS]; congr 1; show j.toInt.toNat = 512; omega
        have hrng := own_rngSu f hf
        have hf148 := hf 148
        have hf149 := hf 149
        have hf150 := hf 150
        have hf151 := hf 151
        have hf152 := hf 152
        have hf153 := hf 153
        have hf154 := hf 154
        have hf155 := hf 155
        refine own_st (fun _ k => XS.iload X.here hx rfl (hb hby own_d1_57) rfl  k) ?_
        show own_Goes p e below s _ _ (T.setTop (mkF m 59 #[rv a1, iv p1, own_jv S, .second, rv a1, iv (512 : Int32), iv j, sl] [(.int j)]))
        refine own_st (fun _ k => XS.iload X.here hx rfl (hb hby own_d1_59) rfl  k) ?_
        show own_Goes p e below s _ _ (T.setTop (mkF m 61 #[rv a1, iv p1, own_jv S, .second, rv a1, iv (512 : Int32), iv j, sl] [(.int (512 : Int32)), (.int j)]))
        by_cases c102 : j < (512 : Int32)
        · have c102i : j.toInt < 512 := own_i_lt c102
          exfalso; omega
        · have c102i : 512 ≤ j.toInt := own_i_nlt c102
          refine own_st (fun _ k => XS.icmpYes X.here hx rfl (pc0 := 61) (pc' := 87) rfl (hb hby own_d1_61) rfl (flt c102).2.1 (by decide) (by decide) k) ?_
          show own_Goes p e below s _ _ (T.setTop (mkF m 87 #[rv a1, iv p1, own_jv S, .second, rv a1, iv (512 : Int32), iv j, sl] []))
          refine own_st (fun _ k => XS.sipush X.here hx rfl (hb hby own_d1_87) k) ?_
          show own_Goes p e below s _ _ (T.setTop (mkF m 90 #[rv a1, iv p1, own_jv S, .second, rv a1, iv (512 : Int32), iv j, sl] [(.int (148 : Int32))]))
          refine own_st (fun _ k => XS.istore X.here hx rfl (hb hby own_d1_90) rfl (l' := #[rv a1, iv p1, own_jv S, .second, iv (148 : Int32), iv (512 : Int32), iv j, sl]) rfl k) ?_
          show own_Goes p e below s _ _ (T.setTop (mkF m 92 #[rv a1, iv p1, own_jv S, .second, iv (148 : Int32), iv (512 : Int32), iv j, sl] []))
          refine own_st (fun _ k => XS.iload X.here hx rfl (hb hby own_d1_92) rfl  k) ?_
          show own_Goes p e below s _ _ (T.setTop (mkF m 94 #[rv a1, iv p1, own_jv S, .second, iv (148 : Int32), iv (512 : Int32), iv j, sl] [(.int (148 : Int32))]))
          refine own_st (fun _ k => XS.sipush X.here hx rfl (hb hby own_d1_94) k) ?_
          show own_Goes p e below s _ _ (T.setTop (mkF m 97 #[rv a1, iv p1, own_jv S, .second, iv (148 : Int32), iv (512 : Int32), iv j, sl] [(.int (156 : Int32)), (.int (148 : Int32))]))
          refine own_st (fun _ k => XS.icmpNo X.here hx rfl (hb hby own_d1_97) rfl (tlt (by decide : (148 : Int32) < (156 : Int32))).2.1 k) ?_
          show own_Goes p e below s _ _ (T.setTop (mkF m 100 #[rv a1, iv p1, own_jv S, .second, iv (148 : Int32), iv (512 : Int32), iv j, sl] []))
          refine own_st (fun _ k => XS.lloadN X.here hx rfl (hb hby own_d1_100) rfl  k) ?_
          show own_Goes p e below s _ _ (T.setTop (mkF m 101 #[rv a1, iv p1, own_jv S, .second, iv (148 : Int32), iv (512 : Int32), iv j, sl] [(.long S)]))
          refine own_st (fun _ k => XS.bipush X.here hx rfl (hb hby own_d1_101) k) ?_
          show own_Goes p e below s _ _ (T.setTop (mkF m 103 #[rv a1, iv p1, own_jv S, .second, iv (148 : Int32), iv (512 : Int32), iv j, sl] [(.int (32 : Int32)), (.long S)]))
          refine own_st (fun _ k => XS.iloadN X.here hx rfl (hb hby own_d1_103) rfl  k) ?_
          show own_Goes p e below s _ _ (T.setTop (mkF m 104 #[rv a1, iv p1, own_jv S, .second, iv (148 : Int32), iv (512 : Int32), iv j, sl] [(.int p1), (.int (32 : Int32)), (.long S)]))
          refine own_st (fun _ k => XS.ifYes X.here hx rfl (pc0 := 104) (pc' := 114) rfl (hb hby own_d1_104) rfl ((if0 _ _).trans (teq c101).1) (by decide) (by decide) k) ?_
          show own_Goes p e below s _ _ (T.setTop (mkF m 114 #[rv a1, iv p1, own_jv S, .second, iv (148 : Int32), iv (512 : Int32), iv j, sl] [(.int (32 : Int32)), (.long S)]))
          refine own_st (fun _ k => XS.aloadN X.here hx rfl (hb hby own_d1_114) rfl rfl  k) ?_
          show own_Goes p e below s _ _ (T.setTop (mkF m 115 #[rv a1, iv p1, own_jv S, .second, iv (148 : Int32), iv (512 : Int32), iv j, sl] [(.ref a1), (.int (32 : Int32)), (.long S)]))
          refine own_st (fun _ k => XS.iload X.here hx rfl (hb hby own_d1_115) rfl  k) ?_
          show own_Goes p e below s _ _ (T.setTop (mkF m 117 #[rv a1, iv p1, own_jv S, .second, iv (148 : Int32), iv (512 : Int32), iv j, sl] [(.int (148 : Int32)), (.ref a1), (.int (32 : Int32)), (.long S)]))
          refine own_st (fun _ k => own_ldB X hx hZ e0 V1 (j := (148 : Int32)) (by decide) (g := (mkF m 117 #[rv a1, iv p1, own_jv S, .second, iv (148 : Int32), iv (512 : Int32), iv j, sl] [(.int (148 : Int32)), (.ref a1), (.int (32 : Int32)), (.long S)])) rfl rfl (hb hby own_d1_117) _ k) ?_
          show own_Goes p e below s _ _ (T.setTop (mkF m 118 #[rv a1, iv p1, own_jv S, .second, iv (148 : Int32), iv (512 : Int32), iv j, sl] [(.int (f 148)), (.int (32 : Int32)), (.long S)]))
          refine own_st (fun _ k => XS.sipush X.here hx rfl (hb hby own_d1_118) k) ?_
          show own_Goes p e below s _ _ (T.setTop (mkF m 121 #[rv a1, iv p1, own_jv S, .second, iv (148 : Int32), iv (512 : Int32), iv j, sl] [(.int (255 : Int32)), (.int (f 148)), (.int (32 : Int32)), (.long S)]))
          refine own_st (fun _ k => XS.iand X.here hx rfl (hb hby own_d1_121) rfl k) ?_
          show own_Goes p e below s _ _ (T.setTop (mkF m 122 #[rv a1, iv p1, own_jv S, .second, iv (148 : Int32), iv (512 : Int32), iv j, sl] [(.int ((f 148) &&& (255 : Int32))), (.int (32 : Int32)), (.long S)]))
          refine own_st (fun _ k => XS.isub X.here hx rfl (hb hby own_d1_122) rfl k) ?_
          show own_Goes p e below s _ _ (T.setTop (mkF m 123 #[rv a1, iv p1, own_jv S, .second, iv (148 : Int32), iv (512 : Int32), iv j, sl] [(.int ((32 : Int32) - ((f 148) &&& (255 : Int32)))), (.long S)]))
          refine own_st (fun _ k => XS.i2l X.here hx rfl (hb hby own_d1_123) rfl k) ?_
          show own_Goes p e below s _ _ (T.setTop (mkF m 124 #[rv a1, iv p1, own_jv S, .second, iv (148 : Int32), iv (512 : Int32), iv j, sl] [(.long (((32 : Int32) - ((f 148) &&& (255 : Int32))).toInt64)), (.long S)]))
          refine own_st (fun _ k => XS.ladd X.here hx rfl (hb hby own_d1_124) rfl k) ?_
          show own_Goes p e below s _ _ (T.setTop (mkF m 125 #[rv a1, iv p1, own_jv S, .second, iv (148 : Int32), iv (512 : Int32), iv j, sl] [(.long (S + (((32 : Int32) - ((f 148) &&& (255 : Int32))).toInt64)))]))
          refine own_st (fun _ k => XS.lstoreN X.here hx rfl (hb hby own_d1_125) rfl (l' := #[rv a1, iv p1, own_jv (S + (((32 : Int32) - ((f 148) &&& (255 : Int32))).toInt64)), .second, iv (148 : Int32), iv (512 : Int32), iv j, sl]) rfl k) ?_
          show own_Goes p e below s _ _ (T.setTop (mkF m 126 #[rv a1, iv p1, own_jv (S + (((32 : Int32) - ((f 148) &&& (255 : Int32))).toInt64)), .second, iv (148 : Int32), iv (512 : Int32), iv j, sl] []))
          refine own_st (fun _ k => XS.iinc X.here hx rfl (hb hby own_d1_126) rfl (l' := #[rv a1, iv p1, own_jv (S + (((32 : Int32) - ((f 148) &&& (255 : Int32))).toInt64)), .second, iv (149 : Int32), iv (512 : Int32), iv j, sl]) rfl k) ?_
          show own_Goes p e below s _ _ (T.setTop (mkF m 129 #[rv a1, iv p1, own_jv (S + (((32 : Int32) - ((f 148) &&& (255 : Int32))).toInt64)), .second, iv (149 : Int32), iv (512 : Int32), iv j, sl] []))
          refine own_st (fun _ k => XS.goto X.here hx rfl (pc0 := 129) (pc' := 92) rfl (hb hby own_d1_129) (by decide) (by decide) k) ?_
          show own_Goes p e below s _ _ (T.setTop (mkF m 92 #[rv a1, iv p1, own_jv (S + (((32 : Int32) - ((f 148) &&& (255 : Int32))).toInt64)), .second, iv (149 : Int32), iv (512 : Int32), iv j, sl] []))
          have hS149 := own_add32u S f 148 hf (by omega)
          generalize (S + (((32 : Int32) - ((f 148) &&& (255 : Int32))).toInt64)) = S149 at hS149 ⊢
          show own_Goes p e below s _ _ (T.setTop (mkF m 92 #[rv a1, iv p1, own_jv S149, .second, iv (149 : Int32), iv (512 : Int32), iv j, sl] []))
          refine own_st (fun _ k => XS.iload X.here hx rfl (hb hby own_d1_92) rfl  k) ?_
          show own_Goes p e below s _ _ (T.setTop (mkF m 94 #[rv a1, iv p1, own_jv S149, .second, iv (149 : Int32), iv (512 : Int32), iv j, sl] [(.int (149 : Int32))]))
          refine own_st (fun _ k => XS.sipush X.here hx rfl (hb hby own_d1_94) k) ?_
          show own_Goes p e below s _ _ (T.setTop (mkF m 97 #[rv a1, iv p1, own_jv S149, .second, iv (149 : Int32), iv (512 : Int32), iv j, sl] [(.int (156 : Int32)), (.int (149 : Int32))]))
          refine own_st (fun _ k => XS.icmpNo X.here hx rfl (hb hby own_d1_97) rfl (tlt (by decide : (149 : Int32) < (156 : Int32))).2.1 k) ?_
          show own_Goes p e below s _ _ (T.setTop (mkF m 100 #[rv a1, iv p1, own_jv S149, .second, iv (149 : Int32), iv (512 : Int32), iv j, sl] []))
          refine own_st (fun _ k => XS.lloadN X.here hx rfl (hb hby own_d1_100) rfl  k) ?_
          show own_Goes p e below s _ _ (T.setTop (mkF m 101 #[rv a1, iv p1, own_jv S149, .second, iv (149 : Int32), iv (512 : Int32), iv j, sl] [(.long S149)]))
          refine own_st (fun _ k => XS.bipush X.here hx rfl (hb hby own_d1_101) k) ?_
          show own_Goes p e below s _ _ (T.setTop (mkF m 103 #[rv a1, iv p1, own_jv S149, .second, iv (149 : Int32), iv (512 : Int32), iv j, sl] [(.int (32 : Int32)), (.long S149)]))
          refine own_st (fun _ k => XS.iloadN X.here hx rfl (hb hby own_d1_103) rfl  k) ?_
          show own_Goes p e below s _ _ (T.setTop (mkF m 104 #[rv a1, iv p1, own_jv S149, .second, iv (149 : Int32), iv (512 : Int32), iv j, sl] [(.int p1), (.int (32 : Int32)), (.long S149)]))
          refine own_st (fun _ k => XS.ifYes X.here hx rfl (pc0 := 104) (pc' := 114) rfl (hb hby own_d1_104) rfl ((if0 _ _).trans (teq c101).1) (by decide) (by decide) k) ?_
          show own_Goes p e below s _ _ (T.setTop (mkF m 114 #[rv a1, iv p1, own_jv S149, .second, iv (149 : Int32), iv (512 : Int32), iv j, sl] [(.int (32 : Int32)), (.long S149)]))
          refine own_st (fun _ k => XS.aloadN X.here hx rfl (hb hby own_d1_114) rfl rfl  k) ?_
          show own_Goes p e below s _ _ (T.setTop (mkF m 115 #[rv a1, iv p1, own_jv S149, .second, iv (149 : Int32), iv (512 : Int32), iv j, sl] [(.ref a1), (.int (32 : Int32)), (.long S149)]))
          refine own_st (fun _ k => XS.iload X.here hx rfl (hb hby own_d1_115) rfl  k) ?_
          show own_Goes p e below s _ _ (T.setTop (mkF m 117 #[rv a1, iv p1, own_jv S149, .second, iv (149 : Int32), iv (512 : Int32), iv j, sl] [(.int (149 : Int32)), (.ref a1), (.int (32 : Int32)), (.long S149)]))
          refine own_st (fun _ k => own_ldB X hx hZ e0 V1 (j := (149 : Int32)) (by decide) (g := (mkF m 117 #[rv a1, iv p1, own_jv S149, .second, iv (149 : Int32), iv (512 : Int32), iv j, sl] [(.int (149 : Int32)), (.ref a1), (.int (32 : Int32)), (.long S149)])) rfl rfl (hb hby own_d1_117) _ k) ?_
          show own_Goes p e below s _ _ (T.setTop (mkF m 118 #[rv a1, iv p1, own_jv S149, .second, iv (149 : Int32), iv (512 : Int32), iv j, sl] [(.int (f 149)), (.int (32 : Int32)), (.long S149)]))
          refine own_st (fun _ k => XS.sipush X.here hx rfl (hb hby own_d1_118) k) ?_
          show own_Goes p e below s _ _ (T.setTop (mkF m 121 #[rv a1, iv p1, own_jv S149, .second, iv (149 : Int32), iv (512 : Int32), iv j, sl] [(.int (255 : Int32)), (.int (f 149)), (.int (32 : Int32)), (.long S149)]))
          refine own_st (fun _ k => XS.iand X.here hx rfl (hb hby own_d1_121) rfl k) ?_
          show own_Goes p e below s _ _ (T.setTop (mkF m 122 #[rv a1, iv p1, own_jv S149, .second, iv (149 : Int32), iv (512 : Int32), iv j, sl] [(.int ((f 149) &&& (255 : Int32))), (.int (32 : Int32)), (.long S149)]))
          refine own_st (fun _ k => XS.isub X.here hx rfl (hb hby own_d1_122) rfl k) ?_
          show own_Goes p e below s _ _ (T.setTop (mkF m 123 #[rv a1, iv p1, own_jv S149, .second, iv (149 : Int32), iv (512 : Int32), iv j, sl] [(.int ((32 : Int32) - ((f 149) &&& (255 : Int32)))), (.long S149)]))
          refine own_st (fun _ k => XS.i2l X.here hx rfl (hb hby own_d1_123) rfl k) ?_
          show own_Goes p e below s _ _ (T.setTop (mkF m 124 #[rv a1, iv p1, own_jv S149, .second, iv (149 : Int32), iv (512 : Int32), iv j, sl] [(.long (((32 : Int32) - ((f 149) &&& (255 : Int32))).toInt64)), (.long S149)]))
          refine own_st (fun _ k => XS.ladd X.here hx rfl (hb hby own_d1_124) rfl k) ?_
          show own_Goes p e below s _ _ (T.setTop (mkF m 125 #[rv a1, iv p1, own_jv S149, .second, iv (149 : Int32), iv (512 : Int32), iv j, sl] [(.long (S149 + (((32 : Int32) - ((f 149) &&& (255 : Int32))).toInt64)))]))
          refine own_st (fun _ k => XS.lstoreN X.here hx rfl (hb hby own_d1_125) rfl (l' := #[rv a1, iv p1, own_jv (S149 + (((32 : Int32) - ((f 149) &&& (255 : Int32))).toInt64)), .second, iv (149 : Int32), iv (512 : Int32), iv j, sl]) rfl k) ?_
          show own_Goes p e below s _ _ (T.setTop (mkF m 126 #[rv a1, iv p1, own_jv (S149 + (((32 : Int32) - ((f 149) &&& (255 : Int32))).toInt64)), .second, iv (149 : Int32), iv (512 : Int32), iv j, sl] []))
          refine own_st (fun _ k => XS.iinc X.here hx rfl (hb hby own_d1_126) rfl (l' := #[rv a1, iv p1, own_jv (S149 + (((32 : Int32) - ((f 149) &&& (255 : Int32))).toInt64)), .second, iv (150 : Int32), iv (512 : Int32), iv j, sl]) rfl k) ?_
          show own_Goes p e below s _ _ (T.setTop (mkF m 129 #[rv a1, iv p1, own_jv (S149 + (((32 : Int32) - ((f 149) &&& (255 : Int32))).toInt64)), .second, iv (150 : Int32), iv (512 : Int32), iv j, sl] []))
          refine own_st (fun _ k => XS.goto X.here hx rfl (pc0 := 129) (pc' := 92) rfl (hb hby own_d1_129) (by decide) (by decide) k) ?_
          show own_Goes p e below s _ _ (T.setTop (mkF m 92 #[rv a1, iv p1, own_jv (S149 + (((32 : Int32) - ((f 149) &&& (255 : Int32))).toInt64)), .second, iv (150 : Int32), iv (512 : Int32), iv j, sl] []))
          have hS150 := own_add32u S149 f 149 hf (by omega)
          generalize (S149 + (((32 : Int32) - ((f 149) &&& (255 : Int32))).toInt64)) = S150 at hS150 ⊢
          show own_Goes p e below s _ _ (T.setTop (mkF m 92 #[rv a1, iv p1, own_jv S150, .second, iv (150 : Int32), iv (512 : Int32), iv j, sl] []))
          refine own_st (fun _ k => XS.iload X.here hx rfl (hb hby own_d1_92) rfl  k) ?_
          show own_Goes p e below s _ _ (T.setTop (mkF m 94 #[rv a1, iv p1, own_jv S150, .second, iv (150 : Int32), iv (512 : Int32), iv j, sl] [(.int (150 : Int32))]))
          refine own_st (fun _ k => XS.sipush X.here hx rfl (hb hby own_d1_94) k) ?_
          show own_Goes p e below s _ _ (T.setTop (mkF m 97 #[rv a1, iv p1, own_jv S150, .second, iv (150 : Int32), iv (512 : Int32), iv j, sl] [(.int (156 : Int32)), (.int (150 : Int32))]))
          refine own_st (fun _ k => XS.icmpNo X.here hx rfl (hb hby own_d1_97) rfl (tlt (by decide : (150 : Int32) < (156 : Int32))).2.1 k) ?_
          show own_Goes p e below s _ _ (T.setTop (mkF m 100 #[rv a1, iv p1, own_jv S150, .second, iv (150 : Int32), iv (512 : Int32), iv j, sl] []))
          refine own_st (fun _ k => XS.lloadN X.here hx rfl (hb hby own_d1_100) rfl  k) ?_
          show own_Goes p e below s _ _ (T.setTop (mkF m 101 #[rv a1, iv p1, own_jv S150, .second, iv (150 : Int32), iv (512 : Int32), iv j, sl] [(.long S150)]))
          refine own_st (fun _ k => XS.bipush X.here hx rfl (hb hby own_d1_101) k) ?_
          show own_Goes p e below s _ _ (T.setTop (mkF m 103 #[rv a1, iv p1, own_jv S150, .second, iv (150 : Int32), iv (512 : Int32), iv j, sl] [(.int (32 : Int32)), (.long S150)]))
          refine own_st (fun _ k => XS.iloadN X.here hx rfl (hb hby own_d1_103) rfl  k) ?_
          show own_Goes p e below s _ _ (T.setTop (mkF m 104 #[rv a1, iv p1, own_jv S150, .second, iv (150 : Int32), iv (512 : Int32), iv j, sl] [(.int p1), (.int (32 : Int32)), (.long S150)]))
          refine own_st (fun _ k => XS.ifYes X.here hx rfl (pc0 := 104) (pc' := 114) rfl (hb hby own_d1_104) rfl ((if0 _ _).trans (teq c101).1) (by decide) (by decide) k) ?_
          show own_Goes p e below s _ _ (T.setTop (mkF m 114 #[rv a1, iv p1, own_jv S150, .second, iv (150 : Int32), iv (512 : Int32), iv j, sl] [(.int (32 : Int32)), (.long S150)]))
          refine own_st (fun _ k => XS.aloadN X.here hx rfl (hb hby own_d1_114) rfl rfl  k) ?_
          show own_Goes p e below s _ _ (T.setTop (mkF m 115 #[rv a1, iv p1, own_jv S150, .second, iv (150 : Int32), iv (512 : Int32), iv j, sl] [(.ref a1), (.int (32 : Int32)), (.long S150)]))
          refine own_st (fun _ k => XS.iload X.here hx rfl (hb hby own_d1_115) rfl  k) ?_
          show own_Goes p e below s _ _ (T.setTop (mkF m 117 #[rv a1, iv p1, own_jv S150, .second, iv (150 : Int32), iv (512 : Int32), iv j, sl] [(.int (150 : Int32)), (.ref a1), (.int (32 : Int32)), (.long S150)]))
          refine own_st (fun _ k => own_ldB X hx hZ e0 V1 (j := (150 : Int32)) (by decide) (g := (mkF m 117 #[rv a1, iv p1, own_jv S150, .second, iv (150 : Int32), iv (512 : Int32), iv j, sl] [(.int (150 : Int32)), (.ref a1), (.int (32 : Int32)), (.long S150)])) rfl rfl (hb hby own_d1_117) _ k) ?_
          show own_Goes p e below s _ _ (T.setTop (mkF m 118 #[rv a1, iv p1, own_jv S150, .second, iv (150 : Int32), iv (512 : Int32), iv j, sl] [(.int (f 150)), (.int (32 : Int32)), (.long S150)]))
          refine own_st (fun _ k => XS.sipush X.here hx rfl (hb hby own_d1_118) k) ?_
          show own_Goes p e below s _ _ (T.setTop (mkF m 121 #[rv a1, iv p1, own_jv S150, .second, iv (150 : Int32), iv (512 : Int32), iv j, sl] [(.int (255 : Int32)), (.int (f 150)), (.int (32 : Int32)), (.long S150)]))
          refine own_st (fun _ k => XS.iand X.here hx rfl (hb hby own_d1_121) rfl k) ?_
          show own_Goes p e below s _ _ (T.setTop (mkF m 122 #[rv a1, iv p1, own_jv S150, .second, iv (150 : Int32), iv (512 : Int32), iv j, sl] [(.int ((f 150) &&& (255 : Int32))), (.int (32 : Int32)), (.long S150)]))
          refine own_st (fun _ k => XS.isub X.here hx rfl (hb hby own_d1_122) rfl k) ?_
          show own_Goes p e below s _ _ (T.setTop (mkF m 123 #[rv a1, iv p1, own_jv S150, .second, iv (150 : Int32), iv (512 : Int32), iv j, sl] [(.int ((32 : Int32) - ((f 150) &&& (255 : Int32)))), (.long S150)]))
          refine own_st (fun _ k => XS.i2l X.here hx rfl (hb hby own_d1_123) rfl k) ?_
          show own_Goes p e below s _ _ (T.setTop (mkF m 124 #[rv a1, iv p1, own_jv S150, .second, iv (150 : Int32), iv (512 : Int32), iv j, sl] [(.long (((32 : Int32) - ((f 150) &&& (255 : Int32))).toInt64)), (.long S150)]))
          refine own_st (fun _ k => XS.ladd X.here hx rfl (hb hby own_d1_124) rfl k) ?_
          show own_Goes p e below s _ _ (T.setTop (mkF m 125 #[rv a1, iv p1, own_jv S150, .second, iv (150 : Int32), iv (512 : Int32), iv j, sl] [(.long (S150 + (((32 : Int32) - ((f 150) &&& (255 : Int32))).toInt64)))]))
          refine own_st (fun _ k => XS.lstoreN X.here hx rfl (hb hby own_d1_125) rfl (l' := #[rv a1, iv p1, own_jv (S150 + (((32 : Int32) - ((f 150) &&& (255 : Int32))).toInt64)), .second, iv (150 : Int32), iv (512 : Int32), iv j, sl]) rfl k) ?_
          show own_Goes p e below s _ _ (T.setTop (mkF m 126 #[rv a1, iv p1, own_jv (S150 + (((32 : Int32) - ((f 150) &&& (255 : Int32))).toInt64)), .second, iv (150 : Int32), iv (512 : Int32), iv j, sl] []))
          refine own_st (fun _ k => XS.iinc X.here hx rfl (hb hby own_d1_126) rfl (l' := #[rv a1, iv p1, own_jv (S150 + (((32 : Int32) - ((f 150) &&& (255 : Int32))).toInt64)), .second, iv (151 : Int32), iv (512 : Int32), iv j, sl]) rfl k) ?_
          show own_Goes p e below s _ _ (T.setTop (mkF m 129 #[rv a1, iv p1, own_jv (S150 + (((32 : Int32) - ((f 150) &&& (255 : Int32))).toInt64)), .second, iv (151 : Int32), iv (512 : Int32), iv j, sl] []))
          refine own_st (fun _ k => XS.goto X.here hx rfl (pc0 := 129) (pc' := 92) rfl (hb hby own_d1_129) (by decide) (by decide) k) ?_
          show own_Goes p e below s _ _ (T.setTop (mkF m 92 #[rv a1, iv p1, own_jv (S150 + (((32 : Int32) - ((f 150) &&& (255 : Int32))).toInt64)), .second, iv (151 : Int32), iv (512 : Int32), iv j, sl] []))
          have hS151 := own_add32u S150 f 150 hf (by omega)
          generalize (S150 + (((32 : Int32) - ((f 150) &&& (255 : Int32))).toInt64)) = S151 at hS151 ⊢
          show own_Goes p e below s _ _ (T.setTop (mkF m 92 #[rv a1, iv p1, own_jv S151, .second, iv (151 : Int32), iv (512 : Int32), iv j, sl] []))
          refine own_st (fun _ k => XS.iload X.here hx rfl (hb hby own_d1_92) rfl  k) ?_
          show own_Goes p e below s _ _ (T.setTop (mkF m 94 #[rv a1, iv p1, own_jv S151, .second, iv (151 : Int32), iv (512 : Int32), iv j, sl] [(.int (151 : Int32))]))
          refine own_st (fun _ k => XS.sipush X.here hx rfl (hb hby own_d1_94) k) ?_
          show own_Goes p e below s _ _ (T.setTop (mkF m 97 #[rv a1, iv p1, own_jv S151, .second, iv (151 : Int32), iv (512 : Int32), iv j, sl] [(.int (156 : Int32)), (.int (151 : Int32))]))
          refine own_st (fun _ k => XS.icmpNo X.here hx rfl (hb hby own_d1_97) rfl (tlt (by decide : (151 : Int32) < (156 : Int32))).2.1 k) ?_
          show own_Goes p e below s _ _ (T.setTop (mkF m 100 #[rv a1, iv p1, own_jv S151, .second, iv (151 : Int32), iv (512 : Int32), iv j, sl] []))
          refine own_st (fun _ k => XS.lloadN X.here hx rfl (hb hby own_d1_100) rfl  k) ?_
          show own_Goes p e below s _ _ (T.setTop (mkF m 101 #[rv a1, iv p1, own_jv S151, .second, iv (151 : Int32), iv (512 : Int32), iv j, sl] [(.long S151)]))
          refine own_st (fun _ k => XS.bipush X.here hx rfl (hb hby own_d1_101) k) ?_
          show own_Goes p e below s _ _ (T.setTop (mkF m 103 #[rv a1, iv p1, own_jv S151, .second, iv (151 : Int32), iv (512 : Int32), iv j, sl] [(.int (32 : Int32)), (.long S151)]))
          refine own_st (fun _ k => XS.iloadN X.here hx rfl (hb hby own_d1_103) rfl  k) ?_
          show own_Goes p e below s _ _ (T.setTop (mkF m 104 #[rv a1, iv p1, own_jv S151, .second, iv (151 : Int32), iv (512 : Int32), iv j, sl] [(.int p1), (.int (32 : Int32)), (.long S151)]))
          refine own_st (fun _ k => XS.ifYes X.here hx rfl (pc0 := 104) (pc' := 114) rfl (hb hby own_d1_104) rfl ((if0 _ _).trans (teq c101).1) (by decide) (by decide) k) ?_
          show own_Goes p e below s _ _ (T.setTop (mkF m 114 #[rv a1, iv p1, own_jv S151, .second, iv (151 : Int32), iv (512 : Int32), iv j, sl] [(.int (32 : Int32)), (.long S151)]))
          refine own_st (fun _ k => XS.aloadN X.here hx rfl (hb hby own_d1_114) rfl rfl  k) ?_
          show own_Goes p e below s _ _ (T.setTop (mkF m 115 #[rv a1, iv p1, own_jv S151, .second, iv (151 : Int32), iv (512 : Int32), iv j, sl] [(.ref a1), (.int (32 : Int32)), (.long S151)]))
          refine own_st (fun _ k => XS.iload X.here hx rfl (hb hby own_d1_115) rfl  k) ?_
          show own_Goes p e below s _ _ (T.setTop (mkF m 117 #[rv a1, iv p1, own_jv S151, .second, iv (151 : Int32), iv (512 : Int32), iv j, sl] [(.int (151 : Int32)), (.ref a1), (.int (32 : Int32)), (.long S151)]))
          refine own_st (fun _ k => own_ldB X hx hZ e0 V1 (j := (151 : Int32)) (by decide) (g := (mkF m 117 #[rv a1, iv p1, own_jv S151, .second, iv (151 : Int32), iv (512 : Int32), iv j, sl] [(.int (151 : Int32)), (.ref a1), (.int (32 : Int32)), (.long S151)])) rfl rfl (hb hby own_d1_117) _ k) ?_
          show own_Goes p e below s _ _ (T.setTop (mkF m 118 #[rv a1, iv p1, own_jv S151, .second, iv (151 : Int32), iv (512 : Int32), iv j, sl] [(.int (f 151)), (.int (32 : Int32)), (.long S151)]))
          refine own_st (fun _ k => XS.sipush X.here hx rfl (hb hby own_d1_118) k) ?_
          show own_Goes p e below s _ _ (T.setTop (mkF m 121 #[rv a1, iv p1, own_jv S151, .second, iv (151 : Int32), iv (512 : Int32), iv j, sl] [(.int (255 : Int32)), (.int (f 151)), (.int (32 : Int32)), (.long S151)]))
          refine own_st (fun _ k => XS.iand X.here hx rfl (hb hby own_d1_121) rfl k) ?_
          show own_Goes p e below s _ _ (T.setTop (mkF m 122 #[rv a1, iv p1, own_jv S151, .second, iv (151 : Int32), iv (512 : Int32), iv j, sl] [(.int ((f 151) &&& (255 : Int32))), (.int (32 : Int32)), (.long S151)]))
          refine own_st (fun _ k => XS.isub X.here hx rfl (hb hby own_d1_122) rfl k) ?_
          show own_Goes p e below s _ _ (T.setTop (mkF m 123 #[rv a1, iv p1, own_jv S151, .second, iv (151 : Int32), iv (512 : Int32), iv j, sl] [(.int ((32 : Int32) - ((f 151) &&& (255 : Int32)))), (.long S151)]))
          refine own_st (fun _ k => XS.i2l X.here hx rfl (hb hby own_d1_123) rfl k) ?_
          show own_Goes p e below s _ _ (T.setTop (mkF m 124 #[rv a1, iv p1, own_jv S151, .second, iv (151 : Int32), iv (512 : Int32), iv j, sl] [(.long (((32 : Int32) - ((f 151) &&& (255 : Int32))).toInt64)), (.long S151)]))
          refine own_st (fun _ k => XS.ladd X.here hx rfl (hb hby own_d1_124) rfl k) ?_
          show own_Goes p e below s _ _ (T.setTop (mkF m 125 #[rv a1, iv p1, own_jv S151, .second, iv (151 : Int32), iv (512 : Int32), iv j, sl] [(.long (S151 + (((32 : Int32) - ((f 151) &&& (255 : Int32))).toInt64)))]))
          refine own_st (fun _ k => XS.lstoreN X.here hx rfl (hb hby own_d1_125) rfl (l' := #[rv a1, iv p1, own_jv (S151 + (((32 : Int32) - ((f 151) &&& (255 : Int32))).toInt64)), .second, iv (151 : Int32), iv (512 : Int32), iv j, sl]) rfl k) ?_
          show own_Goes p e below s _ _ (T.setTop (mkF m 126 #[rv a1, iv p1, own_jv (S151 + (((32 : Int32) - ((f 151) &&& (255 : Int32))).toInt64)), .second, iv (151 : Int32), iv (512 : Int32), iv j, sl] []))
          refine own_st (fun _ k => XS.iinc X.here hx rfl (hb hby own_d1_126) rfl (l' := #[rv a1, iv p1, own_jv (S151 + (((32 : Int32) - ((f 151) &&& (255 : Int32))).toInt64)), .second, iv (152 : Int32), iv (512 : Int32), iv j, sl]) rfl k) ?_
          show own_Goes p e below s _ _ (T.setTop (mkF m 129 #[rv a1, iv p1, own_jv (S151 + (((32 : Int32) - ((f 151) &&& (255 : Int32))).toInt64)), .second, iv (152 : Int32), iv (512 : Int32), iv j, sl] []))
          refine own_st (fun _ k => XS.goto X.here hx rfl (pc0 := 129) (pc' := 92) rfl (hb hby own_d1_129) (by decide) (by decide) k) ?_
          show own_Goes p e below s _ _ (T.setTop (mkF m 92 #[rv a1, iv p1, own_jv (S151 + (((32 : Int32) - ((f 151) &&& (255 : Int32))).toInt64)), .second, iv (152 : Int32), iv (512 : Int32), iv j, sl] []))
          have hS152 := own_add32u S151 f 151 hf (by omega)
          generalize (S151 + (((32 : Int32) - ((f 151) &&& (255 : Int32))).toInt64)) = S152 at hS152 ⊢
          show own_Goes p e below s _ _ (T.setTop (mkF m 92 #[rv a1, iv p1, own_jv S152, .second, iv (152 : Int32), iv (512 : Int32), iv j, sl] []))
          refine own_st (fun _ k => XS.iload X.here hx rfl (hb hby own_d1_92) rfl  k) ?_
          show own_Goes p e below s _ _ (T.setTop (mkF m 94 #[rv a1, iv p1, own_jv S152, .second, iv (152 : Int32), iv (512 : Int32), iv j, sl] [(.int (152 : Int32))]))
          refine own_st (fun _ k => XS.sipush X.here hx rfl (hb hby own_d1_94) k) ?_
          show own_Goes p e below s _ _ (T.setTop (mkF m 97 #[rv a1, iv p1, own_jv S152, .second, iv (152 : Int32), iv (512 : Int32), iv j, sl] [(.int (156 : Int32)), (.int (152 : Int32))]))
          refine own_st (fun _ k => XS.icmpNo X.here hx rfl (hb hby own_d1_97) rfl (tlt (by decide : (152 : Int32) < (156 : Int32))).2.1 k) ?_
          show own_Goes p e below s _ _ (T.setTop (mkF m 100 #[rv a1, iv p1, own_jv S152, .second, iv (152 : Int32), iv (512 : Int32), iv j, sl] []))
          refine own_st (fun _ k => XS.lloadN X.here hx rfl (hb hby own_d1_100) rfl  k) ?_
          show own_Goes p e below s _ _ (T.setTop (mkF m 101 #[rv a1, iv p1, own_jv S152, .second, iv (152 : Int32), iv (512 : Int32), iv j, sl] [(.long S152)]))
          refine own_st (fun _ k => XS.bipush X.here hx rfl (hb hby own_d1_101) k) ?_
          show own_Goes p e below s _ _ (T.setTop (mkF m 103 #[rv a1, iv p1, own_jv S152, .second, iv (152 : Int32), iv (512 : Int32), iv j, sl] [(.int (32 : Int32)), (.long S152)]))
          refine own_st (fun _ k => XS.iloadN X.here hx rfl (hb hby own_d1_103) rfl  k) ?_
          show own_Goes p e below s _ _ (T.setTop (mkF m 104 #[rv a1, iv p1, own_jv S152, .second, iv (152 : Int32), iv (512 : Int32), iv j, sl] [(.int p1), (.int (32 : Int32)), (.long S152)]))
          refine own_st (fun _ k => XS.ifYes X.here hx rfl (pc0 := 104) (pc' := 114) rfl (hb hby own_d1_104) rfl ((if0 _ _).trans (teq c101).1) (by decide) (by decide) k) ?_
          show own_Goes p e below s _ _ (T.setTop (mkF m 114 #[rv a1, iv p1, own_jv S152, .second, iv (152 : Int32), iv (512 : Int32), iv j, sl] [(.int (32 : Int32)), (.long S152)]))
          refine own_st (fun _ k => XS.aloadN X.here hx rfl (hb hby own_d1_114) rfl rfl  k) ?_
          show own_Goes p e below s _ _ (T.setTop (mkF m 115 #[rv a1, iv p1, own_jv S152, .second, iv (152 : Int32), iv (512 : Int32), iv j, sl] [(.ref a1), (.int (32 : Int32)), (.long S152)]))
          refine own_st (fun _ k => XS.iload X.here hx rfl (hb hby own_d1_115) rfl  k) ?_
          show own_Goes p e below s _ _ (T.setTop (mkF m 117 #[rv a1, iv p1, own_jv S152, .second, iv (152 : Int32), iv (512 : Int32), iv j, sl] [(.int (152 : Int32)), (.ref a1), (.int (32 : Int32)), (.long S152)]))
          refine own_st (fun _ k => own_ldB X hx hZ e0 V1 (j := (152 : Int32)) (by decide) (g := (mkF m 117 #[rv a1, iv p1, own_jv S152, .second, iv (152 : Int32), iv (512 : Int32), iv j, sl] [(.int (152 : Int32)), (.ref a1), (.int (32 : Int32)), (.long S152)])) rfl rfl (hb hby own_d1_117) _ k) ?_
          show own_Goes p e below s _ _ (T.setTop (mkF m 118 #[rv a1, iv p1, own_jv S152, .second, iv (152 : Int32), iv (512 : Int32), iv j, sl] [(.int (f 152)), (.int (32 : Int32)), (.long S152)]))
          refine own_st (fun _ k => XS.sipush X.here hx rfl (hb hby own_d1_118) k) ?_
          show own_Goes p e below s _ _ (T.setTop (mkF m 121 #[rv a1, iv p1, own_jv S152, .second, iv (152 : Int32), iv (512 : Int32), iv j, sl] [(.int (255 : Int32)), (.int (f 152)), (.int (32 : Int32)), (.long S152)]))
          refine own_st (fun _ k => XS.iand X.here hx rfl (hb hby own_d1_121) rfl k) ?_
          show own_Goes p e below s _ _ (T.setTop (mkF m 122 #[rv a1, iv p1, own_jv S152, .second, iv (152 : Int32), iv (512 : Int32), iv j, sl] [(.int ((f 152) &&& (255 : Int32))), (.int (32 : Int32)), (.long S152)]))
          refine own_st (fun _ k => XS.isub X.here hx rfl (hb hby own_d1_122) rfl k) ?_
          show own_Goes p e below s _ _ (T.setTop (mkF m 123 #[rv a1, iv p1, own_jv S152, .second, iv (152 : Int32), iv (512 : Int32), iv j, sl] [(.int ((32 : Int32) - ((f 152) &&& (255 : Int32)))), (.long S152)]))
          refine own_st (fun _ k => XS.i2l X.here hx rfl (hb hby own_d1_123) rfl k) ?_
          show own_Goes p e below s _ _ (T.setTop (mkF m 124 #[rv a1, iv p1, own_jv S152, .second, iv (152 : Int32), iv (512 : Int32), iv j, sl] [(.long (((32 : Int32) - ((f 152) &&& (255 : Int32))).toInt64)), (.long S152)]))
          refine own_st (fun _ k => XS.ladd X.here hx rfl (hb hby own_d1_124) rfl k) ?_
          show own_Goes p e below s _ _ (T.setTop (mkF m 125 #[rv a1, iv p1, own_jv S152, .second, iv (152 : Int32), iv (512 : Int32), iv j, sl] [(.long (S152 + (((32 : Int32) - ((f 152) &&& (255 : Int32))).toInt64)))]))
          refine own_st (fun _ k => XS.lstoreN X.here hx rfl (hb hby own_d1_125) rfl (l' := #[rv a1, iv p1, own_jv (S152 + (((32 : Int32) - ((f 152) &&& (255 : Int32))).toInt64)), .second, iv (152 : Int32), iv (512 : Int32), iv j, sl]) rfl k) ?_
          show own_Goes p e below s _ _ (T.setTop (mkF m 126 #[rv a1, iv p1, own_jv (S152 + (((32 : Int32) - ((f 152) &&& (255 : Int32))).toInt64)), .second, iv (152 : Int32), iv (512 : Int32), iv j, sl] []))
          refine own_st (fun _ k => XS.iinc X.here hx rfl (hb hby own_d1_126) rfl (l' := #[rv a1, iv p1, own_jv (S152 + (((32 : Int32) - ((f 152) &&& (255 : Int32))).toInt64)), .second, iv (153 : Int32), iv (512 : Int32), iv j, sl]) rfl k) ?_
          show own_Goes p e below s _ _ (T.setTop (mkF m 129 #[rv a1, iv p1, own_jv (S152 + (((32 : Int32) - ((f 152) &&& (255 : Int32))).toInt64)), .second, iv (153 : Int32), iv (512 : Int32), iv j, sl] []))
          refine own_st (fun _ k => XS.goto X.here hx rfl (pc0 := 129) (pc' := 92) rfl (hb hby own_d1_129) (by decide) (by decide) k) ?_
          show own_Goes p e below s _ _ (T.setTop (mkF m 92 #[rv a1, iv p1, own_jv (S152 + (((32 : Int32) - ((f 152) &&& (255 : Int32))).toInt64)), .second, iv (153 : Int32), iv (512 : Int32), iv j, sl] []))
          have hS153 := own_add32u S152 f 152 hf (by omega)
          generalize (S152 + (((32 : Int32) - ((f 152) &&& (255 : Int32))).toInt64)) = S153 at hS153 ⊢
          show own_Goes p e below s _ _ (T.setTop (mkF m 92 #[rv a1, iv p1, own_jv S153, .second, iv (153 : Int32), iv (512 : Int32), iv j, sl] []))
          refine own_st (fun _ k => XS.iload X.here hx rfl (hb hby own_d1_92) rfl  k) ?_
          show own_Goes p e below s _ _ (T.setTop (mkF m 94 #[rv a1, iv p1, own_jv S153, .second, iv (153 : Int32), iv (512 : Int32), iv j, sl] [(.int (153 : Int32))]))
          refine own_st (fun _ k => XS.sipush X.here hx rfl (hb hby own_d1_94) k) ?_
          show own_Goes p e below s _ _ (T.setTop (mkF m 97 #[rv a1, iv p1, own_jv S153, .second, iv (153 : Int32), iv (512 : Int32), iv j, sl] [(.int (156 : Int32)), (.int (153 : Int32))]))
          refine own_st (fun _ k => XS.icmpNo X.here hx rfl (hb hby own_d1_97) rfl (tlt (by decide : (153 : Int32) < (156 : Int32))).2.1 k) ?_
          show own_Goes p e below s _ _ (T.setTop (mkF m 100 #[rv a1, iv p1, own_jv S153, .second, iv (153 : Int32), iv (512 : Int32), iv j, sl] []))
          refine own_st (fun _ k => XS.lloadN X.here hx rfl (hb hby own_d1_100) rfl  k) ?_
          show own_Goes p e below s _ _ (T.setTop (mkF m 101 #[rv a1, iv p1, own_jv S153, .second, iv (153 : Int32), iv (512 : Int32), iv j, sl] [(.long S153)]))
          refine own_st (fun _ k => XS.bipush X.here hx rfl (hb hby own_d1_101) k) ?_
          show own_Goes p e below s _ _ (T.setTop (mkF m 103 #[rv a1, iv p1, own_jv S153, .second, iv (153 : Int32), iv (512 : Int32), iv j, sl] [(.int (32 : Int32)), (.long S153)]))
          refine own_st (fun _ k => XS.iloadN X.here hx rfl (hb hby own_d1_103) rfl  k) ?_
          show own_Goes p e below s _ _ (T.setTop (mkF m 104 #[rv a1, iv p1, own_jv S153, .second, iv (153 : Int32), iv (512 : Int32), iv j, sl] [(.int p1), (.int (32 : Int32)), (.long S153)]))
          refine own_st (fun _ k => XS.ifYes X.here hx rfl (pc0 := 104) (pc' := 114) rfl (hb hby own_d1_104) rfl ((if0 _ _).trans (teq c101).1) (by decide) (by decide) k) ?_
          show own_Goes p e below s _ _ (T.setTop (mkF m 114 #[rv a1, iv p1, own_jv S153, .second, iv (153 : Int32), iv (512 : Int32), iv j, sl] [(.int (32 : Int32)), (.long S153)]))
          refine own_st (fun _ k => XS.aloadN X.here hx rfl (hb hby own_d1_114) rfl rfl  k) ?_
          show own_Goes p e below s _ _ (T.setTop (mkF m 115 #[rv a1, iv p1, own_jv S153, .second, iv (153 : Int32), iv (512 : Int32), iv j, sl] [(.ref a1), (.int (32 : Int32)), (.long S153)]))
          refine own_st (fun _ k => XS.iload X.here hx rfl (hb hby own_d1_115) rfl  k) ?_
          show own_Goes p e below s _ _ (T.setTop (mkF m 117 #[rv a1, iv p1, own_jv S153, .second, iv (153 : Int32), iv (512 : Int32), iv j, sl] [(.int (153 : Int32)), (.ref a1), (.int (32 : Int32)), (.long S153)]))
          refine own_st (fun _ k => own_ldB X hx hZ e0 V1 (j := (153 : Int32)) (by decide) (g := (mkF m 117 #[rv a1, iv p1, own_jv S153, .second, iv (153 : Int32), iv (512 : Int32), iv j, sl] [(.int (153 : Int32)), (.ref a1), (.int (32 : Int32)), (.long S153)])) rfl rfl (hb hby own_d1_117) _ k) ?_
          show own_Goes p e below s _ _ (T.setTop (mkF m 118 #[rv a1, iv p1, own_jv S153, .second, iv (153 : Int32), iv (512 : Int32), iv j, sl] [(.int (f 153)), (.int (32 : Int32)), (.long S153)]))
          refine own_st (fun _ k => XS.sipush X.here hx rfl (hb hby own_d1_118) k) ?_
          show own_Goes p e below s _ _ (T.setTop (mkF m 121 #[rv a1, iv p1, own_jv S153, .second, iv (153 : Int32), iv (512 : Int32), iv j, sl] [(.int (255 : Int32)), (.int (f 153)), (.int (32 : Int32)), (.long S153)]))
          refine own_st (fun _ k => XS.iand X.here hx rfl (hb hby own_d1_121) rfl k) ?_
          show own_Goes p e below s _ _ (T.setTop (mkF m 122 #[rv a1, iv p1, own_jv S153, .second, iv (153 : Int32), iv (512 : Int32), iv j, sl] [(.int ((f 153) &&& (255 : Int32))), (.int (32 : Int32)), (.long S153)]))
          refine own_st (fun _ k => XS.isub X.here hx rfl (hb hby own_d1_122) rfl k) ?_
          show own_Goes p e below s _ _ (T.setTop (mkF m 123 #[rv a1, iv p1, own_jv S153, .second, iv (153 : Int32), iv (512 : Int32), iv j, sl] [(.int ((32 : Int32) - ((f 153) &&& (255 : Int32)))), (.long S153)]))
          refine own_st (fun _ k => XS.i2l X.here hx rfl (hb hby own_d1_123) rfl k) ?_
          show own_Goes p e below s _ _ (T.setTop (mkF m 124 #[rv a1, iv p1, own_jv S153, .second, iv (153 : Int32), iv (512 : Int32), iv j, sl] [(.long (((32 : Int32) - ((f 153) &&& (255 : Int32))).toInt64)), (.long S153)]))
          refine own_st (fun _ k => XS.ladd X.here hx rfl (hb hby own_d1_124) rfl k) ?_
          show own_Goes p e below s _ _ (T.setTop (mkF m 125 #[rv a1, iv p1, own_jv S153, .second, iv (153 : Int32), iv (512 : Int32), iv j, sl] [(.long (S153 + (((32 : Int32) - ((f 153) &&& (255 : Int32))).toInt64)))]))
          refine own_st (fun _ k => XS.lstoreN X.here hx rfl (hb hby own_d1_125) rfl (l' := #[rv a1, iv p1, own_jv (S153 + (((32 : Int32) - ((f 153) &&& (255 : Int32))).toInt64)), .second, iv (153 : Int32), iv (512 : Int32), iv j, sl]) rfl k) ?_
          show own_Goes p e below s _ _ (T.setTop (mkF m 126 #[rv a1, iv p1, own_jv (S153 + (((32 : Int32) - ((f 153) &&& (255 : Int32))).toInt64)), .second, iv (153 : Int32), iv (512 : Int32), iv j, sl] []))
          refine own_st (fun _ k => XS.iinc X.here hx rfl (hb hby own_d1_126) rfl (l' := #[rv a1, iv p1, own_jv (S153 + (((32 : Int32) - ((f 153) &&& (255 : Int32))).toInt64)), .second, iv (154 : Int32), iv (512 : Int32), iv j, sl]) rfl k) ?_
          show own_Goes p e below s _ _ (T.setTop (mkF m 129 #[rv a1, iv p1, own_jv (S153 + (((32 : Int32) - ((f 153) &&& (255 : Int32))).toInt64)), .second, iv (154 : Int32), iv (512 : Int32), iv j, sl] []))
          refine own_st (fun _ k => XS.goto X.here hx rfl (pc0 := 129) (pc' := 92) rfl (hb hby own_d1_129) (by decide) (by decide) k) ?_
          show own_Goes p e below s _ _ (T.setTop (mkF m 92 #[rv a1, iv p1, own_jv (S153 + (((32 : Int32) - ((f 153) &&& (255 : Int32))).toInt64)), .second, iv (154 : Int32), iv (512 : Int32), iv j, sl] []))
          have hS154 := own_add32u S153 f 153 hf (by omega)
          generalize (S153 + (((32 : Int32) - ((f 153) &&& (255 : Int32))).toInt64)) = S154 at hS154 ⊢
          show own_Goes p e below s _ _ (T.setTop (mkF m 92 #[rv a1, iv p1, own_jv S154, .second, iv (154 : Int32), iv (512 : Int32), iv j, sl] []))
          refine own_st (fun _ k => XS.iload X.here hx rfl (hb hby own_d1_92) rfl  k) ?_
          show own_Goes p e below s _ _ (T.setTop (mkF m 94 #[rv a1, iv p1, own_jv S154, .second, iv (154 : Int32), iv (512 : Int32), iv j, sl] [(.int (154 : Int32))]))
          refine own_st (fun _ k => XS.sipush X.here hx rfl (hb hby own_d1_94) k) ?_
          show own_Goes p e below s _ _ (T.setTop (mkF m 97 #[rv a1, iv p1, own_jv S154, .second, iv (154 : Int32), iv (512 : Int32), iv j, sl] [(.int (156 : Int32)), (.int (154 : Int32))]))
          refine own_st (fun _ k => XS.icmpNo X.here hx rfl (hb hby own_d1_97) rfl (tlt (by decide : (154 : Int32) < (156 : Int32))).2.1 k) ?_
          show own_Goes p e below s _ _ (T.setTop (mkF m 100 #[rv a1, iv p1, own_jv S154, .second, iv (154 : Int32), iv (512 : Int32), iv j, sl] []))
          refine own_st (fun _ k => XS.lloadN X.here hx rfl (hb hby own_d1_100) rfl  k) ?_
          show own_Goes p e below s _ _ (T.setTop (mkF m 101 #[rv a1, iv p1, own_jv S154, .second, iv (154 : Int32), iv (512 : Int32), iv j, sl] [(.long S154)]))
          refine own_st (fun _ k => XS.bipush X.here hx rfl (hb hby own_d1_101) k) ?_
          show own_Goes p e below s _ _ (T.setTop (mkF m 103 #[rv a1, iv p1, own_jv S154, .second, iv (154 : Int32), iv (512 : Int32), iv j, sl] [(.int (32 : Int32)), (.long S154)]))
          refine own_st (fun _ k => XS.iloadN X.here hx rfl (hb hby own_d1_103) rfl  k) ?_
          show own_Goes p e below s _ _ (T.setTop (mkF m 104 #[rv a1, iv p1, own_jv S154, .second, iv (154 : Int32), iv (512 : Int32), iv j, sl] [(.int p1), (.int (32 : Int32)), (.long S154)]))
          refine own_st (fun _ k => XS.ifYes X.here hx rfl (pc0 := 104) (pc' := 114) rfl (hb hby own_d1_104) rfl ((if0 _ _).trans (teq c101).1) (by decide) (by decide) k) ?_
          show own_Goes p e below s _ _ (T.setTop (mkF m 114 #[rv a1, iv p1, own_jv S154, .second, iv (154 : Int32), iv (512 : Int32), iv j, sl] [(.int (32 : Int32)), (.long S154)]))
          refine own_st (fun _ k => XS.aloadN X.here hx rfl (hb hby own_d1_114) rfl rfl  k) ?_
          show own_Goes p e below s _ _ (T.setTop (mkF m 115 #[rv a1, iv p1, own_jv S154, .second, iv (154 : Int32), iv (512 : Int32), iv j, sl] [(.ref a1), (.int (32 : Int32)), (.long S154)]))
          refine own_st (fun _ k => XS.iload X.here hx rfl (hb hby own_d1_115) rfl  k) ?_
          show own_Goes p e below s _ _ (T.setTop (mkF m 117 #[rv a1, iv p1, own_jv S154, .second, iv (154 : Int32), iv (512 : Int32), iv j, sl] [(.int (154 : Int32)), (.ref a1), (.int (32 : Int32)), (.long S154)]))
          refine own_st (fun _ k => own_ldB X hx hZ e0 V1 (j := (154 : Int32)) (by decide) (g := (mkF m 117 #[rv a1, iv p1, own_jv S154, .second, iv (154 : Int32), iv (512 : Int32), iv j, sl] [(.int (154 : Int32)), (.ref a1), (.int (32 : Int32)), (.long S154)])) rfl rfl (hb hby own_d1_117) _ k) ?_
          show own_Goes p e below s _ _ (T.setTop (mkF m 118 #[rv a1, iv p1, own_jv S154, .second, iv (154 : Int32), iv (512 : Int32), iv j, sl] [(.int (f 154)), (.int (32 : Int32)), (.long S154)]))
          refine own_st (fun _ k => XS.sipush X.here hx rfl (hb hby own_d1_118) k) ?_
          show own_Goes p e below s _ _ (T.setTop (mkF m 121 #[rv a1, iv p1, own_jv S154, .second, iv (154 : Int32), iv (512 : Int32), iv j, sl] [(.int (255 : Int32)), (.int (f 154)), (.int (32 : Int32)), (.long S154)]))
          refine own_st (fun _ k => XS.iand X.here hx rfl (hb hby own_d1_121) rfl k) ?_
          show own_Goes p e below s _ _ (T.setTop (mkF m 122 #[rv a1, iv p1, own_jv S154, .second, iv (154 : Int32), iv (512 : Int32), iv j, sl] [(.int ((f 154) &&& (255 : Int32))), (.int (32 : Int32)), (.long S154)]))
          refine own_st (fun _ k => XS.isub X.here hx rfl (hb hby own_d1_122) rfl k) ?_
          show own_Goes p e below s _ _ (T.setTop (mkF m 123 #[rv a1, iv p1, own_jv S154, .second, iv (154 : Int32), iv (512 : Int32), iv j, sl] [(.int ((32 : Int32) - ((f 154) &&& (255 : Int32)))), (.long S154)]))
          refine own_st (fun _ k => XS.i2l X.here hx rfl (hb hby own_d1_123) rfl k) ?_
          show own_Goes p e below s _ _ (T.setTop (mkF m 124 #[rv a1, iv p1, own_jv S154, .second, iv (154 : Int32), iv (512 : Int32), iv j, sl] [(.long (((32 : Int32) - ((f 154) &&& (255 : Int32))).toInt64)), (.long S154)]))
          refine own_st (fun _ k => XS.ladd X.here hx rfl (hb hby own_d1_124) rfl k) ?_
          show own_Goes p e below s _ _ (T.setTop (mkF m 125 #[rv a1, iv p1, own_jv S154, .second, iv (154 : Int32), iv (512 : Int32), iv j, sl] [(.long (S154 + (((32 : Int32) - ((f 154) &&& (255 : Int32))).toInt64)))]))
          refine own_st (fun _ k => XS.lstoreN X.here hx rfl (hb hby own_d1_125) rfl (l' := #[rv a1, iv p1, own_jv (S154 + (((32 : Int32) - ((f 154) &&& (255 : Int32))).toInt64)), .second, iv (154 : Int32), iv (512 : Int32), iv j, sl]) rfl k) ?_
          show own_Goes p e below s _ _ (T.setTop (mkF m 126 #[rv a1, iv p1, own_jv (S154 + (((32 : Int32) - ((f 154) &&& (255 : Int32))).toInt64)), .second, iv (154 : Int32), iv (512 : Int32), iv j, sl] []))
          refine own_st (fun _ k => XS.iinc X.here hx rfl (hb hby own_d1_126) rfl (l' := #[rv a1, iv p1, own_jv (S154 + (((32 : Int32) - ((f 154) &&& (255 : Int32))).toInt64)), .second, iv (155 : Int32), iv (512 : Int32), iv j, sl]) rfl k) ?_
          show own_Goes p e below s _ _ (T.setTop (mkF m 129 #[rv a1, iv p1, own_jv (S154 + (((32 : Int32) - ((f 154) &&& (255 : Int32))).toInt64)), .second, iv (155 : Int32), iv (512 : Int32), iv j, sl] []))
          refine own_st (fun _ k => XS.goto X.here hx rfl (pc0 := 129) (pc' := 92) rfl (hb hby own_d1_129) (by decide) (by decide) k) ?_
          show own_Goes p e below s _ _ (T.setTop (mkF m 92 #[rv a1, iv p1, own_jv (S154 + (((32 : Int32) - ((f 154) &&& (255 : Int32))).toInt64)), .second, iv (155 : Int32), iv (512 : Int32), iv j, sl] []))
          have hS155 := own_add32u S154 f 154 hf (by omega)
          generalize (S154 + (((32 : Int32) - ((f 154) &&& (255 : Int32))).toInt64)) = S155 at hS155 ⊢
          show own_Goes p e below s _ _ (T.setTop (mkF m 92 #[rv a1, iv p1, own_jv S155, .second, iv (155 : Int32), iv (512 : Int32), iv j, sl] []))
          refine own_st (fun _ k => XS.iload X.here hx rfl (hb hby own_d1_92) rfl  k) ?_
          show own_Goes p e below s _ _ (T.setTop (mkF m 94 #[rv a1, iv p1, own_jv S155, .second, iv (155 : Int32), iv (512 : Int32), iv j, sl] [(.int (155 : Int32))]))
          refine own_st (fun _ k => XS.sipush X.here hx rfl (hb hby own_d1_94) k) ?_
          show own_Goes p e below s _ _ (T.setTop (mkF m 97 #[rv a1, iv p1, own_jv S155, .second, iv (155 : Int32), iv (512 : Int32), iv j, sl] [(.int (156 : Int32)), (.int (155 : Int32))]))
          refine own_st (fun _ k => XS.icmpNo X.here hx rfl (hb hby own_d1_97) rfl (tlt (by decide : (155 : Int32) < (156 : Int32))).2.1 k) ?_
          show own_Goes p e below s _ _ (T.setTop (mkF m 100 #[rv a1, iv p1, own_jv S155, .second, iv (155 : Int32), iv (512 : Int32), iv j, sl] []))
          refine own_st (fun _ k => XS.lloadN X.here hx rfl (hb hby own_d1_100) rfl  k) ?_
          show own_Goes p e below s _ _ (T.setTop (mkF m 101 #[rv a1, iv p1, own_jv S155, .second, iv (155 : Int32), iv (512 : Int32), iv j, sl] [(.long S155)]))
          refine own_st (fun _ k => XS.bipush X.here hx rfl (hb hby own_d1_101) k) ?_
          show own_Goes p e below s _ _ (T.setTop (mkF m 103 #[rv a1, iv p1, own_jv S155, .second, iv (155 : Int32), iv (512 : Int32), iv j, sl] [(.int (32 : Int32)), (.long S155)]))
          refine own_st (fun _ k => XS.iloadN X.here hx rfl (hb hby own_d1_103) rfl  k) ?_
          show own_Goes p e below s _ _ (T.setTop (mkF m 104 #[rv a1, iv p1, own_jv S155, .second, iv (155 : Int32), iv (512 : Int32), iv j, sl] [(.int p1), (.int (32 : Int32)), (.long S155)]))
          refine own_st (fun _ k => XS.ifYes X.here hx rfl (pc0 := 104) (pc' := 114) rfl (hb hby own_d1_104) rfl ((if0 _ _).trans (teq c101).1) (by decide) (by decide) k) ?_
          show own_Goes p e below s _ _ (T.setTop (mkF m 114 #[rv a1, iv p1, own_jv S155, .second, iv (155 : Int32), iv (512 : Int32), iv j, sl] [(.int (32 : Int32)), (.long S155)]))
          refine own_st (fun _ k => XS.aloadN X.here hx rfl (hb hby own_d1_114) rfl rfl  k) ?_
          show own_Goes p e below s _ _ (T.setTop (mkF m 115 #[rv a1, iv p1, own_jv S155, .second, iv (155 : Int32), iv (512 : Int32), iv j, sl] [(.ref a1), (.int (32 : Int32)), (.long S155)]))
          refine own_st (fun _ k => XS.iload X.here hx rfl (hb hby own_d1_115) rfl  k) ?_
          show own_Goes p e below s _ _ (T.setTop (mkF m 117 #[rv a1, iv p1, own_jv S155, .second, iv (155 : Int32), iv (512 : Int32), iv j, sl] [(.int (155 : Int32)), (.ref a1), (.int (32 : Int32)), (.long S155)]))
          refine own_st (fun _ k => own_ldB X hx hZ e0 V1 (j := (155 : Int32)) (by decide) (g := (mkF m 117 #[rv a1, iv p1, own_jv S155, .second, iv (155 : Int32), iv (512 : Int32), iv j, sl] [(.int (155 : Int32)), (.ref a1), (.int (32 : Int32)), (.long S155)])) rfl rfl (hb hby own_d1_117) _ k) ?_
          show own_Goes p e below s _ _ (T.setTop (mkF m 118 #[rv a1, iv p1, own_jv S155, .second, iv (155 : Int32), iv (512 : Int32), iv j, sl] [(.int (f 155)), (.int (32 : Int32)), (.long S155)]))
          refine own_st (fun _ k => XS.sipush X.here hx rfl (hb hby own_d1_118) k) ?_
          show own_Goes p e below s _ _ (T.setTop (mkF m 121 #[rv a1, iv p1, own_jv S155, .second, iv (155 : Int32), iv (512 : Int32), iv j, sl] [(.int (255 : Int32)), (.int (f 155)), (.int (32 : Int32)), (.long S155)]))
          refine own_st (fun _ k => XS.iand X.here hx rfl (hb hby own_d1_121) rfl k) ?_
          show own_Goes p e below s _ _ (T.setTop (mkF m 122 #[rv a1, iv p1, own_jv S155, .second, iv (155 : Int32), iv (512 : Int32), iv j, sl] [(.int ((f 155) &&& (255 : Int32))), (.int (32 : Int32)), (.long S155)]))
          refine own_st (fun _ k => XS.isub X.here hx rfl (hb hby own_d1_122) rfl k) ?_
          show own_Goes p e below s _ _ (T.setTop (mkF m 123 #[rv a1, iv p1, own_jv S155, .second, iv (155 : Int32), iv (512 : Int32), iv j, sl] [(.int ((32 : Int32) - ((f 155) &&& (255 : Int32)))), (.long S155)]))
          refine own_st (fun _ k => XS.i2l X.here hx rfl (hb hby own_d1_123) rfl k) ?_
          show own_Goes p e below s _ _ (T.setTop (mkF m 124 #[rv a1, iv p1, own_jv S155, .second, iv (155 : Int32), iv (512 : Int32), iv j, sl] [(.long (((32 : Int32) - ((f 155) &&& (255 : Int32))).toInt64)), (.long S155)]))
          refine own_st (fun _ k => XS.ladd X.here hx rfl (hb hby own_d1_124) rfl k) ?_
          show own_Goes p e below s _ _ (T.setTop (mkF m 125 #[rv a1, iv p1, own_jv S155, .second, iv (155 : Int32), iv (512 : Int32), iv j, sl] [(.long (S155 + (((32 : Int32) - ((f 155) &&& (255 : Int32))).toInt64)))]))
          refine own_st (fun _ k => XS.lstoreN X.here hx rfl (hb hby own_d1_125) rfl (l' := #[rv a1, iv p1, own_jv (S155 + (((32 : Int32) - ((f 155) &&& (255 : Int32))).toInt64)), .second, iv (155 : Int32), iv (512 : Int32), iv j, sl]) rfl k) ?_
          show own_Goes p e below s _ _ (T.setTop (mkF m 126 #[rv a1, iv p1, own_jv (S155 + (((32 : Int32) - ((f 155) &&& (255 : Int32))).toInt64)), .second, iv (155 : Int32), iv (512 : Int32), iv j, sl] []))
          refine own_st (fun _ k => XS.iinc X.here hx rfl (hb hby own_d1_126) rfl (l' := #[rv a1, iv p1, own_jv (S155 + (((32 : Int32) - ((f 155) &&& (255 : Int32))).toInt64)), .second, iv (156 : Int32), iv (512 : Int32), iv j, sl]) rfl k) ?_
          show own_Goes p e below s _ _ (T.setTop (mkF m 129 #[rv a1, iv p1, own_jv (S155 + (((32 : Int32) - ((f 155) &&& (255 : Int32))).toInt64)), .second, iv (156 : Int32), iv (512 : Int32), iv j, sl] []))
          refine own_st (fun _ k => XS.goto X.here hx rfl (pc0 := 129) (pc' := 92) rfl (hb hby own_d1_129) (by decide) (by decide) k) ?_
          show own_Goes p e below s _ _ (T.setTop (mkF m 92 #[rv a1, iv p1, own_jv (S155 + (((32 : Int32) - ((f 155) &&& (255 : Int32))).toInt64)), .second, iv (156 : Int32), iv (512 : Int32), iv j, sl] []))
          have hS156 := own_add32u S155 f 155 hf (by omega)
          generalize (S155 + (((32 : Int32) - ((f 155) &&& (255 : Int32))).toInt64)) = S156 at hS156 ⊢
          show own_Goes p e below s _ _ (T.setTop (mkF m 92 #[rv a1, iv p1, own_jv S156, .second, iv (156 : Int32), iv (512 : Int32), iv j, sl] []))
          refine own_st (fun _ k => XS.iload X.here hx rfl (hb hby own_d1_92) rfl  k) ?_
          show own_Goes p e below s _ _ (T.setTop (mkF m 94 #[rv a1, iv p1, own_jv S156, .second, iv (156 : Int32), iv (512 : Int32), iv j, sl] [(.int (156 : Int32))]))
          refine own_st (fun _ k => XS.sipush X.here hx rfl (hb hby own_d1_94) k) ?_
          show own_Goes p e below s _ _ (T.setTop (mkF m 97 #[rv a1, iv p1, own_jv S156, .second, iv (156 : Int32), iv (512 : Int32), iv j, sl] [(.int (156 : Int32)), (.int (156 : Int32))]))
          refine own_st (fun _ k => XS.icmpYes X.here hx rfl (pc0 := 97) (pc' := 132) rfl (hb hby own_d1_97) rfl (flt (by decide : ¬ ((156 : Int32) < (156 : Int32)))).2.1 (by decide) (by decide) k) ?_
          show own_Goes p e below s _ _ (T.setTop (mkF m 132 #[rv a1, iv p1, own_jv S156, .second, iv (156 : Int32), iv (512 : Int32), iv j, sl] []))
          refine own_st (fun _ k => XS.lloadN X.here hx rfl (hb hby own_d1_132) rfl  k) ?_
          show own_Goes p e below s _ _ (T.setTop (mkF m 133 #[rv a1, iv p1, own_jv S156, .second, iv (156 : Int32), iv (512 : Int32), iv j, sl] [(.long S156)]))
          exact own_retJ X hx hlk hret (hb hby own_d1_133) (by decide) (by decide) ⟨S156, rfl, fun q => absurd c101i q, fun _ => by show _ = own_sum (fun n => (f n).toInt % 256) 512 + 256 - ((f 148).toInt % 256 + (f 149).toInt % 256 + (f 150).toInt % 256 + (f 151).toInt % 256 + (f 152).toInt % 256 + (f 153).toInt % 256 + (f 154).toInt % 256 + (f 155).toInt % 256); omega, N0, e0⟩
      | succ k ih =>
        intro j S sl hk hj0 hS hO
        refine own_st (fun _ k => XS.iload X.here hx rfl (hb hby own_d1_57) rfl  k) ?_
        show own_Goes p e below s _ _ (T.setTop (mkF m 59 #[rv a1, iv p1, own_jv S, .second, rv a1, iv (512 : Int32), iv j, sl] [(.int j)]))
        refine own_st (fun _ k => XS.iload X.here hx rfl (hb hby own_d1_59) rfl  k) ?_
        show own_Goes p e below s _ _ (T.setTop (mkF m 61 #[rv a1, iv p1, own_jv S, .second, rv a1, iv (512 : Int32), iv j, sl] [(.int (512 : Int32)), (.int j)]))
        by_cases c103 : j < (512 : Int32)
        · have c103i : j.toInt < 512 := own_i_lt c103
          refine own_st (fun _ k => XS.icmpNo X.here hx rfl (hb hby own_d1_61) rfl (tlt c103).2.1 k) ?_
          show own_Goes p e below s _ _ (T.setTop (mkF m 64 #[rv a1, iv p1, own_jv S, .second, rv a1, iv (512 : Int32), iv j, sl] []))
          refine own_st (fun _ k => XS.aload X.here hx rfl (hb hby own_d1_64) rfl rfl  k) ?_
          show own_Goes p e below s _ _ (T.setTop (mkF m 66 #[rv a1, iv p1, own_jv S, .second, rv a1, iv (512 : Int32), iv j, sl] [(.ref a1)]))
          refine own_st (fun _ k => XS.iload X.here hx rfl (hb hby own_d1_66) rfl  k) ?_
          show own_Goes p e below s _ _ (T.setTop (mkF m 68 #[rv a1, iv p1, own_jv S, .second, rv a1, iv (512 : Int32), iv j, sl] [(.int j), (.ref a1)]))
          refine own_st (fun _ k => own_ldB X hx hZ e0 V1 (j := j) ⟨hj0, by omega⟩ (g := (mkF m 68 #[rv a1, iv p1, own_jv S, .second, rv a1, iv (512 : Int32), iv j, sl] [(.int j), (.ref a1)])) rfl rfl (hb hby own_d1_68) _ k) ?_
          show own_Goes p e below s _ _ (T.setTop (mkF m 69 #[rv a1, iv p1, own_jv S, .second, rv a1, iv (512 : Int32), iv j, sl] [(.int (f (j).toNatClampNeg))]))
          refine own_st (fun _ k => XS.istoreS X.here hx rfl (hb hby own_d1_69) rfl rfl hO k) ?_
          show own_Goes p e below s _ _ (T.setTop (mkF m 71 #[rv a1, iv p1, own_jv S, .second, rv a1, iv (512 : Int32), iv j, iv (f (j).toNatClampNeg)] []))
          refine own_st (fun _ k => XS.lloadN X.here hx rfl (hb hby own_d1_71) rfl  k) ?_
          show own_Goes p e below s _ _ (T.setTop (mkF m 72 #[rv a1, iv p1, own_jv S, .second, rv a1, iv (512 : Int32), iv j, iv (f (j).toNatClampNeg)] [(.long S)]))
          refine own_st (fun _ k => XS.iload X.here hx rfl (hb hby own_d1_72) rfl  k) ?_
          show own_Goes p e below s _ _ (T.setTop (mkF m 74 #[rv a1, iv p1, own_jv S, .second, rv a1, iv (512 : Int32), iv j, iv (f (j).toNatClampNeg)] [(.int (f (j).toNatClampNeg)), (.long S)]))
          refine own_st (fun _ k => XS.sipush X.here hx rfl (hb hby own_d1_74) k) ?_
          show own_Goes p e below s _ _ (T.setTop (mkF m 77 #[rv a1, iv p1, own_jv S, .second, rv a1, iv (512 : Int32), iv j, iv (f (j).toNatClampNeg)] [(.int (255 : Int32)), (.int (f (j).toNatClampNeg)), (.long S)]))
          refine own_st (fun _ k => XS.iand X.here hx rfl (hb hby own_d1_77) rfl k) ?_
          show own_Goes p e below s _ _ (T.setTop (mkF m 78 #[rv a1, iv p1, own_jv S, .second, rv a1, iv (512 : Int32), iv j, iv (f (j).toNatClampNeg)] [(.int ((f (j).toNatClampNeg) &&& (255 : Int32))), (.long S)]))
          refine own_st (fun _ k => XS.i2l X.here hx rfl (hb hby own_d1_78) rfl k) ?_
          show own_Goes p e below s _ _ (T.setTop (mkF m 79 #[rv a1, iv p1, own_jv S, .second, rv a1, iv (512 : Int32), iv j, iv (f (j).toNatClampNeg)] [(.long (((f (j).toNatClampNeg) &&& (255 : Int32)).toInt64)), (.long S)]))
          refine own_st (fun _ k => XS.ladd X.here hx rfl (hb hby own_d1_79) rfl k) ?_
          show own_Goes p e below s _ _ (T.setTop (mkF m 80 #[rv a1, iv p1, own_jv S, .second, rv a1, iv (512 : Int32), iv j, iv (f (j).toNatClampNeg)] [(.long (S + (((f (j).toNatClampNeg) &&& (255 : Int32)).toInt64)))]))
          refine own_st (fun _ k => XS.lstoreN X.here hx rfl (hb hby own_d1_80) rfl (l' := #[rv a1, iv p1, own_jv (S + (((f (j).toNatClampNeg) &&& (255 : Int32)).toInt64)), .second, rv a1, iv (512 : Int32), iv j, iv (f (j).toNatClampNeg)]) rfl k) ?_
          show own_Goes p e below s _ _ (T.setTop (mkF m 81 #[rv a1, iv p1, own_jv (S + (((f (j).toNatClampNeg) &&& (255 : Int32)).toInt64)), .second, rv a1, iv (512 : Int32), iv j, iv (f (j).toNatClampNeg)] []))
          refine own_st (fun _ k => XS.iinc X.here hx rfl (hb hby own_d1_81) rfl (l' := #[rv a1, iv p1, own_jv (S + (((f (j).toNatClampNeg) &&& (255 : Int32)).toInt64)), .second, rv a1, iv (512 : Int32), iv (j + (1 : Int32)), iv (f (j).toNatClampNeg)]) rfl k) ?_
          show own_Goes p e below s _ _ (T.setTop (mkF m 84 #[rv a1, iv p1, own_jv (S + (((f (j).toNatClampNeg) &&& (255 : Int32)).toInt64)), .second, rv a1, iv (512 : Int32), iv (j + (1 : Int32)), iv (f (j).toNatClampNeg)] []))
          refine own_st (fun _ k => XS.goto X.here hx rfl (pc0 := 84) (pc' := 57) rfl (hb hby own_d1_84) (by decide) (by decide) k) ?_
          show own_Goes p e below s _ _ (T.setTop (mkF m 57 #[rv a1, iv p1, own_jv (S + (((f (j).toNatClampNeg) &&& (255 : Int32)).toInt64)), .second, rv a1, iv (512 : Int32), iv (j + (1 : Int32)), iv (f (j).toNatClampNeg)] []))
          have hj1 := own_inc j (by omega)
          exact ih (j + (1 : Int32)) _ _ (by omega) (by omega) (own_stepu f hf hS (by omega) (by omega)) (One.val rfl)
        · have c103i : 512 ≤ j.toInt := own_i_nlt c103
          exfalso; omega
    exact lp57 512 (0 : Int32) (0 : Int64) .unset (by decide) (by decide) rfl One.u
  · have c101i : ¬ p1.toInt = 0 := own_i_ne c101
    refine own_st (fun _ k => XS.ifNo X.here hx rfl (hb hby own_d1_3) rfl ((if0 _ _).trans (feq c101).1) k) ?_
    show own_Goes p e below s _ _ (T.setTop (mkF m 6 #[rv a1, iv p1, own_jv (0 : Int64), .second, .unset, .unset, .unset, .unset] []))
    refine own_st (fun _ k => XS.aloadN X.here hx rfl (hb hby own_d1_6) rfl rfl  k) ?_
    show own_Goes p e below s _ _ (T.setTop (mkF m 7 #[rv a1, iv p1, own_jv (0 : Int64), .second, .unset, .unset, .unset, .unset] [(.ref a1)]))
    refine own_st (fun _ k => XS.astore X.here hx rfl (hb hby own_d1_7) rfl rfl (l' := #[rv a1, iv p1, own_jv (0 : Int64), .second, rv a1, .unset, .unset, .unset]) rfl k) ?_
    show own_Goes p e below s _ _ (T.setTop (mkF m 9 #[rv a1, iv p1, own_jv (0 : Int64), .second, rv a1, .unset, .unset, .unset] []))
    refine own_st (fun _ k => XS.aload X.here hx rfl (hb hby own_d1_9) rfl rfl  k) ?_
    show own_Goes p e below s _ _ (T.setTop (mkF m 11 #[rv a1, iv p1, own_jv (0 : Int64), .second, rv a1, .unset, .unset, .unset] [(.ref a1)]))
    refine own_st (fun _ k => own_len X hx hZ e0 V1 (g := (mkF m 11 #[rv a1, iv p1, own_jv (0 : Int64), .second, rv a1, .unset, .unset, .unset] [(.ref a1)])) rfl rfl (hb hby own_d1_11) _ k) ?_
    show own_Goes p e below s _ _ (T.setTop (mkF m 12 #[rv a1, iv p1, own_jv (0 : Int64), .second, rv a1, .unset, .unset, .unset] [(.int (512 : Int32))]))
    refine own_st (fun _ k => XS.istore X.here hx rfl (hb hby own_d1_12) rfl (l' := #[rv a1, iv p1, own_jv (0 : Int64), .second, rv a1, iv (512 : Int32), .unset, .unset]) rfl k) ?_
    show own_Goes p e below s _ _ (T.setTop (mkF m 14 #[rv a1, iv p1, own_jv (0 : Int64), .second, rv a1, iv (512 : Int32), .unset, .unset] []))
    refine own_st (fun _ k => XS.iconst X.here hx rfl (hb hby own_d1_14) k) ?_
    show own_Goes p e below s _ _ (T.setTop (mkF m 15 #[rv a1, iv p1, own_jv (0 : Int64), .second, rv a1, iv (512 : Int32), .unset, .unset] [(.int (0 : Int32))]))
    refine own_st (fun _ k => XS.istore X.here hx rfl (hb hby own_d1_15) rfl (l' := #[rv a1, iv p1, own_jv (0 : Int64), .second, rv a1, iv (512 : Int32), iv (0 : Int32), .unset]) rfl k) ?_
    show own_Goes p e below s _ _ (T.setTop (mkF m 17 #[rv a1, iv p1, own_jv (0 : Int64), .second, rv a1, iv (512 : Int32), iv (0 : Int32), .unset] []))
    have lp17 : ∀ (k : Nat) (j : Int32) (S : Int64) (sl : Slot), j.toInt + k = 512 → 0 ≤ j.toInt → S.toInt = own_sum (fun n => (f n).toInt) j.toNatClampNeg → One sl → own_Goes p e below s ({ frames := 0, cells := 0, slots := 0, locals := 0 } : Room) (fun v h L => own_Q_rmC Z a1 p1 f h0 n0 v h L) (T.setTop (mkF m 17 #[rv a1, iv p1, own_jv S, .second, rv a1, iv (512 : Int32), iv j, sl] [])) := by
      intro k
      induction k with
      | zero =>
        intro j S sl hk hj0 hS hO
        have hS2 : S.toInt = own_sum (fun n => (f n).toInt) 512 := by rw [hS]; congr 1; show j.toInt.toNat = 512; omega
        have hrng := own_rngS f hf
        have hf148 := hf 148
        have hf149 := hf 149
        have hf150 := hf 150
        have hf151 := hf 151
        have hf152 := hf 152
        have hf153 := hf 153
        have hf154 := hf 154
        have hf155 := hf 155
        refine own_st (fun _ k => XS.iload X.here hx rfl (hb hby own_d1_17) rfl  k) ?_
        show own_Goes p e below s _ _ (T.setTop (mkF m 19 #[rv a1, iv p1, own_jv S, .second, rv a1, iv (512 : Int32), iv j, sl] [(.int j)]))
        refine own_st (fun _ k => XS.iload X.here hx rfl (hb hby own_d1_19) rfl  k) ?_
        show own_Goes p e below s _ _ (T.setTop (mkF m 21 #[rv a1, iv p1, own_jv S, .second, rv a1, iv (512 : Int32), iv j, sl] [(.int (512 : Int32)), (.int j)]))
        by_cases c104 : j < (512 : Int32)
        · have c104i : j.toInt < 512 := own_i_lt c104
          exfalso; omega
        · have c104i : 512 ≤ j.toInt := own_i_nlt c104
          refine own_st (fun _ k => XS.icmpYes X.here hx rfl (pc0 := 21) (pc' := 43) rfl (hb hby own_d1_21) rfl (flt c104).2.1 (by decide) (by decide) k) ?_
          show own_Goes p e below s _ _ (T.setTop (mkF m 43 #[rv a1, iv p1, own_jv S, .second, rv a1, iv (512 : Int32), iv j, sl] []))
          refine own_st (fun _ k => XS.goto X.here hx rfl (pc0 := 43) (pc' := 87) rfl (hb hby own_d1_43) (by decide) (by decide) k) ?_
          show own_Goes p e below s _ _ (T.setTop (mkF m 87 #[rv a1, iv p1, own_jv S, .second, rv a1, iv (512 : Int32), iv j, sl] []))
          refine own_st (fun _ k => XS.sipush X.here hx rfl (hb hby own_d1_87) k) ?_
          show own_Goes p e below s _ _ (T.setTop (mkF m 90 #[rv a1, iv p1, own_jv S, .second, rv a1, iv (512 : Int32), iv j, sl] [(.int (148 : Int32))]))
          refine own_st (fun _ k => XS.istore X.here hx rfl (hb hby own_d1_90) rfl (l' := #[rv a1, iv p1, own_jv S, .second, iv (148 : Int32), iv (512 : Int32), iv j, sl]) rfl k) ?_
          show own_Goes p e below s _ _ (T.setTop (mkF m 92 #[rv a1, iv p1, own_jv S, .second, iv (148 : Int32), iv (512 : Int32), iv j, sl] []))
          refine own_st (fun _ k => XS.iload X.here hx rfl (hb hby own_d1_92) rfl  k) ?_
          show own_Goes p e below s _ _ (T.setTop (mkF m 94 #[rv a1, iv p1, own_jv S, .second, iv (148 : Int32), iv (512 : Int32), iv j, sl] [(.int (148 : Int32))]))
          refine own_st (fun _ k => XS.sipush X.here hx rfl (hb hby own_d1_94) k) ?_
          show own_Goes p e below s _ _ (T.setTop (mkF m 97 #[rv a1, iv p1, own_jv S, .second, iv (148 : Int32), iv (512 : Int32), iv j, sl] [(.int (156 : Int32)), (.int (148 : Int32))]))
          refine own_st (fun _ k => XS.icmpNo X.here hx rfl (hb hby own_d1_97) rfl (tlt (by decide : (148 : Int32) < (156 : Int32))).2.1 k) ?_
          show own_Goes p e below s _ _ (T.setTop (mkF m 100 #[rv a1, iv p1, own_jv S, .second, iv (148 : Int32), iv (512 : Int32), iv j, sl] []))
          refine own_st (fun _ k => XS.lloadN X.here hx rfl (hb hby own_d1_100) rfl  k) ?_
          show own_Goes p e below s _ _ (T.setTop (mkF m 101 #[rv a1, iv p1, own_jv S, .second, iv (148 : Int32), iv (512 : Int32), iv j, sl] [(.long S)]))
          refine own_st (fun _ k => XS.bipush X.here hx rfl (hb hby own_d1_101) k) ?_
          show own_Goes p e below s _ _ (T.setTop (mkF m 103 #[rv a1, iv p1, own_jv S, .second, iv (148 : Int32), iv (512 : Int32), iv j, sl] [(.int (32 : Int32)), (.long S)]))
          refine own_st (fun _ k => XS.iloadN X.here hx rfl (hb hby own_d1_103) rfl  k) ?_
          show own_Goes p e below s _ _ (T.setTop (mkF m 104 #[rv a1, iv p1, own_jv S, .second, iv (148 : Int32), iv (512 : Int32), iv j, sl] [(.int p1), (.int (32 : Int32)), (.long S)]))
          refine own_st (fun _ k => XS.ifNo X.here hx rfl (hb hby own_d1_104) rfl ((if0 _ _).trans (feq c101).1) k) ?_
          show own_Goes p e below s _ _ (T.setTop (mkF m 107 #[rv a1, iv p1, own_jv S, .second, iv (148 : Int32), iv (512 : Int32), iv j, sl] [(.int (32 : Int32)), (.long S)]))
          refine own_st (fun _ k => XS.aloadN X.here hx rfl (hb hby own_d1_107) rfl rfl  k) ?_
          show own_Goes p e below s _ _ (T.setTop (mkF m 108 #[rv a1, iv p1, own_jv S, .second, iv (148 : Int32), iv (512 : Int32), iv j, sl] [(.ref a1), (.int (32 : Int32)), (.long S)]))
          refine own_st (fun _ k => XS.iload X.here hx rfl (hb hby own_d1_108) rfl  k) ?_
          show own_Goes p e below s _ _ (T.setTop (mkF m 110 #[rv a1, iv p1, own_jv S, .second, iv (148 : Int32), iv (512 : Int32), iv j, sl] [(.int (148 : Int32)), (.ref a1), (.int (32 : Int32)), (.long S)]))
          refine own_st (fun _ k => own_ldB X hx hZ e0 V1 (j := (148 : Int32)) (by decide) (g := (mkF m 110 #[rv a1, iv p1, own_jv S, .second, iv (148 : Int32), iv (512 : Int32), iv j, sl] [(.int (148 : Int32)), (.ref a1), (.int (32 : Int32)), (.long S)])) rfl rfl (hb hby own_d1_110) _ k) ?_
          show own_Goes p e below s _ _ (T.setTop (mkF m 111 #[rv a1, iv p1, own_jv S, .second, iv (148 : Int32), iv (512 : Int32), iv j, sl] [(.int (f 148)), (.int (32 : Int32)), (.long S)]))
          refine own_st (fun _ k => XS.goto X.here hx rfl (pc0 := 111) (pc' := 122) rfl (hb hby own_d1_111) (by decide) (by decide) k) ?_
          show own_Goes p e below s _ _ (T.setTop (mkF m 122 #[rv a1, iv p1, own_jv S, .second, iv (148 : Int32), iv (512 : Int32), iv j, sl] [(.int (f 148)), (.int (32 : Int32)), (.long S)]))
          refine own_st (fun _ k => XS.isub X.here hx rfl (hb hby own_d1_122) rfl k) ?_
          show own_Goes p e below s _ _ (T.setTop (mkF m 123 #[rv a1, iv p1, own_jv S, .second, iv (148 : Int32), iv (512 : Int32), iv j, sl] [(.int ((32 : Int32) - (f 148))), (.long S)]))
          refine own_st (fun _ k => XS.i2l X.here hx rfl (hb hby own_d1_123) rfl k) ?_
          show own_Goes p e below s _ _ (T.setTop (mkF m 124 #[rv a1, iv p1, own_jv S, .second, iv (148 : Int32), iv (512 : Int32), iv j, sl] [(.long (((32 : Int32) - (f 148)).toInt64)), (.long S)]))
          refine own_st (fun _ k => XS.ladd X.here hx rfl (hb hby own_d1_124) rfl k) ?_
          show own_Goes p e below s _ _ (T.setTop (mkF m 125 #[rv a1, iv p1, own_jv S, .second, iv (148 : Int32), iv (512 : Int32), iv j, sl] [(.long (S + (((32 : Int32) - (f 148)).toInt64)))]))
          refine own_st (fun _ k => XS.lstoreN X.here hx rfl (hb hby own_d1_125) rfl (l' := #[rv a1, iv p1, own_jv (S + (((32 : Int32) - (f 148)).toInt64)), .second, iv (148 : Int32), iv (512 : Int32), iv j, sl]) rfl k) ?_
          show own_Goes p e below s _ _ (T.setTop (mkF m 126 #[rv a1, iv p1, own_jv (S + (((32 : Int32) - (f 148)).toInt64)), .second, iv (148 : Int32), iv (512 : Int32), iv j, sl] []))
          refine own_st (fun _ k => XS.iinc X.here hx rfl (hb hby own_d1_126) rfl (l' := #[rv a1, iv p1, own_jv (S + (((32 : Int32) - (f 148)).toInt64)), .second, iv (149 : Int32), iv (512 : Int32), iv j, sl]) rfl k) ?_
          show own_Goes p e below s _ _ (T.setTop (mkF m 129 #[rv a1, iv p1, own_jv (S + (((32 : Int32) - (f 148)).toInt64)), .second, iv (149 : Int32), iv (512 : Int32), iv j, sl] []))
          refine own_st (fun _ k => XS.goto X.here hx rfl (pc0 := 129) (pc' := 92) rfl (hb hby own_d1_129) (by decide) (by decide) k) ?_
          show own_Goes p e below s _ _ (T.setTop (mkF m 92 #[rv a1, iv p1, own_jv (S + (((32 : Int32) - (f 148)).toInt64)), .second, iv (149 : Int32), iv (512 : Int32), iv j, sl] []))
          have hS149 := own_add32 S f 148 hf (by omega)
          generalize (S + (((32 : Int32) - (f 148)).toInt64)) = S149 at hS149 ⊢
          show own_Goes p e below s _ _ (T.setTop (mkF m 92 #[rv a1, iv p1, own_jv S149, .second, iv (149 : Int32), iv (512 : Int32), iv j, sl] []))
          refine own_st (fun _ k => XS.iload X.here hx rfl (hb hby own_d1_92) rfl  k) ?_
          show own_Goes p e below s _ _ (T.setTop (mkF m 94 #[rv a1, iv p1, own_jv S149, .second, iv (149 : Int32), iv (512 : Int32), iv j, sl] [(.int (149 : Int32))]))
          refine own_st (fun _ k => XS.sipush X.here hx rfl (hb hby own_d1_94) k) ?_
          show own_Goes p e below s _ _ (T.setTop (mkF m 97 #[rv a1, iv p1, own_jv S149, .second, iv (149 : Int32), iv (512 : Int32), iv j, sl] [(.int (156 : Int32)), (.int (149 : Int32))]))
          refine own_st (fun _ k => XS.icmpNo X.here hx rfl (hb hby own_d1_97) rfl (tlt (by decide : (149 : Int32) < (156 : Int32))).2.1 k) ?_
          show own_Goes p e below s _ _ (T.setTop (mkF m 100 #[rv a1, iv p1, own_jv S149, .second, iv (149 : Int32), iv (512 : Int32), iv j, sl] []))
          refine own_st (fun _ k => XS.lloadN X.here hx rfl (hb hby own_d1_100) rfl  k) ?_
          show own_Goes p e below s _ _ (T.setTop (mkF m 101 #[rv a1, iv p1, own_jv S149, .second, iv (149 : Int32), iv (512 : Int32), iv j, sl] [(.long S149)]))
          refine own_st (fun _ k => XS.bipush X.here hx rfl (hb hby own_d1_101) k) ?_
          show own_Goes p e below s _ _ (T.setTop (mkF m 103 #[rv a1, iv p1, own_jv S149, .second, iv (149 : Int32), iv (512 : Int32), iv j, sl] [(.int (32 : Int32)), (.long S149)]))
          refine own_st (fun _ k => XS.iloadN X.here hx rfl (hb hby own_d1_103) rfl  k) ?_
          show own_Goes p e below s _ _ (T.setTop (mkF m 104 #[rv a1, iv p1, own_jv S149, .second, iv (149 : Int32), iv (512 : Int32), iv j, sl] [(.int p1), (.int (32 : Int32)), (.long S149)]))
          refine own_st (fun _ k => XS.ifNo X.here hx rfl (hb hby own_d1_104) rfl ((if0 _ _).trans (feq c101).1) k) ?_
          show own_Goes p e below s _ _ (T.setTop (mkF m 107 #[rv a1, iv p1, own_jv S149, .second, iv (149 : Int32), iv (512 : Int32), iv j, sl] [(.int (32 : Int32)), (.long S149)]))
          refine own_st (fun _ k => XS.aloadN X.here hx rfl (hb hby own_d1_107) rfl rfl  k) ?_
          show own_Goes p e below s _ _ (T.setTop (mkF m 108 #[rv a1, iv p1, own_jv S149, .second, iv (149 : Int32), iv (512 : Int32), iv j, sl] [(.ref a1), (.int (32 : Int32)), (.long S149)]))
          refine own_st (fun _ k => XS.iload X.here hx rfl (hb hby own_d1_108) rfl  k) ?_
          show own_Goes p e below s _ _ (T.setTop (mkF m 110 #[rv a1, iv p1, own_jv S149, .second, iv (149 : Int32), iv (512 : Int32), iv j, sl] [(.int (149 : Int32)), (.ref a1), (.int (32 : Int32)), (.long S149)]))
          refine own_st (fun _ k => own_ldB X hx hZ e0 V1 (j := (149 : Int32)) (by decide) (g := (mkF m 110 #[rv a1, iv p1, own_jv S149, .second, iv (149 : Int32), iv (512 : Int32), iv j, sl] [(.int (149 : Int32)), (.ref a1), (.int (32 : Int32)), (.long S149)])) rfl rfl (hb hby own_d1_110) _ k) ?_
          show own_Goes p e below s _ _ (T.setTop (mkF m 111 #[rv a1, iv p1, own_jv S149, .second, iv (149 : Int32), iv (512 : Int32), iv j, sl] [(.int (f 149)), (.int (32 : Int32)), (.long S149)]))
          refine own_st (fun _ k => XS.goto X.here hx rfl (pc0 := 111) (pc' := 122) rfl (hb hby own_d1_111) (by decide) (by decide) k) ?_
          show own_Goes p e below s _ _ (T.setTop (mkF m 122 #[rv a1, iv p1, own_jv S149, .second, iv (149 : Int32), iv (512 : Int32), iv j, sl] [(.int (f 149)), (.int (32 : Int32)), (.long S149)]))
          refine own_st (fun _ k => XS.isub X.here hx rfl (hb hby own_d1_122) rfl k) ?_
          show own_Goes p e below s _ _ (T.setTop (mkF m 123 #[rv a1, iv p1, own_jv S149, .second, iv (149 : Int32), iv (512 : Int32), iv j, sl] [(.int ((32 : Int32) - (f 149))), (.long S149)]))
          refine own_st (fun _ k => XS.i2l X.here hx rfl (hb hby own_d1_123) rfl k) ?_
          show own_Goes p e below s _ _ (T.setTop (mkF m 124 #[rv a1, iv p1, own_jv S149, .second, iv (149 : Int32), iv (512 : Int32), iv j, sl] [(.long (((32 : Int32) - (f 149)).toInt64)), (.long S149)]))
          refine own_st (fun _ k => XS.ladd X.here hx rfl (hb hby own_d1_124) rfl k) ?_
          show own_Goes p e below s _ _ (T.setTop (mkF m 125 #[rv a1, iv p1, own_jv S149, .second, iv (149 : Int32), iv (512 : Int32), iv j, sl] [(.long (S149 + (((32 : Int32) - (f 149)).toInt64)))]))
          refine own_st (fun _ k => XS.lstoreN X.here hx rfl (hb hby own_d1_125) rfl (l' := #[rv a1, iv p1, own_jv (S149 + (((32 : Int32) - (f 149)).toInt64)), .second, iv (149 : Int32), iv (512 : Int32), iv j, sl]) rfl k) ?_
          show own_Goes p e below s _ _ (T.setTop (mkF m 126 #[rv a1, iv p1, own_jv (S149 + (((32 : Int32) - (f 149)).toInt64)), .second, iv (149 : Int32), iv (512 : Int32), iv j, sl] []))
          refine own_st (fun _ k => XS.iinc X.here hx rfl (hb hby own_d1_126) rfl (l' := #[rv a1, iv p1, own_jv (S149 + (((32 : Int32) - (f 149)).toInt64)), .second, iv (150 : Int32), iv (512 : Int32), iv j, sl]) rfl k) ?_
          show own_Goes p e below s _ _ (T.setTop (mkF m 129 #[rv a1, iv p1, own_jv (S149 + (((32 : Int32) - (f 149)).toInt64)), .second, iv (150 : Int32), iv (512 : Int32), iv j, sl] []))
          refine own_st (fun _ k => XS.goto X.here hx rfl (pc0 := 129) (pc' := 92) rfl (hb hby own_d1_129) (by decide) (by decide) k) ?_
          show own_Goes p e below s _ _ (T.setTop (mkF m 92 #[rv a1, iv p1, own_jv (S149 + (((32 : Int32) - (f 149)).toInt64)), .second, iv (150 : Int32), iv (512 : Int32), iv j, sl] []))
          have hS150 := own_add32 S149 f 149 hf (by omega)
          generalize (S149 + (((32 : Int32) - (f 149)).toInt64)) = S150 at hS150 ⊢
          show own_Goes p e below s _ _ (T.setTop (mkF m 92 #[rv a1, iv p1, own_jv S150, .second, iv (150 : Int32), iv (512 : Int32), iv j, sl] []))
          refine own_st (fun _ k => XS.iload X.here hx rfl (hb hby own_d1_92) rfl  k) ?_
          show own_Goes p e below s _ _ (T.setTop (mkF m 94 #[rv a1, iv p1, own_jv S150, .second, iv (150 : Int32), iv (512 : Int32), iv j, sl] [(.int (150 : Int32))]))
          refine own_st (fun _ k => XS.sipush X.here hx rfl (hb hby own_d1_94) k) ?_
          show own_Goes p e below s _ _ (T.setTop (mkF m 97 #[rv a1, iv p1, own_jv S150, .second, iv (150 : Int32), iv (512 : Int32), iv j, sl] [(.int (156 : Int32)), (.int (150 : Int32))]))
          refine own_st (fun _ k => XS.icmpNo X.here hx rfl (hb hby own_d1_97) rfl (tlt (by decide : (150 : Int32) < (156 : Int32))).2.1 k) ?_
          show own_Goes p e below s _ _ (T.setTop (mkF m 100 #[rv a1, iv p1, own_jv S150, .second, iv (150 : Int32), iv (512 : Int32), iv j, sl] []))
          refine own_st (fun _ k => XS.lloadN X.here hx rfl (hb hby own_d1_100) rfl  k) ?_
          show own_Goes p e below s _ _ (T.setTop (mkF m 101 #[rv a1, iv p1, own_jv S150, .second, iv (150 : Int32), iv (512 : Int32), iv j, sl] [(.long S150)]))
          refine own_st (fun _ k => XS.bipush X.here hx rfl (hb hby own_d1_101) k) ?_
          show own_Goes p e below s _ _ (T.setTop (mkF m 103 #[rv a1, iv p1, own_jv S150, .second, iv (150 : Int32), iv (512 : Int32), iv j, sl] [(.int (32 : Int32)), (.long S150)]))
          refine own_st (fun _ k => XS.iloadN X.here hx rfl (hb hby own_d1_103) rfl  k) ?_
          show own_Goes p e below s _ _ (T.setTop (mkF m 104 #[rv a1, iv p1, own_jv S150, .second, iv (150 : Int32), iv (512 : Int32), iv j, sl] [(.int p1), (.int (32 : Int32)), (.long S150)]))
          refine own_st (fun _ k => XS.ifNo X.here hx rfl (hb hby own_d1_104) rfl ((if0 _ _).trans (feq c101).1) k) ?_
          show own_Goes p e below s _ _ (T.setTop (mkF m 107 #[rv a1, iv p1, own_jv S150, .second, iv (150 : Int32), iv (512 : Int32), iv j, sl] [(.int (32 : Int32)), (.long S150)]))
          refine own_st (fun _ k => XS.aloadN X.here hx rfl (hb hby own_d1_107) rfl rfl  k) ?_
          show own_Goes p e below s _ _ (T.setTop (mkF m 108 #[rv a1, iv p1, own_jv S150, .second, iv (150 : Int32), iv (512 : Int32), iv j, sl] [(.ref a1), (.int (32 : Int32)), (.long S150)]))
          refine own_st (fun _ k => XS.iload X.here hx rfl (hb hby own_d1_108) rfl  k) ?_
          show own_Goes p e below s _ _ (T.setTop (mkF m 110 #[rv a1, iv p1, own_jv S150, .second, iv (150 : Int32), iv (512 : Int32), iv j, sl] [(.int (150 : Int32)), (.ref a1), (.int (32 : Int32)), (.long S150)]))
          refine own_st (fun _ k => own_ldB X hx hZ e0 V1 (j := (150 : Int32)) (by decide) (g := (mkF m 110 #[rv a1, iv p1, own_jv S150, .second, iv (150 : Int32), iv (512 : Int32), iv j, sl] [(.int (150 : Int32)), (.ref a1), (.int (32 : Int32)), (.long S150)])) rfl rfl (hb hby own_d1_110) _ k) ?_
          show own_Goes p e below s _ _ (T.setTop (mkF m 111 #[rv a1, iv p1, own_jv S150, .second, iv (150 : Int32), iv (512 : Int32), iv j, sl] [(.int (f 150)), (.int (32 : Int32)), (.long S150)]))
          refine own_st (fun _ k => XS.goto X.here hx rfl (pc0 := 111) (pc' := 122) rfl (hb hby own_d1_111) (by decide) (by decide) k) ?_
          show own_Goes p e below s _ _ (T.setTop (mkF m 122 #[rv a1, iv p1, own_jv S150, .second, iv (150 : Int32), iv (512 : Int32), iv j, sl] [(.int (f 150)), (.int (32 : Int32)), (.long S150)]))
          refine own_st (fun _ k => XS.isub X.here hx rfl (hb hby own_d1_122) rfl k) ?_
          show own_Goes p e below s _ _ (T.setTop (mkF m 123 #[rv a1, iv p1, own_jv S150, .second, iv (150 : Int32), iv (512 : Int32), iv j, sl] [(.int ((32 : Int32) - (f 150))), (.long S150)]))
          refine own_st (fun _ k => XS.i2l X.here hx rfl (hb hby own_d1_123) rfl k) ?_
          show own_Goes p e below s _ _ (T.setTop (mkF m 124 #[rv a1, iv p1, own_jv S150, .second, iv (150 : Int32), iv (512 : Int32), iv j, sl] [(.long (((32 : Int32) - (f 150)).toInt64)), (.long S150)]))
          refine own_st (fun _ k => XS.ladd X.here hx rfl (hb hby own_d1_124) rfl k) ?_
          show own_Goes p e below s _ _ (T.setTop (mkF m 125 #[rv a1, iv p1, own_jv S150, .second, iv (150 : Int32), iv (512 : Int32), iv j, sl] [(.long (S150 + (((32 : Int32) - (f 150)).toInt64)))]))
          refine own_st (fun _ k => XS.lstoreN X.here hx rfl (hb hby own_d1_125) rfl (l' := #[rv a1, iv p1, own_jv (S150 + (((32 : Int32) - (f 150)).toInt64)), .second, iv (150 : Int32), iv (512 : Int32), iv j, sl]) rfl k) ?_
          show own_Goes p e below s _ _ (T.setTop (mkF m 126 #[rv a1, iv p1, own_jv (S150 + (((32 : Int32) - (f 150)).toInt64)), .second, iv (150 : Int32), iv (512 : Int32), iv j, sl] []))
          refine own_st (fun _ k => XS.iinc X.here hx rfl (hb hby own_d1_126) rfl (l' := #[rv a1, iv p1, own_jv (S150 + (((32 : Int32) - (f 150)).toInt64)), .second, iv (151 : Int32), iv (512 : Int32), iv j, sl]) rfl k) ?_
          show own_Goes p e below s _ _ (T.setTop (mkF m 129 #[rv a1, iv p1, own_jv (S150 + (((32 : Int32) - (f 150)).toInt64)), .second, iv (151 : Int32), iv (512 : Int32), iv j, sl] []))
          refine own_st (fun _ k => XS.goto X.here hx rfl (pc0 := 129) (pc' := 92) rfl (hb hby own_d1_129) (by decide) (by decide) k) ?_
          show own_Goes p e below s _ _ (T.setTop (mkF m 92 #[rv a1, iv p1, own_jv (S150 + (((32 : Int32) - (f 150)).toInt64)), .second, iv (151 : Int32), iv (512 : Int32), iv j, sl] []))
          have hS151 := own_add32 S150 f 150 hf (by omega)
          generalize (S150 + (((32 : Int32) - (f 150)).toInt64)) = S151 at hS151 ⊢
          show own_Goes p e below s _ _ (T.setTop (mkF m 92 #[rv a1, iv p1, own_jv S151, .second, iv (151 : Int32), iv (512 : Int32), iv j, sl] []))
          refine own_st (fun _ k => XS.iload X.here hx rfl (hb hby own_d1_92) rfl  k) ?_
          show own_Goes p e below s _ _ (T.setTop (mkF m 94 #[rv a1, iv p1, own_jv S151, .second, iv (151 : Int32), iv (512 : Int32), iv j, sl] [(.int (151 : Int32))]))
          refine own_st (fun _ k => XS.sipush X.here hx rfl (hb hby own_d1_94) k) ?_
          show own_Goes p e below s _ _ (T.setTop (mkF m 97 #[rv a1, iv p1, own_jv S151, .second, iv (151 : Int32), iv (512 : Int32), iv j, sl] [(.int (156 : Int32)), (.int (151 : Int32))]))
          refine own_st (fun _ k => XS.icmpNo X.here hx rfl (hb hby own_d1_97) rfl (tlt (by decide : (151 : Int32) < (156 : Int32))).2.1 k) ?_
          show own_Goes p e below s _ _ (T.setTop (mkF m 100 #[rv a1, iv p1, own_jv S151, .second, iv (151 : Int32), iv (512 : Int32), iv j, sl] []))
          refine own_st (fun _ k => XS.lloadN X.here hx rfl (hb hby own_d1_100) rfl  k) ?_
          show own_Goes p e below s _ _ (T.setTop (mkF m 101 #[rv a1, iv p1, own_jv S151, .second, iv (151 : Int32), iv (512 : Int32), iv j, sl] [(.long S151)]))
          refine own_st (fun _ k => XS.bipush X.here hx rfl (hb hby own_d1_101) k) ?_
          show own_Goes p e below s _ _ (T.setTop (mkF m 103 #[rv a1, iv p1, own_jv S151, .second, iv (151 : Int32), iv (512 : Int32), iv j, sl] [(.int (32 : Int32)), (.long S151)]))
          refine own_st (fun _ k => XS.iloadN X.here hx rfl (hb hby own_d1_103) rfl  k) ?_
          show own_Goes p e below s _ _ (T.setTop (mkF m 104 #[rv a1, iv p1, own_jv S151, .second, iv (151 : Int32), iv (512 : Int32), iv j, sl] [(.int p1), (.int (32 : Int32)), (.long S151)]))
          refine own_st (fun _ k => XS.ifNo X.here hx rfl (hb hby own_d1_104) rfl ((if0 _ _).trans (feq c101).1) k) ?_
          show own_Goes p e below s _ _ (T.setTop (mkF m 107 #[rv a1, iv p1, own_jv S151, .second, iv (151 : Int32), iv (512 : Int32), iv j, sl] [(.int (32 : Int32)), (.long S151)]))
          refine own_st (fun _ k => XS.aloadN X.here hx rfl (hb hby own_d1_107) rfl rfl  k) ?_
          show own_Goes p e below s _ _ (T.setTop (mkF m 108 #[rv a1, iv p1, own_jv S151, .second, iv (151 : Int32), iv (512 : Int32), iv j, sl] [(.ref a1), (.int (32 : Int32)), (.long S151)]))
          refine own_st (fun _ k => XS.iload X.here hx rfl (hb hby own_d1_108) rfl  k) ?_
          show own_Goes p e below s _ _ (T.setTop (mkF m 110 #[rv a1, iv p1, own_jv S151, .second, iv (151 : Int32), iv (512 : Int32), iv j, sl] [(.int (151 : Int32)), (.ref a1), (.int (32 : Int32)), (.long S151)]))
          refine own_st (fun _ k => own_ldB X hx hZ e0 V1 (j := (151 : Int32)) (by decide) (g := (mkF m 110 #[rv a1, iv p1, own_jv S151, .second, iv (151 : Int32), iv (512 : Int32), iv j, sl] [(.int (151 : Int32)), (.ref a1), (.int (32 : Int32)), (.long S151)])) rfl rfl (hb hby own_d1_110) _ k) ?_
          show own_Goes p e below s _ _ (T.setTop (mkF m 111 #[rv a1, iv p1, own_jv S151, .second, iv (151 : Int32), iv (512 : Int32), iv j, sl] [(.int (f 151)), (.int (32 : Int32)), (.long S151)]))
          refine own_st (fun _ k => XS.goto X.here hx rfl (pc0 := 111) (pc' := 122) rfl (hb hby own_d1_111) (by decide) (by decide) k) ?_
          show own_Goes p e below s _ _ (T.setTop (mkF m 122 #[rv a1, iv p1, own_jv S151, .second, iv (151 : Int32), iv (512 : Int32), iv j, sl] [(.int (f 151)), (.int (32 : Int32)), (.long S151)]))
          refine own_st (fun _ k => XS.isub X.here hx rfl (hb hby own_d1_122) rfl k) ?_
          show own_Goes p e below s _ _ (T.setTop (mkF m 123 #[rv a1, iv p1, own_jv S151, .second, iv (151 : Int32), iv (512 : Int32), iv j, sl] [(.int ((32 : Int32) - (f 151))), (.long S151)]))
          refine own_st (fun _ k => XS.i2l X.here hx rfl (hb hby own_d1_123) rfl k) ?_
          show own_Goes p e below s _ _ (T.setTop (mkF m 124 #[rv a1, iv p1, own_jv S151, .second, iv (151 : Int32), iv (512 : Int32), iv j, sl] [(.long (((32 : Int32) - (f 151)).toInt64)), (.long S151)]))
          refine own_st (fun _ k => XS.ladd X.here hx rfl (hb hby own_d1_124) rfl k) ?_
          show own_Goes p e below s _ _ (T.setTop (mkF m 125 #[rv a1, iv p1, own_jv S151, .second, iv (151 : Int32), iv (512 : Int32), iv j, sl] [(.long (S151 + (((32 : Int32) - (f 151)).toInt64)))]))
          refine own_st (fun _ k => XS.lstoreN X.here hx rfl (hb hby own_d1_125) rfl (l' := #[rv a1, iv p1, own_jv (S151 + (((32 : Int32) - (f 151)).toInt64)), .second, iv (151 : Int32), iv (512 : Int32), iv j, sl]) rfl k) ?_
          show own_Goes p e below s _ _ (T.setTop (mkF m 126 #[rv a1, iv p1, own_jv (S151 + (((32 : Int32) - (f 151)).toInt64)), .second, iv (151 : Int32), iv (512 : Int32), iv j, sl] []))
          refine own_st (fun _ k => XS.iinc X.here hx rfl (hb hby own_d1_126) rfl (l' := #[rv a1, iv p1, own_jv (S151 + (((32 : Int32) - (f 151)).toInt64)), .second, iv (152 : Int32), iv (512 : Int32), iv j, sl]) rfl k) ?_
          show own_Goes p e below s _ _ (T.setTop (mkF m 129 #[rv a1, iv p1, own_jv (S151 + (((32 : Int32) - (f 151)).toInt64)), .second, iv (152 : Int32), iv (512 : Int32), iv j, sl] []))
          refine own_st (fun _ k => XS.goto X.here hx rfl (pc0 := 129) (pc' := 92) rfl (hb hby own_d1_129) (by decide) (by decide) k) ?_
          show own_Goes p e below s _ _ (T.setTop (mkF m 92 #[rv a1, iv p1, own_jv (S151 + (((32 : Int32) - (f 151)).toInt64)), .second, iv (152 : Int32), iv (512 : Int32), iv j, sl] []))
          have hS152 := own_add32 S151 f 151 hf (by omega)
          generalize (S151 + (((32 : Int32) - (f 151)).toInt64)) = S152 at hS152 ⊢
          show own_Goes p e below s _ _ (T.setTop (mkF m 92 #[rv a1, iv p1, own_jv S152, .second, iv (152 : Int32), iv (512 : Int32), iv j, sl] []))
          refine own_st (fun _ k => XS.iload X.here hx rfl (hb hby own_d1_92) rfl  k) ?_
          show own_Goes p e below s _ _ (T.setTop (mkF m 94 #[rv a1, iv p1, own_jv S152, .second, iv (152 : Int32), iv (512 : Int32), iv j, sl] [(.int (152 : Int32))]))
          refine own_st (fun _ k => XS.sipush X.here hx rfl (hb hby own_d1_94) k) ?_
          show own_Goes p e below s _ _ (T.setTop (mkF m 97 #[rv a1, iv p1, own_jv S152, .second, iv (152 : Int32), iv (512 : Int32), iv j, sl] [(.int (156 : Int32)), (.int (152 : Int32))]))
          refine own_st (fun _ k => XS.icmpNo X.here hx rfl (hb hby own_d1_97) rfl (tlt (by decide : (152 : Int32) < (156 : Int32))).2.1 k) ?_
          show own_Goes p e below s _ _ (T.setTop (mkF m 100 #[rv a1, iv p1, own_jv S152, .second, iv (152 : Int32), iv (512 : Int32), iv j, sl] []))
          refine own_st (fun _ k => XS.lloadN X.here hx rfl (hb hby own_d1_100) rfl  k) ?_
          show own_Goes p e below s _ _ (T.setTop (mkF m 101 #[rv a1, iv p1, own_jv S152, .second, iv (152 : Int32), iv (512 : Int32), iv j, sl] [(.long S152)]))
          refine own_st (fun _ k => XS.bipush X.here hx rfl (hb hby own_d1_101) k) ?_
          show own_Goes p e below s _ _ (T.setTop (mkF m 103 #[rv a1, iv p1, own_jv S152, .second, iv (152 : Int32), iv (512 : Int32), iv j, sl] [(.int (32 : Int32)), (.long S152)]))
          refine own_st (fun _ k => XS.iloadN X.here hx rfl (hb hby own_d1_103) rfl  k) ?_
          show own_Goes p e below s _ _ (T.setTop (mkF m 104 #[rv a1, iv p1, own_jv S152, .second, iv (152 : Int32), iv (512 : Int32), iv j, sl] [(.int p1), (.int (32 : Int32)), (.long S152)]))
          refine own_st (fun _ k => XS.ifNo X.here hx rfl (hb hby own_d1_104) rfl ((if0 _ _).trans (feq c101).1) k) ?_
          show own_Goes p e below s _ _ (T.setTop (mkF m 107 #[rv a1, iv p1, own_jv S152, .second, iv (152 : Int32), iv (512 : Int32), iv j, sl] [(.int (32 : Int32)), (.long S152)]))
          refine own_st (fun _ k => XS.aloadN X.here hx rfl (hb hby own_d1_107) rfl rfl  k) ?_
          show own_Goes p e below s _ _ (T.setTop (mkF m 108 #[rv a1, iv p1, own_jv S152, .second, iv (152 : Int32), iv (512 : Int32), iv j, sl] [(.ref a1), (.int (32 : Int32)), (.long S152)]))
          refine own_st (fun _ k => XS.iload X.here hx rfl (hb hby own_d1_108) rfl  k) ?_
          show own_Goes p e below s _ _ (T.setTop (mkF m 110 #[rv a1, iv p1, own_jv S152, .second, iv (152 : Int32), iv (512 : Int32), iv j, sl] [(.int (152 : Int32)), (.ref a1), (.int (32 : Int32)), (.long S152)]))
          refine own_st (fun _ k => own_ldB X hx hZ e0 V1 (j := (152 : Int32)) (by decide) (g := (mkF m 110 #[rv a1, iv p1, own_jv S152, .second, iv (152 : Int32), iv (512 : Int32), iv j, sl] [(.int (152 : Int32)), (.ref a1), (.int (32 : Int32)), (.long S152)])) rfl rfl (hb hby own_d1_110) _ k) ?_
          show own_Goes p e below s _ _ (T.setTop (mkF m 111 #[rv a1, iv p1, own_jv S152, .second, iv (152 : Int32), iv (512 : Int32), iv j, sl] [(.int (f 152)), (.int (32 : Int32)), (.long S152)]))
          refine own_st (fun _ k => XS.goto X.here hx rfl (pc0 := 111) (pc' := 122) rfl (hb hby own_d1_111) (by decide) (by decide) k) ?_
          show own_Goes p e below s _ _ (T.setTop (mkF m 122 #[rv a1, iv p1, own_jv S152, .second, iv (152 : Int32), iv (512 : Int32), iv j, sl] [(.int (f 152)), (.int (32 : Int32)), (.long S152)]))
          refine own_st (fun _ k => XS.isub X.here hx rfl (hb hby own_d1_122) rfl k) ?_
          show own_Goes p e below s _ _ (T.setTop (mkF m 123 #[rv a1, iv p1, own_jv S152, .second, iv (152 : Int32), iv (512 : Int32), iv j, sl] [(.int ((32 : Int32) - (f 152))), (.long S152)]))
          refine own_st (fun _ k => XS.i2l X.here hx rfl (hb hby own_d1_123) rfl k) ?_
          show own_Goes p e below s _ _ (T.setTop (mkF m 124 #[rv a1, iv p1, own_jv S152, .second, iv (152 : Int32), iv (512 : Int32), iv j, sl] [(.long (((32 : Int32) - (f 152)).toInt64)), (.long S152)]))
          refine own_st (fun _ k => XS.ladd X.here hx rfl (hb hby own_d1_124) rfl k) ?_
          show own_Goes p e below s _ _ (T.setTop (mkF m 125 #[rv a1, iv p1, own_jv S152, .second, iv (152 : Int32), iv (512 : Int32), iv j, sl] [(.long (S152 + (((32 : Int32) - (f 152)).toInt64)))]))
          refine own_st (fun _ k => XS.lstoreN X.here hx rfl (hb hby own_d1_125) rfl (l' := #[rv a1, iv p1, own_jv (S152 + (((32 : Int32) - (f 152)).toInt64)), .second, iv (152 : Int32), iv (512 : Int32), iv j, sl]) rfl k) ?_
          show own_Goes p e below s _ _ (T.setTop (mkF m 126 #[rv a1, iv p1, own_jv (S152 + (((32 : Int32) - (f 152)).toInt64)), .second, iv (152 : Int32), iv (512 : Int32), iv j, sl] []))
          refine own_st (fun _ k => XS.iinc X.here hx rfl (hb hby own_d1_126) rfl (l' := #[rv a1, iv p1, own_jv (S152 + (((32 : Int32) - (f 152)).toInt64)), .second, iv (153 : Int32), iv (512 : Int32), iv j, sl]) rfl k) ?_
          show own_Goes p e below s _ _ (T.setTop (mkF m 129 #[rv a1, iv p1, own_jv (S152 + (((32 : Int32) - (f 152)).toInt64)), .second, iv (153 : Int32), iv (512 : Int32), iv j, sl] []))
          refine own_st (fun _ k => XS.goto X.here hx rfl (pc0 := 129) (pc' := 92) rfl (hb hby own_d1_129) (by decide) (by decide) k) ?_
          show own_Goes p e below s _ _ (T.setTop (mkF m 92 #[rv a1, iv p1, own_jv (S152 + (((32 : Int32) - (f 152)).toInt64)), .second, iv (153 : Int32), iv (512 : Int32), iv j, sl] []))
          have hS153 := own_add32 S152 f 152 hf (by omega)
          generalize (S152 + (((32 : Int32) - (f 152)).toInt64)) = S153 at hS153 ⊢
          show own_Goes p e below s _ _ (T.setTop (mkF m 92 #[rv a1, iv p1, own_jv S153, .second, iv (153 : Int32), iv (512 : Int32), iv j, sl] []))
          refine own_st (fun _ k => XS.iload X.here hx rfl (hb hby own_d1_92) rfl  k) ?_
          show own_Goes p e below s _ _ (T.setTop (mkF m 94 #[rv a1, iv p1, own_jv S153, .second, iv (153 : Int32), iv (512 : Int32), iv j, sl] [(.int (153 : Int32))]))
          refine own_st (fun _ k => XS.sipush X.here hx rfl (hb hby own_d1_94) k) ?_
          show own_Goes p e below s _ _ (T.setTop (mkF m 97 #[rv a1, iv p1, own_jv S153, .second, iv (153 : Int32), iv (512 : Int32), iv j, sl] [(.int (156 : Int32)), (.int (153 : Int32))]))
          refine own_st (fun _ k => XS.icmpNo X.here hx rfl (hb hby own_d1_97) rfl (tlt (by decide : (153 : Int32) < (156 : Int32))).2.1 k) ?_
          show own_Goes p e below s _ _ (T.setTop (mkF m 100 #[rv a1, iv p1, own_jv S153, .second, iv (153 : Int32), iv (512 : Int32), iv j, sl] []))
          refine own_st (fun _ k => XS.lloadN X.here hx rfl (hb hby own_d1_100) rfl  k) ?_
          show own_Goes p e below s _ _ (T.setTop (mkF m 101 #[rv a1, iv p1, own_jv S153, .second, iv (153 : Int32), iv (512 : Int32), iv j, sl] [(.long S153)]))
          refine own_st (fun _ k => XS.bipush X.here hx rfl (hb hby own_d1_101) k) ?_
          show own_Goes p e below s _ _ (T.setTop (mkF m 103 #[rv a1, iv p1, own_jv S153, .second, iv (153 : Int32), iv (512 : Int32), iv j, sl] [(.int (32 : Int32)), (.long S153)]))
          refine own_st (fun _ k => XS.iloadN X.here hx rfl (hb hby own_d1_103) rfl  k) ?_
          show own_Goes p e below s _ _ (T.setTop (mkF m 104 #[rv a1, iv p1, own_jv S153, .second, iv (153 : Int32), iv (512 : Int32), iv j, sl] [(.int p1), (.int (32 : Int32)), (.long S153)]))
          refine own_st (fun _ k => XS.ifNo X.here hx rfl (hb hby own_d1_104) rfl ((if0 _ _).trans (feq c101).1) k) ?_
          show own_Goes p e below s _ _ (T.setTop (mkF m 107 #[rv a1, iv p1, own_jv S153, .second, iv (153 : Int32), iv (512 : Int32), iv j, sl] [(.int (32 : Int32)), (.long S153)]))
          refine own_st (fun _ k => XS.aloadN X.here hx rfl (hb hby own_d1_107) rfl rfl  k) ?_
          show own_Goes p e below s _ _ (T.setTop (mkF m 108 #[rv a1, iv p1, own_jv S153, .second, iv (153 : Int32), iv (512 : Int32), iv j, sl] [(.ref a1), (.int (32 : Int32)), (.long S153)]))
          refine own_st (fun _ k => XS.iload X.here hx rfl (hb hby own_d1_108) rfl  k) ?_
          show own_Goes p e below s _ _ (T.setTop (mkF m 110 #[rv a1, iv p1, own_jv S153, .second, iv (153 : Int32), iv (512 : Int32), iv j, sl] [(.int (153 : Int32)), (.ref a1), (.int (32 : Int32)), (.long S153)]))
          refine own_st (fun _ k => own_ldB X hx hZ e0 V1 (j := (153 : Int32)) (by decide) (g := (mkF m 110 #[rv a1, iv p1, own_jv S153, .second, iv (153 : Int32), iv (512 : Int32), iv j, sl] [(.int (153 : Int32)), (.ref a1), (.int (32 : Int32)), (.long S153)])) rfl rfl (hb hby own_d1_110) _ k) ?_
          show own_Goes p e below s _ _ (T.setTop (mkF m 111 #[rv a1, iv p1, own_jv S153, .second, iv (153 : Int32), iv (512 : Int32), iv j, sl] [(.int (f 153)), (.int (32 : Int32)), (.long S153)]))
          refine own_st (fun _ k => XS.goto X.here hx rfl (pc0 := 111) (pc' := 122) rfl (hb hby own_d1_111) (by decide) (by decide) k) ?_
          show own_Goes p e below s _ _ (T.setTop (mkF m 122 #[rv a1, iv p1, own_jv S153, .second, iv (153 : Int32), iv (512 : Int32), iv j, sl] [(.int (f 153)), (.int (32 : Int32)), (.long S153)]))
          refine own_st (fun _ k => XS.isub X.here hx rfl (hb hby own_d1_122) rfl k) ?_
          show own_Goes p e below s _ _ (T.setTop (mkF m 123 #[rv a1, iv p1, own_jv S153, .second, iv (153 : Int32), iv (512 : Int32), iv j, sl] [(.int ((32 : Int32) - (f 153))), (.long S153)]))
          refine own_st (fun _ k => XS.i2l X.here hx rfl (hb hby own_d1_123) rfl k) ?_
          show own_Goes p e below s _ _ (T.setTop (mkF m 124 #[rv a1, iv p1, own_jv S153, .second, iv (153 : Int32), iv (512 : Int32), iv j, sl] [(.long (((32 : Int32) - (f 153)).toInt64)), (.long S153)]))
          refine own_st (fun _ k => XS.ladd X.here hx rfl (hb hby own_d1_124) rfl k) ?_
          show own_Goes p e below s _ _ (T.setTop (mkF m 125 #[rv a1, iv p1, own_jv S153, .second, iv (153 : Int32), iv (512 : Int32), iv j, sl] [(.long (S153 + (((32 : Int32) - (f 153)).toInt64)))]))
          refine own_st (fun _ k => XS.lstoreN X.here hx rfl (hb hby own_d1_125) rfl (l' := #[rv a1, iv p1, own_jv (S153 + (((32 : Int32) - (f 153)).toInt64)), .second, iv (153 : Int32), iv (512 : Int32), iv j, sl]) rfl k) ?_
          show own_Goes p e below s _ _ (T.setTop (mkF m 126 #[rv a1, iv p1, own_jv (S153 + (((32 : Int32) - (f 153)).toInt64)), .second, iv (153 : Int32), iv (512 : Int32), iv j, sl] []))
          refine own_st (fun _ k => XS.iinc X.here hx rfl (hb hby own_d1_126) rfl (l' := #[rv a1, iv p1, own_jv (S153 + (((32 : Int32) - (f 153)).toInt64)), .second, iv (154 : Int32), iv (512 : Int32), iv j, sl]) rfl k) ?_
          show own_Goes p e below s _ _ (T.setTop (mkF m 129 #[rv a1, iv p1, own_jv (S153 + (((32 : Int32) - (f 153)).toInt64)), .second, iv (154 : Int32), iv (512 : Int32), iv j, sl] []))
          refine own_st (fun _ k => XS.goto X.here hx rfl (pc0 := 129) (pc' := 92) rfl (hb hby own_d1_129) (by decide) (by decide) k) ?_
          show own_Goes p e below s _ _ (T.setTop (mkF m 92 #[rv a1, iv p1, own_jv (S153 + (((32 : Int32) - (f 153)).toInt64)), .second, iv (154 : Int32), iv (512 : Int32), iv j, sl] []))
          have hS154 := own_add32 S153 f 153 hf (by omega)
          generalize (S153 + (((32 : Int32) - (f 153)).toInt64)) = S154 at hS154 ⊢
          show own_Goes p e below s _ _ (T.setTop (mkF m 92 #[rv a1, iv p1, own_jv S154, .second, iv (154 : Int32), iv (512 : Int32), iv j, sl] []))
          refine own_st (fun _ k => XS.iload X.here hx rfl (hb hby own_d1_92) rfl  k) ?_
          show own_Goes p e below s _ _ (T.setTop (mkF m 94 #[rv a1, iv p1, own_jv S154, .second, iv (154 : Int32), iv (512 : Int32), iv j, sl] [(.int (154 : Int32))]))
          refine own_st (fun _ k => XS.sipush X.here hx rfl (hb hby own_d1_94) k) ?_
          show own_Goes p e below s _ _ (T.setTop (mkF m 97 #[rv a1, iv p1, own_jv S154, .second, iv (154 : Int32), iv (512 : Int32), iv j, sl] [(.int (156 : Int32)), (.int (154 : Int32))]))
          refine own_st (fun _ k => XS.icmpNo X.here hx rfl (hb hby own_d1_97) rfl (tlt (by decide : (154 : Int32) < (156 : Int32))).2.1 k) ?_
          show own_Goes p e below s _ _ (T.setTop (mkF m 100 #[rv a1, iv p1, own_jv S154, .second, iv (154 : Int32), iv (512 : Int32), iv j, sl] []))
          refine own_st (fun _ k => XS.lloadN X.here hx rfl (hb hby own_d1_100) rfl  k) ?_
          show own_Goes p e below s _ _ (T.setTop (mkF m 101 #[rv a1, iv p1, own_jv S154, .second, iv (154 : Int32), iv (512 : Int32), iv j, sl] [(.long S154)]))
          refine own_st (fun _ k => XS.bipush X.here hx rfl (hb hby own_d1_101) k) ?_
          show own_Goes p e below s _ _ (T.setTop (mkF m 103 #[rv a1, iv p1, own_jv S154, .second, iv (154 : Int32), iv (512 : Int32), iv j, sl] [(.int (32 : Int32)), (.long S154)]))
          refine own_st (fun _ k => XS.iloadN X.here hx rfl (hb hby own_d1_103) rfl  k) ?_
          show own_Goes p e below s _ _ (T.setTop (mkF m 104 #[rv a1, iv p1, own_jv S154, .second, iv (154 : Int32), iv (512 : Int32), iv j, sl] [(.int p1), (.int (32 : Int32)), (.long S154)]))
          refine own_st (fun _ k => XS.ifNo X.here hx rfl (hb hby own_d1_104) rfl ((if0 _ _).trans (feq c101).1) k) ?_
          show own_Goes p e below s _ _ (T.setTop (mkF m 107 #[rv a1, iv p1, own_jv S154, .second, iv (154 : Int32), iv (512 : Int32), iv j, sl] [(.int (32 : Int32)), (.long S154)]))
          refine own_st (fun _ k => XS.aloadN X.here hx rfl (hb hby own_d1_107) rfl rfl  k) ?_
          show own_Goes p e below s _ _ (T.setTop (mkF m 108 #[rv a1, iv p1, own_jv S154, .second, iv (154 : Int32), iv (512 : Int32), iv j, sl] [(.ref a1), (.int (32 : Int32)), (.long S154)]))
          refine own_st (fun _ k => XS.iload X.here hx rfl (hb hby own_d1_108) rfl  k) ?_
          show own_Goes p e below s _ _ (T.setTop (mkF m 110 #[rv a1, iv p1, own_jv S154, .second, iv (154 : Int32), iv (512 : Int32), iv j, sl] [(.int (154 : Int32)), (.ref a1), (.int (32 : Int32)), (.long S154)]))
          refine own_st (fun _ k => own_ldB X hx hZ e0 V1 (j := (154 : Int32)) (by decide) (g := (mkF m 110 #[rv a1, iv p1, own_jv S154, .second, iv (154 : Int32), iv (512 : Int32), iv j, sl] [(.int (154 : Int32)), (.ref a1), (.int (32 : Int32)), (.long S154)])) rfl rfl (hb hby own_d1_110) _ k) ?_
          show own_Goes p e below s _ _ (T.setTop (mkF m 111 #[rv a1, iv p1, own_jv S154, .second, iv (154 : Int32), iv (512 : Int32), iv j, sl] [(.int (f 154)), (.int (32 : Int32)), (.long S154)]))
          refine own_st (fun _ k => XS.goto X.here hx rfl (pc0 := 111) (pc' := 122) rfl (hb hby own_d1_111) (by decide) (by decide) k) ?_
          show own_Goes p e below s _ _ (T.setTop (mkF m 122 #[rv a1, iv p1, own_jv S154, .second, iv (154 : Int32), iv (512 : Int32), iv j, sl] [(.int (f 154)), (.int (32 : Int32)), (.long S154)]))
          refine own_st (fun _ k => XS.isub X.here hx rfl (hb hby own_d1_122) rfl k) ?_
          show own_Goes p e below s _ _ (T.setTop (mkF m 123 #[rv a1, iv p1, own_jv S154, .second, iv (154 : Int32), iv (512 : Int32), iv j, sl] [(.int ((32 : Int32) - (f 154))), (.long S154)]))
          refine own_st (fun _ k => XS.i2l X.here hx rfl (hb hby own_d1_123) rfl k) ?_
          show own_Goes p e below s _ _ (T.setTop (mkF m 124 #[rv a1, iv p1, own_jv S154, .second, iv (154 : Int32), iv (512 : Int32), iv j, sl] [(.long (((32 : Int32) - (f 154)).toInt64)), (.long S154)]))
          refine own_st (fun _ k => XS.ladd X.here hx rfl (hb hby own_d1_124) rfl k) ?_
          show own_Goes p e below s _ _ (T.setTop (mkF m 125 #[rv a1, iv p1, own_jv S154, .second, iv (154 : Int32), iv (512 : Int32), iv j, sl] [(.long (S154 + (((32 : Int32) - (f 154)).toInt64)))]))
          refine own_st (fun _ k => XS.lstoreN X.here hx rfl (hb hby own_d1_125) rfl (l' := #[rv a1, iv p1, own_jv (S154 + (((32 : Int32) - (f 154)).toInt64)), .second, iv (154 : Int32), iv (512 : Int32), iv j, sl]) rfl k) ?_
          show own_Goes p e below s _ _ (T.setTop (mkF m 126 #[rv a1, iv p1, own_jv (S154 + (((32 : Int32) - (f 154)).toInt64)), .second, iv (154 : Int32), iv (512 : Int32), iv j, sl] []))
          refine own_st (fun _ k => XS.iinc X.here hx rfl (hb hby own_d1_126) rfl (l' := #[rv a1, iv p1, own_jv (S154 + (((32 : Int32) - (f 154)).toInt64)), .second, iv (155 : Int32), iv (512 : Int32), iv j, sl]) rfl k) ?_
          show own_Goes p e below s _ _ (T.setTop (mkF m 129 #[rv a1, iv p1, own_jv (S154 + (((32 : Int32) - (f 154)).toInt64)), .second, iv (155 : Int32), iv (512 : Int32), iv j, sl] []))
          refine own_st (fun _ k => XS.goto X.here hx rfl (pc0 := 129) (pc' := 92) rfl (hb hby own_d1_129) (by decide) (by decide) k) ?_
          show own_Goes p e below s _ _ (T.setTop (mkF m 92 #[rv a1, iv p1, own_jv (S154 + (((32 : Int32) - (f 154)).toInt64)), .second, iv (155 : Int32), iv (512 : Int32), iv j, sl] []))
          have hS155 := own_add32 S154 f 154 hf (by omega)
          generalize (S154 + (((32 : Int32) - (f 154)).toInt64)) = S155 at hS155 ⊢
          show own_Goes p e below s _ _ (T.setTop (mkF m 92 #[rv a1, iv p1, own_jv S155, .second, iv (155 : Int32), iv (512 : Int32), iv j, sl] []))
          refine own_st (fun _ k => XS.iload X.here hx rfl (hb hby own_d1_92) rfl  k) ?_
          show own_Goes p e below s _ _ (T.setTop (mkF m 94 #[rv a1, iv p1, own_jv S155, .second, iv (155 : Int32), iv (512 : Int32), iv j, sl] [(.int (155 : Int32))]))
          refine own_st (fun _ k => XS.sipush X.here hx rfl (hb hby own_d1_94) k) ?_
          show own_Goes p e below s _ _ (T.setTop (mkF m 97 #[rv a1, iv p1, own_jv S155, .second, iv (155 : Int32), iv (512 : Int32), iv j, sl] [(.int (156 : Int32)), (.int (155 : Int32))]))
          refine own_st (fun _ k => XS.icmpNo X.here hx rfl (hb hby own_d1_97) rfl (tlt (by decide : (155 : Int32) < (156 : Int32))).2.1 k) ?_
          show own_Goes p e below s _ _ (T.setTop (mkF m 100 #[rv a1, iv p1, own_jv S155, .second, iv (155 : Int32), iv (512 : Int32), iv j, sl] []))
          refine own_st (fun _ k => XS.lloadN X.here hx rfl (hb hby own_d1_100) rfl  k) ?_
          show own_Goes p e below s _ _ (T.setTop (mkF m 101 #[rv a1, iv p1, own_jv S155, .second, iv (155 : Int32), iv (512 : Int32), iv j, sl] [(.long S155)]))
          refine own_st (fun _ k => XS.bipush X.here hx rfl (hb hby own_d1_101) k) ?_
          show own_Goes p e below s _ _ (T.setTop (mkF m 103 #[rv a1, iv p1, own_jv S155, .second, iv (155 : Int32), iv (512 : Int32), iv j, sl] [(.int (32 : Int32)), (.long S155)]))
          refine own_st (fun _ k => XS.iloadN X.here hx rfl (hb hby own_d1_103) rfl  k) ?_
          show own_Goes p e below s _ _ (T.setTop (mkF m 104 #[rv a1, iv p1, own_jv S155, .second, iv (155 : Int32), iv (512 : Int32), iv j, sl] [(.int p1), (.int (32 : Int32)), (.long S155)]))
          refine own_st (fun _ k => XS.ifNo X.here hx rfl (hb hby own_d1_104) rfl ((if0 _ _).trans (feq c101).1) k) ?_
          show own_Goes p e below s _ _ (T.setTop (mkF m 107 #[rv a1, iv p1, own_jv S155, .second, iv (155 : Int32), iv (512 : Int32), iv j, sl] [(.int (32 : Int32)), (.long S155)]))
          refine own_st (fun _ k => XS.aloadN X.here hx rfl (hb hby own_d1_107) rfl rfl  k) ?_
          show own_Goes p e below s _ _ (T.setTop (mkF m 108 #[rv a1, iv p1, own_jv S155, .second, iv (155 : Int32), iv (512 : Int32), iv j, sl] [(.ref a1), (.int (32 : Int32)), (.long S155)]))
          refine own_st (fun _ k => XS.iload X.here hx rfl (hb hby own_d1_108) rfl  k) ?_
          show own_Goes p e below s _ _ (T.setTop (mkF m 110 #[rv a1, iv p1, own_jv S155, .second, iv (155 : Int32), iv (512 : Int32), iv j, sl] [(.int (155 : Int32)), (.ref a1), (.int (32 : Int32)), (.long S155)]))
          refine own_st (fun _ k => own_ldB X hx hZ e0 V1 (j := (155 : Int32)) (by decide) (g := (mkF m 110 #[rv a1, iv p1, own_jv S155, .second, iv (155 : Int32), iv (512 : Int32), iv j, sl] [(.int (155 : Int32)), (.ref a1), (.int (32 : Int32)), (.long S155)])) rfl rfl (hb hby own_d1_110) _ k) ?_
          show own_Goes p e below s _ _ (T.setTop (mkF m 111 #[rv a1, iv p1, own_jv S155, .second, iv (155 : Int32), iv (512 : Int32), iv j, sl] [(.int (f 155)), (.int (32 : Int32)), (.long S155)]))
          refine own_st (fun _ k => XS.goto X.here hx rfl (pc0 := 111) (pc' := 122) rfl (hb hby own_d1_111) (by decide) (by decide) k) ?_
          show own_Goes p e below s _ _ (T.setTop (mkF m 122 #[rv a1, iv p1, own_jv S155, .second, iv (155 : Int32), iv (512 : Int32), iv j, sl] [(.int (f 155)), (.int (32 : Int32)), (.long S155)]))
          refine own_st (fun _ k => XS.isub X.here hx rfl (hb hby own_d1_122) rfl k) ?_
          show own_Goes p e below s _ _ (T.setTop (mkF m 123 #[rv a1, iv p1, own_jv S155, .second, iv (155 : Int32), iv (512 : Int32), iv j, sl] [(.int ((32 : Int32) - (f 155))), (.long S155)]))
          refine own_st (fun _ k => XS.i2l X.here hx rfl (hb hby own_d1_123) rfl k) ?_
          show own_Goes p e below s _ _ (T.setTop (mkF m 124 #[rv a1, iv p1, own_jv S155, .second, iv (155 : Int32), iv (512 : Int32), iv j, sl] [(.long (((32 : Int32) - (f 155)).toInt64)), (.long S155)]))
          refine own_st (fun _ k => XS.ladd X.here hx rfl (hb hby own_d1_124) rfl k) ?_
          show own_Goes p e below s _ _ (T.setTop (mkF m 125 #[rv a1, iv p1, own_jv S155, .second, iv (155 : Int32), iv (512 : Int32), iv j, sl] [(.long (S155 + (((32 : Int32) - (f 155)).toInt64)))]))
          refine own_st (fun _ k => XS.lstoreN X.here hx rfl (hb hby own_d1_125) rfl (l' := #[rv a1, iv p1, own_jv (S155 + (((32 : Int32) - (f 155)).toInt64)), .second, iv (155 : Int32), iv (512 : Int32), iv j, sl]) rfl k) ?_
          show own_Goes p e below s _ _ (T.setTop (mkF m 126 #[rv a1, iv p1, own_jv (S155 + (((32 : Int32) - (f 155)).toInt64)), .second, iv (155 : Int32), iv (512 : Int32), iv j, sl] []))
          refine own_st (fun _ k => XS.iinc X.here hx rfl (hb hby own_d1_126) rfl (l' := #[rv a1, iv p1, own_jv (S155 + (((32 : Int32) - (f 155)).toInt64)), .second, iv (156 : Int32), iv (512 : Int32), iv j, sl]) rfl k) ?_
          show own_Goes p e below s _ _ (T.setTop (mkF m 129 #[rv a1, iv p1, own_jv (S155 + (((32 : Int32) - (f 155)).toInt64)), .second, iv (156 : Int32), iv (512 : Int32), iv j, sl] []))
          refine own_st (fun _ k => XS.goto X.here hx rfl (pc0 := 129) (pc' := 92) rfl (hb hby own_d1_129) (by decide) (by decide) k) ?_
          show own_Goes p e below s _ _ (T.setTop (mkF m 92 #[rv a1, iv p1, own_jv (S155 + (((32 : Int32) - (f 155)).toInt64)), .second, iv (156 : Int32), iv (512 : Int32), iv j, sl] []))
          have hS156 := own_add32 S155 f 155 hf (by omega)
          generalize (S155 + (((32 : Int32) - (f 155)).toInt64)) = S156 at hS156 ⊢
          show own_Goes p e below s _ _ (T.setTop (mkF m 92 #[rv a1, iv p1, own_jv S156, .second, iv (156 : Int32), iv (512 : Int32), iv j, sl] []))
          refine own_st (fun _ k => XS.iload X.here hx rfl (hb hby own_d1_92) rfl  k) ?_
          show own_Goes p e below s _ _ (T.setTop (mkF m 94 #[rv a1, iv p1, own_jv S156, .second, iv (156 : Int32), iv (512 : Int32), iv j, sl] [(.int (156 : Int32))]))
          refine own_st (fun _ k => XS.sipush X.here hx rfl (hb hby own_d1_94) k) ?_
          show own_Goes p e below s _ _ (T.setTop (mkF m 97 #[rv a1, iv p1, own_jv S156, .second, iv (156 : Int32), iv (512 : Int32), iv j, sl] [(.int (156 : Int32)), (.int (156 : Int32))]))
          refine own_st (fun _ k => XS.icmpYes X.here hx rfl (pc0 := 97) (pc' := 132) rfl (hb hby own_d1_97) rfl (flt (by decide : ¬ ((156 : Int32) < (156 : Int32)))).2.1 (by decide) (by decide) k) ?_
          show own_Goes p e below s _ _ (T.setTop (mkF m 132 #[rv a1, iv p1, own_jv S156, .second, iv (156 : Int32), iv (512 : Int32), iv j, sl] []))
          refine own_st (fun _ k => XS.lloadN X.here hx rfl (hb hby own_d1_132) rfl  k) ?_
          show own_Goes p e below s _ _ (T.setTop (mkF m 133 #[rv a1, iv p1, own_jv S156, .second, iv (156 : Int32), iv (512 : Int32), iv j, sl] [(.long S156)]))
          exact own_retJ X hx hlk hret (hb hby own_d1_133) (by decide) (by decide) ⟨S156, rfl, fun _ => by show _ = own_sum (fun n => (f n).toInt) 512 + 256 - ((f 148).toInt + (f 149).toInt + (f 150).toInt + (f 151).toInt + (f 152).toInt + (f 153).toInt + (f 154).toInt + (f 155).toInt); omega, fun q => absurd q c101i, N0, e0⟩
      | succ k ih =>
        intro j S sl hk hj0 hS hO
        refine own_st (fun _ k => XS.iload X.here hx rfl (hb hby own_d1_17) rfl  k) ?_
        show own_Goes p e below s _ _ (T.setTop (mkF m 19 #[rv a1, iv p1, own_jv S, .second, rv a1, iv (512 : Int32), iv j, sl] [(.int j)]))
        refine own_st (fun _ k => XS.iload X.here hx rfl (hb hby own_d1_19) rfl  k) ?_
        show own_Goes p e below s _ _ (T.setTop (mkF m 21 #[rv a1, iv p1, own_jv S, .second, rv a1, iv (512 : Int32), iv j, sl] [(.int (512 : Int32)), (.int j)]))
        by_cases c105 : j < (512 : Int32)
        · have c105i : j.toInt < 512 := own_i_lt c105
          refine own_st (fun _ k => XS.icmpNo X.here hx rfl (hb hby own_d1_21) rfl (tlt c105).2.1 k) ?_
          show own_Goes p e below s _ _ (T.setTop (mkF m 24 #[rv a1, iv p1, own_jv S, .second, rv a1, iv (512 : Int32), iv j, sl] []))
          refine own_st (fun _ k => XS.aload X.here hx rfl (hb hby own_d1_24) rfl rfl  k) ?_
          show own_Goes p e below s _ _ (T.setTop (mkF m 26 #[rv a1, iv p1, own_jv S, .second, rv a1, iv (512 : Int32), iv j, sl] [(.ref a1)]))
          refine own_st (fun _ k => XS.iload X.here hx rfl (hb hby own_d1_26) rfl  k) ?_
          show own_Goes p e below s _ _ (T.setTop (mkF m 28 #[rv a1, iv p1, own_jv S, .second, rv a1, iv (512 : Int32), iv j, sl] [(.int j), (.ref a1)]))
          refine own_st (fun _ k => own_ldB X hx hZ e0 V1 (j := j) ⟨hj0, by omega⟩ (g := (mkF m 28 #[rv a1, iv p1, own_jv S, .second, rv a1, iv (512 : Int32), iv j, sl] [(.int j), (.ref a1)])) rfl rfl (hb hby own_d1_28) _ k) ?_
          show own_Goes p e below s _ _ (T.setTop (mkF m 29 #[rv a1, iv p1, own_jv S, .second, rv a1, iv (512 : Int32), iv j, sl] [(.int (f (j).toNatClampNeg))]))
          refine own_st (fun _ k => XS.istoreS X.here hx rfl (hb hby own_d1_29) rfl rfl hO k) ?_
          show own_Goes p e below s _ _ (T.setTop (mkF m 31 #[rv a1, iv p1, own_jv S, .second, rv a1, iv (512 : Int32), iv j, iv (f (j).toNatClampNeg)] []))
          refine own_st (fun _ k => XS.lloadN X.here hx rfl (hb hby own_d1_31) rfl  k) ?_
          show own_Goes p e below s _ _ (T.setTop (mkF m 32 #[rv a1, iv p1, own_jv S, .second, rv a1, iv (512 : Int32), iv j, iv (f (j).toNatClampNeg)] [(.long S)]))
          refine own_st (fun _ k => XS.iload X.here hx rfl (hb hby own_d1_32) rfl  k) ?_
          show own_Goes p e below s _ _ (T.setTop (mkF m 34 #[rv a1, iv p1, own_jv S, .second, rv a1, iv (512 : Int32), iv j, iv (f (j).toNatClampNeg)] [(.int (f (j).toNatClampNeg)), (.long S)]))
          refine own_st (fun _ k => XS.i2l X.here hx rfl (hb hby own_d1_34) rfl k) ?_
          show own_Goes p e below s _ _ (T.setTop (mkF m 35 #[rv a1, iv p1, own_jv S, .second, rv a1, iv (512 : Int32), iv j, iv (f (j).toNatClampNeg)] [(.long ((f (j).toNatClampNeg).toInt64)), (.long S)]))
          refine own_st (fun _ k => XS.ladd X.here hx rfl (hb hby own_d1_35) rfl k) ?_
          show own_Goes p e below s _ _ (T.setTop (mkF m 36 #[rv a1, iv p1, own_jv S, .second, rv a1, iv (512 : Int32), iv j, iv (f (j).toNatClampNeg)] [(.long (S + ((f (j).toNatClampNeg).toInt64)))]))
          refine own_st (fun _ k => XS.lstoreN X.here hx rfl (hb hby own_d1_36) rfl (l' := #[rv a1, iv p1, own_jv (S + ((f (j).toNatClampNeg).toInt64)), .second, rv a1, iv (512 : Int32), iv j, iv (f (j).toNatClampNeg)]) rfl k) ?_
          show own_Goes p e below s _ _ (T.setTop (mkF m 37 #[rv a1, iv p1, own_jv (S + ((f (j).toNatClampNeg).toInt64)), .second, rv a1, iv (512 : Int32), iv j, iv (f (j).toNatClampNeg)] []))
          refine own_st (fun _ k => XS.iinc X.here hx rfl (hb hby own_d1_37) rfl (l' := #[rv a1, iv p1, own_jv (S + ((f (j).toNatClampNeg).toInt64)), .second, rv a1, iv (512 : Int32), iv (j + (1 : Int32)), iv (f (j).toNatClampNeg)]) rfl k) ?_
          show own_Goes p e below s _ _ (T.setTop (mkF m 40 #[rv a1, iv p1, own_jv (S + ((f (j).toNatClampNeg).toInt64)), .second, rv a1, iv (512 : Int32), iv (j + (1 : Int32)), iv (f (j).toNatClampNeg)] []))
          refine own_st (fun _ k => XS.goto X.here hx rfl (pc0 := 40) (pc' := 17) rfl (hb hby own_d1_40) (by decide) (by decide) k) ?_
          show own_Goes p e below s _ _ (T.setTop (mkF m 17 #[rv a1, iv p1, own_jv (S + ((f (j).toNatClampNeg).toInt64)), .second, rv a1, iv (512 : Int32), iv (j + (1 : Int32)), iv (f (j).toNatClampNeg)] []))
          have hj1 := own_inc j (by omega)
          exact ih (j + (1 : Int32)) _ _ (by omega) (by omega) (own_step f hf hS (by omega) (by omega)) (One.val rfl)
        · have c105i : 512 ≤ j.toInt := own_i_nlt c105
          exfalso; omega
    exact lp17 512 (0 : Int32) (0 : Int64) .unset (by decide) (by decide) rfl One.u
theorem own_pn1 : plainFor (⟨"com/example/tender_parcel/tenderparcel/TarHeaderChecksumPinLaw", "value", "(IZ)J"⟩ : MethodName) = true := by first | exact plainFor_of_name (by simp [plainName, overriddenIn]; done) | decide +kernel
theorem own_d2_0 : decode method_3_code 0 = .ok (.iload_n 1, 1) := by decide +kernel
theorem own_d2_1 : decode method_3_code 1 = .ok (.ifCond .eq 7, 3) := by decide +kernel
theorem own_d2_8 : decode method_3_code 8 = .ok (.iload_n 0, 1) := by decide +kernel
theorem own_d2_9 : decode method_3_code 9 = .ok (.sipush 255, 3) := by decide +kernel
theorem own_d2_12 : decode method_3_code 12 = .ok (.iand, 1) := by decide +kernel
theorem own_d2_13 : decode method_3_code 13 = .ok (.i2l, 1) := by decide +kernel
theorem own_d2_14 : decode method_3_code 14 = .ok (.lreturn, 1) := by decide +kernel
theorem own_d2_4 : decode method_3_code 4 = .ok (.iload_n 0, 1) := by decide +kernel
theorem own_d2_5 : decode method_3_code 5 = .ok (.i2b, 1) := by decide +kernel
theorem own_d2_6 : decode method_3_code 6 = .ok (.i2l, 1) := by decide +kernel
theorem own_d2_7 : decode method_3_code 7 = .ok (.lreturn, 1) := by decide +kernel
theorem own_ef_rmV (m : MethodId) (p1 : Int32) (p2 : Int32) : entryFrame m #[(.int p1), (.int p2)] 2 = mkF m 0 #[iv p1, iv p2] [] := by first | (simp [entryFrame, mkF, argsToLocals, Value.category, maxLocals]; done) | rfl
abbrev own_Q_rmV (Z : State) (p1 : Int32) (p2 : Int32) (h0 : Heap) (n0 : Nat) (v : Option Value) (h : Heap) (L : List Loc) : Prop := ∃ r : Int64, v = some (.long r) ∧ (¬ p2.toInt = 0 → r.toInt = (p1.toInt8.toInt32).toInt) ∧ (p2.toInt = 0 → r.toInt = p1.toInt % 256) ∧ Fr n0 L ∧ h = h0
set_option maxRecDepth 65536 in
set_option maxHeartbeats 40000000 in
theorem rmV (l : Launch) (Z : State) (a0 : Array Value) (hw : ∀ d ∈ tables_1, d.before a0 Z = true) (ws : List Jvm.Cond) (p1 : Int32) (p2 : Int32) (h0 : Heap) (n0 : Nat) (Z0 : n0 ≤ h0.size) :
    MetFree l (⟨"com/example/tender_parcel/tenderparcel/TarHeaderChecksumPinLaw", "value", "(IZ)J"⟩ : MethodName) (head1 (Jvm.Cond.code (⟨"com/example/tender_parcel/tenderparcel/TarHeaderChecksumPinLaw", "value", "(IZ)J"⟩ : MethodName) method_3_code 2 (some .long) :: ws) ({ frames := 0, cells := 0, slots := 0, locals := 0 } : Room)) (fun a U => a = #[(.int p1), (.int p2)] ∧ Z.Warmed39 U.vm ∧ U.heap = h0) (fun _ _ _ _ _ => True) (fun _ U o U' => ∃ v L, o = .returned v ∧ own_Q_rmV Z p1 p2 h0 n0 v U'.heap L ∧ FrameEnd U o U' L ({ frames := 0, cells := 0, slots := 0, locals := 0 } : Room).cells ({ frames := 0, cells := 0, slots := 0, locals := 0 } : Room).slots) := by
  refine own_enter (Q := fun v h L => own_Q_rmV Z p1 p2 h0 n0 v h L) (F := fun m => mkF m 0 #[iv p1, iv p2] []) own_pn1 (fun m => own_ef_rmV m p1 p2) ?_
  intro p e s m below meth c T X hx hby hml hret hlk hnm hown hZ e0
  show own_Goes p e below s _ _ (T.setTop (mkF m 0 #[iv p1, iv p2] []))
  have N0 := Fr.nil n0
  refine own_st (fun _ k => XS.iloadN X.here hx rfl (hb hby own_d2_0) rfl  k) ?_
  show own_Goes p e below s _ _ (T.setTop (mkF m 1 #[iv p1, iv p2] [(.int p2)]))
  by_cases c101 : p2 = (0 : Int32)
  · have c101i : p2.toInt = 0 := own_i_eq c101
    refine own_st (fun _ k => XS.ifYes X.here hx rfl (pc0 := 1) (pc' := 8) rfl (hb hby own_d2_1) rfl ((if0 _ _).trans (teq c101).1) (by decide) (by decide) k) ?_
    show own_Goes p e below s _ _ (T.setTop (mkF m 8 #[iv p1, iv p2] []))
    refine own_st (fun _ k => XS.iloadN X.here hx rfl (hb hby own_d2_8) rfl  k) ?_
    show own_Goes p e below s _ _ (T.setTop (mkF m 9 #[iv p1, iv p2] [(.int p1)]))
    refine own_st (fun _ k => XS.sipush X.here hx rfl (hb hby own_d2_9) k) ?_
    show own_Goes p e below s _ _ (T.setTop (mkF m 12 #[iv p1, iv p2] [(.int (255 : Int32)), (.int p1)]))
    refine own_st (fun _ k => XS.iand X.here hx rfl (hb hby own_d2_12) rfl k) ?_
    show own_Goes p e below s _ _ (T.setTop (mkF m 13 #[iv p1, iv p2] [(.int (p1 &&& (255 : Int32)))]))
    refine own_st (fun _ k => XS.i2l X.here hx rfl (hb hby own_d2_13) rfl k) ?_
    show own_Goes p e below s _ _ (T.setTop (mkF m 14 #[iv p1, iv p2] [(.long ((p1 &&& (255 : Int32)).toInt64))]))
    exact own_retJ X hx hlk hret (hb hby own_d2_14) (by decide) (by decide) ⟨_, rfl, fun q => absurd c101i q, fun q => own_v255 p1, N0, e0⟩
  · have c101i : ¬ p2.toInt = 0 := own_i_ne c101
    refine own_st (fun _ k => XS.ifNo X.here hx rfl (hb hby own_d2_1) rfl ((if0 _ _).trans (feq c101).1) k) ?_
    show own_Goes p e below s _ _ (T.setTop (mkF m 4 #[iv p1, iv p2] []))
    refine own_st (fun _ k => XS.iloadN X.here hx rfl (hb hby own_d2_4) rfl  k) ?_
    show own_Goes p e below s _ _ (T.setTop (mkF m 5 #[iv p1, iv p2] [(.int p1)]))
    refine own_st (fun _ k => XS.i2b X.here hx rfl (hb hby own_d2_5) rfl k) ?_
    show own_Goes p e below s _ _ (T.setTop (mkF m 6 #[iv p1, iv p2] [(.int (p1.toInt8.toInt32))]))
    refine own_st (fun _ k => XS.i2l X.here hx rfl (hb hby own_d2_6) rfl k) ?_
    show own_Goes p e below s _ _ (T.setTop (mkF m 7 #[iv p1, iv p2] [(.long ((p1.toInt8.toInt32).toInt64))]))
    exact own_retJ X hx hlk hret (hb hby own_d2_7) (by decide) (by decide) ⟨_, rfl, fun q => c_i2l _, fun q => absurd q c101i, N0, e0⟩
theorem own_pn2 : plainFor (⟨"com/example/tender_parcel/tenderparcel/TarHeaderChecksumPinLaw", "law", "(IIIIII)Z"⟩ : MethodName) = true := by first | exact plainFor_of_name (by simp [plainName, overriddenIn]; done) | decide +kernel
theorem own_pd0 : parseMethodDescriptor "([BZ)J" = some ⟨[(.array .byte), .boolean], some .long⟩ := by decide +kernel
theorem own_pd1 : parseMethodDescriptor "(IZ)J" = some ⟨[.int, .boolean], some .long⟩ := by decide +kernel
theorem own_ef_rm0 (m : MethodId) (p0 : Int32) (p1 : Int32) (p2 : Int32) (p3 : Int32) (p4 : Int32) (p5 : Int32) : entryFrame m #[(.int p0), (.int p1), (.int p2), (.int p3), (.int p4), (.int p5)] maxLocals = mkF m 0 #[iv p0, iv p1, iv p2, iv p3, iv p4, iv p5, .unset, .unset, .unset, .unset, .unset, .unset, .unset, .unset, .unset] [] := by first | (simp [entryFrame, mkF, argsToLocals, Value.category, maxLocals]; done) | rfl
abbrev own_Q_rm0 (Z : State) (p0 : Int32) (p1 : Int32) (p2 : Int32) (p3 : Int32) (p4 : Int32) (p5 : Int32) (h0 : Heap) (n0 : Nat) (v : Option Value) (h : Heap) (L : List Loc) : Prop := v = some (.int 1) ∧ Fr n0 L
set_option maxRecDepth 65536 in
set_option maxHeartbeats 40000000 in
theorem rm0 (l : Launch) (Z : State) (a0 : Array Value) (hw : ∀ d ∈ tables_1, d.before a0 Z = true) (ws : List Jvm.Cond) (p0 : Int32) (p1 : Int32) (p2 : Int32) (p3 : Int32) (p4 : Int32) (p5 : Int32) (h0 : Heap) (n0 : Nat) (Z0 : n0 ≤ h0.size) :
    MetFree l x (head1 (Jvm.Cond.code x code maxLocals ret :: ws) room_1) (fun a U => a = #[(.int p0), (.int p1), (.int p2), (.int p3), (.int p4), (.int p5)] ∧ Z.Warmed39 U.vm ∧ U.heap = h0) (fun _ _ _ _ _ => True) (fun _ U o U' => ∃ v L, o = .returned v ∧ own_Q_rm0 Z p0 p1 p2 p3 p4 p5 h0 n0 v U'.heap L ∧ FrameEnd U o U' L room_1.cells room_1.slots) := by
  refine own_enter (Q := fun v h L => own_Q_rm0 Z p0 p1 p2 p3 p4 p5 h0 n0 v h L) (F := fun m => mkF m 0 #[iv p0, iv p1, iv p2, iv p3, iv p4, iv p5, .unset, .unset, .unset, .unset, .unset, .unset, .unset, .unset, .unset] []) own_pn2 (fun m => own_ef_rm0 m p0 p1 p2 p3 p4 p5) ?_
  intro p e s m below meth c T X hx hby hml hret hlk hnm hown hZ e0
  show own_Goes p e below s _ _ (T.setTop (mkF m 0 #[iv p0, iv p1, iv p2, iv p3, iv p4, iv p5, .unset, .unset, .unset, .unset, .unset, .unset, .unset, .unset, .unset] []))
  have N0 := Fr.nil n0
  refine own_st (fun _ k => XS.iloadN X.here hx rfl (hb hby at_0) rfl  k) ?_
  show own_Goes p e below s _ _ (T.setTop (mkF m 1 #[iv p0, iv p1, iv p2, iv p3, iv p4, iv p5, .unset, .unset, .unset, .unset, .unset, .unset, .unset, .unset, .unset] [(.int p0)]))
  refine own_st (fun _ k => XS.iconst X.here hx rfl (hb hby at_1) k) ?_
  show own_Goes p e below s _ _ (T.setTop (mkF m 2 #[iv p0, iv p1, iv p2, iv p3, iv p4, iv p5, .unset, .unset, .unset, .unset, .unset, .unset, .unset, .unset, .unset] [(.int (1 : Int32)), (.int p0)]))
  refine own_st (fun _ k => XS.iand X.here hx rfl (hb hby at_2) rfl k) ?_
  show own_Goes p e below s _ _ (T.setTop (mkF m 3 #[iv p0, iv p1, iv p2, iv p3, iv p4, iv p5, .unset, .unset, .unset, .unset, .unset, .unset, .unset, .unset, .unset] [(.int (p0 &&& (1 : Int32)))]))
  by_cases c101 : (p0 &&& (1 : Int32)) = (0 : Int32)
  · have c101i : (p0 &&& (1 : Int32)).toInt = 0 := own_i_eq c101
    refine own_st (fun _ k => XS.ifYes X.here hx rfl (pc0 := 3) (pc' := 10) rfl (hb hby at_3) rfl ((if0 _ _).trans (teq c101).1) (by decide) (by decide) k) ?_
    show own_Goes p e below s _ _ (T.setTop (mkF m 10 #[iv p0, iv p1, iv p2, iv p3, iv p4, iv p5, .unset, .unset, .unset, .unset, .unset, .unset, .unset, .unset, .unset] []))
    refine own_st (fun _ k => XS.iconst X.here hx rfl (hb hby at_10) k) ?_
    show own_Goes p e below s _ _ (T.setTop (mkF m 11 #[iv p0, iv p1, iv p2, iv p3, iv p4, iv p5, .unset, .unset, .unset, .unset, .unset, .unset, .unset, .unset, .unset] [(.int (0 : Int32))]))
    refine own_st (fun _ k => XS.istore X.here hx rfl (hb hby at_11) rfl (l' := #[iv p0, iv p1, iv p2, iv p3, iv p4, iv p5, iv (0 : Int32), .unset, .unset, .unset, .unset, .unset, .unset, .unset, .unset]) rfl k) ?_
    show own_Goes p e below s _ _ (T.setTop (mkF m 13 #[iv p0, iv p1, iv p2, iv p3, iv p4, iv p5, iv (0 : Int32), .unset, .unset, .unset, .unset, .unset, .unset, .unset, .unset] []))
    refine own_st (fun _ k => XS.iloadN X.here hx rfl (hb hby at_13) rfl  k) ?_
    show own_Goes p e below s _ _ (T.setTop (mkF m 14 #[iv p0, iv p1, iv p2, iv p3, iv p4, iv p5, iv (0 : Int32), .unset, .unset, .unset, .unset, .unset, .unset, .unset, .unset] [(.int p0)]))
    refine own_st (fun _ k => XS.iconst X.here hx rfl (hb hby at_14) k) ?_
    show own_Goes p e below s _ _ (T.setTop (mkF m 15 #[iv p0, iv p1, iv p2, iv p3, iv p4, iv p5, iv (0 : Int32), .unset, .unset, .unset, .unset, .unset, .unset, .unset, .unset] [(.int (1 : Int32)), (.int p0)]))
    refine own_st (fun _ k => XS.iushr X.here hx rfl (hb hby at_15) rfl k) ?_
    show own_Goes p e below s _ _ (T.setTop (mkF m 16 #[iv p0, iv p1, iv p2, iv p3, iv p4, iv p5, iv (0 : Int32), .unset, .unset, .unset, .unset, .unset, .unset, .unset, .unset] [(.int ((p0.toUInt32 >>> ((1 : Int32) &&& 31).toUInt32).toInt32))]))
    refine own_st (fun _ k => XS.sipush X.here hx rfl (hb hby at_16) k) ?_
    show own_Goes p e below s _ _ (T.setTop (mkF m 19 #[iv p0, iv p1, iv p2, iv p3, iv p4, iv p5, iv (0 : Int32), .unset, .unset, .unset, .unset, .unset, .unset, .unset, .unset] [(.int (148 : Int32)), (.int ((p0.toUInt32 >>> ((1 : Int32) &&& 31).toUInt32).toInt32))]))
    refine own_st (fun _ k => iremM X hx rfl (hb hby at_19) rfl (by decide) k) ?_
    show own_Goes p e below s _ _ (T.setTop (mkF m 20 #[iv p0, iv p1, iv p2, iv p3, iv p4, iv p5, iv (0 : Int32), .unset, .unset, .unset, .unset, .unset, .unset, .unset, .unset] [(.int (((p0.toUInt32 >>> ((1 : Int32) &&& 31).toUInt32).toInt32) % (148 : Int32)))]))
    have hpa := own_pa p0
    generalize (((p0.toUInt32 >>> ((1 : Int32) &&& 31).toUInt32).toInt32) % (148 : Int32)) = pa at hpa ⊢
    show own_Goes p e below s _ _ (T.setTop (mkF m 20 #[iv p0, iv p1, iv p2, iv p3, iv p4, iv p5, iv (0 : Int32), .unset, .unset, .unset, .unset, .unset, .unset, .unset, .unset] [(.int pa)]))
    refine own_st (fun _ k => XS.istore X.here hx rfl (hb hby at_20) rfl (l' := #[iv p0, iv p1, iv p2, iv p3, iv p4, iv p5, iv (0 : Int32), iv pa, .unset, .unset, .unset, .unset, .unset, .unset, .unset]) rfl k) ?_
    show own_Goes p e below s _ _ (T.setTop (mkF m 22 #[iv p0, iv p1, iv p2, iv p3, iv p4, iv p5, iv (0 : Int32), iv pa, .unset, .unset, .unset, .unset, .unset, .unset, .unset] []))
    refine own_st (fun _ k => XS.sipush X.here hx rfl (hb hby at_22) k) ?_
    show own_Goes p e below s _ _ (T.setTop (mkF m 25 #[iv p0, iv p1, iv p2, iv p3, iv p4, iv p5, iv (0 : Int32), iv pa, .unset, .unset, .unset, .unset, .unset, .unset, .unset] [(.int (148 : Int32))]))
    refine own_st (fun _ k => XS.iloadN X.here hx rfl (hb hby at_25) rfl  k) ?_
    show own_Goes p e below s _ _ (T.setTop (mkF m 26 #[iv p0, iv p1, iv p2, iv p3, iv p4, iv p5, iv (0 : Int32), iv pa, .unset, .unset, .unset, .unset, .unset, .unset, .unset] [(.int p1), (.int (148 : Int32))]))
    refine own_st (fun _ k => XS.bipush X.here hx rfl (hb hby at_26) k) ?_
    show own_Goes p e below s _ _ (T.setTop (mkF m 28 #[iv p0, iv p1, iv p2, iv p3, iv p4, iv p5, iv (0 : Int32), iv pa, .unset, .unset, .unset, .unset, .unset, .unset, .unset] [(.int (7 : Int32)), (.int p1), (.int (148 : Int32))]))
    refine own_st (fun _ k => XS.iand X.here hx rfl (hb hby at_28) rfl k) ?_
    show own_Goes p e below s _ _ (T.setTop (mkF m 29 #[iv p0, iv p1, iv p2, iv p3, iv p4, iv p5, iv (0 : Int32), iv pa, .unset, .unset, .unset, .unset, .unset, .unset, .unset] [(.int (p1 &&& (7 : Int32))), (.int (148 : Int32))]))
    refine own_st (fun _ k => XS.iadd X.here hx rfl (hb hby at_29) rfl k) ?_
    show own_Goes p e below s _ _ (T.setTop (mkF m 30 #[iv p0, iv p1, iv p2, iv p3, iv p4, iv p5, iv (0 : Int32), iv pa, .unset, .unset, .unset, .unset, .unset, .unset, .unset] [(.int ((148 : Int32) + (p1 &&& (7 : Int32))))]))
    have hpb := own_pb p1
    generalize ((148 : Int32) + (p1 &&& (7 : Int32))) = pb at hpb ⊢
    show own_Goes p e below s _ _ (T.setTop (mkF m 30 #[iv p0, iv p1, iv p2, iv p3, iv p4, iv p5, iv (0 : Int32), iv pa, .unset, .unset, .unset, .unset, .unset, .unset, .unset] [(.int pb)]))
    refine own_st (fun _ k => XS.istore X.here hx rfl (hb hby at_30) rfl (l' := #[iv p0, iv p1, iv p2, iv p3, iv p4, iv p5, iv (0 : Int32), iv pa, iv pb, .unset, .unset, .unset, .unset, .unset, .unset]) rfl k) ?_
    show own_Goes p e below s _ _ (T.setTop (mkF m 32 #[iv p0, iv p1, iv p2, iv p3, iv p4, iv p5, iv (0 : Int32), iv pa, iv pb, .unset, .unset, .unset, .unset, .unset, .unset] []))
    refine own_st (fun _ k => XS.sipush X.here hx rfl (hb hby at_32) k) ?_
    show own_Goes p e below s _ _ (T.setTop (mkF m 35 #[iv p0, iv p1, iv p2, iv p3, iv p4, iv p5, iv (0 : Int32), iv pa, iv pb, .unset, .unset, .unset, .unset, .unset, .unset] [(.int (156 : Int32))]))
    refine own_st (fun _ k => XS.iloadN X.here hx rfl (hb hby at_35) rfl  k) ?_
    show own_Goes p e below s _ _ (T.setTop (mkF m 36 #[iv p0, iv p1, iv p2, iv p3, iv p4, iv p5, iv (0 : Int32), iv pa, iv pb, .unset, .unset, .unset, .unset, .unset, .unset] [(.int p2), (.int (156 : Int32))]))
    refine own_st (fun _ k => X.ldcInt hx hown (mvT hZ (hw _ (List.mem_of_getElem? (i := 0) rfl))) (g := (mkF m 36 #[iv p0, iv p1, iv p2, iv p3, iv p4, iv p5, iv (0 : Int32), iv pa, iv pb, .unset, .unset, .unset, .unset, .unset, .unset] [(.int p2), (.int (156 : Int32))])) rfl (hb hby at_36) _ k) ?_
    show own_Goes p e below s _ _ (T.setTop (mkF m 38 #[iv p0, iv p1, iv p2, iv p3, iv p4, iv p5, iv (0 : Int32), iv pa, iv pb, .unset, .unset, .unset, .unset, .unset, .unset] [(.int (2147483647 : Int32)), (.int p2), (.int (156 : Int32))]))
    refine own_st (fun _ k => XS.iand X.here hx rfl (hb hby at_38) rfl k) ?_
    show own_Goes p e below s _ _ (T.setTop (mkF m 39 #[iv p0, iv p1, iv p2, iv p3, iv p4, iv p5, iv (0 : Int32), iv pa, iv pb, .unset, .unset, .unset, .unset, .unset, .unset] [(.int (p2 &&& (2147483647 : Int32))), (.int (156 : Int32))]))
    refine own_st (fun _ k => XS.sipush X.here hx rfl (hb hby at_39) k) ?_
    show own_Goes p e below s _ _ (T.setTop (mkF m 42 #[iv p0, iv p1, iv p2, iv p3, iv p4, iv p5, iv (0 : Int32), iv pa, iv pb, .unset, .unset, .unset, .unset, .unset, .unset] [(.int (356 : Int32)), (.int (p2 &&& (2147483647 : Int32))), (.int (156 : Int32))]))
    refine own_st (fun _ k => iremM X hx rfl (hb hby at_42) rfl (by decide) k) ?_
    show own_Goes p e below s _ _ (T.setTop (mkF m 43 #[iv p0, iv p1, iv p2, iv p3, iv p4, iv p5, iv (0 : Int32), iv pa, iv pb, .unset, .unset, .unset, .unset, .unset, .unset] [(.int ((p2 &&& (2147483647 : Int32)) % (356 : Int32))), (.int (156 : Int32))]))
    refine own_st (fun _ k => XS.iadd X.here hx rfl (hb hby at_43) rfl k) ?_
    show own_Goes p e below s _ _ (T.setTop (mkF m 44 #[iv p0, iv p1, iv p2, iv p3, iv p4, iv p5, iv (0 : Int32), iv pa, iv pb, .unset, .unset, .unset, .unset, .unset, .unset] [(.int ((156 : Int32) + ((p2 &&& (2147483647 : Int32)) % (356 : Int32))))]))
    have hpq := own_pq p2
    generalize ((156 : Int32) + ((p2 &&& (2147483647 : Int32)) % (356 : Int32))) = pq at hpq ⊢
    show own_Goes p e below s _ _ (T.setTop (mkF m 44 #[iv p0, iv p1, iv p2, iv p3, iv p4, iv p5, iv (0 : Int32), iv pa, iv pb, .unset, .unset, .unset, .unset, .unset, .unset] [(.int pq)]))
    refine own_st (fun _ k => XS.istore X.here hx rfl (hb hby at_44) rfl (l' := #[iv p0, iv p1, iv p2, iv p3, iv p4, iv p5, iv (0 : Int32), iv pa, iv pb, iv pq, .unset, .unset, .unset, .unset, .unset]) rfl k) ?_
    show own_Goes p e below s _ _ (T.setTop (mkF m 46 #[iv p0, iv p1, iv p2, iv p3, iv p4, iv p5, iv (0 : Int32), iv pa, iv pb, iv pq, .unset, .unset, .unset, .unset, .unset] []))
    refine own_st (fun _ k => XS.sipush X.here hx rfl (hb hby at_46) k) ?_
    show own_Goes p e below s _ _ (T.setTop (mkF m 49 #[iv p0, iv p1, iv p2, iv p3, iv p4, iv p5, iv (0 : Int32), iv pa, iv pb, iv pq, .unset, .unset, .unset, .unset, .unset] [(.int (512 : Int32))]))
    obtain ⟨T102, h102, X102, e102, E102, A102, st102⟩ := own_newP X hx hZ (aty := .byte) (hw _ (List.mem_of_getElem? (i := 1) rfl)) e0 (g := (mkF m 49 #[iv p0, iv p1, iv p2, iv p3, iv p4, iv p5, iv (0 : Int32), iv pa, iv pb, iv pq, .unset, .unset, .unset, .unset, .unset] [(.int (512 : Int32))])) rfl (hb hby at_49) rfl (by decide) (cap := 512) (by decide) (by decide) (by decide) (by decide)
    obtain ⟨b102, g102⟩ : ∃ z, z = h0.size := ⟨_, rfl⟩
    rw [← g102] at A102 st102
    have V102 : own_Arf Z h102 b102 .byte 512 (fun k => .int ((fun _ => (0 : Int32)) k)) := A102
    have y102 := V102.lt
    have z102 := E102.1
    refine own_st st102 ?_
    show own_Goes p e below s _ _ (T102.setTop (mkF m 51 #[iv p0, iv p1, iv p2, iv p3, iv p4, iv p5, iv (0 : Int32), iv pa, iv pb, iv pq, .unset, .unset, .unset, .unset, .unset] [(.ref b102)]))
    refine own_st (fun _ k => XS.astore X102.here hx rfl (hb hby at_51) rfl rfl (l' := #[iv p0, iv p1, iv p2, iv p3, iv p4, iv p5, iv (0 : Int32), iv pa, iv pb, iv pq, rv b102, .unset, .unset, .unset, .unset]) rfl k) ?_
    show own_Goes p e below s _ _ (T102.setTop (mkF m 53 #[iv p0, iv p1, iv p2, iv p3, iv p4, iv p5, iv (0 : Int32), iv pa, iv pb, iv pq, rv b102, .unset, .unset, .unset, .unset] []))
    refine own_st (fun _ k => XS.aload X102.here hx rfl (hb hby at_53) rfl rfl  k) ?_
    show own_Goes p e below s _ _ (T102.setTop (mkF m 55 #[iv p0, iv p1, iv p2, iv p3, iv p4, iv p5, iv (0 : Int32), iv pa, iv pb, iv pq, rv b102, .unset, .unset, .unset, .unset] [(.ref b102)]))
    refine own_st (fun _ k => XS.iload X102.here hx rfl (hb hby at_55) rfl  k) ?_
    show own_Goes p e below s _ _ (T102.setTop (mkF m 57 #[iv p0, iv p1, iv p2, iv p3, iv p4, iv p5, iv (0 : Int32), iv pa, iv pb, iv pq, rv b102, .unset, .unset, .unset, .unset] [(.int pa), (.ref b102)]))
    refine own_st (fun _ k => XS.iloadN X102.here hx rfl (hb hby at_57) rfl  k) ?_
    show own_Goes p e below s _ _ (T102.setTop (mkF m 58 #[iv p0, iv p1, iv p2, iv p3, iv p4, iv p5, iv (0 : Int32), iv pa, iv pb, iv pq, rv b102, .unset, .unset, .unset, .unset] [(.int p3), (.int pa), (.ref b102)]))
    refine own_st (fun _ k => XS.i2b X102.here hx rfl (hb hby at_58) rfl k) ?_
    show own_Goes p e below s _ _ (T102.setTop (mkF m 59 #[iv p0, iv p1, iv p2, iv p3, iv p4, iv p5, iv (0 : Int32), iv pa, iv pb, iv pq, rv b102, .unset, .unset, .unset, .unset] [(.int (p3.toInt8.toInt32)), (.int pa), (.ref b102)]))
    obtain ⟨T103, h103, X103, e103, W103, A103, st103⟩ := own_stB X102 hx hZ e102 V102 (j := pa) ⟨hpa.1, by omega⟩ (g := (mkF m 59 #[iv p0, iv p1, iv p2, iv p3, iv p4, iv p5, iv (0 : Int32), iv pa, iv pb, iv pq, rv b102, .unset, .unset, .unset, .unset] [(.int (p3.toInt8.toInt32)), (.int pa), (.ref b102)])) rfl rfl (hb hby at_59)
    have V103 : own_Arf Z h103 b102 .byte 512 (fun k => .int ((fun k => if k = (pa).toNatClampNeg then (nar .byte (p3.toInt8.toInt32)) else (fun _ => (0 : Int32)) k) k)) := A103
    have z103 := W103.size
    have N103 := Fr.snoc X103 N0 (by omega)
    refine own_st st103 ?_
    show own_Goes p e below s _ _ (T103.setTop (mkF m 60 #[iv p0, iv p1, iv p2, iv p3, iv p4, iv p5, iv (0 : Int32), iv pa, iv pb, iv pq, rv b102, .unset, .unset, .unset, .unset] []))
    refine own_st (fun _ k => XS.aload X103.here hx rfl (hb hby at_60) rfl rfl  k) ?_
    show own_Goes p e below s _ _ (T103.setTop (mkF m 62 #[iv p0, iv p1, iv p2, iv p3, iv p4, iv p5, iv (0 : Int32), iv pa, iv pb, iv pq, rv b102, .unset, .unset, .unset, .unset] [(.ref b102)]))
    refine own_st (fun _ k => XS.iload X103.here hx rfl (hb hby at_62) rfl  k) ?_
    show own_Goes p e below s _ _ (T103.setTop (mkF m 64 #[iv p0, iv p1, iv p2, iv p3, iv p4, iv p5, iv (0 : Int32), iv pa, iv pb, iv pq, rv b102, .unset, .unset, .unset, .unset] [(.int pb), (.ref b102)]))
    refine own_st (fun _ k => XS.iload X103.here hx rfl (hb hby at_64) rfl  k) ?_
    show own_Goes p e below s _ _ (T103.setTop (mkF m 66 #[iv p0, iv p1, iv p2, iv p3, iv p4, iv p5, iv (0 : Int32), iv pa, iv pb, iv pq, rv b102, .unset, .unset, .unset, .unset] [(.int p4), (.int pb), (.ref b102)]))
    refine own_st (fun _ k => XS.i2b X103.here hx rfl (hb hby at_66) rfl k) ?_
    show own_Goes p e below s _ _ (T103.setTop (mkF m 67 #[iv p0, iv p1, iv p2, iv p3, iv p4, iv p5, iv (0 : Int32), iv pa, iv pb, iv pq, rv b102, .unset, .unset, .unset, .unset] [(.int (p4.toInt8.toInt32)), (.int pb), (.ref b102)]))
    obtain ⟨T104, h104, X104, e104, W104, A104, st104⟩ := own_stB X103 hx hZ e103 V103 (j := pb) ⟨by omega, by omega⟩ (g := (mkF m 67 #[iv p0, iv p1, iv p2, iv p3, iv p4, iv p5, iv (0 : Int32), iv pa, iv pb, iv pq, rv b102, .unset, .unset, .unset, .unset] [(.int (p4.toInt8.toInt32)), (.int pb), (.ref b102)])) rfl rfl (hb hby at_67)
    have V104 : own_Arf Z h104 b102 .byte 512 (fun k => .int ((fun k => if k = (pb).toNatClampNeg then (nar .byte (p4.toInt8.toInt32)) else (fun k => if k = (pa).toNatClampNeg then (nar .byte (p3.toInt8.toInt32)) else (fun _ => (0 : Int32)) k) k) k)) := A104
    have z104 := W104.size
    have N104 := Fr.snoc X104 N103 (by omega)
    refine own_st st104 ?_
    show own_Goes p e below s _ _ (T104.setTop (mkF m 68 #[iv p0, iv p1, iv p2, iv p3, iv p4, iv p5, iv (0 : Int32), iv pa, iv pb, iv pq, rv b102, .unset, .unset, .unset, .unset] []))
    refine own_st (fun _ k => XS.aload X104.here hx rfl (hb hby at_68) rfl rfl  k) ?_
    show own_Goes p e below s _ _ (T104.setTop (mkF m 70 #[iv p0, iv p1, iv p2, iv p3, iv p4, iv p5, iv (0 : Int32), iv pa, iv pb, iv pq, rv b102, .unset, .unset, .unset, .unset] [(.ref b102)]))
    refine own_st (fun _ k => XS.iload X104.here hx rfl (hb hby at_70) rfl  k) ?_
    show own_Goes p e below s _ _ (T104.setTop (mkF m 72 #[iv p0, iv p1, iv p2, iv p3, iv p4, iv p5, iv (0 : Int32), iv pa, iv pb, iv pq, rv b102, .unset, .unset, .unset, .unset] [(.int pq), (.ref b102)]))
    refine own_st (fun _ k => XS.iload X104.here hx rfl (hb hby at_72) rfl  k) ?_
    show own_Goes p e below s _ _ (T104.setTop (mkF m 74 #[iv p0, iv p1, iv p2, iv p3, iv p4, iv p5, iv (0 : Int32), iv pa, iv pb, iv pq, rv b102, .unset, .unset, .unset, .unset] [(.int p5), (.int pq), (.ref b102)]))
    refine own_st (fun _ k => XS.i2b X104.here hx rfl (hb hby at_74) rfl k) ?_
    show own_Goes p e below s _ _ (T104.setTop (mkF m 75 #[iv p0, iv p1, iv p2, iv p3, iv p4, iv p5, iv (0 : Int32), iv pa, iv pb, iv pq, rv b102, .unset, .unset, .unset, .unset] [(.int (p5.toInt8.toInt32)), (.int pq), (.ref b102)]))
    obtain ⟨T105, h105, X105, e105, W105, A105, st105⟩ := own_stB X104 hx hZ e104 V104 (j := pq) ⟨by omega, by omega⟩ (g := (mkF m 75 #[iv p0, iv p1, iv p2, iv p3, iv p4, iv p5, iv (0 : Int32), iv pa, iv pb, iv pq, rv b102, .unset, .unset, .unset, .unset] [(.int (p5.toInt8.toInt32)), (.int pq), (.ref b102)])) rfl rfl (hb hby at_75)
    have V105 : own_Arf Z h105 b102 .byte 512 (fun k => .int ((fun k => if k = (pq).toNatClampNeg then (nar .byte (p5.toInt8.toInt32)) else (fun k => if k = (pb).toNatClampNeg then (nar .byte (p4.toInt8.toInt32)) else (fun k => if k = (pa).toNatClampNeg then (nar .byte (p3.toInt8.toInt32)) else (fun _ => (0 : Int32)) k) k) k) k)) := A105
    have z105 := W105.size
    have N105 := Fr.snoc X105 N104 (by omega)
    refine own_st st105 ?_
    show own_Goes p e below s _ _ (T105.setTop (mkF m 76 #[iv p0, iv p1, iv p2, iv p3, iv p4, iv p5, iv (0 : Int32), iv pa, iv pb, iv pq, rv b102, .unset, .unset, .unset, .unset] []))
    refine own_st (fun _ k => XS.aload X105.here hx rfl (hb hby at_76) rfl rfl  k) ?_
    show own_Goes p e below s _ _ (T105.setTop (mkF m 78 #[iv p0, iv p1, iv p2, iv p3, iv p4, iv p5, iv (0 : Int32), iv pa, iv pb, iv pq, rv b102, .unset, .unset, .unset, .unset] [(.ref b102)]))
    refine own_st (fun _ k => XS.iload X105.here hx rfl (hb hby at_78) rfl  k) ?_
    show own_Goes p e below s _ _ (T105.setTop (mkF m 80 #[iv p0, iv p1, iv p2, iv p3, iv p4, iv p5, iv (0 : Int32), iv pa, iv pb, iv pq, rv b102, .unset, .unset, .unset, .unset] [(.int (0 : Int32)), (.ref b102)]))
    obtain ⟨v106, T106, L106, X106, Q106, st106⟩ := own_callS X105 hx hZ (y := (⟨"com/example/tender_parcel/tenderparcel/TarHeader", "checksum", "([BZ)J"⟩ : MethodName)) hown (hw _ (List.mem_of_getElem? (i := 2) rfl)) (hw _ (List.mem_of_getElem? (i := 3) rfl)) (hw _ (List.mem_of_getElem? (i := 4) rfl)) (hw _ (List.mem_of_getElem? (i := 5) rfl)) (by decide) (W := 0) (rest := []) (argsL := [(.ref b102), (.int (0 : Int32))]) (rmC l Z a0 hw [] b102 (0 : Int32) _ h105 n0 (by omega) V105 (own_rngs _ _ _ _ _ _)) (by decide) (by decide) (by decide) (by decide) e105 own_pd0 rfl (g := (mkF m 80 #[iv p0, iv p1, iv p2, iv p3, iv p4, iv p5, iv (0 : Int32), iv pa, iv pb, iv pq, rv b102, .unset, .unset, .unset, .unset] [(.int (0 : Int32)), (.ref b102)])) rfl (by rw [hml]; rfl) rfl (by show 2 * 0 + _ ≤ _; exact Nat.le_of_eq rfl) (hb hby at_80)
    obtain ⟨r106, rfl, hp106, hz106, N106q, e106⟩ := Q106
    have hv106 := hz106 (by decide)
    have N106 := Fr.app N105 N106q
    refine own_st st106 ?_
    show own_Goes p e below s _ _ (T106.setTop (mkF m 83 #[iv p0, iv p1, iv p2, iv p3, iv p4, iv p5, iv (0 : Int32), iv pa, iv pb, iv pq, rv b102, .unset, .unset, .unset, .unset] [(.long r106)]))
    refine own_st (fun _ k => XS.lstore X106.here hx rfl (hb hby at_83) rfl (l' := #[iv p0, iv p1, iv p2, iv p3, iv p4, iv p5, iv (0 : Int32), iv pa, iv pb, iv pq, rv b102, own_jv r106, .second, .unset, .unset]) rfl k) ?_
    show own_Goes p e below s _ _ (T106.setTop (mkF m 85 #[iv p0, iv p1, iv p2, iv p3, iv p4, iv p5, iv (0 : Int32), iv pa, iv pb, iv pq, rv b102, own_jv r106, .second, .unset, .unset] []))
    refine own_st (fun _ k => XS.iloadN X106.here hx rfl (hb hby at_85) rfl  k) ?_
    show own_Goes p e below s _ _ (T106.setTop (mkF m 86 #[iv p0, iv p1, iv p2, iv p3, iv p4, iv p5, iv (0 : Int32), iv pa, iv pb, iv pq, rv b102, own_jv r106, .second, .unset, .unset] [(.int p3)]))
    refine own_st (fun _ k => XS.iload X106.here hx rfl (hb hby at_86) rfl  k) ?_
    show own_Goes p e below s _ _ (T106.setTop (mkF m 88 #[iv p0, iv p1, iv p2, iv p3, iv p4, iv p5, iv (0 : Int32), iv pa, iv pb, iv pq, rv b102, own_jv r106, .second, .unset, .unset] [(.int (0 : Int32)), (.int p3)]))
    obtain ⟨v107, T107, L107, X107, Q107, st107⟩ := own_callS X106 hx hZ (y := (⟨"com/example/tender_parcel/tenderparcel/TarHeaderChecksumPinLaw", "value", "(IZ)J"⟩ : MethodName)) hown (hw _ (List.mem_of_getElem? (i := 6) rfl)) (hw _ (List.mem_of_getElem? (i := 7) rfl)) (hw _ (List.mem_of_getElem? (i := 8) rfl)) (hw _ (List.mem_of_getElem? (i := 9) rfl)) (by decide) (W := 0) (rest := []) (argsL := [(.int p3), (.int (0 : Int32))]) (rmV l Z a0 hw [] p3 (0 : Int32) h105 n0 (by omega)) (by decide) (by decide) (by decide) (by decide) e106 own_pd1 rfl (g := (mkF m 88 #[iv p0, iv p1, iv p2, iv p3, iv p4, iv p5, iv (0 : Int32), iv pa, iv pb, iv pq, rv b102, own_jv r106, .second, .unset, .unset] [(.int (0 : Int32)), (.int p3)])) rfl (by rw [hml]; rfl) rfl (by show 2 * 0 + _ ≤ _; exact Nat.le_of_eq rfl) (hb hby at_88)
    obtain ⟨r107, rfl, hp107, hz107, N107q, e107⟩ := Q107
    have hv107 := hz107 (by decide)
    have N107 := Fr.app N106 N107q
    refine own_st st107 ?_
    show own_Goes p e below s _ _ (T107.setTop (mkF m 91 #[iv p0, iv p1, iv p2, iv p3, iv p4, iv p5, iv (0 : Int32), iv pa, iv pb, iv pq, rv b102, own_jv r106, .second, .unset, .unset] [(.long r107)]))
    refine own_st (fun _ k => XS.iload X107.here hx rfl (hb hby at_91) rfl  k) ?_
    show own_Goes p e below s _ _ (T107.setTop (mkF m 93 #[iv p0, iv p1, iv p2, iv p3, iv p4, iv p5, iv (0 : Int32), iv pa, iv pb, iv pq, rv b102, own_jv r106, .second, .unset, .unset] [(.int p5), (.long r107)]))
    refine own_st (fun _ k => XS.iload X107.here hx rfl (hb hby at_93) rfl  k) ?_
    show own_Goes p e below s _ _ (T107.setTop (mkF m 95 #[iv p0, iv p1, iv p2, iv p3, iv p4, iv p5, iv (0 : Int32), iv pa, iv pb, iv pq, rv b102, own_jv r106, .second, .unset, .unset] [(.int (0 : Int32)), (.int p5), (.long r107)]))
    obtain ⟨v108, T108, L108, X108, Q108, st108⟩ := own_callS X107 hx hZ (y := (⟨"com/example/tender_parcel/tenderparcel/TarHeaderChecksumPinLaw", "value", "(IZ)J"⟩ : MethodName)) hown (hw _ (List.mem_of_getElem? (i := 6) rfl)) (hw _ (List.mem_of_getElem? (i := 7) rfl)) (hw _ (List.mem_of_getElem? (i := 8) rfl)) (hw _ (List.mem_of_getElem? (i := 9) rfl)) (by decide) (W := 2) (rest := [(.long r107)]) (argsL := [(.int p5), (.int (0 : Int32))]) (rmV l Z a0 hw [] p5 (0 : Int32) h105 n0 (by omega)) (by decide) (by decide) (by decide) (by decide) e107 own_pd1 rfl (g := (mkF m 95 #[iv p0, iv p1, iv p2, iv p3, iv p4, iv p5, iv (0 : Int32), iv pa, iv pb, iv pq, rv b102, own_jv r106, .second, .unset, .unset] [(.int (0 : Int32)), (.int p5), (.long r107)])) rfl (by rw [hml]; rfl) rfl (by show 2 * 0 + _ ≤ _; exact Nat.le_of_eq rfl) (hb hby at_95)
    obtain ⟨r108, rfl, hp108, hz108, N108q, e108⟩ := Q108
    have hv108 := hz108 (by decide)
    have N108 := Fr.app N107 N108q
    refine own_st st108 ?_
    show own_Goes p e below s _ _ (T108.setTop (mkF m 98 #[iv p0, iv p1, iv p2, iv p3, iv p4, iv p5, iv (0 : Int32), iv pa, iv pb, iv pq, rv b102, own_jv r106, .second, .unset, .unset] [(.long r108), (.long r107)]))
    refine own_st (fun _ k => XS.ladd X108.here hx rfl (hb hby at_98) rfl k) ?_
    show own_Goes p e below s _ _ (T108.setTop (mkF m 99 #[iv p0, iv p1, iv p2, iv p3, iv p4, iv p5, iv (0 : Int32), iv pa, iv pb, iv pq, rv b102, own_jv r106, .second, .unset, .unset] [(.long (r107 + r108))]))
    refine own_st (fun _ k => X108.ldc2Long hx hown (mvT hZ (hw _ (List.mem_of_getElem? (i := 10) rfl))) (g := (mkF m 99 #[iv p0, iv p1, iv p2, iv p3, iv p4, iv p5, iv (0 : Int32), iv pa, iv pb, iv pq, rv b102, own_jv r106, .second, .unset, .unset] [(.long (r107 + r108))])) rfl (hb hby at_99) _ k) ?_
    show own_Goes p e below s _ _ (T108.setTop (mkF m 102 #[iv p0, iv p1, iv p2, iv p3, iv p4, iv p5, iv (0 : Int32), iv pa, iv pb, iv pq, rv b102, own_jv r106, .second, .unset, .unset] [(.long (256 : Int64)), (.long (r107 + r108))]))
    refine own_st (fun _ k => XS.ladd X108.here hx rfl (hb hby at_102) rfl k) ?_
    show own_Goes p e below s _ _ (T108.setTop (mkF m 103 #[iv p0, iv p1, iv p2, iv p3, iv p4, iv p5, iv (0 : Int32), iv pa, iv pb, iv pq, rv b102, own_jv r106, .second, .unset, .unset] [(.long ((r107 + r108) + (256 : Int64)))]))
    refine own_st (fun _ k => XS.lstore X108.here hx rfl (hb hby at_103) rfl (l' := #[iv p0, iv p1, iv p2, iv p3, iv p4, iv p5, iv (0 : Int32), iv pa, iv pb, iv pq, rv b102, own_jv r106, .second, own_jv ((r107 + r108) + (256 : Int64)), .second]) rfl k) ?_
    show own_Goes p e below s _ _ (T108.setTop (mkF m 105 #[iv p0, iv p1, iv p2, iv p3, iv p4, iv p5, iv (0 : Int32), iv pa, iv pb, iv pq, rv b102, own_jv r106, .second, own_jv ((r107 + r108) + (256 : Int64)), .second] []))
    refine own_st (fun _ k => XS.lload X108.here hx rfl (hb hby at_105) rfl  k) ?_
    show own_Goes p e below s _ _ (T108.setTop (mkF m 107 #[iv p0, iv p1, iv p2, iv p3, iv p4, iv p5, iv (0 : Int32), iv pa, iv pb, iv pq, rv b102, own_jv r106, .second, own_jv ((r107 + r108) + (256 : Int64)), .second] [(.long r106)]))
    refine own_st (fun _ k => XS.lload X108.here hx rfl (hb hby at_107) rfl  k) ?_
    show own_Goes p e below s _ _ (T108.setTop (mkF m 109 #[iv p0, iv p1, iv p2, iv p3, iv p4, iv p5, iv (0 : Int32), iv pa, iv pb, iv pq, rv b102, own_jv r106, .second, own_jv ((r107 + r108) + (256 : Int64)), .second] [(.long ((r107 + r108) + (256 : Int64))), (.long r106)]))
    refine own_st (fun _ k => XS.lcmp X108.here hx rfl (hb hby at_109) rfl k) ?_
    show own_Goes p e below s _ _ (T108.setTop (mkF m 110 #[iv p0, iv p1, iv p2, iv p3, iv p4, iv p5, iv (0 : Int32), iv pa, iv pb, iv pq, rv b102, own_jv r106, .second, own_jv ((r107 + r108) + (256 : Int64)), .second] [(.int (lcmpW r106 ((r107 + r108) + (256 : Int64))))]))
    by_cases c109 : r106 = ((r107 + r108) + (256 : Int64))
    · have c109i : r106.toInt = ((r107 + r108) + (256 : Int64)).toInt := own_j_eq c109
      refine own_st (fun _ k => XS.ifNo X108.here hx rfl (hb hby at_110) rfl ((if0 _ _).trans (teq ((lw_eq _ _).mpr c109)).2) k) ?_
      show own_Goes p e below s _ _ (T108.setTop (mkF m 113 #[iv p0, iv p1, iv p2, iv p3, iv p4, iv p5, iv (0 : Int32), iv pa, iv pb, iv pq, rv b102, own_jv r106, .second, own_jv ((r107 + r108) + (256 : Int64)), .second] []))
      refine own_st (fun _ k => XS.iconst X108.here hx rfl (hb hby at_113) k) ?_
      show own_Goes p e below s _ _ (T108.setTop (mkF m 114 #[iv p0, iv p1, iv p2, iv p3, iv p4, iv p5, iv (0 : Int32), iv pa, iv pb, iv pq, rv b102, own_jv r106, .second, own_jv ((r107 + r108) + (256 : Int64)), .second] [(.int (1 : Int32))]))
      refine own_st (fun _ k => XS.goto X108.here hx rfl (pc0 := 114) (pc' := 118) rfl (hb hby at_114) (by decide) (by decide) k) ?_
      show own_Goes p e below s _ _ (T108.setTop (mkF m 118 #[iv p0, iv p1, iv p2, iv p3, iv p4, iv p5, iv (0 : Int32), iv pa, iv pb, iv pq, rv b102, own_jv r106, .second, own_jv ((r107 + r108) + (256 : Int64)), .second] [(.int (1 : Int32))]))
      exact own_retN X108 hx hlk (1 : Int32) hret (Or.inl rfl) rfl (hb hby at_118) (by decide) (by decide) ⟨rfl, N108⟩
    · have c109i : ¬ r106.toInt = ((r107 + r108) + (256 : Int64)).toInt := own_j_ne c109
      exfalso; exact c109 (own_finu hpa hpb hpq hv106 hv107 hv108)
  · have c101i : ¬ (p0 &&& (1 : Int32)).toInt = 0 := own_i_ne c101
    refine own_st (fun _ k => XS.ifNo X.here hx rfl (hb hby at_3) rfl ((if0 _ _).trans (feq c101).1) k) ?_
    show own_Goes p e below s _ _ (T.setTop (mkF m 6 #[iv p0, iv p1, iv p2, iv p3, iv p4, iv p5, .unset, .unset, .unset, .unset, .unset, .unset, .unset, .unset, .unset] []))
    refine own_st (fun _ k => XS.iconst X.here hx rfl (hb hby at_6) k) ?_
    show own_Goes p e below s _ _ (T.setTop (mkF m 7 #[iv p0, iv p1, iv p2, iv p3, iv p4, iv p5, .unset, .unset, .unset, .unset, .unset, .unset, .unset, .unset, .unset] [(.int (1 : Int32))]))
    refine own_st (fun _ k => XS.goto X.here hx rfl (pc0 := 7) (pc' := 11) rfl (hb hby at_7) (by decide) (by decide) k) ?_
    show own_Goes p e below s _ _ (T.setTop (mkF m 11 #[iv p0, iv p1, iv p2, iv p3, iv p4, iv p5, .unset, .unset, .unset, .unset, .unset, .unset, .unset, .unset, .unset] [(.int (1 : Int32))]))
    refine own_st (fun _ k => XS.istore X.here hx rfl (hb hby at_11) rfl (l' := #[iv p0, iv p1, iv p2, iv p3, iv p4, iv p5, iv (1 : Int32), .unset, .unset, .unset, .unset, .unset, .unset, .unset, .unset]) rfl k) ?_
    show own_Goes p e below s _ _ (T.setTop (mkF m 13 #[iv p0, iv p1, iv p2, iv p3, iv p4, iv p5, iv (1 : Int32), .unset, .unset, .unset, .unset, .unset, .unset, .unset, .unset] []))
    refine own_st (fun _ k => XS.iloadN X.here hx rfl (hb hby at_13) rfl  k) ?_
    show own_Goes p e below s _ _ (T.setTop (mkF m 14 #[iv p0, iv p1, iv p2, iv p3, iv p4, iv p5, iv (1 : Int32), .unset, .unset, .unset, .unset, .unset, .unset, .unset, .unset] [(.int p0)]))
    refine own_st (fun _ k => XS.iconst X.here hx rfl (hb hby at_14) k) ?_
    show own_Goes p e below s _ _ (T.setTop (mkF m 15 #[iv p0, iv p1, iv p2, iv p3, iv p4, iv p5, iv (1 : Int32), .unset, .unset, .unset, .unset, .unset, .unset, .unset, .unset] [(.int (1 : Int32)), (.int p0)]))
    refine own_st (fun _ k => XS.iushr X.here hx rfl (hb hby at_15) rfl k) ?_
    show own_Goes p e below s _ _ (T.setTop (mkF m 16 #[iv p0, iv p1, iv p2, iv p3, iv p4, iv p5, iv (1 : Int32), .unset, .unset, .unset, .unset, .unset, .unset, .unset, .unset] [(.int ((p0.toUInt32 >>> ((1 : Int32) &&& 31).toUInt32).toInt32))]))
    refine own_st (fun _ k => XS.sipush X.here hx rfl (hb hby at_16) k) ?_
    show own_Goes p e below s _ _ (T.setTop (mkF m 19 #[iv p0, iv p1, iv p2, iv p3, iv p4, iv p5, iv (1 : Int32), .unset, .unset, .unset, .unset, .unset, .unset, .unset, .unset] [(.int (148 : Int32)), (.int ((p0.toUInt32 >>> ((1 : Int32) &&& 31).toUInt32).toInt32))]))
    refine own_st (fun _ k => iremM X hx rfl (hb hby at_19) rfl (by decide) k) ?_
    show own_Goes p e below s _ _ (T.setTop (mkF m 20 #[iv p0, iv p1, iv p2, iv p3, iv p4, iv p5, iv (1 : Int32), .unset, .unset, .unset, .unset, .unset, .unset, .unset, .unset] [(.int (((p0.toUInt32 >>> ((1 : Int32) &&& 31).toUInt32).toInt32) % (148 : Int32)))]))
    have hpa := own_pa p0
    generalize (((p0.toUInt32 >>> ((1 : Int32) &&& 31).toUInt32).toInt32) % (148 : Int32)) = pa at hpa ⊢
    show own_Goes p e below s _ _ (T.setTop (mkF m 20 #[iv p0, iv p1, iv p2, iv p3, iv p4, iv p5, iv (1 : Int32), .unset, .unset, .unset, .unset, .unset, .unset, .unset, .unset] [(.int pa)]))
    refine own_st (fun _ k => XS.istore X.here hx rfl (hb hby at_20) rfl (l' := #[iv p0, iv p1, iv p2, iv p3, iv p4, iv p5, iv (1 : Int32), iv pa, .unset, .unset, .unset, .unset, .unset, .unset, .unset]) rfl k) ?_
    show own_Goes p e below s _ _ (T.setTop (mkF m 22 #[iv p0, iv p1, iv p2, iv p3, iv p4, iv p5, iv (1 : Int32), iv pa, .unset, .unset, .unset, .unset, .unset, .unset, .unset] []))
    refine own_st (fun _ k => XS.sipush X.here hx rfl (hb hby at_22) k) ?_
    show own_Goes p e below s _ _ (T.setTop (mkF m 25 #[iv p0, iv p1, iv p2, iv p3, iv p4, iv p5, iv (1 : Int32), iv pa, .unset, .unset, .unset, .unset, .unset, .unset, .unset] [(.int (148 : Int32))]))
    refine own_st (fun _ k => XS.iloadN X.here hx rfl (hb hby at_25) rfl  k) ?_
    show own_Goes p e below s _ _ (T.setTop (mkF m 26 #[iv p0, iv p1, iv p2, iv p3, iv p4, iv p5, iv (1 : Int32), iv pa, .unset, .unset, .unset, .unset, .unset, .unset, .unset] [(.int p1), (.int (148 : Int32))]))
    refine own_st (fun _ k => XS.bipush X.here hx rfl (hb hby at_26) k) ?_
    show own_Goes p e below s _ _ (T.setTop (mkF m 28 #[iv p0, iv p1, iv p2, iv p3, iv p4, iv p5, iv (1 : Int32), iv pa, .unset, .unset, .unset, .unset, .unset, .unset, .unset] [(.int (7 : Int32)), (.int p1), (.int (148 : Int32))]))
    refine own_st (fun _ k => XS.iand X.here hx rfl (hb hby at_28) rfl k) ?_
    show own_Goes p e below s _ _ (T.setTop (mkF m 29 #[iv p0, iv p1, iv p2, iv p3, iv p4, iv p5, iv (1 : Int32), iv pa, .unset, .unset, .unset, .unset, .unset, .unset, .unset] [(.int (p1 &&& (7 : Int32))), (.int (148 : Int32))]))
    refine own_st (fun _ k => XS.iadd X.here hx rfl (hb hby at_29) rfl k) ?_
    show own_Goes p e below s _ _ (T.setTop (mkF m 30 #[iv p0, iv p1, iv p2, iv p3, iv p4, iv p5, iv (1 : Int32), iv pa, .unset, .unset, .unset, .unset, .unset, .unset, .unset] [(.int ((148 : Int32) + (p1 &&& (7 : Int32))))]))
    have hpb := own_pb p1
    generalize ((148 : Int32) + (p1 &&& (7 : Int32))) = pb at hpb ⊢
    show own_Goes p e below s _ _ (T.setTop (mkF m 30 #[iv p0, iv p1, iv p2, iv p3, iv p4, iv p5, iv (1 : Int32), iv pa, .unset, .unset, .unset, .unset, .unset, .unset, .unset] [(.int pb)]))
    refine own_st (fun _ k => XS.istore X.here hx rfl (hb hby at_30) rfl (l' := #[iv p0, iv p1, iv p2, iv p3, iv p4, iv p5, iv (1 : Int32), iv pa, iv pb, .unset, .unset, .unset, .unset, .unset, .unset]) rfl k) ?_
    show own_Goes p e below s _ _ (T.setTop (mkF m 32 #[iv p0, iv p1, iv p2, iv p3, iv p4, iv p5, iv (1 : Int32), iv pa, iv pb, .unset, .unset, .unset, .unset, .unset, .unset] []))
    refine own_st (fun _ k => XS.sipush X.here hx rfl (hb hby at_32) k) ?_
    show own_Goes p e below s _ _ (T.setTop (mkF m 35 #[iv p0, iv p1, iv p2, iv p3, iv p4, iv p5, iv (1 : Int32), iv pa, iv pb, .unset, .unset, .unset, .unset, .unset, .unset] [(.int (156 : Int32))]))
    refine own_st (fun _ k => XS.iloadN X.here hx rfl (hb hby at_35) rfl  k) ?_
    show own_Goes p e below s _ _ (T.setTop (mkF m 36 #[iv p0, iv p1, iv p2, iv p3, iv p4, iv p5, iv (1 : Int32), iv pa, iv pb, .unset, .unset, .unset, .unset, .unset, .unset] [(.int p2), (.int (156 : Int32))]))
    refine own_st (fun _ k => X.ldcInt hx hown (mvT hZ (hw _ (List.mem_of_getElem? (i := 0) rfl))) (g := (mkF m 36 #[iv p0, iv p1, iv p2, iv p3, iv p4, iv p5, iv (1 : Int32), iv pa, iv pb, .unset, .unset, .unset, .unset, .unset, .unset] [(.int p2), (.int (156 : Int32))])) rfl (hb hby at_36) _ k) ?_
    show own_Goes p e below s _ _ (T.setTop (mkF m 38 #[iv p0, iv p1, iv p2, iv p3, iv p4, iv p5, iv (1 : Int32), iv pa, iv pb, .unset, .unset, .unset, .unset, .unset, .unset] [(.int (2147483647 : Int32)), (.int p2), (.int (156 : Int32))]))
    refine own_st (fun _ k => XS.iand X.here hx rfl (hb hby at_38) rfl k) ?_
    show own_Goes p e below s _ _ (T.setTop (mkF m 39 #[iv p0, iv p1, iv p2, iv p3, iv p4, iv p5, iv (1 : Int32), iv pa, iv pb, .unset, .unset, .unset, .unset, .unset, .unset] [(.int (p2 &&& (2147483647 : Int32))), (.int (156 : Int32))]))
    refine own_st (fun _ k => XS.sipush X.here hx rfl (hb hby at_39) k) ?_
    show own_Goes p e below s _ _ (T.setTop (mkF m 42 #[iv p0, iv p1, iv p2, iv p3, iv p4, iv p5, iv (1 : Int32), iv pa, iv pb, .unset, .unset, .unset, .unset, .unset, .unset] [(.int (356 : Int32)), (.int (p2 &&& (2147483647 : Int32))), (.int (156 : Int32))]))
    refine own_st (fun _ k => iremM X hx rfl (hb hby at_42) rfl (by decide) k) ?_
    show own_Goes p e below s _ _ (T.setTop (mkF m 43 #[iv p0, iv p1, iv p2, iv p3, iv p4, iv p5, iv (1 : Int32), iv pa, iv pb, .unset, .unset, .unset, .unset, .unset, .unset] [(.int ((p2 &&& (2147483647 : Int32)) % (356 : Int32))), (.int (156 : Int32))]))
    refine own_st (fun _ k => XS.iadd X.here hx rfl (hb hby at_43) rfl k) ?_
    show own_Goes p e below s _ _ (T.setTop (mkF m 44 #[iv p0, iv p1, iv p2, iv p3, iv p4, iv p5, iv (1 : Int32), iv pa, iv pb, .unset, .unset, .unset, .unset, .unset, .unset] [(.int ((156 : Int32) + ((p2 &&& (2147483647 : Int32)) % (356 : Int32))))]))
    have hpq := own_pq p2
    generalize ((156 : Int32) + ((p2 &&& (2147483647 : Int32)) % (356 : Int32))) = pq at hpq ⊢
    show own_Goes p e below s _ _ (T.setTop (mkF m 44 #[iv p0, iv p1, iv p2, iv p3, iv p4, iv p5, iv (1 : Int32), iv pa, iv pb, .unset, .unset, .unset, .unset, .unset, .unset] [(.int pq)]))
    refine own_st (fun _ k => XS.istore X.here hx rfl (hb hby at_44) rfl (l' := #[iv p0, iv p1, iv p2, iv p3, iv p4, iv p5, iv (1 : Int32), iv pa, iv pb, iv pq, .unset, .unset, .unset, .unset, .unset]) rfl k) ?_
    show own_Goes p e below s _ _ (T.setTop (mkF m 46 #[iv p0, iv p1, iv p2, iv p3, iv p4, iv p5, iv (1 : Int32), iv pa, iv pb, iv pq, .unset, .unset, .unset, .unset, .unset] []))
    refine own_st (fun _ k => XS.sipush X.here hx rfl (hb hby at_46) k) ?_
    show own_Goes p e below s _ _ (T.setTop (mkF m 49 #[iv p0, iv p1, iv p2, iv p3, iv p4, iv p5, iv (1 : Int32), iv pa, iv pb, iv pq, .unset, .unset, .unset, .unset, .unset] [(.int (512 : Int32))]))
    obtain ⟨T110, h110, X110, e110, E110, A110, st110⟩ := own_newP X hx hZ (aty := .byte) (hw _ (List.mem_of_getElem? (i := 1) rfl)) e0 (g := (mkF m 49 #[iv p0, iv p1, iv p2, iv p3, iv p4, iv p5, iv (1 : Int32), iv pa, iv pb, iv pq, .unset, .unset, .unset, .unset, .unset] [(.int (512 : Int32))])) rfl (hb hby at_49) rfl (by decide) (cap := 512) (by decide) (by decide) (by decide) (by decide)
    obtain ⟨b110, g110⟩ : ∃ z, z = h0.size := ⟨_, rfl⟩
    rw [← g110] at A110 st110
    have V110 : own_Arf Z h110 b110 .byte 512 (fun k => .int ((fun _ => (0 : Int32)) k)) := A110
    have y110 := V110.lt
    have z110 := E110.1
    refine own_st st110 ?_
    show own_Goes p e below s _ _ (T110.setTop (mkF m 51 #[iv p0, iv p1, iv p2, iv p3, iv p4, iv p5, iv (1 : Int32), iv pa, iv pb, iv pq, .unset, .unset, .unset, .unset, .unset] [(.ref b110)]))
    refine own_st (fun _ k => XS.astore X110.here hx rfl (hb hby at_51) rfl rfl (l' := #[iv p0, iv p1, iv p2, iv p3, iv p4, iv p5, iv (1 : Int32), iv pa, iv pb, iv pq, rv b110, .unset, .unset, .unset, .unset]) rfl k) ?_
    show own_Goes p e below s _ _ (T110.setTop (mkF m 53 #[iv p0, iv p1, iv p2, iv p3, iv p4, iv p5, iv (1 : Int32), iv pa, iv pb, iv pq, rv b110, .unset, .unset, .unset, .unset] []))
    refine own_st (fun _ k => XS.aload X110.here hx rfl (hb hby at_53) rfl rfl  k) ?_
    show own_Goes p e below s _ _ (T110.setTop (mkF m 55 #[iv p0, iv p1, iv p2, iv p3, iv p4, iv p5, iv (1 : Int32), iv pa, iv pb, iv pq, rv b110, .unset, .unset, .unset, .unset] [(.ref b110)]))
    refine own_st (fun _ k => XS.iload X110.here hx rfl (hb hby at_55) rfl  k) ?_
    show own_Goes p e below s _ _ (T110.setTop (mkF m 57 #[iv p0, iv p1, iv p2, iv p3, iv p4, iv p5, iv (1 : Int32), iv pa, iv pb, iv pq, rv b110, .unset, .unset, .unset, .unset] [(.int pa), (.ref b110)]))
    refine own_st (fun _ k => XS.iloadN X110.here hx rfl (hb hby at_57) rfl  k) ?_
    show own_Goes p e below s _ _ (T110.setTop (mkF m 58 #[iv p0, iv p1, iv p2, iv p3, iv p4, iv p5, iv (1 : Int32), iv pa, iv pb, iv pq, rv b110, .unset, .unset, .unset, .unset] [(.int p3), (.int pa), (.ref b110)]))
    refine own_st (fun _ k => XS.i2b X110.here hx rfl (hb hby at_58) rfl k) ?_
    show own_Goes p e below s _ _ (T110.setTop (mkF m 59 #[iv p0, iv p1, iv p2, iv p3, iv p4, iv p5, iv (1 : Int32), iv pa, iv pb, iv pq, rv b110, .unset, .unset, .unset, .unset] [(.int (p3.toInt8.toInt32)), (.int pa), (.ref b110)]))
    obtain ⟨T111, h111, X111, e111, W111, A111, st111⟩ := own_stB X110 hx hZ e110 V110 (j := pa) ⟨hpa.1, by omega⟩ (g := (mkF m 59 #[iv p0, iv p1, iv p2, iv p3, iv p4, iv p5, iv (1 : Int32), iv pa, iv pb, iv pq, rv b110, .unset, .unset, .unset, .unset] [(.int (p3.toInt8.toInt32)), (.int pa), (.ref b110)])) rfl rfl (hb hby at_59)
    have V111 : own_Arf Z h111 b110 .byte 512 (fun k => .int ((fun k => if k = (pa).toNatClampNeg then (nar .byte (p3.toInt8.toInt32)) else (fun _ => (0 : Int32)) k) k)) := A111
    have z111 := W111.size
    have N111 := Fr.snoc X111 N0 (by omega)
    refine own_st st111 ?_
    show own_Goes p e below s _ _ (T111.setTop (mkF m 60 #[iv p0, iv p1, iv p2, iv p3, iv p4, iv p5, iv (1 : Int32), iv pa, iv pb, iv pq, rv b110, .unset, .unset, .unset, .unset] []))
    refine own_st (fun _ k => XS.aload X111.here hx rfl (hb hby at_60) rfl rfl  k) ?_
    show own_Goes p e below s _ _ (T111.setTop (mkF m 62 #[iv p0, iv p1, iv p2, iv p3, iv p4, iv p5, iv (1 : Int32), iv pa, iv pb, iv pq, rv b110, .unset, .unset, .unset, .unset] [(.ref b110)]))
    refine own_st (fun _ k => XS.iload X111.here hx rfl (hb hby at_62) rfl  k) ?_
    show own_Goes p e below s _ _ (T111.setTop (mkF m 64 #[iv p0, iv p1, iv p2, iv p3, iv p4, iv p5, iv (1 : Int32), iv pa, iv pb, iv pq, rv b110, .unset, .unset, .unset, .unset] [(.int pb), (.ref b110)]))
    refine own_st (fun _ k => XS.iload X111.here hx rfl (hb hby at_64) rfl  k) ?_
    show own_Goes p e below s _ _ (T111.setTop (mkF m 66 #[iv p0, iv p1, iv p2, iv p3, iv p4, iv p5, iv (1 : Int32), iv pa, iv pb, iv pq, rv b110, .unset, .unset, .unset, .unset] [(.int p4), (.int pb), (.ref b110)]))
    refine own_st (fun _ k => XS.i2b X111.here hx rfl (hb hby at_66) rfl k) ?_
    show own_Goes p e below s _ _ (T111.setTop (mkF m 67 #[iv p0, iv p1, iv p2, iv p3, iv p4, iv p5, iv (1 : Int32), iv pa, iv pb, iv pq, rv b110, .unset, .unset, .unset, .unset] [(.int (p4.toInt8.toInt32)), (.int pb), (.ref b110)]))
    obtain ⟨T112, h112, X112, e112, W112, A112, st112⟩ := own_stB X111 hx hZ e111 V111 (j := pb) ⟨by omega, by omega⟩ (g := (mkF m 67 #[iv p0, iv p1, iv p2, iv p3, iv p4, iv p5, iv (1 : Int32), iv pa, iv pb, iv pq, rv b110, .unset, .unset, .unset, .unset] [(.int (p4.toInt8.toInt32)), (.int pb), (.ref b110)])) rfl rfl (hb hby at_67)
    have V112 : own_Arf Z h112 b110 .byte 512 (fun k => .int ((fun k => if k = (pb).toNatClampNeg then (nar .byte (p4.toInt8.toInt32)) else (fun k => if k = (pa).toNatClampNeg then (nar .byte (p3.toInt8.toInt32)) else (fun _ => (0 : Int32)) k) k) k)) := A112
    have z112 := W112.size
    have N112 := Fr.snoc X112 N111 (by omega)
    refine own_st st112 ?_
    show own_Goes p e below s _ _ (T112.setTop (mkF m 68 #[iv p0, iv p1, iv p2, iv p3, iv p4, iv p5, iv (1 : Int32), iv pa, iv pb, iv pq, rv b110, .unset, .unset, .unset, .unset] []))
    refine own_st (fun _ k => XS.aload X112.here hx rfl (hb hby at_68) rfl rfl  k) ?_
    show own_Goes p e below s _ _ (T112.setTop (mkF m 70 #[iv p0, iv p1, iv p2, iv p3, iv p4, iv p5, iv (1 : Int32), iv pa, iv pb, iv pq, rv b110, .unset, .unset, .unset, .unset] [(.ref b110)]))
    refine own_st (fun _ k => XS.iload X112.here hx rfl (hb hby at_70) rfl  k) ?_
    show own_Goes p e below s _ _ (T112.setTop (mkF m 72 #[iv p0, iv p1, iv p2, iv p3, iv p4, iv p5, iv (1 : Int32), iv pa, iv pb, iv pq, rv b110, .unset, .unset, .unset, .unset] [(.int pq), (.ref b110)]))
    refine own_st (fun _ k => XS.iload X112.here hx rfl (hb hby at_72) rfl  k) ?_
    show own_Goes p e below s _ _ (T112.setTop (mkF m 74 #[iv p0, iv p1, iv p2, iv p3, iv p4, iv p5, iv (1 : Int32), iv pa, iv pb, iv pq, rv b110, .unset, .unset, .unset, .unset] [(.int p5), (.int pq), (.ref b110)]))
    refine own_st (fun _ k => XS.i2b X112.here hx rfl (hb hby at_74) rfl k) ?_
    show own_Goes p e below s _ _ (T112.setTop (mkF m 75 #[iv p0, iv p1, iv p2, iv p3, iv p4, iv p5, iv (1 : Int32), iv pa, iv pb, iv pq, rv b110, .unset, .unset, .unset, .unset] [(.int (p5.toInt8.toInt32)), (.int pq), (.ref b110)]))
    obtain ⟨T113, h113, X113, e113, W113, A113, st113⟩ := own_stB X112 hx hZ e112 V112 (j := pq) ⟨by omega, by omega⟩ (g := (mkF m 75 #[iv p0, iv p1, iv p2, iv p3, iv p4, iv p5, iv (1 : Int32), iv pa, iv pb, iv pq, rv b110, .unset, .unset, .unset, .unset] [(.int (p5.toInt8.toInt32)), (.int pq), (.ref b110)])) rfl rfl (hb hby at_75)
    have V113 : own_Arf Z h113 b110 .byte 512 (fun k => .int ((fun k => if k = (pq).toNatClampNeg then (nar .byte (p5.toInt8.toInt32)) else (fun k => if k = (pb).toNatClampNeg then (nar .byte (p4.toInt8.toInt32)) else (fun k => if k = (pa).toNatClampNeg then (nar .byte (p3.toInt8.toInt32)) else (fun _ => (0 : Int32)) k) k) k) k)) := A113
    have z113 := W113.size
    have N113 := Fr.snoc X113 N112 (by omega)
    refine own_st st113 ?_
    show own_Goes p e below s _ _ (T113.setTop (mkF m 76 #[iv p0, iv p1, iv p2, iv p3, iv p4, iv p5, iv (1 : Int32), iv pa, iv pb, iv pq, rv b110, .unset, .unset, .unset, .unset] []))
    refine own_st (fun _ k => XS.aload X113.here hx rfl (hb hby at_76) rfl rfl  k) ?_
    show own_Goes p e below s _ _ (T113.setTop (mkF m 78 #[iv p0, iv p1, iv p2, iv p3, iv p4, iv p5, iv (1 : Int32), iv pa, iv pb, iv pq, rv b110, .unset, .unset, .unset, .unset] [(.ref b110)]))
    refine own_st (fun _ k => XS.iload X113.here hx rfl (hb hby at_78) rfl  k) ?_
    show own_Goes p e below s _ _ (T113.setTop (mkF m 80 #[iv p0, iv p1, iv p2, iv p3, iv p4, iv p5, iv (1 : Int32), iv pa, iv pb, iv pq, rv b110, .unset, .unset, .unset, .unset] [(.int (1 : Int32)), (.ref b110)]))
    obtain ⟨v114, T114, L114, X114, Q114, st114⟩ := own_callS X113 hx hZ (y := (⟨"com/example/tender_parcel/tenderparcel/TarHeader", "checksum", "([BZ)J"⟩ : MethodName)) hown (hw _ (List.mem_of_getElem? (i := 2) rfl)) (hw _ (List.mem_of_getElem? (i := 3) rfl)) (hw _ (List.mem_of_getElem? (i := 4) rfl)) (hw _ (List.mem_of_getElem? (i := 5) rfl)) (by decide) (W := 0) (rest := []) (argsL := [(.ref b110), (.int (1 : Int32))]) (rmC l Z a0 hw [] b110 (1 : Int32) _ h113 n0 (by omega) V113 (own_rngs _ _ _ _ _ _)) (by decide) (by decide) (by decide) (by decide) e113 own_pd0 rfl (g := (mkF m 80 #[iv p0, iv p1, iv p2, iv p3, iv p4, iv p5, iv (1 : Int32), iv pa, iv pb, iv pq, rv b110, .unset, .unset, .unset, .unset] [(.int (1 : Int32)), (.ref b110)])) rfl (by rw [hml]; rfl) rfl (by show 2 * 0 + _ ≤ _; exact Nat.le_of_eq rfl) (hb hby at_80)
    obtain ⟨r114, rfl, hp114, hz114, N114q, e114⟩ := Q114
    have hv114 := hp114 (by decide)
    have N114 := Fr.app N113 N114q
    refine own_st st114 ?_
    show own_Goes p e below s _ _ (T114.setTop (mkF m 83 #[iv p0, iv p1, iv p2, iv p3, iv p4, iv p5, iv (1 : Int32), iv pa, iv pb, iv pq, rv b110, .unset, .unset, .unset, .unset] [(.long r114)]))
    refine own_st (fun _ k => XS.lstore X114.here hx rfl (hb hby at_83) rfl (l' := #[iv p0, iv p1, iv p2, iv p3, iv p4, iv p5, iv (1 : Int32), iv pa, iv pb, iv pq, rv b110, own_jv r114, .second, .unset, .unset]) rfl k) ?_
    show own_Goes p e below s _ _ (T114.setTop (mkF m 85 #[iv p0, iv p1, iv p2, iv p3, iv p4, iv p5, iv (1 : Int32), iv pa, iv pb, iv pq, rv b110, own_jv r114, .second, .unset, .unset] []))
    refine own_st (fun _ k => XS.iloadN X114.here hx rfl (hb hby at_85) rfl  k) ?_
    show own_Goes p e below s _ _ (T114.setTop (mkF m 86 #[iv p0, iv p1, iv p2, iv p3, iv p4, iv p5, iv (1 : Int32), iv pa, iv pb, iv pq, rv b110, own_jv r114, .second, .unset, .unset] [(.int p3)]))
    refine own_st (fun _ k => XS.iload X114.here hx rfl (hb hby at_86) rfl  k) ?_
    show own_Goes p e below s _ _ (T114.setTop (mkF m 88 #[iv p0, iv p1, iv p2, iv p3, iv p4, iv p5, iv (1 : Int32), iv pa, iv pb, iv pq, rv b110, own_jv r114, .second, .unset, .unset] [(.int (1 : Int32)), (.int p3)]))
    obtain ⟨v115, T115, L115, X115, Q115, st115⟩ := own_callS X114 hx hZ (y := (⟨"com/example/tender_parcel/tenderparcel/TarHeaderChecksumPinLaw", "value", "(IZ)J"⟩ : MethodName)) hown (hw _ (List.mem_of_getElem? (i := 6) rfl)) (hw _ (List.mem_of_getElem? (i := 7) rfl)) (hw _ (List.mem_of_getElem? (i := 8) rfl)) (hw _ (List.mem_of_getElem? (i := 9) rfl)) (by decide) (W := 0) (rest := []) (argsL := [(.int p3), (.int (1 : Int32))]) (rmV l Z a0 hw [] p3 (1 : Int32) h113 n0 (by omega)) (by decide) (by decide) (by decide) (by decide) e114 own_pd1 rfl (g := (mkF m 88 #[iv p0, iv p1, iv p2, iv p3, iv p4, iv p5, iv (1 : Int32), iv pa, iv pb, iv pq, rv b110, own_jv r114, .second, .unset, .unset] [(.int (1 : Int32)), (.int p3)])) rfl (by rw [hml]; rfl) rfl (by show 2 * 0 + _ ≤ _; exact Nat.le_of_eq rfl) (hb hby at_88)
    obtain ⟨r115, rfl, hp115, hz115, N115q, e115⟩ := Q115
    have hv115 := hp115 (by decide)
    have N115 := Fr.app N114 N115q
    refine own_st st115 ?_
    show own_Goes p e below s _ _ (T115.setTop (mkF m 91 #[iv p0, iv p1, iv p2, iv p3, iv p4, iv p5, iv (1 : Int32), iv pa, iv pb, iv pq, rv b110, own_jv r114, .second, .unset, .unset] [(.long r115)]))
    refine own_st (fun _ k => XS.iload X115.here hx rfl (hb hby at_91) rfl  k) ?_
    show own_Goes p e below s _ _ (T115.setTop (mkF m 93 #[iv p0, iv p1, iv p2, iv p3, iv p4, iv p5, iv (1 : Int32), iv pa, iv pb, iv pq, rv b110, own_jv r114, .second, .unset, .unset] [(.int p5), (.long r115)]))
    refine own_st (fun _ k => XS.iload X115.here hx rfl (hb hby at_93) rfl  k) ?_
    show own_Goes p e below s _ _ (T115.setTop (mkF m 95 #[iv p0, iv p1, iv p2, iv p3, iv p4, iv p5, iv (1 : Int32), iv pa, iv pb, iv pq, rv b110, own_jv r114, .second, .unset, .unset] [(.int (1 : Int32)), (.int p5), (.long r115)]))
    obtain ⟨v116, T116, L116, X116, Q116, st116⟩ := own_callS X115 hx hZ (y := (⟨"com/example/tender_parcel/tenderparcel/TarHeaderChecksumPinLaw", "value", "(IZ)J"⟩ : MethodName)) hown (hw _ (List.mem_of_getElem? (i := 6) rfl)) (hw _ (List.mem_of_getElem? (i := 7) rfl)) (hw _ (List.mem_of_getElem? (i := 8) rfl)) (hw _ (List.mem_of_getElem? (i := 9) rfl)) (by decide) (W := 2) (rest := [(.long r115)]) (argsL := [(.int p5), (.int (1 : Int32))]) (rmV l Z a0 hw [] p5 (1 : Int32) h113 n0 (by omega)) (by decide) (by decide) (by decide) (by decide) e115 own_pd1 rfl (g := (mkF m 95 #[iv p0, iv p1, iv p2, iv p3, iv p4, iv p5, iv (1 : Int32), iv pa, iv pb, iv pq, rv b110, own_jv r114, .second, .unset, .unset] [(.int (1 : Int32)), (.int p5), (.long r115)])) rfl (by rw [hml]; rfl) rfl (by show 2 * 0 + _ ≤ _; exact Nat.le_of_eq rfl) (hb hby at_95)
    obtain ⟨r116, rfl, hp116, hz116, N116q, e116⟩ := Q116
    have hv116 := hp116 (by decide)
    have N116 := Fr.app N115 N116q
    refine own_st st116 ?_
    show own_Goes p e below s _ _ (T116.setTop (mkF m 98 #[iv p0, iv p1, iv p2, iv p3, iv p4, iv p5, iv (1 : Int32), iv pa, iv pb, iv pq, rv b110, own_jv r114, .second, .unset, .unset] [(.long r116), (.long r115)]))
    refine own_st (fun _ k => XS.ladd X116.here hx rfl (hb hby at_98) rfl k) ?_
    show own_Goes p e below s _ _ (T116.setTop (mkF m 99 #[iv p0, iv p1, iv p2, iv p3, iv p4, iv p5, iv (1 : Int32), iv pa, iv pb, iv pq, rv b110, own_jv r114, .second, .unset, .unset] [(.long (r115 + r116))]))
    refine own_st (fun _ k => X116.ldc2Long hx hown (mvT hZ (hw _ (List.mem_of_getElem? (i := 10) rfl))) (g := (mkF m 99 #[iv p0, iv p1, iv p2, iv p3, iv p4, iv p5, iv (1 : Int32), iv pa, iv pb, iv pq, rv b110, own_jv r114, .second, .unset, .unset] [(.long (r115 + r116))])) rfl (hb hby at_99) _ k) ?_
    show own_Goes p e below s _ _ (T116.setTop (mkF m 102 #[iv p0, iv p1, iv p2, iv p3, iv p4, iv p5, iv (1 : Int32), iv pa, iv pb, iv pq, rv b110, own_jv r114, .second, .unset, .unset] [(.long (256 : Int64)), (.long (r115 + r116))]))
    refine own_st (fun _ k => XS.ladd X116.here hx rfl (hb hby at_102) rfl k) ?_
    show own_Goes p e below s _ _ (T116.setTop (mkF m 103 #[iv p0, iv p1, iv p2, iv p3, iv p4, iv p5, iv (1 : Int32), iv pa, iv pb, iv pq, rv b110, own_jv r114, .second, .unset, .unset] [(.long ((r115 + r116) + (256 : Int64)))]))
    refine own_st (fun _ k => XS.lstore X116.here hx rfl (hb hby at_103) rfl (l' := #[iv p0, iv p1, iv p2, iv p3, iv p4, iv p5, iv (1 : Int32), iv pa, iv pb, iv pq, rv b110, own_jv r114, .second, own_jv ((r115 + r116) + (256 : Int64)), .second]) rfl k) ?_
    show own_Goes p e below s _ _ (T116.setTop (mkF m 105 #[iv p0, iv p1, iv p2, iv p3, iv p4, iv p5, iv (1 : Int32), iv pa, iv pb, iv pq, rv b110, own_jv r114, .second, own_jv ((r115 + r116) + (256 : Int64)), .second] []))
    refine own_st (fun _ k => XS.lload X116.here hx rfl (hb hby at_105) rfl  k) ?_
    show own_Goes p e below s _ _ (T116.setTop (mkF m 107 #[iv p0, iv p1, iv p2, iv p3, iv p4, iv p5, iv (1 : Int32), iv pa, iv pb, iv pq, rv b110, own_jv r114, .second, own_jv ((r115 + r116) + (256 : Int64)), .second] [(.long r114)]))
    refine own_st (fun _ k => XS.lload X116.here hx rfl (hb hby at_107) rfl  k) ?_
    show own_Goes p e below s _ _ (T116.setTop (mkF m 109 #[iv p0, iv p1, iv p2, iv p3, iv p4, iv p5, iv (1 : Int32), iv pa, iv pb, iv pq, rv b110, own_jv r114, .second, own_jv ((r115 + r116) + (256 : Int64)), .second] [(.long ((r115 + r116) + (256 : Int64))), (.long r114)]))
    refine own_st (fun _ k => XS.lcmp X116.here hx rfl (hb hby at_109) rfl k) ?_
    show own_Goes p e below s _ _ (T116.setTop (mkF m 110 #[iv p0, iv p1, iv p2, iv p3, iv p4, iv p5, iv (1 : Int32), iv pa, iv pb, iv pq, rv b110, own_jv r114, .second, own_jv ((r115 + r116) + (256 : Int64)), .second] [(.int (lcmpW r114 ((r115 + r116) + (256 : Int64))))]))
    by_cases c117 : r114 = ((r115 + r116) + (256 : Int64))
    · have c117i : r114.toInt = ((r115 + r116) + (256 : Int64)).toInt := own_j_eq c117
      refine own_st (fun _ k => XS.ifNo X116.here hx rfl (hb hby at_110) rfl ((if0 _ _).trans (teq ((lw_eq _ _).mpr c117)).2) k) ?_
      show own_Goes p e below s _ _ (T116.setTop (mkF m 113 #[iv p0, iv p1, iv p2, iv p3, iv p4, iv p5, iv (1 : Int32), iv pa, iv pb, iv pq, rv b110, own_jv r114, .second, own_jv ((r115 + r116) + (256 : Int64)), .second] []))
      refine own_st (fun _ k => XS.iconst X116.here hx rfl (hb hby at_113) k) ?_
      show own_Goes p e below s _ _ (T116.setTop (mkF m 114 #[iv p0, iv p1, iv p2, iv p3, iv p4, iv p5, iv (1 : Int32), iv pa, iv pb, iv pq, rv b110, own_jv r114, .second, own_jv ((r115 + r116) + (256 : Int64)), .second] [(.int (1 : Int32))]))
      refine own_st (fun _ k => XS.goto X116.here hx rfl (pc0 := 114) (pc' := 118) rfl (hb hby at_114) (by decide) (by decide) k) ?_
      show own_Goes p e below s _ _ (T116.setTop (mkF m 118 #[iv p0, iv p1, iv p2, iv p3, iv p4, iv p5, iv (1 : Int32), iv pa, iv pb, iv pq, rv b110, own_jv r114, .second, own_jv ((r115 + r116) + (256 : Int64)), .second] [(.int (1 : Int32))]))
      exact own_retN X116 hx hlk (1 : Int32) hret (Or.inl rfl) rfl (hb hby at_118) (by decide) (by decide) ⟨rfl, N116⟩
    · have c117i : ¬ r114.toInt = ((r115 + r116) + (256 : Int64)).toInt := own_j_ne c117
      exfalso; exact c117 (own_fins hpa hpb hpq hv114 hv115 hv116)
set_option maxRecDepth 65536 in
set_option maxHeartbeats 40000000 in
theorem comes_1 {Post : Tables → Env → Array Value → State → Outcome → State → Prop} (hpost : ∀ tb e args s v u, (limb_1_1.after args s (.returned v) u = true ∧ limb_1_2.after args s (.returned v) u = true ∧ True) → FrameEnd s (.returned v) u (Jvm.fieldLocs frame_1_writes args s ++ Jvm.arrayLocs frame_1_arrays args s ++ Jvm.staticLocs frame_1_statics s) 16 1088 → Post tb e args s (.returned v) u) :
    ArmFor flags0 classFile x code maxLocals ret World_1 tables_1 room_1 Calls_1 rest_1 Pre_1 Post := by
  intro l hfl _ _ p e ha hc hk s m args below hf hA hF happ hP
  obtain ⟨hcalls, hrest, hpre⟩ := hP
  obtain ⟨-, -, -, hnamed, -, -, -, hat⟩ := (Spec.applies_iff hf).mp happ
  obtain ⟨hg, hn⟩ := and_e (Cond.before_iff.mp (show (Jvm.Cond.and given_1 narrow_1).before args s = true from hpre))
  obtain ⟨hcnt, q0⟩ := and_e hg
  obtain ⟨u0, q1⟩ := and_e q0
  obtain ⟨u1, q2⟩ := and_e q1
  obtain ⟨u2, q3⟩ := and_e q2
  obtain ⟨u3, q4⟩ := and_e q3
  obtain ⟨u4, q5⟩ := and_e q4
  obtain ⟨w0, w1, w2, w3, w4, w5, rfl⟩ : ∃ w0 w1 w2 w3 w4 w5 : Value, args = #[w0, w1, w2, w3, w4, w5] := by
    have hs : args.size = 6 := by simpa [Cond.value, given_1] using hcnt
    obtain ⟨L⟩ := args
    match L, hs with
    | [w0, w1, w2, w3, w4, w5], _ => exact ⟨w0, w1, w2, w3, w4, w5, rfl⟩
  have hw := fun d (hd : d ∈ tables_1) => atoms_spec (ws := Jvm.Cond.code x code maxLocals ret :: tables_1) hat d (List.mem_cons_of_mem _ hd)
  have hfit : Fit s := fun {y c} hc i hi => by
    obtain ⟨ha, rfl⟩ := Array.getElem?_eq_some_iff.mp hc
    have q := List.all_eq_true.mp ((Array.all_eq_true_iff_forall_mem.mp hF) _ (Array.getElem_mem ha)) i (List.mem_range.mpr hi)
    simpa [Array.getElem?_eq_getElem hi] using q
  obtain ⟨i0, ei0⟩ := is_v u0
  obtain rfl : w0 = (.int i0) := Option.some.inj ei0
  obtain ⟨i1, ei1⟩ := is_v u1
  obtain rfl : w1 = (.int i1) := Option.some.inj ei1
  obtain ⟨i2, ei2⟩ := is_v u2
  obtain rfl : w2 = (.int i2) := Option.some.inj ei2
  obtain ⟨i3, ei3⟩ := is_v u3
  obtain rfl : w3 = (.int i3) := Option.some.inj ei3
  obtain ⟨i4, ei4⟩ := is_v u4
  obtain rfl : w4 = (.int i4) := Option.some.inj ei4
  obtain ⟨i5, ei5⟩ := is_v q5
  obtain rfl : w5 = (.int i5) := Option.some.inj ei5
  obtain ⟨n, o, h1, h2, h3, _, L, rfl, ⟨rfl, N⟩, hq⟩ := rm0 l s _ hw tables_1 i0 i1 i2 i3 i4 i5 s.heap s.heap.size (Nat.le_refl _) p e ha hc hk s m _ below hf ((Spec.applies_iff_loose hf).mp happ).1 ⟨rfl, State.Warmed39.refl s, rfl⟩ trivial
  refine ⟨n, _, h1, h2, h3, hpost _ _ _ _ _ _ ⟨Cond.after_iff.mpr rfl, Cond.after_iff.mpr (eq_i res_at (Term.int_eval (1)) rfl), trivial⟩ ⟨hq.1, hq.2.1, (hq.2.2.sift fun y hy => Or.inr (N y hy)).mono (by decide) (by decide)⟩⟩
theorem main_1_1 : Claimed_1_1 := comes_1 fun _ _ _ _ _ _ h hF => ⟨h.1, hF⟩
theorem main_1_2 : Claimed_1_2 := comes_1 fun _ _ _ _ _ _ h hF => ⟨h.2.1, hF⟩
end Jvm.Pilot.@@N@@
namespace Jvm.Pilot.@@N@@
open Jvm Jvm.ClassFile Sem Op Lib Jvm.Free Jvm.Stand Jvm.Pilot.@@N@@.Jvm.D
/-! MADE BY PROGRAM (witnessworld.py) out of the Statement's table words and the real class files: 9 classes; the members and pool entries that the words name. The judged class is class 1, her method 1. -/
namespace start1
open Jvm.ClassFile
def u (s : String) : CpInfo := .utf8 (stringToUtf16 s)
/-- a pool by its gaps: so many unusable entries, then the entry; so many at the end -/
def gap : Nat → List CpInfo → List CpInfo
  | 0, r => r
  | n + 1, r => .unusable :: gap n r
def poolList (es : List (Nat × CpInfo)) (last : Nat) : List CpInfo := es.foldr (fun e r => gap e.1 (e.2 :: r)) (gap last [])
def pool (es : List (Nat × CpInfo)) (last : Nat) : Array CpInfo := ⟨poolList es last⟩
def fileOf (pool : Array CpInfo) (this : Nat) (attrs : Array Attribute := #[]) (ms : Array MethodInfo := #[]) (fl : Nat := 33) (sup : Nat := 0) (ifs : Array Nat := #[]) (fds : Array FieldInfo := #[]) : ClassFile where
  minorVersion := 0
  majorVersion := 65
  constantPool := pool
  accessFlags := fl
  thisClass := this
  superClass := sup
  interfaces := ifs
  fields := fds
  methods := ms
  attributes := attrs
def plain (name : String) (sup : Option ClassId) : Class where
  name := name
  kind := .ordinary
  loader := none
  accessFlags := 33
  super := sup
  interfaces := #[]
  cf := none
  fields := #[]
  methods := #[]
  instanceTypes := #[]
  staticTypes := #[]
  resolved := #[]
  callSites := []
  init := .initialized
  statics := none
  mirror := none

def pool0 : Array CpInfo := pool [(5, u "<init>"), (0, u "()V"), (1, .class_ 10), (1, u "java/lang/Object")] 113

def k0m0 : Method := { name := "<init>", desc := "()V", sig := { parameters := [], returnType := none }, accessFlags := 1, code := none }
/-- java/lang/Object -/
def k0 : Class := { plain "java/lang/Object" none with
  accessFlags := 33
  interfaces := #[]
  cf := some (fileOf pool0 8 #[] #[{ accessFlags := 1, nameIndex := 5, descriptorIndex := 6, attributes := #[] }] 33 0 #[] #[])
  fields := #[]
  methods := #[k0m0]
  instanceTypes := #[]
  staticTypes := #[]
  resolved := Array.replicate 124 none
  statics := none }

def pool1 : Array CpInfo := pool [(2, .class_ 4), (1, u "java/lang/Object"), (0, u "<init>"), (0, u "()V"), (0, .integer 2147483647), (0, .methodref 9 10), (0, .class_ 11), (0, .nameAndType 12 13), (0, u "com/example/tender_parcel/tenderparcel/TarHeader"), (0, u "checksum"), (0, u "([BZ)J"), (0, .methodref 15 16), (0, .class_ 17), (0, .nameAndType 18 19), (0, u "com/example/tender_parcel/tenderparcel/TarHeaderChecksumPinLaw"), (0, u "value"), (0, u "(IZ)J"), (0, .long 256), (3, u "law"), (0, u "(IIIIII)Z")] 5

def k1m0 : Method := { name := "<init>", desc := "()V", sig := { parameters := [], returnType := none }, accessFlags := 1, code := none }
def k1c1 : Code := { maxStack := 4, maxLocals := 15, code := code, exceptionTable := #[], attributes := #[] }
def k1m1 : Method := { name := "law", desc := "(IIIIII)Z", sig := { parameters := [.int, .int, .int, .int, .int, .int], returnType := some .boolean }, accessFlags := 9, code := some k1c1 }
def k1c2 : Code := { maxStack := 2, maxLocals := 2, code := method_3_code, exceptionTable := #[], attributes := #[] }
def k1m2 : Method := { name := "value", desc := "(IZ)J", sig := { parameters := [.int, .boolean], returnType := some .long }, accessFlags := 10, code := some k1c2 }
/-- com/example/tender_parcel/tenderparcel/TarHeaderChecksumPinLaw -/
def k1 : Class := { plain "com/example/tender_parcel/tenderparcel/TarHeaderChecksumPinLaw" (some 0) with
  accessFlags := 49
  interfaces := #[]
  cf := some (fileOf pool1 15 #[] #[{ accessFlags := 1, nameIndex := 5, descriptorIndex := 6, attributes := #[] }, { accessFlags := 9, nameIndex := 24, descriptorIndex := 25, attributes := #[] }, { accessFlags := 10, nameIndex := 18, descriptorIndex := 19, attributes := #[] }] 49 2 #[] #[])
  fields := #[]
  methods := #[k1m0, k1m1, k1m2]
  instanceTypes := #[]
  staticTypes := #[]
  resolved := Array.replicate 31 none
  statics := none }

def pool2 : Array CpInfo := pool [(2, .class_ 4), (1, u "java/lang/Object"), (0, u "<init>"), (0, u "()V"), (0, .class_ 8), (0, u "com/example/tender_parcel/tenderparcel/TarHeader"), (95, u "USTAR"), (0, u "[B"), (0, u "RECORD"), (0, u "I"), (2, u "NAME"), (1, u "MODE"), (1, u "UID"), (1, u "GID"), (1, u "SIZE"), (1, u "MTIME"), (1, u "CHECKSUM"), (1, u "TYPE"), (1, u "LINK_NAME"), (1, u "MAGIC"), (1, u "VERSION"), (1, u "PREFIX"), (1, u "GNU_STRETCHES"), (1, u "GNU_EXTENDED"), (1, u "GNU_REAL_SIZE"), (1, u "GNU_EXTENSION_EXTENDED"), (3, u "checksum"), (0, u "([BZ)J")] 31

def k2m0 : Method := { name := "<init>", desc := "()V", sig := { parameters := [], returnType := none }, accessFlags := 2, code := none }
def k2c1 : Code := { maxStack := 5, maxLocals := 8, code := prog_104_method_2_code, exceptionTable := #[], attributes := #[] }
def k2m1 : Method := { name := "checksum", desc := "([BZ)J", sig := { parameters := [(.array .byte), .boolean], returnType := some .long }, accessFlags := 8, code := some k2c1 }
/-- com/example/tender_parcel/tenderparcel/TarHeader -/
def k2 : Class := { plain "com/example/tender_parcel/tenderparcel/TarHeader" (some 0) with
  accessFlags := 32
  interfaces := #[]
  cf := some (fileOf pool2 7 #[] #[{ accessFlags := 2, nameIndex := 5, descriptorIndex := 6, attributes := #[] }, { accessFlags := 8, nameIndex := 144, descriptorIndex := 145, attributes := #[] }] 32 2 #[] #[{ accessFlags := 24, nameIndex := 106, descriptorIndex := 107, attributes := #[] }, { accessFlags := 24, nameIndex := 110, descriptorIndex := 107, attributes := #[] }, { accessFlags := 24, nameIndex := 112, descriptorIndex := 107, attributes := #[] }, { accessFlags := 24, nameIndex := 114, descriptorIndex := 107, attributes := #[] }, { accessFlags := 24, nameIndex := 116, descriptorIndex := 107, attributes := #[] }, { accessFlags := 24, nameIndex := 118, descriptorIndex := 107, attributes := #[] }, { accessFlags := 24, nameIndex := 120, descriptorIndex := 107, attributes := #[] }, { accessFlags := 24, nameIndex := 122, descriptorIndex := 107, attributes := #[] }, { accessFlags := 24, nameIndex := 124, descriptorIndex := 107, attributes := #[] }, { accessFlags := 24, nameIndex := 126, descriptorIndex := 107, attributes := #[] }, { accessFlags := 24, nameIndex := 128, descriptorIndex := 107, attributes := #[] }, { accessFlags := 24, nameIndex := 130, descriptorIndex := 107, attributes := #[] }, { accessFlags := 24, nameIndex := 132, descriptorIndex := 107, attributes := #[] }, { accessFlags := 24, nameIndex := 134, descriptorIndex := 107, attributes := #[] }, { accessFlags := 24, nameIndex := 136, descriptorIndex := 107, attributes := #[] }, { accessFlags := 24, nameIndex := 138, descriptorIndex := 107, attributes := #[] }, { accessFlags := 24, nameIndex := 140, descriptorIndex := 107, attributes := #[] }, { accessFlags := 24, nameIndex := 104, descriptorIndex := 105, attributes := #[] }])
  fields := #[{ name := "RECORD", type := .int, accessFlags := 24, slot := 0, constantValue := 0 }, { name := "NAME", type := .int, accessFlags := 24, slot := 1, constantValue := 0 }, { name := "MODE", type := .int, accessFlags := 24, slot := 2, constantValue := 0 }, { name := "UID", type := .int, accessFlags := 24, slot := 3, constantValue := 0 }, { name := "GID", type := .int, accessFlags := 24, slot := 4, constantValue := 0 }, { name := "SIZE", type := .int, accessFlags := 24, slot := 5, constantValue := 0 }, { name := "MTIME", type := .int, accessFlags := 24, slot := 6, constantValue := 0 }, { name := "CHECKSUM", type := .int, accessFlags := 24, slot := 7, constantValue := 0 }, { name := "TYPE", type := .int, accessFlags := 24, slot := 8, constantValue := 0 }, { name := "LINK_NAME", type := .int, accessFlags := 24, slot := 9, constantValue := 0 }, { name := "MAGIC", type := .int, accessFlags := 24, slot := 10, constantValue := 0 }, { name := "VERSION", type := .int, accessFlags := 24, slot := 11, constantValue := 0 }, { name := "PREFIX", type := .int, accessFlags := 24, slot := 12, constantValue := 0 }, { name := "GNU_STRETCHES", type := .int, accessFlags := 24, slot := 13, constantValue := 0 }, { name := "GNU_EXTENDED", type := .int, accessFlags := 24, slot := 14, constantValue := 0 }, { name := "GNU_REAL_SIZE", type := .int, accessFlags := 24, slot := 15, constantValue := 0 }, { name := "GNU_EXTENSION_EXTENDED", type := .int, accessFlags := 24, slot := 16, constantValue := 0 }, { name := "USTAR", type := (.array .byte), accessFlags := 24, slot := 17, constantValue := 0 }]
  methods := #[k2m0, k2m1]
  instanceTypes := #[]
  staticTypes := #[.int, .int, .int, .int, .int, .int, .int, .int, .int, .int, .int, .int, .int, .int, .int, .int, .int, (.array .byte)]
  resolved := Array.replicate 177 none
  statics := none }

def pool3 : Array CpInfo := pool [(1, u "java/lang/Cloneable"), (0, .class_ 1), (0, u "java/lang/Object"), (0, .class_ 3)] 3

/-- java/lang/Cloneable -/
def k3 : Class := { plain "java/lang/Cloneable" (some 0) with
  accessFlags := 1537
  interfaces := #[]
  cf := some (fileOf pool3 2 #[] #[] 1537 4 #[] #[])
  fields := #[]
  methods := #[]
  instanceTypes := #[]
  staticTypes := #[]
  resolved := Array.replicate 8 none
  statics := none }

def pool4 : Array CpInfo := pool [(1, u "java/io/Serializable"), (0, .class_ 1), (0, u "java/lang/Object"), (0, .class_ 3)] 3

/-- java/io/Serializable -/
def k4 : Class := { plain "java/io/Serializable" (some 0) with
  accessFlags := 1537
  interfaces := #[]
  cf := some (fileOf pool4 2 #[] #[] 1537 4 #[] #[])
  fields := #[]
  methods := #[]
  instanceTypes := #[]
  staticTypes := #[]
  resolved := Array.replicate 8 none
  statics := none }

/-- the primitive byte -/
def k5 : Class := { plain "byte" none with kind := .primitive 'B', accessFlags := 0x411 }
/-- [B -/
def k6 : Class := { plain "[B" (some 0) with kind := .array 5 .byte, interfaces := #[3, 4], accessFlags := 1041 }

/-- the primitive int -/
def k7 : Class := { plain "int" none with kind := .primitive 'I', accessFlags := 0x411 }
/-- [I -/
def k8 : Class := { plain "[I" (some 0) with kind := .array 7 .int, interfaces := #[3, 4], accessFlags := 1041 }

def heap : Heap := #[]
def classes : Array Class := #[k0, k1, k2, k3, k4, k5, k6, k7, k8]
def interned : List (Array UInt16 × Addr) := []
def slotsUsed : Nat := 0
def theMethod : MethodId := ⟨1, 1⟩
def args0 : Array Value := #[.int 1, .int 2, .int 3, .int 4, .int 5, .int 6]
def aboutOver (below : List Frame) : State where
  vm := { classes := classes, interned := interned.toArray }
  heap := heap
  slotsUsed := slotsUsed
  threads := #[{ frames := .invoking theMethod args0 :: below }]
def below0 : List Frame := [.native { method := ⟨0, 0⟩, args := #[] }]
def about1 : State := aboutOver below0
def p0 : Program := .bare "" "" ""
def e0 : Env := launch0.env 0 0 0
theorem w_frames : about1.frames = Frame.invoking theMethod args0 :: below0 := rfl
set_option maxRecDepth 65536 in
theorem w_args : argsFit about1.vm theMethod args0 = true := by decide +kernel
set_option maxRecDepth 65536 in
theorem w_heap : heapFits about1 = true := by decide +kernel
set_option maxRecDepth 65536 in
theorem w_runnable : about1.curStatus? = some .runnable := by decide +kernel
set_option maxRecDepth 65536 in
theorem w_alone : about1.alone = true := by decide +kernel
set_option maxRecDepth 65536 in
theorem w_named : about1.methodNamed? x = some theMethod := by decide +kernel
set_option maxRecDepth 65536 in
theorem w_hears : about1.hears theMethod below0 = true := by decide +kernel
set_option maxRecDepth 65536 in
theorem w_ripe : about1.ripe theMethod args0 below0 = true := by decide +kernel
theorem w_running : about1.status = .running := rfl
set_option maxRecDepth 65536 in
theorem w_room : about1.hasRoom e0.platform room_1 = true :=
  launch0.hasRoom_least _ room_1 (by decide +kernel) (by decide +kernel) (by decide +kernel) (by decide +kernel) (by decide +kernel) (by decide +kernel)
theorem allAtoms_all (ts : List Jvm.Cond) (a : Array Jvm.Value) (st : Jvm.State) : (allAtoms ts).before a st = ts.all (fun c => c.before a st) := by
  induction ts with
  | nil => rfl
  | cons c t ih =>
    show (Jvm.Cond.and c (allAtoms t)).before a st = _
    rw [Jvm.Cond.before_and, ih, List.all_cons]
def words1 : List Jvm.Cond := Jvm.Cond.code x code maxLocals ret :: tables_1
/-- a 'code' word, met by the world's own term for the bytes: nothing is compared byte by byte -/
theorem code_word {y : MethodName} {bytes : ByteArray} {mx : Nat} {rt : Option FieldType} {a : Array Value} {s : State} {m : MethodId} {meth : Method} {c : Code} (h1 : s.methodNamed? y = some m) (h2 : s.vm.method? m = some meth) (h3 : meth.code = some c) (h4 : c.code = bytes)
    (h5 : (c.maxLocals == mx && c.exceptionTable.isEmpty && decide (c.maxStack ≤ mostOperands) && decide (meth.sig.returnType = rt) && !meth.locks && decide (parseMethodDescriptor y.desc = some meth.sig)) = true) : (Jvm.Cond.code y bytes mx rt).before a s = true := by
  simp only [Bool.and_eq_true, beq_iff_eq, Bool.not_eq_true', decide_eq_true_eq] at h5
  obtain ⟨⟨⟨⟨⟨g1, g2⟩, g3⟩, g4⟩, g5⟩, g6⟩ := h5
  simp [Cond.before, Cond.holds, Cond.value, h1, h2, h3, h4, g1, g2, g3, g4, g5, g6]
def isCode : Jvm.Cond → Bool
  | .code _ _ _ _ => true
  | _ => false
theorem all_split {L : List Jvm.Cond} {P : Jvm.Cond → Bool} (h1 : L.all (fun c => isCode c || P c) = true) (h2 : ∀ c ∈ L.filter isCode, P c = true) : L.all P = true := by
  refine List.all_eq_true.mpr fun c hc => ?_
  have h := List.all_eq_true.mp h1 c hc
  rcases Bool.eq_false_or_eq_true (isCode c) with hi | hi
  · exact h2 c (List.mem_filter.mpr ⟨hc, hi⟩)
  · simpa [hi] using h
set_option maxRecDepth 65536 in
theorem w_c0 : (Jvm.Cond.code x code maxLocals ret).before args0 about1 = true := code_word (m := ⟨1, 1⟩) (meth := k1m1) (c := k1c1) (by decide +kernel) rfl rfl rfl (by decide +kernel)
set_option maxRecDepth 65536 in
theorem w_c1 : (Jvm.Cond.code ({ cls := "com/example/tender_parcel/tenderparcel/TarHeader", name := "checksum", desc := "([BZ)J" } : Jvm.MethodName) prog_104_method_2_code (8 : Nat) (Option.some Jvm.ClassFile.FieldType.long)).before args0 about1 = true := code_word (m := ⟨2, 1⟩) (meth := k2m1) (c := k2c1) (by decide +kernel) rfl rfl rfl (by decide +kernel)
set_option maxRecDepth 65536 in
theorem w_c2 : (Jvm.Cond.code ({ cls := "com/example/tender_parcel/tenderparcel/TarHeaderChecksumPinLaw", name := "value", desc := "(IZ)J" } : Jvm.MethodName) method_3_code (2 : Nat) (Option.some Jvm.ClassFile.FieldType.long)).before args0 about1 = true := code_word (m := ⟨1, 2⟩) (meth := k1m2) (c := k1c2) (by decide +kernel) rfl rfl rfl (by decide +kernel)
def codes1 : List Jvm.Cond := [Jvm.Cond.code x code maxLocals ret, Jvm.Cond.code ({ cls := "com/example/tender_parcel/tenderparcel/TarHeader", name := "checksum", desc := "([BZ)J" } : Jvm.MethodName) prog_104_method_2_code (8 : Nat) (Option.some Jvm.ClassFile.FieldType.long), Jvm.Cond.code ({ cls := "com/example/tender_parcel/tenderparcel/TarHeaderChecksumPinLaw", name := "value", desc := "(IZ)J" } : Jvm.MethodName) method_3_code (2 : Nat) (Option.some Jvm.ClassFile.FieldType.long)]
set_option maxRecDepth 65536 in
theorem codes_eq : words1.filter isCode = codes1 := rfl
theorem w_codes : ∀ c ∈ words1.filter isCode, c.before args0 about1 = true := by
  rw [codes_eq]
  intro c hc
  simp only [codes1, List.mem_cons, List.not_mem_nil, or_false] at hc
  rcases hc with rfl | rfl | rfl
  · exact w_c0
  · exact w_c1
  · exact w_c2
set_option maxRecDepth 65536 in
theorem w_t1 : words1.all (fun c => isCode c || c.before args0 about1) = true := by decide +kernel
theorem w_tables : (allAtoms (Jvm.Cond.code x code maxLocals ret :: tables_1)).before args0 about1 = true := by
  rw [allAtoms_all]
  show words1.all (fun c => c.before args0 about1) = true
  refine all_split ?_ w_codes
  rw [w_t1]
set_option maxRecDepth 65536 in
theorem w_case : (Jvm.Cond.and given_1 narrow_1).before args0 about1 = true := by decide +kernel
theorem w_applies : (headSpec (Jvm.Cond.code x code maxLocals ret :: tables_1) room_1).applies x e0.platform about1 = true :=
  (Spec.applies_iff w_frames).mpr ⟨w_running, w_runnable, w_alone, w_named, w_hears, w_ripe, w_room, w_tables⟩
theorem atStart : AtStart classFile x code maxLocals ret World_1 tables_1 room_1 Calls_1 rest_1 Pre_1 launch0 p0 e0 about1 theMethod args0 below0 :=
  ⟨lists_1, trivial, launch0.admits_env _ _ _, launch0.least_env, fairChoices_fair.cas, fairChoices_fair.clock, w_frames, w_args, w_heap, w_applies, trivial, trivial, w_case⟩
end start1
theorem witness_1 : WitnessClaimed_1 := ⟨start1.p0, start1.e0, start1.about1, start1.theMethod, start1.args0, start1.below0, start1.atStart⟩
end Jvm.Pilot.@@N@@
