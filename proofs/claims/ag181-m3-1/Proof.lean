import JvmDerived
import JvmDerived.Pilot.@@N@@Statement
import JvmDerived.Pilot.@@N@@Code
set_option linter.unusedVariables false
set_option linter.unusedSimpArgs false
namespace Jvm.Pilot.@@N@@
open Jvm Jvm.ClassFile Sem Op Lib Jvm.Free Jvm.Stand Jvm.LawKit Jvm.RoadKit Bundle Jvm.Pilot.@@N@@.Jvm.D
abbrev own_jv (x : Int64) : Slot := .val (.long x)
theorem own_i_lt {a b : Int32} (h : a < b) : a.toInt < b.toInt := Int32.lt_iff_toInt_lt.mp h
theorem own_i_nlt {a b : Int32} (h : ¬ a < b) : b.toInt ≤ a.toInt := Int.not_lt.mp fun q => h (Int32.lt_iff_toInt_lt.mpr q)
theorem own_i_eq {a b : Int32} (h : a = b) : a.toInt = b.toInt := congrArg Int32.toInt h
theorem own_i_ne {a b : Int32} (h : ¬ a = b) : ¬ a.toInt = b.toInt := fun q => h (Int32.toInt_inj.mp q)
theorem own_j_lt {a b : Int64} (h : a < b) : a.toInt < b.toInt := Int64.lt_iff_toInt_lt.mp h
theorem own_j_nlt {a b : Int64} (h : ¬ a < b) : b.toInt ≤ a.toInt := Int.not_lt.mp fun q => h (Int64.lt_iff_toInt_lt.mpr q)
theorem own_j_eq {a b : Int64} (h : a = b) : a.toInt = b.toInt := congrArg Int64.toInt h
theorem own_j_ne {a b : Int64} (h : ¬ a = b) : ¬ a.toInt = b.toInt := fun q => h (Int64.toInt_inj.mp q)
theorem own_b1 {P : Prop} (h : P) : ((1 : Int32).toInt = 1 ∧ P) ∨ ((1 : Int32).toInt = 0 ∧ ¬ P) := Or.inl ⟨by decide, h⟩
theorem own_b0 {P : Prop} (h : ¬ P) : ((0 : Int32).toInt = 1 ∧ P) ∨ ((0 : Int32).toInt = 0 ∧ ¬ P) := Or.inr ⟨by decide, h⟩
theorem own_cat {w : Value} (hw : w.isRef = true) : w.category = 1 := by rcases ref_cases hw with rfl | ⟨a, rfl⟩ <;> rfl
theorem own_fitR {t : FieldType} (ht : t.isReference = true) {w : Value} (hw : w.isRef = true) : fits t w = true := by
  rcases ref_cases hw with rfl | ⟨a, rfl⟩ <;> cases t <;> first | rfl | cases ht
theorem own_static {s : State} {args : Array Value} {C n d K : String} (h : (Jvm.Cond.exactly (Jvm.Term.static C n d) K).value args s none s [] = some true) (wi : (Jvm.Cond.initialized C).before args s = true) (wl : (Jvm.Cond.laysStatic C n d).before args s = true) : ∃ a, (Jvm.Term.static C n d).eval args s none [] s = some (.ref a) ∧ Sta s s.heap C n d (.ref a) ∧ Exa s s.heap a K := by
  obtain ⟨a, ev⟩ := exa_v h
  exact ⟨a, ev, Sta.start ev (Or.inr ⟨wi, wl⟩), Exa.start ev h⟩
theorem own_teq {s : State} {args : Array Value} {t : Jvm.Term} {x : Int32} (h : (Jvm.Cond.eq t (Jvm.Term.int x)).value args s none s [] = some true) : t.eval args s none [] s = some (.int x) := by
  simp only [Cond.value, Term.int_eval] at h
  cases hv : t.eval args s none [] s with
  | none => simp [hv] at h
  | some v => cases v <;> simp [hv] at h ⊢; exact h
theorem own_fint {s : State} {args : Array Value} {t : Jvm.Term} {C n d : String} {x : Int32} {a : Addr} (h : (Jvm.Cond.eq (Jvm.Term.field t C n d) (Jvm.Term.int x)).value args s none s [] = some true) (e : t.eval args s none [] s = some (.ref a)) : s.fieldOf? a C n d = some (.int x) := by
  have q := fld_at (C := C) (n := n) (dd := d) e
  simp only [Cond.value, q, Term.int_eval] at h
  cases hv : s.fieldOf? a C n d with
  | none => simp [hv] at h
  | some v => cases v <;> simp [hv] at h ⊢; exact h
theorem own_ord {s : State} {args : Array Value} {t t' : Jvm.Term} {C n d : String} {x y : Int32} {a b : Nat} (h : (Jvm.Cond.eq (Jvm.Term.field t C n d) (Jvm.Term.int x)).value args s none s [] = some true) (e : t.eval args s none [] s = some (.ref a)) (h' : (Jvm.Cond.eq (Jvm.Term.field t' C n d) (Jvm.Term.int y)).value args s none s [] = some true) (e' : t'.eval args s none [] s = some (.ref b)) (hn : x ≠ y) : ¬ a = b := fun q => by
  subst q
  have := (own_fint h e).symm.trans (own_fint h' e')
  cases this
  exact hn rfl
def own_O (Z : State) (a : Addr) (k : Int32) : Prop := Z.fieldOf? a "java/lang/Enum" "ordinal" "I" = some (.int k)
theorem own_one {Z : State} {a b : Nat} {i j : Int32} (h : own_O Z a i) (h' : own_O Z b j) (hn : i ≠ j) : ¬ a = b := fun q => by
  subst q
  have := Eq.symm h |>.trans h'
  cases this
  exact hn rfl
theorem own_fldR {s : State} {args : Array Value} {t : Jvm.Term} {C n d K : String} {a : Addr} (h : (Jvm.Cond.exactly (Jvm.Term.field t C n d) K).value args s none s [] = some true) (e : t.eval args s none [] s = some (.ref a)) : ∃ b, Fld s s.heap a C n d (.ref b) := by
  obtain ⟨b, ev⟩ := exa_v h
  rw [fld_at e] at ev
  exact ⟨b, Fld.start ev⟩
theorem own_fldN {s : State} {args : Array Value} {t : Jvm.Term} {C n d : String} {a : Addr} (h : (Jvm.Cond.eq (Jvm.Term.field t C n d) Jvm.Term.null).value args s none s [] = some true) (e : t.eval args s none [] s = some (.ref a)) : Fld s s.heap a C n d .null := by
  have ev := null_v h
  rw [fld_at e] at ev
  exact Fld.start ev
theorem own_ne {x y : Addr} (h : @Ne Nat x y) : x ≠ y := h
section OwnKit
variable {p : Program} {l : Launch} {e : Env} {R : Room} {s : State} {m : MethodId} {args : Array Value} {below : List Frame} {meth : Method} {c : Code} {T : State} {locs : List Loc} {cells slots : Nat} {Z : State} {a0 : Array Value} {h h' : Heap} {Q : Option Value → Heap → List Loc → Prop}
/-- from U the run comes to its end, and what it leaves is Q's -/
def own_Goes (p : Program) (e : Env) (below : List Frame) (s : State) (R : Room) (Q : Option Value → Heap → List Loc → Prop) (U : State) : Prop :=
  ∃ s₂ o, Steps p.tables e below U s₂ ∧ s₂.status = .running ∧ Ended s₂ below o ∧ ∃ v L, o = .returned v ∧ Q v s₂.heap L ∧ FrameEnd s o s₂ L R.cells R.slots
theorem own_st {U U' : State} (k : ∀ t, Steps p.tables e below U' t → Steps p.tables e below U t) (g : own_Goes p e below s R Q U') : own_Goes p e below s R Q U := by
  obtain ⟨s₂, o, h1, h2⟩ := g
  exact ⟨s₂, o, k _ h1, h2⟩
theorem own_fin (X : Stand p l e R s m args below meth c T locs cells slots) (hk : meth.locks = false) {v : Option Value} (hv : meth.sig.returnType = none → v = none) {U : State}
    (hs : ∀ fs, (∀ (f : JFrame) (acts : List Action), f.method = m → f.locked = none → f.entered = [] → (doReturn e (T.setTop f) acts v).1 = T.setFrames fs) → Steps p.tables e below U (T.setFrames fs))
    (hc : cells ≤ R.cells) (hl : slots ≤ R.slots) (q : Q v T.heap locs) : own_Goes p e below s R Q U := by
  obtain ⟨fs, hr, hrun, hended, hW, hsame⟩ := X.leave hv hk
  exact ⟨_, _, hs fs hr, hrun, hended, v, locs, rfl, q, ⟨v, rfl⟩, hW, hsame.mono hc hl⟩
theorem own_ret (X : Stand p l e R s m args below meth c T locs cells slots) (hx : p.tables.exec = Jvm.exec) (hk : meth.locks = false) {pc : Nat} {Ls : Array Slot} {w : Value} {t : FieldType} {i : Instr} {rest : List Value} (hret : meth.sig.returnType = some t) (hn : narrow t w = w)
    (hi : (i = .ireturn ∧ (t = .int ∨ t = .boolean ∨ t = .byte ∨ t = .char ∨ t = .short) ∧ ∃ z, w = .int z) ∨ (i = .lreturn ∧ t = .long ∧ ∃ z, w = .long z) ∨ (i = .dreturn ∧ t = .double ∧ ∃ z, w = .double z) ∨ (i = .freturn ∧ t = .float ∧ ∃ z, w = .float z) ∨ (i = .areturn ∧ t.isReference = true ∧ w.isRef = true))
    (hd : decode c.code pc = .ok (i, 1)) (hc : cells ≤ R.cells) (hl : slots ≤ R.slots) (q : Q (some w) T.heap locs) : own_Goes p e below s R Q (T.setTop (mkF m pc Ls (w :: rest))) :=
  own_fin X hk (fun h => by rw [hret] at h; cases h) (fun fs hr => retOut X hx hret hn hi hd hr) hc hl q
theorem own_retI (X : Stand p l e R s m args below meth c T locs cells slots) (hx : p.tables.exec = Jvm.exec) (hk : meth.locks = false) {pc : Nat} {Ls : Array Slot} {z : Int32} {rest : List Value} (hret : meth.sig.returnType = some .int)
    (hd : decode c.code pc = .ok (.ireturn, 1)) (hc : cells ≤ R.cells) (hl : slots ≤ R.slots) (q : Q (some (.int z)) T.heap locs) : own_Goes p e below s R Q (T.setTop (mkF m pc Ls (.int z :: rest))) :=
  own_ret X hx hk hret rfl (Or.inl ⟨rfl, Or.inl rfl, z, rfl⟩) hd hc hl q
theorem own_retJ (X : Stand p l e R s m args below meth c T locs cells slots) (hx : p.tables.exec = Jvm.exec) (hk : meth.locks = false) {pc : Nat} {Ls : Array Slot} {z : Int64} {rest : List Value} (hret : meth.sig.returnType = some .long)
    (hd : decode c.code pc = .ok (.lreturn, 1)) (hc : cells ≤ R.cells) (hl : slots ≤ R.slots) (q : Q (some (.long z)) T.heap locs) : own_Goes p e below s R Q (T.setTop (mkF m pc Ls (.long z :: rest))) :=
  own_ret X hx hk hret rfl (Or.inr (Or.inl ⟨rfl, rfl, z, rfl⟩)) hd hc hl q
theorem own_narR {t : FieldType} (ht : t.isReference = true) {w : Value} (hw : w.isRef = true) : narrow t w = w := by
  rcases ref_cases hw with rfl | ⟨a, rfl⟩ <;> cases t <;> first | rfl | cases ht
theorem own_retR (X : Stand p l e R s m args below meth c T locs cells slots) (hx : p.tables.exec = Jvm.exec) (hk : meth.locks = false) {pc : Nat} {Ls : Array Slot} {w : Value} {t : FieldType} {rest : List Value} (hret : meth.sig.returnType = some t) (ht : t.isReference = true) (hw : w.isRef = true)
    (hd : decode c.code pc = .ok (.areturn, 1)) (hc : cells ≤ R.cells) (hl : slots ≤ R.slots) (q : Q (some w) T.heap locs) : own_Goes p e below s R Q (T.setTop (mkF m pc Ls (w :: rest))) :=
  own_ret X hx hk hret (own_narR ht hw) (Or.inr (Or.inr (Or.inr (Or.inr ⟨rfl, ht, hw⟩)))) hd hc hl q
theorem own_retN (X : Stand p l e R s m args below meth c T locs cells slots) (hx : p.tables.exec = Jvm.exec) (hk : meth.locks = false) {pc : Nat} {Ls : Array Slot} {z : Int32} (z' : Int32) {t : FieldType} {rest : List Value} (hret : meth.sig.returnType = some t) (ht : t = .boolean ∨ t = .byte ∨ t = .char ∨ t = .short) (hz : nar t z = z')
    (hd : decode c.code pc = .ok (.ireturn, 1)) (hc : cells ≤ R.cells) (hl : slots ≤ R.slots) (q : Q (some (.int z')) T.heap locs) : own_Goes p e below s R Q (T.setTop (mkF m pc Ls (.int z :: rest))) := by
  subst hz
  exact own_fin X hk (fun h => by rw [hret] at h; cases h) (fun fs hr => retN X hx hret ht hd hr) hc hl q
theorem own_ret0 (X : Stand p l e R s m args below meth c T locs cells slots) (hx : p.tables.exec = Jvm.exec) (hk : meth.locks = false) {pc : Nat} {Ls : Array Slot} (hret : meth.sig.returnType = none)
    (hd : decode c.code pc = .ok (.return_, 1)) (hc : cells ≤ R.cells) (hl : slots ≤ R.slots) (q : Q none T.heap locs) : own_Goes p e below s R Q (T.setTop (mkF m pc Ls [])) :=
  own_fin X hk (fun _ => rfl) (fun fs hr => X.returnOut hx hret hd hr) hc hl q
theorem own_enter {y : MethodName} {bytes : ByteArray} {maxL : Nat} {ret : Option FieldType} {ws : List Jvm.Cond} {as' : Array Value} {h0 : Heap} {F : MethodId → JFrame}
    (hp : plainFor y = true) (hf : ∀ m, entryFrame m as' maxL = F m)
    (body : ∀ (p : Program) (e : Env) (s : State) (m : MethodId) (below : List Frame) (meth : Method) (c : Code) (T : State), Stand p l e R s m as' below meth c T [] 0 0 → p.tables.exec = Jvm.exec → c.code = bytes → c.maxLocals = maxL → meth.sig.returnType = ret → meth.locks = false → meth.name = y.name → s.vm.findClass y.cls = some m.cls → Z.Warmed39 s.vm → T.heap = h0 → own_Goes p e below s R Q (T.setTop (F m))) :
    MetFree l y (head1 (Jvm.Cond.code y bytes maxL ret :: ws) R) (fun a U => a = as' ∧ Z.Warmed39 U.vm ∧ U.heap = h0) (fun _ _ _ _ _ => True) (fun _ U o U' => ∃ v L, o = .returned v ∧ Q v U'.heap L ∧ FrameEnd U o U' L R.cells R.slots) := by
  refine MetFree.of_bodySF hp hisR ?_
  intro p e s m args below meth c s₁ Bd hml0 hP hK
  obtain ⟨rfl, hZ, hh⟩ := hP
  have e0 : s₁.heap = h0 := by rw [← hh, Bd.state]; rfl
  have g := body p e s m below meth c s₁ (Stand.of_body Bd) Bd.exec Bd.bytes hml0 Bd.returns Bd.notSynchronized (name_of_methodNamed Bd.named Bd.method).1 (findClass_of_methodNamed Bd.named) hZ e0
  rw [hf]
  exact g
theorem own_callS (X : Stand p l e R s m args below meth c T locs cells slots) (hx : p.tables.exec = Jvm.exec) (hZ : Z.Warmed39 s.vm) {own : String} {index : Nat} {y : MethodName} {bytes : ByteArray} {maxL : Nat} {ret : Option FieldType}
    (hown : s.vm.findClass own = some m.cls) (w1 : (Jvm.Cond.methodLink own index y).before a0 Z = true) (w2 : (Jvm.Cond.static y).before a0 Z = true) (w3 : (Jvm.Cond.initialized y.cls).before a0 Z = true) (w4 : (Jvm.Cond.code y bytes maxL ret).before a0 Z = true)
    (hy : y.cls ≠ "java/lang/invoke/MethodHandle" ∧ y.cls ≠ "java/lang/invoke/VarHandle") {W : Nat} {rm : Room} {argsL rest : List Value} {Qc : Option Value → Heap → List Loc → Prop}
    (hM : MetFree l y (head1 [Jvm.Cond.code y bytes maxL ret] rm) (fun a U => a = argsL.toArray ∧ Z.Warmed39 U.vm ∧ U.heap = h) (fun _ _ _ _ _ => True) (fun _ U o U' => ∃ v L, o = .returned v ∧ Qc v U'.heap L ∧ FrameEnd U o U' L rm.cells rm.slots))
    (hf : rm.frames + 1 ≤ R.frames) (hl : W + (maxL + 11) + rm.locals ≤ R.locals) (hc : cells + rm.cells ≤ R.cells) (hs : slots + rm.slots ≤ R.slots) (eT : T.heap = h)
    {ps : List FieldType} {r : Option FieldType} (hd : parseMethodDescriptor y.desc = some ⟨ps, r⟩) (hlen : argsL.length = ps.length)
    {g : JFrame} (hg : g.method = m) (hsize : g.locals.size = c.maxLocals) (hstack : g.stack = argsL.reverse ++ rest) (hW : 2 * g.monitorRoom + (rest.map fun v => v.category).sum ≤ W) (hdg : decode c.code g.pc = .ok (.invokestatic index, 3)) :
    ∃ (v : Option Value) (T' : State) (L : List Loc), Stand p l e R s m args below meth c T' (locs ++ L) (cells + rm.cells) (slots + rm.slots) ∧ Qc v T'.heap L ∧ ∀ t, Steps p.tables e below (T'.setTop { g with pc := g.pc + 3, stack := v.toList ++ rest }) t → Steps p.tables e below (T.setTop g) t := by
  obtain ⟨v, _, ⟨T', L', k', n'⟩, -, X', ⟨Lc, hQ, l', y', z'⟩, st⟩ := Jvm.LawKit.callS X hx (y := y) hown (mvT hZ w1) (mvT hZ w2) (mvT hZ w3) (mvT hZ w4) hy (backOf (W := W) hM hZ w4 w3 hf hl) hg hsize (argsL := argsL) (rest := rest) (lenOf hd hlen) hstack hW hdg (fun _ _ => ⟨rfl, eT, hc, hs⟩)
  dsimp only [Pt.U, Pt.locs, Pt.cells, Pt.slots] at X' l' y' z' st hQ
  subst l' y' z'
  exact ⟨v, T', Lc, X', hQ, st⟩
theorem own_callI (X : Stand p l e R s m args below meth c T locs cells slots) (hx : p.tables.exec = Jvm.exec) (hZ : Z.Warmed39 s.vm) {own : String} {index : Nat} {y : MethodName} {bytes : ByteArray} {maxL : Nat}
    (hown : s.vm.findClass own = some m.cls) (w1 : (Jvm.Cond.methodLink own index y).before a0 Z = true) (w2 : (Jvm.Cond.instanceMethod y).before a0 Z = true) (w3 : (Jvm.Cond.initialized y.cls).before a0 Z = true) (w4 : (Jvm.Cond.code y bytes maxL none).before a0 Z = true) (hy1 : y.name = "<init>")
    (hy : y.cls ≠ "java/lang/invoke/MethodHandle" ∧ y.cls ≠ "java/lang/invoke/VarHandle") {W : Nat} {rm : Room} {a : Addr} {argsL rest : List Value} {Qc : Option Value → Heap → List Loc → Prop}
    (hM : MetFree l y (head1 [Jvm.Cond.code y bytes maxL none] rm) (fun b U => b = (Value.ref a :: argsL).toArray ∧ Z.Warmed39 U.vm ∧ U.heap = h) (fun _ _ _ _ _ => True) (fun _ U o U' => ∃ v L, o = .returned v ∧ Qc v U'.heap L ∧ FrameEnd U o U' L rm.cells rm.slots))
    (hf : rm.frames + 1 ≤ R.frames) (hl : W + (maxL + 11) + rm.locals ≤ R.locals) (hc : cells + rm.cells ≤ R.cells) (hs : slots + rm.slots ≤ R.slots) (eT : T.heap = h)
    {ps : List FieldType} {r : Option FieldType} (hd : parseMethodDescriptor y.desc = some ⟨ps, r⟩) (hlen : argsL.length = ps.length)
    {g : JFrame} (hg : g.method = m) (hsize : g.locals.size = c.maxLocals) (hstack : g.stack = argsL.reverse ++ .ref a :: rest) (hW : 2 * g.monitorRoom + (rest.map fun v => v.category).sum ≤ W) (hdg : decode c.code g.pc = .ok (.invokespecial index, 3)) :
    ∃ (v : Option Value) (T' : State) (L : List Loc), Stand p l e R s m args below meth c T' (locs ++ L) (cells + rm.cells) (slots + rm.slots) ∧ Qc v T'.heap L ∧ ∀ t, Steps p.tables e below (T'.setTop { g with pc := g.pc + 3, stack := v.toList ++ rest }) t → Steps p.tables e below (T.setTop g) t := by
  obtain ⟨v, _, ⟨T', L', k', n'⟩, -, X', ⟨Lc, hQ, l', y', z'⟩, st⟩ := X.specialBack hx (y := y) hy1 hown (mvT hZ w1) (mvT hZ w2) (mvT hZ w4) hy (backOf (W := W) hM hZ w4 w3 hf hl) hg hsize (Steps.refl _) (a := a) (argsL := argsL) (rest := rest) (lenOf hd hlen) hstack hW hdg (fun _ _ => ⟨rfl, eT, hc, hs⟩)
  dsimp only [Pt.U, Pt.locs, Pt.cells, Pt.slots] at X' l' y' z' st hQ
  subst l' y' z'
  exact ⟨v, T', Lc, X', hQ, fun t k => st.trans k⟩
theorem own_callV (X : Stand p l e R s m args below meth c T locs cells slots) (hx : p.tables.exec = Jvm.exec) (hZ : Z.Warmed39 s.vm) {own C : String} {index : Nat} {y : MethodName} {bytes : ByteArray} {maxL : Nat} {ret : Option FieldType}
    (hown : s.vm.findClass own = some m.cls) (w1 : (Jvm.Cond.methodLink own index y).before a0 Z = true) (w5 : (Jvm.Cond.declares y).before a0 Z = true) (w6 : (Jvm.Cond.selects C y y).before a0 Z = true) (w2 : (Jvm.Cond.instanceMethod y).before a0 Z = true) (w3 : (Jvm.Cond.initialized y.cls).before a0 Z = true) (w4 : (Jvm.Cond.code y bytes maxL ret).before a0 Z = true)
    (hy : y.cls ≠ "java/lang/invoke/MethodHandle" ∧ y.cls ≠ "java/lang/invoke/VarHandle") {W : Nat} {rm : Room} {a : Addr} {argsL rest : List Value} {Qc : Option Value → Heap → List Loc → Prop}
    (hM : MetFree l y (head1 [Jvm.Cond.code y bytes maxL ret] rm) (fun b U => b = (Value.ref a :: argsL).toArray ∧ Z.Warmed39 U.vm ∧ U.heap = h) (fun _ _ _ _ _ => True) (fun _ U o U' => ∃ v L, o = .returned v ∧ Qc v U'.heap L ∧ FrameEnd U o U' L rm.cells rm.slots))
    (hf : rm.frames + 1 ≤ R.frames) (hl : W + (maxL + 11) + rm.locals ≤ R.locals) (hc : cells + rm.cells ≤ R.cells) (hs : slots + rm.slots ≤ R.slots) (eT : T.heap = h) (E : Exa Z h a C)
    {ps : List FieldType} {r : Option FieldType} (hd : parseMethodDescriptor y.desc = some ⟨ps, r⟩) (hlen : argsL.length = ps.length)
    {g : JFrame} (hg : g.method = m) (hsize : g.locals.size = c.maxLocals) (hstack : g.stack = argsL.reverse ++ .ref a :: rest) (hW : 2 * g.monitorRoom + (rest.map fun v => v.category).sum ≤ W) (hdg : decode c.code g.pc = .ok (.invokevirtual index, 3)) :
    ∃ (v : Option Value) (T' : State) (L : List Loc), Stand p l e R s m args below meth c T' (locs ++ L) (cells + rm.cells) (slots + rm.slots) ∧ Qc v T'.heap L ∧ ∀ t, Steps p.tables e below (T'.setTop { g with pc := g.pc + 3, stack := v.toList ++ rest }) t → Steps p.tables e below (T.setTop g) t := by
  obtain ⟨cq, kq, qa, qb, qc⟩ := isOf hZ eT E
  obtain ⟨v, _, ⟨T', L', k', n'⟩, -, X', ⟨Lc, hQ, l', y', z'⟩, st⟩ := X.virtualBack hx (y := y) (z := y) hown (mvT hZ w1) (mvT hZ w5) (notFace_of_selects (args := #[]) (mvT hZ w6)) (mvT hZ w6) (mvT hZ w2) hy (backOf (W := W) hM hZ w4 w3 hf hl) qa qc hg hsize (Steps.refl _) (argsL := argsL) (rest := rest) (lenOf hd hlen) hstack hW hdg (fun _ _ => ⟨rfl, eT, hc, hs⟩)
  dsimp only [Pt.U, Pt.locs, Pt.cells, Pt.slots] at X' l' y' z' st hQ
  subst l' y' z'
  exact ⟨v, T', Lc, X', hQ, fun t k => st.trans k⟩
theorem own_callP (X : Stand p l e R s m args below meth c T locs cells slots) (hx : p.tables.exec = Jvm.exec) (hZ : Z.Warmed39 s.vm) {own : String} {index : Nat} {y : MethodName} {bytes : ByteArray} {maxL : Nat} {ret : Option FieldType}
    (hown : s.vm.findClass own = some m.cls) (w1 : (Jvm.Cond.methodLink own index y).before a0 Z = true) (w5 : (Jvm.Cond.privateMethod y).before a0 Z = true) {ki : Nat} (w6 : (Jvm.Cond.instantiable y.cls ki).before a0 Z = true) (w2 : (Jvm.Cond.instanceMethod y).before a0 Z = true) (w3 : (Jvm.Cond.initialized y.cls).before a0 Z = true) (w4 : (Jvm.Cond.code y bytes maxL ret).before a0 Z = true)
    (hy : y.cls ≠ "java/lang/invoke/MethodHandle" ∧ y.cls ≠ "java/lang/invoke/VarHandle") {W : Nat} {rm : Room} {a : Addr} {argsL rest : List Value} {Qc : Option Value → Heap → List Loc → Prop} {C : String}
    (hM : MetFree l y (head1 [Jvm.Cond.code y bytes maxL ret] rm) (fun b U => b = (Value.ref a :: argsL).toArray ∧ Z.Warmed39 U.vm ∧ U.heap = h) (fun _ _ _ _ _ => True) (fun _ U o U' => ∃ v L, o = .returned v ∧ Qc v U'.heap L ∧ FrameEnd U o U' L rm.cells rm.slots))
    (hf : rm.frames + 1 ≤ R.frames) (hl : W + (maxL + 11) + rm.locals ≤ R.locals) (hc : cells + rm.cells ≤ R.cells) (hs : slots + rm.slots ≤ R.slots) (eT : T.heap = h) (E : Exa Z h a C)
    {ps : List FieldType} {r : Option FieldType} (hd : parseMethodDescriptor y.desc = some ⟨ps, r⟩) (hlen : argsL.length = ps.length)
    {g : JFrame} (hg : g.method = m) (hsize : g.locals.size = c.maxLocals) (hstack : g.stack = argsL.reverse ++ .ref a :: rest) (hW : 2 * g.monitorRoom + (rest.map fun v => v.category).sum ≤ W) (hdg : decode c.code g.pc = .ok (.invokevirtual index, 3)) :
    ∃ (v : Option Value) (T' : State) (L : List Loc), Stand p l e R s m args below meth c T' (locs ++ L) (cells + rm.cells) (slots + rm.slots) ∧ Qc v T'.heap L ∧ ∀ t, Steps p.tables e below (T'.setTop { g with pc := g.pc + 3, stack := v.toList ++ rest }) t → Steps p.tables e below (T.setTop g) t := by
  obtain ⟨cq, q1, q2⟩ := E.cell
  have hsel : (Jvm.Cond.selects y.cls y y).before args s = true := by
    obtain ⟨c2, k2, i1, i2, i3, i4, -⟩ := Cond.instantiable_spec (mv hZ w6 (args := args))
    exact selects_self_of_private i1 i2 (Bool.or_eq_false_iff.mp i4).1 (Cond.privateMethod_at (mvP hZ w5 (args := #[]))) (mvT hZ w2) hy
  obtain ⟨v, _, ⟨T', L', k', n'⟩, -, X', ⟨Lc, hQ, l', y', z'⟩, st⟩ := X.privateBack hx (y := y) hown (mvT hZ w1) (mvT hZ w2) hsel (Cond.privateMethod_at (mvP hZ w5 (args := #[]))) (mvT hZ w4) hy (backOf (W := W) hM hZ w4 w3 hf hl) hg hsize (Steps.refl _) (a := a) (by rw [eT]; exact q1) q2 (argsL := argsL) (rest := rest) (lenOf hd hlen) hstack hW hdg (fun _ _ => ⟨rfl, eT, hc, hs⟩)
  dsimp only [Pt.U, Pt.locs, Pt.cells, Pt.slots] at X' l' y' z' st hQ
  subst l' y' z'
  exact ⟨v, T', Lc, X', hQ, fun t k => st.trans k⟩
theorem own_sta_keep {C n d : String} {w : Value} {ws : List Addr} (F : Sta Z h C n d w) (K : Keep h h' ws) (q : ∀ x ∈ ws, ∀ c : Cell, h[x]? = some c → c.vm.isStatics = false) : Sta Z h' C n d w := by
  obtain ⟨cf, i, k, f, st, cell, h1, h2, h3, h4, h5, h6, h7⟩ := F
  exact ⟨cf, i, k, f, st, cell, h1, h2, h3, h4, K.2.1 _ _ h5 (fun hx => by have := q st hx cell h5; rw [this] at h6; cases h6), h6, h7⟩
theorem own_ext_keep (E : Ext h h') (ws : List Addr) : Keep h h' ws := (Keep.refl h ws).ext E
/-- an array at a: n places, the j-th holds f j -/
def own_Arf (Z : State) (h : Heap) (a : Addr) (ty : FieldType) (n : Nat) (f : Nat → Value) : Prop := ∃ c : Cell, Arr Z h a c ty ∧ c.slots.size = n ∧ ∀ j, j < n → c.slots[j]? = some (f j)
theorem own_Arf.lt {a : Nat} {ty : FieldType} {n : Nat} {f : Nat → Value} (F : own_Arf Z h a ty n f) : a < h.size := by obtain ⟨c, A, -⟩ := F; exact A.lt
theorem own_Arf.ext {a : Addr} {ty : FieldType} {n : Nat} {f : Nat → Value} (F : own_Arf Z h a ty n f) (E : Ext h h') : own_Arf Z h' a ty n f := by obtain ⟨c, A, r⟩ := F; exact ⟨c, A.ext E, r⟩
theorem own_Arf.other {a b : Addr} {ty : FieldType} {n : Nat} {f : Nat → Value} {sl : Nat} {v : Value} (F : own_Arf Z h b ty n f) (W : Wr h h' a sl v) (q : b ≠ a) : own_Arf Z h' b ty n f := by obtain ⟨c, A, r⟩ := F; exact ⟨c, A.other W q, r⟩
theorem own_Arf.keep {a : Addr} {ty : FieldType} {n : Nat} {f : Nat → Value} {ws : List Addr} (F : own_Arf Z h a ty n f) (K : Keep h h' ws) (q : a ∉ ws) : own_Arf Z h' a ty n f := by obtain ⟨c, A, r⟩ := F; exact ⟨c, ⟨K.2.1 a c A.1 q, A.2⟩, r⟩
theorem own_Arf.congr {a : Addr} {ty : FieldType} {n : Nat} {f f' : Nat → Value} (F : own_Arf Z h a ty n f) (q : ∀ j, j < n → f j = f' j) : own_Arf Z h a ty n f' := by obtain ⟨c, A, r1, r2⟩ := F; exact ⟨c, A, r1, fun j hj => by rw [← q j hj]; exact r2 j hj⟩
theorem own_Arf.set {a : Addr} {ty : FieldType} {n : Nat} {f : Nat → Value} {i : Nat} {v : Value} (F : own_Arf Z h a ty n f) (W : Wr h h' a i v) : own_Arf Z h' a ty n (fun k => if k = i then v else f k) := by
  obtain ⟨c, A, r1, r2⟩ := F
  refine ⟨c.setSlot i v, A.same W, by rw [sz_set]; exact r1, fun j hj => ?_⟩
  show (c.slots.setIfInBounds i v)[j]? = some (if j = i then v else f j)
  by_cases q : j = i
  · subst q
    simp [r1, hj]
  · rw [Array.getElem?_setIfInBounds_ne (Ne.symm q), if_neg q]
    exact r2 j hj
theorem own_Arf.setI {a : Addr} {ty : FieldType} {n : Nat} {f : Nat → Int32} {i : Nat} {x : Int32} (F : own_Arf Z h a ty n (fun k => .int (f k))) (W : Wr h h' a i (.int x)) : own_Arf Z h' a ty n (fun k => .int (if k = i then x else f k)) :=
  (own_Arf.set F W).congr fun k _ => by show (if k = i then Value.int x else .int (f k)) = .int (if k = i then x else f k); split <;> rfl
theorem own_Arf.setJ {a : Addr} {ty : FieldType} {n : Nat} {f : Nat → Int64} {i : Nat} {x : Int64} (F : own_Arf Z h a ty n (fun k => .long (f k))) (W : Wr h h' a i (.long x)) : own_Arf Z h' a ty n (fun k => .long (if k = i then x else f k)) :=
  (own_Arf.set F W).congr fun k _ => by show (if k = i then Value.long x else .long (f k)) = .long (if k = i then x else f k); split <;> rfl
theorem own_inb {c : Cell} {n : Nat} {j : Int32} (S : c.slots.size = n) (q : 0 ≤ j.toInt ∧ j.toInt < (n : Int)) : ¬ (j < 0 ∨ c.slots.size ≤ j.toNatClampNeg) := by
  rw [S]
  rintro (q1 | q1)
  · have := Int32.lt_iff_toInt_lt.mp q1
    simp at this
    omega
  · have h1 : j.toNatClampNeg = j.toInt.toNat := rfl
    omega
theorem own_idx {n : Nat} {j : Int32} (q : 0 ≤ j.toInt ∧ j.toInt < (n : Int)) : j.toNatClampNeg < n := by
  have h1 : j.toNatClampNeg = j.toInt.toNat := rfl
  omega
theorem own_newP (X : Stand p l e R s m args below meth c T locs cells slots) (hx : p.tables.exec = Jvm.exec) (hZ : Z.Warmed39 s.vm) {aty : ArrayType} (w : (Jvm.Cond.arrayClass (newarray.typeOf aty)).before a0 Z = true) (eT : T.heap = h) {g : JFrame} (hg : g.method = m) (hd : decode c.code g.pc = .ok (.newarray aty, 2)) {n : Int32} {rest : List Value} (hs : g.stack = .int n :: rest)
    (hn : ¬ n < 0) {cap : Nat} (hcap : n.toNatClampNeg ≤ cap) (hb : cap * 8 ≤ 536870912) (hc : cells + 1 ≤ R.cells) (hl : slots + cap ≤ R.slots) :
    ∃ T' h', Stand p l e R s m args below meth c T' locs (cells + 1) (slots + cap) ∧ T'.heap = h' ∧ Ext h h' ∧ own_Arf Z h' h.size (newarray.typeOf aty) n.toNatClampNeg (fun _ => defaultValue (newarray.typeOf aty)) ∧
      ∀ target, Steps p.tables e below (T'.setTop { g with pc := g.pc + 2, stack := .ref h.size :: rest }) target → Steps p.tables e below (T.setTop g) target := by
  obtain ⟨T', h', cA, X', e', E', A', st⟩ := newP X hx hZ w eT hg hd hs hn hcap hb hc hl
  refine ⟨T', h', X', e', E', ⟨_, A', sz_new _ _ _, fun j hj => ?_⟩, st⟩
  simp [newA, hj]
theorem own_newPE (X : Stand p l e R s m args below meth c T locs cells slots) (hx : p.tables.exec = Jvm.exec) (hZ : Z.Warmed39 s.vm) {aty : ArrayType} (w : (Jvm.Cond.arrayClass (newarray.typeOf aty)).before a0 Z = true) (eT : T.heap = h) {g : JFrame} (hg : g.method = m) (hd : decode c.code g.pc = .ok (.newarray aty, 2)) {n : Int32} {rest : List Value} (hs : g.stack = .int n :: rest)
    (hn : ¬ n < 0) {cap : Nat} (hcap : n.toNatClampNeg ≤ cap) (hb : cap * 8 ≤ 536870912) (hc : cells + 1 ≤ R.cells) (hl : slots + cap ≤ R.slots) {ad : String} (had : "[" ++ (newarray.typeOf aty).toString = ad) :
    ∃ T' h', Stand p l e R s m args below meth c T' locs (cells + 1) (slots + cap) ∧ T'.heap = h' ∧ Ext h h' ∧ own_Arf Z h' h.size (newarray.typeOf aty) n.toNatClampNeg (fun _ => defaultValue (newarray.typeOf aty)) ∧ Exa Z h' h.size ad ∧
      ∀ target, Steps p.tables e below (T'.setTop { g with pc := g.pc + 2, stack := .ref h.size :: rest }) target → Steps p.tables e below (T.setTop g) target := by
  obtain ⟨T', h', cA, X', e', E', A', Ex, st⟩ := newPE X hx hZ w eT hg hd hs hn hcap hb hc hl had
  refine ⟨T', h', X', e', E', ⟨_, A', sz_new _ _ _, fun j hj => ?_⟩, Ex, st⟩
  simp [newA, hj]
theorem own_cloneA (X : Stand p l e R s m args below meth c T locs cells slots) (hx : p.tables.exec = Jvm.exec) (hZ : Z.Warmed39 s.vm) {own ad : String} {index : Nat} (hown : s.vm.findClass own = some m.cls)
    (w1 : (Jvm.Cond.methodLink own index ⟨ad, "clone", "()Ljava/lang/Object;"⟩).before a0 Z = true) (w2 : (Jvm.Cond.sameMethod ad "java/lang/Object" "clone" "()Ljava/lang/Object;").before a0 Z = true) (w3 : (Jvm.Cond.native ⟨"java/lang/Object", "clone", "()Ljava/lang/Object;"⟩).before a0 Z = true)
    (w4 : (Jvm.Cond.instanceMethod ⟨"java/lang/Object", "clone", "()Ljava/lang/Object;"⟩).before a0 Z = true) (w5 : (Jvm.Cond.selects ad ⟨ad, "clone", "()Ljava/lang/Object;"⟩ ⟨"java/lang/Object", "clone", "()Ljava/lang/Object;"⟩).before a0 Z = true) (w6 : (Jvm.Cond.castable ad "java/lang/Cloneable").before a0 Z = true)
    (eT : T.heap = h) {a : Addr} {ty : FieldType} {n : Nat} {f : Nat → Value} (A : own_Arf Z h a ty n f) (E : Exa Z h a ad) (hfit : ∀ k, k < n → fits ty (f k) = true) {g : JFrame} (hg : g.method = m) (hsize : g.locals.size = c.maxLocals) {rest : List Value} (hs : g.stack = .ref a :: rest) (hd : decode c.code g.pc = .ok (.invokevirtual index, 3))
    (hf : 1 ≤ R.frames) {W : Nat} (hW : 2 * g.monitorRoom + (rest.map fun v => v.category).sum ≤ W) (hl : W + 14 ≤ R.locals) (hc : cells + 1 ≤ R.cells) (hsl : slots + n ≤ R.slots) :
    ∃ T' h', Stand p l e R s m args below meth c T' locs (cells + 1) (slots + n) ∧ T'.heap = h' ∧ Ext h h' ∧ own_Arf Z h' h.size ty n f ∧ Exa Z h' h.size ad ∧
      ∀ target, Steps p.tables e below (T'.setTop { g with pc := g.pc + 3, stack := .ref h.size :: rest }) target → Steps p.tables e below (T.setTop g) target := by
  obtain ⟨cl, A1, A2, A3⟩ := A
  have FC : FitC Z cl := fitC_of A1 fun i hi v hv => by
    rw [A3 i (by omega)] at hv
    cases hv
    exact hfit i (by omega)
  obtain ⟨T', h', X', e', ex, A', E', st⟩ := cloneA X hx hZ hown w1 w2 w3 w4 w5 w6 eT A1 E FC hg hsize hs hd hf hW hl (Nat.le_of_eq A2) hc hsl
  exact ⟨T', h', X', e', ex, ⟨cloneOf cl, A', A2, A3⟩, E', st⟩
theorem own_len (X : Stand p l e R s m args below meth c T locs cells slots) (hx : p.tables.exec = Jvm.exec) (hZ : Z.Warmed39 s.vm) (eT : T.heap = h) {a : Addr} {ty : FieldType} {n : Nat} {f : Nat → Value} (A : own_Arf Z h a ty n f) {g : JFrame} (hg : g.method = m) {rest : List Value} (hs : g.stack = .ref a :: rest) (hd : decode c.code g.pc = .ok (.arraylength, 1)) :
    ∀ t, Steps p.tables e below (T.setTop { g with pc := g.pc + 1, stack := .int n.toInt32 :: rest }) t → Steps p.tables e below (T.setTop g) t := by
  obtain ⟨cl, A1, A2, A3⟩ := A
  intro t k
  subst A2
  exact X.arraylength hx (by rw [eT]; exact A1.1) (State.isArrayOf_alike hZ.alike A1.2.1) hg hs hd _ k
theorem own_ldI (X : Stand p l e R s m args below meth c T locs cells slots) (hx : p.tables.exec = Jvm.exec) (hZ : Z.Warmed39 s.vm) (eT : T.heap = h) {a : Addr} {n : Nat} {f : Nat → Int32} (A : own_Arf Z h a .int n (fun k => .int (f k))) {j : Int32} (q : 0 ≤ j.toInt ∧ j.toInt < (n : Int)) {g : JFrame} (hg : g.method = m) {rest : List Value} (hs : g.stack = .int j :: .ref a :: rest) (hd : decode c.code g.pc = .ok (.iaload, 1)) :
    ∀ t, Steps p.tables e below (T.setTop { g with pc := g.pc + 1, stack := .int (f j.toNatClampNeg) :: rest }) t → Steps p.tables e below (T.setTop g) t := by
  obtain ⟨cl, A1, A2, A3⟩ := A
  exact fun t k => X.iaload hx (by rw [eT]; exact A1.1) (State.isArrayOf_alike hZ.alike A1.2.1) A1.2.2 (own_inb A2 q) (A3 _ (own_idx q)) hg hs hd _ k
theorem own_ldJ (X : Stand p l e R s m args below meth c T locs cells slots) (hx : p.tables.exec = Jvm.exec) (hZ : Z.Warmed39 s.vm) (eT : T.heap = h) {a : Addr} {n : Nat} {f : Nat → Int64} (A : own_Arf Z h a .long n (fun k => .long (f k))) {j : Int32} (q : 0 ≤ j.toInt ∧ j.toInt < (n : Int)) {g : JFrame} (hg : g.method = m) {rest : List Value} (hs : g.stack = .int j :: .ref a :: rest) (hd : decode c.code g.pc = .ok (.laload, 1)) :
    ∀ t, Steps p.tables e below (T.setTop { g with pc := g.pc + 1, stack := .long (f j.toNatClampNeg) :: rest }) t → Steps p.tables e below (T.setTop g) t := by
  obtain ⟨cl, A1, A2, A3⟩ := A
  exact fun t k => X.laload hx (by rw [eT]; exact A1.1) (State.isArrayOf_alike hZ.alike A1.2.1) A1.2.2 (own_inb A2 q) (A3 _ (own_idx q)) hg hs hd _ k
theorem own_ldC (X : Stand p l e R s m args below meth c T locs cells slots) (hx : p.tables.exec = Jvm.exec) (hZ : Z.Warmed39 s.vm) (eT : T.heap = h) {a : Addr} {n : Nat} {f : Nat → Int32} (A : own_Arf Z h a .char n (fun k => .int (f k))) {j : Int32} (q : 0 ≤ j.toInt ∧ j.toInt < (n : Int)) {g : JFrame} (hg : g.method = m) {rest : List Value} (hs : g.stack = .int j :: .ref a :: rest) (hd : decode c.code g.pc = .ok (.caload, 1)) :
    ∀ t, Steps p.tables e below (T.setTop { g with pc := g.pc + 1, stack := .int (f j.toNatClampNeg) :: rest }) t → Steps p.tables e below (T.setTop g) t := by
  obtain ⟨cl, A1, A2, A3⟩ := A
  exact fun t k => X.caload hx (by rw [eT]; exact A1.1) (State.isArrayOf_alike hZ.alike A1.2.1) A1.2.2 (own_inb A2 q) (A3 _ (own_idx q)) hg hs hd _ k
theorem own_ldS (X : Stand p l e R s m args below meth c T locs cells slots) (hx : p.tables.exec = Jvm.exec) (hZ : Z.Warmed39 s.vm) (eT : T.heap = h) {a : Addr} {n : Nat} {f : Nat → Int32} (A : own_Arf Z h a .short n (fun k => .int (f k))) {j : Int32} (q : 0 ≤ j.toInt ∧ j.toInt < (n : Int)) {g : JFrame} (hg : g.method = m) {rest : List Value} (hs : g.stack = .int j :: .ref a :: rest) (hd : decode c.code g.pc = .ok (.saload, 1)) :
    ∀ t, Steps p.tables e below (T.setTop { g with pc := g.pc + 1, stack := .int (f j.toNatClampNeg) :: rest }) t → Steps p.tables e below (T.setTop g) t := by
  obtain ⟨cl, A1, A2, A3⟩ := A
  exact fun t k => X.saload hx (by rw [eT]; exact A1.1) (State.isArrayOf_alike hZ.alike A1.2.1) A1.2.2 (own_inb A2 q) (A3 _ (own_idx q)) hg hs hd _ k
theorem own_ldB (X : Stand p l e R s m args below meth c T locs cells slots) (hx : p.tables.exec = Jvm.exec) (hZ : Z.Warmed39 s.vm) (eT : T.heap = h) {a : Addr} {n : Nat} {f : Nat → Int32} (A : own_Arf Z h a .byte n (fun k => .int (f k))) {j : Int32} (q : 0 ≤ j.toInt ∧ j.toInt < (n : Int)) {g : JFrame} (hg : g.method = m) {rest : List Value} (hs : g.stack = .int j :: .ref a :: rest) (hd : decode c.code g.pc = .ok (.baload, 1)) :
    ∀ t, Steps p.tables e below (T.setTop { g with pc := g.pc + 1, stack := .int (f j.toNatClampNeg) :: rest }) t → Steps p.tables e below (T.setTop g) t := by
  obtain ⟨cl, A1, A2, A3⟩ := A
  exact fun t k => X.baloadBytes hx (by rw [eT]; exact A1.1) (State.isArrayOf_alike hZ.alike A1.2.1) A1.2.2 (own_inb A2 q) (A3 _ (own_idx q)) hg hs hd _ k
theorem own_ldR (X : Stand p l e R s m args below meth c T locs cells slots) (hx : p.tables.exec = Jvm.exec) (hZ : Z.Warmed39 s.vm) (eT : T.heap = h) {a : Addr} {ty : FieldType} (hty : ty.isReference = true) {n : Nat} {f : Nat → Value} (A : own_Arf Z h a ty n f) {j : Int32} (q : 0 ≤ j.toInt ∧ j.toInt < (n : Int)) {g : JFrame} (hg : g.method = m) {rest : List Value} (hs : g.stack = .int j :: .ref a :: rest) (hd : decode c.code g.pc = .ok (.aaload, 1)) :
    ∀ t, Steps p.tables e below (T.setTop { g with pc := g.pc + 1, stack := f j.toNatClampNeg :: rest }) t → Steps p.tables e below (T.setTop g) t := by
  obtain ⟨cl, A1, A2, A3⟩ := A
  exact fun t k => X.aaload hx (by rw [eT]; exact A1.1) (State.isArrayOf_alike hZ.alike A1.2.1) hty A1.2.2 (own_inb A2 q) (A3 _ (own_idx q)) hg hs hd _ k
theorem own_stI (X : Stand p l e R s m args below meth c T locs cells slots) (hx : p.tables.exec = Jvm.exec) (hZ : Z.Warmed39 s.vm) (eT : T.heap = h) {a : Addr} {n : Nat} {f : Nat → Int32} (A : own_Arf Z h a .int n (fun k => .int (f k))) {j x : Int32} (q : 0 ≤ j.toInt ∧ j.toInt < (n : Int)) {g : JFrame} (hg : g.method = m) {rest : List Value} (hs : g.stack = .int x :: .int j :: .ref a :: rest) (hd : decode c.code g.pc = .ok (.iastore, 1)) :
    ∃ T' h', Stand p l e R s m args below meth c T' (locs ++ [⟨a, j.toNatClampNeg⟩]) cells slots ∧ T'.heap = h' ∧ Wr h h' a j.toNatClampNeg (.int x) ∧ own_Arf Z h' a .int n (fun k => .int (if k = j.toNatClampNeg then x else f k)) ∧ ∀ t, Steps p.tables e below (T'.setTop { g with pc := g.pc + 1, stack := rest }) t → Steps p.tables e below (T.setTop g) t := by
  obtain ⟨cl, A1, A2, A3⟩ := id A
  obtain ⟨T', h', X', e', W, st⟩ := stI X hx hZ eT A1 (own_inb A2 q) hg hs hd
  exact ⟨T', h', X', e', W, own_Arf.setI A W, st⟩
theorem own_stJ (X : Stand p l e R s m args below meth c T locs cells slots) (hx : p.tables.exec = Jvm.exec) (hZ : Z.Warmed39 s.vm) (eT : T.heap = h) {a : Addr} {n : Nat} {f : Nat → Int64} (A : own_Arf Z h a .long n (fun k => .long (f k))) {j : Int32} {x : Int64} (q : 0 ≤ j.toInt ∧ j.toInt < (n : Int)) {g : JFrame} (hg : g.method = m) {rest : List Value} (hs : g.stack = .long x :: .int j :: .ref a :: rest) (hd : decode c.code g.pc = .ok (.lastore, 1)) :
    ∃ T' h', Stand p l e R s m args below meth c T' (locs ++ [⟨a, j.toNatClampNeg⟩]) cells slots ∧ T'.heap = h' ∧ Wr h h' a j.toNatClampNeg (.long x) ∧ own_Arf Z h' a .long n (fun k => .long (if k = j.toNatClampNeg then x else f k)) ∧ ∀ t, Steps p.tables e below (T'.setTop { g with pc := g.pc + 1, stack := rest }) t → Steps p.tables e below (T.setTop g) t := by
  obtain ⟨cl, A1, A2, A3⟩ := id A
  obtain ⟨T', h', X', e', W, st⟩ := stJ X hx hZ eT A1 (own_inb A2 q) hg hs hd
  exact ⟨T', h', X', e', W, own_Arf.setJ A W, st⟩
theorem own_stC (X : Stand p l e R s m args below meth c T locs cells slots) (hx : p.tables.exec = Jvm.exec) (hZ : Z.Warmed39 s.vm) (eT : T.heap = h) {a : Addr} {n : Nat} {f : Nat → Int32} (A : own_Arf Z h a .char n (fun k => .int (f k))) {j x : Int32} (q : 0 ≤ j.toInt ∧ j.toInt < (n : Int)) {g : JFrame} (hg : g.method = m) {rest : List Value} (hs : g.stack = .int x :: .int j :: .ref a :: rest) (hd : decode c.code g.pc = .ok (.castore, 1)) :
    ∃ T' h', Stand p l e R s m args below meth c T' (locs ++ [⟨a, j.toNatClampNeg⟩]) cells slots ∧ T'.heap = h' ∧ Wr h h' a j.toNatClampNeg (.int (nar .char x)) ∧ own_Arf Z h' a .char n (fun k => .int (if k = j.toNatClampNeg then nar .char x else f k)) ∧ ∀ t, Steps p.tables e below (T'.setTop { g with pc := g.pc + 1, stack := rest }) t → Steps p.tables e below (T.setTop g) t := by
  obtain ⟨cl, A1, A2, A3⟩ := id A
  obtain ⟨T', h', X', e', W, st⟩ := stC X hx hZ eT A1 (own_inb A2 q) hg hs hd
  exact ⟨T', h', X', e', W, own_Arf.setI A W, st⟩
theorem own_stS (X : Stand p l e R s m args below meth c T locs cells slots) (hx : p.tables.exec = Jvm.exec) (hZ : Z.Warmed39 s.vm) (eT : T.heap = h) {a : Addr} {n : Nat} {f : Nat → Int32} (A : own_Arf Z h a .short n (fun k => .int (f k))) {j x : Int32} (q : 0 ≤ j.toInt ∧ j.toInt < (n : Int)) {g : JFrame} (hg : g.method = m) {rest : List Value} (hs : g.stack = .int x :: .int j :: .ref a :: rest) (hd : decode c.code g.pc = .ok (.sastore, 1)) :
    ∃ T' h', Stand p l e R s m args below meth c T' (locs ++ [⟨a, j.toNatClampNeg⟩]) cells slots ∧ T'.heap = h' ∧ Wr h h' a j.toNatClampNeg (.int (nar .short x)) ∧ own_Arf Z h' a .short n (fun k => .int (if k = j.toNatClampNeg then nar .short x else f k)) ∧ ∀ t, Steps p.tables e below (T'.setTop { g with pc := g.pc + 1, stack := rest }) t → Steps p.tables e below (T.setTop g) t := by
  obtain ⟨cl, A1, A2, A3⟩ := id A
  obtain ⟨T', h', X', e', W, st⟩ := stS X hx hZ eT A1 (own_inb A2 q) hg hs hd
  exact ⟨T', h', X', e', W, own_Arf.setI A W, st⟩
theorem own_stB (X : Stand p l e R s m args below meth c T locs cells slots) (hx : p.tables.exec = Jvm.exec) (hZ : Z.Warmed39 s.vm) (eT : T.heap = h) {a : Addr} {n : Nat} {f : Nat → Int32} (A : own_Arf Z h a .byte n (fun k => .int (f k))) {j x : Int32} (q : 0 ≤ j.toInt ∧ j.toInt < (n : Int)) {g : JFrame} (hg : g.method = m) {rest : List Value} (hs : g.stack = .int x :: .int j :: .ref a :: rest) (hd : decode c.code g.pc = .ok (.bastore, 1)) :
    ∃ T' h', Stand p l e R s m args below meth c T' (locs ++ [⟨a, j.toNatClampNeg⟩]) cells slots ∧ T'.heap = h' ∧ Wr h h' a j.toNatClampNeg (.int (nar .byte x)) ∧ own_Arf Z h' a .byte n (fun k => .int (if k = j.toNatClampNeg then nar .byte x else f k)) ∧ ∀ t, Steps p.tables e below (T'.setTop { g with pc := g.pc + 1, stack := rest }) t → Steps p.tables e below (T.setTop g) t := by
  obtain ⟨cl, A1, A2, A3⟩ := id A
  obtain ⟨T', h', X', e', W, st⟩ := stB X hx hZ eT A1 (own_inb A2 q) hg hs hd
  exact ⟨T', h', X', e', W, own_Arf.setI A W, st⟩
theorem own_newR (X : Stand p l e R s m args below meth c T locs cells slots) (hx : p.tables.exec = Jvm.exec) (hZ : Z.Warmed39 s.vm) {own C : String} {index : Nat} (hown : s.vm.findClass own = some m.cls) (w1 : (Jvm.Cond.classLink own index C).before a0 Z = true) (w2 : (Jvm.Cond.arrayOver (.object C)).before a0 Z = true)
    (eT : T.heap = h) {g : JFrame} (hg : g.method = m) (hd : decode c.code g.pc = .ok (.anewarray index, 3)) {n : Int32} {rest : List Value} (hs : g.stack = .int n :: rest) (hn : ¬ n < 0) {cap : Nat} (hcap : n.toNatClampNeg ≤ cap) (hb : cap * 8 ≤ 536870912) (hc : cells + 1 ≤ R.cells) (hl : slots + cap ≤ R.slots) :
    ∃ T' h', Stand p l e R s m args below meth c T' locs (cells + 1) (slots + cap) ∧ T'.heap = h' ∧ Ext h h' ∧ (∃ cl : Cell, h'[h.size]? = some cl ∧ Ovr Z cl.cls C) ∧ own_Arf Z h' h.size (.object C) n.toNatClampNeg (fun _ => .null) ∧
      ∀ target, Steps p.tables e below (T'.setTop { g with pc := g.pc + 3, stack := .ref h.size :: rest }) target → Steps p.tables e below (T.setTop g) target := by
  obtain ⟨T', h', cA, X', e', E', A', O', st⟩ := newR X hx hZ hown w1 w2 eT hg hd hs hn hcap hb hc hl
  refine ⟨T', h', X', e', E', ⟨_, A'.1, O'⟩, ⟨_, A', sz_new _ _ _, fun j hj => ?_⟩, st⟩
  simp [newA, hj, defaultValue]
/-- an array of objects of C: the class of the array is C's -/
def own_Ovr (Z : State) (h : Heap) (a : Addr) (C : String) : Prop := ∃ cl : Cell, h[a]? = some cl ∧ Ovr Z cl.cls C
theorem own_Ovr.ext {a : Addr} {C : String} (F : own_Ovr Z h a C) (E : Ext h h') : own_Ovr Z h' a C := by obtain ⟨cl, h1, h2⟩ := F; exact ⟨cl, E.2 _ _ h1, h2⟩
theorem own_Ovr.wr {a b : Addr} {C : String} {sl : Nat} {v : Value} (F : own_Ovr Z h a C) (W : Wr h h' b sl v) : own_Ovr Z h' a C := by
  obtain ⟨cl, h1, h2⟩ := F
  obtain ⟨c', e1, e2, -⟩ := wr_at W h1
  exact ⟨c', e1, by rw [e2]; exact h2⟩
theorem own_Ovr.keep {a : Addr} {C : String} {ws : List Addr} (F : own_Ovr Z h a C) (K : Keep h h' ws) : own_Ovr Z h' a C := by
  obtain ⟨cl, h1, h2⟩ := F
  obtain ⟨c', e1, e2, -⟩ := K.2.2 _ _ h1
  exact ⟨c', e1, by rw [e2]; exact h2⟩
theorem own_stR (X : Stand p l e R s m args below meth c T locs cells slots) (hx : p.tables.exec = Jvm.exec) (hZ : Z.Warmed39 s.vm) (eT : T.heap = h) {a : Addr} {C : String} {n : Nat} {f : Nat → Value} (A : own_Arf Z h a (.object C) n f) (O : own_Ovr Z h a C) {j : Int32} {v : Value} (I : v = .null ∨ ∃ y, v = .ref y ∧ Ins Z h y C true) (q : 0 ≤ j.toInt ∧ j.toInt < (n : Int)) {g : JFrame} (hg : g.method = m) {rest : List Value} (hs : g.stack = v :: .int j :: .ref a :: rest) (hd : decode c.code g.pc = .ok (.aastore, 1)) :
    ∃ T' h', Stand p l e R s m args below meth c T' (locs ++ [⟨a, j.toNatClampNeg⟩]) cells slots ∧ T'.heap = h' ∧ Wr h h' a j.toNatClampNeg v ∧ own_Arf Z h' a (.object C) n (fun k => if k = j.toNatClampNeg then v else f k) ∧ own_Ovr Z h' a C ∧ ∀ t, Steps p.tables e below (T'.setTop { g with pc := g.pc + 1, stack := rest }) t → Steps p.tables e below (T.setTop g) t := by
  obtain ⟨cl, A1, A2, A3⟩ := id A
  obtain ⟨cl2, o1, o2⟩ := id O
  cases A1.1.symm.trans o1
  have F : Sto Z h a v := by
    rcases I with rfl | ⟨y, rfl, I⟩
    · exact Or.inl rfl
    · exact Sto.of A1 o2 I
  obtain ⟨T', h', X', e', W, st⟩ := stR X hx hZ eT A1 (own_inb A2 q) rfl F hg hs hd
  exact ⟨T', h', X', e', W, own_Arf.set A W, O.wr W, st⟩
end OwnKit
def own_B (c : Int64) (k : Nat) : Int := ((c.toInt % 18446744073709551616) / (2 ^ (8 * k) : Nat)) % 128
theorem own_B_rng (c : Int64) (k : Nat) : 0 ≤ own_B c k ∧ own_B c k < 128 := ⟨Int.emod_nonneg _ (by decide), Int.emod_lt_of_pos _ (by decide)⟩
theorem own_l127 (x : Int64) : ((x &&& (127 : Int64)).toInt32).toInt = x.toInt % 128 := by
  have h1 : (x &&& (127 : Int64)).toInt = x.toInt % 128 := c_maskL x 127 7 (by decide) (by decide)
  have h2 := c_l2i (x &&& (127 : Int64))
  have h3 := rng32 (x &&& (127 : Int64)).toInt32
  omega
theorem own_nb (x : Int32) (h : 0 ≤ x.toInt ∧ x.toInt < 128) : (nar .byte (x.toInt8.toInt32)).toInt = x.toInt := by
  have h1 := c_i2b x
  have h2 := c_i2b x.toInt8.toInt32
  show (x.toInt8.toInt32).toInt8.toInt32.toInt = x.toInt
  omega
theorem own_byte0 (c : Int64) : (nar .byte (((c &&& (127 : Int64)).toInt32).toInt8.toInt32)).toInt = own_B c 0 := by
  have h := own_l127 c
  rw [own_nb _ (by omega), h]
  show _ = ((c.toInt % 18446744073709551616) / (1 : Nat)) % 128
  omega
theorem own_byteK (c : Int64) (q : Int32) (k : Nat) (hk : q.toBitVec.toNat % 64 = 8 * k) (h0 : 0 < 8 * k) : (nar .byte (((((c.toUInt64 >>> (q &&& 0x3f).toInt64.toUInt64).toInt64) &&& (127 : Int64)).toInt32).toInt8.toInt32)).toInt = own_B c k := by
  have h := own_l127 ((c.toUInt64 >>> (q &&& 0x3f).toInt64.toUInt64).toInt64)
  rw [own_nb _ (by omega), h, c_lushr c q (8 * k) hk h0]
  rfl
theorem own_chr {x : Int32} {c : Int64} {k : Nat} (h : x.toInt = own_B c k) : (nar .char (x.toUInt32.toUInt16.toUInt32.toInt32)).toInt = own_B c k := by
  have h1 := c_i2c x
  have h2 := c_i2c (x.toUInt32.toUInt16.toUInt32.toInt32)
  have h3 := own_B_rng c k
  show ((x.toUInt32.toUInt16.toUInt32.toInt32).toUInt32.toUInt16.toUInt32.toInt32).toInt = own_B c k
  omega
theorem own_at0 (c : Int64) : (((c.toUInt64 >>> (((8 : Int32) * (0 : Int32)) &&& 0x3f).toInt64.toUInt64).toInt64) &&& (127 : Int64)).toInt32.toInt = own_B c 0 := by
  have h0 : ((c.toUInt64 >>> (((8 : Int32) * (0 : Int32)) &&& 0x3f).toInt64.toUInt64).toInt64) = c := by
    have e : (((8 : Int32) * (0 : Int32)) &&& 0x3f).toInt64.toUInt64 = 0 := by decide
    rw [e]
    have e2 : c.toUInt64 >>> (0 : UInt64) = c.toUInt64 := by simp
    rw [e2]; rfl
  rw [h0, own_l127]
  show _ = ((c.toInt % 18446744073709551616) / (1 : Nat)) % 128
  omega
theorem own_atK (c : Int64) (q : Int32) (k : Nat) (hk : q.toBitVec.toNat % 64 = 8 * k) (h0 : 0 < 8 * k) : (((c.toUInt64 >>> (q &&& 0x3f).toInt64.toUInt64).toInt64) &&& (127 : Int64)).toInt32.toInt = own_B c k := by
  rw [own_l127, c_lushr c q (8 * k) hk h0]
  rfl
theorem own_atB (c : Int64) (p : Int32) (hp : 0 ≤ p.toInt ∧ p.toInt < (8 : Nat)) : (nar .char ((((c.toUInt64 >>> (((8 : Int32) * p) &&& 0x3f).toInt64.toUInt64).toInt64) &&& (127 : Int64)).toInt32.toUInt32.toUInt16.toUInt32.toInt32)).toInt = own_B c p.toNatClampNeg := by
  apply own_chr
  have h : p = 0 ∨ p = 1 ∨ p = 2 ∨ p = 3 ∨ p = 4 ∨ p = 5 ∨ p = 6 ∨ p = 7 := by
    simp only [← Int32.toInt_inj]
    have e : (0 : Int32).toInt = 0 ∧ (1 : Int32).toInt = 1 ∧ (2 : Int32).toInt = 2 ∧ (3 : Int32).toInt = 3 ∧ (4 : Int32).toInt = 4 ∧ (5 : Int32).toInt = 5 ∧ (6 : Int32).toInt = 6 ∧ (7 : Int32).toInt = 7 := by decide
    omega
  rcases h with rfl | rfl | rfl | rfl | rfl | rfl | rfl | rfl
  · exact own_at0 c
  · exact own_atK c ((8 : Int32) * 1) 1 (by decide) (by decide)
  · exact own_atK c ((8 : Int32) * 2) 2 (by decide) (by decide)
  · exact own_atK c ((8 : Int32) * 3) 3 (by decide) (by decide)
  · exact own_atK c ((8 : Int32) * 4) 4 (by decide) (by decide)
  · exact own_atK c ((8 : Int32) * 5) 5 (by decide) (by decide)
  · exact own_atK c ((8 : Int32) * 6) 6 (by decide) (by decide)
  · exact own_atK c ((8 : Int32) * 7) 7 (by decide) (by decide)
theorem own_rem9 (x : Int32) : 0 ≤ ((x &&& (255 : Int32)) % (9 : Int32)).toInt ∧ ((x &&& (255 : Int32)) % (9 : Int32)).toInt ≤ 8 := by
  have h1 : (x &&& (255 : Int32)).toInt = x.toInt % 256 := c_mask x 255 8 (by decide) (by decide)
  have h2 := (c_irem (x &&& (255 : Int32)) 9 9 (by decide)).1 (by omega)
  omega
theorem own_sub9 {f : Int32} (h : 0 ≤ f.toInt ∧ f.toInt ≤ 8) : ((9 : Int32) - f).toInt = 9 - f.toInt := by
  have h1 := c_isub 9 f
  have h2 := rng32 ((9 : Int32) - f)
  have h3 : (9 : Int32).toInt = 9 := by decide
  omega
theorem own_nz9 {f : Int32} (h : 0 ≤ f.toInt ∧ f.toInt ≤ 8) : (9 : Int32) - f ≠ 0 := fun q => by
  have h1 := own_sub9 h
  rw [q] at h1
  have h3 : (0 : Int32).toInt = 0 := by decide
  omega
theorem own_t9 (f x : Int32) (h : 0 ≤ f.toInt ∧ f.toInt ≤ 8) : f.toInt ≤ (f + ((((x.toUInt32 >>> ((8 : Int32) &&& 31).toUInt32).toInt32) &&& (255 : Int32)) % ((9 : Int32) - f))).toInt ∧ (f + ((((x.toUInt32 >>> ((8 : Int32) &&& 31).toUInt32).toInt32) &&& (255 : Int32)) % ((9 : Int32) - f))).toInt ≤ 8 := by
  generalize ((x.toUInt32 >>> ((8 : Int32) &&& 31).toUInt32).toInt32) = y
  have h1 : (y &&& (255 : Int32)).toInt = y.toInt % 256 := c_mask y 255 8 (by decide) (by decide)
  have h2 := own_sub9 h
  have h3 := (c_iremV (y &&& (255 : Int32)) ((9 : Int32) - f)).1 (by omega) (by omega)
  have h4 := c_iadd f ((y &&& (255 : Int32)) % ((9 : Int32) - f))
  have h5 := rng32 (f + ((y &&& (255 : Int32)) % ((9 : Int32) - f)))
  omega
theorem own_f0 (f : Int32) : (f + (0 : Int32)).toInt = f.toInt := by
  have h1 := c_iadd f 0
  have h2 := rng32 (f + 0)
  have h3 := rng32 f
  have h4 : (0 : Int32).toInt = 0 := by decide
  omega
theorem own_m1 {f t : Int32} (hf : 0 ≤ f.toInt ∧ f.toInt ≤ 8) (ht : f.toInt ≤ t.toInt ∧ t.toInt ≤ 8) (hl : f.toInt < t.toInt) : (t - (1 : Int32)).toInt = t.toInt - 1 := by
  have h1 := c_isub t 1
  have h2 := rng32 (t - 1)
  have h4 : (1 : Int32).toInt = 1 := by decide
  omega
theorem own_d1 {f t : Int32} (hf : 0 ≤ f.toInt ∧ f.toInt ≤ 8) (ht : f.toInt ≤ t.toInt ∧ t.toInt ≤ 8) (hl : f.toInt < t.toInt) : (f + ((t - f) - (1 : Int32))).toInt = t.toInt - 1 := by
  have h1 := c_isub t f
  have h2 := rng32 (t - f)
  have h3 := c_isub (t - f) 1
  have h5 := rng32 ((t - f) - 1)
  have h6 := c_iadd f ((t - f) - 1)
  have h7 := rng32 (f + ((t - f) - 1))
  have h4 : (1 : Int32).toInt = 1 := by decide
  omega
theorem own_in0 {f t : Int32} (hf : 0 ≤ f.toInt ∧ f.toInt ≤ 8) (ht : f.toInt ≤ t.toInt ∧ t.toInt ≤ 8) (hl : f.toInt < t.toInt) : 0 ≤ (f + (0 : Int32)).toInt ∧ (f + (0 : Int32)).toInt < (8 : Nat) := by
  have := own_f0 f
  omega
theorem own_in1 {f t : Int32} (hf : 0 ≤ f.toInt ∧ f.toInt ≤ 8) (ht : f.toInt ≤ t.toInt ∧ t.toInt ≤ 8) (hl : f.toInt < t.toInt) : 0 ≤ (f + ((t - f) - (1 : Int32))).toInt ∧ (f + ((t - f) - (1 : Int32))).toInt < (8 : Nat) := by
  have := own_d1 hf ht hl
  omega
theorem own_in2 {f t : Int32} (hf : 0 ≤ f.toInt ∧ f.toInt ≤ 8) (ht : f.toInt ≤ t.toInt ∧ t.toInt ≤ 8) (hl : f.toInt < t.toInt) : 0 ≤ (t - (1 : Int32)).toInt ∧ (t - (1 : Int32)).toInt < (8 : Nat) := by
  have := own_m1 hf ht hl
  omega
theorem own_same {r r' : Int32} {c : Int64} {i j : Nat} (h : r.toInt = own_B c i) (h' : r'.toInt = own_B c j) (e : i = j) : r = r' := Int32.toInt_inj.mp (by rw [h, h', e])
theorem own_k1 (f : Int32) : (f + (0 : Int32)).toNatClampNeg = f.toNatClampNeg := by
  show (f + (0 : Int32)).toInt.toNat = f.toInt.toNat
  rw [own_f0]
theorem own_k2 {f t : Int32} (hf : 0 ≤ f.toInt ∧ f.toInt ≤ 8) (ht : f.toInt ≤ t.toInt ∧ t.toInt ≤ 8) (hl : f.toInt < t.toInt) : (f + ((t - f) - (1 : Int32))).toNatClampNeg = (t - (1 : Int32)).toNatClampNeg := by
  show (f + ((t - f) - (1 : Int32))).toInt.toNat = (t - (1 : Int32)).toInt.toNat
  rw [own_d1 hf ht hl, own_m1 hf ht hl]
theorem own_fillB (q1 : Int64) : ∀ k, k < 8 → ((fun k => if k = 7 then (nar .byte (((((q1.toUInt64 >>> ((56 : Int32) &&& 0x3f).toInt64.toUInt64).toInt64) &&& (127 : Int64)).toInt32).toInt8.toInt32)) else (fun k => if k = 6 then (nar .byte (((((q1.toUInt64 >>> ((48 : Int32) &&& 0x3f).toInt64.toUInt64).toInt64) &&& (127 : Int64)).toInt32).toInt8.toInt32)) else (fun k => if k = 5 then (nar .byte (((((q1.toUInt64 >>> ((40 : Int32) &&& 0x3f).toInt64.toUInt64).toInt64) &&& (127 : Int64)).toInt32).toInt8.toInt32)) else (fun k => if k = 4 then (nar .byte (((((q1.toUInt64 >>> ((32 : Int32) &&& 0x3f).toInt64.toUInt64).toInt64) &&& (127 : Int64)).toInt32).toInt8.toInt32)) else (fun k => if k = 3 then (nar .byte (((((q1.toUInt64 >>> ((24 : Int32) &&& 0x3f).toInt64.toUInt64).toInt64) &&& (127 : Int64)).toInt32).toInt8.toInt32)) else (fun k => if k = 2 then (nar .byte (((((q1.toUInt64 >>> ((16 : Int32) &&& 0x3f).toInt64.toUInt64).toInt64) &&& (127 : Int64)).toInt32).toInt8.toInt32)) else (fun k => if k = 1 then (nar .byte (((((q1.toUInt64 >>> ((8 : Int32) &&& 0x3f).toInt64.toUInt64).toInt64) &&& (127 : Int64)).toInt32).toInt8.toInt32)) else (fun k => if k = 0 then (nar .byte (((q1 &&& (127 : Int64)).toInt32).toInt8.toInt32)) else (fun _ => (0 : Int32)) k) k) k) k) k) k) k) k) k).toInt = own_B q1 k := by
  intro k hk
  have h : k = 0 ∨ k = 1 ∨ k = 2 ∨ k = 3 ∨ k = 4 ∨ k = 5 ∨ k = 6 ∨ k = 7 := by omega
  rcases h with rfl | rfl | rfl | rfl | rfl | rfl | rfl | rfl
  · exact own_byte0 q1
  · exact own_byteK q1 8 1 (by decide) (by decide)
  · exact own_byteK q1 16 2 (by decide) (by decide)
  · exact own_byteK q1 24 3 (by decide) (by decide)
  · exact own_byteK q1 32 4 (by decide) (by decide)
  · exact own_byteK q1 40 5 (by decide) (by decide)
  · exact own_byteK q1 48 6 (by decide) (by decide)
  · exact own_byteK q1 56 7 (by decide) (by decide)
theorem own_pn0 : plainFor (⟨"com/example/reach2/reach2/model/AsciiTextShowPinLaw", "fill", "(J)[B"⟩ : MethodName) = true := by first | exact plainFor_of_name (by simp [plainName, overriddenIn]; done) | decide +kernel
theorem own_d1_0 : decode method_2_code 0 = .ok (.bipush 8, 2) := by decide +kernel
theorem own_d1_2 : decode method_2_code 2 = .ok (.newarray .byte, 2) := by decide +kernel
theorem own_d1_4 : decode method_2_code 4 = .ok (.astore_n 2, 1) := by decide +kernel
theorem own_d1_5 : decode method_2_code 5 = .ok (.aload_n 2, 1) := by decide +kernel
theorem own_d1_6 : decode method_2_code 6 = .ok (.iconst 0, 1) := by decide +kernel
theorem own_d1_7 : decode method_2_code 7 = .ok (.lload_n 0, 1) := by decide +kernel
theorem own_d1_8 : decode method_2_code 8 = .ok (.ldc2_w 7, 3) := by decide +kernel
theorem own_d1_11 : decode method_2_code 11 = .ok (.land, 1) := by decide +kernel
theorem own_d1_12 : decode method_2_code 12 = .ok (.l2i, 1) := by decide +kernel
theorem own_d1_13 : decode method_2_code 13 = .ok (.i2b, 1) := by decide +kernel
theorem own_d1_14 : decode method_2_code 14 = .ok (.bastore, 1) := by decide +kernel
theorem own_d1_15 : decode method_2_code 15 = .ok (.aload_n 2, 1) := by decide +kernel
theorem own_d1_16 : decode method_2_code 16 = .ok (.iconst 1, 1) := by decide +kernel
theorem own_d1_17 : decode method_2_code 17 = .ok (.lload_n 0, 1) := by decide +kernel
theorem own_d1_18 : decode method_2_code 18 = .ok (.bipush 8, 2) := by decide +kernel
theorem own_d1_20 : decode method_2_code 20 = .ok (.lushr, 1) := by decide +kernel
theorem own_d1_21 : decode method_2_code 21 = .ok (.ldc2_w 7, 3) := by decide +kernel
theorem own_d1_24 : decode method_2_code 24 = .ok (.land, 1) := by decide +kernel
theorem own_d1_25 : decode method_2_code 25 = .ok (.l2i, 1) := by decide +kernel
theorem own_d1_26 : decode method_2_code 26 = .ok (.i2b, 1) := by decide +kernel
theorem own_d1_27 : decode method_2_code 27 = .ok (.bastore, 1) := by decide +kernel
theorem own_d1_28 : decode method_2_code 28 = .ok (.aload_n 2, 1) := by decide +kernel
theorem own_d1_29 : decode method_2_code 29 = .ok (.iconst 2, 1) := by decide +kernel
theorem own_d1_30 : decode method_2_code 30 = .ok (.lload_n 0, 1) := by decide +kernel
theorem own_d1_31 : decode method_2_code 31 = .ok (.bipush 16, 2) := by decide +kernel
theorem own_d1_33 : decode method_2_code 33 = .ok (.lushr, 1) := by decide +kernel
theorem own_d1_34 : decode method_2_code 34 = .ok (.ldc2_w 7, 3) := by decide +kernel
theorem own_d1_37 : decode method_2_code 37 = .ok (.land, 1) := by decide +kernel
theorem own_d1_38 : decode method_2_code 38 = .ok (.l2i, 1) := by decide +kernel
theorem own_d1_39 : decode method_2_code 39 = .ok (.i2b, 1) := by decide +kernel
theorem own_d1_40 : decode method_2_code 40 = .ok (.bastore, 1) := by decide +kernel
theorem own_d1_41 : decode method_2_code 41 = .ok (.aload_n 2, 1) := by decide +kernel
theorem own_d1_42 : decode method_2_code 42 = .ok (.iconst 3, 1) := by decide +kernel
theorem own_d1_43 : decode method_2_code 43 = .ok (.lload_n 0, 1) := by decide +kernel
theorem own_d1_44 : decode method_2_code 44 = .ok (.bipush 24, 2) := by decide +kernel
theorem own_d1_46 : decode method_2_code 46 = .ok (.lushr, 1) := by decide +kernel
theorem own_d1_47 : decode method_2_code 47 = .ok (.ldc2_w 7, 3) := by decide +kernel
theorem own_d1_50 : decode method_2_code 50 = .ok (.land, 1) := by decide +kernel
theorem own_d1_51 : decode method_2_code 51 = .ok (.l2i, 1) := by decide +kernel
theorem own_d1_52 : decode method_2_code 52 = .ok (.i2b, 1) := by decide +kernel
theorem own_d1_53 : decode method_2_code 53 = .ok (.bastore, 1) := by decide +kernel
theorem own_d1_54 : decode method_2_code 54 = .ok (.aload_n 2, 1) := by decide +kernel
theorem own_d1_55 : decode method_2_code 55 = .ok (.iconst 4, 1) := by decide +kernel
theorem own_d1_56 : decode method_2_code 56 = .ok (.lload_n 0, 1) := by decide +kernel
theorem own_d1_57 : decode method_2_code 57 = .ok (.bipush 32, 2) := by decide +kernel
theorem own_d1_59 : decode method_2_code 59 = .ok (.lushr, 1) := by decide +kernel
theorem own_d1_60 : decode method_2_code 60 = .ok (.ldc2_w 7, 3) := by decide +kernel
theorem own_d1_63 : decode method_2_code 63 = .ok (.land, 1) := by decide +kernel
theorem own_d1_64 : decode method_2_code 64 = .ok (.l2i, 1) := by decide +kernel
theorem own_d1_65 : decode method_2_code 65 = .ok (.i2b, 1) := by decide +kernel
theorem own_d1_66 : decode method_2_code 66 = .ok (.bastore, 1) := by decide +kernel
theorem own_d1_67 : decode method_2_code 67 = .ok (.aload_n 2, 1) := by decide +kernel
theorem own_d1_68 : decode method_2_code 68 = .ok (.iconst 5, 1) := by decide +kernel
theorem own_d1_69 : decode method_2_code 69 = .ok (.lload_n 0, 1) := by decide +kernel
theorem own_d1_70 : decode method_2_code 70 = .ok (.bipush 40, 2) := by decide +kernel
theorem own_d1_72 : decode method_2_code 72 = .ok (.lushr, 1) := by decide +kernel
theorem own_d1_73 : decode method_2_code 73 = .ok (.ldc2_w 7, 3) := by decide +kernel
theorem own_d1_76 : decode method_2_code 76 = .ok (.land, 1) := by decide +kernel
theorem own_d1_77 : decode method_2_code 77 = .ok (.l2i, 1) := by decide +kernel
theorem own_d1_78 : decode method_2_code 78 = .ok (.i2b, 1) := by decide +kernel
theorem own_d1_79 : decode method_2_code 79 = .ok (.bastore, 1) := by decide +kernel
theorem own_d1_80 : decode method_2_code 80 = .ok (.aload_n 2, 1) := by decide +kernel
theorem own_d1_81 : decode method_2_code 81 = .ok (.bipush 6, 2) := by decide +kernel
theorem own_d1_83 : decode method_2_code 83 = .ok (.lload_n 0, 1) := by decide +kernel
theorem own_d1_84 : decode method_2_code 84 = .ok (.bipush 48, 2) := by decide +kernel
theorem own_d1_86 : decode method_2_code 86 = .ok (.lushr, 1) := by decide +kernel
theorem own_d1_87 : decode method_2_code 87 = .ok (.ldc2_w 7, 3) := by decide +kernel
theorem own_d1_90 : decode method_2_code 90 = .ok (.land, 1) := by decide +kernel
theorem own_d1_91 : decode method_2_code 91 = .ok (.l2i, 1) := by decide +kernel
theorem own_d1_92 : decode method_2_code 92 = .ok (.i2b, 1) := by decide +kernel
theorem own_d1_93 : decode method_2_code 93 = .ok (.bastore, 1) := by decide +kernel
theorem own_d1_94 : decode method_2_code 94 = .ok (.aload_n 2, 1) := by decide +kernel
theorem own_d1_95 : decode method_2_code 95 = .ok (.bipush 7, 2) := by decide +kernel
theorem own_d1_97 : decode method_2_code 97 = .ok (.lload_n 0, 1) := by decide +kernel
theorem own_d1_98 : decode method_2_code 98 = .ok (.bipush 56, 2) := by decide +kernel
theorem own_d1_100 : decode method_2_code 100 = .ok (.lushr, 1) := by decide +kernel
theorem own_d1_101 : decode method_2_code 101 = .ok (.ldc2_w 7, 3) := by decide +kernel
theorem own_d1_104 : decode method_2_code 104 = .ok (.land, 1) := by decide +kernel
theorem own_d1_105 : decode method_2_code 105 = .ok (.l2i, 1) := by decide +kernel
theorem own_d1_106 : decode method_2_code 106 = .ok (.i2b, 1) := by decide +kernel
theorem own_d1_107 : decode method_2_code 107 = .ok (.bastore, 1) := by decide +kernel
theorem own_d1_108 : decode method_2_code 108 = .ok (.aload_n 2, 1) := by decide +kernel
theorem own_d1_109 : decode method_2_code 109 = .ok (.areturn, 1) := by decide +kernel
theorem own_ef_rmFill (m : MethodId) (q1 : Int64) : entryFrame m #[(.long q1)] 3 = mkF m 0 #[own_jv q1, .second, .unset] [] := by first | (simp [entryFrame, mkF, argsToLocals, Value.category, maxLocals]; done) | rfl
abbrev own_Q_rmFill (Z : State) (q1 : Int64) (h0 : Heap) (n0 : Nat) (v : Option Value) (h : Heap) (L : List Loc) : Prop := ∃ (b : Nat) (f : Nat → Int32), v = some (.ref b) ∧ Fr n0 L ∧ Keep h0 h [] ∧ h0.size ≤ b ∧ b < h.size ∧ own_Arf Z h b .byte 8 (fun k => .int (f k)) ∧ ∀ k, k < 8 → (f k).toInt = own_B q1 k
set_option maxRecDepth 65536 in
set_option maxHeartbeats 40000000 in
theorem rmFill (l : Launch) (Z : State) (a0 : Array Value) (hw : ∀ d ∈ tables_1, d.before a0 Z = true) (ws : List Jvm.Cond) (q1 : Int64) (h0 : Heap) (n0 : Nat) (Z0 : n0 ≤ h0.size) :
    MetFree l (⟨"com/example/reach2/reach2/model/AsciiTextShowPinLaw", "fill", "(J)[B"⟩ : MethodName) (head1 (Jvm.Cond.code (⟨"com/example/reach2/reach2/model/AsciiTextShowPinLaw", "fill", "(J)[B"⟩ : MethodName) method_2_code 3 (some (.array .byte)) :: ws) ({ frames := 0, cells := 1, slots := 8, locals := 0 } : Room)) (fun a U => a = #[(.long q1)] ∧ Z.Warmed39 U.vm ∧ U.heap = h0) (fun _ _ _ _ _ => True) (fun _ U o U' => ∃ v L, o = .returned v ∧ own_Q_rmFill Z q1 h0 n0 v U'.heap L ∧ FrameEnd U o U' L ({ frames := 0, cells := 1, slots := 8, locals := 0 } : Room).cells ({ frames := 0, cells := 1, slots := 8, locals := 0 } : Room).slots) := by
  refine own_enter (Q := fun v h L => own_Q_rmFill Z q1 h0 n0 v h L) (F := fun m => mkF m 0 #[own_jv q1, .second, .unset] []) own_pn0 (fun m => own_ef_rmFill m q1) ?_
  intro p e s m below meth c T X hx hby hml hret hlk hnm hown hZ e0
  show own_Goes p e below s _ _ (T.setTop (mkF m 0 #[own_jv q1, .second, .unset] []))
  have N0 := Fr.nil n0
  refine own_st (fun _ k => XS.bipush X.here hx rfl (hb hby own_d1_0) k) ?_
  show own_Goes p e below s _ _ (T.setTop (mkF m 2 #[own_jv q1, .second, .unset] [(.int (8 : Int32))]))
  obtain ⟨T101, h101, X101, e101, E101, A101, st101⟩ := own_newP X hx hZ (aty := .byte) (hw _ (List.mem_of_getElem? (i := 4) rfl)) e0 (g := (mkF m 2 #[own_jv q1, .second, .unset] [(.int (8 : Int32))])) rfl (hb hby own_d1_2) rfl (by decide) (cap := 8) (by decide) (by decide) (by decide) (by decide)
  obtain ⟨b101, g101⟩ : ∃ z, z = h0.size := ⟨_, rfl⟩
  rw [← g101] at A101 st101
  have V101 : own_Arf Z h101 b101 .byte 8 (fun k => .int ((fun _ => (0 : Int32)) k)) := A101
  have y101 := V101.lt
  have z101 := E101.1
  refine own_st st101 ?_
  show own_Goes p e below s _ _ (T101.setTop (mkF m 4 #[own_jv q1, .second, .unset] [(.ref b101)]))
  refine own_st (fun _ k => XS.astoreN X101.here hx rfl (hb hby own_d1_4) rfl rfl (l' := #[own_jv q1, .second, rv b101]) rfl k) ?_
  show own_Goes p e below s _ _ (T101.setTop (mkF m 5 #[own_jv q1, .second, rv b101] []))
  refine own_st (fun _ k => XS.aloadN X101.here hx rfl (hb hby own_d1_5) rfl rfl  k) ?_
  show own_Goes p e below s _ _ (T101.setTop (mkF m 6 #[own_jv q1, .second, rv b101] [(.ref b101)]))
  refine own_st (fun _ k => XS.iconst X101.here hx rfl (hb hby own_d1_6) k) ?_
  show own_Goes p e below s _ _ (T101.setTop (mkF m 7 #[own_jv q1, .second, rv b101] [(.int (0 : Int32)), (.ref b101)]))
  refine own_st (fun _ k => XS.lloadN X101.here hx rfl (hb hby own_d1_7) rfl  k) ?_
  show own_Goes p e below s _ _ (T101.setTop (mkF m 8 #[own_jv q1, .second, rv b101] [(.long q1), (.int (0 : Int32)), (.ref b101)]))
  refine own_st (fun _ k => X101.ldc2Long hx hown (mvT hZ (hw _ (List.mem_of_getElem? (i := 5) rfl))) (g := (mkF m 8 #[own_jv q1, .second, rv b101] [(.long q1), (.int (0 : Int32)), (.ref b101)])) rfl (hb hby own_d1_8) _ k) ?_
  show own_Goes p e below s _ _ (T101.setTop (mkF m 11 #[own_jv q1, .second, rv b101] [(.long (127 : Int64)), (.long q1), (.int (0 : Int32)), (.ref b101)]))
  refine own_st (fun _ k => XS.land X101.here hx rfl (hb hby own_d1_11) rfl k) ?_
  show own_Goes p e below s _ _ (T101.setTop (mkF m 12 #[own_jv q1, .second, rv b101] [(.long (q1 &&& (127 : Int64))), (.int (0 : Int32)), (.ref b101)]))
  refine own_st (fun _ k => XS.l2i X101.here hx rfl (hb hby own_d1_12) rfl k) ?_
  show own_Goes p e below s _ _ (T101.setTop (mkF m 13 #[own_jv q1, .second, rv b101] [(.int ((q1 &&& (127 : Int64)).toInt32)), (.int (0 : Int32)), (.ref b101)]))
  refine own_st (fun _ k => XS.i2b X101.here hx rfl (hb hby own_d1_13) rfl k) ?_
  show own_Goes p e below s _ _ (T101.setTop (mkF m 14 #[own_jv q1, .second, rv b101] [(.int (((q1 &&& (127 : Int64)).toInt32).toInt8.toInt32)), (.int (0 : Int32)), (.ref b101)]))
  obtain ⟨T102, h102, X102, e102, W102, A102, st102⟩ := own_stB X101 hx hZ e101 V101 (j := (0 : Int32)) (by decide) (g := (mkF m 14 #[own_jv q1, .second, rv b101] [(.int (((q1 &&& (127 : Int64)).toInt32).toInt8.toInt32)), (.int (0 : Int32)), (.ref b101)])) rfl rfl (hb hby own_d1_14)
  have V102 : own_Arf Z h102 b101 .byte 8 (fun k => .int ((fun k => if k = 0 then (nar .byte (((q1 &&& (127 : Int64)).toInt32).toInt8.toInt32)) else (fun _ => (0 : Int32)) k) k)) := A102
  have z102 := W102.size
  have N102 := Fr.snoc X102 N0 (by omega)
  refine own_st st102 ?_
  show own_Goes p e below s _ _ (T102.setTop (mkF m 15 #[own_jv q1, .second, rv b101] []))
  refine own_st (fun _ k => XS.aloadN X102.here hx rfl (hb hby own_d1_15) rfl rfl  k) ?_
  show own_Goes p e below s _ _ (T102.setTop (mkF m 16 #[own_jv q1, .second, rv b101] [(.ref b101)]))
  refine own_st (fun _ k => XS.iconst X102.here hx rfl (hb hby own_d1_16) k) ?_
  show own_Goes p e below s _ _ (T102.setTop (mkF m 17 #[own_jv q1, .second, rv b101] [(.int (1 : Int32)), (.ref b101)]))
  refine own_st (fun _ k => XS.lloadN X102.here hx rfl (hb hby own_d1_17) rfl  k) ?_
  show own_Goes p e below s _ _ (T102.setTop (mkF m 18 #[own_jv q1, .second, rv b101] [(.long q1), (.int (1 : Int32)), (.ref b101)]))
  refine own_st (fun _ k => XS.bipush X102.here hx rfl (hb hby own_d1_18) k) ?_
  show own_Goes p e below s _ _ (T102.setTop (mkF m 20 #[own_jv q1, .second, rv b101] [(.int (8 : Int32)), (.long q1), (.int (1 : Int32)), (.ref b101)]))
  refine own_st (fun _ k => XS.lushr X102.here hx rfl (hb hby own_d1_20) rfl k) ?_
  show own_Goes p e below s _ _ (T102.setTop (mkF m 21 #[own_jv q1, .second, rv b101] [(.long ((q1.toUInt64 >>> ((8 : Int32) &&& 0x3f).toInt64.toUInt64).toInt64)), (.int (1 : Int32)), (.ref b101)]))
  refine own_st (fun _ k => X102.ldc2Long hx hown (mvT hZ (hw _ (List.mem_of_getElem? (i := 5) rfl))) (g := (mkF m 21 #[own_jv q1, .second, rv b101] [(.long ((q1.toUInt64 >>> ((8 : Int32) &&& 0x3f).toInt64.toUInt64).toInt64)), (.int (1 : Int32)), (.ref b101)])) rfl (hb hby own_d1_21) _ k) ?_
  show own_Goes p e below s _ _ (T102.setTop (mkF m 24 #[own_jv q1, .second, rv b101] [(.long (127 : Int64)), (.long ((q1.toUInt64 >>> ((8 : Int32) &&& 0x3f).toInt64.toUInt64).toInt64)), (.int (1 : Int32)), (.ref b101)]))
  refine own_st (fun _ k => XS.land X102.here hx rfl (hb hby own_d1_24) rfl k) ?_
  show own_Goes p e below s _ _ (T102.setTop (mkF m 25 #[own_jv q1, .second, rv b101] [(.long (((q1.toUInt64 >>> ((8 : Int32) &&& 0x3f).toInt64.toUInt64).toInt64) &&& (127 : Int64))), (.int (1 : Int32)), (.ref b101)]))
  refine own_st (fun _ k => XS.l2i X102.here hx rfl (hb hby own_d1_25) rfl k) ?_
  show own_Goes p e below s _ _ (T102.setTop (mkF m 26 #[own_jv q1, .second, rv b101] [(.int ((((q1.toUInt64 >>> ((8 : Int32) &&& 0x3f).toInt64.toUInt64).toInt64) &&& (127 : Int64)).toInt32)), (.int (1 : Int32)), (.ref b101)]))
  refine own_st (fun _ k => XS.i2b X102.here hx rfl (hb hby own_d1_26) rfl k) ?_
  show own_Goes p e below s _ _ (T102.setTop (mkF m 27 #[own_jv q1, .second, rv b101] [(.int (((((q1.toUInt64 >>> ((8 : Int32) &&& 0x3f).toInt64.toUInt64).toInt64) &&& (127 : Int64)).toInt32).toInt8.toInt32)), (.int (1 : Int32)), (.ref b101)]))
  obtain ⟨T103, h103, X103, e103, W103, A103, st103⟩ := own_stB X102 hx hZ e102 V102 (j := (1 : Int32)) (by decide) (g := (mkF m 27 #[own_jv q1, .second, rv b101] [(.int (((((q1.toUInt64 >>> ((8 : Int32) &&& 0x3f).toInt64.toUInt64).toInt64) &&& (127 : Int64)).toInt32).toInt8.toInt32)), (.int (1 : Int32)), (.ref b101)])) rfl rfl (hb hby own_d1_27)
  have V103 : own_Arf Z h103 b101 .byte 8 (fun k => .int ((fun k => if k = 1 then (nar .byte (((((q1.toUInt64 >>> ((8 : Int32) &&& 0x3f).toInt64.toUInt64).toInt64) &&& (127 : Int64)).toInt32).toInt8.toInt32)) else (fun k => if k = 0 then (nar .byte (((q1 &&& (127 : Int64)).toInt32).toInt8.toInt32)) else (fun _ => (0 : Int32)) k) k) k)) := A103
  have z103 := W103.size
  have N103 := Fr.snoc X103 N102 (by omega)
  refine own_st st103 ?_
  show own_Goes p e below s _ _ (T103.setTop (mkF m 28 #[own_jv q1, .second, rv b101] []))
  refine own_st (fun _ k => XS.aloadN X103.here hx rfl (hb hby own_d1_28) rfl rfl  k) ?_
  show own_Goes p e below s _ _ (T103.setTop (mkF m 29 #[own_jv q1, .second, rv b101] [(.ref b101)]))
  refine own_st (fun _ k => XS.iconst X103.here hx rfl (hb hby own_d1_29) k) ?_
  show own_Goes p e below s _ _ (T103.setTop (mkF m 30 #[own_jv q1, .second, rv b101] [(.int (2 : Int32)), (.ref b101)]))
  refine own_st (fun _ k => XS.lloadN X103.here hx rfl (hb hby own_d1_30) rfl  k) ?_
  show own_Goes p e below s _ _ (T103.setTop (mkF m 31 #[own_jv q1, .second, rv b101] [(.long q1), (.int (2 : Int32)), (.ref b101)]))
  refine own_st (fun _ k => XS.bipush X103.here hx rfl (hb hby own_d1_31) k) ?_
  show own_Goes p e below s _ _ (T103.setTop (mkF m 33 #[own_jv q1, .second, rv b101] [(.int (16 : Int32)), (.long q1), (.int (2 : Int32)), (.ref b101)]))
  refine own_st (fun _ k => XS.lushr X103.here hx rfl (hb hby own_d1_33) rfl k) ?_
  show own_Goes p e below s _ _ (T103.setTop (mkF m 34 #[own_jv q1, .second, rv b101] [(.long ((q1.toUInt64 >>> ((16 : Int32) &&& 0x3f).toInt64.toUInt64).toInt64)), (.int (2 : Int32)), (.ref b101)]))
  refine own_st (fun _ k => X103.ldc2Long hx hown (mvT hZ (hw _ (List.mem_of_getElem? (i := 5) rfl))) (g := (mkF m 34 #[own_jv q1, .second, rv b101] [(.long ((q1.toUInt64 >>> ((16 : Int32) &&& 0x3f).toInt64.toUInt64).toInt64)), (.int (2 : Int32)), (.ref b101)])) rfl (hb hby own_d1_34) _ k) ?_
  show own_Goes p e below s _ _ (T103.setTop (mkF m 37 #[own_jv q1, .second, rv b101] [(.long (127 : Int64)), (.long ((q1.toUInt64 >>> ((16 : Int32) &&& 0x3f).toInt64.toUInt64).toInt64)), (.int (2 : Int32)), (.ref b101)]))
  refine own_st (fun _ k => XS.land X103.here hx rfl (hb hby own_d1_37) rfl k) ?_
  show own_Goes p e below s _ _ (T103.setTop (mkF m 38 #[own_jv q1, .second, rv b101] [(.long (((q1.toUInt64 >>> ((16 : Int32) &&& 0x3f).toInt64.toUInt64).toInt64) &&& (127 : Int64))), (.int (2 : Int32)), (.ref b101)]))
  refine own_st (fun _ k => XS.l2i X103.here hx rfl (hb hby own_d1_38) rfl k) ?_
  show own_Goes p e below s _ _ (T103.setTop (mkF m 39 #[own_jv q1, .second, rv b101] [(.int ((((q1.toUInt64 >>> ((16 : Int32) &&& 0x3f).toInt64.toUInt64).toInt64) &&& (127 : Int64)).toInt32)), (.int (2 : Int32)), (.ref b101)]))
  refine own_st (fun _ k => XS.i2b X103.here hx rfl (hb hby own_d1_39) rfl k) ?_
  show own_Goes p e below s _ _ (T103.setTop (mkF m 40 #[own_jv q1, .second, rv b101] [(.int (((((q1.toUInt64 >>> ((16 : Int32) &&& 0x3f).toInt64.toUInt64).toInt64) &&& (127 : Int64)).toInt32).toInt8.toInt32)), (.int (2 : Int32)), (.ref b101)]))
  obtain ⟨T104, h104, X104, e104, W104, A104, st104⟩ := own_stB X103 hx hZ e103 V103 (j := (2 : Int32)) (by decide) (g := (mkF m 40 #[own_jv q1, .second, rv b101] [(.int (((((q1.toUInt64 >>> ((16 : Int32) &&& 0x3f).toInt64.toUInt64).toInt64) &&& (127 : Int64)).toInt32).toInt8.toInt32)), (.int (2 : Int32)), (.ref b101)])) rfl rfl (hb hby own_d1_40)
  have V104 : own_Arf Z h104 b101 .byte 8 (fun k => .int ((fun k => if k = 2 then (nar .byte (((((q1.toUInt64 >>> ((16 : Int32) &&& 0x3f).toInt64.toUInt64).toInt64) &&& (127 : Int64)).toInt32).toInt8.toInt32)) else (fun k => if k = 1 then (nar .byte (((((q1.toUInt64 >>> ((8 : Int32) &&& 0x3f).toInt64.toUInt64).toInt64) &&& (127 : Int64)).toInt32).toInt8.toInt32)) else (fun k => if k = 0 then (nar .byte (((q1 &&& (127 : Int64)).toInt32).toInt8.toInt32)) else (fun _ => (0 : Int32)) k) k) k) k)) := A104
  have z104 := W104.size
  have N104 := Fr.snoc X104 N103 (by omega)
  refine own_st st104 ?_
  show own_Goes p e below s _ _ (T104.setTop (mkF m 41 #[own_jv q1, .second, rv b101] []))
  refine own_st (fun _ k => XS.aloadN X104.here hx rfl (hb hby own_d1_41) rfl rfl  k) ?_
  show own_Goes p e below s _ _ (T104.setTop (mkF m 42 #[own_jv q1, .second, rv b101] [(.ref b101)]))
  refine own_st (fun _ k => XS.iconst X104.here hx rfl (hb hby own_d1_42) k) ?_
  show own_Goes p e below s _ _ (T104.setTop (mkF m 43 #[own_jv q1, .second, rv b101] [(.int (3 : Int32)), (.ref b101)]))
  refine own_st (fun _ k => XS.lloadN X104.here hx rfl (hb hby own_d1_43) rfl  k) ?_
  show own_Goes p e below s _ _ (T104.setTop (mkF m 44 #[own_jv q1, .second, rv b101] [(.long q1), (.int (3 : Int32)), (.ref b101)]))
  refine own_st (fun _ k => XS.bipush X104.here hx rfl (hb hby own_d1_44) k) ?_
  show own_Goes p e below s _ _ (T104.setTop (mkF m 46 #[own_jv q1, .second, rv b101] [(.int (24 : Int32)), (.long q1), (.int (3 : Int32)), (.ref b101)]))
  refine own_st (fun _ k => XS.lushr X104.here hx rfl (hb hby own_d1_46) rfl k) ?_
  show own_Goes p e below s _ _ (T104.setTop (mkF m 47 #[own_jv q1, .second, rv b101] [(.long ((q1.toUInt64 >>> ((24 : Int32) &&& 0x3f).toInt64.toUInt64).toInt64)), (.int (3 : Int32)), (.ref b101)]))
  refine own_st (fun _ k => X104.ldc2Long hx hown (mvT hZ (hw _ (List.mem_of_getElem? (i := 5) rfl))) (g := (mkF m 47 #[own_jv q1, .second, rv b101] [(.long ((q1.toUInt64 >>> ((24 : Int32) &&& 0x3f).toInt64.toUInt64).toInt64)), (.int (3 : Int32)), (.ref b101)])) rfl (hb hby own_d1_47) _ k) ?_
  show own_Goes p e below s _ _ (T104.setTop (mkF m 50 #[own_jv q1, .second, rv b101] [(.long (127 : Int64)), (.long ((q1.toUInt64 >>> ((24 : Int32) &&& 0x3f).toInt64.toUInt64).toInt64)), (.int (3 : Int32)), (.ref b101)]))
  refine own_st (fun _ k => XS.land X104.here hx rfl (hb hby own_d1_50) rfl k) ?_
  show own_Goes p e below s _ _ (T104.setTop (mkF m 51 #[own_jv q1, .second, rv b101] [(.long (((q1.toUInt64 >>> ((24 : Int32) &&& 0x3f).toInt64.toUInt64).toInt64) &&& (127 : Int64))), (.int (3 : Int32)), (.ref b101)]))
  refine own_st (fun _ k => XS.l2i X104.here hx rfl (hb hby own_d1_51) rfl k) ?_
  show own_Goes p e below s _ _ (T104.setTop (mkF m 52 #[own_jv q1, .second, rv b101] [(.int ((((q1.toUInt64 >>> ((24 : Int32) &&& 0x3f).toInt64.toUInt64).toInt64) &&& (127 : Int64)).toInt32)), (.int (3 : Int32)), (.ref b101)]))
  refine own_st (fun _ k => XS.i2b X104.here hx rfl (hb hby own_d1_52) rfl k) ?_
  show own_Goes p e below s _ _ (T104.setTop (mkF m 53 #[own_jv q1, .second, rv b101] [(.int (((((q1.toUInt64 >>> ((24 : Int32) &&& 0x3f).toInt64.toUInt64).toInt64) &&& (127 : Int64)).toInt32).toInt8.toInt32)), (.int (3 : Int32)), (.ref b101)]))
  obtain ⟨T105, h105, X105, e105, W105, A105, st105⟩ := own_stB X104 hx hZ e104 V104 (j := (3 : Int32)) (by decide) (g := (mkF m 53 #[own_jv q1, .second, rv b101] [(.int (((((q1.toUInt64 >>> ((24 : Int32) &&& 0x3f).toInt64.toUInt64).toInt64) &&& (127 : Int64)).toInt32).toInt8.toInt32)), (.int (3 : Int32)), (.ref b101)])) rfl rfl (hb hby own_d1_53)
  have V105 : own_Arf Z h105 b101 .byte 8 (fun k => .int ((fun k => if k = 3 then (nar .byte (((((q1.toUInt64 >>> ((24 : Int32) &&& 0x3f).toInt64.toUInt64).toInt64) &&& (127 : Int64)).toInt32).toInt8.toInt32)) else (fun k => if k = 2 then (nar .byte (((((q1.toUInt64 >>> ((16 : Int32) &&& 0x3f).toInt64.toUInt64).toInt64) &&& (127 : Int64)).toInt32).toInt8.toInt32)) else (fun k => if k = 1 then (nar .byte (((((q1.toUInt64 >>> ((8 : Int32) &&& 0x3f).toInt64.toUInt64).toInt64) &&& (127 : Int64)).toInt32).toInt8.toInt32)) else (fun k => if k = 0 then (nar .byte (((q1 &&& (127 : Int64)).toInt32).toInt8.toInt32)) else (fun _ => (0 : Int32)) k) k) k) k) k)) := A105
  have z105 := W105.size
  have N105 := Fr.snoc X105 N104 (by omega)
  refine own_st st105 ?_
  show own_Goes p e below s _ _ (T105.setTop (mkF m 54 #[own_jv q1, .second, rv b101] []))
  refine own_st (fun _ k => XS.aloadN X105.here hx rfl (hb hby own_d1_54) rfl rfl  k) ?_
  show own_Goes p e below s _ _ (T105.setTop (mkF m 55 #[own_jv q1, .second, rv b101] [(.ref b101)]))
  refine own_st (fun _ k => XS.iconst X105.here hx rfl (hb hby own_d1_55) k) ?_
  show own_Goes p e below s _ _ (T105.setTop (mkF m 56 #[own_jv q1, .second, rv b101] [(.int (4 : Int32)), (.ref b101)]))
  refine own_st (fun _ k => XS.lloadN X105.here hx rfl (hb hby own_d1_56) rfl  k) ?_
  show own_Goes p e below s _ _ (T105.setTop (mkF m 57 #[own_jv q1, .second, rv b101] [(.long q1), (.int (4 : Int32)), (.ref b101)]))
  refine own_st (fun _ k => XS.bipush X105.here hx rfl (hb hby own_d1_57) k) ?_
  show own_Goes p e below s _ _ (T105.setTop (mkF m 59 #[own_jv q1, .second, rv b101] [(.int (32 : Int32)), (.long q1), (.int (4 : Int32)), (.ref b101)]))
  refine own_st (fun _ k => XS.lushr X105.here hx rfl (hb hby own_d1_59) rfl k) ?_
  show own_Goes p e below s _ _ (T105.setTop (mkF m 60 #[own_jv q1, .second, rv b101] [(.long ((q1.toUInt64 >>> ((32 : Int32) &&& 0x3f).toInt64.toUInt64).toInt64)), (.int (4 : Int32)), (.ref b101)]))
  refine own_st (fun _ k => X105.ldc2Long hx hown (mvT hZ (hw _ (List.mem_of_getElem? (i := 5) rfl))) (g := (mkF m 60 #[own_jv q1, .second, rv b101] [(.long ((q1.toUInt64 >>> ((32 : Int32) &&& 0x3f).toInt64.toUInt64).toInt64)), (.int (4 : Int32)), (.ref b101)])) rfl (hb hby own_d1_60) _ k) ?_
  show own_Goes p e below s _ _ (T105.setTop (mkF m 63 #[own_jv q1, .second, rv b101] [(.long (127 : Int64)), (.long ((q1.toUInt64 >>> ((32 : Int32) &&& 0x3f).toInt64.toUInt64).toInt64)), (.int (4 : Int32)), (.ref b101)]))
  refine own_st (fun _ k => XS.land X105.here hx rfl (hb hby own_d1_63) rfl k) ?_
  show own_Goes p e below s _ _ (T105.setTop (mkF m 64 #[own_jv q1, .second, rv b101] [(.long (((q1.toUInt64 >>> ((32 : Int32) &&& 0x3f).toInt64.toUInt64).toInt64) &&& (127 : Int64))), (.int (4 : Int32)), (.ref b101)]))
  refine own_st (fun _ k => XS.l2i X105.here hx rfl (hb hby own_d1_64) rfl k) ?_
  show own_Goes p e below s _ _ (T105.setTop (mkF m 65 #[own_jv q1, .second, rv b101] [(.int ((((q1.toUInt64 >>> ((32 : Int32) &&& 0x3f).toInt64.toUInt64).toInt64) &&& (127 : Int64)).toInt32)), (.int (4 : Int32)), (.ref b101)]))
  refine own_st (fun _ k => XS.i2b X105.here hx rfl (hb hby own_d1_65) rfl k) ?_
  show own_Goes p e below s _ _ (T105.setTop (mkF m 66 #[own_jv q1, .second, rv b101] [(.int (((((q1.toUInt64 >>> ((32 : Int32) &&& 0x3f).toInt64.toUInt64).toInt64) &&& (127 : Int64)).toInt32).toInt8.toInt32)), (.int (4 : Int32)), (.ref b101)]))
  obtain ⟨T106, h106, X106, e106, W106, A106, st106⟩ := own_stB X105 hx hZ e105 V105 (j := (4 : Int32)) (by decide) (g := (mkF m 66 #[own_jv q1, .second, rv b101] [(.int (((((q1.toUInt64 >>> ((32 : Int32) &&& 0x3f).toInt64.toUInt64).toInt64) &&& (127 : Int64)).toInt32).toInt8.toInt32)), (.int (4 : Int32)), (.ref b101)])) rfl rfl (hb hby own_d1_66)
  have V106 : own_Arf Z h106 b101 .byte 8 (fun k => .int ((fun k => if k = 4 then (nar .byte (((((q1.toUInt64 >>> ((32 : Int32) &&& 0x3f).toInt64.toUInt64).toInt64) &&& (127 : Int64)).toInt32).toInt8.toInt32)) else (fun k => if k = 3 then (nar .byte (((((q1.toUInt64 >>> ((24 : Int32) &&& 0x3f).toInt64.toUInt64).toInt64) &&& (127 : Int64)).toInt32).toInt8.toInt32)) else (fun k => if k = 2 then (nar .byte (((((q1.toUInt64 >>> ((16 : Int32) &&& 0x3f).toInt64.toUInt64).toInt64) &&& (127 : Int64)).toInt32).toInt8.toInt32)) else (fun k => if k = 1 then (nar .byte (((((q1.toUInt64 >>> ((8 : Int32) &&& 0x3f).toInt64.toUInt64).toInt64) &&& (127 : Int64)).toInt32).toInt8.toInt32)) else (fun k => if k = 0 then (nar .byte (((q1 &&& (127 : Int64)).toInt32).toInt8.toInt32)) else (fun _ => (0 : Int32)) k) k) k) k) k) k)) := A106
  have z106 := W106.size
  have N106 := Fr.snoc X106 N105 (by omega)
  refine own_st st106 ?_
  show own_Goes p e below s _ _ (T106.setTop (mkF m 67 #[own_jv q1, .second, rv b101] []))
  refine own_st (fun _ k => XS.aloadN X106.here hx rfl (hb hby own_d1_67) rfl rfl  k) ?_
  show own_Goes p e below s _ _ (T106.setTop (mkF m 68 #[own_jv q1, .second, rv b101] [(.ref b101)]))
  refine own_st (fun _ k => XS.iconst X106.here hx rfl (hb hby own_d1_68) k) ?_
  show own_Goes p e below s _ _ (T106.setTop (mkF m 69 #[own_jv q1, .second, rv b101] [(.int (5 : Int32)), (.ref b101)]))
  refine own_st (fun _ k => XS.lloadN X106.here hx rfl (hb hby own_d1_69) rfl  k) ?_
  show own_Goes p e below s _ _ (T106.setTop (mkF m 70 #[own_jv q1, .second, rv b101] [(.long q1), (.int (5 : Int32)), (.ref b101)]))
  refine own_st (fun _ k => XS.bipush X106.here hx rfl (hb hby own_d1_70) k) ?_
  show own_Goes p e below s _ _ (T106.setTop (mkF m 72 #[own_jv q1, .second, rv b101] [(.int (40 : Int32)), (.long q1), (.int (5 : Int32)), (.ref b101)]))
  refine own_st (fun _ k => XS.lushr X106.here hx rfl (hb hby own_d1_72) rfl k) ?_
  show own_Goes p e below s _ _ (T106.setTop (mkF m 73 #[own_jv q1, .second, rv b101] [(.long ((q1.toUInt64 >>> ((40 : Int32) &&& 0x3f).toInt64.toUInt64).toInt64)), (.int (5 : Int32)), (.ref b101)]))
  refine own_st (fun _ k => X106.ldc2Long hx hown (mvT hZ (hw _ (List.mem_of_getElem? (i := 5) rfl))) (g := (mkF m 73 #[own_jv q1, .second, rv b101] [(.long ((q1.toUInt64 >>> ((40 : Int32) &&& 0x3f).toInt64.toUInt64).toInt64)), (.int (5 : Int32)), (.ref b101)])) rfl (hb hby own_d1_73) _ k) ?_
  show own_Goes p e below s _ _ (T106.setTop (mkF m 76 #[own_jv q1, .second, rv b101] [(.long (127 : Int64)), (.long ((q1.toUInt64 >>> ((40 : Int32) &&& 0x3f).toInt64.toUInt64).toInt64)), (.int (5 : Int32)), (.ref b101)]))
  refine own_st (fun _ k => XS.land X106.here hx rfl (hb hby own_d1_76) rfl k) ?_
  show own_Goes p e below s _ _ (T106.setTop (mkF m 77 #[own_jv q1, .second, rv b101] [(.long (((q1.toUInt64 >>> ((40 : Int32) &&& 0x3f).toInt64.toUInt64).toInt64) &&& (127 : Int64))), (.int (5 : Int32)), (.ref b101)]))
  refine own_st (fun _ k => XS.l2i X106.here hx rfl (hb hby own_d1_77) rfl k) ?_
  show own_Goes p e below s _ _ (T106.setTop (mkF m 78 #[own_jv q1, .second, rv b101] [(.int ((((q1.toUInt64 >>> ((40 : Int32) &&& 0x3f).toInt64.toUInt64).toInt64) &&& (127 : Int64)).toInt32)), (.int (5 : Int32)), (.ref b101)]))
  refine own_st (fun _ k => XS.i2b X106.here hx rfl (hb hby own_d1_78) rfl k) ?_
  show own_Goes p e below s _ _ (T106.setTop (mkF m 79 #[own_jv q1, .second, rv b101] [(.int (((((q1.toUInt64 >>> ((40 : Int32) &&& 0x3f).toInt64.toUInt64).toInt64) &&& (127 : Int64)).toInt32).toInt8.toInt32)), (.int (5 : Int32)), (.ref b101)]))
  obtain ⟨T107, h107, X107, e107, W107, A107, st107⟩ := own_stB X106 hx hZ e106 V106 (j := (5 : Int32)) (by decide) (g := (mkF m 79 #[own_jv q1, .second, rv b101] [(.int (((((q1.toUInt64 >>> ((40 : Int32) &&& 0x3f).toInt64.toUInt64).toInt64) &&& (127 : Int64)).toInt32).toInt8.toInt32)), (.int (5 : Int32)), (.ref b101)])) rfl rfl (hb hby own_d1_79)
  have V107 : own_Arf Z h107 b101 .byte 8 (fun k => .int ((fun k => if k = 5 then (nar .byte (((((q1.toUInt64 >>> ((40 : Int32) &&& 0x3f).toInt64.toUInt64).toInt64) &&& (127 : Int64)).toInt32).toInt8.toInt32)) else (fun k => if k = 4 then (nar .byte (((((q1.toUInt64 >>> ((32 : Int32) &&& 0x3f).toInt64.toUInt64).toInt64) &&& (127 : Int64)).toInt32).toInt8.toInt32)) else (fun k => if k = 3 then (nar .byte (((((q1.toUInt64 >>> ((24 : Int32) &&& 0x3f).toInt64.toUInt64).toInt64) &&& (127 : Int64)).toInt32).toInt8.toInt32)) else (fun k => if k = 2 then (nar .byte (((((q1.toUInt64 >>> ((16 : Int32) &&& 0x3f).toInt64.toUInt64).toInt64) &&& (127 : Int64)).toInt32).toInt8.toInt32)) else (fun k => if k = 1 then (nar .byte (((((q1.toUInt64 >>> ((8 : Int32) &&& 0x3f).toInt64.toUInt64).toInt64) &&& (127 : Int64)).toInt32).toInt8.toInt32)) else (fun k => if k = 0 then (nar .byte (((q1 &&& (127 : Int64)).toInt32).toInt8.toInt32)) else (fun _ => (0 : Int32)) k) k) k) k) k) k) k)) := A107
  have z107 := W107.size
  have N107 := Fr.snoc X107 N106 (by omega)
  refine own_st st107 ?_
  show own_Goes p e below s _ _ (T107.setTop (mkF m 80 #[own_jv q1, .second, rv b101] []))
  refine own_st (fun _ k => XS.aloadN X107.here hx rfl (hb hby own_d1_80) rfl rfl  k) ?_
  show own_Goes p e below s _ _ (T107.setTop (mkF m 81 #[own_jv q1, .second, rv b101] [(.ref b101)]))
  refine own_st (fun _ k => XS.bipush X107.here hx rfl (hb hby own_d1_81) k) ?_
  show own_Goes p e below s _ _ (T107.setTop (mkF m 83 #[own_jv q1, .second, rv b101] [(.int (6 : Int32)), (.ref b101)]))
  refine own_st (fun _ k => XS.lloadN X107.here hx rfl (hb hby own_d1_83) rfl  k) ?_
  show own_Goes p e below s _ _ (T107.setTop (mkF m 84 #[own_jv q1, .second, rv b101] [(.long q1), (.int (6 : Int32)), (.ref b101)]))
  refine own_st (fun _ k => XS.bipush X107.here hx rfl (hb hby own_d1_84) k) ?_
  show own_Goes p e below s _ _ (T107.setTop (mkF m 86 #[own_jv q1, .second, rv b101] [(.int (48 : Int32)), (.long q1), (.int (6 : Int32)), (.ref b101)]))
  refine own_st (fun _ k => XS.lushr X107.here hx rfl (hb hby own_d1_86) rfl k) ?_
  show own_Goes p e below s _ _ (T107.setTop (mkF m 87 #[own_jv q1, .second, rv b101] [(.long ((q1.toUInt64 >>> ((48 : Int32) &&& 0x3f).toInt64.toUInt64).toInt64)), (.int (6 : Int32)), (.ref b101)]))
  refine own_st (fun _ k => X107.ldc2Long hx hown (mvT hZ (hw _ (List.mem_of_getElem? (i := 5) rfl))) (g := (mkF m 87 #[own_jv q1, .second, rv b101] [(.long ((q1.toUInt64 >>> ((48 : Int32) &&& 0x3f).toInt64.toUInt64).toInt64)), (.int (6 : Int32)), (.ref b101)])) rfl (hb hby own_d1_87) _ k) ?_
  show own_Goes p e below s _ _ (T107.setTop (mkF m 90 #[own_jv q1, .second, rv b101] [(.long (127 : Int64)), (.long ((q1.toUInt64 >>> ((48 : Int32) &&& 0x3f).toInt64.toUInt64).toInt64)), (.int (6 : Int32)), (.ref b101)]))
  refine own_st (fun _ k => XS.land X107.here hx rfl (hb hby own_d1_90) rfl k) ?_
  show own_Goes p e below s _ _ (T107.setTop (mkF m 91 #[own_jv q1, .second, rv b101] [(.long (((q1.toUInt64 >>> ((48 : Int32) &&& 0x3f).toInt64.toUInt64).toInt64) &&& (127 : Int64))), (.int (6 : Int32)), (.ref b101)]))
  refine own_st (fun _ k => XS.l2i X107.here hx rfl (hb hby own_d1_91) rfl k) ?_
  show own_Goes p e below s _ _ (T107.setTop (mkF m 92 #[own_jv q1, .second, rv b101] [(.int ((((q1.toUInt64 >>> ((48 : Int32) &&& 0x3f).toInt64.toUInt64).toInt64) &&& (127 : Int64)).toInt32)), (.int (6 : Int32)), (.ref b101)]))
  refine own_st (fun _ k => XS.i2b X107.here hx rfl (hb hby own_d1_92) rfl k) ?_
  show own_Goes p e below s _ _ (T107.setTop (mkF m 93 #[own_jv q1, .second, rv b101] [(.int (((((q1.toUInt64 >>> ((48 : Int32) &&& 0x3f).toInt64.toUInt64).toInt64) &&& (127 : Int64)).toInt32).toInt8.toInt32)), (.int (6 : Int32)), (.ref b101)]))
  obtain ⟨T108, h108, X108, e108, W108, A108, st108⟩ := own_stB X107 hx hZ e107 V107 (j := (6 : Int32)) (by decide) (g := (mkF m 93 #[own_jv q1, .second, rv b101] [(.int (((((q1.toUInt64 >>> ((48 : Int32) &&& 0x3f).toInt64.toUInt64).toInt64) &&& (127 : Int64)).toInt32).toInt8.toInt32)), (.int (6 : Int32)), (.ref b101)])) rfl rfl (hb hby own_d1_93)
  have V108 : own_Arf Z h108 b101 .byte 8 (fun k => .int ((fun k => if k = 6 then (nar .byte (((((q1.toUInt64 >>> ((48 : Int32) &&& 0x3f).toInt64.toUInt64).toInt64) &&& (127 : Int64)).toInt32).toInt8.toInt32)) else (fun k => if k = 5 then (nar .byte (((((q1.toUInt64 >>> ((40 : Int32) &&& 0x3f).toInt64.toUInt64).toInt64) &&& (127 : Int64)).toInt32).toInt8.toInt32)) else (fun k => if k = 4 then (nar .byte (((((q1.toUInt64 >>> ((32 : Int32) &&& 0x3f).toInt64.toUInt64).toInt64) &&& (127 : Int64)).toInt32).toInt8.toInt32)) else (fun k => if k = 3 then (nar .byte (((((q1.toUInt64 >>> ((24 : Int32) &&& 0x3f).toInt64.toUInt64).toInt64) &&& (127 : Int64)).toInt32).toInt8.toInt32)) else (fun k => if k = 2 then (nar .byte (((((q1.toUInt64 >>> ((16 : Int32) &&& 0x3f).toInt64.toUInt64).toInt64) &&& (127 : Int64)).toInt32).toInt8.toInt32)) else (fun k => if k = 1 then (nar .byte (((((q1.toUInt64 >>> ((8 : Int32) &&& 0x3f).toInt64.toUInt64).toInt64) &&& (127 : Int64)).toInt32).toInt8.toInt32)) else (fun k => if k = 0 then (nar .byte (((q1 &&& (127 : Int64)).toInt32).toInt8.toInt32)) else (fun _ => (0 : Int32)) k) k) k) k) k) k) k) k)) := A108
  have z108 := W108.size
  have N108 := Fr.snoc X108 N107 (by omega)
  refine own_st st108 ?_
  show own_Goes p e below s _ _ (T108.setTop (mkF m 94 #[own_jv q1, .second, rv b101] []))
  refine own_st (fun _ k => XS.aloadN X108.here hx rfl (hb hby own_d1_94) rfl rfl  k) ?_
  show own_Goes p e below s _ _ (T108.setTop (mkF m 95 #[own_jv q1, .second, rv b101] [(.ref b101)]))
  refine own_st (fun _ k => XS.bipush X108.here hx rfl (hb hby own_d1_95) k) ?_
  show own_Goes p e below s _ _ (T108.setTop (mkF m 97 #[own_jv q1, .second, rv b101] [(.int (7 : Int32)), (.ref b101)]))
  refine own_st (fun _ k => XS.lloadN X108.here hx rfl (hb hby own_d1_97) rfl  k) ?_
  show own_Goes p e below s _ _ (T108.setTop (mkF m 98 #[own_jv q1, .second, rv b101] [(.long q1), (.int (7 : Int32)), (.ref b101)]))
  refine own_st (fun _ k => XS.bipush X108.here hx rfl (hb hby own_d1_98) k) ?_
  show own_Goes p e below s _ _ (T108.setTop (mkF m 100 #[own_jv q1, .second, rv b101] [(.int (56 : Int32)), (.long q1), (.int (7 : Int32)), (.ref b101)]))
  refine own_st (fun _ k => XS.lushr X108.here hx rfl (hb hby own_d1_100) rfl k) ?_
  show own_Goes p e below s _ _ (T108.setTop (mkF m 101 #[own_jv q1, .second, rv b101] [(.long ((q1.toUInt64 >>> ((56 : Int32) &&& 0x3f).toInt64.toUInt64).toInt64)), (.int (7 : Int32)), (.ref b101)]))
  refine own_st (fun _ k => X108.ldc2Long hx hown (mvT hZ (hw _ (List.mem_of_getElem? (i := 5) rfl))) (g := (mkF m 101 #[own_jv q1, .second, rv b101] [(.long ((q1.toUInt64 >>> ((56 : Int32) &&& 0x3f).toInt64.toUInt64).toInt64)), (.int (7 : Int32)), (.ref b101)])) rfl (hb hby own_d1_101) _ k) ?_
  show own_Goes p e below s _ _ (T108.setTop (mkF m 104 #[own_jv q1, .second, rv b101] [(.long (127 : Int64)), (.long ((q1.toUInt64 >>> ((56 : Int32) &&& 0x3f).toInt64.toUInt64).toInt64)), (.int (7 : Int32)), (.ref b101)]))
  refine own_st (fun _ k => XS.land X108.here hx rfl (hb hby own_d1_104) rfl k) ?_
  show own_Goes p e below s _ _ (T108.setTop (mkF m 105 #[own_jv q1, .second, rv b101] [(.long (((q1.toUInt64 >>> ((56 : Int32) &&& 0x3f).toInt64.toUInt64).toInt64) &&& (127 : Int64))), (.int (7 : Int32)), (.ref b101)]))
  refine own_st (fun _ k => XS.l2i X108.here hx rfl (hb hby own_d1_105) rfl k) ?_
  show own_Goes p e below s _ _ (T108.setTop (mkF m 106 #[own_jv q1, .second, rv b101] [(.int ((((q1.toUInt64 >>> ((56 : Int32) &&& 0x3f).toInt64.toUInt64).toInt64) &&& (127 : Int64)).toInt32)), (.int (7 : Int32)), (.ref b101)]))
  refine own_st (fun _ k => XS.i2b X108.here hx rfl (hb hby own_d1_106) rfl k) ?_
  show own_Goes p e below s _ _ (T108.setTop (mkF m 107 #[own_jv q1, .second, rv b101] [(.int (((((q1.toUInt64 >>> ((56 : Int32) &&& 0x3f).toInt64.toUInt64).toInt64) &&& (127 : Int64)).toInt32).toInt8.toInt32)), (.int (7 : Int32)), (.ref b101)]))
  obtain ⟨T109, h109, X109, e109, W109, A109, st109⟩ := own_stB X108 hx hZ e108 V108 (j := (7 : Int32)) (by decide) (g := (mkF m 107 #[own_jv q1, .second, rv b101] [(.int (((((q1.toUInt64 >>> ((56 : Int32) &&& 0x3f).toInt64.toUInt64).toInt64) &&& (127 : Int64)).toInt32).toInt8.toInt32)), (.int (7 : Int32)), (.ref b101)])) rfl rfl (hb hby own_d1_107)
  have V109 : own_Arf Z h109 b101 .byte 8 (fun k => .int ((fun k => if k = 7 then (nar .byte (((((q1.toUInt64 >>> ((56 : Int32) &&& 0x3f).toInt64.toUInt64).toInt64) &&& (127 : Int64)).toInt32).toInt8.toInt32)) else (fun k => if k = 6 then (nar .byte (((((q1.toUInt64 >>> ((48 : Int32) &&& 0x3f).toInt64.toUInt64).toInt64) &&& (127 : Int64)).toInt32).toInt8.toInt32)) else (fun k => if k = 5 then (nar .byte (((((q1.toUInt64 >>> ((40 : Int32) &&& 0x3f).toInt64.toUInt64).toInt64) &&& (127 : Int64)).toInt32).toInt8.toInt32)) else (fun k => if k = 4 then (nar .byte (((((q1.toUInt64 >>> ((32 : Int32) &&& 0x3f).toInt64.toUInt64).toInt64) &&& (127 : Int64)).toInt32).toInt8.toInt32)) else (fun k => if k = 3 then (nar .byte (((((q1.toUInt64 >>> ((24 : Int32) &&& 0x3f).toInt64.toUInt64).toInt64) &&& (127 : Int64)).toInt32).toInt8.toInt32)) else (fun k => if k = 2 then (nar .byte (((((q1.toUInt64 >>> ((16 : Int32) &&& 0x3f).toInt64.toUInt64).toInt64) &&& (127 : Int64)).toInt32).toInt8.toInt32)) else (fun k => if k = 1 then (nar .byte (((((q1.toUInt64 >>> ((8 : Int32) &&& 0x3f).toInt64.toUInt64).toInt64) &&& (127 : Int64)).toInt32).toInt8.toInt32)) else (fun k => if k = 0 then (nar .byte (((q1 &&& (127 : Int64)).toInt32).toInt8.toInt32)) else (fun _ => (0 : Int32)) k) k) k) k) k) k) k) k) k)) := A109
  have z109 := W109.size
  have N109 := Fr.snoc X109 N108 (by omega)
  refine own_st st109 ?_
  show own_Goes p e below s _ _ (T109.setTop (mkF m 108 #[own_jv q1, .second, rv b101] []))
  refine own_st (fun _ k => XS.aloadN X109.here hx rfl (hb hby own_d1_108) rfl rfl  k) ?_
  show own_Goes p e below s _ _ (T109.setTop (mkF m 109 #[own_jv q1, .second, rv b101] [(.ref b101)]))
  exact own_retR X109 hx hlk hret rfl rfl (hb hby own_d1_109) (by decide) (by decide) ⟨b101, _, rfl, N109, by rw [e109]; exact ((((((((((Keep.refl h0 []).ext E101).wr W102 (Or.inr (by omega))).wr W103 (Or.inr (by omega))).wr W104 (Or.inr (by omega))).wr W105 (Or.inr (by omega))).wr W106 (Or.inr (by omega))).wr W107 (Or.inr (by omega))).wr W108 (Or.inr (by omega))).wr W109 (Or.inr (by omega))), by omega, by rw [e109]; omega, by rw [e109]; exact V109, own_fillB q1⟩
theorem own_pn1 : plainFor (⟨"com/example/reach2/reach2/model/AsciiText", "<init>", "()V"⟩ : MethodName) = true := by first | exact plainFor_of_name (by simp [plainName, overriddenIn]; done) | decide +kernel
theorem own_d2_0 : decode prog_45_method_1_code 0 = .ok (.aload_n 0, 1) := by decide +kernel
theorem own_d2_1 : decode prog_45_method_1_code 1 = .ok (.invokespecial 1, 3) := by decide +kernel
theorem own_d2_4 : decode prog_45_method_1_code 4 = .ok (.aload_n 0, 1) := by decide +kernel
theorem own_d2_5 : decode prog_45_method_1_code 5 = .ok (.iconst 0, 1) := by decide +kernel
theorem own_d2_6 : decode prog_45_method_1_code 6 = .ok (.newarray .byte, 2) := by decide +kernel
theorem own_d2_8 : decode prog_45_method_1_code 8 = .ok (.putfield 7, 3) := by decide +kernel
theorem own_d2_11 : decode prog_45_method_1_code 11 = .ok (.return_, 1) := by decide +kernel
theorem own_ef_rmI (m : MethodId) (a1 : Nat) : entryFrame m #[(.ref a1)] 1 = mkF m 0 #[rv a1] [] := by first | (simp [entryFrame, mkF, argsToLocals, Value.category, maxLocals]; done) | rfl
abbrev own_Q_rmI (Z : State) (a1 : Nat) (u_bytes : Value) (u_from : Value) (u_to : Value) (h0 : Heap) (n0 : Nat) (v : Option Value) (h : Heap) (L : List Loc) : Prop := v = none ∧ Fr n0 L ∧ Keep h0 h [a1] ∧ Exa Z h a1 "com/example/reach2/reach2/model/AsciiText" ∧ ∃ b : Nat, Fld Z h a1 "com/example/reach2/reach2/model/AsciiText" "bytes" "[B" (.ref b) ∧ Fld Z h a1 "com/example/reach2/reach2/model/AsciiText" "from" "I" u_from ∧ Fld Z h a1 "com/example/reach2/reach2/model/AsciiText" "to" "I" u_to
set_option maxRecDepth 65536 in
set_option maxHeartbeats 40000000 in
theorem rmI (l : Launch) (Z : State) (a0 : Array Value) (hw : ∀ d ∈ tables_1, d.before a0 Z = true) (ws : List Jvm.Cond) (a1 : Nat) (u_bytes : Value) (u_from : Value) (u_to : Value) (h0 : Heap) (n0 : Nat) (Z0 : n0 ≤ h0.size) (E1 : Exa Z h0 a1 "com/example/reach2/reach2/model/AsciiText") (F_bytes : Fld Z h0 a1 "com/example/reach2/reach2/model/AsciiText" "bytes" "[B" u_bytes) (F_from : Fld Z h0 a1 "com/example/reach2/reach2/model/AsciiText" "from" "I" u_from) (F_to : Fld Z h0 a1 "com/example/reach2/reach2/model/AsciiText" "to" "I" u_to) (g1 : n0 ≤ a1) (y1 : a1 < h0.size) :
    MetFree l (⟨"com/example/reach2/reach2/model/AsciiText", "<init>", "()V"⟩ : MethodName) (head1 (Jvm.Cond.code (⟨"com/example/reach2/reach2/model/AsciiText", "<init>", "()V"⟩ : MethodName) prog_45_method_1_code 1 none :: ws) ({ frames := 1, cells := 1, slots := 0, locals := 12 } : Room)) (fun a U => a = #[(.ref a1)] ∧ Z.Warmed39 U.vm ∧ U.heap = h0) (fun _ _ _ _ _ => True) (fun _ U o U' => ∃ v L, o = .returned v ∧ own_Q_rmI Z a1 u_bytes u_from u_to h0 n0 v U'.heap L ∧ FrameEnd U o U' L ({ frames := 1, cells := 1, slots := 0, locals := 12 } : Room).cells ({ frames := 1, cells := 1, slots := 0, locals := 12 } : Room).slots) := by
  refine own_enter (Q := fun v h L => own_Q_rmI Z a1 u_bytes u_from u_to h0 n0 v h L) (F := fun m => mkF m 0 #[rv a1] []) own_pn1 (fun m => own_ef_rmI m a1) ?_
  intro p e s m below meth c T X hx hby hml hret hlk hnm hown hZ e0
  show own_Goes p e below s _ _ (T.setTop (mkF m 0 #[rv a1] []))
  have N0 := Fr.nil n0
  refine own_st (fun _ k => XS.aloadN X.here hx rfl (hb hby own_d2_0) rfl rfl  k) ?_
  show own_Goes p e below s _ _ (T.setTop (mkF m 1 #[rv a1] [(.ref a1)]))
  obtain ⟨T101, X101, e101, st101⟩ := initO X hx hZ hown (hw _ (List.mem_of_getElem? (i := 12) rfl)) (hw _ (List.mem_of_getElem? (i := 13) rfl)) (hw _ (List.mem_of_getElem? (i := 14) rfl)) e0 (g := (mkF m 1 #[rv a1] [(.ref a1)])) rfl (by rw [hml]; rfl) rfl (hb hby own_d2_1) (by decide) (W := 0) (by show 2 * 0 + _ ≤ _; exact Nat.le_of_eq rfl) (by decide)
  refine own_st st101 ?_
  show own_Goes p e below s _ _ (T101.setTop (mkF m 4 #[rv a1] []))
  refine own_st (fun _ k => XS.aloadN X101.here hx rfl (hb hby own_d2_4) rfl rfl  k) ?_
  show own_Goes p e below s _ _ (T101.setTop (mkF m 5 #[rv a1] [(.ref a1)]))
  refine own_st (fun _ k => XS.iconst X101.here hx rfl (hb hby own_d2_5) k) ?_
  show own_Goes p e below s _ _ (T101.setTop (mkF m 6 #[rv a1] [(.int (0 : Int32)), (.ref a1)]))
  obtain ⟨T102, h102, X102, e102, E102, A102, st102⟩ := own_newP X101 hx hZ (aty := .byte) (hw _ (List.mem_of_getElem? (i := 4) rfl)) e101 (g := (mkF m 6 #[rv a1] [(.int (0 : Int32)), (.ref a1)])) rfl (hb hby own_d2_6) rfl (by decide) (cap := 0) (by decide) (by decide) (by decide) (by decide)
  obtain ⟨b102, g102⟩ : ∃ z, z = h0.size := ⟨_, rfl⟩
  rw [← g102] at A102 st102
  have V102 : own_Arf Z h102 b102 .byte 0 (fun k => .int ((fun _ => (0 : Int32)) k)) := A102
  have y102 := V102.lt
  have z102 := E102.1
  refine own_st st102 ?_
  show own_Goes p e below s _ _ (T102.setTop (mkF m 8 #[rv a1] [(.ref b102), (.ref a1)]))
  have f103 := (F_bytes.ext E102)
  have f104 := (E1.ext E102)
  obtain ⟨T105, h105, X105, e105, W105, st105⟩ := putF X102 hx hZ hown (host := "") (Or.inl (hw _ (List.mem_of_getElem? (i := 15) rfl))) Via.refl e102 f103 f104 (Or.inl (hw _ (List.mem_of_getElem? (i := 16) rfl))) (hw _ (List.mem_of_getElem? (i := 7) rfl)) (ty := (.array .byte)) (by decide) rfl rfl (g := (mkF m 8 #[rv a1] [(.ref b102), (.ref a1)])) rfl rfl (hb hby own_d2_8)
  have z105 := W105.size
  have N105 := Fr.snoc X105 N0 (by omega)
  have F105 := f103.same W105
  refine own_st st105 ?_
  show own_Goes p e below s _ _ (T105.setTop (mkF m 11 #[rv a1] []))
  have f106 := (f104.wr W105)
  have f107 := ((F_from.ext E102).other W105 (Or.inr (slot_ne (Or.inl (hw _ (List.mem_of_getElem? (i := 23) rfl))) (Or.inl (hw _ (List.mem_of_getElem? (i := 16) rfl))) (by decide) (t := .int) (t' := (.array .byte)) (by decide) (by decide))))
  have f108 := ((F_to.ext E102).other W105 (Or.inr (slot_ne (Or.inl (hw _ (List.mem_of_getElem? (i := 25) rfl))) (Or.inl (hw _ (List.mem_of_getElem? (i := 16) rfl))) (by decide) (t := .int) (t' := (.array .byte)) (by decide) (by decide))))
  exact own_ret0 X105 hx hlk hret (hb hby own_d2_11) (by decide) (by decide) ⟨rfl, N105, by rw [e105]; exact (((Keep.refl h0 [a1]).ext E102).wr W105 (Or.inl (by simp))), by rw [e105]; exact f106, b102, by rw [e105]; exact F105, by rw [e105]; exact f107, by rw [e105]; exact f108⟩
theorem own_pn2 : plainFor (⟨"com/example/reach2/reach2/model/AsciiText", "show", "([BII)V"⟩ : MethodName) = true := by first | exact plainFor_of_name (by simp [plainName, overriddenIn]; done) | decide +kernel
theorem own_d4_0 : decode prog_45_method_2_code 0 = .ok (.aload_n 1, 1) := by decide +kernel
theorem own_d4_1 : decode prog_45_method_2_code 1 = .ok (.aload_n 0, 1) := by decide +kernel
theorem own_d4_2 : decode prog_45_method_2_code 2 = .ok (.getfield 7, 3) := by decide +kernel
theorem own_d4_5 : decode prog_45_method_2_code 5 = .ok (.if_acmp .eq 8, 3) := by decide +kernel
theorem own_d4_13 : decode prog_45_method_2_code 13 = .ok (.aload_n 0, 1) := by decide +kernel
theorem own_d4_14 : decode prog_45_method_2_code 14 = .ok (.iload_n 2, 1) := by decide +kernel
theorem own_d4_15 : decode prog_45_method_2_code 15 = .ok (.putfield 13, 3) := by decide +kernel
theorem own_d4_18 : decode prog_45_method_2_code 18 = .ok (.aload_n 0, 1) := by decide +kernel
theorem own_d4_19 : decode prog_45_method_2_code 19 = .ok (.iload_n 3, 1) := by decide +kernel
theorem own_d4_20 : decode prog_45_method_2_code 20 = .ok (.putfield 17, 3) := by decide +kernel
theorem own_d4_23 : decode prog_45_method_2_code 23 = .ok (.return_, 1) := by decide +kernel
theorem own_d4_8 : decode prog_45_method_2_code 8 = .ok (.aload_n 0, 1) := by decide +kernel
theorem own_d4_9 : decode prog_45_method_2_code 9 = .ok (.aload_n 1, 1) := by decide +kernel
theorem own_d4_10 : decode prog_45_method_2_code 10 = .ok (.putfield 7, 3) := by decide +kernel
theorem own_ef_rmShow (m : MethodId) (a1 : Nat) (a2 : Nat) (p3 : Int32) (p4 : Int32) : entryFrame m #[(.ref a1), (.ref a2), (.int p3), (.int p4)] 4 = mkF m 0 #[rv a1, rv a2, iv p3, iv p4] [] := by first | (simp [entryFrame, mkF, argsToLocals, Value.category, maxLocals]; done) | rfl
abbrev own_Q_rmShow (Z : State) (a1 : Nat) (a2 : Nat) (p3 : Int32) (p4 : Int32) (w1 : Nat) (u_from : Value) (u_to : Value) (h0 : Heap) (n0 : Nat) (v : Option Value) (h : Heap) (L : List Loc) : Prop := v = none ∧ Fr n0 L ∧ Keep h0 h [a1] ∧ Exa Z h a1 "com/example/reach2/reach2/model/AsciiText" ∧ Fld Z h a1 "com/example/reach2/reach2/model/AsciiText" "bytes" "[B" (.ref a2) ∧ Fld Z h a1 "com/example/reach2/reach2/model/AsciiText" "from" "I" (.int p3) ∧ Fld Z h a1 "com/example/reach2/reach2/model/AsciiText" "to" "I" (.int p4)
set_option maxRecDepth 65536 in
set_option maxHeartbeats 40000000 in
theorem rmShow (l : Launch) (Z : State) (a0 : Array Value) (hw : ∀ d ∈ tables_1, d.before a0 Z = true) (ws : List Jvm.Cond) (a1 : Nat) (a2 : Nat) (p3 : Int32) (p4 : Int32) (w1 : Nat) (u_from : Value) (u_to : Value) (h0 : Heap) (n0 : Nat) (Z0 : n0 ≤ h0.size) (E1 : Exa Z h0 a1 "com/example/reach2/reach2/model/AsciiText") (F_bytes : Fld Z h0 a1 "com/example/reach2/reach2/model/AsciiText" "bytes" "[B" (.ref w1)) (F_from : Fld Z h0 a1 "com/example/reach2/reach2/model/AsciiText" "from" "I" u_from) (F_to : Fld Z h0 a1 "com/example/reach2/reach2/model/AsciiText" "to" "I" u_to) (g1 : n0 ≤ a1) :
    MetFree l (⟨"com/example/reach2/reach2/model/AsciiText", "show", "([BII)V"⟩ : MethodName) (head1 (Jvm.Cond.code (⟨"com/example/reach2/reach2/model/AsciiText", "show", "([BII)V"⟩ : MethodName) prog_45_method_2_code 4 none :: ws) ({ frames := 0, cells := 0, slots := 0, locals := 0 } : Room)) (fun a U => a = #[(.ref a1), (.ref a2), (.int p3), (.int p4)] ∧ Z.Warmed39 U.vm ∧ U.heap = h0) (fun _ _ _ _ _ => True) (fun _ U o U' => ∃ v L, o = .returned v ∧ own_Q_rmShow Z a1 a2 p3 p4 w1 u_from u_to h0 n0 v U'.heap L ∧ FrameEnd U o U' L ({ frames := 0, cells := 0, slots := 0, locals := 0 } : Room).cells ({ frames := 0, cells := 0, slots := 0, locals := 0 } : Room).slots) := by
  refine own_enter (Q := fun v h L => own_Q_rmShow Z a1 a2 p3 p4 w1 u_from u_to h0 n0 v h L) (F := fun m => mkF m 0 #[rv a1, rv a2, iv p3, iv p4] []) own_pn2 (fun m => own_ef_rmShow m a1 a2 p3 p4) ?_
  intro p e s m below meth c T X hx hby hml hret hlk hnm hown hZ e0
  show own_Goes p e below s _ _ (T.setTop (mkF m 0 #[rv a1, rv a2, iv p3, iv p4] []))
  have N0 := Fr.nil n0
  refine own_st (fun _ k => XS.aloadN X.here hx rfl (hb hby own_d4_0) rfl rfl  k) ?_
  show own_Goes p e below s _ _ (T.setTop (mkF m 1 #[rv a1, rv a2, iv p3, iv p4] [(.ref a2)]))
  refine own_st (fun _ k => XS.aloadN X.here hx rfl (hb hby own_d4_1) rfl rfl  k) ?_
  show own_Goes p e below s _ _ (T.setTop (mkF m 2 #[rv a1, rv a2, iv p3, iv p4] [(.ref a1), (.ref a2)]))
  obtain ⟨T101, X101, e101, st101⟩ := getF X hx hZ hown (host := "") (Or.inl (hw _ (List.mem_of_getElem? (i := 15) rfl))) Via.refl e0 F_bytes (g := (mkF m 2 #[rv a1, rv a2, iv p3, iv p4] [(.ref a1), (.ref a2)])) rfl rfl (hb hby own_d4_2)
  refine own_st st101 ?_
  show own_Goes p e below s _ _ (T101.setTop (mkF m 5 #[rv a1, rv a2, iv p3, iv p4] [(.ref w1), (.ref a2)]))
  by_cases c102 : a2 = w1
  · refine own_st (fun _ k => Jvm.RoadKit.acmp (g := (mkF m 5 #[rv a1, rv a2, iv p3, iv p4] [(.ref w1), (.ref a2)])) X101 hx rfl rfl rfl (pc0 := 5) (pc' := 13) (same := true) rfl (hb hby own_d4_5) rfl (decide_eq_true (congrArg Value.ref c102)) (by decide) (by decide) k) ?_
    show own_Goes p e below s _ _ (T101.setTop (mkF m 13 #[rv a1, rv a2, iv p3, iv p4] []))
    subst c102
    refine own_st (fun _ k => XS.aloadN X101.here hx rfl (hb hby own_d4_13) rfl rfl  k) ?_
    show own_Goes p e below s _ _ (T101.setTop (mkF m 14 #[rv a1, rv a2, iv p3, iv p4] [(.ref a1)]))
    refine own_st (fun _ k => XS.iloadN X101.here hx rfl (hb hby own_d4_14) rfl  k) ?_
    show own_Goes p e below s _ _ (T101.setTop (mkF m 15 #[rv a1, rv a2, iv p3, iv p4] [(.int p3), (.ref a1)]))
    obtain ⟨T103, h103, X103, e103, W103, st103⟩ := putF X101 hx hZ hown (host := "") (Or.inl (hw _ (List.mem_of_getElem? (i := 22) rfl))) Via.refl e101 F_from E1 (Or.inl (hw _ (List.mem_of_getElem? (i := 23) rfl))) (hw _ (List.mem_of_getElem? (i := 7) rfl)) (ty := .int) (by decide) rfl rfl (g := (mkF m 15 #[rv a1, rv a2, iv p3, iv p4] [(.int p3), (.ref a1)])) rfl rfl (hb hby own_d4_15)
    have z103 := W103.size
    have N103 := Fr.snoc X103 N0 (by omega)
    have F103 := F_from.same W103
    refine own_st st103 ?_
    show own_Goes p e below s _ _ (T103.setTop (mkF m 18 #[rv a1, rv a2, iv p3, iv p4] []))
    refine own_st (fun _ k => XS.aloadN X103.here hx rfl (hb hby own_d4_18) rfl rfl  k) ?_
    show own_Goes p e below s _ _ (T103.setTop (mkF m 19 #[rv a1, rv a2, iv p3, iv p4] [(.ref a1)]))
    refine own_st (fun _ k => XS.iloadN X103.here hx rfl (hb hby own_d4_19) rfl  k) ?_
    show own_Goes p e below s _ _ (T103.setTop (mkF m 20 #[rv a1, rv a2, iv p3, iv p4] [(.int p4), (.ref a1)]))
    have f104 := (F_to.other W103 (Or.inr (slot_ne (Or.inl (hw _ (List.mem_of_getElem? (i := 25) rfl))) (Or.inl (hw _ (List.mem_of_getElem? (i := 23) rfl))) (by decide) (t := .int) (t' := .int) (by decide) (by decide))))
    have f105 := (E1.wr W103)
    obtain ⟨T106, h106, X106, e106, W106, st106⟩ := putF X103 hx hZ hown (host := "") (Or.inl (hw _ (List.mem_of_getElem? (i := 24) rfl))) Via.refl e103 f104 f105 (Or.inl (hw _ (List.mem_of_getElem? (i := 25) rfl))) (hw _ (List.mem_of_getElem? (i := 7) rfl)) (ty := .int) (by decide) rfl rfl (g := (mkF m 20 #[rv a1, rv a2, iv p3, iv p4] [(.int p4), (.ref a1)])) rfl rfl (hb hby own_d4_20)
    have z106 := W106.size
    have N106 := Fr.snoc X106 N103 (by omega)
    have F106 := f104.same W106
    refine own_st st106 ?_
    show own_Goes p e below s _ _ (T106.setTop (mkF m 23 #[rv a1, rv a2, iv p3, iv p4] []))
    have f107 := (f105.wr W106)
    have f108 := ((F_bytes.other W103 (Or.inr (slot_ne (Or.inl (hw _ (List.mem_of_getElem? (i := 16) rfl))) (Or.inl (hw _ (List.mem_of_getElem? (i := 23) rfl))) (by decide) (t := (.array .byte)) (t' := .int) (by decide) (by decide)))).other W106 (Or.inr (slot_ne (Or.inl (hw _ (List.mem_of_getElem? (i := 16) rfl))) (Or.inl (hw _ (List.mem_of_getElem? (i := 25) rfl))) (by decide) (t := (.array .byte)) (t' := .int) (by decide) (by decide))))
    have f109 := (F103.other W106 (Or.inr (slot_ne (Or.inl (hw _ (List.mem_of_getElem? (i := 23) rfl))) (Or.inl (hw _ (List.mem_of_getElem? (i := 25) rfl))) (by decide) (t := .int) (t' := .int) (by decide) (by decide))))
    exact own_ret0 X106 hx hlk hret (hb hby own_d4_23) (by decide) (by decide) ⟨rfl, N106, by rw [e106]; exact (((Keep.refl h0 [a1]).wr W103 (Or.inl (by simp))).wr W106 (Or.inl (by simp))), by rw [e106]; exact f107, by rw [e106]; exact f108, by rw [e106]; exact f109, by rw [e106]; exact F106⟩
  · refine own_st (fun _ k => Jvm.RoadKit.acmp (g := (mkF m 5 #[rv a1, rv a2, iv p3, iv p4] [(.ref w1), (.ref a2)])) X101 hx rfl rfl rfl (pc0 := 5) (pc' := 8) (same := false) rfl (hb hby own_d4_5) rfl (decide_eq_false fun q => c102 (Value.ref.inj q)) (by decide) (by decide) k) ?_
    show own_Goes p e below s _ _ (T101.setTop (mkF m 8 #[rv a1, rv a2, iv p3, iv p4] []))
    refine own_st (fun _ k => XS.aloadN X101.here hx rfl (hb hby own_d4_8) rfl rfl  k) ?_
    show own_Goes p e below s _ _ (T101.setTop (mkF m 9 #[rv a1, rv a2, iv p3, iv p4] [(.ref a1)]))
    refine own_st (fun _ k => XS.aloadN X101.here hx rfl (hb hby own_d4_9) rfl rfl  k) ?_
    show own_Goes p e below s _ _ (T101.setTop (mkF m 10 #[rv a1, rv a2, iv p3, iv p4] [(.ref a2), (.ref a1)]))
    obtain ⟨T110, h110, X110, e110, W110, st110⟩ := putF X101 hx hZ hown (host := "") (Or.inl (hw _ (List.mem_of_getElem? (i := 15) rfl))) Via.refl e101 F_bytes E1 (Or.inl (hw _ (List.mem_of_getElem? (i := 16) rfl))) (hw _ (List.mem_of_getElem? (i := 7) rfl)) (ty := (.array .byte)) (by decide) rfl rfl (g := (mkF m 10 #[rv a1, rv a2, iv p3, iv p4] [(.ref a2), (.ref a1)])) rfl rfl (hb hby own_d4_10)
    have z110 := W110.size
    have N110 := Fr.snoc X110 N0 (by omega)
    have F110 := F_bytes.same W110
    refine own_st st110 ?_
    show own_Goes p e below s _ _ (T110.setTop (mkF m 13 #[rv a1, rv a2, iv p3, iv p4] []))
    refine own_st (fun _ k => XS.aloadN X110.here hx rfl (hb hby own_d4_13) rfl rfl  k) ?_
    show own_Goes p e below s _ _ (T110.setTop (mkF m 14 #[rv a1, rv a2, iv p3, iv p4] [(.ref a1)]))
    refine own_st (fun _ k => XS.iloadN X110.here hx rfl (hb hby own_d4_14) rfl  k) ?_
    show own_Goes p e below s _ _ (T110.setTop (mkF m 15 #[rv a1, rv a2, iv p3, iv p4] [(.int p3), (.ref a1)]))
    have f111 := (F_from.other W110 (Or.inr (slot_ne (Or.inl (hw _ (List.mem_of_getElem? (i := 23) rfl))) (Or.inl (hw _ (List.mem_of_getElem? (i := 16) rfl))) (by decide) (t := .int) (t' := (.array .byte)) (by decide) (by decide))))
    have f112 := (E1.wr W110)
    obtain ⟨T113, h113, X113, e113, W113, st113⟩ := putF X110 hx hZ hown (host := "") (Or.inl (hw _ (List.mem_of_getElem? (i := 22) rfl))) Via.refl e110 f111 f112 (Or.inl (hw _ (List.mem_of_getElem? (i := 23) rfl))) (hw _ (List.mem_of_getElem? (i := 7) rfl)) (ty := .int) (by decide) rfl rfl (g := (mkF m 15 #[rv a1, rv a2, iv p3, iv p4] [(.int p3), (.ref a1)])) rfl rfl (hb hby own_d4_15)
    have z113 := W113.size
    have N113 := Fr.snoc X113 N110 (by omega)
    have F113 := f111.same W113
    refine own_st st113 ?_
    show own_Goes p e below s _ _ (T113.setTop (mkF m 18 #[rv a1, rv a2, iv p3, iv p4] []))
    refine own_st (fun _ k => XS.aloadN X113.here hx rfl (hb hby own_d4_18) rfl rfl  k) ?_
    show own_Goes p e below s _ _ (T113.setTop (mkF m 19 #[rv a1, rv a2, iv p3, iv p4] [(.ref a1)]))
    refine own_st (fun _ k => XS.iloadN X113.here hx rfl (hb hby own_d4_19) rfl  k) ?_
    show own_Goes p e below s _ _ (T113.setTop (mkF m 20 #[rv a1, rv a2, iv p3, iv p4] [(.int p4), (.ref a1)]))
    have f114 := ((F_to.other W110 (Or.inr (slot_ne (Or.inl (hw _ (List.mem_of_getElem? (i := 25) rfl))) (Or.inl (hw _ (List.mem_of_getElem? (i := 16) rfl))) (by decide) (t := .int) (t' := (.array .byte)) (by decide) (by decide)))).other W113 (Or.inr (slot_ne (Or.inl (hw _ (List.mem_of_getElem? (i := 25) rfl))) (Or.inl (hw _ (List.mem_of_getElem? (i := 23) rfl))) (by decide) (t := .int) (t' := .int) (by decide) (by decide))))
    have f115 := (f112.wr W113)
    obtain ⟨T116, h116, X116, e116, W116, st116⟩ := putF X113 hx hZ hown (host := "") (Or.inl (hw _ (List.mem_of_getElem? (i := 24) rfl))) Via.refl e113 f114 f115 (Or.inl (hw _ (List.mem_of_getElem? (i := 25) rfl))) (hw _ (List.mem_of_getElem? (i := 7) rfl)) (ty := .int) (by decide) rfl rfl (g := (mkF m 20 #[rv a1, rv a2, iv p3, iv p4] [(.int p4), (.ref a1)])) rfl rfl (hb hby own_d4_20)
    have z116 := W116.size
    have N116 := Fr.snoc X116 N113 (by omega)
    have F116 := f114.same W116
    refine own_st st116 ?_
    show own_Goes p e below s _ _ (T116.setTop (mkF m 23 #[rv a1, rv a2, iv p3, iv p4] []))
    have f117 := (f115.wr W116)
    have f118 := ((F110.other W113 (Or.inr (slot_ne (Or.inl (hw _ (List.mem_of_getElem? (i := 16) rfl))) (Or.inl (hw _ (List.mem_of_getElem? (i := 23) rfl))) (by decide) (t := (.array .byte)) (t' := .int) (by decide) (by decide)))).other W116 (Or.inr (slot_ne (Or.inl (hw _ (List.mem_of_getElem? (i := 16) rfl))) (Or.inl (hw _ (List.mem_of_getElem? (i := 25) rfl))) (by decide) (t := (.array .byte)) (t' := .int) (by decide) (by decide))))
    have f119 := (F113.other W116 (Or.inr (slot_ne (Or.inl (hw _ (List.mem_of_getElem? (i := 23) rfl))) (Or.inl (hw _ (List.mem_of_getElem? (i := 25) rfl))) (by decide) (t := .int) (t' := .int) (by decide) (by decide))))
    exact own_ret0 X116 hx hlk hret (hb hby own_d4_23) (by decide) (by decide) ⟨rfl, N116, by rw [e116]; exact ((((Keep.refl h0 [a1]).wr W110 (Or.inl (by simp))).wr W113 (Or.inl (by simp))).wr W116 (Or.inl (by simp))), by rw [e116]; exact f117, by rw [e116]; exact f118, by rw [e116]; exact f119, by rw [e116]; exact F116⟩
theorem own_pn3 : plainFor (⟨"com/example/reach2/reach2/model/AsciiText", "bytes", "()[B"⟩ : MethodName) = true := by first | exact plainFor_of_name (by simp [plainName, overriddenIn]; done) | decide +kernel
theorem own_d5_0 : decode prog_45_method_3_code 0 = .ok (.aload_n 0, 1) := by decide +kernel
theorem own_d5_1 : decode prog_45_method_3_code 1 = .ok (.getfield 7, 3) := by decide +kernel
theorem own_d5_4 : decode prog_45_method_3_code 4 = .ok (.areturn, 1) := by decide +kernel
theorem own_ef_rmB (m : MethodId) (a1 : Nat) : entryFrame m #[(.ref a1)] 1 = mkF m 0 #[rv a1] [] := by first | (simp [entryFrame, mkF, argsToLocals, Value.category, maxLocals]; done) | rfl
abbrev own_Q_rmB (Z : State) (a1 : Nat) (x1 : Nat) (h0 : Heap) (n0 : Nat) (v : Option Value) (h : Heap) (L : List Loc) : Prop := v = some (.ref x1) ∧ Fr n0 L ∧ h = h0
set_option maxRecDepth 65536 in
set_option maxHeartbeats 40000000 in
theorem rmB (l : Launch) (Z : State) (a0 : Array Value) (hw : ∀ d ∈ tables_1, d.before a0 Z = true) (ws : List Jvm.Cond) (a1 : Nat) (x1 : Nat) (h0 : Heap) (n0 : Nat) (Z0 : n0 ≤ h0.size) (F1 : Fld Z h0 a1 "com/example/reach2/reach2/model/AsciiText" "bytes" "[B" (.ref x1)) :
    MetFree l (⟨"com/example/reach2/reach2/model/AsciiText", "bytes", "()[B"⟩ : MethodName) (head1 (Jvm.Cond.code (⟨"com/example/reach2/reach2/model/AsciiText", "bytes", "()[B"⟩ : MethodName) prog_45_method_3_code 1 (some (.array .byte)) :: ws) ({ frames := 0, cells := 0, slots := 0, locals := 0 } : Room)) (fun a U => a = #[(.ref a1)] ∧ Z.Warmed39 U.vm ∧ U.heap = h0) (fun _ _ _ _ _ => True) (fun _ U o U' => ∃ v L, o = .returned v ∧ own_Q_rmB Z a1 x1 h0 n0 v U'.heap L ∧ FrameEnd U o U' L ({ frames := 0, cells := 0, slots := 0, locals := 0 } : Room).cells ({ frames := 0, cells := 0, slots := 0, locals := 0 } : Room).slots) := by
  refine own_enter (Q := fun v h L => own_Q_rmB Z a1 x1 h0 n0 v h L) (F := fun m => mkF m 0 #[rv a1] []) own_pn3 (fun m => own_ef_rmB m a1) ?_
  intro p e s m below meth c T X hx hby hml hret hlk hnm hown hZ e0
  show own_Goes p e below s _ _ (T.setTop (mkF m 0 #[rv a1] []))
  have N0 := Fr.nil n0
  refine own_st (fun _ k => XS.aloadN X.here hx rfl (hb hby own_d5_0) rfl rfl  k) ?_
  show own_Goes p e below s _ _ (T.setTop (mkF m 1 #[rv a1] [(.ref a1)]))
  obtain ⟨T101, X101, e101, st101⟩ := getF X hx hZ hown (host := "") (Or.inl (hw _ (List.mem_of_getElem? (i := 15) rfl))) Via.refl e0 F1 (g := (mkF m 1 #[rv a1] [(.ref a1)])) rfl rfl (hb hby own_d5_1)
  refine own_st st101 ?_
  show own_Goes p e below s _ _ (T101.setTop (mkF m 4 #[rv a1] [(.ref x1)]))
  exact own_retR X101 hx hlk hret rfl rfl (hb hby own_d5_4) (by decide) (by decide) ⟨rfl, N0, e101⟩
theorem own_pn4 : plainFor (⟨"com/example/reach2/reach2/model/AsciiText", "from", "()I"⟩ : MethodName) = true := by first | exact plainFor_of_name (by simp [plainName, overriddenIn]; done) | decide +kernel
theorem own_d6_0 : decode prog_45_method_4_code 0 = .ok (.aload_n 0, 1) := by decide +kernel
theorem own_d6_1 : decode prog_45_method_4_code 1 = .ok (.getfield 13, 3) := by decide +kernel
theorem own_d6_4 : decode prog_45_method_4_code 4 = .ok (.ireturn, 1) := by decide +kernel
theorem own_ef_rmFrom (m : MethodId) (a1 : Nat) : entryFrame m #[(.ref a1)] 1 = mkF m 0 #[rv a1] [] := by first | (simp [entryFrame, mkF, argsToLocals, Value.category, maxLocals]; done) | rfl
abbrev own_Q_rmFrom (Z : State) (a1 : Nat) (x1 : Int32) (h0 : Heap) (n0 : Nat) (v : Option Value) (h : Heap) (L : List Loc) : Prop := v = some (.int x1) ∧ Fr n0 L ∧ h = h0
set_option maxRecDepth 65536 in
set_option maxHeartbeats 40000000 in
theorem rmFrom (l : Launch) (Z : State) (a0 : Array Value) (hw : ∀ d ∈ tables_1, d.before a0 Z = true) (ws : List Jvm.Cond) (a1 : Nat) (x1 : Int32) (h0 : Heap) (n0 : Nat) (Z0 : n0 ≤ h0.size) (F1 : Fld Z h0 a1 "com/example/reach2/reach2/model/AsciiText" "from" "I" (.int x1)) :
    MetFree l (⟨"com/example/reach2/reach2/model/AsciiText", "from", "()I"⟩ : MethodName) (head1 (Jvm.Cond.code (⟨"com/example/reach2/reach2/model/AsciiText", "from", "()I"⟩ : MethodName) prog_45_method_4_code 1 (some .int) :: ws) ({ frames := 0, cells := 0, slots := 0, locals := 0 } : Room)) (fun a U => a = #[(.ref a1)] ∧ Z.Warmed39 U.vm ∧ U.heap = h0) (fun _ _ _ _ _ => True) (fun _ U o U' => ∃ v L, o = .returned v ∧ own_Q_rmFrom Z a1 x1 h0 n0 v U'.heap L ∧ FrameEnd U o U' L ({ frames := 0, cells := 0, slots := 0, locals := 0 } : Room).cells ({ frames := 0, cells := 0, slots := 0, locals := 0 } : Room).slots) := by
  refine own_enter (Q := fun v h L => own_Q_rmFrom Z a1 x1 h0 n0 v h L) (F := fun m => mkF m 0 #[rv a1] []) own_pn4 (fun m => own_ef_rmFrom m a1) ?_
  intro p e s m below meth c T X hx hby hml hret hlk hnm hown hZ e0
  show own_Goes p e below s _ _ (T.setTop (mkF m 0 #[rv a1] []))
  have N0 := Fr.nil n0
  refine own_st (fun _ k => XS.aloadN X.here hx rfl (hb hby own_d6_0) rfl rfl  k) ?_
  show own_Goes p e below s _ _ (T.setTop (mkF m 1 #[rv a1] [(.ref a1)]))
  obtain ⟨T101, X101, e101, st101⟩ := getF X hx hZ hown (host := "") (Or.inl (hw _ (List.mem_of_getElem? (i := 22) rfl))) Via.refl e0 F1 (g := (mkF m 1 #[rv a1] [(.ref a1)])) rfl rfl (hb hby own_d6_1)
  refine own_st st101 ?_
  show own_Goes p e below s _ _ (T101.setTop (mkF m 4 #[rv a1] [(.int x1)]))
  exact own_retI X101 hx hlk hret (hb hby own_d6_4) (by decide) (by decide) ⟨rfl, N0, e101⟩
theorem own_pn5 : plainFor (⟨"com/example/reach2/reach2/model/AsciiText", "to", "()I"⟩ : MethodName) = true := by first | exact plainFor_of_name (by simp [plainName, overriddenIn]; done) | decide +kernel
theorem own_d7_0 : decode prog_45_method_5_code 0 = .ok (.aload_n 0, 1) := by decide +kernel
theorem own_d7_1 : decode prog_45_method_5_code 1 = .ok (.getfield 17, 3) := by decide +kernel
theorem own_d7_4 : decode prog_45_method_5_code 4 = .ok (.ireturn, 1) := by decide +kernel
theorem own_ef_rmTo (m : MethodId) (a1 : Nat) : entryFrame m #[(.ref a1)] 1 = mkF m 0 #[rv a1] [] := by first | (simp [entryFrame, mkF, argsToLocals, Value.category, maxLocals]; done) | rfl
abbrev own_Q_rmTo (Z : State) (a1 : Nat) (x1 : Int32) (h0 : Heap) (n0 : Nat) (v : Option Value) (h : Heap) (L : List Loc) : Prop := v = some (.int x1) ∧ Fr n0 L ∧ h = h0
set_option maxRecDepth 65536 in
set_option maxHeartbeats 40000000 in
theorem rmTo (l : Launch) (Z : State) (a0 : Array Value) (hw : ∀ d ∈ tables_1, d.before a0 Z = true) (ws : List Jvm.Cond) (a1 : Nat) (x1 : Int32) (h0 : Heap) (n0 : Nat) (Z0 : n0 ≤ h0.size) (F1 : Fld Z h0 a1 "com/example/reach2/reach2/model/AsciiText" "to" "I" (.int x1)) :
    MetFree l (⟨"com/example/reach2/reach2/model/AsciiText", "to", "()I"⟩ : MethodName) (head1 (Jvm.Cond.code (⟨"com/example/reach2/reach2/model/AsciiText", "to", "()I"⟩ : MethodName) prog_45_method_5_code 1 (some .int) :: ws) ({ frames := 0, cells := 0, slots := 0, locals := 0 } : Room)) (fun a U => a = #[(.ref a1)] ∧ Z.Warmed39 U.vm ∧ U.heap = h0) (fun _ _ _ _ _ => True) (fun _ U o U' => ∃ v L, o = .returned v ∧ own_Q_rmTo Z a1 x1 h0 n0 v U'.heap L ∧ FrameEnd U o U' L ({ frames := 0, cells := 0, slots := 0, locals := 0 } : Room).cells ({ frames := 0, cells := 0, slots := 0, locals := 0 } : Room).slots) := by
  refine own_enter (Q := fun v h L => own_Q_rmTo Z a1 x1 h0 n0 v h L) (F := fun m => mkF m 0 #[rv a1] []) own_pn5 (fun m => own_ef_rmTo m a1) ?_
  intro p e s m below meth c T X hx hby hml hret hlk hnm hown hZ e0
  show own_Goes p e below s _ _ (T.setTop (mkF m 0 #[rv a1] []))
  have N0 := Fr.nil n0
  refine own_st (fun _ k => XS.aloadN X.here hx rfl (hb hby own_d7_0) rfl rfl  k) ?_
  show own_Goes p e below s _ _ (T.setTop (mkF m 1 #[rv a1] [(.ref a1)]))
  obtain ⟨T101, X101, e101, st101⟩ := getF X hx hZ hown (host := "") (Or.inl (hw _ (List.mem_of_getElem? (i := 24) rfl))) Via.refl e0 F1 (g := (mkF m 1 #[rv a1] [(.ref a1)])) rfl rfl (hb hby own_d7_1)
  refine own_st st101 ?_
  show own_Goes p e below s _ _ (T101.setTop (mkF m 4 #[rv a1] [(.int x1)]))
  exact own_retI X101 hx hlk hret (hb hby own_d7_4) (by decide) (by decide) ⟨rfl, N0, e101⟩
theorem own_pn6 : plainFor (⟨"com/example/reach2/reach2/model/AsciiText", "length", "()I"⟩ : MethodName) = true := by first | exact plainFor_of_name (by simp [plainName, overriddenIn]; done) | decide +kernel
theorem own_d8_0 : decode prog_45_method_6_code 0 = .ok (.aload_n 0, 1) := by decide +kernel
theorem own_d8_1 : decode prog_45_method_6_code 1 = .ok (.getfield 17, 3) := by decide +kernel
theorem own_d8_4 : decode prog_45_method_6_code 4 = .ok (.aload_n 0, 1) := by decide +kernel
theorem own_d8_5 : decode prog_45_method_6_code 5 = .ok (.getfield 13, 3) := by decide +kernel
theorem own_d8_8 : decode prog_45_method_6_code 8 = .ok (.isub, 1) := by decide +kernel
theorem own_d8_9 : decode prog_45_method_6_code 9 = .ok (.ireturn, 1) := by decide +kernel
theorem own_ef_rmLen (m : MethodId) (a1 : Nat) : entryFrame m #[(.ref a1)] 1 = mkF m 0 #[rv a1] [] := by first | (simp [entryFrame, mkF, argsToLocals, Value.category, maxLocals]; done) | rfl
abbrev own_Q_rmLen (Z : State) (a1 : Nat) (x1 : Int32) (x2 : Int32) (h0 : Heap) (n0 : Nat) (v : Option Value) (h : Heap) (L : List Loc) : Prop := v = some (.int (x2 - x1)) ∧ Fr n0 L ∧ h = h0
set_option maxRecDepth 65536 in
set_option maxHeartbeats 40000000 in
theorem rmLen (l : Launch) (Z : State) (a0 : Array Value) (hw : ∀ d ∈ tables_1, d.before a0 Z = true) (ws : List Jvm.Cond) (a1 : Nat) (x1 : Int32) (x2 : Int32) (h0 : Heap) (n0 : Nat) (Z0 : n0 ≤ h0.size) (F1 : Fld Z h0 a1 "com/example/reach2/reach2/model/AsciiText" "from" "I" (.int x1)) (F2 : Fld Z h0 a1 "com/example/reach2/reach2/model/AsciiText" "to" "I" (.int x2)) :
    MetFree l (⟨"com/example/reach2/reach2/model/AsciiText", "length", "()I"⟩ : MethodName) (head1 (Jvm.Cond.code (⟨"com/example/reach2/reach2/model/AsciiText", "length", "()I"⟩ : MethodName) prog_45_method_6_code 1 (some .int) :: ws) ({ frames := 0, cells := 0, slots := 0, locals := 0 } : Room)) (fun a U => a = #[(.ref a1)] ∧ Z.Warmed39 U.vm ∧ U.heap = h0) (fun _ _ _ _ _ => True) (fun _ U o U' => ∃ v L, o = .returned v ∧ own_Q_rmLen Z a1 x1 x2 h0 n0 v U'.heap L ∧ FrameEnd U o U' L ({ frames := 0, cells := 0, slots := 0, locals := 0 } : Room).cells ({ frames := 0, cells := 0, slots := 0, locals := 0 } : Room).slots) := by
  refine own_enter (Q := fun v h L => own_Q_rmLen Z a1 x1 x2 h0 n0 v h L) (F := fun m => mkF m 0 #[rv a1] []) own_pn6 (fun m => own_ef_rmLen m a1) ?_
  intro p e s m below meth c T X hx hby hml hret hlk hnm hown hZ e0
  show own_Goes p e below s _ _ (T.setTop (mkF m 0 #[rv a1] []))
  have N0 := Fr.nil n0
  refine own_st (fun _ k => XS.aloadN X.here hx rfl (hb hby own_d8_0) rfl rfl  k) ?_
  show own_Goes p e below s _ _ (T.setTop (mkF m 1 #[rv a1] [(.ref a1)]))
  obtain ⟨T101, X101, e101, st101⟩ := getF X hx hZ hown (host := "") (Or.inl (hw _ (List.mem_of_getElem? (i := 24) rfl))) Via.refl e0 F2 (g := (mkF m 1 #[rv a1] [(.ref a1)])) rfl rfl (hb hby own_d8_1)
  refine own_st st101 ?_
  show own_Goes p e below s _ _ (T101.setTop (mkF m 4 #[rv a1] [(.int x2)]))
  refine own_st (fun _ k => XS.aloadN X101.here hx rfl (hb hby own_d8_4) rfl rfl  k) ?_
  show own_Goes p e below s _ _ (T101.setTop (mkF m 5 #[rv a1] [(.ref a1), (.int x2)]))
  obtain ⟨T102, X102, e102, st102⟩ := getF X101 hx hZ hown (host := "") (Or.inl (hw _ (List.mem_of_getElem? (i := 22) rfl))) Via.refl e101 F1 (g := (mkF m 5 #[rv a1] [(.ref a1), (.int x2)])) rfl rfl (hb hby own_d8_5)
  refine own_st st102 ?_
  show own_Goes p e below s _ _ (T102.setTop (mkF m 8 #[rv a1] [(.int x1), (.int x2)]))
  refine own_st (fun _ k => XS.isub X102.here hx rfl (hb hby own_d8_8) rfl k) ?_
  show own_Goes p e below s _ _ (T102.setTop (mkF m 9 #[rv a1] [(.int (x2 - x1))]))
  exact own_retI X102 hx hlk hret (hb hby own_d8_9) (by decide) (by decide) ⟨rfl, N0, e102⟩
theorem own_pn7 : plainFor (⟨"com/example/reach2/reach2/model/AsciiText", "charAt", "(I)C"⟩ : MethodName) = true := by first | exact plainFor_of_name (by simp [plainName, overriddenIn]; done) | decide +kernel
theorem own_d9_0 : decode prog_45_method_7_code 0 = .ok (.aload_n 0, 1) := by decide +kernel
theorem own_d9_1 : decode prog_45_method_7_code 1 = .ok (.getfield 7, 3) := by decide +kernel
theorem own_d9_4 : decode prog_45_method_7_code 4 = .ok (.aload_n 0, 1) := by decide +kernel
theorem own_d9_5 : decode prog_45_method_7_code 5 = .ok (.getfield 13, 3) := by decide +kernel
theorem own_d9_8 : decode prog_45_method_7_code 8 = .ok (.iload_n 1, 1) := by decide +kernel
theorem own_d9_9 : decode prog_45_method_7_code 9 = .ok (.iadd, 1) := by decide +kernel
theorem own_d9_10 : decode prog_45_method_7_code 10 = .ok (.baload, 1) := by decide +kernel
theorem own_d9_11 : decode prog_45_method_7_code 11 = .ok (.i2c, 1) := by decide +kernel
theorem own_d9_12 : decode prog_45_method_7_code 12 = .ok (.ireturn, 1) := by decide +kernel
theorem own_ef_rmChar (m : MethodId) (a1 : Nat) (p2 : Int32) : entryFrame m #[(.ref a1), (.int p2)] 2 = mkF m 0 #[rv a1, iv p2] [] := by first | (simp [entryFrame, mkF, argsToLocals, Value.category, maxLocals]; done) | rfl
abbrev own_Q_rmChar (Z : State) (a1 : Nat) (p2 : Int32) (b1 : Nat) (x1 : Int32) (f : Nat → Int32) (cc : Int64) (h0 : Heap) (n0 : Nat) (v : Option Value) (h : Heap) (L : List Loc) : Prop := ∃ r : Int32, v = some (.int r) ∧ r.toInt = own_B cc (x1 + p2).toNatClampNeg ∧ Fr n0 L ∧ h = h0
set_option maxRecDepth 65536 in
set_option maxHeartbeats 40000000 in
theorem rmChar (l : Launch) (Z : State) (a0 : Array Value) (hw : ∀ d ∈ tables_1, d.before a0 Z = true) (ws : List Jvm.Cond) (a1 : Nat) (p2 : Int32) (b1 : Nat) (x1 : Int32) (f : Nat → Int32) (cc : Int64) (h0 : Heap) (n0 : Nat) (Z0 : n0 ≤ h0.size) (F1 : Fld Z h0 a1 "com/example/reach2/reach2/model/AsciiText" "bytes" "[B" (.ref b1)) (F2 : Fld Z h0 a1 "com/example/reach2/reach2/model/AsciiText" "from" "I" (.int x1)) (V1 : own_Arf Z h0 b1 .byte 8 (fun k => .int (f k))) (hB : ∀ k, k < 8 → (f k).toInt = own_B cc k) (hi : 0 ≤ (x1 + p2).toInt ∧ (x1 + p2).toInt < (8 : Nat)) (hk : (x1 + p2).toNatClampNeg < 8) :
    MetFree l (⟨"com/example/reach2/reach2/model/AsciiText", "charAt", "(I)C"⟩ : MethodName) (head1 (Jvm.Cond.code (⟨"com/example/reach2/reach2/model/AsciiText", "charAt", "(I)C"⟩ : MethodName) prog_45_method_7_code 2 (some .char) :: ws) ({ frames := 0, cells := 0, slots := 0, locals := 0 } : Room)) (fun a U => a = #[(.ref a1), (.int p2)] ∧ Z.Warmed39 U.vm ∧ U.heap = h0) (fun _ _ _ _ _ => True) (fun _ U o U' => ∃ v L, o = .returned v ∧ own_Q_rmChar Z a1 p2 b1 x1 f cc h0 n0 v U'.heap L ∧ FrameEnd U o U' L ({ frames := 0, cells := 0, slots := 0, locals := 0 } : Room).cells ({ frames := 0, cells := 0, slots := 0, locals := 0 } : Room).slots) := by
  refine own_enter (Q := fun v h L => own_Q_rmChar Z a1 p2 b1 x1 f cc h0 n0 v h L) (F := fun m => mkF m 0 #[rv a1, iv p2] []) own_pn7 (fun m => own_ef_rmChar m a1 p2) ?_
  intro p e s m below meth c T X hx hby hml hret hlk hnm hown hZ e0
  show own_Goes p e below s _ _ (T.setTop (mkF m 0 #[rv a1, iv p2] []))
  have N0 := Fr.nil n0
  refine own_st (fun _ k => XS.aloadN X.here hx rfl (hb hby own_d9_0) rfl rfl  k) ?_
  show own_Goes p e below s _ _ (T.setTop (mkF m 1 #[rv a1, iv p2] [(.ref a1)]))
  obtain ⟨T101, X101, e101, st101⟩ := getF X hx hZ hown (host := "") (Or.inl (hw _ (List.mem_of_getElem? (i := 15) rfl))) Via.refl e0 F1 (g := (mkF m 1 #[rv a1, iv p2] [(.ref a1)])) rfl rfl (hb hby own_d9_1)
  refine own_st st101 ?_
  show own_Goes p e below s _ _ (T101.setTop (mkF m 4 #[rv a1, iv p2] [(.ref b1)]))
  refine own_st (fun _ k => XS.aloadN X101.here hx rfl (hb hby own_d9_4) rfl rfl  k) ?_
  show own_Goes p e below s _ _ (T101.setTop (mkF m 5 #[rv a1, iv p2] [(.ref a1), (.ref b1)]))
  obtain ⟨T102, X102, e102, st102⟩ := getF X101 hx hZ hown (host := "") (Or.inl (hw _ (List.mem_of_getElem? (i := 22) rfl))) Via.refl e101 F2 (g := (mkF m 5 #[rv a1, iv p2] [(.ref a1), (.ref b1)])) rfl rfl (hb hby own_d9_5)
  refine own_st st102 ?_
  show own_Goes p e below s _ _ (T102.setTop (mkF m 8 #[rv a1, iv p2] [(.int x1), (.ref b1)]))
  refine own_st (fun _ k => XS.iloadN X102.here hx rfl (hb hby own_d9_8) rfl  k) ?_
  show own_Goes p e below s _ _ (T102.setTop (mkF m 9 #[rv a1, iv p2] [(.int p2), (.int x1), (.ref b1)]))
  refine own_st (fun _ k => XS.iadd X102.here hx rfl (hb hby own_d9_9) rfl k) ?_
  show own_Goes p e below s _ _ (T102.setTop (mkF m 10 #[rv a1, iv p2] [(.int (x1 + p2)), (.ref b1)]))
  refine own_st (fun _ k => own_ldB X102 hx hZ e102 V1 (j := (x1 + p2)) hi (g := (mkF m 10 #[rv a1, iv p2] [(.int (x1 + p2)), (.ref b1)])) rfl rfl (hb hby own_d9_10) _ k) ?_
  show own_Goes p e below s _ _ (T102.setTop (mkF m 11 #[rv a1, iv p2] [(.int (f ((x1 + p2)).toNatClampNeg))]))
  refine own_st (fun _ k => XS.i2c X102.here hx rfl (hb hby own_d9_11) rfl k) ?_
  show own_Goes p e below s _ _ (T102.setTop (mkF m 12 #[rv a1, iv p2] [(.int ((f ((x1 + p2)).toNatClampNeg).toUInt32.toUInt16.toUInt32.toInt32))]))
  exact own_retN X102 hx hlk (nar .char ((f ((x1 + p2)).toNatClampNeg).toUInt32.toUInt16.toUInt32.toInt32)) hret (Or.inr (Or.inr (Or.inl rfl))) rfl (hb hby own_d9_12) (by decide) (by decide) ⟨_, rfl, own_chr (hB _ (by omega)) , N0, e102⟩
theorem own_pn8 : plainFor (⟨"com/example/reach2/reach2/model/AsciiTextShowPinLaw", "at", "(JI)C"⟩ : MethodName) = true := by first | exact plainFor_of_name (by simp [plainName, overriddenIn]; done) | decide +kernel
theorem own_d10_0 : decode method_3_code 0 = .ok (.lload_n 0, 1) := by decide +kernel
theorem own_d10_1 : decode method_3_code 1 = .ok (.bipush 8, 2) := by decide +kernel
theorem own_d10_3 : decode method_3_code 3 = .ok (.iload_n 2, 1) := by decide +kernel
theorem own_d10_4 : decode method_3_code 4 = .ok (.imul, 1) := by decide +kernel
theorem own_d10_5 : decode method_3_code 5 = .ok (.lushr, 1) := by decide +kernel
theorem own_d10_6 : decode method_3_code 6 = .ok (.ldc2_w 7, 3) := by decide +kernel
theorem own_d10_9 : decode method_3_code 9 = .ok (.land, 1) := by decide +kernel
theorem own_d10_10 : decode method_3_code 10 = .ok (.l2i, 1) := by decide +kernel
theorem own_d10_11 : decode method_3_code 11 = .ok (.i2c, 1) := by decide +kernel
theorem own_d10_12 : decode method_3_code 12 = .ok (.ireturn, 1) := by decide +kernel
theorem own_ef_rmAt (m : MethodId) (q1 : Int64) (p2 : Int32) : entryFrame m #[(.long q1), (.int p2)] 3 = mkF m 0 #[own_jv q1, .second, iv p2] [] := by first | (simp [entryFrame, mkF, argsToLocals, Value.category, maxLocals]; done) | rfl
abbrev own_Q_rmAt (Z : State) (q1 : Int64) (p2 : Int32) (h0 : Heap) (n0 : Nat) (v : Option Value) (h : Heap) (L : List Loc) : Prop := ∃ r : Int32, v = some (.int r) ∧ r.toInt = own_B q1 p2.toNatClampNeg ∧ Fr n0 L ∧ h = h0
set_option maxRecDepth 65536 in
set_option maxHeartbeats 40000000 in
theorem rmAt (l : Launch) (Z : State) (a0 : Array Value) (hw : ∀ d ∈ tables_1, d.before a0 Z = true) (ws : List Jvm.Cond) (q1 : Int64) (p2 : Int32) (h0 : Heap) (n0 : Nat) (Z0 : n0 ≤ h0.size) (hp : 0 ≤ p2.toInt ∧ p2.toInt < (8 : Nat)) :
    MetFree l (⟨"com/example/reach2/reach2/model/AsciiTextShowPinLaw", "at", "(JI)C"⟩ : MethodName) (head1 (Jvm.Cond.code (⟨"com/example/reach2/reach2/model/AsciiTextShowPinLaw", "at", "(JI)C"⟩ : MethodName) method_3_code 3 (some .char) :: ws) ({ frames := 0, cells := 0, slots := 0, locals := 0 } : Room)) (fun a U => a = #[(.long q1), (.int p2)] ∧ Z.Warmed39 U.vm ∧ U.heap = h0) (fun _ _ _ _ _ => True) (fun _ U o U' => ∃ v L, o = .returned v ∧ own_Q_rmAt Z q1 p2 h0 n0 v U'.heap L ∧ FrameEnd U o U' L ({ frames := 0, cells := 0, slots := 0, locals := 0 } : Room).cells ({ frames := 0, cells := 0, slots := 0, locals := 0 } : Room).slots) := by
  refine own_enter (Q := fun v h L => own_Q_rmAt Z q1 p2 h0 n0 v h L) (F := fun m => mkF m 0 #[own_jv q1, .second, iv p2] []) own_pn8 (fun m => own_ef_rmAt m q1 p2) ?_
  intro p e s m below meth c T X hx hby hml hret hlk hnm hown hZ e0
  show own_Goes p e below s _ _ (T.setTop (mkF m 0 #[own_jv q1, .second, iv p2] []))
  have N0 := Fr.nil n0
  refine own_st (fun _ k => XS.lloadN X.here hx rfl (hb hby own_d10_0) rfl  k) ?_
  show own_Goes p e below s _ _ (T.setTop (mkF m 1 #[own_jv q1, .second, iv p2] [(.long q1)]))
  refine own_st (fun _ k => XS.bipush X.here hx rfl (hb hby own_d10_1) k) ?_
  show own_Goes p e below s _ _ (T.setTop (mkF m 3 #[own_jv q1, .second, iv p2] [(.int (8 : Int32)), (.long q1)]))
  refine own_st (fun _ k => XS.iloadN X.here hx rfl (hb hby own_d10_3) rfl  k) ?_
  show own_Goes p e below s _ _ (T.setTop (mkF m 4 #[own_jv q1, .second, iv p2] [(.int p2), (.int (8 : Int32)), (.long q1)]))
  refine own_st (fun _ k => XS.imul X.here hx rfl (hb hby own_d10_4) rfl k) ?_
  show own_Goes p e below s _ _ (T.setTop (mkF m 5 #[own_jv q1, .second, iv p2] [(.int ((8 : Int32) * p2)), (.long q1)]))
  refine own_st (fun _ k => XS.lushr X.here hx rfl (hb hby own_d10_5) rfl k) ?_
  show own_Goes p e below s _ _ (T.setTop (mkF m 6 #[own_jv q1, .second, iv p2] [(.long ((q1.toUInt64 >>> (((8 : Int32) * p2) &&& 0x3f).toInt64.toUInt64).toInt64))]))
  refine own_st (fun _ k => X.ldc2Long hx hown (mvT hZ (hw _ (List.mem_of_getElem? (i := 5) rfl))) (g := (mkF m 6 #[own_jv q1, .second, iv p2] [(.long ((q1.toUInt64 >>> (((8 : Int32) * p2) &&& 0x3f).toInt64.toUInt64).toInt64))])) rfl (hb hby own_d10_6) _ k) ?_
  show own_Goes p e below s _ _ (T.setTop (mkF m 9 #[own_jv q1, .second, iv p2] [(.long (127 : Int64)), (.long ((q1.toUInt64 >>> (((8 : Int32) * p2) &&& 0x3f).toInt64.toUInt64).toInt64))]))
  refine own_st (fun _ k => XS.land X.here hx rfl (hb hby own_d10_9) rfl k) ?_
  show own_Goes p e below s _ _ (T.setTop (mkF m 10 #[own_jv q1, .second, iv p2] [(.long (((q1.toUInt64 >>> (((8 : Int32) * p2) &&& 0x3f).toInt64.toUInt64).toInt64) &&& (127 : Int64)))]))
  refine own_st (fun _ k => XS.l2i X.here hx rfl (hb hby own_d10_10) rfl k) ?_
  show own_Goes p e below s _ _ (T.setTop (mkF m 11 #[own_jv q1, .second, iv p2] [(.int ((((q1.toUInt64 >>> (((8 : Int32) * p2) &&& 0x3f).toInt64.toUInt64).toInt64) &&& (127 : Int64)).toInt32))]))
  refine own_st (fun _ k => XS.i2c X.here hx rfl (hb hby own_d10_11) rfl k) ?_
  show own_Goes p e below s _ _ (T.setTop (mkF m 12 #[own_jv q1, .second, iv p2] [(.int (((((q1.toUInt64 >>> (((8 : Int32) * p2) &&& 0x3f).toInt64.toUInt64).toInt64) &&& (127 : Int64)).toInt32).toUInt32.toUInt16.toUInt32.toInt32))]))
  exact own_retN X hx hlk (nar .char (((((q1.toUInt64 >>> (((8 : Int32) * p2) &&& 0x3f).toInt64.toUInt64).toInt64) &&& (127 : Int64)).toInt32).toUInt32.toUInt16.toUInt32.toInt32)) hret (Or.inr (Or.inr (Or.inl rfl))) rfl (hb hby own_d10_12) (by decide) (by decide) ⟨_, rfl, own_atB q1 p2 hp, N0, e0⟩
theorem own_pn9 : plainFor (⟨"com/example/reach2/reach2/model/AsciiTextShowPinLaw", "law", "(JJIII)Z"⟩ : MethodName) = true := by first | exact plainFor_of_name (by simp [plainName, overriddenIn]; done) | decide +kernel
theorem own_pd0 : parseMethodDescriptor "(J)[B" = some ⟨[.long], some (.array .byte)⟩ := by decide +kernel
theorem own_pd1 : parseMethodDescriptor "()V" = some ⟨[], none⟩ := by decide +kernel
theorem own_pd2 : parseMethodDescriptor "([BII)V" = some ⟨[(.array .byte), .int, .int], none⟩ := by decide +kernel
theorem own_pd3 : parseMethodDescriptor "()[B" = some ⟨[], some (.array .byte)⟩ := by decide +kernel
theorem own_pd4 : parseMethodDescriptor "()I" = some ⟨[], some .int⟩ := by decide +kernel
theorem own_pd5 : parseMethodDescriptor "(I)C" = some ⟨[.int], some .char⟩ := by decide +kernel
theorem own_pd6 : parseMethodDescriptor "(JI)C" = some ⟨[.long, .int], some .char⟩ := by decide +kernel
theorem own_ef_rm0 (m : MethodId) (q0 : Int64) (q1 : Int64) (p4 : Int32) (p5 : Int32) (p6 : Int32) : entryFrame m #[(.long q0), (.long q1), (.int p4), (.int p5), (.int p6)] maxLocals = mkF m 0 #[own_jv q0, .second, own_jv q1, .second, iv p4, iv p5, iv p6, .unset, .unset, .unset, .unset, .unset, .unset, .unset, .unset, .unset, .unset, .unset, .unset] [] := by first | (simp [entryFrame, mkF, argsToLocals, Value.category, maxLocals]; done) | rfl
abbrev own_Q_rm0 (Z : State) (q0 : Int64) (q1 : Int64) (p4 : Int32) (p5 : Int32) (p6 : Int32) (h0 : Heap) (n0 : Nat) (v : Option Value) (h : Heap) (L : List Loc) : Prop := v = some (.int 1) ∧ Fr n0 L
set_option maxRecDepth 65536 in
set_option maxHeartbeats 40000000 in
theorem rm0 (l : Launch) (Z : State) (a0 : Array Value) (hw : ∀ d ∈ tables_1, d.before a0 Z = true) (ws : List Jvm.Cond) (q0 : Int64) (q1 : Int64) (p4 : Int32) (p5 : Int32) (p6 : Int32) (h0 : Heap) (n0 : Nat) (Z0 : n0 ≤ h0.size) :
    MetFree l x (head1 (Jvm.Cond.code x code maxLocals ret :: ws) room_1) (fun a U => a = #[(.long q0), (.long q1), (.int p4), (.int p5), (.int p6)] ∧ Z.Warmed39 U.vm ∧ U.heap = h0) (fun _ _ _ _ _ => True) (fun _ U o U' => ∃ v L, o = .returned v ∧ own_Q_rm0 Z q0 q1 p4 p5 p6 h0 n0 v U'.heap L ∧ FrameEnd U o U' L room_1.cells room_1.slots) := by
  refine own_enter (Q := fun v h L => own_Q_rm0 Z q0 q1 p4 p5 p6 h0 n0 v h L) (F := fun m => mkF m 0 #[own_jv q0, .second, own_jv q1, .second, iv p4, iv p5, iv p6, .unset, .unset, .unset, .unset, .unset, .unset, .unset, .unset, .unset, .unset, .unset, .unset] []) own_pn9 (fun m => own_ef_rm0 m q0 q1 p4 p5 p6) ?_
  intro p e s m below meth c T X hx hby hml hret hlk hnm hown hZ e0
  show own_Goes p e below s _ _ (T.setTop (mkF m 0 #[own_jv q0, .second, own_jv q1, .second, iv p4, iv p5, iv p6, .unset, .unset, .unset, .unset, .unset, .unset, .unset, .unset, .unset, .unset, .unset, .unset] []))
  have N0 := Fr.nil n0
  refine own_st (fun _ k => XS.lloadN X.here hx rfl (hb hby at_0) rfl  k) ?_
  show own_Goes p e below s _ _ (T.setTop (mkF m 1 #[own_jv q0, .second, own_jv q1, .second, iv p4, iv p5, iv p6, .unset, .unset, .unset, .unset, .unset, .unset, .unset, .unset, .unset, .unset, .unset, .unset] [(.long q0)]))
  obtain ⟨v101, T101, L101, X101, Q101, st101⟩ := own_callS X hx hZ (y := (⟨"com/example/reach2/reach2/model/AsciiTextShowPinLaw", "fill", "(J)[B"⟩ : MethodName)) hown (hw _ (List.mem_of_getElem? (i := 0) rfl)) (hw _ (List.mem_of_getElem? (i := 1) rfl)) (hw _ (List.mem_of_getElem? (i := 2) rfl)) (hw _ (List.mem_of_getElem? (i := 3) rfl)) (by decide) (W := 0) (rest := []) (argsL := [(.long q0)]) (rmFill l Z a0 hw [] q0 h0 n0 (by omega)) (by decide) (by decide) (by decide) (by decide) e0 own_pd0 rfl (g := (mkF m 1 #[own_jv q0, .second, own_jv q1, .second, iv p4, iv p5, iv p6, .unset, .unset, .unset, .unset, .unset, .unset, .unset, .unset, .unset, .unset, .unset, .unset] [(.long q0)])) rfl (by rw [hml]; rfl) rfl (by show 2 * 0 + _ ≤ _; exact Nat.le_of_eq rfl) (hb hby at_1)
  obtain ⟨b101, f101, rfl, N101q, K101, g101, y101, A101, B101⟩ := Q101
  have z101 := K101.1
  have N101 := Fr.app N0 N101q
  refine own_st st101 ?_
  show own_Goes p e below s _ _ (T101.setTop (mkF m 4 #[own_jv q0, .second, own_jv q1, .second, iv p4, iv p5, iv p6, .unset, .unset, .unset, .unset, .unset, .unset, .unset, .unset, .unset, .unset, .unset, .unset] [(.ref b101)]))
  refine own_st (fun _ k => XS.astore X101.here hx rfl (hb hby at_4) rfl rfl (l' := #[own_jv q0, .second, own_jv q1, .second, iv p4, iv p5, iv p6, rv b101, .unset, .unset, .unset, .unset, .unset, .unset, .unset, .unset, .unset, .unset, .unset]) rfl k) ?_
  show own_Goes p e below s _ _ (T101.setTop (mkF m 6 #[own_jv q0, .second, own_jv q1, .second, iv p4, iv p5, iv p6, rv b101, .unset, .unset, .unset, .unset, .unset, .unset, .unset, .unset, .unset, .unset, .unset] []))
  refine own_st (fun _ k => XS.lloadN X101.here hx rfl (hb hby at_6) rfl  k) ?_
  show own_Goes p e below s _ _ (T101.setTop (mkF m 7 #[own_jv q0, .second, own_jv q1, .second, iv p4, iv p5, iv p6, rv b101, .unset, .unset, .unset, .unset, .unset, .unset, .unset, .unset, .unset, .unset, .unset] [(.long q1)]))
  obtain ⟨v102, T102, L102, X102, Q102, st102⟩ := own_callS X101 hx hZ (y := (⟨"com/example/reach2/reach2/model/AsciiTextShowPinLaw", "fill", "(J)[B"⟩ : MethodName)) hown (hw _ (List.mem_of_getElem? (i := 0) rfl)) (hw _ (List.mem_of_getElem? (i := 1) rfl)) (hw _ (List.mem_of_getElem? (i := 2) rfl)) (hw _ (List.mem_of_getElem? (i := 3) rfl)) (by decide) (W := 0) (rest := []) (argsL := [(.long q1)]) (rmFill l Z a0 hw [] q1 T101.heap n0 (by omega)) (by decide) (by decide) (by decide) (by decide) rfl own_pd0 rfl (g := (mkF m 7 #[own_jv q0, .second, own_jv q1, .second, iv p4, iv p5, iv p6, rv b101, .unset, .unset, .unset, .unset, .unset, .unset, .unset, .unset, .unset, .unset, .unset] [(.long q1)])) rfl (by rw [hml]; rfl) rfl (by show 2 * 0 + _ ≤ _; exact Nat.le_of_eq rfl) (hb hby at_7)
  obtain ⟨b102, f102, rfl, N102q, K102, g102, y102, A102, B102⟩ := Q102
  have z102 := K102.1
  have N102 := Fr.app N101 N102q
  refine own_st st102 ?_
  show own_Goes p e below s _ _ (T102.setTop (mkF m 10 #[own_jv q0, .second, own_jv q1, .second, iv p4, iv p5, iv p6, rv b101, .unset, .unset, .unset, .unset, .unset, .unset, .unset, .unset, .unset, .unset, .unset] [(.ref b102)]))
  refine own_st (fun _ k => XS.astore X102.here hx rfl (hb hby at_10) rfl rfl (l' := #[own_jv q0, .second, own_jv q1, .second, iv p4, iv p5, iv p6, rv b101, rv b102, .unset, .unset, .unset, .unset, .unset, .unset, .unset, .unset, .unset, .unset]) rfl k) ?_
  show own_Goes p e below s _ _ (T102.setTop (mkF m 12 #[own_jv q0, .second, own_jv q1, .second, iv p4, iv p5, iv p6, rv b101, rv b102, .unset, .unset, .unset, .unset, .unset, .unset, .unset, .unset, .unset, .unset] []))
  refine own_st (fun _ k => XS.iload X102.here hx rfl (hb hby at_12) rfl  k) ?_
  show own_Goes p e below s _ _ (T102.setTop (mkF m 14 #[own_jv q0, .second, own_jv q1, .second, iv p4, iv p5, iv p6, rv b101, rv b102, .unset, .unset, .unset, .unset, .unset, .unset, .unset, .unset, .unset, .unset] [(.int p4)]))
  refine own_st (fun _ k => XS.sipush X102.here hx rfl (hb hby at_14) k) ?_
  show own_Goes p e below s _ _ (T102.setTop (mkF m 17 #[own_jv q0, .second, own_jv q1, .second, iv p4, iv p5, iv p6, rv b101, rv b102, .unset, .unset, .unset, .unset, .unset, .unset, .unset, .unset, .unset, .unset] [(.int (255 : Int32)), (.int p4)]))
  refine own_st (fun _ k => XS.iand X102.here hx rfl (hb hby at_17) rfl k) ?_
  show own_Goes p e below s _ _ (T102.setTop (mkF m 18 #[own_jv q0, .second, own_jv q1, .second, iv p4, iv p5, iv p6, rv b101, rv b102, .unset, .unset, .unset, .unset, .unset, .unset, .unset, .unset, .unset, .unset] [(.int (p4 &&& (255 : Int32)))]))
  refine own_st (fun _ k => XS.bipush X102.here hx rfl (hb hby at_18) k) ?_
  show own_Goes p e below s _ _ (T102.setTop (mkF m 20 #[own_jv q0, .second, own_jv q1, .second, iv p4, iv p5, iv p6, rv b101, rv b102, .unset, .unset, .unset, .unset, .unset, .unset, .unset, .unset, .unset, .unset] [(.int (9 : Int32)), (.int (p4 &&& (255 : Int32)))]))
  refine own_st (fun _ k => iremM X102 hx rfl (hb hby at_20) rfl (by decide) k) ?_
  show own_Goes p e below s _ _ (T102.setTop (mkF m 21 #[own_jv q0, .second, own_jv q1, .second, iv p4, iv p5, iv p6, rv b101, rv b102, .unset, .unset, .unset, .unset, .unset, .unset, .unset, .unset, .unset, .unset] [(.int ((p4 &&& (255 : Int32)) % (9 : Int32)))]))
  have hf1 := own_rem9 p4
  generalize ((p4 &&& (255 : Int32)) % (9 : Int32)) = f1 at hf1 ⊢
  show own_Goes p e below s _ _ (T102.setTop (mkF m 21 #[own_jv q0, .second, own_jv q1, .second, iv p4, iv p5, iv p6, rv b101, rv b102, .unset, .unset, .unset, .unset, .unset, .unset, .unset, .unset, .unset, .unset] [(.int f1)]))
  refine own_st (fun _ k => XS.istore X102.here hx rfl (hb hby at_21) rfl (l' := #[own_jv q0, .second, own_jv q1, .second, iv p4, iv p5, iv p6, rv b101, rv b102, iv f1, .unset, .unset, .unset, .unset, .unset, .unset, .unset, .unset, .unset]) rfl k) ?_
  show own_Goes p e below s _ _ (T102.setTop (mkF m 23 #[own_jv q0, .second, own_jv q1, .second, iv p4, iv p5, iv p6, rv b101, rv b102, iv f1, .unset, .unset, .unset, .unset, .unset, .unset, .unset, .unset, .unset] []))
  refine own_st (fun _ k => XS.iload X102.here hx rfl (hb hby at_23) rfl  k) ?_
  show own_Goes p e below s _ _ (T102.setTop (mkF m 25 #[own_jv q0, .second, own_jv q1, .second, iv p4, iv p5, iv p6, rv b101, rv b102, iv f1, .unset, .unset, .unset, .unset, .unset, .unset, .unset, .unset, .unset] [(.int f1)]))
  refine own_st (fun _ k => XS.iload X102.here hx rfl (hb hby at_25) rfl  k) ?_
  show own_Goes p e below s _ _ (T102.setTop (mkF m 27 #[own_jv q0, .second, own_jv q1, .second, iv p4, iv p5, iv p6, rv b101, rv b102, iv f1, .unset, .unset, .unset, .unset, .unset, .unset, .unset, .unset, .unset] [(.int p4), (.int f1)]))
  refine own_st (fun _ k => XS.bipush X102.here hx rfl (hb hby at_27) k) ?_
  show own_Goes p e below s _ _ (T102.setTop (mkF m 29 #[own_jv q0, .second, own_jv q1, .second, iv p4, iv p5, iv p6, rv b101, rv b102, iv f1, .unset, .unset, .unset, .unset, .unset, .unset, .unset, .unset, .unset] [(.int (8 : Int32)), (.int p4), (.int f1)]))
  refine own_st (fun _ k => XS.iushr X102.here hx rfl (hb hby at_29) rfl k) ?_
  show own_Goes p e below s _ _ (T102.setTop (mkF m 30 #[own_jv q0, .second, own_jv q1, .second, iv p4, iv p5, iv p6, rv b101, rv b102, iv f1, .unset, .unset, .unset, .unset, .unset, .unset, .unset, .unset, .unset] [(.int ((p4.toUInt32 >>> ((8 : Int32) &&& 31).toUInt32).toInt32)), (.int f1)]))
  refine own_st (fun _ k => XS.sipush X102.here hx rfl (hb hby at_30) k) ?_
  show own_Goes p e below s _ _ (T102.setTop (mkF m 33 #[own_jv q0, .second, own_jv q1, .second, iv p4, iv p5, iv p6, rv b101, rv b102, iv f1, .unset, .unset, .unset, .unset, .unset, .unset, .unset, .unset, .unset] [(.int (255 : Int32)), (.int ((p4.toUInt32 >>> ((8 : Int32) &&& 31).toUInt32).toInt32)), (.int f1)]))
  refine own_st (fun _ k => XS.iand X102.here hx rfl (hb hby at_33) rfl k) ?_
  show own_Goes p e below s _ _ (T102.setTop (mkF m 34 #[own_jv q0, .second, own_jv q1, .second, iv p4, iv p5, iv p6, rv b101, rv b102, iv f1, .unset, .unset, .unset, .unset, .unset, .unset, .unset, .unset, .unset] [(.int (((p4.toUInt32 >>> ((8 : Int32) &&& 31).toUInt32).toInt32) &&& (255 : Int32))), (.int f1)]))
  refine own_st (fun _ k => XS.bipush X102.here hx rfl (hb hby at_34) k) ?_
  show own_Goes p e below s _ _ (T102.setTop (mkF m 36 #[own_jv q0, .second, own_jv q1, .second, iv p4, iv p5, iv p6, rv b101, rv b102, iv f1, .unset, .unset, .unset, .unset, .unset, .unset, .unset, .unset, .unset] [(.int (9 : Int32)), (.int (((p4.toUInt32 >>> ((8 : Int32) &&& 31).toUInt32).toInt32) &&& (255 : Int32))), (.int f1)]))
  refine own_st (fun _ k => XS.iload X102.here hx rfl (hb hby at_36) rfl  k) ?_
  show own_Goes p e below s _ _ (T102.setTop (mkF m 38 #[own_jv q0, .second, own_jv q1, .second, iv p4, iv p5, iv p6, rv b101, rv b102, iv f1, .unset, .unset, .unset, .unset, .unset, .unset, .unset, .unset, .unset] [(.int f1), (.int (9 : Int32)), (.int (((p4.toUInt32 >>> ((8 : Int32) &&& 31).toUInt32).toInt32) &&& (255 : Int32))), (.int f1)]))
  refine own_st (fun _ k => XS.isub X102.here hx rfl (hb hby at_38) rfl k) ?_
  show own_Goes p e below s _ _ (T102.setTop (mkF m 39 #[own_jv q0, .second, own_jv q1, .second, iv p4, iv p5, iv p6, rv b101, rv b102, iv f1, .unset, .unset, .unset, .unset, .unset, .unset, .unset, .unset, .unset] [(.int ((9 : Int32) - f1)), (.int (((p4.toUInt32 >>> ((8 : Int32) &&& 31).toUInt32).toInt32) &&& (255 : Int32))), (.int f1)]))
  refine own_st (fun _ k => iremM X102 hx rfl (hb hby at_39) rfl (own_nz9 hf1) k) ?_
  show own_Goes p e below s _ _ (T102.setTop (mkF m 40 #[own_jv q0, .second, own_jv q1, .second, iv p4, iv p5, iv p6, rv b101, rv b102, iv f1, .unset, .unset, .unset, .unset, .unset, .unset, .unset, .unset, .unset] [(.int ((((p4.toUInt32 >>> ((8 : Int32) &&& 31).toUInt32).toInt32) &&& (255 : Int32)) % ((9 : Int32) - f1))), (.int f1)]))
  refine own_st (fun _ k => XS.iadd X102.here hx rfl (hb hby at_40) rfl k) ?_
  show own_Goes p e below s _ _ (T102.setTop (mkF m 41 #[own_jv q0, .second, own_jv q1, .second, iv p4, iv p5, iv p6, rv b101, rv b102, iv f1, .unset, .unset, .unset, .unset, .unset, .unset, .unset, .unset, .unset] [(.int (f1 + ((((p4.toUInt32 >>> ((8 : Int32) &&& 31).toUInt32).toInt32) &&& (255 : Int32)) % ((9 : Int32) - f1))))]))
  have ht1 := own_t9 f1 p4 hf1
  generalize (f1 + ((((p4.toUInt32 >>> ((8 : Int32) &&& 31).toUInt32).toInt32) &&& (255 : Int32)) % ((9 : Int32) - f1))) = t1 at ht1 ⊢
  show own_Goes p e below s _ _ (T102.setTop (mkF m 41 #[own_jv q0, .second, own_jv q1, .second, iv p4, iv p5, iv p6, rv b101, rv b102, iv f1, .unset, .unset, .unset, .unset, .unset, .unset, .unset, .unset, .unset] [(.int t1)]))
  refine own_st (fun _ k => XS.istore X102.here hx rfl (hb hby at_41) rfl (l' := #[own_jv q0, .second, own_jv q1, .second, iv p4, iv p5, iv p6, rv b101, rv b102, iv f1, iv t1, .unset, .unset, .unset, .unset, .unset, .unset, .unset, .unset]) rfl k) ?_
  show own_Goes p e below s _ _ (T102.setTop (mkF m 43 #[own_jv q0, .second, own_jv q1, .second, iv p4, iv p5, iv p6, rv b101, rv b102, iv f1, iv t1, .unset, .unset, .unset, .unset, .unset, .unset, .unset, .unset] []))
  refine own_st (fun _ k => XS.iload X102.here hx rfl (hb hby at_43) rfl  k) ?_
  show own_Goes p e below s _ _ (T102.setTop (mkF m 45 #[own_jv q0, .second, own_jv q1, .second, iv p4, iv p5, iv p6, rv b101, rv b102, iv f1, iv t1, .unset, .unset, .unset, .unset, .unset, .unset, .unset, .unset] [(.int p5)]))
  refine own_st (fun _ k => XS.sipush X102.here hx rfl (hb hby at_45) k) ?_
  show own_Goes p e below s _ _ (T102.setTop (mkF m 48 #[own_jv q0, .second, own_jv q1, .second, iv p4, iv p5, iv p6, rv b101, rv b102, iv f1, iv t1, .unset, .unset, .unset, .unset, .unset, .unset, .unset, .unset] [(.int (255 : Int32)), (.int p5)]))
  refine own_st (fun _ k => XS.iand X102.here hx rfl (hb hby at_48) rfl k) ?_
  show own_Goes p e below s _ _ (T102.setTop (mkF m 49 #[own_jv q0, .second, own_jv q1, .second, iv p4, iv p5, iv p6, rv b101, rv b102, iv f1, iv t1, .unset, .unset, .unset, .unset, .unset, .unset, .unset, .unset] [(.int (p5 &&& (255 : Int32)))]))
  refine own_st (fun _ k => XS.bipush X102.here hx rfl (hb hby at_49) k) ?_
  show own_Goes p e below s _ _ (T102.setTop (mkF m 51 #[own_jv q0, .second, own_jv q1, .second, iv p4, iv p5, iv p6, rv b101, rv b102, iv f1, iv t1, .unset, .unset, .unset, .unset, .unset, .unset, .unset, .unset] [(.int (9 : Int32)), (.int (p5 &&& (255 : Int32)))]))
  refine own_st (fun _ k => iremM X102 hx rfl (hb hby at_51) rfl (by decide) k) ?_
  show own_Goes p e below s _ _ (T102.setTop (mkF m 52 #[own_jv q0, .second, own_jv q1, .second, iv p4, iv p5, iv p6, rv b101, rv b102, iv f1, iv t1, .unset, .unset, .unset, .unset, .unset, .unset, .unset, .unset] [(.int ((p5 &&& (255 : Int32)) % (9 : Int32)))]))
  have hf2 := own_rem9 p5
  generalize ((p5 &&& (255 : Int32)) % (9 : Int32)) = f2 at hf2 ⊢
  show own_Goes p e below s _ _ (T102.setTop (mkF m 52 #[own_jv q0, .second, own_jv q1, .second, iv p4, iv p5, iv p6, rv b101, rv b102, iv f1, iv t1, .unset, .unset, .unset, .unset, .unset, .unset, .unset, .unset] [(.int f2)]))
  refine own_st (fun _ k => XS.istore X102.here hx rfl (hb hby at_52) rfl (l' := #[own_jv q0, .second, own_jv q1, .second, iv p4, iv p5, iv p6, rv b101, rv b102, iv f1, iv t1, iv f2, .unset, .unset, .unset, .unset, .unset, .unset, .unset]) rfl k) ?_
  show own_Goes p e below s _ _ (T102.setTop (mkF m 54 #[own_jv q0, .second, own_jv q1, .second, iv p4, iv p5, iv p6, rv b101, rv b102, iv f1, iv t1, iv f2, .unset, .unset, .unset, .unset, .unset, .unset, .unset] []))
  refine own_st (fun _ k => XS.iload X102.here hx rfl (hb hby at_54) rfl  k) ?_
  show own_Goes p e below s _ _ (T102.setTop (mkF m 56 #[own_jv q0, .second, own_jv q1, .second, iv p4, iv p5, iv p6, rv b101, rv b102, iv f1, iv t1, iv f2, .unset, .unset, .unset, .unset, .unset, .unset, .unset] [(.int f2)]))
  refine own_st (fun _ k => XS.iload X102.here hx rfl (hb hby at_56) rfl  k) ?_
  show own_Goes p e below s _ _ (T102.setTop (mkF m 58 #[own_jv q0, .second, own_jv q1, .second, iv p4, iv p5, iv p6, rv b101, rv b102, iv f1, iv t1, iv f2, .unset, .unset, .unset, .unset, .unset, .unset, .unset] [(.int p5), (.int f2)]))
  refine own_st (fun _ k => XS.bipush X102.here hx rfl (hb hby at_58) k) ?_
  show own_Goes p e below s _ _ (T102.setTop (mkF m 60 #[own_jv q0, .second, own_jv q1, .second, iv p4, iv p5, iv p6, rv b101, rv b102, iv f1, iv t1, iv f2, .unset, .unset, .unset, .unset, .unset, .unset, .unset] [(.int (8 : Int32)), (.int p5), (.int f2)]))
  refine own_st (fun _ k => XS.iushr X102.here hx rfl (hb hby at_60) rfl k) ?_
  show own_Goes p e below s _ _ (T102.setTop (mkF m 61 #[own_jv q0, .second, own_jv q1, .second, iv p4, iv p5, iv p6, rv b101, rv b102, iv f1, iv t1, iv f2, .unset, .unset, .unset, .unset, .unset, .unset, .unset] [(.int ((p5.toUInt32 >>> ((8 : Int32) &&& 31).toUInt32).toInt32)), (.int f2)]))
  refine own_st (fun _ k => XS.sipush X102.here hx rfl (hb hby at_61) k) ?_
  show own_Goes p e below s _ _ (T102.setTop (mkF m 64 #[own_jv q0, .second, own_jv q1, .second, iv p4, iv p5, iv p6, rv b101, rv b102, iv f1, iv t1, iv f2, .unset, .unset, .unset, .unset, .unset, .unset, .unset] [(.int (255 : Int32)), (.int ((p5.toUInt32 >>> ((8 : Int32) &&& 31).toUInt32).toInt32)), (.int f2)]))
  refine own_st (fun _ k => XS.iand X102.here hx rfl (hb hby at_64) rfl k) ?_
  show own_Goes p e below s _ _ (T102.setTop (mkF m 65 #[own_jv q0, .second, own_jv q1, .second, iv p4, iv p5, iv p6, rv b101, rv b102, iv f1, iv t1, iv f2, .unset, .unset, .unset, .unset, .unset, .unset, .unset] [(.int (((p5.toUInt32 >>> ((8 : Int32) &&& 31).toUInt32).toInt32) &&& (255 : Int32))), (.int f2)]))
  refine own_st (fun _ k => XS.bipush X102.here hx rfl (hb hby at_65) k) ?_
  show own_Goes p e below s _ _ (T102.setTop (mkF m 67 #[own_jv q0, .second, own_jv q1, .second, iv p4, iv p5, iv p6, rv b101, rv b102, iv f1, iv t1, iv f2, .unset, .unset, .unset, .unset, .unset, .unset, .unset] [(.int (9 : Int32)), (.int (((p5.toUInt32 >>> ((8 : Int32) &&& 31).toUInt32).toInt32) &&& (255 : Int32))), (.int f2)]))
  refine own_st (fun _ k => XS.iload X102.here hx rfl (hb hby at_67) rfl  k) ?_
  show own_Goes p e below s _ _ (T102.setTop (mkF m 69 #[own_jv q0, .second, own_jv q1, .second, iv p4, iv p5, iv p6, rv b101, rv b102, iv f1, iv t1, iv f2, .unset, .unset, .unset, .unset, .unset, .unset, .unset] [(.int f2), (.int (9 : Int32)), (.int (((p5.toUInt32 >>> ((8 : Int32) &&& 31).toUInt32).toInt32) &&& (255 : Int32))), (.int f2)]))
  refine own_st (fun _ k => XS.isub X102.here hx rfl (hb hby at_69) rfl k) ?_
  show own_Goes p e below s _ _ (T102.setTop (mkF m 70 #[own_jv q0, .second, own_jv q1, .second, iv p4, iv p5, iv p6, rv b101, rv b102, iv f1, iv t1, iv f2, .unset, .unset, .unset, .unset, .unset, .unset, .unset] [(.int ((9 : Int32) - f2)), (.int (((p5.toUInt32 >>> ((8 : Int32) &&& 31).toUInt32).toInt32) &&& (255 : Int32))), (.int f2)]))
  refine own_st (fun _ k => iremM X102 hx rfl (hb hby at_70) rfl (own_nz9 hf2) k) ?_
  show own_Goes p e below s _ _ (T102.setTop (mkF m 71 #[own_jv q0, .second, own_jv q1, .second, iv p4, iv p5, iv p6, rv b101, rv b102, iv f1, iv t1, iv f2, .unset, .unset, .unset, .unset, .unset, .unset, .unset] [(.int ((((p5.toUInt32 >>> ((8 : Int32) &&& 31).toUInt32).toInt32) &&& (255 : Int32)) % ((9 : Int32) - f2))), (.int f2)]))
  refine own_st (fun _ k => XS.iadd X102.here hx rfl (hb hby at_71) rfl k) ?_
  show own_Goes p e below s _ _ (T102.setTop (mkF m 72 #[own_jv q0, .second, own_jv q1, .second, iv p4, iv p5, iv p6, rv b101, rv b102, iv f1, iv t1, iv f2, .unset, .unset, .unset, .unset, .unset, .unset, .unset] [(.int (f2 + ((((p5.toUInt32 >>> ((8 : Int32) &&& 31).toUInt32).toInt32) &&& (255 : Int32)) % ((9 : Int32) - f2))))]))
  have ht2 := own_t9 f2 p5 hf2
  generalize (f2 + ((((p5.toUInt32 >>> ((8 : Int32) &&& 31).toUInt32).toInt32) &&& (255 : Int32)) % ((9 : Int32) - f2))) = t2 at ht2 ⊢
  show own_Goes p e below s _ _ (T102.setTop (mkF m 72 #[own_jv q0, .second, own_jv q1, .second, iv p4, iv p5, iv p6, rv b101, rv b102, iv f1, iv t1, iv f2, .unset, .unset, .unset, .unset, .unset, .unset, .unset] [(.int t2)]))
  refine own_st (fun _ k => XS.istore X102.here hx rfl (hb hby at_72) rfl (l' := #[own_jv q0, .second, own_jv q1, .second, iv p4, iv p5, iv p6, rv b101, rv b102, iv f1, iv t1, iv f2, iv t2, .unset, .unset, .unset, .unset, .unset, .unset]) rfl k) ?_
  show own_Goes p e below s _ _ (T102.setTop (mkF m 74 #[own_jv q0, .second, own_jv q1, .second, iv p4, iv p5, iv p6, rv b101, rv b102, iv f1, iv t1, iv f2, iv t2, .unset, .unset, .unset, .unset, .unset, .unset] []))
  refine own_st (fun _ k => XS.iload X102.here hx rfl (hb hby at_74) rfl  k) ?_
  show own_Goes p e below s _ _ (T102.setTop (mkF m 76 #[own_jv q0, .second, own_jv q1, .second, iv p4, iv p5, iv p6, rv b101, rv b102, iv f1, iv t1, iv f2, iv t2, .unset, .unset, .unset, .unset, .unset, .unset] [(.int p6)]))
  refine own_st (fun _ k => XS.iconst X102.here hx rfl (hb hby at_76) k) ?_
  show own_Goes p e below s _ _ (T102.setTop (mkF m 77 #[own_jv q0, .second, own_jv q1, .second, iv p4, iv p5, iv p6, rv b101, rv b102, iv f1, iv t1, iv f2, iv t2, .unset, .unset, .unset, .unset, .unset, .unset] [(.int (1 : Int32)), (.int p6)]))
  refine own_st (fun _ k => XS.iand X102.here hx rfl (hb hby at_77) rfl k) ?_
  show own_Goes p e below s _ _ (T102.setTop (mkF m 78 #[own_jv q0, .second, own_jv q1, .second, iv p4, iv p5, iv p6, rv b101, rv b102, iv f1, iv t1, iv f2, iv t2, .unset, .unset, .unset, .unset, .unset, .unset] [(.int (p6 &&& (1 : Int32)))]))
  by_cases c103 : (p6 &&& (1 : Int32)) = (0 : Int32)
  · have c103i : (p6 &&& (1 : Int32)).toInt = 0 := own_i_eq c103
    refine own_st (fun _ k => XS.ifYes X102.here hx rfl (pc0 := 78) (pc' := 85) rfl (hb hby at_78) rfl ((if0 _ _).trans (teq c103).1) (by decide) (by decide) k) ?_
    show own_Goes p e below s _ _ (T102.setTop (mkF m 85 #[own_jv q0, .second, own_jv q1, .second, iv p4, iv p5, iv p6, rv b101, rv b102, iv f1, iv t1, iv f2, iv t2, .unset, .unset, .unset, .unset, .unset, .unset] []))
    refine own_st (fun _ k => XS.iconst X102.here hx rfl (hb hby at_85) k) ?_
    show own_Goes p e below s _ _ (T102.setTop (mkF m 86 #[own_jv q0, .second, own_jv q1, .second, iv p4, iv p5, iv p6, rv b101, rv b102, iv f1, iv t1, iv f2, iv t2, .unset, .unset, .unset, .unset, .unset, .unset] [(.int (0 : Int32))]))
    refine own_st (fun _ k => XS.istore X102.here hx rfl (hb hby at_86) rfl (l' := #[own_jv q0, .second, own_jv q1, .second, iv p4, iv p5, iv p6, rv b101, rv b102, iv f1, iv t1, iv f2, iv t2, iv (0 : Int32), .unset, .unset, .unset, .unset, .unset]) rfl k) ?_
    show own_Goes p e below s _ _ (T102.setTop (mkF m 88 #[own_jv q0, .second, own_jv q1, .second, iv p4, iv p5, iv p6, rv b101, rv b102, iv f1, iv t1, iv f2, iv t2, iv (0 : Int32), .unset, .unset, .unset, .unset, .unset] []))
    refine own_st (fun _ k => XS.iload X102.here hx rfl (hb hby at_88) rfl  k) ?_
    show own_Goes p e below s _ _ (T102.setTop (mkF m 90 #[own_jv q0, .second, own_jv q1, .second, iv p4, iv p5, iv p6, rv b101, rv b102, iv f1, iv t1, iv f2, iv t2, iv (0 : Int32), .unset, .unset, .unset, .unset, .unset] [(.int (0 : Int32))]))
    refine own_st (fun _ k => XS.ifYes X102.here hx rfl (pc0 := 90) (pc' := 98) rfl (hb hby at_90) rfl ((if0 _ _).trans (teq (by decide : (0 : Int32) = (0 : Int32))).1) (by decide) (by decide) k) ?_
    show own_Goes p e below s _ _ (T102.setTop (mkF m 98 #[own_jv q0, .second, own_jv q1, .second, iv p4, iv p5, iv p6, rv b101, rv b102, iv f1, iv t1, iv f2, iv t2, iv (0 : Int32), .unset, .unset, .unset, .unset, .unset] []))
    refine own_st (fun _ k => XS.aload X102.here hx rfl (hb hby at_98) rfl rfl  k) ?_
    show own_Goes p e below s _ _ (T102.setTop (mkF m 100 #[own_jv q0, .second, own_jv q1, .second, iv p4, iv p5, iv p6, rv b101, rv b102, iv f1, iv t1, iv f2, iv t2, iv (0 : Int32), .unset, .unset, .unset, .unset, .unset] [(.ref b102)]))
    refine own_st (fun _ k => XS.astore X102.here hx rfl (hb hby at_100) rfl rfl (l' := #[own_jv q0, .second, own_jv q1, .second, iv p4, iv p5, iv p6, rv b101, rv b102, iv f1, iv t1, iv f2, iv t2, iv (0 : Int32), rv b102, .unset, .unset, .unset, .unset]) rfl k) ?_
    show own_Goes p e below s _ _ (T102.setTop (mkF m 102 #[own_jv q0, .second, own_jv q1, .second, iv p4, iv p5, iv p6, rv b101, rv b102, iv f1, iv t1, iv f2, iv t2, iv (0 : Int32), rv b102, .unset, .unset, .unset, .unset] []))
    refine own_st (fun _ k => XS.iload X102.here hx rfl (hb hby at_102) rfl  k) ?_
    show own_Goes p e below s _ _ (T102.setTop (mkF m 104 #[own_jv q0, .second, own_jv q1, .second, iv p4, iv p5, iv p6, rv b101, rv b102, iv f1, iv t1, iv f2, iv t2, iv (0 : Int32), rv b102, .unset, .unset, .unset, .unset] [(.int (0 : Int32))]))
    refine own_st (fun _ k => XS.ifYes X102.here hx rfl (pc0 := 104) (pc' := 111) rfl (hb hby at_104) rfl ((if0 _ _).trans (teq (by decide : (0 : Int32) = (0 : Int32))).1) (by decide) (by decide) k) ?_
    show own_Goes p e below s _ _ (T102.setTop (mkF m 111 #[own_jv q0, .second, own_jv q1, .second, iv p4, iv p5, iv p6, rv b101, rv b102, iv f1, iv t1, iv f2, iv t2, iv (0 : Int32), rv b102, .unset, .unset, .unset, .unset] []))
    refine own_st (fun _ k => XS.lloadN X102.here hx rfl (hb hby at_111) rfl  k) ?_
    show own_Goes p e below s _ _ (T102.setTop (mkF m 112 #[own_jv q0, .second, own_jv q1, .second, iv p4, iv p5, iv p6, rv b101, rv b102, iv f1, iv t1, iv f2, iv t2, iv (0 : Int32), rv b102, .unset, .unset, .unset, .unset] [(.long q1)]))
    refine own_st (fun _ k => XS.lstore X102.here hx rfl (hb hby at_112) rfl (l' := #[own_jv q0, .second, own_jv q1, .second, iv p4, iv p5, iv p6, rv b101, rv b102, iv f1, iv t1, iv f2, iv t2, iv (0 : Int32), rv b102, own_jv q1, .second, .unset, .unset]) rfl k) ?_
    show own_Goes p e below s _ _ (T102.setTop (mkF m 114 #[own_jv q0, .second, own_jv q1, .second, iv p4, iv p5, iv p6, rv b101, rv b102, iv f1, iv t1, iv f2, iv t2, iv (0 : Int32), rv b102, own_jv q1, .second, .unset, .unset] []))
    obtain ⟨T104, h104, X104, e104, E104, A104, D104, -, st104⟩ := newO X102 hx hZ hown (hw _ (List.mem_of_getElem? (i := 6) rfl)) (hw _ (List.mem_of_getElem? (i := 7) rfl)) (hw _ (List.mem_of_getElem? (i := 8) rfl)) rfl (g := (mkF m 114 #[own_jv q0, .second, own_jv q1, .second, iv p4, iv p5, iv p6, rv b101, rv b102, iv f1, iv t1, iv f2, iv t2, iv (0 : Int32), rv b102, own_jv q1, .second, .unset, .unset] [])) rfl (hb hby at_114) (by decide) (by decide)
    obtain ⟨b104, g104⟩ : ∃ z, z = T102.heap.size := ⟨_, rfl⟩
    rw [← g104] at A104 D104 st104
    have y104 := A104.lt
    have z104 := E104.1
    have F104_bytes : Fld Z h104 b104 "com/example/reach2/reach2/model/AsciiText" "bytes" "[B" .null := D104 (Or.inl (hw _ (List.mem_of_getElem? (i := 16) rfl))) (ty := (.array .byte)) (by decide)
    have F104_from : Fld Z h104 b104 "com/example/reach2/reach2/model/AsciiText" "from" "I" (.int (0 : Int32)) := D104 (Or.inl (hw _ (List.mem_of_getElem? (i := 23) rfl))) (ty := .int) (by decide)
    have F104_to : Fld Z h104 b104 "com/example/reach2/reach2/model/AsciiText" "to" "I" (.int (0 : Int32)) := D104 (Or.inl (hw _ (List.mem_of_getElem? (i := 25) rfl))) (ty := .int) (by decide)
    refine own_st st104 ?_
    show own_Goes p e below s _ _ (T104.setTop (mkF m 117 #[own_jv q0, .second, own_jv q1, .second, iv p4, iv p5, iv p6, rv b101, rv b102, iv f1, iv t1, iv f2, iv t2, iv (0 : Int32), rv b102, own_jv q1, .second, .unset, .unset] [(.ref b104)]))
    refine own_st (fun _ k => XS.dup X104.here hx rfl (hb hby at_117) rfl rfl k) ?_
    show own_Goes p e below s _ _ (T104.setTop (mkF m 118 #[own_jv q0, .second, own_jv q1, .second, iv p4, iv p5, iv p6, rv b101, rv b102, iv f1, iv t1, iv f2, iv t2, iv (0 : Int32), rv b102, own_jv q1, .second, .unset, .unset] [(.ref b104), (.ref b104)]))
    obtain ⟨v105, T105, L105, X105, Q105, st105⟩ := own_callI X104 hx hZ (y := (⟨"com/example/reach2/reach2/model/AsciiText", "<init>", "()V"⟩ : MethodName)) hown (hw _ (List.mem_of_getElem? (i := 9) rfl)) (hw _ (List.mem_of_getElem? (i := 10) rfl)) (hw _ (List.mem_of_getElem? (i := 8) rfl)) (hw _ (List.mem_of_getElem? (i := 11) rfl)) rfl (by decide) (W := 1) (rest := [(.ref b104)]) (argsL := []) (a := b104) (rmI l Z a0 hw [] b104 _ _ _ h104 n0 (by omega) A104 F104_bytes F104_from F104_to (by omega) (by omega)) (by decide) (by decide) (by decide) (by decide) e104 own_pd1 rfl (g := (mkF m 118 #[own_jv q0, .second, own_jv q1, .second, iv p4, iv p5, iv p6, rv b101, rv b102, iv f1, iv t1, iv f2, iv t2, iv (0 : Int32), rv b102, own_jv q1, .second, .unset, .unset] [(.ref b104), (.ref b104)])) rfl (by rw [hml]; rfl) rfl (by show 2 * 0 + _ ≤ _; exact Nat.le_of_eq rfl) (hb hby at_118)
    obtain ⟨rfl, N105q, K105, A105, b105, Fa105, Fb105, Fc105⟩ := Q105
    have z105 := K105.1
    have y105 := A105.lt
    have N105 := Fr.app N102 N105q
    refine own_st st105 ?_
    show own_Goes p e below s _ _ (T105.setTop (mkF m 121 #[own_jv q0, .second, own_jv q1, .second, iv p4, iv p5, iv p6, rv b101, rv b102, iv f1, iv t1, iv f2, iv t2, iv (0 : Int32), rv b102, own_jv q1, .second, .unset, .unset] [(.ref b104)]))
    refine own_st (fun _ k => XS.astore X105.here hx rfl (hb hby at_121) rfl rfl (l' := #[own_jv q0, .second, own_jv q1, .second, iv p4, iv p5, iv p6, rv b101, rv b102, iv f1, iv t1, iv f2, iv t2, iv (0 : Int32), rv b102, own_jv q1, .second, rv b104, .unset]) rfl k) ?_
    show own_Goes p e below s _ _ (T105.setTop (mkF m 123 #[own_jv q0, .second, own_jv q1, .second, iv p4, iv p5, iv p6, rv b101, rv b102, iv f1, iv t1, iv f2, iv t2, iv (0 : Int32), rv b102, own_jv q1, .second, rv b104, .unset] []))
    refine own_st (fun _ k => XS.aload X105.here hx rfl (hb hby at_123) rfl rfl  k) ?_
    show own_Goes p e below s _ _ (T105.setTop (mkF m 125 #[own_jv q0, .second, own_jv q1, .second, iv p4, iv p5, iv p6, rv b101, rv b102, iv f1, iv t1, iv f2, iv t2, iv (0 : Int32), rv b102, own_jv q1, .second, rv b104, .unset] [(.ref b104)]))
    refine own_st (fun _ k => XS.aload X105.here hx rfl (hb hby at_125) rfl rfl  k) ?_
    show own_Goes p e below s _ _ (T105.setTop (mkF m 127 #[own_jv q0, .second, own_jv q1, .second, iv p4, iv p5, iv p6, rv b101, rv b102, iv f1, iv t1, iv f2, iv t2, iv (0 : Int32), rv b102, own_jv q1, .second, rv b104, .unset] [(.ref b101), (.ref b104)]))
    refine own_st (fun _ k => XS.iload X105.here hx rfl (hb hby at_127) rfl  k) ?_
    show own_Goes p e below s _ _ (T105.setTop (mkF m 129 #[own_jv q0, .second, own_jv q1, .second, iv p4, iv p5, iv p6, rv b101, rv b102, iv f1, iv t1, iv f2, iv t2, iv (0 : Int32), rv b102, own_jv q1, .second, rv b104, .unset] [(.int f1), (.ref b101), (.ref b104)]))
    refine own_st (fun _ k => XS.iload X105.here hx rfl (hb hby at_129) rfl  k) ?_
    show own_Goes p e below s _ _ (T105.setTop (mkF m 131 #[own_jv q0, .second, own_jv q1, .second, iv p4, iv p5, iv p6, rv b101, rv b102, iv f1, iv t1, iv f2, iv t2, iv (0 : Int32), rv b102, own_jv q1, .second, rv b104, .unset] [(.int t1), (.int f1), (.ref b101), (.ref b104)]))
    obtain ⟨v106, T106, L106, X106, Q106, st106⟩ := own_callV X105 hx hZ (C := "com/example/reach2/reach2/model/AsciiText") (y := (⟨"com/example/reach2/reach2/model/AsciiText", "show", "([BII)V"⟩ : MethodName)) hown (hw _ (List.mem_of_getElem? (i := 17) rfl)) (hw _ (List.mem_of_getElem? (i := 18) rfl)) (hw _ (List.mem_of_getElem? (i := 20) rfl)) (hw _ (List.mem_of_getElem? (i := 19) rfl)) (hw _ (List.mem_of_getElem? (i := 8) rfl)) (hw _ (List.mem_of_getElem? (i := 21) rfl)) (by decide) (W := 0) (rest := []) (argsL := [(.ref b101), (.int f1), (.int t1)]) (a := b104) (rmShow l Z a0 hw [] b104 b101 f1 t1 _ _ _ T105.heap n0 (by omega) A105 Fa105 Fb105 Fc105 (by omega)) (by decide) (by decide) (by decide) (by decide) rfl A105 own_pd2 rfl (g := (mkF m 131 #[own_jv q0, .second, own_jv q1, .second, iv p4, iv p5, iv p6, rv b101, rv b102, iv f1, iv t1, iv f2, iv t2, iv (0 : Int32), rv b102, own_jv q1, .second, rv b104, .unset] [(.int t1), (.int f1), (.ref b101), (.ref b104)])) rfl (by rw [hml]; rfl) rfl (by show 2 * 0 + _ ≤ _; exact Nat.le_of_eq rfl) (hb hby at_131)
    obtain ⟨rfl, N106q, K106, A106, Fa106, Fb106, Fc106⟩ := Q106
    have z106 := K106.1
    have y106 := A106.lt
    have N106 := Fr.app N105 N106q
    refine own_st st106 ?_
    show own_Goes p e below s _ _ (T106.setTop (mkF m 134 #[own_jv q0, .second, own_jv q1, .second, iv p4, iv p5, iv p6, rv b101, rv b102, iv f1, iv t1, iv f2, iv t2, iv (0 : Int32), rv b102, own_jv q1, .second, rv b104, .unset] []))
    refine own_st (fun _ k => XS.aload X106.here hx rfl (hb hby at_134) rfl rfl  k) ?_
    show own_Goes p e below s _ _ (T106.setTop (mkF m 136 #[own_jv q0, .second, own_jv q1, .second, iv p4, iv p5, iv p6, rv b101, rv b102, iv f1, iv t1, iv f2, iv t2, iv (0 : Int32), rv b102, own_jv q1, .second, rv b104, .unset] [(.ref b104)]))
    obtain ⟨v107, T107, L107, X107, Q107, st107⟩ := own_callV X106 hx hZ (C := "com/example/reach2/reach2/model/AsciiText") (y := (⟨"com/example/reach2/reach2/model/AsciiText", "bytes", "()[B"⟩ : MethodName)) hown (hw _ (List.mem_of_getElem? (i := 26) rfl)) (hw _ (List.mem_of_getElem? (i := 27) rfl)) (hw _ (List.mem_of_getElem? (i := 29) rfl)) (hw _ (List.mem_of_getElem? (i := 28) rfl)) (hw _ (List.mem_of_getElem? (i := 8) rfl)) (hw _ (List.mem_of_getElem? (i := 30) rfl)) (by decide) (W := 0) (rest := []) (argsL := []) (a := b104) (rmB l Z a0 hw [] b104 _ T106.heap n0 (by omega) Fa106) (by decide) (by decide) (by decide) (by decide) rfl A106 own_pd3 rfl (g := (mkF m 136 #[own_jv q0, .second, own_jv q1, .second, iv p4, iv p5, iv p6, rv b101, rv b102, iv f1, iv t1, iv f2, iv t2, iv (0 : Int32), rv b102, own_jv q1, .second, rv b104, .unset] [(.ref b104)])) rfl (by rw [hml]; rfl) rfl (by show 2 * 0 + _ ≤ _; exact Nat.le_of_eq rfl) (hb hby at_136)
    obtain ⟨rfl, N107q, e107⟩ := Q107
    have N107 := Fr.app N106 N107q
    refine own_st st107 ?_
    show own_Goes p e below s _ _ (T107.setTop (mkF m 139 #[own_jv q0, .second, own_jv q1, .second, iv p4, iv p5, iv p6, rv b101, rv b102, iv f1, iv t1, iv f2, iv t2, iv (0 : Int32), rv b102, own_jv q1, .second, rv b104, .unset] [(.ref b101)]))
    refine own_st (fun _ k => XS.aload X107.here hx rfl (hb hby at_139) rfl rfl  k) ?_
    show own_Goes p e below s _ _ (T107.setTop (mkF m 141 #[own_jv q0, .second, own_jv q1, .second, iv p4, iv p5, iv p6, rv b101, rv b102, iv f1, iv t1, iv f2, iv t2, iv (0 : Int32), rv b102, own_jv q1, .second, rv b104, .unset] [(.ref b101), (.ref b101)]))
    refine own_st (fun _ k => Jvm.RoadKit.acmp (g := (mkF m 141 #[own_jv q0, .second, own_jv q1, .second, iv p4, iv p5, iv p6, rv b101, rv b102, iv f1, iv t1, iv f2, iv t2, iv (0 : Int32), rv b102, own_jv q1, .second, rv b104, .unset] [(.ref b101), (.ref b101)])) X107 hx rfl rfl rfl (pc0 := 141) (pc' := 144) (same := true) rfl (hb hby at_141) rfl (decide_eq_true rfl) (by decide) (by decide) k) ?_
    show own_Goes p e below s _ _ (T107.setTop (mkF m 144 #[own_jv q0, .second, own_jv q1, .second, iv p4, iv p5, iv p6, rv b101, rv b102, iv f1, iv t1, iv f2, iv t2, iv (0 : Int32), rv b102, own_jv q1, .second, rv b104, .unset] []))
    refine own_st (fun _ k => XS.iconst X107.here hx rfl (hb hby at_144) k) ?_
    show own_Goes p e below s _ _ (T107.setTop (mkF m 145 #[own_jv q0, .second, own_jv q1, .second, iv p4, iv p5, iv p6, rv b101, rv b102, iv f1, iv t1, iv f2, iv t2, iv (0 : Int32), rv b102, own_jv q1, .second, rv b104, .unset] [(.int (1 : Int32))]))
    refine own_st (fun _ k => XS.goto X107.here hx rfl (pc0 := 145) (pc' := 149) rfl (hb hby at_145) (by decide) (by decide) k) ?_
    show own_Goes p e below s _ _ (T107.setTop (mkF m 149 #[own_jv q0, .second, own_jv q1, .second, iv p4, iv p5, iv p6, rv b101, rv b102, iv f1, iv t1, iv f2, iv t2, iv (0 : Int32), rv b102, own_jv q1, .second, rv b104, .unset] [(.int (1 : Int32))]))
    refine own_st (fun _ k => XS.istore X107.here hx rfl (hb hby at_149) rfl (l' := #[own_jv q0, .second, own_jv q1, .second, iv p4, iv p5, iv p6, rv b101, rv b102, iv f1, iv t1, iv f2, iv t2, iv (0 : Int32), rv b102, own_jv q1, .second, rv b104, iv (1 : Int32)]) rfl k) ?_
    show own_Goes p e below s _ _ (T107.setTop (mkF m 151 #[own_jv q0, .second, own_jv q1, .second, iv p4, iv p5, iv p6, rv b101, rv b102, iv f1, iv t1, iv f2, iv t2, iv (0 : Int32), rv b102, own_jv q1, .second, rv b104, iv (1 : Int32)] []))
    refine own_st (fun _ k => XS.aload X107.here hx rfl (hb hby at_151) rfl rfl  k) ?_
    show own_Goes p e below s _ _ (T107.setTop (mkF m 153 #[own_jv q0, .second, own_jv q1, .second, iv p4, iv p5, iv p6, rv b101, rv b102, iv f1, iv t1, iv f2, iv t2, iv (0 : Int32), rv b102, own_jv q1, .second, rv b104, iv (1 : Int32)] [(.ref b104)]))
    refine own_st (fun _ k => XS.aload X107.here hx rfl (hb hby at_153) rfl rfl  k) ?_
    show own_Goes p e below s _ _ (T107.setTop (mkF m 155 #[own_jv q0, .second, own_jv q1, .second, iv p4, iv p5, iv p6, rv b101, rv b102, iv f1, iv t1, iv f2, iv t2, iv (0 : Int32), rv b102, own_jv q1, .second, rv b104, iv (1 : Int32)] [(.ref b102), (.ref b104)]))
    refine own_st (fun _ k => XS.iload X107.here hx rfl (hb hby at_155) rfl  k) ?_
    show own_Goes p e below s _ _ (T107.setTop (mkF m 157 #[own_jv q0, .second, own_jv q1, .second, iv p4, iv p5, iv p6, rv b101, rv b102, iv f1, iv t1, iv f2, iv t2, iv (0 : Int32), rv b102, own_jv q1, .second, rv b104, iv (1 : Int32)] [(.int f2), (.ref b102), (.ref b104)]))
    refine own_st (fun _ k => XS.iload X107.here hx rfl (hb hby at_157) rfl  k) ?_
    show own_Goes p e below s _ _ (T107.setTop (mkF m 159 #[own_jv q0, .second, own_jv q1, .second, iv p4, iv p5, iv p6, rv b101, rv b102, iv f1, iv t1, iv f2, iv t2, iv (0 : Int32), rv b102, own_jv q1, .second, rv b104, iv (1 : Int32)] [(.int t2), (.int f2), (.ref b102), (.ref b104)]))
    obtain ⟨v108, T108, L108, X108, Q108, st108⟩ := own_callV X107 hx hZ (C := "com/example/reach2/reach2/model/AsciiText") (y := (⟨"com/example/reach2/reach2/model/AsciiText", "show", "([BII)V"⟩ : MethodName)) hown (hw _ (List.mem_of_getElem? (i := 17) rfl)) (hw _ (List.mem_of_getElem? (i := 18) rfl)) (hw _ (List.mem_of_getElem? (i := 20) rfl)) (hw _ (List.mem_of_getElem? (i := 19) rfl)) (hw _ (List.mem_of_getElem? (i := 8) rfl)) (hw _ (List.mem_of_getElem? (i := 21) rfl)) (by decide) (W := 0) (rest := []) (argsL := [(.ref b102), (.int f2), (.int t2)]) (a := b104) (rmShow l Z a0 hw [] b104 b102 f2 t2 _ _ _ T106.heap n0 (by omega) A106 Fa106 Fb106 Fc106 (by omega)) (by decide) (by decide) (by decide) (by decide) e107 A106 own_pd2 rfl (g := (mkF m 159 #[own_jv q0, .second, own_jv q1, .second, iv p4, iv p5, iv p6, rv b101, rv b102, iv f1, iv t1, iv f2, iv t2, iv (0 : Int32), rv b102, own_jv q1, .second, rv b104, iv (1 : Int32)] [(.int t2), (.int f2), (.ref b102), (.ref b104)])) rfl (by rw [hml]; rfl) rfl (by show 2 * 0 + _ ≤ _; exact Nat.le_of_eq rfl) (hb hby at_159)
    obtain ⟨rfl, N108q, K108, A108, Fa108, Fb108, Fc108⟩ := Q108
    have z108 := K108.1
    have y108 := A108.lt
    have N108 := Fr.app N107 N108q
    refine own_st st108 ?_
    show own_Goes p e below s _ _ (T108.setTop (mkF m 162 #[own_jv q0, .second, own_jv q1, .second, iv p4, iv p5, iv p6, rv b101, rv b102, iv f1, iv t1, iv f2, iv t2, iv (0 : Int32), rv b102, own_jv q1, .second, rv b104, iv (1 : Int32)] []))
    refine own_st (fun _ k => XS.iload X108.here hx rfl (hb hby at_162) rfl  k) ?_
    show own_Goes p e below s _ _ (T108.setTop (mkF m 164 #[own_jv q0, .second, own_jv q1, .second, iv p4, iv p5, iv p6, rv b101, rv b102, iv f1, iv t1, iv f2, iv t2, iv (0 : Int32), rv b102, own_jv q1, .second, rv b104, iv (1 : Int32)] [(.int (1 : Int32))]))
    refine own_st (fun _ k => XS.ifNo X108.here hx rfl (hb hby at_164) rfl ((if0 _ _).trans (feq (by decide : ¬ ((1 : Int32) = (0 : Int32)))).1) k) ?_
    show own_Goes p e below s _ _ (T108.setTop (mkF m 167 #[own_jv q0, .second, own_jv q1, .second, iv p4, iv p5, iv p6, rv b101, rv b102, iv f1, iv t1, iv f2, iv t2, iv (0 : Int32), rv b102, own_jv q1, .second, rv b104, iv (1 : Int32)] []))
    refine own_st (fun _ k => XS.aload X108.here hx rfl (hb hby at_167) rfl rfl  k) ?_
    show own_Goes p e below s _ _ (T108.setTop (mkF m 169 #[own_jv q0, .second, own_jv q1, .second, iv p4, iv p5, iv p6, rv b101, rv b102, iv f1, iv t1, iv f2, iv t2, iv (0 : Int32), rv b102, own_jv q1, .second, rv b104, iv (1 : Int32)] [(.ref b104)]))
    obtain ⟨v109, T109, L109, X109, Q109, st109⟩ := own_callV X108 hx hZ (C := "com/example/reach2/reach2/model/AsciiText") (y := (⟨"com/example/reach2/reach2/model/AsciiText", "bytes", "()[B"⟩ : MethodName)) hown (hw _ (List.mem_of_getElem? (i := 26) rfl)) (hw _ (List.mem_of_getElem? (i := 27) rfl)) (hw _ (List.mem_of_getElem? (i := 29) rfl)) (hw _ (List.mem_of_getElem? (i := 28) rfl)) (hw _ (List.mem_of_getElem? (i := 8) rfl)) (hw _ (List.mem_of_getElem? (i := 30) rfl)) (by decide) (W := 0) (rest := []) (argsL := []) (a := b104) (rmB l Z a0 hw [] b104 _ T108.heap n0 (by omega) Fa108) (by decide) (by decide) (by decide) (by decide) rfl A108 own_pd3 rfl (g := (mkF m 169 #[own_jv q0, .second, own_jv q1, .second, iv p4, iv p5, iv p6, rv b101, rv b102, iv f1, iv t1, iv f2, iv t2, iv (0 : Int32), rv b102, own_jv q1, .second, rv b104, iv (1 : Int32)] [(.ref b104)])) rfl (by rw [hml]; rfl) rfl (by show 2 * 0 + _ ≤ _; exact Nat.le_of_eq rfl) (hb hby at_169)
    obtain ⟨rfl, N109q, e109⟩ := Q109
    have N109 := Fr.app N108 N109q
    refine own_st st109 ?_
    show own_Goes p e below s _ _ (T109.setTop (mkF m 172 #[own_jv q0, .second, own_jv q1, .second, iv p4, iv p5, iv p6, rv b101, rv b102, iv f1, iv t1, iv f2, iv t2, iv (0 : Int32), rv b102, own_jv q1, .second, rv b104, iv (1 : Int32)] [(.ref b102)]))
    refine own_st (fun _ k => XS.aload X109.here hx rfl (hb hby at_172) rfl rfl  k) ?_
    show own_Goes p e below s _ _ (T109.setTop (mkF m 174 #[own_jv q0, .second, own_jv q1, .second, iv p4, iv p5, iv p6, rv b101, rv b102, iv f1, iv t1, iv f2, iv t2, iv (0 : Int32), rv b102, own_jv q1, .second, rv b104, iv (1 : Int32)] [(.ref b102), (.ref b102)]))
    refine own_st (fun _ k => Jvm.RoadKit.acmp (g := (mkF m 174 #[own_jv q0, .second, own_jv q1, .second, iv p4, iv p5, iv p6, rv b101, rv b102, iv f1, iv t1, iv f2, iv t2, iv (0 : Int32), rv b102, own_jv q1, .second, rv b104, iv (1 : Int32)] [(.ref b102), (.ref b102)])) X109 hx rfl rfl rfl (pc0 := 174) (pc' := 177) (same := true) rfl (hb hby at_174) rfl (decide_eq_true rfl) (by decide) (by decide) k) ?_
    show own_Goes p e below s _ _ (T109.setTop (mkF m 177 #[own_jv q0, .second, own_jv q1, .second, iv p4, iv p5, iv p6, rv b101, rv b102, iv f1, iv t1, iv f2, iv t2, iv (0 : Int32), rv b102, own_jv q1, .second, rv b104, iv (1 : Int32)] []))
    refine own_st (fun _ k => XS.aload X109.here hx rfl (hb hby at_177) rfl rfl  k) ?_
    show own_Goes p e below s _ _ (T109.setTop (mkF m 179 #[own_jv q0, .second, own_jv q1, .second, iv p4, iv p5, iv p6, rv b101, rv b102, iv f1, iv t1, iv f2, iv t2, iv (0 : Int32), rv b102, own_jv q1, .second, rv b104, iv (1 : Int32)] [(.ref b104)]))
    obtain ⟨v110, T110, L110, X110, Q110, st110⟩ := own_callV X109 hx hZ (C := "com/example/reach2/reach2/model/AsciiText") (y := (⟨"com/example/reach2/reach2/model/AsciiText", "from", "()I"⟩ : MethodName)) hown (hw _ (List.mem_of_getElem? (i := 31) rfl)) (hw _ (List.mem_of_getElem? (i := 32) rfl)) (hw _ (List.mem_of_getElem? (i := 34) rfl)) (hw _ (List.mem_of_getElem? (i := 33) rfl)) (hw _ (List.mem_of_getElem? (i := 8) rfl)) (hw _ (List.mem_of_getElem? (i := 35) rfl)) (by decide) (W := 0) (rest := []) (argsL := []) (a := b104) (rmFrom l Z a0 hw [] b104 _ T108.heap n0 (by omega) Fb108) (by decide) (by decide) (by decide) (by decide) e109 A108 own_pd4 rfl (g := (mkF m 179 #[own_jv q0, .second, own_jv q1, .second, iv p4, iv p5, iv p6, rv b101, rv b102, iv f1, iv t1, iv f2, iv t2, iv (0 : Int32), rv b102, own_jv q1, .second, rv b104, iv (1 : Int32)] [(.ref b104)])) rfl (by rw [hml]; rfl) rfl (by show 2 * 0 + _ ≤ _; exact Nat.le_of_eq rfl) (hb hby at_179)
    obtain ⟨rfl, N110q, e110⟩ := Q110
    have N110 := Fr.app N109 N110q
    refine own_st st110 ?_
    show own_Goes p e below s _ _ (T110.setTop (mkF m 182 #[own_jv q0, .second, own_jv q1, .second, iv p4, iv p5, iv p6, rv b101, rv b102, iv f1, iv t1, iv f2, iv t2, iv (0 : Int32), rv b102, own_jv q1, .second, rv b104, iv (1 : Int32)] [(.int f2)]))
    refine own_st (fun _ k => XS.iload X110.here hx rfl (hb hby at_182) rfl  k) ?_
    show own_Goes p e below s _ _ (T110.setTop (mkF m 184 #[own_jv q0, .second, own_jv q1, .second, iv p4, iv p5, iv p6, rv b101, rv b102, iv f1, iv t1, iv f2, iv t2, iv (0 : Int32), rv b102, own_jv q1, .second, rv b104, iv (1 : Int32)] [(.int f2), (.int f2)]))
    refine own_st (fun _ k => XS.icmpNo X110.here hx rfl (hb hby at_184) rfl (teq (rfl : f2 = f2)).2 k) ?_
    show own_Goes p e below s _ _ (T110.setTop (mkF m 187 #[own_jv q0, .second, own_jv q1, .second, iv p4, iv p5, iv p6, rv b101, rv b102, iv f1, iv t1, iv f2, iv t2, iv (0 : Int32), rv b102, own_jv q1, .second, rv b104, iv (1 : Int32)] []))
    refine own_st (fun _ k => XS.aload X110.here hx rfl (hb hby at_187) rfl rfl  k) ?_
    show own_Goes p e below s _ _ (T110.setTop (mkF m 189 #[own_jv q0, .second, own_jv q1, .second, iv p4, iv p5, iv p6, rv b101, rv b102, iv f1, iv t1, iv f2, iv t2, iv (0 : Int32), rv b102, own_jv q1, .second, rv b104, iv (1 : Int32)] [(.ref b104)]))
    obtain ⟨v111, T111, L111, X111, Q111, st111⟩ := own_callV X110 hx hZ (C := "com/example/reach2/reach2/model/AsciiText") (y := (⟨"com/example/reach2/reach2/model/AsciiText", "to", "()I"⟩ : MethodName)) hown (hw _ (List.mem_of_getElem? (i := 36) rfl)) (hw _ (List.mem_of_getElem? (i := 37) rfl)) (hw _ (List.mem_of_getElem? (i := 39) rfl)) (hw _ (List.mem_of_getElem? (i := 38) rfl)) (hw _ (List.mem_of_getElem? (i := 8) rfl)) (hw _ (List.mem_of_getElem? (i := 40) rfl)) (by decide) (W := 0) (rest := []) (argsL := []) (a := b104) (rmTo l Z a0 hw [] b104 _ T108.heap n0 (by omega) Fc108) (by decide) (by decide) (by decide) (by decide) e110 A108 own_pd4 rfl (g := (mkF m 189 #[own_jv q0, .second, own_jv q1, .second, iv p4, iv p5, iv p6, rv b101, rv b102, iv f1, iv t1, iv f2, iv t2, iv (0 : Int32), rv b102, own_jv q1, .second, rv b104, iv (1 : Int32)] [(.ref b104)])) rfl (by rw [hml]; rfl) rfl (by show 2 * 0 + _ ≤ _; exact Nat.le_of_eq rfl) (hb hby at_189)
    obtain ⟨rfl, N111q, e111⟩ := Q111
    have N111 := Fr.app N110 N111q
    refine own_st st111 ?_
    show own_Goes p e below s _ _ (T111.setTop (mkF m 192 #[own_jv q0, .second, own_jv q1, .second, iv p4, iv p5, iv p6, rv b101, rv b102, iv f1, iv t1, iv f2, iv t2, iv (0 : Int32), rv b102, own_jv q1, .second, rv b104, iv (1 : Int32)] [(.int t2)]))
    refine own_st (fun _ k => XS.iload X111.here hx rfl (hb hby at_192) rfl  k) ?_
    show own_Goes p e below s _ _ (T111.setTop (mkF m 194 #[own_jv q0, .second, own_jv q1, .second, iv p4, iv p5, iv p6, rv b101, rv b102, iv f1, iv t1, iv f2, iv t2, iv (0 : Int32), rv b102, own_jv q1, .second, rv b104, iv (1 : Int32)] [(.int t2), (.int t2)]))
    refine own_st (fun _ k => XS.icmpNo X111.here hx rfl (hb hby at_194) rfl (teq (rfl : t2 = t2)).2 k) ?_
    show own_Goes p e below s _ _ (T111.setTop (mkF m 197 #[own_jv q0, .second, own_jv q1, .second, iv p4, iv p5, iv p6, rv b101, rv b102, iv f1, iv t1, iv f2, iv t2, iv (0 : Int32), rv b102, own_jv q1, .second, rv b104, iv (1 : Int32)] []))
    refine own_st (fun _ k => XS.aload X111.here hx rfl (hb hby at_197) rfl rfl  k) ?_
    show own_Goes p e below s _ _ (T111.setTop (mkF m 199 #[own_jv q0, .second, own_jv q1, .second, iv p4, iv p5, iv p6, rv b101, rv b102, iv f1, iv t1, iv f2, iv t2, iv (0 : Int32), rv b102, own_jv q1, .second, rv b104, iv (1 : Int32)] [(.ref b104)]))
    obtain ⟨v112, T112, L112, X112, Q112, st112⟩ := own_callV X111 hx hZ (C := "com/example/reach2/reach2/model/AsciiText") (y := (⟨"com/example/reach2/reach2/model/AsciiText", "length", "()I"⟩ : MethodName)) hown (hw _ (List.mem_of_getElem? (i := 41) rfl)) (hw _ (List.mem_of_getElem? (i := 42) rfl)) (hw _ (List.mem_of_getElem? (i := 44) rfl)) (hw _ (List.mem_of_getElem? (i := 43) rfl)) (hw _ (List.mem_of_getElem? (i := 8) rfl)) (hw _ (List.mem_of_getElem? (i := 45) rfl)) (by decide) (W := 0) (rest := []) (argsL := []) (a := b104) (rmLen l Z a0 hw [] b104 _ _ T108.heap n0 (by omega) Fb108 Fc108) (by decide) (by decide) (by decide) (by decide) e111 A108 own_pd4 rfl (g := (mkF m 199 #[own_jv q0, .second, own_jv q1, .second, iv p4, iv p5, iv p6, rv b101, rv b102, iv f1, iv t1, iv f2, iv t2, iv (0 : Int32), rv b102, own_jv q1, .second, rv b104, iv (1 : Int32)] [(.ref b104)])) rfl (by rw [hml]; rfl) rfl (by show 2 * 0 + _ ≤ _; exact Nat.le_of_eq rfl) (hb hby at_199)
    obtain ⟨rfl, N112q, e112⟩ := Q112
    have N112 := Fr.app N111 N112q
    refine own_st st112 ?_
    show own_Goes p e below s _ _ (T112.setTop (mkF m 202 #[own_jv q0, .second, own_jv q1, .second, iv p4, iv p5, iv p6, rv b101, rv b102, iv f1, iv t1, iv f2, iv t2, iv (0 : Int32), rv b102, own_jv q1, .second, rv b104, iv (1 : Int32)] [(.int (t2 - f2))]))
    refine own_st (fun _ k => XS.iload X112.here hx rfl (hb hby at_202) rfl  k) ?_
    show own_Goes p e below s _ _ (T112.setTop (mkF m 204 #[own_jv q0, .second, own_jv q1, .second, iv p4, iv p5, iv p6, rv b101, rv b102, iv f1, iv t1, iv f2, iv t2, iv (0 : Int32), rv b102, own_jv q1, .second, rv b104, iv (1 : Int32)] [(.int t2), (.int (t2 - f2))]))
    refine own_st (fun _ k => XS.iload X112.here hx rfl (hb hby at_204) rfl  k) ?_
    show own_Goes p e below s _ _ (T112.setTop (mkF m 206 #[own_jv q0, .second, own_jv q1, .second, iv p4, iv p5, iv p6, rv b101, rv b102, iv f1, iv t1, iv f2, iv t2, iv (0 : Int32), rv b102, own_jv q1, .second, rv b104, iv (1 : Int32)] [(.int f2), (.int t2), (.int (t2 - f2))]))
    refine own_st (fun _ k => XS.isub X112.here hx rfl (hb hby at_206) rfl k) ?_
    show own_Goes p e below s _ _ (T112.setTop (mkF m 207 #[own_jv q0, .second, own_jv q1, .second, iv p4, iv p5, iv p6, rv b101, rv b102, iv f1, iv t1, iv f2, iv t2, iv (0 : Int32), rv b102, own_jv q1, .second, rv b104, iv (1 : Int32)] [(.int (t2 - f2)), (.int (t2 - f2))]))
    refine own_st (fun _ k => XS.icmpNo X112.here hx rfl (hb hby at_207) rfl (teq (rfl : (t2 - f2) = (t2 - f2))).2 k) ?_
    show own_Goes p e below s _ _ (T112.setTop (mkF m 210 #[own_jv q0, .second, own_jv q1, .second, iv p4, iv p5, iv p6, rv b101, rv b102, iv f1, iv t1, iv f2, iv t2, iv (0 : Int32), rv b102, own_jv q1, .second, rv b104, iv (1 : Int32)] []))
    refine own_st (fun _ k => XS.iconst X112.here hx rfl (hb hby at_210) k) ?_
    show own_Goes p e below s _ _ (T112.setTop (mkF m 211 #[own_jv q0, .second, own_jv q1, .second, iv p4, iv p5, iv p6, rv b101, rv b102, iv f1, iv t1, iv f2, iv t2, iv (0 : Int32), rv b102, own_jv q1, .second, rv b104, iv (1 : Int32)] [(.int (1 : Int32))]))
    refine own_st (fun _ k => XS.goto X112.here hx rfl (pc0 := 211) (pc' := 215) rfl (hb hby at_211) (by decide) (by decide) k) ?_
    show own_Goes p e below s _ _ (T112.setTop (mkF m 215 #[own_jv q0, .second, own_jv q1, .second, iv p4, iv p5, iv p6, rv b101, rv b102, iv f1, iv t1, iv f2, iv t2, iv (0 : Int32), rv b102, own_jv q1, .second, rv b104, iv (1 : Int32)] [(.int (1 : Int32))]))
    refine own_st (fun _ k => XS.istore X112.here hx rfl (hb hby at_215) rfl (l' := #[own_jv q0, .second, own_jv q1, .second, iv p4, iv p5, iv p6, rv b101, rv b102, iv f1, iv t1, iv f2, iv t2, iv (0 : Int32), rv b102, own_jv q1, .second, rv b104, iv (1 : Int32)]) rfl k) ?_
    show own_Goes p e below s _ _ (T112.setTop (mkF m 217 #[own_jv q0, .second, own_jv q1, .second, iv p4, iv p5, iv p6, rv b101, rv b102, iv f1, iv t1, iv f2, iv t2, iv (0 : Int32), rv b102, own_jv q1, .second, rv b104, iv (1 : Int32)] []))
    refine own_st (fun _ k => XS.iload X112.here hx rfl (hb hby at_217) rfl  k) ?_
    show own_Goes p e below s _ _ (T112.setTop (mkF m 219 #[own_jv q0, .second, own_jv q1, .second, iv p4, iv p5, iv p6, rv b101, rv b102, iv f1, iv t1, iv f2, iv t2, iv (0 : Int32), rv b102, own_jv q1, .second, rv b104, iv (1 : Int32)] [(.int t2)]))
    refine own_st (fun _ k => XS.iload X112.here hx rfl (hb hby at_219) rfl  k) ?_
    show own_Goes p e below s _ _ (T112.setTop (mkF m 221 #[own_jv q0, .second, own_jv q1, .second, iv p4, iv p5, iv p6, rv b101, rv b102, iv f1, iv t1, iv f2, iv t2, iv (0 : Int32), rv b102, own_jv q1, .second, rv b104, iv (1 : Int32)] [(.int f2), (.int t2)]))
    by_cases c113 : f2 < t2
    · have c113i : f2.toInt < t2.toInt := own_i_lt c113
      refine own_st (fun _ k => XS.icmpNo X112.here hx rfl (hb hby at_221) rfl (tlt c113).2.2.2 k) ?_
      show own_Goes p e below s _ _ (T112.setTop (mkF m 224 #[own_jv q0, .second, own_jv q1, .second, iv p4, iv p5, iv p6, rv b101, rv b102, iv f1, iv t1, iv f2, iv t2, iv (0 : Int32), rv b102, own_jv q1, .second, rv b104, iv (1 : Int32)] []))
      refine own_st (fun _ k => XS.iload X112.here hx rfl (hb hby at_224) rfl  k) ?_
      show own_Goes p e below s _ _ (T112.setTop (mkF m 226 #[own_jv q0, .second, own_jv q1, .second, iv p4, iv p5, iv p6, rv b101, rv b102, iv f1, iv t1, iv f2, iv t2, iv (0 : Int32), rv b102, own_jv q1, .second, rv b104, iv (1 : Int32)] [(.int (1 : Int32))]))
      refine own_st (fun _ k => XS.ifNo X112.here hx rfl (hb hby at_226) rfl ((if0 _ _).trans (feq (by decide : ¬ ((1 : Int32) = (0 : Int32)))).1) k) ?_
      show own_Goes p e below s _ _ (T112.setTop (mkF m 229 #[own_jv q0, .second, own_jv q1, .second, iv p4, iv p5, iv p6, rv b101, rv b102, iv f1, iv t1, iv f2, iv t2, iv (0 : Int32), rv b102, own_jv q1, .second, rv b104, iv (1 : Int32)] []))
      refine own_st (fun _ k => XS.aload X112.here hx rfl (hb hby at_229) rfl rfl  k) ?_
      show own_Goes p e below s _ _ (T112.setTop (mkF m 231 #[own_jv q0, .second, own_jv q1, .second, iv p4, iv p5, iv p6, rv b101, rv b102, iv f1, iv t1, iv f2, iv t2, iv (0 : Int32), rv b102, own_jv q1, .second, rv b104, iv (1 : Int32)] [(.ref b104)]))
      refine own_st (fun _ k => XS.iconst X112.here hx rfl (hb hby at_231) k) ?_
      show own_Goes p e below s _ _ (T112.setTop (mkF m 232 #[own_jv q0, .second, own_jv q1, .second, iv p4, iv p5, iv p6, rv b101, rv b102, iv f1, iv t1, iv f2, iv t2, iv (0 : Int32), rv b102, own_jv q1, .second, rv b104, iv (1 : Int32)] [(.int (0 : Int32)), (.ref b104)]))
      have f115 := ((((A102.ext E104).keep K105 (ninS (own_ne (by omega)) nin0)).keep K106 (ninS (own_ne (by omega)) nin0)).keep K108 (ninS (own_ne (by omega)) nin0))
      have hi116 : 0 ≤ (f2 + (0 : Int32)).toInt ∧ (f2 + (0 : Int32)).toInt < (8 : Nat) := by exact own_in0 hf2 ht2 c113i
      obtain ⟨v114, T114, L114, X114, Q114, st114⟩ := own_callV X112 hx hZ (C := "com/example/reach2/reach2/model/AsciiText") (y := (⟨"com/example/reach2/reach2/model/AsciiText", "charAt", "(I)C"⟩ : MethodName)) hown (hw _ (List.mem_of_getElem? (i := 46) rfl)) (hw _ (List.mem_of_getElem? (i := 47) rfl)) (hw _ (List.mem_of_getElem? (i := 49) rfl)) (hw _ (List.mem_of_getElem? (i := 48) rfl)) (hw _ (List.mem_of_getElem? (i := 8) rfl)) (hw _ (List.mem_of_getElem? (i := 50) rfl)) (by decide) (W := 0) (rest := []) (argsL := [(.int (0 : Int32))]) (a := b104) (rmChar l Z a0 hw [] b104 (0 : Int32) _ _ _ _ T108.heap n0 (by omega) Fa108 Fb108 f115 B102 hi116 (own_idx hi116)) (by decide) (by decide) (by decide) (by decide) e112 A108 own_pd5 rfl (g := (mkF m 232 #[own_jv q0, .second, own_jv q1, .second, iv p4, iv p5, iv p6, rv b101, rv b102, iv f1, iv t1, iv f2, iv t2, iv (0 : Int32), rv b102, own_jv q1, .second, rv b104, iv (1 : Int32)] [(.int (0 : Int32)), (.ref b104)])) rfl (by rw [hml]; rfl) rfl (by show 2 * 0 + _ ≤ _; exact Nat.le_of_eq rfl) (hb hby at_232)
      obtain ⟨r114, rfl, hr114, N114q, e114⟩ := Q114
      have N114 := Fr.app N112 N114q
      refine own_st st114 ?_
      show own_Goes p e below s _ _ (T114.setTop (mkF m 235 #[own_jv q0, .second, own_jv q1, .second, iv p4, iv p5, iv p6, rv b101, rv b102, iv f1, iv t1, iv f2, iv t2, iv (0 : Int32), rv b102, own_jv q1, .second, rv b104, iv (1 : Int32)] [(.int r114)]))
      refine own_st (fun _ k => XS.lload X114.here hx rfl (hb hby at_235) rfl  k) ?_
      show own_Goes p e below s _ _ (T114.setTop (mkF m 237 #[own_jv q0, .second, own_jv q1, .second, iv p4, iv p5, iv p6, rv b101, rv b102, iv f1, iv t1, iv f2, iv t2, iv (0 : Int32), rv b102, own_jv q1, .second, rv b104, iv (1 : Int32)] [(.long q1), (.int r114)]))
      refine own_st (fun _ k => XS.iload X114.here hx rfl (hb hby at_237) rfl  k) ?_
      show own_Goes p e below s _ _ (T114.setTop (mkF m 239 #[own_jv q0, .second, own_jv q1, .second, iv p4, iv p5, iv p6, rv b101, rv b102, iv f1, iv t1, iv f2, iv t2, iv (0 : Int32), rv b102, own_jv q1, .second, rv b104, iv (1 : Int32)] [(.int f2), (.long q1), (.int r114)]))
      have hp118 : 0 ≤ f2.toInt ∧ f2.toInt < (8 : Nat) := by omega
      obtain ⟨v117, T117, L117, X117, Q117, st117⟩ := own_callS X114 hx hZ (y := (⟨"com/example/reach2/reach2/model/AsciiTextShowPinLaw", "at", "(JI)C"⟩ : MethodName)) hown (hw _ (List.mem_of_getElem? (i := 51) rfl)) (hw _ (List.mem_of_getElem? (i := 52) rfl)) (hw _ (List.mem_of_getElem? (i := 2) rfl)) (hw _ (List.mem_of_getElem? (i := 53) rfl)) (by decide) (W := 1) (rest := [(.int r114)]) (argsL := [(.long q1), (.int f2)]) (rmAt l Z a0 hw [] q1 f2 T108.heap n0 (by omega) hp118) (by decide) (by decide) (by decide) (by decide) e114 own_pd6 rfl (g := (mkF m 239 #[own_jv q0, .second, own_jv q1, .second, iv p4, iv p5, iv p6, rv b101, rv b102, iv f1, iv t1, iv f2, iv t2, iv (0 : Int32), rv b102, own_jv q1, .second, rv b104, iv (1 : Int32)] [(.int f2), (.long q1), (.int r114)])) rfl (by rw [hml]; rfl) rfl (by show 2 * 0 + _ ≤ _; exact Nat.le_of_eq rfl) (hb hby at_239)
      obtain ⟨r117, rfl, hr117, N117q, e117⟩ := Q117
      have N117 := Fr.app N114 N117q
      refine own_st st117 ?_
      show own_Goes p e below s _ _ (T117.setTop (mkF m 242 #[own_jv q0, .second, own_jv q1, .second, iv p4, iv p5, iv p6, rv b101, rv b102, iv f1, iv t1, iv f2, iv t2, iv (0 : Int32), rv b102, own_jv q1, .second, rv b104, iv (1 : Int32)] [(.int r117), (.int r114)]))
      by_cases c119 : r114 = r117
      · have c119i : r114.toInt = r117.toInt := own_i_eq c119
        refine own_st (fun _ k => XS.icmpNo X117.here hx rfl (hb hby at_242) rfl (teq c119).2 k) ?_
        show own_Goes p e below s _ _ (T117.setTop (mkF m 245 #[own_jv q0, .second, own_jv q1, .second, iv p4, iv p5, iv p6, rv b101, rv b102, iv f1, iv t1, iv f2, iv t2, iv (0 : Int32), rv b102, own_jv q1, .second, rv b104, iv (1 : Int32)] []))
        refine own_st (fun _ k => XS.aload X117.here hx rfl (hb hby at_245) rfl rfl  k) ?_
        show own_Goes p e below s _ _ (T117.setTop (mkF m 247 #[own_jv q0, .second, own_jv q1, .second, iv p4, iv p5, iv p6, rv b101, rv b102, iv f1, iv t1, iv f2, iv t2, iv (0 : Int32), rv b102, own_jv q1, .second, rv b104, iv (1 : Int32)] [(.ref b104)]))
        refine own_st (fun _ k => XS.iload X117.here hx rfl (hb hby at_247) rfl  k) ?_
        show own_Goes p e below s _ _ (T117.setTop (mkF m 249 #[own_jv q0, .second, own_jv q1, .second, iv p4, iv p5, iv p6, rv b101, rv b102, iv f1, iv t1, iv f2, iv t2, iv (0 : Int32), rv b102, own_jv q1, .second, rv b104, iv (1 : Int32)] [(.int t2), (.ref b104)]))
        refine own_st (fun _ k => XS.iload X117.here hx rfl (hb hby at_249) rfl  k) ?_
        show own_Goes p e below s _ _ (T117.setTop (mkF m 251 #[own_jv q0, .second, own_jv q1, .second, iv p4, iv p5, iv p6, rv b101, rv b102, iv f1, iv t1, iv f2, iv t2, iv (0 : Int32), rv b102, own_jv q1, .second, rv b104, iv (1 : Int32)] [(.int f2), (.int t2), (.ref b104)]))
        refine own_st (fun _ k => XS.isub X117.here hx rfl (hb hby at_251) rfl k) ?_
        show own_Goes p e below s _ _ (T117.setTop (mkF m 252 #[own_jv q0, .second, own_jv q1, .second, iv p4, iv p5, iv p6, rv b101, rv b102, iv f1, iv t1, iv f2, iv t2, iv (0 : Int32), rv b102, own_jv q1, .second, rv b104, iv (1 : Int32)] [(.int (t2 - f2)), (.ref b104)]))
        refine own_st (fun _ k => XS.iconst X117.here hx rfl (hb hby at_252) k) ?_
        show own_Goes p e below s _ _ (T117.setTop (mkF m 253 #[own_jv q0, .second, own_jv q1, .second, iv p4, iv p5, iv p6, rv b101, rv b102, iv f1, iv t1, iv f2, iv t2, iv (0 : Int32), rv b102, own_jv q1, .second, rv b104, iv (1 : Int32)] [(.int (1 : Int32)), (.int (t2 - f2)), (.ref b104)]))
        refine own_st (fun _ k => XS.isub X117.here hx rfl (hb hby at_253) rfl k) ?_
        show own_Goes p e below s _ _ (T117.setTop (mkF m 254 #[own_jv q0, .second, own_jv q1, .second, iv p4, iv p5, iv p6, rv b101, rv b102, iv f1, iv t1, iv f2, iv t2, iv (0 : Int32), rv b102, own_jv q1, .second, rv b104, iv (1 : Int32)] [(.int ((t2 - f2) - (1 : Int32))), (.ref b104)]))
        have hi121 : 0 ≤ (f2 + ((t2 - f2) - (1 : Int32))).toInt ∧ (f2 + ((t2 - f2) - (1 : Int32))).toInt < (8 : Nat) := by exact own_in1 hf2 ht2 c113i
        obtain ⟨v120, T120, L120, X120, Q120, st120⟩ := own_callV X117 hx hZ (C := "com/example/reach2/reach2/model/AsciiText") (y := (⟨"com/example/reach2/reach2/model/AsciiText", "charAt", "(I)C"⟩ : MethodName)) hown (hw _ (List.mem_of_getElem? (i := 46) rfl)) (hw _ (List.mem_of_getElem? (i := 47) rfl)) (hw _ (List.mem_of_getElem? (i := 49) rfl)) (hw _ (List.mem_of_getElem? (i := 48) rfl)) (hw _ (List.mem_of_getElem? (i := 8) rfl)) (hw _ (List.mem_of_getElem? (i := 50) rfl)) (by decide) (W := 0) (rest := []) (argsL := [(.int ((t2 - f2) - (1 : Int32)))]) (a := b104) (rmChar l Z a0 hw [] b104 ((t2 - f2) - (1 : Int32)) _ _ _ _ T108.heap n0 (by omega) Fa108 Fb108 f115 B102 hi121 (own_idx hi121)) (by decide) (by decide) (by decide) (by decide) e117 A108 own_pd5 rfl (g := (mkF m 254 #[own_jv q0, .second, own_jv q1, .second, iv p4, iv p5, iv p6, rv b101, rv b102, iv f1, iv t1, iv f2, iv t2, iv (0 : Int32), rv b102, own_jv q1, .second, rv b104, iv (1 : Int32)] [(.int ((t2 - f2) - (1 : Int32))), (.ref b104)])) rfl (by rw [hml]; rfl) rfl (by show 2 * 0 + _ ≤ _; exact Nat.le_of_eq rfl) (hb hby at_254)
        obtain ⟨r120, rfl, hr120, N120q, e120⟩ := Q120
        have N120 := Fr.app N117 N120q
        refine own_st st120 ?_
        show own_Goes p e below s _ _ (T120.setTop (mkF m 257 #[own_jv q0, .second, own_jv q1, .second, iv p4, iv p5, iv p6, rv b101, rv b102, iv f1, iv t1, iv f2, iv t2, iv (0 : Int32), rv b102, own_jv q1, .second, rv b104, iv (1 : Int32)] [(.int r120)]))
        refine own_st (fun _ k => XS.lload X120.here hx rfl (hb hby at_257) rfl  k) ?_
        show own_Goes p e below s _ _ (T120.setTop (mkF m 259 #[own_jv q0, .second, own_jv q1, .second, iv p4, iv p5, iv p6, rv b101, rv b102, iv f1, iv t1, iv f2, iv t2, iv (0 : Int32), rv b102, own_jv q1, .second, rv b104, iv (1 : Int32)] [(.long q1), (.int r120)]))
        refine own_st (fun _ k => XS.iload X120.here hx rfl (hb hby at_259) rfl  k) ?_
        show own_Goes p e below s _ _ (T120.setTop (mkF m 261 #[own_jv q0, .second, own_jv q1, .second, iv p4, iv p5, iv p6, rv b101, rv b102, iv f1, iv t1, iv f2, iv t2, iv (0 : Int32), rv b102, own_jv q1, .second, rv b104, iv (1 : Int32)] [(.int t2), (.long q1), (.int r120)]))
        refine own_st (fun _ k => XS.iconst X120.here hx rfl (hb hby at_261) k) ?_
        show own_Goes p e below s _ _ (T120.setTop (mkF m 262 #[own_jv q0, .second, own_jv q1, .second, iv p4, iv p5, iv p6, rv b101, rv b102, iv f1, iv t1, iv f2, iv t2, iv (0 : Int32), rv b102, own_jv q1, .second, rv b104, iv (1 : Int32)] [(.int (1 : Int32)), (.int t2), (.long q1), (.int r120)]))
        refine own_st (fun _ k => XS.isub X120.here hx rfl (hb hby at_262) rfl k) ?_
        show own_Goes p e below s _ _ (T120.setTop (mkF m 263 #[own_jv q0, .second, own_jv q1, .second, iv p4, iv p5, iv p6, rv b101, rv b102, iv f1, iv t1, iv f2, iv t2, iv (0 : Int32), rv b102, own_jv q1, .second, rv b104, iv (1 : Int32)] [(.int (t2 - (1 : Int32))), (.long q1), (.int r120)]))
        have hp123 : 0 ≤ (t2 - (1 : Int32)).toInt ∧ (t2 - (1 : Int32)).toInt < (8 : Nat) := by exact own_in2 hf2 ht2 c113i
        obtain ⟨v122, T122, L122, X122, Q122, st122⟩ := own_callS X120 hx hZ (y := (⟨"com/example/reach2/reach2/model/AsciiTextShowPinLaw", "at", "(JI)C"⟩ : MethodName)) hown (hw _ (List.mem_of_getElem? (i := 51) rfl)) (hw _ (List.mem_of_getElem? (i := 52) rfl)) (hw _ (List.mem_of_getElem? (i := 2) rfl)) (hw _ (List.mem_of_getElem? (i := 53) rfl)) (by decide) (W := 1) (rest := [(.int r120)]) (argsL := [(.long q1), (.int (t2 - (1 : Int32)))]) (rmAt l Z a0 hw [] q1 (t2 - (1 : Int32)) T108.heap n0 (by omega) hp123) (by decide) (by decide) (by decide) (by decide) e120 own_pd6 rfl (g := (mkF m 263 #[own_jv q0, .second, own_jv q1, .second, iv p4, iv p5, iv p6, rv b101, rv b102, iv f1, iv t1, iv f2, iv t2, iv (0 : Int32), rv b102, own_jv q1, .second, rv b104, iv (1 : Int32)] [(.int (t2 - (1 : Int32))), (.long q1), (.int r120)])) rfl (by rw [hml]; rfl) rfl (by show 2 * 0 + _ ≤ _; exact Nat.le_of_eq rfl) (hb hby at_263)
        obtain ⟨r122, rfl, hr122, N122q, e122⟩ := Q122
        have N122 := Fr.app N120 N122q
        refine own_st st122 ?_
        show own_Goes p e below s _ _ (T122.setTop (mkF m 266 #[own_jv q0, .second, own_jv q1, .second, iv p4, iv p5, iv p6, rv b101, rv b102, iv f1, iv t1, iv f2, iv t2, iv (0 : Int32), rv b102, own_jv q1, .second, rv b104, iv (1 : Int32)] [(.int r122), (.int r120)]))
        by_cases c124 : r120 = r122
        · have c124i : r120.toInt = r122.toInt := own_i_eq c124
          refine own_st (fun _ k => XS.icmpNo X122.here hx rfl (hb hby at_266) rfl (teq c124).2 k) ?_
          show own_Goes p e below s _ _ (T122.setTop (mkF m 269 #[own_jv q0, .second, own_jv q1, .second, iv p4, iv p5, iv p6, rv b101, rv b102, iv f1, iv t1, iv f2, iv t2, iv (0 : Int32), rv b102, own_jv q1, .second, rv b104, iv (1 : Int32)] []))
          refine own_st (fun _ k => XS.iconst X122.here hx rfl (hb hby at_269) k) ?_
          show own_Goes p e below s _ _ (T122.setTop (mkF m 270 #[own_jv q0, .second, own_jv q1, .second, iv p4, iv p5, iv p6, rv b101, rv b102, iv f1, iv t1, iv f2, iv t2, iv (0 : Int32), rv b102, own_jv q1, .second, rv b104, iv (1 : Int32)] [(.int (1 : Int32))]))
          refine own_st (fun _ k => XS.goto X122.here hx rfl (pc0 := 270) (pc' := 274) rfl (hb hby at_270) (by decide) (by decide) k) ?_
          show own_Goes p e below s _ _ (T122.setTop (mkF m 274 #[own_jv q0, .second, own_jv q1, .second, iv p4, iv p5, iv p6, rv b101, rv b102, iv f1, iv t1, iv f2, iv t2, iv (0 : Int32), rv b102, own_jv q1, .second, rv b104, iv (1 : Int32)] [(.int (1 : Int32))]))
          refine own_st (fun _ k => XS.istore X122.here hx rfl (hb hby at_274) rfl (l' := #[own_jv q0, .second, own_jv q1, .second, iv p4, iv p5, iv p6, rv b101, rv b102, iv f1, iv t1, iv f2, iv t2, iv (0 : Int32), rv b102, own_jv q1, .second, rv b104, iv (1 : Int32)]) rfl k) ?_
          show own_Goes p e below s _ _ (T122.setTop (mkF m 276 #[own_jv q0, .second, own_jv q1, .second, iv p4, iv p5, iv p6, rv b101, rv b102, iv f1, iv t1, iv f2, iv t2, iv (0 : Int32), rv b102, own_jv q1, .second, rv b104, iv (1 : Int32)] []))
          refine own_st (fun _ k => XS.iload X122.here hx rfl (hb hby at_276) rfl  k) ?_
          show own_Goes p e below s _ _ (T122.setTop (mkF m 278 #[own_jv q0, .second, own_jv q1, .second, iv p4, iv p5, iv p6, rv b101, rv b102, iv f1, iv t1, iv f2, iv t2, iv (0 : Int32), rv b102, own_jv q1, .second, rv b104, iv (1 : Int32)] [(.int (1 : Int32))]))
          exact own_retN X122 hx hlk (1 : Int32) hret (Or.inl rfl) rfl (hb hby at_278) (by decide) (by decide) ⟨rfl, N122⟩
        · have c124i : ¬ r120.toInt = r122.toInt := own_i_ne c124
          exfalso; exact c124 (own_same hr120 hr122 (own_k2 hf2 ht2 c113i))
      · have c119i : ¬ r114.toInt = r117.toInt := own_i_ne c119
        exfalso; exact c119 (own_same hr114 hr117 (own_k1 f2))
    · have c113i : t2.toInt ≤ f2.toInt := own_i_nlt c113
      refine own_st (fun _ k => XS.icmpYes X112.here hx rfl (pc0 := 221) (pc' := 276) rfl (hb hby at_221) rfl (flt c113).2.2.2 (by decide) (by decide) k) ?_
      show own_Goes p e below s _ _ (T112.setTop (mkF m 276 #[own_jv q0, .second, own_jv q1, .second, iv p4, iv p5, iv p6, rv b101, rv b102, iv f1, iv t1, iv f2, iv t2, iv (0 : Int32), rv b102, own_jv q1, .second, rv b104, iv (1 : Int32)] []))
      refine own_st (fun _ k => XS.iload X112.here hx rfl (hb hby at_276) rfl  k) ?_
      show own_Goes p e below s _ _ (T112.setTop (mkF m 278 #[own_jv q0, .second, own_jv q1, .second, iv p4, iv p5, iv p6, rv b101, rv b102, iv f1, iv t1, iv f2, iv t2, iv (0 : Int32), rv b102, own_jv q1, .second, rv b104, iv (1 : Int32)] [(.int (1 : Int32))]))
      exact own_retN X112 hx hlk (1 : Int32) hret (Or.inl rfl) rfl (hb hby at_278) (by decide) (by decide) ⟨rfl, N112⟩
  · have c103i : ¬ (p6 &&& (1 : Int32)).toInt = 0 := own_i_ne c103
    refine own_st (fun _ k => XS.ifNo X102.here hx rfl (hb hby at_78) rfl ((if0 _ _).trans (feq c103).1) k) ?_
    show own_Goes p e below s _ _ (T102.setTop (mkF m 81 #[own_jv q0, .second, own_jv q1, .second, iv p4, iv p5, iv p6, rv b101, rv b102, iv f1, iv t1, iv f2, iv t2, .unset, .unset, .unset, .unset, .unset, .unset] []))
    refine own_st (fun _ k => XS.iconst X102.here hx rfl (hb hby at_81) k) ?_
    show own_Goes p e below s _ _ (T102.setTop (mkF m 82 #[own_jv q0, .second, own_jv q1, .second, iv p4, iv p5, iv p6, rv b101, rv b102, iv f1, iv t1, iv f2, iv t2, .unset, .unset, .unset, .unset, .unset, .unset] [(.int (1 : Int32))]))
    refine own_st (fun _ k => XS.goto X102.here hx rfl (pc0 := 82) (pc' := 86) rfl (hb hby at_82) (by decide) (by decide) k) ?_
    show own_Goes p e below s _ _ (T102.setTop (mkF m 86 #[own_jv q0, .second, own_jv q1, .second, iv p4, iv p5, iv p6, rv b101, rv b102, iv f1, iv t1, iv f2, iv t2, .unset, .unset, .unset, .unset, .unset, .unset] [(.int (1 : Int32))]))
    refine own_st (fun _ k => XS.istore X102.here hx rfl (hb hby at_86) rfl (l' := #[own_jv q0, .second, own_jv q1, .second, iv p4, iv p5, iv p6, rv b101, rv b102, iv f1, iv t1, iv f2, iv t2, iv (1 : Int32), .unset, .unset, .unset, .unset, .unset]) rfl k) ?_
    show own_Goes p e below s _ _ (T102.setTop (mkF m 88 #[own_jv q0, .second, own_jv q1, .second, iv p4, iv p5, iv p6, rv b101, rv b102, iv f1, iv t1, iv f2, iv t2, iv (1 : Int32), .unset, .unset, .unset, .unset, .unset] []))
    refine own_st (fun _ k => XS.iload X102.here hx rfl (hb hby at_88) rfl  k) ?_
    show own_Goes p e below s _ _ (T102.setTop (mkF m 90 #[own_jv q0, .second, own_jv q1, .second, iv p4, iv p5, iv p6, rv b101, rv b102, iv f1, iv t1, iv f2, iv t2, iv (1 : Int32), .unset, .unset, .unset, .unset, .unset] [(.int (1 : Int32))]))
    refine own_st (fun _ k => XS.ifNo X102.here hx rfl (hb hby at_90) rfl ((if0 _ _).trans (feq (by decide : ¬ ((1 : Int32) = (0 : Int32)))).1) k) ?_
    show own_Goes p e below s _ _ (T102.setTop (mkF m 93 #[own_jv q0, .second, own_jv q1, .second, iv p4, iv p5, iv p6, rv b101, rv b102, iv f1, iv t1, iv f2, iv t2, iv (1 : Int32), .unset, .unset, .unset, .unset, .unset] []))
    refine own_st (fun _ k => XS.aload X102.here hx rfl (hb hby at_93) rfl rfl  k) ?_
    show own_Goes p e below s _ _ (T102.setTop (mkF m 95 #[own_jv q0, .second, own_jv q1, .second, iv p4, iv p5, iv p6, rv b101, rv b102, iv f1, iv t1, iv f2, iv t2, iv (1 : Int32), .unset, .unset, .unset, .unset, .unset] [(.ref b101)]))
    refine own_st (fun _ k => XS.goto X102.here hx rfl (pc0 := 95) (pc' := 100) rfl (hb hby at_95) (by decide) (by decide) k) ?_
    show own_Goes p e below s _ _ (T102.setTop (mkF m 100 #[own_jv q0, .second, own_jv q1, .second, iv p4, iv p5, iv p6, rv b101, rv b102, iv f1, iv t1, iv f2, iv t2, iv (1 : Int32), .unset, .unset, .unset, .unset, .unset] [(.ref b101)]))
    refine own_st (fun _ k => XS.astore X102.here hx rfl (hb hby at_100) rfl rfl (l' := #[own_jv q0, .second, own_jv q1, .second, iv p4, iv p5, iv p6, rv b101, rv b102, iv f1, iv t1, iv f2, iv t2, iv (1 : Int32), rv b101, .unset, .unset, .unset, .unset]) rfl k) ?_
    show own_Goes p e below s _ _ (T102.setTop (mkF m 102 #[own_jv q0, .second, own_jv q1, .second, iv p4, iv p5, iv p6, rv b101, rv b102, iv f1, iv t1, iv f2, iv t2, iv (1 : Int32), rv b101, .unset, .unset, .unset, .unset] []))
    refine own_st (fun _ k => XS.iload X102.here hx rfl (hb hby at_102) rfl  k) ?_
    show own_Goes p e below s _ _ (T102.setTop (mkF m 104 #[own_jv q0, .second, own_jv q1, .second, iv p4, iv p5, iv p6, rv b101, rv b102, iv f1, iv t1, iv f2, iv t2, iv (1 : Int32), rv b101, .unset, .unset, .unset, .unset] [(.int (1 : Int32))]))
    refine own_st (fun _ k => XS.ifNo X102.here hx rfl (hb hby at_104) rfl ((if0 _ _).trans (feq (by decide : ¬ ((1 : Int32) = (0 : Int32)))).1) k) ?_
    show own_Goes p e below s _ _ (T102.setTop (mkF m 107 #[own_jv q0, .second, own_jv q1, .second, iv p4, iv p5, iv p6, rv b101, rv b102, iv f1, iv t1, iv f2, iv t2, iv (1 : Int32), rv b101, .unset, .unset, .unset, .unset] []))
    refine own_st (fun _ k => XS.lloadN X102.here hx rfl (hb hby at_107) rfl  k) ?_
    show own_Goes p e below s _ _ (T102.setTop (mkF m 108 #[own_jv q0, .second, own_jv q1, .second, iv p4, iv p5, iv p6, rv b101, rv b102, iv f1, iv t1, iv f2, iv t2, iv (1 : Int32), rv b101, .unset, .unset, .unset, .unset] [(.long q0)]))
    refine own_st (fun _ k => XS.goto X102.here hx rfl (pc0 := 108) (pc' := 112) rfl (hb hby at_108) (by decide) (by decide) k) ?_
    show own_Goes p e below s _ _ (T102.setTop (mkF m 112 #[own_jv q0, .second, own_jv q1, .second, iv p4, iv p5, iv p6, rv b101, rv b102, iv f1, iv t1, iv f2, iv t2, iv (1 : Int32), rv b101, .unset, .unset, .unset, .unset] [(.long q0)]))
    refine own_st (fun _ k => XS.lstore X102.here hx rfl (hb hby at_112) rfl (l' := #[own_jv q0, .second, own_jv q1, .second, iv p4, iv p5, iv p6, rv b101, rv b102, iv f1, iv t1, iv f2, iv t2, iv (1 : Int32), rv b101, own_jv q0, .second, .unset, .unset]) rfl k) ?_
    show own_Goes p e below s _ _ (T102.setTop (mkF m 114 #[own_jv q0, .second, own_jv q1, .second, iv p4, iv p5, iv p6, rv b101, rv b102, iv f1, iv t1, iv f2, iv t2, iv (1 : Int32), rv b101, own_jv q0, .second, .unset, .unset] []))
    obtain ⟨T125, h125, X125, e125, E125, A125, D125, -, st125⟩ := newO X102 hx hZ hown (hw _ (List.mem_of_getElem? (i := 6) rfl)) (hw _ (List.mem_of_getElem? (i := 7) rfl)) (hw _ (List.mem_of_getElem? (i := 8) rfl)) rfl (g := (mkF m 114 #[own_jv q0, .second, own_jv q1, .second, iv p4, iv p5, iv p6, rv b101, rv b102, iv f1, iv t1, iv f2, iv t2, iv (1 : Int32), rv b101, own_jv q0, .second, .unset, .unset] [])) rfl (hb hby at_114) (by decide) (by decide)
    obtain ⟨b125, g125⟩ : ∃ z, z = T102.heap.size := ⟨_, rfl⟩
    rw [← g125] at A125 D125 st125
    have y125 := A125.lt
    have z125 := E125.1
    have F125_bytes : Fld Z h125 b125 "com/example/reach2/reach2/model/AsciiText" "bytes" "[B" .null := D125 (Or.inl (hw _ (List.mem_of_getElem? (i := 16) rfl))) (ty := (.array .byte)) (by decide)
    have F125_from : Fld Z h125 b125 "com/example/reach2/reach2/model/AsciiText" "from" "I" (.int (0 : Int32)) := D125 (Or.inl (hw _ (List.mem_of_getElem? (i := 23) rfl))) (ty := .int) (by decide)
    have F125_to : Fld Z h125 b125 "com/example/reach2/reach2/model/AsciiText" "to" "I" (.int (0 : Int32)) := D125 (Or.inl (hw _ (List.mem_of_getElem? (i := 25) rfl))) (ty := .int) (by decide)
    refine own_st st125 ?_
    show own_Goes p e below s _ _ (T125.setTop (mkF m 117 #[own_jv q0, .second, own_jv q1, .second, iv p4, iv p5, iv p6, rv b101, rv b102, iv f1, iv t1, iv f2, iv t2, iv (1 : Int32), rv b101, own_jv q0, .second, .unset, .unset] [(.ref b125)]))
    refine own_st (fun _ k => XS.dup X125.here hx rfl (hb hby at_117) rfl rfl k) ?_
    show own_Goes p e below s _ _ (T125.setTop (mkF m 118 #[own_jv q0, .second, own_jv q1, .second, iv p4, iv p5, iv p6, rv b101, rv b102, iv f1, iv t1, iv f2, iv t2, iv (1 : Int32), rv b101, own_jv q0, .second, .unset, .unset] [(.ref b125), (.ref b125)]))
    obtain ⟨v126, T126, L126, X126, Q126, st126⟩ := own_callI X125 hx hZ (y := (⟨"com/example/reach2/reach2/model/AsciiText", "<init>", "()V"⟩ : MethodName)) hown (hw _ (List.mem_of_getElem? (i := 9) rfl)) (hw _ (List.mem_of_getElem? (i := 10) rfl)) (hw _ (List.mem_of_getElem? (i := 8) rfl)) (hw _ (List.mem_of_getElem? (i := 11) rfl)) rfl (by decide) (W := 1) (rest := [(.ref b125)]) (argsL := []) (a := b125) (rmI l Z a0 hw [] b125 _ _ _ h125 n0 (by omega) A125 F125_bytes F125_from F125_to (by omega) (by omega)) (by decide) (by decide) (by decide) (by decide) e125 own_pd1 rfl (g := (mkF m 118 #[own_jv q0, .second, own_jv q1, .second, iv p4, iv p5, iv p6, rv b101, rv b102, iv f1, iv t1, iv f2, iv t2, iv (1 : Int32), rv b101, own_jv q0, .second, .unset, .unset] [(.ref b125), (.ref b125)])) rfl (by rw [hml]; rfl) rfl (by show 2 * 0 + _ ≤ _; exact Nat.le_of_eq rfl) (hb hby at_118)
    obtain ⟨rfl, N126q, K126, A126, b126, Fa126, Fb126, Fc126⟩ := Q126
    have z126 := K126.1
    have y126 := A126.lt
    have N126 := Fr.app N102 N126q
    refine own_st st126 ?_
    show own_Goes p e below s _ _ (T126.setTop (mkF m 121 #[own_jv q0, .second, own_jv q1, .second, iv p4, iv p5, iv p6, rv b101, rv b102, iv f1, iv t1, iv f2, iv t2, iv (1 : Int32), rv b101, own_jv q0, .second, .unset, .unset] [(.ref b125)]))
    refine own_st (fun _ k => XS.astore X126.here hx rfl (hb hby at_121) rfl rfl (l' := #[own_jv q0, .second, own_jv q1, .second, iv p4, iv p5, iv p6, rv b101, rv b102, iv f1, iv t1, iv f2, iv t2, iv (1 : Int32), rv b101, own_jv q0, .second, rv b125, .unset]) rfl k) ?_
    show own_Goes p e below s _ _ (T126.setTop (mkF m 123 #[own_jv q0, .second, own_jv q1, .second, iv p4, iv p5, iv p6, rv b101, rv b102, iv f1, iv t1, iv f2, iv t2, iv (1 : Int32), rv b101, own_jv q0, .second, rv b125, .unset] []))
    refine own_st (fun _ k => XS.aload X126.here hx rfl (hb hby at_123) rfl rfl  k) ?_
    show own_Goes p e below s _ _ (T126.setTop (mkF m 125 #[own_jv q0, .second, own_jv q1, .second, iv p4, iv p5, iv p6, rv b101, rv b102, iv f1, iv t1, iv f2, iv t2, iv (1 : Int32), rv b101, own_jv q0, .second, rv b125, .unset] [(.ref b125)]))
    refine own_st (fun _ k => XS.aload X126.here hx rfl (hb hby at_125) rfl rfl  k) ?_
    show own_Goes p e below s _ _ (T126.setTop (mkF m 127 #[own_jv q0, .second, own_jv q1, .second, iv p4, iv p5, iv p6, rv b101, rv b102, iv f1, iv t1, iv f2, iv t2, iv (1 : Int32), rv b101, own_jv q0, .second, rv b125, .unset] [(.ref b101), (.ref b125)]))
    refine own_st (fun _ k => XS.iload X126.here hx rfl (hb hby at_127) rfl  k) ?_
    show own_Goes p e below s _ _ (T126.setTop (mkF m 129 #[own_jv q0, .second, own_jv q1, .second, iv p4, iv p5, iv p6, rv b101, rv b102, iv f1, iv t1, iv f2, iv t2, iv (1 : Int32), rv b101, own_jv q0, .second, rv b125, .unset] [(.int f1), (.ref b101), (.ref b125)]))
    refine own_st (fun _ k => XS.iload X126.here hx rfl (hb hby at_129) rfl  k) ?_
    show own_Goes p e below s _ _ (T126.setTop (mkF m 131 #[own_jv q0, .second, own_jv q1, .second, iv p4, iv p5, iv p6, rv b101, rv b102, iv f1, iv t1, iv f2, iv t2, iv (1 : Int32), rv b101, own_jv q0, .second, rv b125, .unset] [(.int t1), (.int f1), (.ref b101), (.ref b125)]))
    obtain ⟨v127, T127, L127, X127, Q127, st127⟩ := own_callV X126 hx hZ (C := "com/example/reach2/reach2/model/AsciiText") (y := (⟨"com/example/reach2/reach2/model/AsciiText", "show", "([BII)V"⟩ : MethodName)) hown (hw _ (List.mem_of_getElem? (i := 17) rfl)) (hw _ (List.mem_of_getElem? (i := 18) rfl)) (hw _ (List.mem_of_getElem? (i := 20) rfl)) (hw _ (List.mem_of_getElem? (i := 19) rfl)) (hw _ (List.mem_of_getElem? (i := 8) rfl)) (hw _ (List.mem_of_getElem? (i := 21) rfl)) (by decide) (W := 0) (rest := []) (argsL := [(.ref b101), (.int f1), (.int t1)]) (a := b125) (rmShow l Z a0 hw [] b125 b101 f1 t1 _ _ _ T126.heap n0 (by omega) A126 Fa126 Fb126 Fc126 (by omega)) (by decide) (by decide) (by decide) (by decide) rfl A126 own_pd2 rfl (g := (mkF m 131 #[own_jv q0, .second, own_jv q1, .second, iv p4, iv p5, iv p6, rv b101, rv b102, iv f1, iv t1, iv f2, iv t2, iv (1 : Int32), rv b101, own_jv q0, .second, rv b125, .unset] [(.int t1), (.int f1), (.ref b101), (.ref b125)])) rfl (by rw [hml]; rfl) rfl (by show 2 * 0 + _ ≤ _; exact Nat.le_of_eq rfl) (hb hby at_131)
    obtain ⟨rfl, N127q, K127, A127, Fa127, Fb127, Fc127⟩ := Q127
    have z127 := K127.1
    have y127 := A127.lt
    have N127 := Fr.app N126 N127q
    refine own_st st127 ?_
    show own_Goes p e below s _ _ (T127.setTop (mkF m 134 #[own_jv q0, .second, own_jv q1, .second, iv p4, iv p5, iv p6, rv b101, rv b102, iv f1, iv t1, iv f2, iv t2, iv (1 : Int32), rv b101, own_jv q0, .second, rv b125, .unset] []))
    refine own_st (fun _ k => XS.aload X127.here hx rfl (hb hby at_134) rfl rfl  k) ?_
    show own_Goes p e below s _ _ (T127.setTop (mkF m 136 #[own_jv q0, .second, own_jv q1, .second, iv p4, iv p5, iv p6, rv b101, rv b102, iv f1, iv t1, iv f2, iv t2, iv (1 : Int32), rv b101, own_jv q0, .second, rv b125, .unset] [(.ref b125)]))
    obtain ⟨v128, T128, L128, X128, Q128, st128⟩ := own_callV X127 hx hZ (C := "com/example/reach2/reach2/model/AsciiText") (y := (⟨"com/example/reach2/reach2/model/AsciiText", "bytes", "()[B"⟩ : MethodName)) hown (hw _ (List.mem_of_getElem? (i := 26) rfl)) (hw _ (List.mem_of_getElem? (i := 27) rfl)) (hw _ (List.mem_of_getElem? (i := 29) rfl)) (hw _ (List.mem_of_getElem? (i := 28) rfl)) (hw _ (List.mem_of_getElem? (i := 8) rfl)) (hw _ (List.mem_of_getElem? (i := 30) rfl)) (by decide) (W := 0) (rest := []) (argsL := []) (a := b125) (rmB l Z a0 hw [] b125 _ T127.heap n0 (by omega) Fa127) (by decide) (by decide) (by decide) (by decide) rfl A127 own_pd3 rfl (g := (mkF m 136 #[own_jv q0, .second, own_jv q1, .second, iv p4, iv p5, iv p6, rv b101, rv b102, iv f1, iv t1, iv f2, iv t2, iv (1 : Int32), rv b101, own_jv q0, .second, rv b125, .unset] [(.ref b125)])) rfl (by rw [hml]; rfl) rfl (by show 2 * 0 + _ ≤ _; exact Nat.le_of_eq rfl) (hb hby at_136)
    obtain ⟨rfl, N128q, e128⟩ := Q128
    have N128 := Fr.app N127 N128q
    refine own_st st128 ?_
    show own_Goes p e below s _ _ (T128.setTop (mkF m 139 #[own_jv q0, .second, own_jv q1, .second, iv p4, iv p5, iv p6, rv b101, rv b102, iv f1, iv t1, iv f2, iv t2, iv (1 : Int32), rv b101, own_jv q0, .second, rv b125, .unset] [(.ref b101)]))
    refine own_st (fun _ k => XS.aload X128.here hx rfl (hb hby at_139) rfl rfl  k) ?_
    show own_Goes p e below s _ _ (T128.setTop (mkF m 141 #[own_jv q0, .second, own_jv q1, .second, iv p4, iv p5, iv p6, rv b101, rv b102, iv f1, iv t1, iv f2, iv t2, iv (1 : Int32), rv b101, own_jv q0, .second, rv b125, .unset] [(.ref b101), (.ref b101)]))
    refine own_st (fun _ k => Jvm.RoadKit.acmp (g := (mkF m 141 #[own_jv q0, .second, own_jv q1, .second, iv p4, iv p5, iv p6, rv b101, rv b102, iv f1, iv t1, iv f2, iv t2, iv (1 : Int32), rv b101, own_jv q0, .second, rv b125, .unset] [(.ref b101), (.ref b101)])) X128 hx rfl rfl rfl (pc0 := 141) (pc' := 144) (same := true) rfl (hb hby at_141) rfl (decide_eq_true rfl) (by decide) (by decide) k) ?_
    show own_Goes p e below s _ _ (T128.setTop (mkF m 144 #[own_jv q0, .second, own_jv q1, .second, iv p4, iv p5, iv p6, rv b101, rv b102, iv f1, iv t1, iv f2, iv t2, iv (1 : Int32), rv b101, own_jv q0, .second, rv b125, .unset] []))
    refine own_st (fun _ k => XS.iconst X128.here hx rfl (hb hby at_144) k) ?_
    show own_Goes p e below s _ _ (T128.setTop (mkF m 145 #[own_jv q0, .second, own_jv q1, .second, iv p4, iv p5, iv p6, rv b101, rv b102, iv f1, iv t1, iv f2, iv t2, iv (1 : Int32), rv b101, own_jv q0, .second, rv b125, .unset] [(.int (1 : Int32))]))
    refine own_st (fun _ k => XS.goto X128.here hx rfl (pc0 := 145) (pc' := 149) rfl (hb hby at_145) (by decide) (by decide) k) ?_
    show own_Goes p e below s _ _ (T128.setTop (mkF m 149 #[own_jv q0, .second, own_jv q1, .second, iv p4, iv p5, iv p6, rv b101, rv b102, iv f1, iv t1, iv f2, iv t2, iv (1 : Int32), rv b101, own_jv q0, .second, rv b125, .unset] [(.int (1 : Int32))]))
    refine own_st (fun _ k => XS.istore X128.here hx rfl (hb hby at_149) rfl (l' := #[own_jv q0, .second, own_jv q1, .second, iv p4, iv p5, iv p6, rv b101, rv b102, iv f1, iv t1, iv f2, iv t2, iv (1 : Int32), rv b101, own_jv q0, .second, rv b125, iv (1 : Int32)]) rfl k) ?_
    show own_Goes p e below s _ _ (T128.setTop (mkF m 151 #[own_jv q0, .second, own_jv q1, .second, iv p4, iv p5, iv p6, rv b101, rv b102, iv f1, iv t1, iv f2, iv t2, iv (1 : Int32), rv b101, own_jv q0, .second, rv b125, iv (1 : Int32)] []))
    refine own_st (fun _ k => XS.aload X128.here hx rfl (hb hby at_151) rfl rfl  k) ?_
    show own_Goes p e below s _ _ (T128.setTop (mkF m 153 #[own_jv q0, .second, own_jv q1, .second, iv p4, iv p5, iv p6, rv b101, rv b102, iv f1, iv t1, iv f2, iv t2, iv (1 : Int32), rv b101, own_jv q0, .second, rv b125, iv (1 : Int32)] [(.ref b125)]))
    refine own_st (fun _ k => XS.aload X128.here hx rfl (hb hby at_153) rfl rfl  k) ?_
    show own_Goes p e below s _ _ (T128.setTop (mkF m 155 #[own_jv q0, .second, own_jv q1, .second, iv p4, iv p5, iv p6, rv b101, rv b102, iv f1, iv t1, iv f2, iv t2, iv (1 : Int32), rv b101, own_jv q0, .second, rv b125, iv (1 : Int32)] [(.ref b101), (.ref b125)]))
    refine own_st (fun _ k => XS.iload X128.here hx rfl (hb hby at_155) rfl  k) ?_
    show own_Goes p e below s _ _ (T128.setTop (mkF m 157 #[own_jv q0, .second, own_jv q1, .second, iv p4, iv p5, iv p6, rv b101, rv b102, iv f1, iv t1, iv f2, iv t2, iv (1 : Int32), rv b101, own_jv q0, .second, rv b125, iv (1 : Int32)] [(.int f2), (.ref b101), (.ref b125)]))
    refine own_st (fun _ k => XS.iload X128.here hx rfl (hb hby at_157) rfl  k) ?_
    show own_Goes p e below s _ _ (T128.setTop (mkF m 159 #[own_jv q0, .second, own_jv q1, .second, iv p4, iv p5, iv p6, rv b101, rv b102, iv f1, iv t1, iv f2, iv t2, iv (1 : Int32), rv b101, own_jv q0, .second, rv b125, iv (1 : Int32)] [(.int t2), (.int f2), (.ref b101), (.ref b125)]))
    obtain ⟨v129, T129, L129, X129, Q129, st129⟩ := own_callV X128 hx hZ (C := "com/example/reach2/reach2/model/AsciiText") (y := (⟨"com/example/reach2/reach2/model/AsciiText", "show", "([BII)V"⟩ : MethodName)) hown (hw _ (List.mem_of_getElem? (i := 17) rfl)) (hw _ (List.mem_of_getElem? (i := 18) rfl)) (hw _ (List.mem_of_getElem? (i := 20) rfl)) (hw _ (List.mem_of_getElem? (i := 19) rfl)) (hw _ (List.mem_of_getElem? (i := 8) rfl)) (hw _ (List.mem_of_getElem? (i := 21) rfl)) (by decide) (W := 0) (rest := []) (argsL := [(.ref b101), (.int f2), (.int t2)]) (a := b125) (rmShow l Z a0 hw [] b125 b101 f2 t2 _ _ _ T127.heap n0 (by omega) A127 Fa127 Fb127 Fc127 (by omega)) (by decide) (by decide) (by decide) (by decide) e128 A127 own_pd2 rfl (g := (mkF m 159 #[own_jv q0, .second, own_jv q1, .second, iv p4, iv p5, iv p6, rv b101, rv b102, iv f1, iv t1, iv f2, iv t2, iv (1 : Int32), rv b101, own_jv q0, .second, rv b125, iv (1 : Int32)] [(.int t2), (.int f2), (.ref b101), (.ref b125)])) rfl (by rw [hml]; rfl) rfl (by show 2 * 0 + _ ≤ _; exact Nat.le_of_eq rfl) (hb hby at_159)
    obtain ⟨rfl, N129q, K129, A129, Fa129, Fb129, Fc129⟩ := Q129
    have z129 := K129.1
    have y129 := A129.lt
    have N129 := Fr.app N128 N129q
    refine own_st st129 ?_
    show own_Goes p e below s _ _ (T129.setTop (mkF m 162 #[own_jv q0, .second, own_jv q1, .second, iv p4, iv p5, iv p6, rv b101, rv b102, iv f1, iv t1, iv f2, iv t2, iv (1 : Int32), rv b101, own_jv q0, .second, rv b125, iv (1 : Int32)] []))
    refine own_st (fun _ k => XS.iload X129.here hx rfl (hb hby at_162) rfl  k) ?_
    show own_Goes p e below s _ _ (T129.setTop (mkF m 164 #[own_jv q0, .second, own_jv q1, .second, iv p4, iv p5, iv p6, rv b101, rv b102, iv f1, iv t1, iv f2, iv t2, iv (1 : Int32), rv b101, own_jv q0, .second, rv b125, iv (1 : Int32)] [(.int (1 : Int32))]))
    refine own_st (fun _ k => XS.ifNo X129.here hx rfl (hb hby at_164) rfl ((if0 _ _).trans (feq (by decide : ¬ ((1 : Int32) = (0 : Int32)))).1) k) ?_
    show own_Goes p e below s _ _ (T129.setTop (mkF m 167 #[own_jv q0, .second, own_jv q1, .second, iv p4, iv p5, iv p6, rv b101, rv b102, iv f1, iv t1, iv f2, iv t2, iv (1 : Int32), rv b101, own_jv q0, .second, rv b125, iv (1 : Int32)] []))
    refine own_st (fun _ k => XS.aload X129.here hx rfl (hb hby at_167) rfl rfl  k) ?_
    show own_Goes p e below s _ _ (T129.setTop (mkF m 169 #[own_jv q0, .second, own_jv q1, .second, iv p4, iv p5, iv p6, rv b101, rv b102, iv f1, iv t1, iv f2, iv t2, iv (1 : Int32), rv b101, own_jv q0, .second, rv b125, iv (1 : Int32)] [(.ref b125)]))
    obtain ⟨v130, T130, L130, X130, Q130, st130⟩ := own_callV X129 hx hZ (C := "com/example/reach2/reach2/model/AsciiText") (y := (⟨"com/example/reach2/reach2/model/AsciiText", "bytes", "()[B"⟩ : MethodName)) hown (hw _ (List.mem_of_getElem? (i := 26) rfl)) (hw _ (List.mem_of_getElem? (i := 27) rfl)) (hw _ (List.mem_of_getElem? (i := 29) rfl)) (hw _ (List.mem_of_getElem? (i := 28) rfl)) (hw _ (List.mem_of_getElem? (i := 8) rfl)) (hw _ (List.mem_of_getElem? (i := 30) rfl)) (by decide) (W := 0) (rest := []) (argsL := []) (a := b125) (rmB l Z a0 hw [] b125 _ T129.heap n0 (by omega) Fa129) (by decide) (by decide) (by decide) (by decide) rfl A129 own_pd3 rfl (g := (mkF m 169 #[own_jv q0, .second, own_jv q1, .second, iv p4, iv p5, iv p6, rv b101, rv b102, iv f1, iv t1, iv f2, iv t2, iv (1 : Int32), rv b101, own_jv q0, .second, rv b125, iv (1 : Int32)] [(.ref b125)])) rfl (by rw [hml]; rfl) rfl (by show 2 * 0 + _ ≤ _; exact Nat.le_of_eq rfl) (hb hby at_169)
    obtain ⟨rfl, N130q, e130⟩ := Q130
    have N130 := Fr.app N129 N130q
    refine own_st st130 ?_
    show own_Goes p e below s _ _ (T130.setTop (mkF m 172 #[own_jv q0, .second, own_jv q1, .second, iv p4, iv p5, iv p6, rv b101, rv b102, iv f1, iv t1, iv f2, iv t2, iv (1 : Int32), rv b101, own_jv q0, .second, rv b125, iv (1 : Int32)] [(.ref b101)]))
    refine own_st (fun _ k => XS.aload X130.here hx rfl (hb hby at_172) rfl rfl  k) ?_
    show own_Goes p e below s _ _ (T130.setTop (mkF m 174 #[own_jv q0, .second, own_jv q1, .second, iv p4, iv p5, iv p6, rv b101, rv b102, iv f1, iv t1, iv f2, iv t2, iv (1 : Int32), rv b101, own_jv q0, .second, rv b125, iv (1 : Int32)] [(.ref b101), (.ref b101)]))
    refine own_st (fun _ k => Jvm.RoadKit.acmp (g := (mkF m 174 #[own_jv q0, .second, own_jv q1, .second, iv p4, iv p5, iv p6, rv b101, rv b102, iv f1, iv t1, iv f2, iv t2, iv (1 : Int32), rv b101, own_jv q0, .second, rv b125, iv (1 : Int32)] [(.ref b101), (.ref b101)])) X130 hx rfl rfl rfl (pc0 := 174) (pc' := 177) (same := true) rfl (hb hby at_174) rfl (decide_eq_true rfl) (by decide) (by decide) k) ?_
    show own_Goes p e below s _ _ (T130.setTop (mkF m 177 #[own_jv q0, .second, own_jv q1, .second, iv p4, iv p5, iv p6, rv b101, rv b102, iv f1, iv t1, iv f2, iv t2, iv (1 : Int32), rv b101, own_jv q0, .second, rv b125, iv (1 : Int32)] []))
    refine own_st (fun _ k => XS.aload X130.here hx rfl (hb hby at_177) rfl rfl  k) ?_
    show own_Goes p e below s _ _ (T130.setTop (mkF m 179 #[own_jv q0, .second, own_jv q1, .second, iv p4, iv p5, iv p6, rv b101, rv b102, iv f1, iv t1, iv f2, iv t2, iv (1 : Int32), rv b101, own_jv q0, .second, rv b125, iv (1 : Int32)] [(.ref b125)]))
    obtain ⟨v131, T131, L131, X131, Q131, st131⟩ := own_callV X130 hx hZ (C := "com/example/reach2/reach2/model/AsciiText") (y := (⟨"com/example/reach2/reach2/model/AsciiText", "from", "()I"⟩ : MethodName)) hown (hw _ (List.mem_of_getElem? (i := 31) rfl)) (hw _ (List.mem_of_getElem? (i := 32) rfl)) (hw _ (List.mem_of_getElem? (i := 34) rfl)) (hw _ (List.mem_of_getElem? (i := 33) rfl)) (hw _ (List.mem_of_getElem? (i := 8) rfl)) (hw _ (List.mem_of_getElem? (i := 35) rfl)) (by decide) (W := 0) (rest := []) (argsL := []) (a := b125) (rmFrom l Z a0 hw [] b125 _ T129.heap n0 (by omega) Fb129) (by decide) (by decide) (by decide) (by decide) e130 A129 own_pd4 rfl (g := (mkF m 179 #[own_jv q0, .second, own_jv q1, .second, iv p4, iv p5, iv p6, rv b101, rv b102, iv f1, iv t1, iv f2, iv t2, iv (1 : Int32), rv b101, own_jv q0, .second, rv b125, iv (1 : Int32)] [(.ref b125)])) rfl (by rw [hml]; rfl) rfl (by show 2 * 0 + _ ≤ _; exact Nat.le_of_eq rfl) (hb hby at_179)
    obtain ⟨rfl, N131q, e131⟩ := Q131
    have N131 := Fr.app N130 N131q
    refine own_st st131 ?_
    show own_Goes p e below s _ _ (T131.setTop (mkF m 182 #[own_jv q0, .second, own_jv q1, .second, iv p4, iv p5, iv p6, rv b101, rv b102, iv f1, iv t1, iv f2, iv t2, iv (1 : Int32), rv b101, own_jv q0, .second, rv b125, iv (1 : Int32)] [(.int f2)]))
    refine own_st (fun _ k => XS.iload X131.here hx rfl (hb hby at_182) rfl  k) ?_
    show own_Goes p e below s _ _ (T131.setTop (mkF m 184 #[own_jv q0, .second, own_jv q1, .second, iv p4, iv p5, iv p6, rv b101, rv b102, iv f1, iv t1, iv f2, iv t2, iv (1 : Int32), rv b101, own_jv q0, .second, rv b125, iv (1 : Int32)] [(.int f2), (.int f2)]))
    refine own_st (fun _ k => XS.icmpNo X131.here hx rfl (hb hby at_184) rfl (teq (rfl : f2 = f2)).2 k) ?_
    show own_Goes p e below s _ _ (T131.setTop (mkF m 187 #[own_jv q0, .second, own_jv q1, .second, iv p4, iv p5, iv p6, rv b101, rv b102, iv f1, iv t1, iv f2, iv t2, iv (1 : Int32), rv b101, own_jv q0, .second, rv b125, iv (1 : Int32)] []))
    refine own_st (fun _ k => XS.aload X131.here hx rfl (hb hby at_187) rfl rfl  k) ?_
    show own_Goes p e below s _ _ (T131.setTop (mkF m 189 #[own_jv q0, .second, own_jv q1, .second, iv p4, iv p5, iv p6, rv b101, rv b102, iv f1, iv t1, iv f2, iv t2, iv (1 : Int32), rv b101, own_jv q0, .second, rv b125, iv (1 : Int32)] [(.ref b125)]))
    obtain ⟨v132, T132, L132, X132, Q132, st132⟩ := own_callV X131 hx hZ (C := "com/example/reach2/reach2/model/AsciiText") (y := (⟨"com/example/reach2/reach2/model/AsciiText", "to", "()I"⟩ : MethodName)) hown (hw _ (List.mem_of_getElem? (i := 36) rfl)) (hw _ (List.mem_of_getElem? (i := 37) rfl)) (hw _ (List.mem_of_getElem? (i := 39) rfl)) (hw _ (List.mem_of_getElem? (i := 38) rfl)) (hw _ (List.mem_of_getElem? (i := 8) rfl)) (hw _ (List.mem_of_getElem? (i := 40) rfl)) (by decide) (W := 0) (rest := []) (argsL := []) (a := b125) (rmTo l Z a0 hw [] b125 _ T129.heap n0 (by omega) Fc129) (by decide) (by decide) (by decide) (by decide) e131 A129 own_pd4 rfl (g := (mkF m 189 #[own_jv q0, .second, own_jv q1, .second, iv p4, iv p5, iv p6, rv b101, rv b102, iv f1, iv t1, iv f2, iv t2, iv (1 : Int32), rv b101, own_jv q0, .second, rv b125, iv (1 : Int32)] [(.ref b125)])) rfl (by rw [hml]; rfl) rfl (by show 2 * 0 + _ ≤ _; exact Nat.le_of_eq rfl) (hb hby at_189)
    obtain ⟨rfl, N132q, e132⟩ := Q132
    have N132 := Fr.app N131 N132q
    refine own_st st132 ?_
    show own_Goes p e below s _ _ (T132.setTop (mkF m 192 #[own_jv q0, .second, own_jv q1, .second, iv p4, iv p5, iv p6, rv b101, rv b102, iv f1, iv t1, iv f2, iv t2, iv (1 : Int32), rv b101, own_jv q0, .second, rv b125, iv (1 : Int32)] [(.int t2)]))
    refine own_st (fun _ k => XS.iload X132.here hx rfl (hb hby at_192) rfl  k) ?_
    show own_Goes p e below s _ _ (T132.setTop (mkF m 194 #[own_jv q0, .second, own_jv q1, .second, iv p4, iv p5, iv p6, rv b101, rv b102, iv f1, iv t1, iv f2, iv t2, iv (1 : Int32), rv b101, own_jv q0, .second, rv b125, iv (1 : Int32)] [(.int t2), (.int t2)]))
    refine own_st (fun _ k => XS.icmpNo X132.here hx rfl (hb hby at_194) rfl (teq (rfl : t2 = t2)).2 k) ?_
    show own_Goes p e below s _ _ (T132.setTop (mkF m 197 #[own_jv q0, .second, own_jv q1, .second, iv p4, iv p5, iv p6, rv b101, rv b102, iv f1, iv t1, iv f2, iv t2, iv (1 : Int32), rv b101, own_jv q0, .second, rv b125, iv (1 : Int32)] []))
    refine own_st (fun _ k => XS.aload X132.here hx rfl (hb hby at_197) rfl rfl  k) ?_
    show own_Goes p e below s _ _ (T132.setTop (mkF m 199 #[own_jv q0, .second, own_jv q1, .second, iv p4, iv p5, iv p6, rv b101, rv b102, iv f1, iv t1, iv f2, iv t2, iv (1 : Int32), rv b101, own_jv q0, .second, rv b125, iv (1 : Int32)] [(.ref b125)]))
    obtain ⟨v133, T133, L133, X133, Q133, st133⟩ := own_callV X132 hx hZ (C := "com/example/reach2/reach2/model/AsciiText") (y := (⟨"com/example/reach2/reach2/model/AsciiText", "length", "()I"⟩ : MethodName)) hown (hw _ (List.mem_of_getElem? (i := 41) rfl)) (hw _ (List.mem_of_getElem? (i := 42) rfl)) (hw _ (List.mem_of_getElem? (i := 44) rfl)) (hw _ (List.mem_of_getElem? (i := 43) rfl)) (hw _ (List.mem_of_getElem? (i := 8) rfl)) (hw _ (List.mem_of_getElem? (i := 45) rfl)) (by decide) (W := 0) (rest := []) (argsL := []) (a := b125) (rmLen l Z a0 hw [] b125 _ _ T129.heap n0 (by omega) Fb129 Fc129) (by decide) (by decide) (by decide) (by decide) e132 A129 own_pd4 rfl (g := (mkF m 199 #[own_jv q0, .second, own_jv q1, .second, iv p4, iv p5, iv p6, rv b101, rv b102, iv f1, iv t1, iv f2, iv t2, iv (1 : Int32), rv b101, own_jv q0, .second, rv b125, iv (1 : Int32)] [(.ref b125)])) rfl (by rw [hml]; rfl) rfl (by show 2 * 0 + _ ≤ _; exact Nat.le_of_eq rfl) (hb hby at_199)
    obtain ⟨rfl, N133q, e133⟩ := Q133
    have N133 := Fr.app N132 N133q
    refine own_st st133 ?_
    show own_Goes p e below s _ _ (T133.setTop (mkF m 202 #[own_jv q0, .second, own_jv q1, .second, iv p4, iv p5, iv p6, rv b101, rv b102, iv f1, iv t1, iv f2, iv t2, iv (1 : Int32), rv b101, own_jv q0, .second, rv b125, iv (1 : Int32)] [(.int (t2 - f2))]))
    refine own_st (fun _ k => XS.iload X133.here hx rfl (hb hby at_202) rfl  k) ?_
    show own_Goes p e below s _ _ (T133.setTop (mkF m 204 #[own_jv q0, .second, own_jv q1, .second, iv p4, iv p5, iv p6, rv b101, rv b102, iv f1, iv t1, iv f2, iv t2, iv (1 : Int32), rv b101, own_jv q0, .second, rv b125, iv (1 : Int32)] [(.int t2), (.int (t2 - f2))]))
    refine own_st (fun _ k => XS.iload X133.here hx rfl (hb hby at_204) rfl  k) ?_
    show own_Goes p e below s _ _ (T133.setTop (mkF m 206 #[own_jv q0, .second, own_jv q1, .second, iv p4, iv p5, iv p6, rv b101, rv b102, iv f1, iv t1, iv f2, iv t2, iv (1 : Int32), rv b101, own_jv q0, .second, rv b125, iv (1 : Int32)] [(.int f2), (.int t2), (.int (t2 - f2))]))
    refine own_st (fun _ k => XS.isub X133.here hx rfl (hb hby at_206) rfl k) ?_
    show own_Goes p e below s _ _ (T133.setTop (mkF m 207 #[own_jv q0, .second, own_jv q1, .second, iv p4, iv p5, iv p6, rv b101, rv b102, iv f1, iv t1, iv f2, iv t2, iv (1 : Int32), rv b101, own_jv q0, .second, rv b125, iv (1 : Int32)] [(.int (t2 - f2)), (.int (t2 - f2))]))
    refine own_st (fun _ k => XS.icmpNo X133.here hx rfl (hb hby at_207) rfl (teq (rfl : (t2 - f2) = (t2 - f2))).2 k) ?_
    show own_Goes p e below s _ _ (T133.setTop (mkF m 210 #[own_jv q0, .second, own_jv q1, .second, iv p4, iv p5, iv p6, rv b101, rv b102, iv f1, iv t1, iv f2, iv t2, iv (1 : Int32), rv b101, own_jv q0, .second, rv b125, iv (1 : Int32)] []))
    refine own_st (fun _ k => XS.iconst X133.here hx rfl (hb hby at_210) k) ?_
    show own_Goes p e below s _ _ (T133.setTop (mkF m 211 #[own_jv q0, .second, own_jv q1, .second, iv p4, iv p5, iv p6, rv b101, rv b102, iv f1, iv t1, iv f2, iv t2, iv (1 : Int32), rv b101, own_jv q0, .second, rv b125, iv (1 : Int32)] [(.int (1 : Int32))]))
    refine own_st (fun _ k => XS.goto X133.here hx rfl (pc0 := 211) (pc' := 215) rfl (hb hby at_211) (by decide) (by decide) k) ?_
    show own_Goes p e below s _ _ (T133.setTop (mkF m 215 #[own_jv q0, .second, own_jv q1, .second, iv p4, iv p5, iv p6, rv b101, rv b102, iv f1, iv t1, iv f2, iv t2, iv (1 : Int32), rv b101, own_jv q0, .second, rv b125, iv (1 : Int32)] [(.int (1 : Int32))]))
    refine own_st (fun _ k => XS.istore X133.here hx rfl (hb hby at_215) rfl (l' := #[own_jv q0, .second, own_jv q1, .second, iv p4, iv p5, iv p6, rv b101, rv b102, iv f1, iv t1, iv f2, iv t2, iv (1 : Int32), rv b101, own_jv q0, .second, rv b125, iv (1 : Int32)]) rfl k) ?_
    show own_Goes p e below s _ _ (T133.setTop (mkF m 217 #[own_jv q0, .second, own_jv q1, .second, iv p4, iv p5, iv p6, rv b101, rv b102, iv f1, iv t1, iv f2, iv t2, iv (1 : Int32), rv b101, own_jv q0, .second, rv b125, iv (1 : Int32)] []))
    refine own_st (fun _ k => XS.iload X133.here hx rfl (hb hby at_217) rfl  k) ?_
    show own_Goes p e below s _ _ (T133.setTop (mkF m 219 #[own_jv q0, .second, own_jv q1, .second, iv p4, iv p5, iv p6, rv b101, rv b102, iv f1, iv t1, iv f2, iv t2, iv (1 : Int32), rv b101, own_jv q0, .second, rv b125, iv (1 : Int32)] [(.int t2)]))
    refine own_st (fun _ k => XS.iload X133.here hx rfl (hb hby at_219) rfl  k) ?_
    show own_Goes p e below s _ _ (T133.setTop (mkF m 221 #[own_jv q0, .second, own_jv q1, .second, iv p4, iv p5, iv p6, rv b101, rv b102, iv f1, iv t1, iv f2, iv t2, iv (1 : Int32), rv b101, own_jv q0, .second, rv b125, iv (1 : Int32)] [(.int f2), (.int t2)]))
    by_cases c134 : f2 < t2
    · have c134i : f2.toInt < t2.toInt := own_i_lt c134
      refine own_st (fun _ k => XS.icmpNo X133.here hx rfl (hb hby at_221) rfl (tlt c134).2.2.2 k) ?_
      show own_Goes p e below s _ _ (T133.setTop (mkF m 224 #[own_jv q0, .second, own_jv q1, .second, iv p4, iv p5, iv p6, rv b101, rv b102, iv f1, iv t1, iv f2, iv t2, iv (1 : Int32), rv b101, own_jv q0, .second, rv b125, iv (1 : Int32)] []))
      refine own_st (fun _ k => XS.iload X133.here hx rfl (hb hby at_224) rfl  k) ?_
      show own_Goes p e below s _ _ (T133.setTop (mkF m 226 #[own_jv q0, .second, own_jv q1, .second, iv p4, iv p5, iv p6, rv b101, rv b102, iv f1, iv t1, iv f2, iv t2, iv (1 : Int32), rv b101, own_jv q0, .second, rv b125, iv (1 : Int32)] [(.int (1 : Int32))]))
      refine own_st (fun _ k => XS.ifNo X133.here hx rfl (hb hby at_226) rfl ((if0 _ _).trans (feq (by decide : ¬ ((1 : Int32) = (0 : Int32)))).1) k) ?_
      show own_Goes p e below s _ _ (T133.setTop (mkF m 229 #[own_jv q0, .second, own_jv q1, .second, iv p4, iv p5, iv p6, rv b101, rv b102, iv f1, iv t1, iv f2, iv t2, iv (1 : Int32), rv b101, own_jv q0, .second, rv b125, iv (1 : Int32)] []))
      refine own_st (fun _ k => XS.aload X133.here hx rfl (hb hby at_229) rfl rfl  k) ?_
      show own_Goes p e below s _ _ (T133.setTop (mkF m 231 #[own_jv q0, .second, own_jv q1, .second, iv p4, iv p5, iv p6, rv b101, rv b102, iv f1, iv t1, iv f2, iv t2, iv (1 : Int32), rv b101, own_jv q0, .second, rv b125, iv (1 : Int32)] [(.ref b125)]))
      refine own_st (fun _ k => XS.iconst X133.here hx rfl (hb hby at_231) k) ?_
      show own_Goes p e below s _ _ (T133.setTop (mkF m 232 #[own_jv q0, .second, own_jv q1, .second, iv p4, iv p5, iv p6, rv b101, rv b102, iv f1, iv t1, iv f2, iv t2, iv (1 : Int32), rv b101, own_jv q0, .second, rv b125, iv (1 : Int32)] [(.int (0 : Int32)), (.ref b125)]))
      have f136 := (((((A101.keep K102 nin0).ext E125).keep K126 (ninS (own_ne (by omega)) nin0)).keep K127 (ninS (own_ne (by omega)) nin0)).keep K129 (ninS (own_ne (by omega)) nin0))
      have hi137 : 0 ≤ (f2 + (0 : Int32)).toInt ∧ (f2 + (0 : Int32)).toInt < (8 : Nat) := by exact own_in0 hf2 ht2 c134i
      obtain ⟨v135, T135, L135, X135, Q135, st135⟩ := own_callV X133 hx hZ (C := "com/example/reach2/reach2/model/AsciiText") (y := (⟨"com/example/reach2/reach2/model/AsciiText", "charAt", "(I)C"⟩ : MethodName)) hown (hw _ (List.mem_of_getElem? (i := 46) rfl)) (hw _ (List.mem_of_getElem? (i := 47) rfl)) (hw _ (List.mem_of_getElem? (i := 49) rfl)) (hw _ (List.mem_of_getElem? (i := 48) rfl)) (hw _ (List.mem_of_getElem? (i := 8) rfl)) (hw _ (List.mem_of_getElem? (i := 50) rfl)) (by decide) (W := 0) (rest := []) (argsL := [(.int (0 : Int32))]) (a := b125) (rmChar l Z a0 hw [] b125 (0 : Int32) _ _ _ _ T129.heap n0 (by omega) Fa129 Fb129 f136 B101 hi137 (own_idx hi137)) (by decide) (by decide) (by decide) (by decide) e133 A129 own_pd5 rfl (g := (mkF m 232 #[own_jv q0, .second, own_jv q1, .second, iv p4, iv p5, iv p6, rv b101, rv b102, iv f1, iv t1, iv f2, iv t2, iv (1 : Int32), rv b101, own_jv q0, .second, rv b125, iv (1 : Int32)] [(.int (0 : Int32)), (.ref b125)])) rfl (by rw [hml]; rfl) rfl (by show 2 * 0 + _ ≤ _; exact Nat.le_of_eq rfl) (hb hby at_232)
      obtain ⟨r135, rfl, hr135, N135q, e135⟩ := Q135
      have N135 := Fr.app N133 N135q
      refine own_st st135 ?_
      show own_Goes p e below s _ _ (T135.setTop (mkF m 235 #[own_jv q0, .second, own_jv q1, .second, iv p4, iv p5, iv p6, rv b101, rv b102, iv f1, iv t1, iv f2, iv t2, iv (1 : Int32), rv b101, own_jv q0, .second, rv b125, iv (1 : Int32)] [(.int r135)]))
      refine own_st (fun _ k => XS.lload X135.here hx rfl (hb hby at_235) rfl  k) ?_
      show own_Goes p e below s _ _ (T135.setTop (mkF m 237 #[own_jv q0, .second, own_jv q1, .second, iv p4, iv p5, iv p6, rv b101, rv b102, iv f1, iv t1, iv f2, iv t2, iv (1 : Int32), rv b101, own_jv q0, .second, rv b125, iv (1 : Int32)] [(.long q0), (.int r135)]))
      refine own_st (fun _ k => XS.iload X135.here hx rfl (hb hby at_237) rfl  k) ?_
      show own_Goes p e below s _ _ (T135.setTop (mkF m 239 #[own_jv q0, .second, own_jv q1, .second, iv p4, iv p5, iv p6, rv b101, rv b102, iv f1, iv t1, iv f2, iv t2, iv (1 : Int32), rv b101, own_jv q0, .second, rv b125, iv (1 : Int32)] [(.int f2), (.long q0), (.int r135)]))
      have hp139 : 0 ≤ f2.toInt ∧ f2.toInt < (8 : Nat) := by omega
      obtain ⟨v138, T138, L138, X138, Q138, st138⟩ := own_callS X135 hx hZ (y := (⟨"com/example/reach2/reach2/model/AsciiTextShowPinLaw", "at", "(JI)C"⟩ : MethodName)) hown (hw _ (List.mem_of_getElem? (i := 51) rfl)) (hw _ (List.mem_of_getElem? (i := 52) rfl)) (hw _ (List.mem_of_getElem? (i := 2) rfl)) (hw _ (List.mem_of_getElem? (i := 53) rfl)) (by decide) (W := 1) (rest := [(.int r135)]) (argsL := [(.long q0), (.int f2)]) (rmAt l Z a0 hw [] q0 f2 T129.heap n0 (by omega) hp139) (by decide) (by decide) (by decide) (by decide) e135 own_pd6 rfl (g := (mkF m 239 #[own_jv q0, .second, own_jv q1, .second, iv p4, iv p5, iv p6, rv b101, rv b102, iv f1, iv t1, iv f2, iv t2, iv (1 : Int32), rv b101, own_jv q0, .second, rv b125, iv (1 : Int32)] [(.int f2), (.long q0), (.int r135)])) rfl (by rw [hml]; rfl) rfl (by show 2 * 0 + _ ≤ _; exact Nat.le_of_eq rfl) (hb hby at_239)
      obtain ⟨r138, rfl, hr138, N138q, e138⟩ := Q138
      have N138 := Fr.app N135 N138q
      refine own_st st138 ?_
      show own_Goes p e below s _ _ (T138.setTop (mkF m 242 #[own_jv q0, .second, own_jv q1, .second, iv p4, iv p5, iv p6, rv b101, rv b102, iv f1, iv t1, iv f2, iv t2, iv (1 : Int32), rv b101, own_jv q0, .second, rv b125, iv (1 : Int32)] [(.int r138), (.int r135)]))
      by_cases c140 : r135 = r138
      · have c140i : r135.toInt = r138.toInt := own_i_eq c140
        refine own_st (fun _ k => XS.icmpNo X138.here hx rfl (hb hby at_242) rfl (teq c140).2 k) ?_
        show own_Goes p e below s _ _ (T138.setTop (mkF m 245 #[own_jv q0, .second, own_jv q1, .second, iv p4, iv p5, iv p6, rv b101, rv b102, iv f1, iv t1, iv f2, iv t2, iv (1 : Int32), rv b101, own_jv q0, .second, rv b125, iv (1 : Int32)] []))
        refine own_st (fun _ k => XS.aload X138.here hx rfl (hb hby at_245) rfl rfl  k) ?_
        show own_Goes p e below s _ _ (T138.setTop (mkF m 247 #[own_jv q0, .second, own_jv q1, .second, iv p4, iv p5, iv p6, rv b101, rv b102, iv f1, iv t1, iv f2, iv t2, iv (1 : Int32), rv b101, own_jv q0, .second, rv b125, iv (1 : Int32)] [(.ref b125)]))
        refine own_st (fun _ k => XS.iload X138.here hx rfl (hb hby at_247) rfl  k) ?_
        show own_Goes p e below s _ _ (T138.setTop (mkF m 249 #[own_jv q0, .second, own_jv q1, .second, iv p4, iv p5, iv p6, rv b101, rv b102, iv f1, iv t1, iv f2, iv t2, iv (1 : Int32), rv b101, own_jv q0, .second, rv b125, iv (1 : Int32)] [(.int t2), (.ref b125)]))
        refine own_st (fun _ k => XS.iload X138.here hx rfl (hb hby at_249) rfl  k) ?_
        show own_Goes p e below s _ _ (T138.setTop (mkF m 251 #[own_jv q0, .second, own_jv q1, .second, iv p4, iv p5, iv p6, rv b101, rv b102, iv f1, iv t1, iv f2, iv t2, iv (1 : Int32), rv b101, own_jv q0, .second, rv b125, iv (1 : Int32)] [(.int f2), (.int t2), (.ref b125)]))
        refine own_st (fun _ k => XS.isub X138.here hx rfl (hb hby at_251) rfl k) ?_
        show own_Goes p e below s _ _ (T138.setTop (mkF m 252 #[own_jv q0, .second, own_jv q1, .second, iv p4, iv p5, iv p6, rv b101, rv b102, iv f1, iv t1, iv f2, iv t2, iv (1 : Int32), rv b101, own_jv q0, .second, rv b125, iv (1 : Int32)] [(.int (t2 - f2)), (.ref b125)]))
        refine own_st (fun _ k => XS.iconst X138.here hx rfl (hb hby at_252) k) ?_
        show own_Goes p e below s _ _ (T138.setTop (mkF m 253 #[own_jv q0, .second, own_jv q1, .second, iv p4, iv p5, iv p6, rv b101, rv b102, iv f1, iv t1, iv f2, iv t2, iv (1 : Int32), rv b101, own_jv q0, .second, rv b125, iv (1 : Int32)] [(.int (1 : Int32)), (.int (t2 - f2)), (.ref b125)]))
        refine own_st (fun _ k => XS.isub X138.here hx rfl (hb hby at_253) rfl k) ?_
        show own_Goes p e below s _ _ (T138.setTop (mkF m 254 #[own_jv q0, .second, own_jv q1, .second, iv p4, iv p5, iv p6, rv b101, rv b102, iv f1, iv t1, iv f2, iv t2, iv (1 : Int32), rv b101, own_jv q0, .second, rv b125, iv (1 : Int32)] [(.int ((t2 - f2) - (1 : Int32))), (.ref b125)]))
        have hi142 : 0 ≤ (f2 + ((t2 - f2) - (1 : Int32))).toInt ∧ (f2 + ((t2 - f2) - (1 : Int32))).toInt < (8 : Nat) := by exact own_in1 hf2 ht2 c134i
        obtain ⟨v141, T141, L141, X141, Q141, st141⟩ := own_callV X138 hx hZ (C := "com/example/reach2/reach2/model/AsciiText") (y := (⟨"com/example/reach2/reach2/model/AsciiText", "charAt", "(I)C"⟩ : MethodName)) hown (hw _ (List.mem_of_getElem? (i := 46) rfl)) (hw _ (List.mem_of_getElem? (i := 47) rfl)) (hw _ (List.mem_of_getElem? (i := 49) rfl)) (hw _ (List.mem_of_getElem? (i := 48) rfl)) (hw _ (List.mem_of_getElem? (i := 8) rfl)) (hw _ (List.mem_of_getElem? (i := 50) rfl)) (by decide) (W := 0) (rest := []) (argsL := [(.int ((t2 - f2) - (1 : Int32)))]) (a := b125) (rmChar l Z a0 hw [] b125 ((t2 - f2) - (1 : Int32)) _ _ _ _ T129.heap n0 (by omega) Fa129 Fb129 f136 B101 hi142 (own_idx hi142)) (by decide) (by decide) (by decide) (by decide) e138 A129 own_pd5 rfl (g := (mkF m 254 #[own_jv q0, .second, own_jv q1, .second, iv p4, iv p5, iv p6, rv b101, rv b102, iv f1, iv t1, iv f2, iv t2, iv (1 : Int32), rv b101, own_jv q0, .second, rv b125, iv (1 : Int32)] [(.int ((t2 - f2) - (1 : Int32))), (.ref b125)])) rfl (by rw [hml]; rfl) rfl (by show 2 * 0 + _ ≤ _; exact Nat.le_of_eq rfl) (hb hby at_254)
        obtain ⟨r141, rfl, hr141, N141q, e141⟩ := Q141
        have N141 := Fr.app N138 N141q
        refine own_st st141 ?_
        show own_Goes p e below s _ _ (T141.setTop (mkF m 257 #[own_jv q0, .second, own_jv q1, .second, iv p4, iv p5, iv p6, rv b101, rv b102, iv f1, iv t1, iv f2, iv t2, iv (1 : Int32), rv b101, own_jv q0, .second, rv b125, iv (1 : Int32)] [(.int r141)]))
        refine own_st (fun _ k => XS.lload X141.here hx rfl (hb hby at_257) rfl  k) ?_
        show own_Goes p e below s _ _ (T141.setTop (mkF m 259 #[own_jv q0, .second, own_jv q1, .second, iv p4, iv p5, iv p6, rv b101, rv b102, iv f1, iv t1, iv f2, iv t2, iv (1 : Int32), rv b101, own_jv q0, .second, rv b125, iv (1 : Int32)] [(.long q0), (.int r141)]))
        refine own_st (fun _ k => XS.iload X141.here hx rfl (hb hby at_259) rfl  k) ?_
        show own_Goes p e below s _ _ (T141.setTop (mkF m 261 #[own_jv q0, .second, own_jv q1, .second, iv p4, iv p5, iv p6, rv b101, rv b102, iv f1, iv t1, iv f2, iv t2, iv (1 : Int32), rv b101, own_jv q0, .second, rv b125, iv (1 : Int32)] [(.int t2), (.long q0), (.int r141)]))
        refine own_st (fun _ k => XS.iconst X141.here hx rfl (hb hby at_261) k) ?_
        show own_Goes p e below s _ _ (T141.setTop (mkF m 262 #[own_jv q0, .second, own_jv q1, .second, iv p4, iv p5, iv p6, rv b101, rv b102, iv f1, iv t1, iv f2, iv t2, iv (1 : Int32), rv b101, own_jv q0, .second, rv b125, iv (1 : Int32)] [(.int (1 : Int32)), (.int t2), (.long q0), (.int r141)]))
        refine own_st (fun _ k => XS.isub X141.here hx rfl (hb hby at_262) rfl k) ?_
        show own_Goes p e below s _ _ (T141.setTop (mkF m 263 #[own_jv q0, .second, own_jv q1, .second, iv p4, iv p5, iv p6, rv b101, rv b102, iv f1, iv t1, iv f2, iv t2, iv (1 : Int32), rv b101, own_jv q0, .second, rv b125, iv (1 : Int32)] [(.int (t2 - (1 : Int32))), (.long q0), (.int r141)]))
        have hp144 : 0 ≤ (t2 - (1 : Int32)).toInt ∧ (t2 - (1 : Int32)).toInt < (8 : Nat) := by exact own_in2 hf2 ht2 c134i
        obtain ⟨v143, T143, L143, X143, Q143, st143⟩ := own_callS X141 hx hZ (y := (⟨"com/example/reach2/reach2/model/AsciiTextShowPinLaw", "at", "(JI)C"⟩ : MethodName)) hown (hw _ (List.mem_of_getElem? (i := 51) rfl)) (hw _ (List.mem_of_getElem? (i := 52) rfl)) (hw _ (List.mem_of_getElem? (i := 2) rfl)) (hw _ (List.mem_of_getElem? (i := 53) rfl)) (by decide) (W := 1) (rest := [(.int r141)]) (argsL := [(.long q0), (.int (t2 - (1 : Int32)))]) (rmAt l Z a0 hw [] q0 (t2 - (1 : Int32)) T129.heap n0 (by omega) hp144) (by decide) (by decide) (by decide) (by decide) e141 own_pd6 rfl (g := (mkF m 263 #[own_jv q0, .second, own_jv q1, .second, iv p4, iv p5, iv p6, rv b101, rv b102, iv f1, iv t1, iv f2, iv t2, iv (1 : Int32), rv b101, own_jv q0, .second, rv b125, iv (1 : Int32)] [(.int (t2 - (1 : Int32))), (.long q0), (.int r141)])) rfl (by rw [hml]; rfl) rfl (by show 2 * 0 + _ ≤ _; exact Nat.le_of_eq rfl) (hb hby at_263)
        obtain ⟨r143, rfl, hr143, N143q, e143⟩ := Q143
        have N143 := Fr.app N141 N143q
        refine own_st st143 ?_
        show own_Goes p e below s _ _ (T143.setTop (mkF m 266 #[own_jv q0, .second, own_jv q1, .second, iv p4, iv p5, iv p6, rv b101, rv b102, iv f1, iv t1, iv f2, iv t2, iv (1 : Int32), rv b101, own_jv q0, .second, rv b125, iv (1 : Int32)] [(.int r143), (.int r141)]))
        by_cases c145 : r141 = r143
        · have c145i : r141.toInt = r143.toInt := own_i_eq c145
          refine own_st (fun _ k => XS.icmpNo X143.here hx rfl (hb hby at_266) rfl (teq c145).2 k) ?_
          show own_Goes p e below s _ _ (T143.setTop (mkF m 269 #[own_jv q0, .second, own_jv q1, .second, iv p4, iv p5, iv p6, rv b101, rv b102, iv f1, iv t1, iv f2, iv t2, iv (1 : Int32), rv b101, own_jv q0, .second, rv b125, iv (1 : Int32)] []))
          refine own_st (fun _ k => XS.iconst X143.here hx rfl (hb hby at_269) k) ?_
          show own_Goes p e below s _ _ (T143.setTop (mkF m 270 #[own_jv q0, .second, own_jv q1, .second, iv p4, iv p5, iv p6, rv b101, rv b102, iv f1, iv t1, iv f2, iv t2, iv (1 : Int32), rv b101, own_jv q0, .second, rv b125, iv (1 : Int32)] [(.int (1 : Int32))]))
          refine own_st (fun _ k => XS.goto X143.here hx rfl (pc0 := 270) (pc' := 274) rfl (hb hby at_270) (by decide) (by decide) k) ?_
          show own_Goes p e below s _ _ (T143.setTop (mkF m 274 #[own_jv q0, .second, own_jv q1, .second, iv p4, iv p5, iv p6, rv b101, rv b102, iv f1, iv t1, iv f2, iv t2, iv (1 : Int32), rv b101, own_jv q0, .second, rv b125, iv (1 : Int32)] [(.int (1 : Int32))]))
          refine own_st (fun _ k => XS.istore X143.here hx rfl (hb hby at_274) rfl (l' := #[own_jv q0, .second, own_jv q1, .second, iv p4, iv p5, iv p6, rv b101, rv b102, iv f1, iv t1, iv f2, iv t2, iv (1 : Int32), rv b101, own_jv q0, .second, rv b125, iv (1 : Int32)]) rfl k) ?_
          show own_Goes p e below s _ _ (T143.setTop (mkF m 276 #[own_jv q0, .second, own_jv q1, .second, iv p4, iv p5, iv p6, rv b101, rv b102, iv f1, iv t1, iv f2, iv t2, iv (1 : Int32), rv b101, own_jv q0, .second, rv b125, iv (1 : Int32)] []))
          refine own_st (fun _ k => XS.iload X143.here hx rfl (hb hby at_276) rfl  k) ?_
          show own_Goes p e below s _ _ (T143.setTop (mkF m 278 #[own_jv q0, .second, own_jv q1, .second, iv p4, iv p5, iv p6, rv b101, rv b102, iv f1, iv t1, iv f2, iv t2, iv (1 : Int32), rv b101, own_jv q0, .second, rv b125, iv (1 : Int32)] [(.int (1 : Int32))]))
          exact own_retN X143 hx hlk (1 : Int32) hret (Or.inl rfl) rfl (hb hby at_278) (by decide) (by decide) ⟨rfl, N143⟩
        · have c145i : ¬ r141.toInt = r143.toInt := own_i_ne c145
          exfalso; exact c145 (own_same hr141 hr143 (own_k2 hf2 ht2 c134i))
      · have c140i : ¬ r135.toInt = r138.toInt := own_i_ne c140
        exfalso; exact c140 (own_same hr135 hr138 (own_k1 f2))
    · have c134i : t2.toInt ≤ f2.toInt := own_i_nlt c134
      refine own_st (fun _ k => XS.icmpYes X133.here hx rfl (pc0 := 221) (pc' := 276) rfl (hb hby at_221) rfl (flt c134).2.2.2 (by decide) (by decide) k) ?_
      show own_Goes p e below s _ _ (T133.setTop (mkF m 276 #[own_jv q0, .second, own_jv q1, .second, iv p4, iv p5, iv p6, rv b101, rv b102, iv f1, iv t1, iv f2, iv t2, iv (1 : Int32), rv b101, own_jv q0, .second, rv b125, iv (1 : Int32)] []))
      refine own_st (fun _ k => XS.iload X133.here hx rfl (hb hby at_276) rfl  k) ?_
      show own_Goes p e below s _ _ (T133.setTop (mkF m 278 #[own_jv q0, .second, own_jv q1, .second, iv p4, iv p5, iv p6, rv b101, rv b102, iv f1, iv t1, iv f2, iv t2, iv (1 : Int32), rv b101, own_jv q0, .second, rv b125, iv (1 : Int32)] [(.int (1 : Int32))]))
      exact own_retN X133 hx hlk (1 : Int32) hret (Or.inl rfl) rfl (hb hby at_278) (by decide) (by decide) ⟨rfl, N133⟩
set_option maxRecDepth 65536 in
set_option maxHeartbeats 40000000 in
theorem comes_1 {Post : Tables → Env → Array Value → State → Outcome → State → Prop} (hpost : ∀ tb e args s v u, (limb_1_1.after args s (.returned v) u = true ∧ limb_1_2.after args s (.returned v) u = true ∧ True) → FrameEnd s (.returned v) u (Jvm.fieldLocs frame_1_writes args s ++ Jvm.arrayLocs frame_1_arrays args s ++ Jvm.staticLocs frame_1_statics s) 16 128 → Post tb e args s (.returned v) u) :
    ArmFor flags0 classFile x code maxLocals ret World_1 tables_1 room_1 Calls_1 rest_1 Pre_1 Post := by
  intro l hfl _ _ p e ha hc hk s m args below hf hA hF happ hP
  obtain ⟨hcalls, hrest, hpre⟩ := hP
  obtain ⟨-, -, -, hnamed, -, -, -, hat⟩ := (Spec.applies_iff hf).mp happ
  obtain ⟨hg, hn⟩ := and_e (Cond.before_iff.mp (show (Jvm.Cond.and given_1 narrow_1).before args s = true from hpre))
  obtain ⟨hcnt, q0⟩ := and_e hg
  obtain ⟨u0, q1⟩ := and_e q0
  obtain ⟨u1, q2⟩ := and_e q1
  obtain ⟨u2, q3⟩ := and_e q2
  obtain ⟨u3, q4⟩ := and_e q3
  obtain ⟨w0, w1, w2, w3, w4, rfl⟩ : ∃ w0 w1 w2 w3 w4 : Value, args = #[w0, w1, w2, w3, w4] := by
    have hs : args.size = 5 := by simpa [Cond.value, given_1] using hcnt
    obtain ⟨L⟩ := args
    match L, hs with
    | [w0, w1, w2, w3, w4], _ => exact ⟨w0, w1, w2, w3, w4, rfl⟩
  have hw := fun d (hd : d ∈ tables_1) => atoms_spec (ws := Jvm.Cond.code x code maxLocals ret :: tables_1) hat d (List.mem_cons_of_mem _ hd)
  have hfit : Fit s := fun {y c} hc i hi => by
    obtain ⟨ha, rfl⟩ := Array.getElem?_eq_some_iff.mp hc
    have q := List.all_eq_true.mp ((Array.all_eq_true_iff_forall_mem.mp hF) _ (Array.getElem_mem ha)) i (List.mem_range.mpr hi)
    simpa [Array.getElem?_eq_getElem hi] using q
  obtain ⟨i0, ei0⟩ := isL_v u0
  obtain rfl : w0 = (.long i0) := Option.some.inj ei0
  obtain ⟨i1, ei1⟩ := isL_v u1
  obtain rfl : w1 = (.long i1) := Option.some.inj ei1
  obtain ⟨i2, ei2⟩ := is_v u2
  obtain rfl : w2 = (.int i2) := Option.some.inj ei2
  obtain ⟨i3, ei3⟩ := is_v u3
  obtain rfl : w3 = (.int i3) := Option.some.inj ei3
  obtain ⟨i4, ei4⟩ := is_v q4
  obtain rfl : w4 = (.int i4) := Option.some.inj ei4
  obtain ⟨n, o, h1, h2, h3, _, L, rfl, ⟨rfl, N⟩, hq⟩ := rm0 l s _ hw tables_1 i0 i1 i2 i3 i4 s.heap s.heap.size (Nat.le_refl _) p e ha hc hk s m _ below hf ((Spec.applies_iff_loose hf).mp happ).1 ⟨rfl, State.Warmed39.refl s, rfl⟩ trivial
  refine ⟨n, _, h1, h2, h3, hpost _ _ _ _ _ _ ⟨Cond.after_iff.mpr rfl, Cond.after_iff.mpr (eq_i res_at (Term.int_eval (1)) rfl), trivial⟩ ⟨hq.1, hq.2.1, (hq.2.2.sift fun y hy => Or.inr (N y hy)).mono (by decide) (by decide)⟩⟩
theorem main_1_1 : Claimed_1_1 := comes_1 fun _ _ _ _ _ _ h hF => ⟨h.1, hF⟩
theorem main_1_2 : Claimed_1_2 := comes_1 fun _ _ _ _ _ _ h hF => ⟨h.2.1, hF⟩
end Jvm.Pilot.@@N@@
namespace Jvm.Pilot.@@N@@
open Jvm Jvm.ClassFile Sem Op Lib Jvm.Free Jvm.Stand Jvm.Pilot.@@N@@.Jvm.D
/-! MADE BY PROGRAM (witnessworld.py) out of the Statement's table words and the real class files: 10 classes; the members and pool entries that the words name. The judged class is class 1, her method 3. -/
namespace start1
open Jvm.ClassFile
def u (s : String) : CpInfo := .utf8 (stringToUtf16 s)
/-- a pool by its gaps: so many unusable entries, then the entry; so many at the end -/
def gap : Nat → List CpInfo → List CpInfo
  | 0, r => r
  | n + 1, r => .unusable :: gap n r
def poolList (es : List (Nat × CpInfo)) (last : Nat) : List CpInfo := es.foldr (fun e r => gap e.1 (e.2 :: r)) (gap last [])
def pool (es : List (Nat × CpInfo)) (last : Nat) : Array CpInfo := ⟨poolList es last⟩
def fileOf (pool : Array CpInfo) (this : Nat) (attrs : Array Attribute := #[]) (ms : Array MethodInfo := #[]) (fl : Nat := 33) (sup : Nat := 0) (ifs : Array Nat := #[]) (fds : Array FieldInfo := #[]) : ClassFile where
  minorVersion := 0
  majorVersion := 65
  constantPool := pool
  accessFlags := fl
  thisClass := this
  superClass := sup
  interfaces := ifs
  fields := fds
  methods := ms
  attributes := attrs
def plain (name : String) (sup : Option ClassId) : Class where
  name := name
  kind := .ordinary
  loader := none
  accessFlags := 33
  super := sup
  interfaces := #[]
  cf := none
  fields := #[]
  methods := #[]
  instanceTypes := #[]
  staticTypes := #[]
  resolved := #[]
  callSites := []
  init := .initialized
  statics := none
  mirror := none

def pool0 : Array CpInfo := pool [(5, u "<init>"), (0, u "()V"), (1, .class_ 10), (1, u "java/lang/Object")] 113

def k0c0 : Code := { maxStack := 0, maxLocals := 1, code := object_method_1_code, exceptionTable := #[], attributes := #[] }
def k0m0 : Method := { name := "<init>", desc := "()V", sig := { parameters := [], returnType := none }, accessFlags := 1, code := some k0c0 }
/-- java/lang/Object -/
def k0 : Class := { plain "java/lang/Object" none with
  accessFlags := 33
  interfaces := #[]
  cf := some (fileOf pool0 8 #[] #[{ accessFlags := 1, nameIndex := 5, descriptorIndex := 6, attributes := #[] }] 33 0 #[] #[])
  fields := #[]
  methods := #[k0m0]
  instanceTypes := #[]
  staticTypes := #[]
  resolved := Array.replicate 124 none
  statics := none }

def pool1 : Array CpInfo := pool [(2, .class_ 4), (0, .nameAndType 5 6), (0, u "java/lang/Object"), (0, u "<init>"), (0, u "()V"), (0, .long 127), (1, .methodref 10 11), (0, .class_ 12), (0, .nameAndType 13 14), (0, u "com/example/reach2/reach2/model/AsciiTextShowPinLaw"), (0, u "fill"), (0, u "(J)[B"), (0, .class_ 16), (0, u "com/example/reach2/reach2/model/AsciiText"), (0, .methodref 15 3), (0, .methodref 15 19), (0, .nameAndType 20 21), (0, u "show"), (0, u "([BII)V"), (0, .methodref 15 23), (0, .nameAndType 24 25), (0, u "bytes"), (0, u "()[B"), (0, .methodref 15 27), (0, .nameAndType 28 29), (0, u "from"), (0, u "()I"), (0, .methodref 15 31), (0, .nameAndType 32 29), (0, u "to"), (0, .methodref 15 34), (0, .nameAndType 35 29), (0, u "length"), (0, .methodref 15 37), (0, .nameAndType 38 39), (0, u "charAt"), (0, u "(I)C"), (0, .methodref 10 41), (0, .nameAndType 42 43), (0, u "at"), (0, u "(JI)C"), (2, u "law"), (0, u "(JJIII)Z")] 5

def k1m0 : Method := { name := "<init>", desc := "()V", sig := { parameters := [], returnType := none }, accessFlags := 1, code := none }
def k1c1 : Code := { maxStack := 6, maxLocals := 3, code := method_2_code, exceptionTable := #[], attributes := #[] }
def k1m1 : Method := { name := "fill", desc := "(J)[B", sig := { parameters := [.long], returnType := some (.array .byte) }, accessFlags := 10, code := some k1c1 }
def k1c2 : Code := { maxStack := 4, maxLocals := 3, code := method_3_code, exceptionTable := #[], attributes := #[] }
def k1m2 : Method := { name := "at", desc := "(JI)C", sig := { parameters := [.long, .int], returnType := some .char }, accessFlags := 10, code := some k1c2 }
def k1c3 : Code := { maxStack := 5, maxLocals := 19, code := code, exceptionTable := #[], attributes := #[] }
def k1m3 : Method := { name := "law", desc := "(JJIII)Z", sig := { parameters := [.long, .long, .int, .int, .int], returnType := some .boolean }, accessFlags := 9, code := some k1c3 }
/-- com/example/reach2/reach2/model/AsciiTextShowPinLaw -/
def k1 : Class := { plain "com/example/reach2/reach2/model/AsciiTextShowPinLaw" (some 0) with
  accessFlags := 49
  interfaces := #[]
  cf := some (fileOf pool1 10 #[] #[{ accessFlags := 1, nameIndex := 5, descriptorIndex := 6, attributes := #[] }, { accessFlags := 10, nameIndex := 13, descriptorIndex := 14, attributes := #[] }, { accessFlags := 10, nameIndex := 42, descriptorIndex := 43, attributes := #[] }, { accessFlags := 9, nameIndex := 46, descriptorIndex := 47, attributes := #[] }] 49 2 #[] #[])
  fields := #[]
  methods := #[k1m0, k1m1, k1m2, k1m3]
  instanceTypes := #[]
  staticTypes := #[]
  resolved := Array.replicate 53 none
  statics := none }

def pool2 : Array CpInfo := pool [(2, .class_ 4), (1, u "java/lang/CharSequence"), (42, .class_ 48), (0, u "java/lang/CharSequence$1CodePointIterator"), (10, .class_ 60), (0, u "java/lang/CharSequence$1CharIterator"), (5, .class_ 67), (0, u "java/lang/Object")] 63

/-- java/lang/CharSequence -/
def k2 : Class := { plain "java/lang/CharSequence" (some 0) with
  accessFlags := 1537
  interfaces := #[]
  cf := some (fileOf pool2 2 #[.nestMembers #[47, 59]] #[] 1537 66 #[] #[])
  fields := #[]
  methods := #[]
  instanceTypes := #[]
  staticTypes := #[]
  resolved := Array.replicate 131 none
  statics := none }

def pool3 : Array CpInfo := pool [(1, .methodref 2 3), (0, .class_ 4), (0, .nameAndType 5 6), (0, u "java/lang/Object"), (0, u "<init>"), (0, u "()V"), (0, .fieldref 8 9), (0, .class_ 10), (0, .nameAndType 11 12), (0, u "com/example/reach2/reach2/model/AsciiText"), (0, u "bytes"), (0, u "[B"), (0, .fieldref 8 14), (0, .nameAndType 15 16), (0, u "from"), (0, u "I"), (0, .fieldref 8 18), (0, .nameAndType 19 16), (0, u "to"), (19, .class_ 40), (0, u "java/lang/CharSequence"), (2, u "show"), (0, u "([BII)V"), (1, u "()[B"), (0, u "()I"), (0, u "length"), (0, u "charAt"), (0, u "(I)C")] 4

def k3c0 : Code := { maxStack := 2, maxLocals := 1, code := prog_45_method_1_code, exceptionTable := #[], attributes := #[] }
def k3m0 : Method := { name := "<init>", desc := "()V", sig := { parameters := [], returnType := none }, accessFlags := 1, code := some k3c0 }
def k3c1 : Code := { maxStack := 2, maxLocals := 4, code := prog_45_method_2_code, exceptionTable := #[], attributes := #[] }
def k3m1 : Method := { name := "show", desc := "([BII)V", sig := { parameters := [(.array .byte), .int, .int], returnType := none }, accessFlags := 1, code := some k3c1 }
def k3c2 : Code := { maxStack := 1, maxLocals := 1, code := prog_45_method_3_code, exceptionTable := #[], attributes := #[] }
def k3m2 : Method := { name := "bytes", desc := "()[B", sig := { parameters := [], returnType := some (.array .byte) }, accessFlags := 0, code := some k3c2 }
def k3c3 : Code := { maxStack := 1, maxLocals := 1, code := prog_45_method_4_code, exceptionTable := #[], attributes := #[] }
def k3m3 : Method := { name := "from", desc := "()I", sig := { parameters := [], returnType := some .int }, accessFlags := 0, code := some k3c3 }
def k3c4 : Code := { maxStack := 1, maxLocals := 1, code := prog_45_method_5_code, exceptionTable := #[], attributes := #[] }
def k3m4 : Method := { name := "to", desc := "()I", sig := { parameters := [], returnType := some .int }, accessFlags := 0, code := some k3c4 }
def k3c5 : Code := { maxStack := 2, maxLocals := 1, code := prog_45_method_6_code, exceptionTable := #[], attributes := #[] }
def k3m5 : Method := { name := "length", desc := "()I", sig := { parameters := [], returnType := some .int }, accessFlags := 1, code := some k3c5 }
def k3c6 : Code := { maxStack := 3, maxLocals := 2, code := prog_45_method_7_code, exceptionTable := #[], attributes := #[] }
def k3m6 : Method := { name := "charAt", desc := "(I)C", sig := { parameters := [.int], returnType := some .char }, accessFlags := 1, code := some k3c6 }
/-- com/example/reach2/reach2/model/AsciiText -/
def k3 : Class := { plain "com/example/reach2/reach2/model/AsciiText" (some 0) with
  accessFlags := 49
  interfaces := #[2]
  cf := some (fileOf pool3 8 #[] #[{ accessFlags := 1, nameIndex := 5, descriptorIndex := 6, attributes := #[] }, { accessFlags := 1, nameIndex := 43, descriptorIndex := 44, attributes := #[] }, { accessFlags := 0, nameIndex := 11, descriptorIndex := 46, attributes := #[] }, { accessFlags := 0, nameIndex := 15, descriptorIndex := 47, attributes := #[] }, { accessFlags := 0, nameIndex := 19, descriptorIndex := 47, attributes := #[] }, { accessFlags := 1, nameIndex := 48, descriptorIndex := 47, attributes := #[] }, { accessFlags := 1, nameIndex := 49, descriptorIndex := 50, attributes := #[] }] 49 2 #[39] #[{ accessFlags := 2, nameIndex := 11, descriptorIndex := 12, attributes := #[] }, { accessFlags := 2, nameIndex := 15, descriptorIndex := 16, attributes := #[] }, { accessFlags := 2, nameIndex := 19, descriptorIndex := 16, attributes := #[] }])
  fields := #[{ name := "bytes", type := (.array .byte), accessFlags := 2, slot := 0, constantValue := 0 }, { name := "from", type := .int, accessFlags := 2, slot := 1, constantValue := 0 }, { name := "to", type := .int, accessFlags := 2, slot := 2, constantValue := 0 }]
  methods := #[k3m0, k3m1, k3m2, k3m3, k3m4, k3m5, k3m6]
  instanceTypes := #[(.array .byte), .int, .int]
  staticTypes := #[]
  resolved := Array.replicate 55 none
  statics := none }

def pool4 : Array CpInfo := pool [(1, u "java/lang/Cloneable"), (0, .class_ 1), (0, u "java/lang/Object"), (0, .class_ 3)] 3

/-- java/lang/Cloneable -/
def k4 : Class := { plain "java/lang/Cloneable" (some 0) with
  accessFlags := 1537
  interfaces := #[]
  cf := some (fileOf pool4 2 #[] #[] 1537 4 #[] #[])
  fields := #[]
  methods := #[]
  instanceTypes := #[]
  staticTypes := #[]
  resolved := Array.replicate 8 none
  statics := none }

def pool5 : Array CpInfo := pool [(1, u "java/io/Serializable"), (0, .class_ 1), (0, u "java/lang/Object"), (0, .class_ 3)] 3

/-- java/io/Serializable -/
def k5 : Class := { plain "java/io/Serializable" (some 0) with
  accessFlags := 1537
  interfaces := #[]
  cf := some (fileOf pool5 2 #[] #[] 1537 4 #[] #[])
  fields := #[]
  methods := #[]
  instanceTypes := #[]
  staticTypes := #[]
  resolved := Array.replicate 8 none
  statics := none }

/-- the primitive byte -/
def k6 : Class := { plain "byte" none with kind := .primitive 'B', accessFlags := 0x411 }
/-- [B -/
def k7 : Class := { plain "[B" (some 0) with kind := .array 6 .byte, interfaces := #[4, 5], accessFlags := 1041 }

/-- the primitive int -/
def k8 : Class := { plain "int" none with kind := .primitive 'I', accessFlags := 0x411 }
/-- [I -/
def k9 : Class := { plain "[I" (some 0) with kind := .array 8 .int, interfaces := #[4, 5], accessFlags := 1041 }

def heap : Heap := #[]
def classes : Array Class := #[k0, k1, k2, k3, k4, k5, k6, k7, k8, k9]
def interned : List (Array UInt16 × Addr) := []
def slotsUsed : Nat := 0
def theMethod : MethodId := ⟨1, 3⟩
def args0 : Array Value := #[.long 5, .long 6, .int 1, .int 2, .int 3]
def aboutOver (below : List Frame) : State where
  vm := { classes := classes, interned := interned.toArray }
  heap := heap
  slotsUsed := slotsUsed
  threads := #[{ frames := .invoking theMethod args0 :: below }]
def below0 : List Frame := [.native { method := ⟨0, 0⟩, args := #[] }]
def about1 : State := aboutOver below0
def p0 : Program := .bare "" "" ""
def e0 : Env := launch0.env 0 0 0
theorem w_frames : about1.frames = Frame.invoking theMethod args0 :: below0 := rfl
set_option maxRecDepth 65536 in
theorem w_args : argsFit about1.vm theMethod args0 = true := by decide +kernel
set_option maxRecDepth 65536 in
theorem w_heap : heapFits about1 = true := by decide +kernel
set_option maxRecDepth 65536 in
theorem w_runnable : about1.curStatus? = some .runnable := by decide +kernel
set_option maxRecDepth 65536 in
theorem w_alone : about1.alone = true := by decide +kernel
set_option maxRecDepth 65536 in
theorem w_named : about1.methodNamed? x = some theMethod := by decide +kernel
set_option maxRecDepth 65536 in
theorem w_hears : about1.hears theMethod below0 = true := by decide +kernel
set_option maxRecDepth 65536 in
theorem w_ripe : about1.ripe theMethod args0 below0 = true := by decide +kernel
theorem w_running : about1.status = .running := rfl
set_option maxRecDepth 65536 in
theorem w_room : about1.hasRoom e0.platform room_1 = true :=
  launch0.hasRoom_least _ room_1 (by decide +kernel) (by decide +kernel) (by decide +kernel) (by decide +kernel) (by decide +kernel) (by decide +kernel)
theorem allAtoms_all (ts : List Jvm.Cond) (a : Array Jvm.Value) (st : Jvm.State) : (allAtoms ts).before a st = ts.all (fun c => c.before a st) := by
  induction ts with
  | nil => rfl
  | cons c t ih =>
    show (Jvm.Cond.and c (allAtoms t)).before a st = _
    rw [Jvm.Cond.before_and, ih, List.all_cons]
def words1 : List Jvm.Cond := Jvm.Cond.code x code maxLocals ret :: tables_1
/-- a 'code' word, met by the world's own term for the bytes: nothing is compared byte by byte -/
theorem code_word {y : MethodName} {bytes : ByteArray} {mx : Nat} {rt : Option FieldType} {a : Array Value} {s : State} {m : MethodId} {meth : Method} {c : Code} (h1 : s.methodNamed? y = some m) (h2 : s.vm.method? m = some meth) (h3 : meth.code = some c) (h4 : c.code = bytes)
    (h5 : (c.maxLocals == mx && c.exceptionTable.isEmpty && decide (c.maxStack ≤ mostOperands) && decide (meth.sig.returnType = rt) && !meth.locks && decide (parseMethodDescriptor y.desc = some meth.sig)) = true) : (Jvm.Cond.code y bytes mx rt).before a s = true := by
  simp only [Bool.and_eq_true, beq_iff_eq, Bool.not_eq_true', decide_eq_true_eq] at h5
  obtain ⟨⟨⟨⟨⟨g1, g2⟩, g3⟩, g4⟩, g5⟩, g6⟩ := h5
  simp [Cond.before, Cond.holds, Cond.value, h1, h2, h3, h4, g1, g2, g3, g4, g5, g6]
def isCode : Jvm.Cond → Bool
  | .code _ _ _ _ => true
  | _ => false
theorem all_split {L : List Jvm.Cond} {P : Jvm.Cond → Bool} (h1 : L.all (fun c => isCode c || P c) = true) (h2 : ∀ c ∈ L.filter isCode, P c = true) : L.all P = true := by
  refine List.all_eq_true.mpr fun c hc => ?_
  have h := List.all_eq_true.mp h1 c hc
  rcases Bool.eq_false_or_eq_true (isCode c) with hi | hi
  · exact h2 c (List.mem_filter.mpr ⟨hc, hi⟩)
  · simpa [hi] using h
set_option maxRecDepth 65536 in
theorem w_c0 : (Jvm.Cond.code x code maxLocals ret).before args0 about1 = true := code_word (m := ⟨1, 3⟩) (meth := k1m3) (c := k1c3) (by decide +kernel) rfl rfl rfl (by decide +kernel)
set_option maxRecDepth 65536 in
theorem w_c1 : (Jvm.Cond.code ({ cls := "com/example/reach2/reach2/model/AsciiTextShowPinLaw", name := "fill", desc := "(J)[B" } : Jvm.MethodName) method_2_code (3 : Nat) (Option.some (Jvm.ClassFile.FieldType.array Jvm.ClassFile.FieldType.byte))).before args0 about1 = true := code_word (m := ⟨1, 1⟩) (meth := k1m1) (c := k1c1) (by decide +kernel) rfl rfl rfl (by decide +kernel)
set_option maxRecDepth 65536 in
theorem w_c2 : (Jvm.Cond.code ({ cls := "com/example/reach2/reach2/model/AsciiText", name := "<init>", desc := "()V" } : Jvm.MethodName) prog_45_method_1_code (1 : Nat) (Option.none : Option Jvm.ClassFile.FieldType)).before args0 about1 = true := code_word (m := ⟨3, 0⟩) (meth := k3m0) (c := k3c0) (by decide +kernel) rfl rfl rfl (by decide +kernel)
set_option maxRecDepth 65536 in
theorem w_c3 : (Jvm.Cond.code ({ cls := "java/lang/Object", name := "<init>", desc := "()V" } : Jvm.MethodName) object_method_1_code (1 : Nat) (Option.none : Option Jvm.ClassFile.FieldType)).before args0 about1 = true := code_word (m := ⟨0, 0⟩) (meth := k0m0) (c := k0c0) (by decide +kernel) rfl rfl rfl (by decide +kernel)
set_option maxRecDepth 65536 in
theorem w_c4 : (Jvm.Cond.code ({ cls := "com/example/reach2/reach2/model/AsciiText", name := "show", desc := "([BII)V" } : Jvm.MethodName) prog_45_method_2_code (4 : Nat) (Option.none : Option Jvm.ClassFile.FieldType)).before args0 about1 = true := code_word (m := ⟨3, 1⟩) (meth := k3m1) (c := k3c1) (by decide +kernel) rfl rfl rfl (by decide +kernel)
set_option maxRecDepth 65536 in
theorem w_c5 : (Jvm.Cond.code ({ cls := "com/example/reach2/reach2/model/AsciiText", name := "bytes", desc := "()[B" } : Jvm.MethodName) prog_45_method_3_code (1 : Nat) (Option.some (Jvm.ClassFile.FieldType.array Jvm.ClassFile.FieldType.byte))).before args0 about1 = true := code_word (m := ⟨3, 2⟩) (meth := k3m2) (c := k3c2) (by decide +kernel) rfl rfl rfl (by decide +kernel)
set_option maxRecDepth 65536 in
theorem w_c6 : (Jvm.Cond.code ({ cls := "com/example/reach2/reach2/model/AsciiText", name := "from", desc := "()I" } : Jvm.MethodName) prog_45_method_4_code (1 : Nat) (Option.some Jvm.ClassFile.FieldType.int)).before args0 about1 = true := code_word (m := ⟨3, 3⟩) (meth := k3m3) (c := k3c3) (by decide +kernel) rfl rfl rfl (by decide +kernel)
set_option maxRecDepth 65536 in
theorem w_c7 : (Jvm.Cond.code ({ cls := "com/example/reach2/reach2/model/AsciiText", name := "to", desc := "()I" } : Jvm.MethodName) prog_45_method_5_code (1 : Nat) (Option.some Jvm.ClassFile.FieldType.int)).before args0 about1 = true := code_word (m := ⟨3, 4⟩) (meth := k3m4) (c := k3c4) (by decide +kernel) rfl rfl rfl (by decide +kernel)
set_option maxRecDepth 65536 in
theorem w_c8 : (Jvm.Cond.code ({ cls := "com/example/reach2/reach2/model/AsciiText", name := "length", desc := "()I" } : Jvm.MethodName) prog_45_method_6_code (1 : Nat) (Option.some Jvm.ClassFile.FieldType.int)).before args0 about1 = true := code_word (m := ⟨3, 5⟩) (meth := k3m5) (c := k3c5) (by decide +kernel) rfl rfl rfl (by decide +kernel)
set_option maxRecDepth 65536 in
theorem w_c9 : (Jvm.Cond.code ({ cls := "com/example/reach2/reach2/model/AsciiText", name := "charAt", desc := "(I)C" } : Jvm.MethodName) prog_45_method_7_code (2 : Nat) (Option.some Jvm.ClassFile.FieldType.char)).before args0 about1 = true := code_word (m := ⟨3, 6⟩) (meth := k3m6) (c := k3c6) (by decide +kernel) rfl rfl rfl (by decide +kernel)
set_option maxRecDepth 65536 in
theorem w_c10 : (Jvm.Cond.code ({ cls := "com/example/reach2/reach2/model/AsciiTextShowPinLaw", name := "at", desc := "(JI)C" } : Jvm.MethodName) method_3_code (3 : Nat) (Option.some Jvm.ClassFile.FieldType.char)).before args0 about1 = true := code_word (m := ⟨1, 2⟩) (meth := k1m2) (c := k1c2) (by decide +kernel) rfl rfl rfl (by decide +kernel)
def codes1 : List Jvm.Cond := [Jvm.Cond.code x code maxLocals ret, Jvm.Cond.code ({ cls := "com/example/reach2/reach2/model/AsciiTextShowPinLaw", name := "fill", desc := "(J)[B" } : Jvm.MethodName) method_2_code (3 : Nat) (Option.some (Jvm.ClassFile.FieldType.array Jvm.ClassFile.FieldType.byte)), Jvm.Cond.code ({ cls := "com/example/reach2/reach2/model/AsciiText", name := "<init>", desc := "()V" } : Jvm.MethodName) prog_45_method_1_code (1 : Nat) (Option.none : Option Jvm.ClassFile.FieldType), Jvm.Cond.code ({ cls := "java/lang/Object", name := "<init>", desc := "()V" } : Jvm.MethodName) object_method_1_code (1 : Nat) (Option.none : Option Jvm.ClassFile.FieldType), Jvm.Cond.code ({ cls := "com/example/reach2/reach2/model/AsciiText", name := "show", desc := "([BII)V" } : Jvm.MethodName) prog_45_method_2_code (4 : Nat) (Option.none : Option Jvm.ClassFile.FieldType), Jvm.Cond.code ({ cls := "com/example/reach2/reach2/model/AsciiText", name := "bytes", desc := "()[B" } : Jvm.MethodName) prog_45_method_3_code (1 : Nat) (Option.some (Jvm.ClassFile.FieldType.array Jvm.ClassFile.FieldType.byte)), Jvm.Cond.code ({ cls := "com/example/reach2/reach2/model/AsciiText", name := "from", desc := "()I" } : Jvm.MethodName) prog_45_method_4_code (1 : Nat) (Option.some Jvm.ClassFile.FieldType.int), Jvm.Cond.code ({ cls := "com/example/reach2/reach2/model/AsciiText", name := "to", desc := "()I" } : Jvm.MethodName) prog_45_method_5_code (1 : Nat) (Option.some Jvm.ClassFile.FieldType.int), Jvm.Cond.code ({ cls := "com/example/reach2/reach2/model/AsciiText", name := "length", desc := "()I" } : Jvm.MethodName) prog_45_method_6_code (1 : Nat) (Option.some Jvm.ClassFile.FieldType.int), Jvm.Cond.code ({ cls := "com/example/reach2/reach2/model/AsciiText", name := "charAt", desc := "(I)C" } : Jvm.MethodName) prog_45_method_7_code (2 : Nat) (Option.some Jvm.ClassFile.FieldType.char), Jvm.Cond.code ({ cls := "com/example/reach2/reach2/model/AsciiTextShowPinLaw", name := "at", desc := "(JI)C" } : Jvm.MethodName) method_3_code (3 : Nat) (Option.some Jvm.ClassFile.FieldType.char)]
set_option maxRecDepth 65536 in
theorem codes_eq : words1.filter isCode = codes1 := rfl
theorem w_codes : ∀ c ∈ words1.filter isCode, c.before args0 about1 = true := by
  rw [codes_eq]
  intro c hc
  simp only [codes1, List.mem_cons, List.not_mem_nil, or_false] at hc
  rcases hc with rfl | rfl | rfl | rfl | rfl | rfl | rfl | rfl | rfl | rfl | rfl
  · exact w_c0
  · exact w_c1
  · exact w_c2
  · exact w_c3
  · exact w_c4
  · exact w_c5
  · exact w_c6
  · exact w_c7
  · exact w_c8
  · exact w_c9
  · exact w_c10
set_option maxRecDepth 65536 in
theorem w_t1 : (words1.take 24).all (fun c => isCode c || c.before args0 about1) = true := by decide +kernel
set_option maxRecDepth 65536 in
theorem w_t2 : ((words1.drop 24).take 24).all (fun c => isCode c || c.before args0 about1) = true := by decide +kernel
set_option maxRecDepth 65536 in
theorem w_t3 : ((words1.drop 24).drop 24).all (fun c => isCode c || c.before args0 about1) = true := by decide +kernel
theorem w_tables : (allAtoms (Jvm.Cond.code x code maxLocals ret :: tables_1)).before args0 about1 = true := by
  rw [allAtoms_all]
  show words1.all (fun c => c.before args0 about1) = true
  refine all_split ?_ w_codes
  rw [← List.take_append_drop 24 words1, List.all_append, w_t1, ← List.take_append_drop 24 (words1.drop 24), List.all_append, w_t2, w_t3]
  rfl
set_option maxRecDepth 65536 in
theorem w_case : (Jvm.Cond.and given_1 narrow_1).before args0 about1 = true := by decide +kernel
theorem w_applies : (headSpec (Jvm.Cond.code x code maxLocals ret :: tables_1) room_1).applies x e0.platform about1 = true :=
  (Spec.applies_iff w_frames).mpr ⟨w_running, w_runnable, w_alone, w_named, w_hears, w_ripe, w_room, w_tables⟩
theorem atStart : AtStart classFile x code maxLocals ret World_1 tables_1 room_1 Calls_1 rest_1 Pre_1 launch0 p0 e0 about1 theMethod args0 below0 :=
  ⟨lists_1, trivial, launch0.admits_env _ _ _, launch0.least_env, fairChoices_fair.cas, fairChoices_fair.clock, w_frames, w_args, w_heap, w_applies, trivial, trivial, w_case⟩
end start1
theorem witness_1 : WitnessClaimed_1 := ⟨start1.p0, start1.e0, start1.about1, start1.theMethod, start1.args0, start1.below0, start1.atStart⟩
end Jvm.Pilot.@@N@@
