import JvmDerived
import JvmDerived.Pilot.@@N@@Statement
import JvmDerived.Pilot.@@N@@Code
set_option linter.unusedVariables false
set_option linter.unusedSimpArgs false
namespace Jvm.Pilot.@@N@@
open Jvm Jvm.ClassFile Sem Op Lib Jvm.Free Jvm.Stand Jvm.LawKit Jvm.RoadKit Bundle Jvm.Pilot.@@N@@.Jvm.D
abbrev own_jv (x : Int64) : Slot := .val (.long x)
theorem own_i_lt {a b : Int32} (h : a < b) : a.toInt < b.toInt := Int32.lt_iff_toInt_lt.mp h
theorem own_i_nlt {a b : Int32} (h : ¬ a < b) : b.toInt ≤ a.toInt := Int.not_lt.mp fun q => h (Int32.lt_iff_toInt_lt.mpr q)
theorem own_i_eq {a b : Int32} (h : a = b) : a.toInt = b.toInt := congrArg Int32.toInt h
theorem own_i_ne {a b : Int32} (h : ¬ a = b) : ¬ a.toInt = b.toInt := fun q => h (Int32.toInt_inj.mp q)
theorem own_j_lt {a b : Int64} (h : a < b) : a.toInt < b.toInt := Int64.lt_iff_toInt_lt.mp h
theorem own_j_nlt {a b : Int64} (h : ¬ a < b) : b.toInt ≤ a.toInt := Int.not_lt.mp fun q => h (Int64.lt_iff_toInt_lt.mpr q)
theorem own_j_eq {a b : Int64} (h : a = b) : a.toInt = b.toInt := congrArg Int64.toInt h
theorem own_j_ne {a b : Int64} (h : ¬ a = b) : ¬ a.toInt = b.toInt := fun q => h (Int64.toInt_inj.mp q)
theorem own_b1 {P : Prop} (h : P) : ((1 : Int32).toInt = 1 ∧ P) ∨ ((1 : Int32).toInt = 0 ∧ ¬ P) := Or.inl ⟨by decide, h⟩
theorem own_b0 {P : Prop} (h : ¬ P) : ((0 : Int32).toInt = 1 ∧ P) ∨ ((0 : Int32).toInt = 0 ∧ ¬ P) := Or.inr ⟨by decide, h⟩
theorem own_cat {w : Value} (hw : w.isRef = true) : w.category = 1 := by rcases ref_cases hw with rfl | ⟨a, rfl⟩ <;> rfl
theorem own_fitR {t : FieldType} (ht : t.isReference = true) {w : Value} (hw : w.isRef = true) : fits t w = true := by
  rcases ref_cases hw with rfl | ⟨a, rfl⟩ <;> cases t <;> first | rfl | cases ht
theorem own_static {s : State} {args : Array Value} {C n d K : String} (h : (Jvm.Cond.exactly (Jvm.Term.static C n d) K).value args s none s [] = some true) (wi : (Jvm.Cond.initialized C).before args s = true) (wl : (Jvm.Cond.laysStatic C n d).before args s = true) : ∃ a, (Jvm.Term.static C n d).eval args s none [] s = some (.ref a) ∧ Sta s s.heap C n d (.ref a) ∧ Exa s s.heap a K := by
  obtain ⟨a, ev⟩ := exa_v h
  exact ⟨a, ev, Sta.start ev (Or.inr ⟨wi, wl⟩), Exa.start ev h⟩
theorem own_teq {s : State} {args : Array Value} {t : Jvm.Term} {x : Int32} (h : (Jvm.Cond.eq t (Jvm.Term.int x)).value args s none s [] = some true) : t.eval args s none [] s = some (.int x) := by
  simp only [Cond.value, Term.int_eval] at h
  cases hv : t.eval args s none [] s with
  | none => simp [hv] at h
  | some v => cases v <;> simp [hv] at h ⊢; exact h
theorem own_fint {s : State} {args : Array Value} {t : Jvm.Term} {C n d : String} {x : Int32} {a : Addr} (h : (Jvm.Cond.eq (Jvm.Term.field t C n d) (Jvm.Term.int x)).value args s none s [] = some true) (e : t.eval args s none [] s = some (.ref a)) : s.fieldOf? a C n d = some (.int x) := by
  have q := fld_at (C := C) (n := n) (dd := d) e
  simp only [Cond.value, q, Term.int_eval] at h
  cases hv : s.fieldOf? a C n d with
  | none => simp [hv] at h
  | some v => cases v <;> simp [hv] at h ⊢; exact h
theorem own_ord {s : State} {args : Array Value} {t t' : Jvm.Term} {C n d : String} {x y : Int32} {a b : Addr} (h : (Jvm.Cond.eq (Jvm.Term.field t C n d) (Jvm.Term.int x)).value args s none s [] = some true) (e : t.eval args s none [] s = some (.ref a)) (h' : (Jvm.Cond.eq (Jvm.Term.field t' C n d) (Jvm.Term.int y)).value args s none s [] = some true) (e' : t'.eval args s none [] s = some (.ref b)) (hn : x ≠ y) : ¬ a = b := fun q => by
  subst q
  have := (own_fint h e).symm.trans (own_fint h' e')
  cases this
  exact hn rfl
def own_O (Z : State) (a : Addr) (k : Int32) : Prop := Z.fieldOf? a "java/lang/Enum" "ordinal" "I" = some (.int k)
theorem own_one {Z : State} {a b : Addr} {i j : Int32} (h : own_O Z a i) (h' : own_O Z b j) (hn : i ≠ j) : ¬ a = b := fun q => by
  subst q
  have := Eq.symm h |>.trans h'
  cases this
  exact hn rfl
theorem own_fldR {s : State} {args : Array Value} {t : Jvm.Term} {C n d K : String} {a : Addr} (h : (Jvm.Cond.exactly (Jvm.Term.field t C n d) K).value args s none s [] = some true) (e : t.eval args s none [] s = some (.ref a)) : ∃ b, Fld s s.heap a C n d (.ref b) := by
  obtain ⟨b, ev⟩ := exa_v h
  rw [fld_at e] at ev
  exact ⟨b, Fld.start ev⟩
theorem own_fldN {s : State} {args : Array Value} {t : Jvm.Term} {C n d : String} {a : Addr} (h : (Jvm.Cond.eq (Jvm.Term.field t C n d) Jvm.Term.null).value args s none s [] = some true) (e : t.eval args s none [] s = some (.ref a)) : Fld s s.heap a C n d .null := by
  have ev := null_v h
  rw [fld_at e] at ev
  exact Fld.start ev
section OwnKit
variable {p : Program} {l : Launch} {e : Env} {R : Room} {s : State} {m : MethodId} {args : Array Value} {below : List Frame} {meth : Method} {c : Code} {T : State} {locs : List Loc} {cells slots : Nat} {Z : State} {a0 : Array Value} {h h' : Heap} {Q : Option Value → Heap → List Loc → Prop}
/-- from U the run comes to its end, and what it leaves is Q's -/
def own_Goes (p : Program) (e : Env) (below : List Frame) (s : State) (R : Room) (Q : Option Value → Heap → List Loc → Prop) (U : State) : Prop :=
  ∃ s₂ o, Steps p.tables e below U s₂ ∧ s₂.status = .running ∧ Ended s₂ below o ∧ ∃ v L, o = .returned v ∧ Q v s₂.heap L ∧ FrameEnd s o s₂ L R.cells R.slots
theorem own_st {U U' : State} (k : ∀ t, Steps p.tables e below U' t → Steps p.tables e below U t) (g : own_Goes p e below s R Q U') : own_Goes p e below s R Q U := by
  obtain ⟨s₂, o, h1, h2⟩ := g
  exact ⟨s₂, o, k _ h1, h2⟩
theorem own_fin (X : Stand p l e R s m args below meth c T locs cells slots) (hk : meth.locks = false) {v : Option Value} (hv : meth.sig.returnType = none → v = none) {U : State}
    (hs : ∀ fs, (∀ (f : JFrame) (acts : List Action), f.method = m → f.locked = none → f.entered = [] → (doReturn e (T.setTop f) acts v).1 = T.setFrames fs) → Steps p.tables e below U (T.setFrames fs))
    (hc : cells ≤ R.cells) (hl : slots ≤ R.slots) (q : Q v T.heap locs) : own_Goes p e below s R Q U := by
  obtain ⟨fs, hr, hrun, hended, hW, hsame⟩ := X.leave hv hk
  exact ⟨_, _, hs fs hr, hrun, hended, v, locs, rfl, q, ⟨v, rfl⟩, hW, hsame.mono hc hl⟩
theorem own_ret (X : Stand p l e R s m args below meth c T locs cells slots) (hx : p.tables.exec = Jvm.exec) (hk : meth.locks = false) {pc : Nat} {Ls : Array Slot} {w : Value} {t : FieldType} {i : Instr} {rest : List Value} (hret : meth.sig.returnType = some t) (hn : narrow t w = w)
    (hi : (i = .ireturn ∧ (t = .int ∨ t = .boolean ∨ t = .byte ∨ t = .char ∨ t = .short) ∧ ∃ z, w = .int z) ∨ (i = .lreturn ∧ t = .long ∧ ∃ z, w = .long z) ∨ (i = .dreturn ∧ t = .double ∧ ∃ z, w = .double z) ∨ (i = .freturn ∧ t = .float ∧ ∃ z, w = .float z) ∨ (i = .areturn ∧ t.isReference = true ∧ w.isRef = true))
    (hd : decode c.code pc = .ok (i, 1)) (hc : cells ≤ R.cells) (hl : slots ≤ R.slots) (q : Q (some w) T.heap locs) : own_Goes p e below s R Q (T.setTop (mkF m pc Ls (w :: rest))) :=
  own_fin X hk (fun h => by rw [hret] at h; cases h) (fun fs hr => retOut X hx hret hn hi hd hr) hc hl q
theorem own_retI (X : Stand p l e R s m args below meth c T locs cells slots) (hx : p.tables.exec = Jvm.exec) (hk : meth.locks = false) {pc : Nat} {Ls : Array Slot} {z : Int32} {rest : List Value} (hret : meth.sig.returnType = some .int)
    (hd : decode c.code pc = .ok (.ireturn, 1)) (hc : cells ≤ R.cells) (hl : slots ≤ R.slots) (q : Q (some (.int z)) T.heap locs) : own_Goes p e below s R Q (T.setTop (mkF m pc Ls (.int z :: rest))) :=
  own_ret X hx hk hret rfl (Or.inl ⟨rfl, Or.inl rfl, z, rfl⟩) hd hc hl q
theorem own_retJ (X : Stand p l e R s m args below meth c T locs cells slots) (hx : p.tables.exec = Jvm.exec) (hk : meth.locks = false) {pc : Nat} {Ls : Array Slot} {z : Int64} {rest : List Value} (hret : meth.sig.returnType = some .long)
    (hd : decode c.code pc = .ok (.lreturn, 1)) (hc : cells ≤ R.cells) (hl : slots ≤ R.slots) (q : Q (some (.long z)) T.heap locs) : own_Goes p e below s R Q (T.setTop (mkF m pc Ls (.long z :: rest))) :=
  own_ret X hx hk hret rfl (Or.inr (Or.inl ⟨rfl, rfl, z, rfl⟩)) hd hc hl q
theorem own_narR {t : FieldType} (ht : t.isReference = true) {w : Value} (hw : w.isRef = true) : narrow t w = w := by
  rcases ref_cases hw with rfl | ⟨a, rfl⟩ <;> cases t <;> first | rfl | cases ht
theorem own_retR (X : Stand p l e R s m args below meth c T locs cells slots) (hx : p.tables.exec = Jvm.exec) (hk : meth.locks = false) {pc : Nat} {Ls : Array Slot} {w : Value} {t : FieldType} {rest : List Value} (hret : meth.sig.returnType = some t) (ht : t.isReference = true) (hw : w.isRef = true)
    (hd : decode c.code pc = .ok (.areturn, 1)) (hc : cells ≤ R.cells) (hl : slots ≤ R.slots) (q : Q (some w) T.heap locs) : own_Goes p e below s R Q (T.setTop (mkF m pc Ls (w :: rest))) :=
  own_ret X hx hk hret (own_narR ht hw) (Or.inr (Or.inr (Or.inr (Or.inr ⟨rfl, ht, hw⟩)))) hd hc hl q
theorem own_retN (X : Stand p l e R s m args below meth c T locs cells slots) (hx : p.tables.exec = Jvm.exec) (hk : meth.locks = false) {pc : Nat} {Ls : Array Slot} {z : Int32} (z' : Int32) {t : FieldType} {rest : List Value} (hret : meth.sig.returnType = some t) (ht : t = .boolean ∨ t = .byte ∨ t = .char ∨ t = .short) (hz : nar t z = z')
    (hd : decode c.code pc = .ok (.ireturn, 1)) (hc : cells ≤ R.cells) (hl : slots ≤ R.slots) (q : Q (some (.int z')) T.heap locs) : own_Goes p e below s R Q (T.setTop (mkF m pc Ls (.int z :: rest))) := by
  subst hz
  exact own_fin X hk (fun h => by rw [hret] at h; cases h) (fun fs hr => retN X hx hret ht hd hr) hc hl q
theorem own_ret0 (X : Stand p l e R s m args below meth c T locs cells slots) (hx : p.tables.exec = Jvm.exec) (hk : meth.locks = false) {pc : Nat} {Ls : Array Slot} (hret : meth.sig.returnType = none)
    (hd : decode c.code pc = .ok (.return_, 1)) (hc : cells ≤ R.cells) (hl : slots ≤ R.slots) (q : Q none T.heap locs) : own_Goes p e below s R Q (T.setTop (mkF m pc Ls [])) :=
  own_fin X hk (fun _ => rfl) (fun fs hr => X.returnOut hx hret hd hr) hc hl q
theorem own_enter {y : MethodName} {bytes : ByteArray} {maxL : Nat} {ret : Option FieldType} {ws : List Jvm.Cond} {as' : Array Value} {h0 : Heap} {F : MethodId → JFrame}
    (hp : plainFor y = true) (hf : ∀ m, entryFrame m as' maxL = F m)
    (body : ∀ (p : Program) (e : Env) (s : State) (m : MethodId) (below : List Frame) (meth : Method) (c : Code) (T : State), Stand p l e R s m as' below meth c T [] 0 0 → p.tables.exec = Jvm.exec → c.code = bytes → c.maxLocals = maxL → meth.sig.returnType = ret → meth.locks = false → meth.name = y.name → s.vm.findClass y.cls = some m.cls → Z.Warmed39 s.vm → T.heap = h0 → own_Goes p e below s R Q (T.setTop (F m))) :
    MetFree l y (head1 (Jvm.Cond.code y bytes maxL ret :: ws) R) (fun a U => a = as' ∧ Z.Warmed39 U.vm ∧ U.heap = h0) (fun _ _ _ _ _ => True) (fun _ U o U' => ∃ v L, o = .returned v ∧ Q v U'.heap L ∧ FrameEnd U o U' L R.cells R.slots) := by
  refine MetFree.of_bodySF hp hisR ?_
  intro p e s m args below meth c s₁ Bd hml0 hP hK
  obtain ⟨rfl, hZ, hh⟩ := hP
  have e0 : s₁.heap = h0 := by rw [← hh, Bd.state]; rfl
  have g := body p e s m below meth c s₁ (Stand.of_body Bd) Bd.exec Bd.bytes hml0 Bd.returns Bd.notSynchronized (name_of_methodNamed Bd.named Bd.method).1 (findClass_of_methodNamed Bd.named) hZ e0
  rw [hf]
  exact g
theorem own_callS (X : Stand p l e R s m args below meth c T locs cells slots) (hx : p.tables.exec = Jvm.exec) (hZ : Z.Warmed39 s.vm) {own : String} {index : Nat} {y : MethodName} {bytes : ByteArray} {maxL : Nat} {ret : Option FieldType}
    (hown : s.vm.findClass own = some m.cls) (w1 : (Jvm.Cond.methodLink own index y).before a0 Z = true) (w2 : (Jvm.Cond.static y).before a0 Z = true) (w3 : (Jvm.Cond.initialized y.cls).before a0 Z = true) (w4 : (Jvm.Cond.code y bytes maxL ret).before a0 Z = true)
    (hy : y.cls ≠ "java/lang/invoke/MethodHandle" ∧ y.cls ≠ "java/lang/invoke/VarHandle") {W : Nat} {rm : Room} {argsL rest : List Value} {Qc : Option Value → Heap → List Loc → Prop}
    (hM : MetFree l y (head1 [Jvm.Cond.code y bytes maxL ret] rm) (fun a U => a = argsL.toArray ∧ Z.Warmed39 U.vm ∧ U.heap = h) (fun _ _ _ _ _ => True) (fun _ U o U' => ∃ v L, o = .returned v ∧ Qc v U'.heap L ∧ FrameEnd U o U' L rm.cells rm.slots))
    (hf : rm.frames + 1 ≤ R.frames) (hl : W + (maxL + 11) + rm.locals ≤ R.locals) (hc : cells + rm.cells ≤ R.cells) (hs : slots + rm.slots ≤ R.slots) (eT : T.heap = h)
    {ps : List FieldType} {r : Option FieldType} (hd : parseMethodDescriptor y.desc = some ⟨ps, r⟩) (hlen : argsL.length = ps.length)
    {g : JFrame} (hg : g.method = m) (hsize : g.locals.size = c.maxLocals) (hstack : g.stack = argsL.reverse ++ rest) (hW : 2 * g.monitorRoom + (rest.map fun v => v.category).sum ≤ W) (hdg : decode c.code g.pc = .ok (.invokestatic index, 3)) :
    ∃ (v : Option Value) (T' : State) (L : List Loc), Stand p l e R s m args below meth c T' (locs ++ L) (cells + rm.cells) (slots + rm.slots) ∧ Qc v T'.heap L ∧ ∀ t, Steps p.tables e below (T'.setTop { g with pc := g.pc + 3, stack := v.toList ++ rest }) t → Steps p.tables e below (T.setTop g) t := by
  obtain ⟨v, _, ⟨T', L', k', n'⟩, -, X', ⟨Lc, hQ, l', y', z'⟩, st⟩ := Jvm.LawKit.callS X hx (y := y) hown (mvT hZ w1) (mvT hZ w2) (mvT hZ w3) (mvT hZ w4) hy (backOf (W := W) hM hZ w4 w3 hf hl) hg hsize (argsL := argsL) (rest := rest) (lenOf hd hlen) hstack hW hdg (fun _ _ => ⟨rfl, eT, hc, hs⟩)
  dsimp only [Pt.U, Pt.locs, Pt.cells, Pt.slots] at X' l' y' z' st hQ
  subst l' y' z'
  exact ⟨v, T', Lc, X', hQ, st⟩
theorem own_callI (X : Stand p l e R s m args below meth c T locs cells slots) (hx : p.tables.exec = Jvm.exec) (hZ : Z.Warmed39 s.vm) {own : String} {index : Nat} {y : MethodName} {bytes : ByteArray} {maxL : Nat}
    (hown : s.vm.findClass own = some m.cls) (w1 : (Jvm.Cond.methodLink own index y).before a0 Z = true) (w2 : (Jvm.Cond.instanceMethod y).before a0 Z = true) (w3 : (Jvm.Cond.initialized y.cls).before a0 Z = true) (w4 : (Jvm.Cond.code y bytes maxL none).before a0 Z = true) (hy1 : y.name = "<init>")
    (hy : y.cls ≠ "java/lang/invoke/MethodHandle" ∧ y.cls ≠ "java/lang/invoke/VarHandle") {W : Nat} {rm : Room} {a : Addr} {argsL rest : List Value} {Qc : Option Value → Heap → List Loc → Prop}
    (hM : MetFree l y (head1 [Jvm.Cond.code y bytes maxL none] rm) (fun b U => b = (Value.ref a :: argsL).toArray ∧ Z.Warmed39 U.vm ∧ U.heap = h) (fun _ _ _ _ _ => True) (fun _ U o U' => ∃ v L, o = .returned v ∧ Qc v U'.heap L ∧ FrameEnd U o U' L rm.cells rm.slots))
    (hf : rm.frames + 1 ≤ R.frames) (hl : W + (maxL + 11) + rm.locals ≤ R.locals) (hc : cells + rm.cells ≤ R.cells) (hs : slots + rm.slots ≤ R.slots) (eT : T.heap = h)
    {ps : List FieldType} {r : Option FieldType} (hd : parseMethodDescriptor y.desc = some ⟨ps, r⟩) (hlen : argsL.length = ps.length)
    {g : JFrame} (hg : g.method = m) (hsize : g.locals.size = c.maxLocals) (hstack : g.stack = argsL.reverse ++ .ref a :: rest) (hW : 2 * g.monitorRoom + (rest.map fun v => v.category).sum ≤ W) (hdg : decode c.code g.pc = .ok (.invokespecial index, 3)) :
    ∃ (v : Option Value) (T' : State) (L : List Loc), Stand p l e R s m args below meth c T' (locs ++ L) (cells + rm.cells) (slots + rm.slots) ∧ Qc v T'.heap L ∧ ∀ t, Steps p.tables e below (T'.setTop { g with pc := g.pc + 3, stack := v.toList ++ rest }) t → Steps p.tables e below (T.setTop g) t := by
  obtain ⟨v, _, ⟨T', L', k', n'⟩, -, X', ⟨Lc, hQ, l', y', z'⟩, st⟩ := X.specialBack hx (y := y) hy1 hown (mvT hZ w1) (mvT hZ w2) (mvT hZ w4) hy (backOf (W := W) hM hZ w4 w3 hf hl) hg hsize (Steps.refl _) (a := a) (argsL := argsL) (rest := rest) (lenOf hd hlen) hstack hW hdg (fun _ _ => ⟨rfl, eT, hc, hs⟩)
  dsimp only [Pt.U, Pt.locs, Pt.cells, Pt.slots] at X' l' y' z' st hQ
  subst l' y' z'
  exact ⟨v, T', Lc, X', hQ, fun t k => st.trans k⟩
theorem own_callV (X : Stand p l e R s m args below meth c T locs cells slots) (hx : p.tables.exec = Jvm.exec) (hZ : Z.Warmed39 s.vm) {own C : String} {index : Nat} {y : MethodName} {bytes : ByteArray} {maxL : Nat} {ret : Option FieldType}
    (hown : s.vm.findClass own = some m.cls) (w1 : (Jvm.Cond.methodLink own index y).before a0 Z = true) (w5 : (Jvm.Cond.declares y).before a0 Z = true) (w6 : (Jvm.Cond.selects C y y).before a0 Z = true) (w2 : (Jvm.Cond.instanceMethod y).before a0 Z = true) (w3 : (Jvm.Cond.initialized y.cls).before a0 Z = true) (w4 : (Jvm.Cond.code y bytes maxL ret).before a0 Z = true)
    (hy : y.cls ≠ "java/lang/invoke/MethodHandle" ∧ y.cls ≠ "java/lang/invoke/VarHandle") {W : Nat} {rm : Room} {a : Addr} {argsL rest : List Value} {Qc : Option Value → Heap → List Loc → Prop}
    (hM : MetFree l y (head1 [Jvm.Cond.code y bytes maxL ret] rm) (fun b U => b = (Value.ref a :: argsL).toArray ∧ Z.Warmed39 U.vm ∧ U.heap = h) (fun _ _ _ _ _ => True) (fun _ U o U' => ∃ v L, o = .returned v ∧ Qc v U'.heap L ∧ FrameEnd U o U' L rm.cells rm.slots))
    (hf : rm.frames + 1 ≤ R.frames) (hl : W + (maxL + 11) + rm.locals ≤ R.locals) (hc : cells + rm.cells ≤ R.cells) (hs : slots + rm.slots ≤ R.slots) (eT : T.heap = h) (E : Exa Z h a C)
    {ps : List FieldType} {r : Option FieldType} (hd : parseMethodDescriptor y.desc = some ⟨ps, r⟩) (hlen : argsL.length = ps.length)
    {g : JFrame} (hg : g.method = m) (hsize : g.locals.size = c.maxLocals) (hstack : g.stack = argsL.reverse ++ .ref a :: rest) (hW : 2 * g.monitorRoom + (rest.map fun v => v.category).sum ≤ W) (hdg : decode c.code g.pc = .ok (.invokevirtual index, 3)) :
    ∃ (v : Option Value) (T' : State) (L : List Loc), Stand p l e R s m args below meth c T' (locs ++ L) (cells + rm.cells) (slots + rm.slots) ∧ Qc v T'.heap L ∧ ∀ t, Steps p.tables e below (T'.setTop { g with pc := g.pc + 3, stack := v.toList ++ rest }) t → Steps p.tables e below (T.setTop g) t := by
  obtain ⟨cq, kq, qa, qb, qc⟩ := isOf hZ eT E
  obtain ⟨v, _, ⟨T', L', k', n'⟩, -, X', ⟨Lc, hQ, l', y', z'⟩, st⟩ := X.virtualBack hx (y := y) (z := y) hown (mvT hZ w1) (mvT hZ w5) (notFace_of_selects (args := #[]) (mvT hZ w6)) (mvT hZ w6) (mvT hZ w2) hy (backOf (W := W) hM hZ w4 w3 hf hl) qa qc hg hsize (Steps.refl _) (argsL := argsL) (rest := rest) (lenOf hd hlen) hstack hW hdg (fun _ _ => ⟨rfl, eT, hc, hs⟩)
  dsimp only [Pt.U, Pt.locs, Pt.cells, Pt.slots] at X' l' y' z' st hQ
  subst l' y' z'
  exact ⟨v, T', Lc, X', hQ, fun t k => st.trans k⟩
theorem own_callP (X : Stand p l e R s m args below meth c T locs cells slots) (hx : p.tables.exec = Jvm.exec) (hZ : Z.Warmed39 s.vm) {own : String} {index : Nat} {y : MethodName} {bytes : ByteArray} {maxL : Nat} {ret : Option FieldType}
    (hown : s.vm.findClass own = some m.cls) (w1 : (Jvm.Cond.methodLink own index y).before a0 Z = true) (w5 : (Jvm.Cond.privateMethod y).before a0 Z = true) {ki : Nat} (w6 : (Jvm.Cond.instantiable y.cls ki).before a0 Z = true) (w2 : (Jvm.Cond.instanceMethod y).before a0 Z = true) (w3 : (Jvm.Cond.initialized y.cls).before a0 Z = true) (w4 : (Jvm.Cond.code y bytes maxL ret).before a0 Z = true)
    (hy : y.cls ≠ "java/lang/invoke/MethodHandle" ∧ y.cls ≠ "java/lang/invoke/VarHandle") {W : Nat} {rm : Room} {a : Addr} {argsL rest : List Value} {Qc : Option Value → Heap → List Loc → Prop} {C : String}
    (hM : MetFree l y (head1 [Jvm.Cond.code y bytes maxL ret] rm) (fun b U => b = (Value.ref a :: argsL).toArray ∧ Z.Warmed39 U.vm ∧ U.heap = h) (fun _ _ _ _ _ => True) (fun _ U o U' => ∃ v L, o = .returned v ∧ Qc v U'.heap L ∧ FrameEnd U o U' L rm.cells rm.slots))
    (hf : rm.frames + 1 ≤ R.frames) (hl : W + (maxL + 11) + rm.locals ≤ R.locals) (hc : cells + rm.cells ≤ R.cells) (hs : slots + rm.slots ≤ R.slots) (eT : T.heap = h) (E : Exa Z h a C)
    {ps : List FieldType} {r : Option FieldType} (hd : parseMethodDescriptor y.desc = some ⟨ps, r⟩) (hlen : argsL.length = ps.length)
    {g : JFrame} (hg : g.method = m) (hsize : g.locals.size = c.maxLocals) (hstack : g.stack = argsL.reverse ++ .ref a :: rest) (hW : 2 * g.monitorRoom + (rest.map fun v => v.category).sum ≤ W) (hdg : decode c.code g.pc = .ok (.invokevirtual index, 3)) :
    ∃ (v : Option Value) (T' : State) (L : List Loc), Stand p l e R s m args below meth c T' (locs ++ L) (cells + rm.cells) (slots + rm.slots) ∧ Qc v T'.heap L ∧ ∀ t, Steps p.tables e below (T'.setTop { g with pc := g.pc + 3, stack := v.toList ++ rest }) t → Steps p.tables e below (T.setTop g) t := by
  obtain ⟨cq, q1, q2⟩ := E.cell
  have hsel : (Jvm.Cond.selects y.cls y y).before args s = true := by
    obtain ⟨c2, k2, i1, i2, i3, i4, -⟩ := Cond.instantiable_spec (mv hZ w6 (args := args))
    exact selects_self_of_private i1 i2 (Bool.or_eq_false_iff.mp i4).1 (Cond.privateMethod_at (mvP hZ w5 (args := #[]))) (mvT hZ w2) hy
  obtain ⟨v, _, ⟨T', L', k', n'⟩, -, X', ⟨Lc, hQ, l', y', z'⟩, st⟩ := X.privateBack hx (y := y) hown (mvT hZ w1) (mvT hZ w2) hsel (Cond.privateMethod_at (mvP hZ w5 (args := #[]))) (mvT hZ w4) hy (backOf (W := W) hM hZ w4 w3 hf hl) hg hsize (Steps.refl _) (a := a) (by rw [eT]; exact q1) q2 (argsL := argsL) (rest := rest) (lenOf hd hlen) hstack hW hdg (fun _ _ => ⟨rfl, eT, hc, hs⟩)
  dsimp only [Pt.U, Pt.locs, Pt.cells, Pt.slots] at X' l' y' z' st hQ
  subst l' y' z'
  exact ⟨v, T', Lc, X', hQ, fun t k => st.trans k⟩
theorem own_sta_keep {C n d : String} {w : Value} {ws : List Addr} (F : Sta Z h C n d w) (K : Keep h h' ws) (q : ∀ x ∈ ws, ∀ c : Cell, h[x]? = some c → c.vm.isStatics = false) : Sta Z h' C n d w := by
  obtain ⟨cf, i, k, f, st, cell, h1, h2, h3, h4, h5, h6, h7⟩ := F
  exact ⟨cf, i, k, f, st, cell, h1, h2, h3, h4, K.2.1 _ _ h5 (fun hx => by have := q st hx cell h5; rw [this] at h6; cases h6), h6, h7⟩
theorem own_ext_keep (E : Ext h h') (ws : List Addr) : Keep h h' ws := (Keep.refl h ws).ext E
/-- an array at a: n places, the j-th holds f j -/
def own_Arf (Z : State) (h : Heap) (a : Addr) (ty : FieldType) (n : Nat) (f : Nat → Value) : Prop := ∃ c : Cell, Arr Z h a c ty ∧ c.slots.size = n ∧ ∀ j, j < n → c.slots[j]? = some (f j)
theorem own_Arf.lt {a : Addr} {ty : FieldType} {n : Nat} {f : Nat → Value} (F : own_Arf Z h a ty n f) : a < h.size := by obtain ⟨c, A, -⟩ := F; exact A.lt
theorem own_Arf.ext {a : Addr} {ty : FieldType} {n : Nat} {f : Nat → Value} (F : own_Arf Z h a ty n f) (E : Ext h h') : own_Arf Z h' a ty n f := by obtain ⟨c, A, r⟩ := F; exact ⟨c, A.ext E, r⟩
theorem own_Arf.other {a b : Addr} {ty : FieldType} {n : Nat} {f : Nat → Value} {sl : Nat} {v : Value} (F : own_Arf Z h b ty n f) (W : Wr h h' a sl v) (q : b ≠ a) : own_Arf Z h' b ty n f := by obtain ⟨c, A, r⟩ := F; exact ⟨c, A.other W q, r⟩
theorem own_Arf.keep {a : Addr} {ty : FieldType} {n : Nat} {f : Nat → Value} {ws : List Addr} (F : own_Arf Z h a ty n f) (K : Keep h h' ws) (q : a ∉ ws) : own_Arf Z h' a ty n f := by obtain ⟨c, A, r⟩ := F; exact ⟨c, ⟨K.2.1 a c A.1 q, A.2⟩, r⟩
theorem own_Arf.congr {a : Addr} {ty : FieldType} {n : Nat} {f f' : Nat → Value} (F : own_Arf Z h a ty n f) (q : ∀ j, j < n → f j = f' j) : own_Arf Z h a ty n f' := by obtain ⟨c, A, r1, r2⟩ := F; exact ⟨c, A, r1, fun j hj => by rw [← q j hj]; exact r2 j hj⟩
theorem own_Arf.set {a : Addr} {ty : FieldType} {n : Nat} {f : Nat → Value} {i : Nat} {v : Value} (F : own_Arf Z h a ty n f) (W : Wr h h' a i v) : own_Arf Z h' a ty n (fun k => if k = i then v else f k) := by
  obtain ⟨c, A, r1, r2⟩ := F
  refine ⟨c.setSlot i v, A.same W, by rw [sz_set]; exact r1, fun j hj => ?_⟩
  show (c.slots.setIfInBounds i v)[j]? = some (if j = i then v else f j)
  by_cases q : j = i
  · subst q
    simp [r1, hj]
  · rw [Array.getElem?_setIfInBounds_ne (Ne.symm q), if_neg q]
    exact r2 j hj
theorem own_Arf.setI {a : Addr} {ty : FieldType} {n : Nat} {f : Nat → Int32} {i : Nat} {x : Int32} (F : own_Arf Z h a ty n (fun k => .int (f k))) (W : Wr h h' a i (.int x)) : own_Arf Z h' a ty n (fun k => .int (if k = i then x else f k)) :=
  (own_Arf.set F W).congr fun k _ => by show (if k = i then Value.int x else .int (f k)) = .int (if k = i then x else f k); split <;> rfl
theorem own_Arf.setJ {a : Addr} {ty : FieldType} {n : Nat} {f : Nat → Int64} {i : Nat} {x : Int64} (F : own_Arf Z h a ty n (fun k => .long (f k))) (W : Wr h h' a i (.long x)) : own_Arf Z h' a ty n (fun k => .long (if k = i then x else f k)) :=
  (own_Arf.set F W).congr fun k _ => by show (if k = i then Value.long x else .long (f k)) = .long (if k = i then x else f k); split <;> rfl
theorem own_inb {c : Cell} {n : Nat} {j : Int32} (S : c.slots.size = n) (q : 0 ≤ j.toInt ∧ j.toInt < (n : Int)) : ¬ (j < 0 ∨ c.slots.size ≤ j.toNatClampNeg) := by
  rw [S]
  rintro (q1 | q1)
  · have := Int32.lt_iff_toInt_lt.mp q1
    simp at this
    omega
  · have h1 : j.toNatClampNeg = j.toInt.toNat := rfl
    omega
theorem own_idx {n : Nat} {j : Int32} (q : 0 ≤ j.toInt ∧ j.toInt < (n : Int)) : j.toNatClampNeg < n := by
  have h1 : j.toNatClampNeg = j.toInt.toNat := rfl
  omega
theorem own_newP (X : Stand p l e R s m args below meth c T locs cells slots) (hx : p.tables.exec = Jvm.exec) (hZ : Z.Warmed39 s.vm) {aty : ArrayType} (w : (Jvm.Cond.arrayClass (newarray.typeOf aty)).before a0 Z = true) (eT : T.heap = h) {g : JFrame} (hg : g.method = m) (hd : decode c.code g.pc = .ok (.newarray aty, 2)) {n : Int32} {rest : List Value} (hs : g.stack = .int n :: rest)
    (hn : ¬ n < 0) {cap : Nat} (hcap : n.toNatClampNeg ≤ cap) (hb : cap * 8 ≤ 536870912) (hc : cells + 1 ≤ R.cells) (hl : slots + cap ≤ R.slots) :
    ∃ T' h', Stand p l e R s m args below meth c T' locs (cells + 1) (slots + cap) ∧ T'.heap = h' ∧ Ext h h' ∧ own_Arf Z h' h.size (newarray.typeOf aty) n.toNatClampNeg (fun _ => defaultValue (newarray.typeOf aty)) ∧
      ∀ target, Steps p.tables e below (T'.setTop { g with pc := g.pc + 2, stack := .ref h.size :: rest }) target → Steps p.tables e below (T.setTop g) target := by
  obtain ⟨T', h', cA, X', e', E', A', st⟩ := newP X hx hZ w eT hg hd hs hn hcap hb hc hl
  refine ⟨T', h', X', e', E', ⟨_, A', sz_new _ _ _, fun j hj => ?_⟩, st⟩
  simp [newA, hj]
theorem own_newPE (X : Stand p l e R s m args below meth c T locs cells slots) (hx : p.tables.exec = Jvm.exec) (hZ : Z.Warmed39 s.vm) {aty : ArrayType} (w : (Jvm.Cond.arrayClass (newarray.typeOf aty)).before a0 Z = true) (eT : T.heap = h) {g : JFrame} (hg : g.method = m) (hd : decode c.code g.pc = .ok (.newarray aty, 2)) {n : Int32} {rest : List Value} (hs : g.stack = .int n :: rest)
    (hn : ¬ n < 0) {cap : Nat} (hcap : n.toNatClampNeg ≤ cap) (hb : cap * 8 ≤ 536870912) (hc : cells + 1 ≤ R.cells) (hl : slots + cap ≤ R.slots) {ad : String} (had : "[" ++ (newarray.typeOf aty).toString = ad) :
    ∃ T' h', Stand p l e R s m args below meth c T' locs (cells + 1) (slots + cap) ∧ T'.heap = h' ∧ Ext h h' ∧ own_Arf Z h' h.size (newarray.typeOf aty) n.toNatClampNeg (fun _ => defaultValue (newarray.typeOf aty)) ∧ Exa Z h' h.size ad ∧
      ∀ target, Steps p.tables e below (T'.setTop { g with pc := g.pc + 2, stack := .ref h.size :: rest }) target → Steps p.tables e below (T.setTop g) target := by
  obtain ⟨T', h', cA, X', e', E', A', Ex, st⟩ := newPE X hx hZ w eT hg hd hs hn hcap hb hc hl had
  refine ⟨T', h', X', e', E', ⟨_, A', sz_new _ _ _, fun j hj => ?_⟩, Ex, st⟩
  simp [newA, hj]
theorem own_cloneA (X : Stand p l e R s m args below meth c T locs cells slots) (hx : p.tables.exec = Jvm.exec) (hZ : Z.Warmed39 s.vm) {own ad : String} {index : Nat} (hown : s.vm.findClass own = some m.cls)
    (w1 : (Jvm.Cond.methodLink own index ⟨ad, "clone", "()Ljava/lang/Object;"⟩).before a0 Z = true) (w2 : (Jvm.Cond.sameMethod ad "java/lang/Object" "clone" "()Ljava/lang/Object;").before a0 Z = true) (w3 : (Jvm.Cond.native ⟨"java/lang/Object", "clone", "()Ljava/lang/Object;"⟩).before a0 Z = true)
    (w4 : (Jvm.Cond.instanceMethod ⟨"java/lang/Object", "clone", "()Ljava/lang/Object;"⟩).before a0 Z = true) (w5 : (Jvm.Cond.selects ad ⟨ad, "clone", "()Ljava/lang/Object;"⟩ ⟨"java/lang/Object", "clone", "()Ljava/lang/Object;"⟩).before a0 Z = true) (w6 : (Jvm.Cond.castable ad "java/lang/Cloneable").before a0 Z = true)
    (eT : T.heap = h) {a : Addr} {ty : FieldType} {n : Nat} {f : Nat → Value} (A : own_Arf Z h a ty n f) (E : Exa Z h a ad) (hfit : ∀ k, k < n → fits ty (f k) = true) {g : JFrame} (hg : g.method = m) (hsize : g.locals.size = c.maxLocals) {rest : List Value} (hs : g.stack = .ref a :: rest) (hd : decode c.code g.pc = .ok (.invokevirtual index, 3))
    (hf : 1 ≤ R.frames) {W : Nat} (hW : 2 * g.monitorRoom + (rest.map fun v => v.category).sum ≤ W) (hl : W + 14 ≤ R.locals) (hc : cells + 1 ≤ R.cells) (hsl : slots + n ≤ R.slots) :
    ∃ T' h', Stand p l e R s m args below meth c T' locs (cells + 1) (slots + n) ∧ T'.heap = h' ∧ Ext h h' ∧ own_Arf Z h' h.size ty n f ∧ Exa Z h' h.size ad ∧
      ∀ target, Steps p.tables e below (T'.setTop { g with pc := g.pc + 3, stack := .ref h.size :: rest }) target → Steps p.tables e below (T.setTop g) target := by
  obtain ⟨cl, A1, A2, A3⟩ := A
  have FC : FitC Z cl := fitC_of A1 fun i hi v hv => by
    rw [A3 i (by omega)] at hv
    cases hv
    exact hfit i (by omega)
  obtain ⟨T', h', X', e', ex, A', E', st⟩ := cloneA X hx hZ hown w1 w2 w3 w4 w5 w6 eT A1 E FC hg hsize hs hd hf hW hl (Nat.le_of_eq A2) hc hsl
  exact ⟨T', h', X', e', ex, ⟨cloneOf cl, A', A2, A3⟩, E', st⟩
theorem own_len (X : Stand p l e R s m args below meth c T locs cells slots) (hx : p.tables.exec = Jvm.exec) (hZ : Z.Warmed39 s.vm) (eT : T.heap = h) {a : Addr} {ty : FieldType} {n : Nat} {f : Nat → Value} (A : own_Arf Z h a ty n f) {g : JFrame} (hg : g.method = m) {rest : List Value} (hs : g.stack = .ref a :: rest) (hd : decode c.code g.pc = .ok (.arraylength, 1)) :
    ∀ t, Steps p.tables e below (T.setTop { g with pc := g.pc + 1, stack := .int n.toInt32 :: rest }) t → Steps p.tables e below (T.setTop g) t := by
  obtain ⟨cl, A1, A2, A3⟩ := A
  intro t k
  subst A2
  exact X.arraylength hx (by rw [eT]; exact A1.1) (State.isArrayOf_alike hZ.alike A1.2.1) hg hs hd _ k
theorem own_ldI (X : Stand p l e R s m args below meth c T locs cells slots) (hx : p.tables.exec = Jvm.exec) (hZ : Z.Warmed39 s.vm) (eT : T.heap = h) {a : Addr} {n : Nat} {f : Nat → Int32} (A : own_Arf Z h a .int n (fun k => .int (f k))) {j : Int32} (q : 0 ≤ j.toInt ∧ j.toInt < (n : Int)) {g : JFrame} (hg : g.method = m) {rest : List Value} (hs : g.stack = .int j :: .ref a :: rest) (hd : decode c.code g.pc = .ok (.iaload, 1)) :
    ∀ t, Steps p.tables e below (T.setTop { g with pc := g.pc + 1, stack := .int (f j.toNatClampNeg) :: rest }) t → Steps p.tables e below (T.setTop g) t := by
  obtain ⟨cl, A1, A2, A3⟩ := A
  exact fun t k => X.iaload hx (by rw [eT]; exact A1.1) (State.isArrayOf_alike hZ.alike A1.2.1) A1.2.2 (own_inb A2 q) (A3 _ (own_idx q)) hg hs hd _ k
theorem own_ldJ (X : Stand p l e R s m args below meth c T locs cells slots) (hx : p.tables.exec = Jvm.exec) (hZ : Z.Warmed39 s.vm) (eT : T.heap = h) {a : Addr} {n : Nat} {f : Nat → Int64} (A : own_Arf Z h a .long n (fun k => .long (f k))) {j : Int32} (q : 0 ≤ j.toInt ∧ j.toInt < (n : Int)) {g : JFrame} (hg : g.method = m) {rest : List Value} (hs : g.stack = .int j :: .ref a :: rest) (hd : decode c.code g.pc = .ok (.laload, 1)) :
    ∀ t, Steps p.tables e below (T.setTop { g with pc := g.pc + 1, stack := .long (f j.toNatClampNeg) :: rest }) t → Steps p.tables e below (T.setTop g) t := by
  obtain ⟨cl, A1, A2, A3⟩ := A
  exact fun t k => X.laload hx (by rw [eT]; exact A1.1) (State.isArrayOf_alike hZ.alike A1.2.1) A1.2.2 (own_inb A2 q) (A3 _ (own_idx q)) hg hs hd _ k
theorem own_ldC (X : Stand p l e R s m args below meth c T locs cells slots) (hx : p.tables.exec = Jvm.exec) (hZ : Z.Warmed39 s.vm) (eT : T.heap = h) {a : Addr} {n : Nat} {f : Nat → Int32} (A : own_Arf Z h a .char n (fun k => .int (f k))) {j : Int32} (q : 0 ≤ j.toInt ∧ j.toInt < (n : Int)) {g : JFrame} (hg : g.method = m) {rest : List Value} (hs : g.stack = .int j :: .ref a :: rest) (hd : decode c.code g.pc = .ok (.caload, 1)) :
    ∀ t, Steps p.tables e below (T.setTop { g with pc := g.pc + 1, stack := .int (f j.toNatClampNeg) :: rest }) t → Steps p.tables e below (T.setTop g) t := by
  obtain ⟨cl, A1, A2, A3⟩ := A
  exact fun t k => X.caload hx (by rw [eT]; exact A1.1) (State.isArrayOf_alike hZ.alike A1.2.1) A1.2.2 (own_inb A2 q) (A3 _ (own_idx q)) hg hs hd _ k
theorem own_ldS (X : Stand p l e R s m args below meth c T locs cells slots) (hx : p.tables.exec = Jvm.exec) (hZ : Z.Warmed39 s.vm) (eT : T.heap = h) {a : Addr} {n : Nat} {f : Nat → Int32} (A : own_Arf Z h a .short n (fun k => .int (f k))) {j : Int32} (q : 0 ≤ j.toInt ∧ j.toInt < (n : Int)) {g : JFrame} (hg : g.method = m) {rest : List Value} (hs : g.stack = .int j :: .ref a :: rest) (hd : decode c.code g.pc = .ok (.saload, 1)) :
    ∀ t, Steps p.tables e below (T.setTop { g with pc := g.pc + 1, stack := .int (f j.toNatClampNeg) :: rest }) t → Steps p.tables e below (T.setTop g) t := by
  obtain ⟨cl, A1, A2, A3⟩ := A
  exact fun t k => X.saload hx (by rw [eT]; exact A1.1) (State.isArrayOf_alike hZ.alike A1.2.1) A1.2.2 (own_inb A2 q) (A3 _ (own_idx q)) hg hs hd _ k
theorem own_ldB (X : Stand p l e R s m args below meth c T locs cells slots) (hx : p.tables.exec = Jvm.exec) (hZ : Z.Warmed39 s.vm) (eT : T.heap = h) {a : Addr} {n : Nat} {f : Nat → Int32} (A : own_Arf Z h a .byte n (fun k => .int (f k))) {j : Int32} (q : 0 ≤ j.toInt ∧ j.toInt < (n : Int)) {g : JFrame} (hg : g.method = m) {rest : List Value} (hs : g.stack = .int j :: .ref a :: rest) (hd : decode c.code g.pc = .ok (.baload, 1)) :
    ∀ t, Steps p.tables e below (T.setTop { g with pc := g.pc + 1, stack := .int (f j.toNatClampNeg) :: rest }) t → Steps p.tables e below (T.setTop g) t := by
  obtain ⟨cl, A1, A2, A3⟩ := A
  exact fun t k => X.baloadBytes hx (by rw [eT]; exact A1.1) (State.isArrayOf_alike hZ.alike A1.2.1) A1.2.2 (own_inb A2 q) (A3 _ (own_idx q)) hg hs hd _ k
theorem own_ldR (X : Stand p l e R s m args below meth c T locs cells slots) (hx : p.tables.exec = Jvm.exec) (hZ : Z.Warmed39 s.vm) (eT : T.heap = h) {a : Addr} {ty : FieldType} (hty : ty.isReference = true) {n : Nat} {f : Nat → Value} (A : own_Arf Z h a ty n f) {j : Int32} (q : 0 ≤ j.toInt ∧ j.toInt < (n : Int)) {g : JFrame} (hg : g.method = m) {rest : List Value} (hs : g.stack = .int j :: .ref a :: rest) (hd : decode c.code g.pc = .ok (.aaload, 1)) :
    ∀ t, Steps p.tables e below (T.setTop { g with pc := g.pc + 1, stack := f j.toNatClampNeg :: rest }) t → Steps p.tables e below (T.setTop g) t := by
  obtain ⟨cl, A1, A2, A3⟩ := A
  exact fun t k => X.aaload hx (by rw [eT]; exact A1.1) (State.isArrayOf_alike hZ.alike A1.2.1) hty A1.2.2 (own_inb A2 q) (A3 _ (own_idx q)) hg hs hd _ k
theorem own_stI (X : Stand p l e R s m args below meth c T locs cells slots) (hx : p.tables.exec = Jvm.exec) (hZ : Z.Warmed39 s.vm) (eT : T.heap = h) {a : Addr} {n : Nat} {f : Nat → Int32} (A : own_Arf Z h a .int n (fun k => .int (f k))) {j x : Int32} (q : 0 ≤ j.toInt ∧ j.toInt < (n : Int)) {g : JFrame} (hg : g.method = m) {rest : List Value} (hs : g.stack = .int x :: .int j :: .ref a :: rest) (hd : decode c.code g.pc = .ok (.iastore, 1)) :
    ∃ T' h', Stand p l e R s m args below meth c T' (locs ++ [⟨a, j.toNatClampNeg⟩]) cells slots ∧ T'.heap = h' ∧ Wr h h' a j.toNatClampNeg (.int x) ∧ own_Arf Z h' a .int n (fun k => .int (if k = j.toNatClampNeg then x else f k)) ∧ ∀ t, Steps p.tables e below (T'.setTop { g with pc := g.pc + 1, stack := rest }) t → Steps p.tables e below (T.setTop g) t := by
  obtain ⟨cl, A1, A2, A3⟩ := id A
  obtain ⟨T', h', X', e', W, st⟩ := stI X hx hZ eT A1 (own_inb A2 q) hg hs hd
  exact ⟨T', h', X', e', W, own_Arf.setI A W, st⟩
theorem own_stJ (X : Stand p l e R s m args below meth c T locs cells slots) (hx : p.tables.exec = Jvm.exec) (hZ : Z.Warmed39 s.vm) (eT : T.heap = h) {a : Addr} {n : Nat} {f : Nat → Int64} (A : own_Arf Z h a .long n (fun k => .long (f k))) {j : Int32} {x : Int64} (q : 0 ≤ j.toInt ∧ j.toInt < (n : Int)) {g : JFrame} (hg : g.method = m) {rest : List Value} (hs : g.stack = .long x :: .int j :: .ref a :: rest) (hd : decode c.code g.pc = .ok (.lastore, 1)) :
    ∃ T' h', Stand p l e R s m args below meth c T' (locs ++ [⟨a, j.toNatClampNeg⟩]) cells slots ∧ T'.heap = h' ∧ Wr h h' a j.toNatClampNeg (.long x) ∧ own_Arf Z h' a .long n (fun k => .long (if k = j.toNatClampNeg then x else f k)) ∧ ∀ t, Steps p.tables e below (T'.setTop { g with pc := g.pc + 1, stack := rest }) t → Steps p.tables e below (T.setTop g) t := by
  obtain ⟨cl, A1, A2, A3⟩ := id A
  obtain ⟨T', h', X', e', W, st⟩ := stJ X hx hZ eT A1 (own_inb A2 q) hg hs hd
  exact ⟨T', h', X', e', W, own_Arf.setJ A W, st⟩
theorem own_stC (X : Stand p l e R s m args below meth c T locs cells slots) (hx : p.tables.exec = Jvm.exec) (hZ : Z.Warmed39 s.vm) (eT : T.heap = h) {a : Addr} {n : Nat} {f : Nat → Int32} (A : own_Arf Z h a .char n (fun k => .int (f k))) {j x : Int32} (q : 0 ≤ j.toInt ∧ j.toInt < (n : Int)) {g : JFrame} (hg : g.method = m) {rest : List Value} (hs : g.stack = .int x :: .int j :: .ref a :: rest) (hd : decode c.code g.pc = .ok (.castore, 1)) :
    ∃ T' h', Stand p l e R s m args below meth c T' (locs ++ [⟨a, j.toNatClampNeg⟩]) cells slots ∧ T'.heap = h' ∧ Wr h h' a j.toNatClampNeg (.int (nar .char x)) ∧ own_Arf Z h' a .char n (fun k => .int (if k = j.toNatClampNeg then nar .char x else f k)) ∧ ∀ t, Steps p.tables e below (T'.setTop { g with pc := g.pc + 1, stack := rest }) t → Steps p.tables e below (T.setTop g) t := by
  obtain ⟨cl, A1, A2, A3⟩ := id A
  obtain ⟨T', h', X', e', W, st⟩ := stC X hx hZ eT A1 (own_inb A2 q) hg hs hd
  exact ⟨T', h', X', e', W, own_Arf.setI A W, st⟩
theorem own_stS (X : Stand p l e R s m args below meth c T locs cells slots) (hx : p.tables.exec = Jvm.exec) (hZ : Z.Warmed39 s.vm) (eT : T.heap = h) {a : Addr} {n : Nat} {f : Nat → Int32} (A : own_Arf Z h a .short n (fun k => .int (f k))) {j x : Int32} (q : 0 ≤ j.toInt ∧ j.toInt < (n : Int)) {g : JFrame} (hg : g.method = m) {rest : List Value} (hs : g.stack = .int x :: .int j :: .ref a :: rest) (hd : decode c.code g.pc = .ok (.sastore, 1)) :
    ∃ T' h', Stand p l e R s m args below meth c T' (locs ++ [⟨a, j.toNatClampNeg⟩]) cells slots ∧ T'.heap = h' ∧ Wr h h' a j.toNatClampNeg (.int (nar .short x)) ∧ own_Arf Z h' a .short n (fun k => .int (if k = j.toNatClampNeg then nar .short x else f k)) ∧ ∀ t, Steps p.tables e below (T'.setTop { g with pc := g.pc + 1, stack := rest }) t → Steps p.tables e below (T.setTop g) t := by
  obtain ⟨cl, A1, A2, A3⟩ := id A
  obtain ⟨T', h', X', e', W, st⟩ := stS X hx hZ eT A1 (own_inb A2 q) hg hs hd
  exact ⟨T', h', X', e', W, own_Arf.setI A W, st⟩
theorem own_stB (X : Stand p l e R s m args below meth c T locs cells slots) (hx : p.tables.exec = Jvm.exec) (hZ : Z.Warmed39 s.vm) (eT : T.heap = h) {a : Addr} {n : Nat} {f : Nat → Int32} (A : own_Arf Z h a .byte n (fun k => .int (f k))) {j x : Int32} (q : 0 ≤ j.toInt ∧ j.toInt < (n : Int)) {g : JFrame} (hg : g.method = m) {rest : List Value} (hs : g.stack = .int x :: .int j :: .ref a :: rest) (hd : decode c.code g.pc = .ok (.bastore, 1)) :
    ∃ T' h', Stand p l e R s m args below meth c T' (locs ++ [⟨a, j.toNatClampNeg⟩]) cells slots ∧ T'.heap = h' ∧ Wr h h' a j.toNatClampNeg (.int (nar .byte x)) ∧ own_Arf Z h' a .byte n (fun k => .int (if k = j.toNatClampNeg then nar .byte x else f k)) ∧ ∀ t, Steps p.tables e below (T'.setTop { g with pc := g.pc + 1, stack := rest }) t → Steps p.tables e below (T.setTop g) t := by
  obtain ⟨cl, A1, A2, A3⟩ := id A
  obtain ⟨T', h', X', e', W, st⟩ := stB X hx hZ eT A1 (own_inb A2 q) hg hs hd
  exact ⟨T', h', X', e', W, own_Arf.setI A W, st⟩
theorem own_newR (X : Stand p l e R s m args below meth c T locs cells slots) (hx : p.tables.exec = Jvm.exec) (hZ : Z.Warmed39 s.vm) {own C : String} {index : Nat} (hown : s.vm.findClass own = some m.cls) (w1 : (Jvm.Cond.classLink own index C).before a0 Z = true) (w2 : (Jvm.Cond.arrayOver (.object C)).before a0 Z = true)
    (eT : T.heap = h) {g : JFrame} (hg : g.method = m) (hd : decode c.code g.pc = .ok (.anewarray index, 3)) {n : Int32} {rest : List Value} (hs : g.stack = .int n :: rest) (hn : ¬ n < 0) {cap : Nat} (hcap : n.toNatClampNeg ≤ cap) (hb : cap * 8 ≤ 536870912) (hc : cells + 1 ≤ R.cells) (hl : slots + cap ≤ R.slots) :
    ∃ T' h', Stand p l e R s m args below meth c T' locs (cells + 1) (slots + cap) ∧ T'.heap = h' ∧ Ext h h' ∧ (∃ cl : Cell, h'[h.size]? = some cl ∧ Ovr Z cl.cls C) ∧ own_Arf Z h' h.size (.object C) n.toNatClampNeg (fun _ => .null) ∧
      ∀ target, Steps p.tables e below (T'.setTop { g with pc := g.pc + 3, stack := .ref h.size :: rest }) target → Steps p.tables e below (T.setTop g) target := by
  obtain ⟨T', h', cA, X', e', E', A', O', st⟩ := newR X hx hZ hown w1 w2 eT hg hd hs hn hcap hb hc hl
  refine ⟨T', h', X', e', E', ⟨_, A'.1, O'⟩, ⟨_, A', sz_new _ _ _, fun j hj => ?_⟩, st⟩
  simp [newA, hj, defaultValue]
/-- an array of objects of C: the class of the array is C's -/
def own_Ovr (Z : State) (h : Heap) (a : Addr) (C : String) : Prop := ∃ cl : Cell, h[a]? = some cl ∧ Ovr Z cl.cls C
theorem own_Ovr.ext {a : Addr} {C : String} (F : own_Ovr Z h a C) (E : Ext h h') : own_Ovr Z h' a C := by obtain ⟨cl, h1, h2⟩ := F; exact ⟨cl, E.2 _ _ h1, h2⟩
theorem own_Ovr.wr {a b : Addr} {C : String} {sl : Nat} {v : Value} (F : own_Ovr Z h a C) (W : Wr h h' b sl v) : own_Ovr Z h' a C := by
  obtain ⟨cl, h1, h2⟩ := F
  obtain ⟨c', e1, e2, -⟩ := wr_at W h1
  exact ⟨c', e1, by rw [e2]; exact h2⟩
theorem own_Ovr.keep {a : Addr} {C : String} {ws : List Addr} (F : own_Ovr Z h a C) (K : Keep h h' ws) : own_Ovr Z h' a C := by
  obtain ⟨cl, h1, h2⟩ := F
  obtain ⟨c', e1, e2, -⟩ := K.2.2 _ _ h1
  exact ⟨c', e1, by rw [e2]; exact h2⟩
theorem own_stR (X : Stand p l e R s m args below meth c T locs cells slots) (hx : p.tables.exec = Jvm.exec) (hZ : Z.Warmed39 s.vm) (eT : T.heap = h) {a : Addr} {C : String} {n : Nat} {f : Nat → Value} (A : own_Arf Z h a (.object C) n f) (O : own_Ovr Z h a C) {j : Int32} {v : Value} (I : v = .null ∨ ∃ y, v = .ref y ∧ Ins Z h y C true) (q : 0 ≤ j.toInt ∧ j.toInt < (n : Int)) {g : JFrame} (hg : g.method = m) {rest : List Value} (hs : g.stack = v :: .int j :: .ref a :: rest) (hd : decode c.code g.pc = .ok (.aastore, 1)) :
    ∃ T' h', Stand p l e R s m args below meth c T' (locs ++ [⟨a, j.toNatClampNeg⟩]) cells slots ∧ T'.heap = h' ∧ Wr h h' a j.toNatClampNeg v ∧ own_Arf Z h' a (.object C) n (fun k => if k = j.toNatClampNeg then v else f k) ∧ own_Ovr Z h' a C ∧ ∀ t, Steps p.tables e below (T'.setTop { g with pc := g.pc + 1, stack := rest }) t → Steps p.tables e below (T.setTop g) t := by
  obtain ⟨cl, A1, A2, A3⟩ := id A
  obtain ⟨cl2, o1, o2⟩ := id O
  cases A1.1.symm.trans o1
  have F : Sto Z h a v := by
    rcases I with rfl | ⟨y, rfl, I⟩
    · exact Or.inl rfl
    · exact Sto.of A1 o2 I
  obtain ⟨T', h', X', e', W, st⟩ := stR X hx hZ eT A1 (own_inb A2 q) rfl F hg hs hd
  exact ⟨T', h', X', e', W, own_Arf.set A W, O.wr W, st⟩
end OwnKit
theorem own_modI (x m : Int32) (hm : 0 < m.toInt) : 0 ≤ ((x &&& (2147483647 : Int32)) % m).toInt ∧ ((x &&& (2147483647 : Int32)) % m).toInt < m.toInt := by
  have h1 : (x &&& (2147483647 : Int32)).toInt = x.toInt % 2147483648 := c_mask x 2147483647 31 (by decide) (by decide)
  have h2 := (c_iremV (x &&& (2147483647 : Int32)) m).1 (by omega) hm
  exact ⟨h2.1, h2.2.1⟩
theorem own_modJ (x : Int64) : 0 ≤ ((x &&& (9223372036854775807 : Int64)) - ((x &&& (9223372036854775807 : Int64)) / (1000000000000 : Int64)) * (1000000000000 : Int64)).toInt ∧ ((x &&& (9223372036854775807 : Int64)) - ((x &&& (9223372036854775807 : Int64)) / (1000000000000 : Int64)) * (1000000000000 : Int64)).toInt ≤ 999999999999 := by
  have h1 : (x &&& (9223372036854775807 : Int64)).toInt = x.toInt % 9223372036854775808 := c_maskL x 9223372036854775807 63 (by decide) (by decide)
  have h2 := (c_lrem (x &&& (9223372036854775807 : Int64)) 1000000000000 1000000000000 (by decide)).1 (by omega)
  rw [h2]
  omega
theorem own_pn0 : plainFor (⟨"com/example/brigid/brigid/telematik/prescription/PrescriptionId", "<init>", "(IJ)V"⟩ : MethodName) = true := by first | exact plainFor_of_name (by simp [plainName, overriddenIn]; done) | decide +kernel
theorem own_d2_0 : decode prog_5_method_1_code 0 = .ok (.aload_n 0, 1) := by decide +kernel
theorem own_d2_1 : decode prog_5_method_1_code 1 = .ok (.invokespecial 3, 3) := by decide +kernel
theorem own_d2_4 : decode prog_5_method_1_code 4 = .ok (.aload_n 0, 1) := by decide +kernel
theorem own_d2_5 : decode prog_5_method_1_code 5 = .ok (.iload_n 1, 1) := by decide +kernel
theorem own_d2_6 : decode prog_5_method_1_code 6 = .ok (.putfield 9, 3) := by decide +kernel
theorem own_d2_9 : decode prog_5_method_1_code 9 = .ok (.aload_n 0, 1) := by decide +kernel
theorem own_d2_10 : decode prog_5_method_1_code 10 = .ok (.lload_n 2, 1) := by decide +kernel
theorem own_d2_11 : decode prog_5_method_1_code 11 = .ok (.putfield 13, 3) := by decide +kernel
theorem own_d2_14 : decode prog_5_method_1_code 14 = .ok (.return_, 1) := by decide +kernel
theorem own_ef_rmI (m : MethodId) (a1 : Addr) (p2 : Int32) (q3 : Int64) : entryFrame m #[(.ref a1), (.int p2), (.long q3)] 4 = mkF m 0 #[rv a1, iv p2, own_jv q3, .second] [] := by first | (simp [entryFrame, mkF, argsToLocals, Value.category, maxLocals]; done) | rfl
abbrev own_Q_rmI (Z : State) (a1 : Addr) (p2 : Int32) (q3 : Int64) (u1 : Value) (u2 : Value) (h0 : Heap) (n0 : Nat) (v : Option Value) (h : Heap) (L : List Loc) : Prop := v = none ∧ Fr n0 L ∧ Keep h0 h [a1] ∧ Exa Z h a1 "com/example/brigid/brigid/telematik/prescription/PrescriptionId" ∧ Fld Z h a1 "com/example/brigid/brigid/telematik/prescription/PrescriptionId" "flowType" "I" (.int p2) ∧ Fld Z h a1 "com/example/brigid/brigid/telematik/prescription/PrescriptionId" "serialNumber" "J" (.long q3)
set_option maxRecDepth 65536 in
set_option maxHeartbeats 40000000 in
theorem rmI (l : Launch) (Z : State) (a0 : Array Value) (hw : ∀ d ∈ tables_1, d.before a0 Z = true) (ws : List Jvm.Cond) (a1 : Addr) (p2 : Int32) (q3 : Int64) (u1 : Value) (u2 : Value) (h0 : Heap) (n0 : Nat) (Z0 : n0 ≤ h0.size) (E1 : Exa Z h0 a1 "com/example/brigid/brigid/telematik/prescription/PrescriptionId") (F1 : Fld Z h0 a1 "com/example/brigid/brigid/telematik/prescription/PrescriptionId" "flowType" "I" u1) (F2 : Fld Z h0 a1 "com/example/brigid/brigid/telematik/prescription/PrescriptionId" "serialNumber" "J" u2) (g1 : n0 ≤ a1) :
    MetFree l (⟨"com/example/brigid/brigid/telematik/prescription/PrescriptionId", "<init>", "(IJ)V"⟩ : MethodName) (head1 (Jvm.Cond.code (⟨"com/example/brigid/brigid/telematik/prescription/PrescriptionId", "<init>", "(IJ)V"⟩ : MethodName) prog_5_method_1_code 4 none :: ws) ({ frames := 1, cells := 0, slots := 0, locals := 12 } : Room)) (fun a U => a = #[(.ref a1), (.int p2), (.long q3)] ∧ Z.Warmed39 U.vm ∧ U.heap = h0) (fun _ _ _ _ _ => True) (fun _ U o U' => ∃ v L, o = .returned v ∧ own_Q_rmI Z a1 p2 q3 u1 u2 h0 n0 v U'.heap L ∧ FrameEnd U o U' L ({ frames := 1, cells := 0, slots := 0, locals := 12 } : Room).cells ({ frames := 1, cells := 0, slots := 0, locals := 12 } : Room).slots) := by
  refine own_enter (Q := fun v h L => own_Q_rmI Z a1 p2 q3 u1 u2 h0 n0 v h L) (F := fun m => mkF m 0 #[rv a1, iv p2, own_jv q3, .second] []) own_pn0 (fun m => own_ef_rmI m a1 p2 q3) ?_
  intro p e s m below meth c T X hx hby hml hret hlk hnm hown hZ e0
  show own_Goes p e below s _ _ (T.setTop (mkF m 0 #[rv a1, iv p2, own_jv q3, .second] []))
  have N0 := Fr.nil n0
  refine own_st (fun _ k => XS.aloadN X.here hx rfl (hb hby own_d2_0) rfl rfl  k) ?_
  show own_Goes p e below s _ _ (T.setTop (mkF m 1 #[rv a1, iv p2, own_jv q3, .second] [(.ref a1)]))
  obtain ⟨T101, X101, e101, st101⟩ := initO X hx hZ hown (hw _ (List.mem_of_getElem? (i := 13) rfl)) (hw _ (List.mem_of_getElem? (i := 14) rfl)) (hw _ (List.mem_of_getElem? (i := 15) rfl)) e0 (g := (mkF m 1 #[rv a1, iv p2, own_jv q3, .second] [(.ref a1)])) rfl (by rw [hml]; rfl) rfl (hb hby own_d2_1) (by decide) (W := 0) (by show 2 * 0 + _ ≤ _; exact Nat.le_of_eq rfl) (by decide)
  refine own_st st101 ?_
  show own_Goes p e below s _ _ (T101.setTop (mkF m 4 #[rv a1, iv p2, own_jv q3, .second] []))
  refine own_st (fun _ k => XS.aloadN X101.here hx rfl (hb hby own_d2_4) rfl rfl  k) ?_
  show own_Goes p e below s _ _ (T101.setTop (mkF m 5 #[rv a1, iv p2, own_jv q3, .second] [(.ref a1)]))
  refine own_st (fun _ k => XS.iloadN X101.here hx rfl (hb hby own_d2_5) rfl  k) ?_
  show own_Goes p e below s _ _ (T101.setTop (mkF m 6 #[rv a1, iv p2, own_jv q3, .second] [(.int p2), (.ref a1)]))
  obtain ⟨T102, h102, X102, e102, W102, st102⟩ := putF X101 hx hZ hown (host := "") (Or.inl (hw _ (List.mem_of_getElem? (i := 16) rfl))) Via.refl e101 F1 E1 (Or.inr ⟨(hw _ (List.mem_of_getElem? (i := 17) rfl)), rfl, hnm⟩) (hw _ (List.mem_of_getElem? (i := 9) rfl)) (ty := .int) (by decide) rfl rfl (g := (mkF m 6 #[rv a1, iv p2, own_jv q3, .second] [(.int p2), (.ref a1)])) rfl rfl (hb hby own_d2_6)
  have z102 := W102.size
  have N102 := Fr.snoc X102 N0 (by omega)
  have F102 := F1.same W102
  refine own_st st102 ?_
  show own_Goes p e below s _ _ (T102.setTop (mkF m 9 #[rv a1, iv p2, own_jv q3, .second] []))
  refine own_st (fun _ k => XS.aloadN X102.here hx rfl (hb hby own_d2_9) rfl rfl  k) ?_
  show own_Goes p e below s _ _ (T102.setTop (mkF m 10 #[rv a1, iv p2, own_jv q3, .second] [(.ref a1)]))
  refine own_st (fun _ k => XS.lloadN X102.here hx rfl (hb hby own_d2_10) rfl  k) ?_
  show own_Goes p e below s _ _ (T102.setTop (mkF m 11 #[rv a1, iv p2, own_jv q3, .second] [(.long q3), (.ref a1)]))
  have f103 := (F2.other W102 (Or.inr (slot_ne (Or.inr (hw _ (List.mem_of_getElem? (i := 19) rfl))) (Or.inr (hw _ (List.mem_of_getElem? (i := 17) rfl))) (by decide) (t := .long) (t' := .int) (by decide) (by decide))))
  have f104 := (E1.wr W102)
  obtain ⟨T105, h105, X105, e105, W105, st105⟩ := putF X102 hx hZ hown (host := "") (Or.inl (hw _ (List.mem_of_getElem? (i := 18) rfl))) Via.refl e102 f103 f104 (Or.inr ⟨(hw _ (List.mem_of_getElem? (i := 19) rfl)), rfl, hnm⟩) (hw _ (List.mem_of_getElem? (i := 9) rfl)) (ty := .long) (by decide) rfl rfl (g := (mkF m 11 #[rv a1, iv p2, own_jv q3, .second] [(.long q3), (.ref a1)])) rfl rfl (hb hby own_d2_11)
  have z105 := W105.size
  have N105 := Fr.snoc X105 N102 (by omega)
  have F105 := f103.same W105
  refine own_st st105 ?_
  show own_Goes p e below s _ _ (T105.setTop (mkF m 14 #[rv a1, iv p2, own_jv q3, .second] []))
  have f106 := (f104.wr W105)
  have f107 := (F102.other W105 (Or.inr (slot_ne (Or.inr (hw _ (List.mem_of_getElem? (i := 17) rfl))) (Or.inr (hw _ (List.mem_of_getElem? (i := 19) rfl))) (by decide) (t := .int) (t' := .long) (by decide) (by decide))))
  exact own_ret0 X105 hx hlk hret (hb hby own_d2_14) (by decide) (by decide) ⟨rfl, N105, by rw [e105]; exact (((Keep.refl h0 [a1]).wr W102 (Or.inl (by simp))).wr W105 (Or.inl (by simp))), by rw [e105]; exact f106, by rw [e105]; exact f107, by rw [e105]; exact F105⟩
theorem own_pn1 : plainFor (⟨"com/example/brigid/brigid/telematik/prescription/PrescriptionId", "of", "(IJ)Lcom/example/brigid/brigid/telematik/prescription/PrescriptionId;"⟩ : MethodName) = true := by first | exact plainFor_of_name (by simp [plainName, overriddenIn]; done) | decide +kernel
theorem own_d1_0 : decode prog_5_method_2_code 0 = .ok (.iload_n 0, 1) := by decide +kernel
theorem own_d1_1 : decode prog_5_method_2_code 1 = .ok (.ifCond .lt 10, 3) := by decide +kernel
theorem own_d1_4 : decode prog_5_method_2_code 4 = .ok (.iload_n 0, 1) := by decide +kernel
theorem own_d1_5 : decode prog_5_method_2_code 5 = .ok (.sipush 999, 3) := by decide +kernel
theorem own_d1_8 : decode prog_5_method_2_code 8 = .ok (.if_icmp .le 13, 3) := by decide +kernel
theorem own_d1_21 : decode prog_5_method_2_code 21 = .ok (.lload_n 1, 1) := by decide +kernel
theorem own_d1_22 : decode prog_5_method_2_code 22 = .ok (.lconst 0, 1) := by decide +kernel
theorem own_d1_23 : decode prog_5_method_2_code 23 = .ok (.lcmp, 1) := by decide +kernel
theorem own_d1_24 : decode prog_5_method_2_code 24 = .ok (.ifCond .lt 11, 3) := by decide +kernel
theorem own_d1_27 : decode prog_5_method_2_code 27 = .ok (.lload_n 1, 1) := by decide +kernel
theorem own_d1_28 : decode prog_5_method_2_code 28 = .ok (.ldc2_w 24, 3) := by decide +kernel
theorem own_d1_31 : decode prog_5_method_2_code 31 = .ok (.lcmp, 1) := by decide +kernel
theorem own_d1_32 : decode prog_5_method_2_code 32 = .ok (.ifCond .le 13, 3) := by decide +kernel
theorem own_d1_45 : decode prog_5_method_2_code 45 = .ok (.new 1, 3) := by decide +kernel
theorem own_d1_48 : decode prog_5_method_2_code 48 = .ok (.dup, 1) := by decide +kernel
theorem own_d1_49 : decode prog_5_method_2_code 49 = .ok (.iload_n 0, 1) := by decide +kernel
theorem own_d1_50 : decode prog_5_method_2_code 50 = .ok (.lload_n 1, 1) := by decide +kernel
theorem own_d1_51 : decode prog_5_method_2_code 51 = .ok (.invokespecial 28, 3) := by decide +kernel
theorem own_pd0 : parseMethodDescriptor "(IJ)V" = some ⟨[.int, .long], none⟩ := by decide +kernel
theorem own_d1_54 : decode prog_5_method_2_code 54 = .ok (.areturn, 1) := by decide +kernel
theorem own_ef_rmOf (m : MethodId) (p1 : Int32) (q2 : Int64) : entryFrame m #[(.int p1), (.long q2)] 3 = mkF m 0 #[iv p1, own_jv q2, .second] [] := by first | (simp [entryFrame, mkF, argsToLocals, Value.category, maxLocals]; done) | rfl
abbrev own_Q_rmOf (Z : State) (p1 : Int32) (q2 : Int64) (h0 : Heap) (n0 : Nat) (v : Option Value) (h : Heap) (L : List Loc) : Prop := ∃ b : Addr, v = some (.ref b) ∧ Fr n0 L ∧ Keep h0 h [] ∧ h0.size ≤ b ∧ b < h.size ∧ Exa Z h b "com/example/brigid/brigid/telematik/prescription/PrescriptionId" ∧ Fld Z h b "com/example/brigid/brigid/telematik/prescription/PrescriptionId" "flowType" "I" (.int p1) ∧ Fld Z h b "com/example/brigid/brigid/telematik/prescription/PrescriptionId" "serialNumber" "J" (.long q2)
set_option maxRecDepth 65536 in
set_option maxHeartbeats 40000000 in
theorem rmOf (l : Launch) (Z : State) (a0 : Array Value) (hw : ∀ d ∈ tables_1, d.before a0 Z = true) (ws : List Jvm.Cond) (p1 : Int32) (q2 : Int64) (h0 : Heap) (n0 : Nat) (Z0 : n0 ≤ h0.size) (hp : 0 ≤ p1.toInt ∧ p1.toInt ≤ 999) (hq : 0 ≤ q2.toInt ∧ q2.toInt ≤ 999999999999) :
    MetFree l (⟨"com/example/brigid/brigid/telematik/prescription/PrescriptionId", "of", "(IJ)Lcom/example/brigid/brigid/telematik/prescription/PrescriptionId;"⟩ : MethodName) (head1 (Jvm.Cond.code (⟨"com/example/brigid/brigid/telematik/prescription/PrescriptionId", "of", "(IJ)Lcom/example/brigid/brigid/telematik/prescription/PrescriptionId;"⟩ : MethodName) prog_5_method_2_code 3 (some (.object "com/example/brigid/brigid/telematik/prescription/PrescriptionId")) :: ws) ({ frames := 2, cells := 1, slots := 2, locals := 28 } : Room)) (fun a U => a = #[(.int p1), (.long q2)] ∧ Z.Warmed39 U.vm ∧ U.heap = h0) (fun _ _ _ _ _ => True) (fun _ U o U' => ∃ v L, o = .returned v ∧ own_Q_rmOf Z p1 q2 h0 n0 v U'.heap L ∧ FrameEnd U o U' L ({ frames := 2, cells := 1, slots := 2, locals := 28 } : Room).cells ({ frames := 2, cells := 1, slots := 2, locals := 28 } : Room).slots) := by
  refine own_enter (Q := fun v h L => own_Q_rmOf Z p1 q2 h0 n0 v h L) (F := fun m => mkF m 0 #[iv p1, own_jv q2, .second] []) own_pn1 (fun m => own_ef_rmOf m p1 q2) ?_
  intro p e s m below meth c T X hx hby hml hret hlk hnm hown hZ e0
  show own_Goes p e below s _ _ (T.setTop (mkF m 0 #[iv p1, own_jv q2, .second] []))
  have N0 := Fr.nil n0
  refine own_st (fun _ k => XS.iloadN X.here hx rfl (hb hby own_d1_0) rfl  k) ?_
  show own_Goes p e below s _ _ (T.setTop (mkF m 1 #[iv p1, own_jv q2, .second] [(.int p1)]))
  by_cases c101 : p1 < (0 : Int32)
  · have c101i : p1.toInt < 0 := own_i_lt c101
    exfalso; omega
  · have c101i : 0 ≤ p1.toInt := own_i_nlt c101
    refine own_st (fun _ k => XS.ifNo X.here hx rfl (hb hby own_d1_1) rfl ((if0 _ _).trans (flt c101).1) k) ?_
    show own_Goes p e below s _ _ (T.setTop (mkF m 4 #[iv p1, own_jv q2, .second] []))
    refine own_st (fun _ k => XS.iloadN X.here hx rfl (hb hby own_d1_4) rfl  k) ?_
    show own_Goes p e below s _ _ (T.setTop (mkF m 5 #[iv p1, own_jv q2, .second] [(.int p1)]))
    refine own_st (fun _ k => XS.sipush X.here hx rfl (hb hby own_d1_5) k) ?_
    show own_Goes p e below s _ _ (T.setTop (mkF m 8 #[iv p1, own_jv q2, .second] [(.int (999 : Int32)), (.int p1)]))
    by_cases c102 : (999 : Int32) < p1
    · have c102i : 999 < p1.toInt := own_i_lt c102
      exfalso; omega
    · have c102i : p1.toInt ≤ 999 := own_i_nlt c102
      refine own_st (fun _ k => XS.icmpYes X.here hx rfl (pc0 := 8) (pc' := 21) rfl (hb hby own_d1_8) rfl (flt c102).2.2.2 (by decide) (by decide) k) ?_
      show own_Goes p e below s _ _ (T.setTop (mkF m 21 #[iv p1, own_jv q2, .second] []))
      refine own_st (fun _ k => XS.lloadN X.here hx rfl (hb hby own_d1_21) rfl  k) ?_
      show own_Goes p e below s _ _ (T.setTop (mkF m 22 #[iv p1, own_jv q2, .second] [(.long q2)]))
      refine own_st (fun _ k => XS.lconst X.here hx rfl (hb hby own_d1_22) k) ?_
      show own_Goes p e below s _ _ (T.setTop (mkF m 23 #[iv p1, own_jv q2, .second] [(.long (0 : Int64)), (.long q2)]))
      refine own_st (fun _ k => XS.lcmp X.here hx rfl (hb hby own_d1_23) rfl k) ?_
      show own_Goes p e below s _ _ (T.setTop (mkF m 24 #[iv p1, own_jv q2, .second] [(.int (lcmpW q2 (0 : Int64)))]))
      by_cases c103 : q2 < (0 : Int64)
      · have c103i : q2.toInt < 0 := own_j_lt c103
        exfalso; omega
      · have c103i : 0 ≤ q2.toInt := own_j_nlt c103
        refine own_st (fun _ k => XS.ifNo X.here hx rfl (hb hby own_d1_24) rfl ((if0 _ _).trans (flt (fun q => c103 ((lw_lt _ _).mp q))).1) k) ?_
        show own_Goes p e below s _ _ (T.setTop (mkF m 27 #[iv p1, own_jv q2, .second] []))
        refine own_st (fun _ k => XS.lloadN X.here hx rfl (hb hby own_d1_27) rfl  k) ?_
        show own_Goes p e below s _ _ (T.setTop (mkF m 28 #[iv p1, own_jv q2, .second] [(.long q2)]))
        refine own_st (fun _ k => X.ldc2Long hx hown (mvT hZ (hw _ (List.mem_of_getElem? (i := 7) rfl))) (g := (mkF m 28 #[iv p1, own_jv q2, .second] [(.long q2)])) rfl (hb hby own_d1_28) _ k) ?_
        show own_Goes p e below s _ _ (T.setTop (mkF m 31 #[iv p1, own_jv q2, .second] [(.long (999999999999 : Int64)), (.long q2)]))
        refine own_st (fun _ k => XS.lcmp X.here hx rfl (hb hby own_d1_31) rfl k) ?_
        show own_Goes p e below s _ _ (T.setTop (mkF m 32 #[iv p1, own_jv q2, .second] [(.int (lcmpW q2 (999999999999 : Int64)))]))
        by_cases c104 : (999999999999 : Int64) < q2
        · have c104i : 999999999999 < q2.toInt := own_j_lt c104
          exfalso; omega
        · have c104i : q2.toInt ≤ 999999999999 := own_j_nlt c104
          refine own_st (fun _ k => XS.ifYes X.here hx rfl (pc0 := 32) (pc' := 45) rfl (hb hby own_d1_32) rfl ((if0 _ _).trans (flt (fun q => c104 ((lw_gt _ _).mp q))).2.2.2) (by decide) (by decide) k) ?_
          show own_Goes p e below s _ _ (T.setTop (mkF m 45 #[iv p1, own_jv q2, .second] []))
          obtain ⟨T105, h105, X105, e105, E105, A105, D105, -, st105⟩ := newO X hx hZ hown (hw _ (List.mem_of_getElem? (i := 8) rfl)) (hw _ (List.mem_of_getElem? (i := 9) rfl)) (hw _ (List.mem_of_getElem? (i := 5) rfl)) e0 (g := (mkF m 45 #[iv p1, own_jv q2, .second] [])) rfl (hb hby own_d1_45) (by decide) (by decide)
          obtain ⟨b105, g105⟩ : ∃ z, z = h0.size := ⟨_, rfl⟩
          rw [← g105] at A105 D105 st105
          have y105 := A105.lt
          have z105 := E105.1
          have F105_flowType : Fld Z h105 b105 "com/example/brigid/brigid/telematik/prescription/PrescriptionId" "flowType" "I" (.int (0 : Int32)) := D105 (Or.inr (hw _ (List.mem_of_getElem? (i := 17) rfl))) (ty := .int) (by decide)
          have F105_serialNumber : Fld Z h105 b105 "com/example/brigid/brigid/telematik/prescription/PrescriptionId" "serialNumber" "J" (.long (0 : Int64)) := D105 (Or.inr (hw _ (List.mem_of_getElem? (i := 19) rfl))) (ty := .long) (by decide)
          refine own_st st105 ?_
          show own_Goes p e below s _ _ (T105.setTop (mkF m 48 #[iv p1, own_jv q2, .second] [(.ref b105)]))
          refine own_st (fun _ k => XS.dup X105.here hx rfl (hb hby own_d1_48) rfl rfl k) ?_
          show own_Goes p e below s _ _ (T105.setTop (mkF m 49 #[iv p1, own_jv q2, .second] [(.ref b105), (.ref b105)]))
          refine own_st (fun _ k => XS.iloadN X105.here hx rfl (hb hby own_d1_49) rfl  k) ?_
          show own_Goes p e below s _ _ (T105.setTop (mkF m 50 #[iv p1, own_jv q2, .second] [(.int p1), (.ref b105), (.ref b105)]))
          refine own_st (fun _ k => XS.lloadN X105.here hx rfl (hb hby own_d1_50) rfl  k) ?_
          show own_Goes p e below s _ _ (T105.setTop (mkF m 51 #[iv p1, own_jv q2, .second] [(.long q2), (.int p1), (.ref b105), (.ref b105)]))
          obtain ⟨v106, T106, L106, X106, Q106, st106⟩ := own_callI X105 hx hZ (y := (⟨"com/example/brigid/brigid/telematik/prescription/PrescriptionId", "<init>", "(IJ)V"⟩ : MethodName)) hown (hw _ (List.mem_of_getElem? (i := 10) rfl)) (hw _ (List.mem_of_getElem? (i := 11) rfl)) (hw _ (List.mem_of_getElem? (i := 5) rfl)) (hw _ (List.mem_of_getElem? (i := 12) rfl)) rfl (by decide) (W := 1) (rest := [(.ref b105)]) (argsL := [(.int p1), (.long q2)]) (a := b105) (rmI l Z a0 hw [] b105 p1 q2 _ _ h105 n0 (by omega) A105 F105_flowType F105_serialNumber (by omega)) (by decide) (by decide) (by decide) (by decide) e105 own_pd0 rfl (g := (mkF m 51 #[iv p1, own_jv q2, .second] [(.long q2), (.int p1), (.ref b105), (.ref b105)])) rfl (by rw [hml]; rfl) rfl (by show 2 * 0 + _ ≤ _; exact Nat.le_of_eq rfl) (hb hby own_d1_51)
          obtain ⟨rfl, N106q, K106, A106, F106a, F106b⟩ := Q106
          have z106 := K106.1
          have y106 := A106.lt
          have N106 := Fr.app N0 N106q
          refine own_st st106 ?_
          show own_Goes p e below s _ _ (T106.setTop (mkF m 54 #[iv p1, own_jv q2, .second] [(.ref b105)]))
          exact own_retR X106 hx hlk hret rfl rfl (hb hby own_d1_54) (by decide) (by decide) ⟨b105, rfl, N106, (((Keep.refl h0 []).ext E105).trans K106 (allS (Or.inr (by omega)) all0)), by omega, by omega, A106, F106a, F106b⟩
theorem own_pn2 : plainFor (⟨"com/example/brigid/brigid/telematik/prescription/PrescriptionId", "getFlowType", "()I"⟩ : MethodName) = true := by first | exact plainFor_of_name (by simp [plainName, overriddenIn]; done) | decide +kernel
theorem own_d4_0 : decode prog_5_method_4_code 0 = .ok (.aload_n 0, 1) := by decide +kernel
theorem own_d4_1 : decode prog_5_method_4_code 1 = .ok (.getfield 9, 3) := by decide +kernel
theorem own_d4_4 : decode prog_5_method_4_code 4 = .ok (.ireturn, 1) := by decide +kernel
theorem own_ef_rmG1 (m : MethodId) (a1 : Addr) : entryFrame m #[(.ref a1)] 1 = mkF m 0 #[rv a1] [] := by first | (simp [entryFrame, mkF, argsToLocals, Value.category, maxLocals]; done) | rfl
abbrev own_Q_rmG1 (Z : State) (a1 : Addr) (x1 : Int32) (h0 : Heap) (n0 : Nat) (v : Option Value) (h : Heap) (L : List Loc) : Prop := v = some (.int x1) ∧ Fr n0 L ∧ h = h0
set_option maxRecDepth 65536 in
set_option maxHeartbeats 40000000 in
theorem rmG1 (l : Launch) (Z : State) (a0 : Array Value) (hw : ∀ d ∈ tables_1, d.before a0 Z = true) (ws : List Jvm.Cond) (a1 : Addr) (x1 : Int32) (h0 : Heap) (n0 : Nat) (Z0 : n0 ≤ h0.size) (F1 : Fld Z h0 a1 "com/example/brigid/brigid/telematik/prescription/PrescriptionId" "flowType" "I" (.int x1)) :
    MetFree l (⟨"com/example/brigid/brigid/telematik/prescription/PrescriptionId", "getFlowType", "()I"⟩ : MethodName) (head1 (Jvm.Cond.code (⟨"com/example/brigid/brigid/telematik/prescription/PrescriptionId", "getFlowType", "()I"⟩ : MethodName) prog_5_method_4_code 1 (some .int) :: ws) ({ frames := 0, cells := 0, slots := 0, locals := 0 } : Room)) (fun a U => a = #[(.ref a1)] ∧ Z.Warmed39 U.vm ∧ U.heap = h0) (fun _ _ _ _ _ => True) (fun _ U o U' => ∃ v L, o = .returned v ∧ own_Q_rmG1 Z a1 x1 h0 n0 v U'.heap L ∧ FrameEnd U o U' L ({ frames := 0, cells := 0, slots := 0, locals := 0 } : Room).cells ({ frames := 0, cells := 0, slots := 0, locals := 0 } : Room).slots) := by
  refine own_enter (Q := fun v h L => own_Q_rmG1 Z a1 x1 h0 n0 v h L) (F := fun m => mkF m 0 #[rv a1] []) own_pn2 (fun m => own_ef_rmG1 m a1) ?_
  intro p e s m below meth c T X hx hby hml hret hlk hnm hown hZ e0
  show own_Goes p e below s _ _ (T.setTop (mkF m 0 #[rv a1] []))
  have N0 := Fr.nil n0
  refine own_st (fun _ k => XS.aloadN X.here hx rfl (hb hby own_d4_0) rfl rfl  k) ?_
  show own_Goes p e below s _ _ (T.setTop (mkF m 1 #[rv a1] [(.ref a1)]))
  obtain ⟨T101, X101, e101, st101⟩ := getF X hx hZ hown (host := "") (Or.inl (hw _ (List.mem_of_getElem? (i := 16) rfl))) Via.refl e0 F1 (g := (mkF m 1 #[rv a1] [(.ref a1)])) rfl rfl (hb hby own_d4_1)
  refine own_st st101 ?_
  show own_Goes p e below s _ _ (T101.setTop (mkF m 4 #[rv a1] [(.int x1)]))
  exact own_retI X101 hx hlk hret (hb hby own_d4_4) (by decide) (by decide) ⟨rfl, N0, e101⟩
theorem own_pn3 : plainFor (⟨"com/example/brigid/brigid/telematik/prescription/PrescriptionId", "getSerialNumber", "()J"⟩ : MethodName) = true := by first | exact plainFor_of_name (by simp [plainName, overriddenIn]; done) | decide +kernel
theorem own_d5_0 : decode prog_5_method_5_code 0 = .ok (.aload_n 0, 1) := by decide +kernel
theorem own_d5_1 : decode prog_5_method_5_code 1 = .ok (.getfield 13, 3) := by decide +kernel
theorem own_d5_4 : decode prog_5_method_5_code 4 = .ok (.lreturn, 1) := by decide +kernel
theorem own_ef_rmG2 (m : MethodId) (a1 : Addr) : entryFrame m #[(.ref a1)] 1 = mkF m 0 #[rv a1] [] := by first | (simp [entryFrame, mkF, argsToLocals, Value.category, maxLocals]; done) | rfl
abbrev own_Q_rmG2 (Z : State) (a1 : Addr) (x1 : Int64) (h0 : Heap) (n0 : Nat) (v : Option Value) (h : Heap) (L : List Loc) : Prop := v = some (.long x1) ∧ Fr n0 L ∧ h = h0
set_option maxRecDepth 65536 in
set_option maxHeartbeats 40000000 in
theorem rmG2 (l : Launch) (Z : State) (a0 : Array Value) (hw : ∀ d ∈ tables_1, d.before a0 Z = true) (ws : List Jvm.Cond) (a1 : Addr) (x1 : Int64) (h0 : Heap) (n0 : Nat) (Z0 : n0 ≤ h0.size) (F1 : Fld Z h0 a1 "com/example/brigid/brigid/telematik/prescription/PrescriptionId" "serialNumber" "J" (.long x1)) :
    MetFree l (⟨"com/example/brigid/brigid/telematik/prescription/PrescriptionId", "getSerialNumber", "()J"⟩ : MethodName) (head1 (Jvm.Cond.code (⟨"com/example/brigid/brigid/telematik/prescription/PrescriptionId", "getSerialNumber", "()J"⟩ : MethodName) prog_5_method_5_code 1 (some .long) :: ws) ({ frames := 0, cells := 0, slots := 0, locals := 0 } : Room)) (fun a U => a = #[(.ref a1)] ∧ Z.Warmed39 U.vm ∧ U.heap = h0) (fun _ _ _ _ _ => True) (fun _ U o U' => ∃ v L, o = .returned v ∧ own_Q_rmG2 Z a1 x1 h0 n0 v U'.heap L ∧ FrameEnd U o U' L ({ frames := 0, cells := 0, slots := 0, locals := 0 } : Room).cells ({ frames := 0, cells := 0, slots := 0, locals := 0 } : Room).slots) := by
  refine own_enter (Q := fun v h L => own_Q_rmG2 Z a1 x1 h0 n0 v h L) (F := fun m => mkF m 0 #[rv a1] []) own_pn3 (fun m => own_ef_rmG2 m a1) ?_
  intro p e s m below meth c T X hx hby hml hret hlk hnm hown hZ e0
  show own_Goes p e below s _ _ (T.setTop (mkF m 0 #[rv a1] []))
  have N0 := Fr.nil n0
  refine own_st (fun _ k => XS.aloadN X.here hx rfl (hb hby own_d5_0) rfl rfl  k) ?_
  show own_Goes p e below s _ _ (T.setTop (mkF m 1 #[rv a1] [(.ref a1)]))
  obtain ⟨T101, X101, e101, st101⟩ := getF X hx hZ hown (host := "") (Or.inl (hw _ (List.mem_of_getElem? (i := 18) rfl))) Via.refl e0 F1 (g := (mkF m 1 #[rv a1] [(.ref a1)])) rfl rfl (hb hby own_d5_1)
  refine own_st st101 ?_
  show own_Goes p e below s _ _ (T101.setTop (mkF m 4 #[rv a1] [(.long x1)]))
  exact own_retJ X101 hx hlk hret (hb hby own_d5_4) (by decide) (by decide) ⟨rfl, N0, e101⟩
theorem own_pn4 : plainFor (⟨"com/example/brigid/brigid/telematik/prescription/PrescriptionId", "equals", "(Ljava/lang/Object;)Z"⟩ : MethodName) = true := by first | exact plainFor_of_name (by simp [plainName, overriddenIn]; done) | decide +kernel
theorem own_d6_0 : decode prog_5_method_7_code 0 = .ok (.aload_n 1, 1) := by decide +kernel
theorem own_d6_1 : decode prog_5_method_7_code 1 = .ok (.instanceof 1, 3) := by decide +kernel
theorem own_d6_4 : decode prog_5_method_7_code 4 = .ok (.ifCond .eq 35, 3) := by decide +kernel
theorem own_d6_7 : decode prog_5_method_7_code 7 = .ok (.aload_n 1, 1) := by decide +kernel
theorem own_d6_8 : decode prog_5_method_7_code 8 = .ok (.checkcast 1, 3) := by decide +kernel
theorem own_d6_11 : decode prog_5_method_7_code 11 = .ok (.astore_n 2, 1) := by decide +kernel
theorem own_d6_12 : decode prog_5_method_7_code 12 = .ok (.aload_n 0, 1) := by decide +kernel
theorem own_d6_13 : decode prog_5_method_7_code 13 = .ok (.getfield 9, 3) := by decide +kernel
theorem own_d6_16 : decode prog_5_method_7_code 16 = .ok (.aload_n 2, 1) := by decide +kernel
theorem own_d6_17 : decode prog_5_method_7_code 17 = .ok (.getfield 9, 3) := by decide +kernel
theorem own_d6_20 : decode prog_5_method_7_code 20 = .ok (.if_icmp .ne 19, 3) := by decide +kernel
theorem own_d6_23 : decode prog_5_method_7_code 23 = .ok (.aload_n 0, 1) := by decide +kernel
theorem own_d6_24 : decode prog_5_method_7_code 24 = .ok (.getfield 13, 3) := by decide +kernel
theorem own_d6_27 : decode prog_5_method_7_code 27 = .ok (.aload_n 2, 1) := by decide +kernel
theorem own_d6_28 : decode prog_5_method_7_code 28 = .ok (.getfield 13, 3) := by decide +kernel
theorem own_d6_31 : decode prog_5_method_7_code 31 = .ok (.lcmp, 1) := by decide +kernel
theorem own_d6_32 : decode prog_5_method_7_code 32 = .ok (.ifCond .ne 7, 3) := by decide +kernel
theorem own_d6_35 : decode prog_5_method_7_code 35 = .ok (.iconst 1, 1) := by decide +kernel
theorem own_d6_36 : decode prog_5_method_7_code 36 = .ok (.goto 4, 3) := by decide +kernel
theorem own_d6_40 : decode prog_5_method_7_code 40 = .ok (.ireturn, 1) := by decide +kernel
theorem own_d6_39 : decode prog_5_method_7_code 39 = .ok (.iconst 0, 1) := by decide +kernel
theorem own_ef_rmEq (m : MethodId) (a1 : Addr) (a2 : Addr) : entryFrame m #[(.ref a1), (.ref a2)] 3 = mkF m 0 #[rv a1, rv a2, .unset] [] := by first | (simp [entryFrame, mkF, argsToLocals, Value.category, maxLocals]; done) | rfl
abbrev own_Q_rmEq (Z : State) (a1 : Addr) (a2 : Addr) (x1 : Int32) (x2 : Int32) (y1 : Int64) (y2 : Int64) (h0 : Heap) (n0 : Nat) (v : Option Value) (h : Heap) (L : List Loc) : Prop := ∃ r : Int32, v = some (.int r) ∧ ((r.toInt = 1 ∧ (x1.toInt = x2.toInt ∧ y1.toInt = y2.toInt)) ∨ (r.toInt = 0 ∧ ¬ (x1.toInt = x2.toInt ∧ y1.toInt = y2.toInt))) ∧ Fr n0 L ∧ h = h0
set_option maxRecDepth 65536 in
set_option maxHeartbeats 40000000 in
theorem rmEq (l : Launch) (Z : State) (a0 : Array Value) (hw : ∀ d ∈ tables_1, d.before a0 Z = true) (ws : List Jvm.Cond) (a1 : Addr) (a2 : Addr) (x1 : Int32) (x2 : Int32) (y1 : Int64) (y2 : Int64) (h0 : Heap) (n0 : Nat) (Z0 : n0 ≤ h0.size) (E2 : Exa Z h0 a2 "com/example/brigid/brigid/telematik/prescription/PrescriptionId") (F1 : Fld Z h0 a1 "com/example/brigid/brigid/telematik/prescription/PrescriptionId" "flowType" "I" (.int x1)) (F2 : Fld Z h0 a2 "com/example/brigid/brigid/telematik/prescription/PrescriptionId" "flowType" "I" (.int x2)) (G1 : Fld Z h0 a1 "com/example/brigid/brigid/telematik/prescription/PrescriptionId" "serialNumber" "J" (.long y1)) (G2 : Fld Z h0 a2 "com/example/brigid/brigid/telematik/prescription/PrescriptionId" "serialNumber" "J" (.long y2)) :
    MetFree l (⟨"com/example/brigid/brigid/telematik/prescription/PrescriptionId", "equals", "(Ljava/lang/Object;)Z"⟩ : MethodName) (head1 (Jvm.Cond.code (⟨"com/example/brigid/brigid/telematik/prescription/PrescriptionId", "equals", "(Ljava/lang/Object;)Z"⟩ : MethodName) prog_5_method_7_code 3 (some .boolean) :: ws) ({ frames := 0, cells := 0, slots := 0, locals := 0 } : Room)) (fun a U => a = #[(.ref a1), (.ref a2)] ∧ Z.Warmed39 U.vm ∧ U.heap = h0) (fun _ _ _ _ _ => True) (fun _ U o U' => ∃ v L, o = .returned v ∧ own_Q_rmEq Z a1 a2 x1 x2 y1 y2 h0 n0 v U'.heap L ∧ FrameEnd U o U' L ({ frames := 0, cells := 0, slots := 0, locals := 0 } : Room).cells ({ frames := 0, cells := 0, slots := 0, locals := 0 } : Room).slots) := by
  refine own_enter (Q := fun v h L => own_Q_rmEq Z a1 a2 x1 x2 y1 y2 h0 n0 v h L) (F := fun m => mkF m 0 #[rv a1, rv a2, .unset] []) own_pn4 (fun m => own_ef_rmEq m a1 a2) ?_
  intro p e s m below meth c T X hx hby hml hret hlk hnm hown hZ e0
  show own_Goes p e below s _ _ (T.setTop (mkF m 0 #[rv a1, rv a2, .unset] []))
  have N0 := Fr.nil n0
  refine own_st (fun _ k => XS.aloadN X.here hx rfl (hb hby own_d6_0) rfl rfl  k) ?_
  show own_Goes p e below s _ _ (T.setTop (mkF m 1 #[rv a1, rv a2, .unset] [(.ref a2)]))
  obtain ⟨T101, X101, e101, st101⟩ := instY X hx hZ hown (hw _ (List.mem_of_getElem? (i := 8) rfl)) e0 (Ins.self E2) (g := (mkF m 1 #[rv a1, rv a2, .unset] [(.ref a2)])) rfl rfl (hb hby own_d6_1)
  refine own_st st101 ?_
  show own_Goes p e below s _ _ (T101.setTop (mkF m 4 #[rv a1, rv a2, .unset] [(.int (1 : Int32))]))
  refine own_st (fun _ k => XS.ifNo X101.here hx rfl (hb hby own_d6_4) rfl ((if0 _ _).trans (feq (by decide : ¬ ((1 : Int32) = (0 : Int32)))).1) k) ?_
  show own_Goes p e below s _ _ (T101.setTop (mkF m 7 #[rv a1, rv a2, .unset] []))
  refine own_st (fun _ k => XS.aloadN X101.here hx rfl (hb hby own_d6_7) rfl rfl  k) ?_
  show own_Goes p e below s _ _ (T101.setTop (mkF m 8 #[rv a1, rv a2, .unset] [(.ref a2)]))
  obtain ⟨T102, X102, e102, st102⟩ := castY X101 hx hZ hown (hw _ (List.mem_of_getElem? (i := 8) rfl)) e101 (Ins.self E2) (g := (mkF m 8 #[rv a1, rv a2, .unset] [(.ref a2)])) rfl rfl (hb hby own_d6_8)
  refine own_st st102 ?_
  show own_Goes p e below s _ _ (T102.setTop (mkF m 11 #[rv a1, rv a2, .unset] [(.ref a2)]))
  refine own_st (fun _ k => XS.astoreN X102.here hx rfl (hb hby own_d6_11) rfl rfl (l' := #[rv a1, rv a2, rv a2]) rfl k) ?_
  show own_Goes p e below s _ _ (T102.setTop (mkF m 12 #[rv a1, rv a2, rv a2] []))
  refine own_st (fun _ k => XS.aloadN X102.here hx rfl (hb hby own_d6_12) rfl rfl  k) ?_
  show own_Goes p e below s _ _ (T102.setTop (mkF m 13 #[rv a1, rv a2, rv a2] [(.ref a1)]))
  obtain ⟨T103, X103, e103, st103⟩ := getF X102 hx hZ hown (host := "") (Or.inl (hw _ (List.mem_of_getElem? (i := 16) rfl))) Via.refl e102 F1 (g := (mkF m 13 #[rv a1, rv a2, rv a2] [(.ref a1)])) rfl rfl (hb hby own_d6_13)
  refine own_st st103 ?_
  show own_Goes p e below s _ _ (T103.setTop (mkF m 16 #[rv a1, rv a2, rv a2] [(.int x1)]))
  refine own_st (fun _ k => XS.aloadN X103.here hx rfl (hb hby own_d6_16) rfl rfl  k) ?_
  show own_Goes p e below s _ _ (T103.setTop (mkF m 17 #[rv a1, rv a2, rv a2] [(.ref a2), (.int x1)]))
  obtain ⟨T104, X104, e104, st104⟩ := getF X103 hx hZ hown (host := "") (Or.inl (hw _ (List.mem_of_getElem? (i := 16) rfl))) Via.refl e103 F2 (g := (mkF m 17 #[rv a1, rv a2, rv a2] [(.ref a2), (.int x1)])) rfl rfl (hb hby own_d6_17)
  refine own_st st104 ?_
  show own_Goes p e below s _ _ (T104.setTop (mkF m 20 #[rv a1, rv a2, rv a2] [(.int x2), (.int x1)]))
  by_cases c105 : x1 = x2
  · have c105i : x1.toInt = x2.toInt := own_i_eq c105
    refine own_st (fun _ k => XS.icmpNo X104.here hx rfl (hb hby own_d6_20) rfl (teq c105).2 k) ?_
    show own_Goes p e below s _ _ (T104.setTop (mkF m 23 #[rv a1, rv a2, rv a2] []))
    refine own_st (fun _ k => XS.aloadN X104.here hx rfl (hb hby own_d6_23) rfl rfl  k) ?_
    show own_Goes p e below s _ _ (T104.setTop (mkF m 24 #[rv a1, rv a2, rv a2] [(.ref a1)]))
    obtain ⟨T106, X106, e106, st106⟩ := getF X104 hx hZ hown (host := "") (Or.inl (hw _ (List.mem_of_getElem? (i := 18) rfl))) Via.refl e104 G1 (g := (mkF m 24 #[rv a1, rv a2, rv a2] [(.ref a1)])) rfl rfl (hb hby own_d6_24)
    refine own_st st106 ?_
    show own_Goes p e below s _ _ (T106.setTop (mkF m 27 #[rv a1, rv a2, rv a2] [(.long y1)]))
    refine own_st (fun _ k => XS.aloadN X106.here hx rfl (hb hby own_d6_27) rfl rfl  k) ?_
    show own_Goes p e below s _ _ (T106.setTop (mkF m 28 #[rv a1, rv a2, rv a2] [(.ref a2), (.long y1)]))
    obtain ⟨T107, X107, e107, st107⟩ := getF X106 hx hZ hown (host := "") (Or.inl (hw _ (List.mem_of_getElem? (i := 18) rfl))) Via.refl e106 G2 (g := (mkF m 28 #[rv a1, rv a2, rv a2] [(.ref a2), (.long y1)])) rfl rfl (hb hby own_d6_28)
    refine own_st st107 ?_
    show own_Goes p e below s _ _ (T107.setTop (mkF m 31 #[rv a1, rv a2, rv a2] [(.long y2), (.long y1)]))
    refine own_st (fun _ k => XS.lcmp X107.here hx rfl (hb hby own_d6_31) rfl k) ?_
    show own_Goes p e below s _ _ (T107.setTop (mkF m 32 #[rv a1, rv a2, rv a2] [(.int (lcmpW y1 y2))]))
    by_cases c108 : y1 = y2
    · have c108i : y1.toInt = y2.toInt := own_j_eq c108
      refine own_st (fun _ k => XS.ifNo X107.here hx rfl (hb hby own_d6_32) rfl ((if0 _ _).trans (teq ((lw_eq _ _).mpr c108)).2) k) ?_
      show own_Goes p e below s _ _ (T107.setTop (mkF m 35 #[rv a1, rv a2, rv a2] []))
      refine own_st (fun _ k => XS.iconst X107.here hx rfl (hb hby own_d6_35) k) ?_
      show own_Goes p e below s _ _ (T107.setTop (mkF m 36 #[rv a1, rv a2, rv a2] [(.int (1 : Int32))]))
      refine own_st (fun _ k => XS.goto X107.here hx rfl (pc0 := 36) (pc' := 40) rfl (hb hby own_d6_36) (by decide) (by decide) k) ?_
      show own_Goes p e below s _ _ (T107.setTop (mkF m 40 #[rv a1, rv a2, rv a2] [(.int (1 : Int32))]))
      exact own_retN X107 hx hlk (1 : Int32) hret (Or.inl rfl) rfl (hb hby own_d6_40) (by decide) (by decide) ⟨(1 : Int32), rfl, own_b1 (by omega), N0, e107⟩
    · have c108i : ¬ y1.toInt = y2.toInt := own_j_ne c108
      refine own_st (fun _ k => XS.ifYes X107.here hx rfl (pc0 := 32) (pc' := 39) rfl (hb hby own_d6_32) rfl ((if0 _ _).trans (feq (fun q => c108 ((lw_eq _ _).mp q))).2) (by decide) (by decide) k) ?_
      show own_Goes p e below s _ _ (T107.setTop (mkF m 39 #[rv a1, rv a2, rv a2] []))
      refine own_st (fun _ k => XS.iconst X107.here hx rfl (hb hby own_d6_39) k) ?_
      show own_Goes p e below s _ _ (T107.setTop (mkF m 40 #[rv a1, rv a2, rv a2] [(.int (0 : Int32))]))
      exact own_retN X107 hx hlk (0 : Int32) hret (Or.inl rfl) rfl (hb hby own_d6_40) (by decide) (by decide) ⟨(0 : Int32), rfl, own_b0 (by omega), N0, e107⟩
  · have c105i : ¬ x1.toInt = x2.toInt := own_i_ne c105
    refine own_st (fun _ k => XS.icmpYes X104.here hx rfl (pc0 := 20) (pc' := 39) rfl (hb hby own_d6_20) rfl (feq c105).2 (by decide) (by decide) k) ?_
    show own_Goes p e below s _ _ (T104.setTop (mkF m 39 #[rv a1, rv a2, rv a2] []))
    refine own_st (fun _ k => XS.iconst X104.here hx rfl (hb hby own_d6_39) k) ?_
    show own_Goes p e below s _ _ (T104.setTop (mkF m 40 #[rv a1, rv a2, rv a2] [(.int (0 : Int32))]))
    exact own_retN X104 hx hlk (0 : Int32) hret (Or.inl rfl) rfl (hb hby own_d6_40) (by decide) (by decide) ⟨(0 : Int32), rfl, own_b0 (by omega), N0, e104⟩
theorem own_pn5 : plainFor (⟨"com/example/brigid/brigid/telematik/prescription/PrescriptionIdOfPinLaw", "law", "(IJIJI)Z"⟩ : MethodName) = true := by first | exact plainFor_of_name (by simp [plainName, overriddenIn]; done) | decide +kernel
theorem own_pd1 : parseMethodDescriptor "(IJ)Lcom/example/brigid/brigid/telematik/prescription/PrescriptionId;" = some ⟨[.int, .long], some (.object "com/example/brigid/brigid/telematik/prescription/PrescriptionId")⟩ := by decide +kernel
theorem own_pd2 : parseMethodDescriptor "()I" = some ⟨[], some .int⟩ := by decide +kernel
theorem own_pd3 : parseMethodDescriptor "()J" = some ⟨[], some .long⟩ := by decide +kernel
theorem own_pd4 : parseMethodDescriptor "(Ljava/lang/Object;)Z" = some ⟨[(.object "java/lang/Object")], some .boolean⟩ := by decide +kernel
theorem own_ef_rm0 (m : MethodId) (p0 : Int32) (q1 : Int64) (p2 : Int32) (q3 : Int64) (p4 : Int32) : entryFrame m #[(.int p0), (.long q1), (.int p2), (.long q3), (.int p4)] maxLocals = mkF m 0 #[iv p0, own_jv q1, .second, iv p2, own_jv q3, .second, iv p4, .unset, .unset, .unset, .unset, .unset, .unset, .unset, .unset, .unset] [] := by first | (simp [entryFrame, mkF, argsToLocals, Value.category, maxLocals]; done) | rfl
abbrev own_Q_rm0 (Z : State) (p0 : Int32) (q1 : Int64) (p2 : Int32) (q3 : Int64) (p4 : Int32) (h0 : Heap) (n0 : Nat) (v : Option Value) (h : Heap) (L : List Loc) : Prop := v = some (.int 1) ∧ Fr n0 L
set_option maxRecDepth 65536 in
set_option maxHeartbeats 40000000 in
theorem rm0 (l : Launch) (Z : State) (a0 : Array Value) (hw : ∀ d ∈ tables_1, d.before a0 Z = true) (ws : List Jvm.Cond) (p0 : Int32) (q1 : Int64) (p2 : Int32) (q3 : Int64) (p4 : Int32) (h0 : Heap) (n0 : Nat) (Z0 : n0 ≤ h0.size) :
    MetFree l x (head1 (Jvm.Cond.code x code maxLocals ret :: ws) room_1) (fun a U => a = #[(.int p0), (.long q1), (.int p2), (.long q3), (.int p4)] ∧ Z.Warmed39 U.vm ∧ U.heap = h0) (fun _ _ _ _ _ => True) (fun _ U o U' => ∃ v L, o = .returned v ∧ own_Q_rm0 Z p0 q1 p2 q3 p4 h0 n0 v U'.heap L ∧ FrameEnd U o U' L room_1.cells room_1.slots) := by
  refine own_enter (Q := fun v h L => own_Q_rm0 Z p0 q1 p2 q3 p4 h0 n0 v h L) (F := fun m => mkF m 0 #[iv p0, own_jv q1, .second, iv p2, own_jv q3, .second, iv p4, .unset, .unset, .unset, .unset, .unset, .unset, .unset, .unset, .unset] []) own_pn5 (fun m => own_ef_rm0 m p0 q1 p2 q3 p4) ?_
  intro p e s m below meth c T X hx hby hml hret hlk hnm hown hZ e0
  show own_Goes p e below s _ _ (T.setTop (mkF m 0 #[iv p0, own_jv q1, .second, iv p2, own_jv q3, .second, iv p4, .unset, .unset, .unset, .unset, .unset, .unset, .unset, .unset, .unset] []))
  have N0 := Fr.nil n0
  refine own_st (fun _ k => XS.iloadN X.here hx rfl (hb hby at_0) rfl  k) ?_
  show own_Goes p e below s _ _ (T.setTop (mkF m 1 #[iv p0, own_jv q1, .second, iv p2, own_jv q3, .second, iv p4, .unset, .unset, .unset, .unset, .unset, .unset, .unset, .unset, .unset] [(.int p0)]))
  refine own_st (fun _ k => X.ldcInt hx hown (mvT hZ (hw _ (List.mem_of_getElem? (i := 0) rfl))) (g := (mkF m 1 #[iv p0, own_jv q1, .second, iv p2, own_jv q3, .second, iv p4, .unset, .unset, .unset, .unset, .unset, .unset, .unset, .unset, .unset] [(.int p0)])) rfl (hb hby at_1) _ k) ?_
  show own_Goes p e below s _ _ (T.setTop (mkF m 3 #[iv p0, own_jv q1, .second, iv p2, own_jv q3, .second, iv p4, .unset, .unset, .unset, .unset, .unset, .unset, .unset, .unset, .unset] [(.int (2147483647 : Int32)), (.int p0)]))
  refine own_st (fun _ k => XS.iand X.here hx rfl (hb hby at_3) rfl k) ?_
  show own_Goes p e below s _ _ (T.setTop (mkF m 4 #[iv p0, own_jv q1, .second, iv p2, own_jv q3, .second, iv p4, .unset, .unset, .unset, .unset, .unset, .unset, .unset, .unset, .unset] [(.int (p0 &&& (2147483647 : Int32)))]))
  refine own_st (fun _ k => XS.sipush X.here hx rfl (hb hby at_4) k) ?_
  show own_Goes p e below s _ _ (T.setTop (mkF m 7 #[iv p0, own_jv q1, .second, iv p2, own_jv q3, .second, iv p4, .unset, .unset, .unset, .unset, .unset, .unset, .unset, .unset, .unset] [(.int (1000 : Int32)), (.int (p0 &&& (2147483647 : Int32)))]))
  refine own_st (fun _ k => iremM X hx rfl (hb hby at_7) rfl (by decide) k) ?_
  show own_Goes p e below s _ _ (T.setTop (mkF m 8 #[iv p0, own_jv q1, .second, iv p2, own_jv q3, .second, iv p4, .unset, .unset, .unset, .unset, .unset, .unset, .unset, .unset, .unset] [(.int ((p0 &&& (2147483647 : Int32)) % (1000 : Int32)))]))
  have hf := own_modI p0 1000 (by decide)
  generalize ((p0 &&& (2147483647 : Int32)) % (1000 : Int32)) = f at hf ⊢
  have hfb : f.toInt < 1000 := hf.2
  show own_Goes p e below s _ _ (T.setTop (mkF m 8 #[iv p0, own_jv q1, .second, iv p2, own_jv q3, .second, iv p4, .unset, .unset, .unset, .unset, .unset, .unset, .unset, .unset, .unset] [(.int f)]))
  refine own_st (fun _ k => XS.istore X.here hx rfl (hb hby at_8) rfl (l' := #[iv p0, own_jv q1, .second, iv p2, own_jv q3, .second, iv p4, iv f, .unset, .unset, .unset, .unset, .unset, .unset, .unset, .unset]) rfl k) ?_
  show own_Goes p e below s _ _ (T.setTop (mkF m 10 #[iv p0, own_jv q1, .second, iv p2, own_jv q3, .second, iv p4, iv f, .unset, .unset, .unset, .unset, .unset, .unset, .unset, .unset] []))
  refine own_st (fun _ k => XS.lloadN X.here hx rfl (hb hby at_10) rfl  k) ?_
  show own_Goes p e below s _ _ (T.setTop (mkF m 11 #[iv p0, own_jv q1, .second, iv p2, own_jv q3, .second, iv p4, iv f, .unset, .unset, .unset, .unset, .unset, .unset, .unset, .unset] [(.long q1)]))
  refine own_st (fun _ k => X.ldc2Long hx hown (mvT hZ (hw _ (List.mem_of_getElem? (i := 1) rfl))) (g := (mkF m 11 #[iv p0, own_jv q1, .second, iv p2, own_jv q3, .second, iv p4, iv f, .unset, .unset, .unset, .unset, .unset, .unset, .unset, .unset] [(.long q1)])) rfl (hb hby at_11) _ k) ?_
  show own_Goes p e below s _ _ (T.setTop (mkF m 14 #[iv p0, own_jv q1, .second, iv p2, own_jv q3, .second, iv p4, iv f, .unset, .unset, .unset, .unset, .unset, .unset, .unset, .unset] [(.long (9223372036854775807 : Int64)), (.long q1)]))
  refine own_st (fun _ k => XS.land X.here hx rfl (hb hby at_14) rfl k) ?_
  show own_Goes p e below s _ _ (T.setTop (mkF m 15 #[iv p0, own_jv q1, .second, iv p2, own_jv q3, .second, iv p4, iv f, .unset, .unset, .unset, .unset, .unset, .unset, .unset, .unset] [(.long (q1 &&& (9223372036854775807 : Int64)))]))
  refine own_st (fun _ k => X.ldc2Long hx hown (mvT hZ (hw _ (List.mem_of_getElem? (i := 2) rfl))) (g := (mkF m 15 #[iv p0, own_jv q1, .second, iv p2, own_jv q3, .second, iv p4, iv f, .unset, .unset, .unset, .unset, .unset, .unset, .unset, .unset] [(.long (q1 &&& (9223372036854775807 : Int64)))])) rfl (hb hby at_15) _ k) ?_
  show own_Goes p e below s _ _ (T.setTop (mkF m 18 #[iv p0, own_jv q1, .second, iv p2, own_jv q3, .second, iv p4, iv f, .unset, .unset, .unset, .unset, .unset, .unset, .unset, .unset] [(.long (1000000000000 : Int64)), (.long (q1 &&& (9223372036854775807 : Int64)))]))
  refine own_st (fun _ k => XS.lrem X.here hx rfl (hb hby at_18) rfl (by decide) k) ?_
  show own_Goes p e below s _ _ (T.setTop (mkF m 19 #[iv p0, own_jv q1, .second, iv p2, own_jv q3, .second, iv p4, iv f, .unset, .unset, .unset, .unset, .unset, .unset, .unset, .unset] [(.long ((q1 &&& (9223372036854775807 : Int64)) - ((q1 &&& (9223372036854775807 : Int64)) / (1000000000000 : Int64)) * (1000000000000 : Int64)))]))
  have hsn := own_modJ q1
  generalize ((q1 &&& (9223372036854775807 : Int64)) - ((q1 &&& (9223372036854775807 : Int64)) / (1000000000000 : Int64)) * (1000000000000 : Int64)) = sn at hsn ⊢
  show own_Goes p e below s _ _ (T.setTop (mkF m 19 #[iv p0, own_jv q1, .second, iv p2, own_jv q3, .second, iv p4, iv f, .unset, .unset, .unset, .unset, .unset, .unset, .unset, .unset] [(.long sn)]))
  refine own_st (fun _ k => XS.lstore X.here hx rfl (hb hby at_19) rfl (l' := #[iv p0, own_jv q1, .second, iv p2, own_jv q3, .second, iv p4, iv f, own_jv sn, .second, .unset, .unset, .unset, .unset, .unset, .unset]) rfl k) ?_
  show own_Goes p e below s _ _ (T.setTop (mkF m 21 #[iv p0, own_jv q1, .second, iv p2, own_jv q3, .second, iv p4, iv f, own_jv sn, .second, .unset, .unset, .unset, .unset, .unset, .unset] []))
  refine own_st (fun _ k => XS.iload X.here hx rfl (hb hby at_21) rfl  k) ?_
  show own_Goes p e below s _ _ (T.setTop (mkF m 23 #[iv p0, own_jv q1, .second, iv p2, own_jv q3, .second, iv p4, iv f, own_jv sn, .second, .unset, .unset, .unset, .unset, .unset, .unset] [(.int p4)]))
  refine own_st (fun _ k => XS.iconst X.here hx rfl (hb hby at_23) k) ?_
  show own_Goes p e below s _ _ (T.setTop (mkF m 24 #[iv p0, own_jv q1, .second, iv p2, own_jv q3, .second, iv p4, iv f, own_jv sn, .second, .unset, .unset, .unset, .unset, .unset, .unset] [(.int (1 : Int32)), (.int p4)]))
  refine own_st (fun _ k => XS.iand X.here hx rfl (hb hby at_24) rfl k) ?_
  show own_Goes p e below s _ _ (T.setTop (mkF m 25 #[iv p0, own_jv q1, .second, iv p2, own_jv q3, .second, iv p4, iv f, own_jv sn, .second, .unset, .unset, .unset, .unset, .unset, .unset] [(.int (p4 &&& (1 : Int32)))]))
  have J41 : ∀ (f2 : Int32), (0 ≤ f2.toInt ∧ f2.toInt < 1000) → own_Goes p e below s room_1 (fun v h L => own_Q_rm0 Z p0 q1 p2 q3 p4 h0 n0 v h L) (T.setTop (mkF m 41 #[iv p0, own_jv q1, .second, iv p2, own_jv q3, .second, iv p4, iv f, own_jv sn, .second, .unset, .unset, .unset, .unset, .unset, .unset] [(.int f2)])) := by
    intro f2 hf2
    refine own_st (fun _ k => XS.istore X.here hx rfl (hb hby at_41) rfl (l' := #[iv p0, own_jv q1, .second, iv p2, own_jv q3, .second, iv p4, iv f, own_jv sn, .second, iv f2, .unset, .unset, .unset, .unset, .unset]) rfl k) ?_
    show own_Goes p e below s _ _ (T.setTop (mkF m 43 #[iv p0, own_jv q1, .second, iv p2, own_jv q3, .second, iv p4, iv f, own_jv sn, .second, iv f2, .unset, .unset, .unset, .unset, .unset] []))
    refine own_st (fun _ k => XS.iload X.here hx rfl (hb hby at_43) rfl  k) ?_
    show own_Goes p e below s _ _ (T.setTop (mkF m 45 #[iv p0, own_jv q1, .second, iv p2, own_jv q3, .second, iv p4, iv f, own_jv sn, .second, iv f2, .unset, .unset, .unset, .unset, .unset] [(.int p4)]))
    refine own_st (fun _ k => XS.iconst X.here hx rfl (hb hby at_45) k) ?_
    show own_Goes p e below s _ _ (T.setTop (mkF m 46 #[iv p0, own_jv q1, .second, iv p2, own_jv q3, .second, iv p4, iv f, own_jv sn, .second, iv f2, .unset, .unset, .unset, .unset, .unset] [(.int (2 : Int32)), (.int p4)]))
    refine own_st (fun _ k => XS.iand X.here hx rfl (hb hby at_46) rfl k) ?_
    show own_Goes p e below s _ _ (T.setTop (mkF m 47 #[iv p0, own_jv q1, .second, iv p2, own_jv q3, .second, iv p4, iv f, own_jv sn, .second, iv f2, .unset, .unset, .unset, .unset, .unset] [(.int (p4 &&& (2 : Int32)))]))
    have J65 : ∀ (s2 : Int64), (0 ≤ s2.toInt ∧ s2.toInt ≤ 999999999999) → own_Goes p e below s room_1 (fun v h L => own_Q_rm0 Z p0 q1 p2 q3 p4 h0 n0 v h L) (T.setTop (mkF m 65 #[iv p0, own_jv q1, .second, iv p2, own_jv q3, .second, iv p4, iv f, own_jv sn, .second, iv f2, .unset, .unset, .unset, .unset, .unset] [(.long s2)])) := by
      intro s2 hs2
      refine own_st (fun _ k => XS.lstore X.here hx rfl (hb hby at_65) rfl (l' := #[iv p0, own_jv q1, .second, iv p2, own_jv q3, .second, iv p4, iv f, own_jv sn, .second, iv f2, own_jv s2, .second, .unset, .unset, .unset]) rfl k) ?_
      show own_Goes p e below s _ _ (T.setTop (mkF m 67 #[iv p0, own_jv q1, .second, iv p2, own_jv q3, .second, iv p4, iv f, own_jv sn, .second, iv f2, own_jv s2, .second, .unset, .unset, .unset] []))
      refine own_st (fun _ k => XS.iload X.here hx rfl (hb hby at_67) rfl  k) ?_
      show own_Goes p e below s _ _ (T.setTop (mkF m 69 #[iv p0, own_jv q1, .second, iv p2, own_jv q3, .second, iv p4, iv f, own_jv sn, .second, iv f2, own_jv s2, .second, .unset, .unset, .unset] [(.int f)]))
      refine own_st (fun _ k => XS.lload X.here hx rfl (hb hby at_69) rfl  k) ?_
      show own_Goes p e below s _ _ (T.setTop (mkF m 71 #[iv p0, own_jv q1, .second, iv p2, own_jv q3, .second, iv p4, iv f, own_jv sn, .second, iv f2, own_jv s2, .second, .unset, .unset, .unset] [(.long sn), (.int f)]))
      obtain ⟨v101, T101, L101, X101, Q101, st101⟩ := own_callS X hx hZ (y := (⟨"com/example/brigid/brigid/telematik/prescription/PrescriptionId", "of", "(IJ)Lcom/example/brigid/brigid/telematik/prescription/PrescriptionId;"⟩ : MethodName)) hown (hw _ (List.mem_of_getElem? (i := 3) rfl)) (hw _ (List.mem_of_getElem? (i := 4) rfl)) (hw _ (List.mem_of_getElem? (i := 5) rfl)) (hw _ (List.mem_of_getElem? (i := 6) rfl)) (by decide) (W := 0) (rest := []) (argsL := [(.int f), (.long sn)]) (rmOf l Z a0 hw [] f sn h0 n0 (by omega) (by omega) (by omega)) (by decide) (by decide) (by decide) (by decide) e0 own_pd1 rfl (g := (mkF m 71 #[iv p0, own_jv q1, .second, iv p2, own_jv q3, .second, iv p4, iv f, own_jv sn, .second, iv f2, own_jv s2, .second, .unset, .unset, .unset] [(.long sn), (.int f)])) rfl (by rw [hml]; rfl) rfl (by show 2 * 0 + _ ≤ _; exact Nat.le_of_eq rfl) (hb hby at_71)
      obtain ⟨b101, rfl, N101q, K101, g101, y101, A101, F101a, F101b⟩ := Q101
      have z101 := K101.1
      have N101 := Fr.app N0 N101q
      refine own_st st101 ?_
      show own_Goes p e below s _ _ (T101.setTop (mkF m 74 #[iv p0, own_jv q1, .second, iv p2, own_jv q3, .second, iv p4, iv f, own_jv sn, .second, iv f2, own_jv s2, .second, .unset, .unset, .unset] [(.ref b101)]))
      refine own_st (fun _ k => XS.astore X101.here hx rfl (hb hby at_74) rfl rfl (l' := #[iv p0, own_jv q1, .second, iv p2, own_jv q3, .second, iv p4, iv f, own_jv sn, .second, iv f2, own_jv s2, .second, rv b101, .unset, .unset]) rfl k) ?_
      show own_Goes p e below s _ _ (T101.setTop (mkF m 76 #[iv p0, own_jv q1, .second, iv p2, own_jv q3, .second, iv p4, iv f, own_jv sn, .second, iv f2, own_jv s2, .second, rv b101, .unset, .unset] []))
      refine own_st (fun _ k => XS.iload X101.here hx rfl (hb hby at_76) rfl  k) ?_
      show own_Goes p e below s _ _ (T101.setTop (mkF m 78 #[iv p0, own_jv q1, .second, iv p2, own_jv q3, .second, iv p4, iv f, own_jv sn, .second, iv f2, own_jv s2, .second, rv b101, .unset, .unset] [(.int f2)]))
      refine own_st (fun _ k => XS.lload X101.here hx rfl (hb hby at_78) rfl  k) ?_
      show own_Goes p e below s _ _ (T101.setTop (mkF m 80 #[iv p0, own_jv q1, .second, iv p2, own_jv q3, .second, iv p4, iv f, own_jv sn, .second, iv f2, own_jv s2, .second, rv b101, .unset, .unset] [(.long s2), (.int f2)]))
      obtain ⟨v102, T102, L102, X102, Q102, st102⟩ := own_callS X101 hx hZ (y := (⟨"com/example/brigid/brigid/telematik/prescription/PrescriptionId", "of", "(IJ)Lcom/example/brigid/brigid/telematik/prescription/PrescriptionId;"⟩ : MethodName)) hown (hw _ (List.mem_of_getElem? (i := 3) rfl)) (hw _ (List.mem_of_getElem? (i := 4) rfl)) (hw _ (List.mem_of_getElem? (i := 5) rfl)) (hw _ (List.mem_of_getElem? (i := 6) rfl)) (by decide) (W := 0) (rest := []) (argsL := [(.int f2), (.long s2)]) (rmOf l Z a0 hw [] f2 s2 T101.heap n0 (by omega) (by omega) (by omega)) (by decide) (by decide) (by decide) (by decide) rfl own_pd1 rfl (g := (mkF m 80 #[iv p0, own_jv q1, .second, iv p2, own_jv q3, .second, iv p4, iv f, own_jv sn, .second, iv f2, own_jv s2, .second, rv b101, .unset, .unset] [(.long s2), (.int f2)])) rfl (by rw [hml]; rfl) rfl (by show 2 * 0 + _ ≤ _; exact Nat.le_of_eq rfl) (hb hby at_80)
      obtain ⟨b102, rfl, N102q, K102, g102, y102, A102, F102a, F102b⟩ := Q102
      have z102 := K102.1
      have N102 := Fr.app N101 N102q
      refine own_st st102 ?_
      show own_Goes p e below s _ _ (T102.setTop (mkF m 83 #[iv p0, own_jv q1, .second, iv p2, own_jv q3, .second, iv p4, iv f, own_jv sn, .second, iv f2, own_jv s2, .second, rv b101, .unset, .unset] [(.ref b102)]))
      refine own_st (fun _ k => XS.astore X102.here hx rfl (hb hby at_83) rfl rfl (l' := #[iv p0, own_jv q1, .second, iv p2, own_jv q3, .second, iv p4, iv f, own_jv sn, .second, iv f2, own_jv s2, .second, rv b101, rv b102, .unset]) rfl k) ?_
      show own_Goes p e below s _ _ (T102.setTop (mkF m 85 #[iv p0, own_jv q1, .second, iv p2, own_jv q3, .second, iv p4, iv f, own_jv sn, .second, iv f2, own_jv s2, .second, rv b101, rv b102, .unset] []))
      refine own_st (fun _ k => XS.iload X102.here hx rfl (hb hby at_85) rfl  k) ?_
      show own_Goes p e below s _ _ (T102.setTop (mkF m 87 #[iv p0, own_jv q1, .second, iv p2, own_jv q3, .second, iv p4, iv f, own_jv sn, .second, iv f2, own_jv s2, .second, rv b101, rv b102, .unset] [(.int f)]))
      refine own_st (fun _ k => XS.iload X102.here hx rfl (hb hby at_87) rfl  k) ?_
      show own_Goes p e below s _ _ (T102.setTop (mkF m 89 #[iv p0, own_jv q1, .second, iv p2, own_jv q3, .second, iv p4, iv f, own_jv sn, .second, iv f2, own_jv s2, .second, rv b101, rv b102, .unset] [(.int f2), (.int f)]))
      by_cases c103 : f = f2
      · have c103i : f.toInt = f2.toInt := own_i_eq c103
        refine own_st (fun _ k => XS.icmpNo X102.here hx rfl (hb hby at_89) rfl (teq c103).2 k) ?_
        show own_Goes p e below s _ _ (T102.setTop (mkF m 92 #[iv p0, own_jv q1, .second, iv p2, own_jv q3, .second, iv p4, iv f, own_jv sn, .second, iv f2, own_jv s2, .second, rv b101, rv b102, .unset] []))
        refine own_st (fun _ k => XS.lload X102.here hx rfl (hb hby at_92) rfl  k) ?_
        show own_Goes p e below s _ _ (T102.setTop (mkF m 94 #[iv p0, own_jv q1, .second, iv p2, own_jv q3, .second, iv p4, iv f, own_jv sn, .second, iv f2, own_jv s2, .second, rv b101, rv b102, .unset] [(.long sn)]))
        refine own_st (fun _ k => XS.lload X102.here hx rfl (hb hby at_94) rfl  k) ?_
        show own_Goes p e below s _ _ (T102.setTop (mkF m 96 #[iv p0, own_jv q1, .second, iv p2, own_jv q3, .second, iv p4, iv f, own_jv sn, .second, iv f2, own_jv s2, .second, rv b101, rv b102, .unset] [(.long s2), (.long sn)]))
        refine own_st (fun _ k => XS.lcmp X102.here hx rfl (hb hby at_96) rfl k) ?_
        show own_Goes p e below s _ _ (T102.setTop (mkF m 97 #[iv p0, own_jv q1, .second, iv p2, own_jv q3, .second, iv p4, iv f, own_jv sn, .second, iv f2, own_jv s2, .second, rv b101, rv b102, .unset] [(.int (lcmpW sn s2))]))
        by_cases c104 : sn = s2
        · have c104i : sn.toInt = s2.toInt := own_j_eq c104
          refine own_st (fun _ k => XS.ifNo X102.here hx rfl (hb hby at_97) rfl ((if0 _ _).trans (teq ((lw_eq _ _).mpr c104)).2) k) ?_
          show own_Goes p e below s _ _ (T102.setTop (mkF m 100 #[iv p0, own_jv q1, .second, iv p2, own_jv q3, .second, iv p4, iv f, own_jv sn, .second, iv f2, own_jv s2, .second, rv b101, rv b102, .unset] []))
          refine own_st (fun _ k => XS.iconst X102.here hx rfl (hb hby at_100) k) ?_
          show own_Goes p e below s _ _ (T102.setTop (mkF m 101 #[iv p0, own_jv q1, .second, iv p2, own_jv q3, .second, iv p4, iv f, own_jv sn, .second, iv f2, own_jv s2, .second, rv b101, rv b102, .unset] [(.int (1 : Int32))]))
          refine own_st (fun _ k => XS.goto X102.here hx rfl (pc0 := 101) (pc' := 105) rfl (hb hby at_101) (by decide) (by decide) k) ?_
          show own_Goes p e below s _ _ (T102.setTop (mkF m 105 #[iv p0, own_jv q1, .second, iv p2, own_jv q3, .second, iv p4, iv f, own_jv sn, .second, iv f2, own_jv s2, .second, rv b101, rv b102, .unset] [(.int (1 : Int32))]))
          refine own_st (fun _ k => XS.istore X102.here hx rfl (hb hby at_105) rfl (l' := #[iv p0, own_jv q1, .second, iv p2, own_jv q3, .second, iv p4, iv f, own_jv sn, .second, iv f2, own_jv s2, .second, rv b101, rv b102, iv (1 : Int32)]) rfl k) ?_
          show own_Goes p e below s _ _ (T102.setTop (mkF m 107 #[iv p0, own_jv q1, .second, iv p2, own_jv q3, .second, iv p4, iv f, own_jv sn, .second, iv f2, own_jv s2, .second, rv b101, rv b102, iv (1 : Int32)] []))
          refine own_st (fun _ k => XS.aload X102.here hx rfl (hb hby at_107) rfl rfl  k) ?_
          show own_Goes p e below s _ _ (T102.setTop (mkF m 109 #[iv p0, own_jv q1, .second, iv p2, own_jv q3, .second, iv p4, iv f, own_jv sn, .second, iv f2, own_jv s2, .second, rv b101, rv b102, iv (1 : Int32)] [(.ref b101)]))
          have f106 := (F101a.keep K102 nin0)
          have f107 := (A101.keep K102)
          obtain ⟨v105, T105, L105, X105, Q105, st105⟩ := own_callV X102 hx hZ (C := "com/example/brigid/brigid/telematik/prescription/PrescriptionId") (y := (⟨"com/example/brigid/brigid/telematik/prescription/PrescriptionId", "getFlowType", "()I"⟩ : MethodName)) hown (hw _ (List.mem_of_getElem? (i := 20) rfl)) (hw _ (List.mem_of_getElem? (i := 21) rfl)) (hw _ (List.mem_of_getElem? (i := 23) rfl)) (hw _ (List.mem_of_getElem? (i := 22) rfl)) (hw _ (List.mem_of_getElem? (i := 5) rfl)) (hw _ (List.mem_of_getElem? (i := 24) rfl)) (by decide) (W := 0) (rest := []) (argsL := []) (a := b101) (rmG1 l Z a0 hw [] b101 _ T102.heap n0 (by omega) f106) (by decide) (by decide) (by decide) (by decide) rfl f107 own_pd2 rfl (g := (mkF m 109 #[iv p0, own_jv q1, .second, iv p2, own_jv q3, .second, iv p4, iv f, own_jv sn, .second, iv f2, own_jv s2, .second, rv b101, rv b102, iv (1 : Int32)] [(.ref b101)])) rfl (by rw [hml]; rfl) rfl (by show 2 * 0 + _ ≤ _; exact Nat.le_of_eq rfl) (hb hby at_109)
          obtain ⟨rfl, N105q, e105⟩ := Q105
          have N105 := Fr.app N102 N105q
          refine own_st st105 ?_
          show own_Goes p e below s _ _ (T105.setTop (mkF m 112 #[iv p0, own_jv q1, .second, iv p2, own_jv q3, .second, iv p4, iv f, own_jv sn, .second, iv f2, own_jv s2, .second, rv b101, rv b102, iv (1 : Int32)] [(.int f)]))
          refine own_st (fun _ k => XS.iload X105.here hx rfl (hb hby at_112) rfl  k) ?_
          show own_Goes p e below s _ _ (T105.setTop (mkF m 114 #[iv p0, own_jv q1, .second, iv p2, own_jv q3, .second, iv p4, iv f, own_jv sn, .second, iv f2, own_jv s2, .second, rv b101, rv b102, iv (1 : Int32)] [(.int f), (.int f)]))
          refine own_st (fun _ k => XS.icmpNo X105.here hx rfl (hb hby at_114) rfl (teq (rfl : f = f)).2 k) ?_
          show own_Goes p e below s _ _ (T105.setTop (mkF m 117 #[iv p0, own_jv q1, .second, iv p2, own_jv q3, .second, iv p4, iv f, own_jv sn, .second, iv f2, own_jv s2, .second, rv b101, rv b102, iv (1 : Int32)] []))
          refine own_st (fun _ k => XS.aload X105.here hx rfl (hb hby at_117) rfl rfl  k) ?_
          show own_Goes p e below s _ _ (T105.setTop (mkF m 119 #[iv p0, own_jv q1, .second, iv p2, own_jv q3, .second, iv p4, iv f, own_jv sn, .second, iv f2, own_jv s2, .second, rv b101, rv b102, iv (1 : Int32)] [(.ref b101)]))
          have f109 := (F101b.keep K102 nin0)
          obtain ⟨v108, T108, L108, X108, Q108, st108⟩ := own_callV X105 hx hZ (C := "com/example/brigid/brigid/telematik/prescription/PrescriptionId") (y := (⟨"com/example/brigid/brigid/telematik/prescription/PrescriptionId", "getSerialNumber", "()J"⟩ : MethodName)) hown (hw _ (List.mem_of_getElem? (i := 25) rfl)) (hw _ (List.mem_of_getElem? (i := 26) rfl)) (hw _ (List.mem_of_getElem? (i := 28) rfl)) (hw _ (List.mem_of_getElem? (i := 27) rfl)) (hw _ (List.mem_of_getElem? (i := 5) rfl)) (hw _ (List.mem_of_getElem? (i := 29) rfl)) (by decide) (W := 0) (rest := []) (argsL := []) (a := b101) (rmG2 l Z a0 hw [] b101 _ T102.heap n0 (by omega) f109) (by decide) (by decide) (by decide) (by decide) e105 f107 own_pd3 rfl (g := (mkF m 119 #[iv p0, own_jv q1, .second, iv p2, own_jv q3, .second, iv p4, iv f, own_jv sn, .second, iv f2, own_jv s2, .second, rv b101, rv b102, iv (1 : Int32)] [(.ref b101)])) rfl (by rw [hml]; rfl) rfl (by show 2 * 0 + _ ≤ _; exact Nat.le_of_eq rfl) (hb hby at_119)
          obtain ⟨rfl, N108q, e108⟩ := Q108
          have N108 := Fr.app N105 N108q
          refine own_st st108 ?_
          show own_Goes p e below s _ _ (T108.setTop (mkF m 122 #[iv p0, own_jv q1, .second, iv p2, own_jv q3, .second, iv p4, iv f, own_jv sn, .second, iv f2, own_jv s2, .second, rv b101, rv b102, iv (1 : Int32)] [(.long sn)]))
          refine own_st (fun _ k => XS.lload X108.here hx rfl (hb hby at_122) rfl  k) ?_
          show own_Goes p e below s _ _ (T108.setTop (mkF m 124 #[iv p0, own_jv q1, .second, iv p2, own_jv q3, .second, iv p4, iv f, own_jv sn, .second, iv f2, own_jv s2, .second, rv b101, rv b102, iv (1 : Int32)] [(.long sn), (.long sn)]))
          refine own_st (fun _ k => XS.lcmp X108.here hx rfl (hb hby at_124) rfl k) ?_
          show own_Goes p e below s _ _ (T108.setTop (mkF m 125 #[iv p0, own_jv q1, .second, iv p2, own_jv q3, .second, iv p4, iv f, own_jv sn, .second, iv f2, own_jv s2, .second, rv b101, rv b102, iv (1 : Int32)] [(.int (lcmpW sn sn))]))
          refine own_st (fun _ k => XS.ifNo X108.here hx rfl (hb hby at_125) rfl ((if0 _ _).trans (teq ((lw_eq _ _).mpr (rfl : sn = sn))).2) k) ?_
          show own_Goes p e below s _ _ (T108.setTop (mkF m 128 #[iv p0, own_jv q1, .second, iv p2, own_jv q3, .second, iv p4, iv f, own_jv sn, .second, iv f2, own_jv s2, .second, rv b101, rv b102, iv (1 : Int32)] []))
          refine own_st (fun _ k => XS.aload X108.here hx rfl (hb hby at_128) rfl rfl  k) ?_
          show own_Goes p e below s _ _ (T108.setTop (mkF m 130 #[iv p0, own_jv q1, .second, iv p2, own_jv q3, .second, iv p4, iv f, own_jv sn, .second, iv f2, own_jv s2, .second, rv b101, rv b102, iv (1 : Int32)] [(.ref b102)]))
          obtain ⟨v110, T110, L110, X110, Q110, st110⟩ := own_callV X108 hx hZ (C := "com/example/brigid/brigid/telematik/prescription/PrescriptionId") (y := (⟨"com/example/brigid/brigid/telematik/prescription/PrescriptionId", "getFlowType", "()I"⟩ : MethodName)) hown (hw _ (List.mem_of_getElem? (i := 20) rfl)) (hw _ (List.mem_of_getElem? (i := 21) rfl)) (hw _ (List.mem_of_getElem? (i := 23) rfl)) (hw _ (List.mem_of_getElem? (i := 22) rfl)) (hw _ (List.mem_of_getElem? (i := 5) rfl)) (hw _ (List.mem_of_getElem? (i := 24) rfl)) (by decide) (W := 0) (rest := []) (argsL := []) (a := b102) (rmG1 l Z a0 hw [] b102 _ T102.heap n0 (by omega) F102a) (by decide) (by decide) (by decide) (by decide) e108 A102 own_pd2 rfl (g := (mkF m 130 #[iv p0, own_jv q1, .second, iv p2, own_jv q3, .second, iv p4, iv f, own_jv sn, .second, iv f2, own_jv s2, .second, rv b101, rv b102, iv (1 : Int32)] [(.ref b102)])) rfl (by rw [hml]; rfl) rfl (by show 2 * 0 + _ ≤ _; exact Nat.le_of_eq rfl) (hb hby at_130)
          obtain ⟨rfl, N110q, e110⟩ := Q110
          have N110 := Fr.app N108 N110q
          refine own_st st110 ?_
          show own_Goes p e below s _ _ (T110.setTop (mkF m 133 #[iv p0, own_jv q1, .second, iv p2, own_jv q3, .second, iv p4, iv f, own_jv sn, .second, iv f2, own_jv s2, .second, rv b101, rv b102, iv (1 : Int32)] [(.int f2)]))
          refine own_st (fun _ k => XS.iload X110.here hx rfl (hb hby at_133) rfl  k) ?_
          show own_Goes p e below s _ _ (T110.setTop (mkF m 135 #[iv p0, own_jv q1, .second, iv p2, own_jv q3, .second, iv p4, iv f, own_jv sn, .second, iv f2, own_jv s2, .second, rv b101, rv b102, iv (1 : Int32)] [(.int f2), (.int f2)]))
          refine own_st (fun _ k => XS.icmpNo X110.here hx rfl (hb hby at_135) rfl (teq (rfl : f2 = f2)).2 k) ?_
          show own_Goes p e below s _ _ (T110.setTop (mkF m 138 #[iv p0, own_jv q1, .second, iv p2, own_jv q3, .second, iv p4, iv f, own_jv sn, .second, iv f2, own_jv s2, .second, rv b101, rv b102, iv (1 : Int32)] []))
          refine own_st (fun _ k => XS.aload X110.here hx rfl (hb hby at_138) rfl rfl  k) ?_
          show own_Goes p e below s _ _ (T110.setTop (mkF m 140 #[iv p0, own_jv q1, .second, iv p2, own_jv q3, .second, iv p4, iv f, own_jv sn, .second, iv f2, own_jv s2, .second, rv b101, rv b102, iv (1 : Int32)] [(.ref b102)]))
          obtain ⟨v111, T111, L111, X111, Q111, st111⟩ := own_callV X110 hx hZ (C := "com/example/brigid/brigid/telematik/prescription/PrescriptionId") (y := (⟨"com/example/brigid/brigid/telematik/prescription/PrescriptionId", "getSerialNumber", "()J"⟩ : MethodName)) hown (hw _ (List.mem_of_getElem? (i := 25) rfl)) (hw _ (List.mem_of_getElem? (i := 26) rfl)) (hw _ (List.mem_of_getElem? (i := 28) rfl)) (hw _ (List.mem_of_getElem? (i := 27) rfl)) (hw _ (List.mem_of_getElem? (i := 5) rfl)) (hw _ (List.mem_of_getElem? (i := 29) rfl)) (by decide) (W := 0) (rest := []) (argsL := []) (a := b102) (rmG2 l Z a0 hw [] b102 _ T102.heap n0 (by omega) F102b) (by decide) (by decide) (by decide) (by decide) e110 A102 own_pd3 rfl (g := (mkF m 140 #[iv p0, own_jv q1, .second, iv p2, own_jv q3, .second, iv p4, iv f, own_jv sn, .second, iv f2, own_jv s2, .second, rv b101, rv b102, iv (1 : Int32)] [(.ref b102)])) rfl (by rw [hml]; rfl) rfl (by show 2 * 0 + _ ≤ _; exact Nat.le_of_eq rfl) (hb hby at_140)
          obtain ⟨rfl, N111q, e111⟩ := Q111
          have N111 := Fr.app N110 N111q
          refine own_st st111 ?_
          show own_Goes p e below s _ _ (T111.setTop (mkF m 143 #[iv p0, own_jv q1, .second, iv p2, own_jv q3, .second, iv p4, iv f, own_jv sn, .second, iv f2, own_jv s2, .second, rv b101, rv b102, iv (1 : Int32)] [(.long s2)]))
          refine own_st (fun _ k => XS.lload X111.here hx rfl (hb hby at_143) rfl  k) ?_
          show own_Goes p e below s _ _ (T111.setTop (mkF m 145 #[iv p0, own_jv q1, .second, iv p2, own_jv q3, .second, iv p4, iv f, own_jv sn, .second, iv f2, own_jv s2, .second, rv b101, rv b102, iv (1 : Int32)] [(.long s2), (.long s2)]))
          refine own_st (fun _ k => XS.lcmp X111.here hx rfl (hb hby at_145) rfl k) ?_
          show own_Goes p e below s _ _ (T111.setTop (mkF m 146 #[iv p0, own_jv q1, .second, iv p2, own_jv q3, .second, iv p4, iv f, own_jv sn, .second, iv f2, own_jv s2, .second, rv b101, rv b102, iv (1 : Int32)] [(.int (lcmpW s2 s2))]))
          refine own_st (fun _ k => XS.ifNo X111.here hx rfl (hb hby at_146) rfl ((if0 _ _).trans (teq ((lw_eq _ _).mpr (rfl : s2 = s2))).2) k) ?_
          show own_Goes p e below s _ _ (T111.setTop (mkF m 149 #[iv p0, own_jv q1, .second, iv p2, own_jv q3, .second, iv p4, iv f, own_jv sn, .second, iv f2, own_jv s2, .second, rv b101, rv b102, iv (1 : Int32)] []))
          refine own_st (fun _ k => XS.aload X111.here hx rfl (hb hby at_149) rfl rfl  k) ?_
          show own_Goes p e below s _ _ (T111.setTop (mkF m 151 #[iv p0, own_jv q1, .second, iv p2, own_jv q3, .second, iv p4, iv f, own_jv sn, .second, iv f2, own_jv s2, .second, rv b101, rv b102, iv (1 : Int32)] [(.ref b101)]))
          refine own_st (fun _ k => XS.aload X111.here hx rfl (hb hby at_151) rfl rfl  k) ?_
          show own_Goes p e below s _ _ (T111.setTop (mkF m 153 #[iv p0, own_jv q1, .second, iv p2, own_jv q3, .second, iv p4, iv f, own_jv sn, .second, iv f2, own_jv s2, .second, rv b101, rv b102, iv (1 : Int32)] [(.ref b102), (.ref b101)]))
          obtain ⟨v112, T112, L112, X112, Q112, st112⟩ := own_callV X111 hx hZ (C := "com/example/brigid/brigid/telematik/prescription/PrescriptionId") (y := (⟨"com/example/brigid/brigid/telematik/prescription/PrescriptionId", "equals", "(Ljava/lang/Object;)Z"⟩ : MethodName)) hown (hw _ (List.mem_of_getElem? (i := 30) rfl)) (hw _ (List.mem_of_getElem? (i := 31) rfl)) (hw _ (List.mem_of_getElem? (i := 33) rfl)) (hw _ (List.mem_of_getElem? (i := 32) rfl)) (hw _ (List.mem_of_getElem? (i := 5) rfl)) (hw _ (List.mem_of_getElem? (i := 34) rfl)) (by decide) (W := 0) (rest := []) (argsL := [(.ref b102)]) (a := b101) (rmEq l Z a0 hw [] b101 b102 _ _ _ _ T102.heap n0 (by omega) A102 f106 F102a f109 F102b) (by decide) (by decide) (by decide) (by decide) e111 f107 own_pd4 rfl (g := (mkF m 153 #[iv p0, own_jv q1, .second, iv p2, own_jv q3, .second, iv p4, iv f, own_jv sn, .second, iv f2, own_jv s2, .second, rv b101, rv b102, iv (1 : Int32)] [(.ref b102), (.ref b101)])) rfl (by rw [hml]; rfl) rfl (by show 2 * 0 + _ ≤ _; exact Nat.le_of_eq rfl) (hb hby at_153)
          obtain ⟨r112, rfl, hr112, N112q, e112⟩ := Q112
          have N112 := Fr.app N111 N112q
          refine own_st st112 ?_
          show own_Goes p e below s _ _ (T112.setTop (mkF m 156 #[iv p0, own_jv q1, .second, iv p2, own_jv q3, .second, iv p4, iv f, own_jv sn, .second, iv f2, own_jv s2, .second, rv b101, rv b102, iv (1 : Int32)] [(.int r112)]))
          refine own_st (fun _ k => XS.iload X112.here hx rfl (hb hby at_156) rfl  k) ?_
          show own_Goes p e below s _ _ (T112.setTop (mkF m 158 #[iv p0, own_jv q1, .second, iv p2, own_jv q3, .second, iv p4, iv f, own_jv sn, .second, iv f2, own_jv s2, .second, rv b101, rv b102, iv (1 : Int32)] [(.int (1 : Int32)), (.int r112)]))
          by_cases c113 : r112 = (1 : Int32)
          · have c113i : r112.toInt = 1 := own_i_eq c113
            refine own_st (fun _ k => XS.icmpNo X112.here hx rfl (hb hby at_158) rfl (teq c113).2 k) ?_
            show own_Goes p e below s _ _ (T112.setTop (mkF m 161 #[iv p0, own_jv q1, .second, iv p2, own_jv q3, .second, iv p4, iv f, own_jv sn, .second, iv f2, own_jv s2, .second, rv b101, rv b102, iv (1 : Int32)] []))
            refine own_st (fun _ k => XS.iconst X112.here hx rfl (hb hby at_161) k) ?_
            show own_Goes p e below s _ _ (T112.setTop (mkF m 162 #[iv p0, own_jv q1, .second, iv p2, own_jv q3, .second, iv p4, iv f, own_jv sn, .second, iv f2, own_jv s2, .second, rv b101, rv b102, iv (1 : Int32)] [(.int (1 : Int32))]))
            refine own_st (fun _ k => XS.goto X112.here hx rfl (pc0 := 162) (pc' := 166) rfl (hb hby at_162) (by decide) (by decide) k) ?_
            show own_Goes p e below s _ _ (T112.setTop (mkF m 166 #[iv p0, own_jv q1, .second, iv p2, own_jv q3, .second, iv p4, iv f, own_jv sn, .second, iv f2, own_jv s2, .second, rv b101, rv b102, iv (1 : Int32)] [(.int (1 : Int32))]))
            exact own_retN X112 hx hlk (1 : Int32) hret (Or.inl rfl) rfl (hb hby at_166) (by decide) (by decide) ⟨rfl, N112⟩
          · have c113i : ¬ r112.toInt = 1 := own_i_ne c113
            exfalso; omega
        · have c104i : ¬ sn.toInt = s2.toInt := own_j_ne c104
          refine own_st (fun _ k => XS.ifYes X102.here hx rfl (pc0 := 97) (pc' := 104) rfl (hb hby at_97) rfl ((if0 _ _).trans (feq (fun q => c104 ((lw_eq _ _).mp q))).2) (by decide) (by decide) k) ?_
          show own_Goes p e below s _ _ (T102.setTop (mkF m 104 #[iv p0, own_jv q1, .second, iv p2, own_jv q3, .second, iv p4, iv f, own_jv sn, .second, iv f2, own_jv s2, .second, rv b101, rv b102, .unset] []))
          refine own_st (fun _ k => XS.iconst X102.here hx rfl (hb hby at_104) k) ?_
          show own_Goes p e below s _ _ (T102.setTop (mkF m 105 #[iv p0, own_jv q1, .second, iv p2, own_jv q3, .second, iv p4, iv f, own_jv sn, .second, iv f2, own_jv s2, .second, rv b101, rv b102, .unset] [(.int (0 : Int32))]))
          refine own_st (fun _ k => XS.istore X102.here hx rfl (hb hby at_105) rfl (l' := #[iv p0, own_jv q1, .second, iv p2, own_jv q3, .second, iv p4, iv f, own_jv sn, .second, iv f2, own_jv s2, .second, rv b101, rv b102, iv (0 : Int32)]) rfl k) ?_
          show own_Goes p e below s _ _ (T102.setTop (mkF m 107 #[iv p0, own_jv q1, .second, iv p2, own_jv q3, .second, iv p4, iv f, own_jv sn, .second, iv f2, own_jv s2, .second, rv b101, rv b102, iv (0 : Int32)] []))
          refine own_st (fun _ k => XS.aload X102.here hx rfl (hb hby at_107) rfl rfl  k) ?_
          show own_Goes p e below s _ _ (T102.setTop (mkF m 109 #[iv p0, own_jv q1, .second, iv p2, own_jv q3, .second, iv p4, iv f, own_jv sn, .second, iv f2, own_jv s2, .second, rv b101, rv b102, iv (0 : Int32)] [(.ref b101)]))
          have f115 := (F101a.keep K102 nin0)
          have f116 := (A101.keep K102)
          obtain ⟨v114, T114, L114, X114, Q114, st114⟩ := own_callV X102 hx hZ (C := "com/example/brigid/brigid/telematik/prescription/PrescriptionId") (y := (⟨"com/example/brigid/brigid/telematik/prescription/PrescriptionId", "getFlowType", "()I"⟩ : MethodName)) hown (hw _ (List.mem_of_getElem? (i := 20) rfl)) (hw _ (List.mem_of_getElem? (i := 21) rfl)) (hw _ (List.mem_of_getElem? (i := 23) rfl)) (hw _ (List.mem_of_getElem? (i := 22) rfl)) (hw _ (List.mem_of_getElem? (i := 5) rfl)) (hw _ (List.mem_of_getElem? (i := 24) rfl)) (by decide) (W := 0) (rest := []) (argsL := []) (a := b101) (rmG1 l Z a0 hw [] b101 _ T102.heap n0 (by omega) f115) (by decide) (by decide) (by decide) (by decide) rfl f116 own_pd2 rfl (g := (mkF m 109 #[iv p0, own_jv q1, .second, iv p2, own_jv q3, .second, iv p4, iv f, own_jv sn, .second, iv f2, own_jv s2, .second, rv b101, rv b102, iv (0 : Int32)] [(.ref b101)])) rfl (by rw [hml]; rfl) rfl (by show 2 * 0 + _ ≤ _; exact Nat.le_of_eq rfl) (hb hby at_109)
          obtain ⟨rfl, N114q, e114⟩ := Q114
          have N114 := Fr.app N102 N114q
          refine own_st st114 ?_
          show own_Goes p e below s _ _ (T114.setTop (mkF m 112 #[iv p0, own_jv q1, .second, iv p2, own_jv q3, .second, iv p4, iv f, own_jv sn, .second, iv f2, own_jv s2, .second, rv b101, rv b102, iv (0 : Int32)] [(.int f)]))
          refine own_st (fun _ k => XS.iload X114.here hx rfl (hb hby at_112) rfl  k) ?_
          show own_Goes p e below s _ _ (T114.setTop (mkF m 114 #[iv p0, own_jv q1, .second, iv p2, own_jv q3, .second, iv p4, iv f, own_jv sn, .second, iv f2, own_jv s2, .second, rv b101, rv b102, iv (0 : Int32)] [(.int f), (.int f)]))
          refine own_st (fun _ k => XS.icmpNo X114.here hx rfl (hb hby at_114) rfl (teq (rfl : f = f)).2 k) ?_
          show own_Goes p e below s _ _ (T114.setTop (mkF m 117 #[iv p0, own_jv q1, .second, iv p2, own_jv q3, .second, iv p4, iv f, own_jv sn, .second, iv f2, own_jv s2, .second, rv b101, rv b102, iv (0 : Int32)] []))
          refine own_st (fun _ k => XS.aload X114.here hx rfl (hb hby at_117) rfl rfl  k) ?_
          show own_Goes p e below s _ _ (T114.setTop (mkF m 119 #[iv p0, own_jv q1, .second, iv p2, own_jv q3, .second, iv p4, iv f, own_jv sn, .second, iv f2, own_jv s2, .second, rv b101, rv b102, iv (0 : Int32)] [(.ref b101)]))
          have f118 := (F101b.keep K102 nin0)
          obtain ⟨v117, T117, L117, X117, Q117, st117⟩ := own_callV X114 hx hZ (C := "com/example/brigid/brigid/telematik/prescription/PrescriptionId") (y := (⟨"com/example/brigid/brigid/telematik/prescription/PrescriptionId", "getSerialNumber", "()J"⟩ : MethodName)) hown (hw _ (List.mem_of_getElem? (i := 25) rfl)) (hw _ (List.mem_of_getElem? (i := 26) rfl)) (hw _ (List.mem_of_getElem? (i := 28) rfl)) (hw _ (List.mem_of_getElem? (i := 27) rfl)) (hw _ (List.mem_of_getElem? (i := 5) rfl)) (hw _ (List.mem_of_getElem? (i := 29) rfl)) (by decide) (W := 0) (rest := []) (argsL := []) (a := b101) (rmG2 l Z a0 hw [] b101 _ T102.heap n0 (by omega) f118) (by decide) (by decide) (by decide) (by decide) e114 f116 own_pd3 rfl (g := (mkF m 119 #[iv p0, own_jv q1, .second, iv p2, own_jv q3, .second, iv p4, iv f, own_jv sn, .second, iv f2, own_jv s2, .second, rv b101, rv b102, iv (0 : Int32)] [(.ref b101)])) rfl (by rw [hml]; rfl) rfl (by show 2 * 0 + _ ≤ _; exact Nat.le_of_eq rfl) (hb hby at_119)
          obtain ⟨rfl, N117q, e117⟩ := Q117
          have N117 := Fr.app N114 N117q
          refine own_st st117 ?_
          show own_Goes p e below s _ _ (T117.setTop (mkF m 122 #[iv p0, own_jv q1, .second, iv p2, own_jv q3, .second, iv p4, iv f, own_jv sn, .second, iv f2, own_jv s2, .second, rv b101, rv b102, iv (0 : Int32)] [(.long sn)]))
          refine own_st (fun _ k => XS.lload X117.here hx rfl (hb hby at_122) rfl  k) ?_
          show own_Goes p e below s _ _ (T117.setTop (mkF m 124 #[iv p0, own_jv q1, .second, iv p2, own_jv q3, .second, iv p4, iv f, own_jv sn, .second, iv f2, own_jv s2, .second, rv b101, rv b102, iv (0 : Int32)] [(.long sn), (.long sn)]))
          refine own_st (fun _ k => XS.lcmp X117.here hx rfl (hb hby at_124) rfl k) ?_
          show own_Goes p e below s _ _ (T117.setTop (mkF m 125 #[iv p0, own_jv q1, .second, iv p2, own_jv q3, .second, iv p4, iv f, own_jv sn, .second, iv f2, own_jv s2, .second, rv b101, rv b102, iv (0 : Int32)] [(.int (lcmpW sn sn))]))
          refine own_st (fun _ k => XS.ifNo X117.here hx rfl (hb hby at_125) rfl ((if0 _ _).trans (teq ((lw_eq _ _).mpr (rfl : sn = sn))).2) k) ?_
          show own_Goes p e below s _ _ (T117.setTop (mkF m 128 #[iv p0, own_jv q1, .second, iv p2, own_jv q3, .second, iv p4, iv f, own_jv sn, .second, iv f2, own_jv s2, .second, rv b101, rv b102, iv (0 : Int32)] []))
          refine own_st (fun _ k => XS.aload X117.here hx rfl (hb hby at_128) rfl rfl  k) ?_
          show own_Goes p e below s _ _ (T117.setTop (mkF m 130 #[iv p0, own_jv q1, .second, iv p2, own_jv q3, .second, iv p4, iv f, own_jv sn, .second, iv f2, own_jv s2, .second, rv b101, rv b102, iv (0 : Int32)] [(.ref b102)]))
          obtain ⟨v119, T119, L119, X119, Q119, st119⟩ := own_callV X117 hx hZ (C := "com/example/brigid/brigid/telematik/prescription/PrescriptionId") (y := (⟨"com/example/brigid/brigid/telematik/prescription/PrescriptionId", "getFlowType", "()I"⟩ : MethodName)) hown (hw _ (List.mem_of_getElem? (i := 20) rfl)) (hw _ (List.mem_of_getElem? (i := 21) rfl)) (hw _ (List.mem_of_getElem? (i := 23) rfl)) (hw _ (List.mem_of_getElem? (i := 22) rfl)) (hw _ (List.mem_of_getElem? (i := 5) rfl)) (hw _ (List.mem_of_getElem? (i := 24) rfl)) (by decide) (W := 0) (rest := []) (argsL := []) (a := b102) (rmG1 l Z a0 hw [] b102 _ T102.heap n0 (by omega) F102a) (by decide) (by decide) (by decide) (by decide) e117 A102 own_pd2 rfl (g := (mkF m 130 #[iv p0, own_jv q1, .second, iv p2, own_jv q3, .second, iv p4, iv f, own_jv sn, .second, iv f2, own_jv s2, .second, rv b101, rv b102, iv (0 : Int32)] [(.ref b102)])) rfl (by rw [hml]; rfl) rfl (by show 2 * 0 + _ ≤ _; exact Nat.le_of_eq rfl) (hb hby at_130)
          obtain ⟨rfl, N119q, e119⟩ := Q119
          have N119 := Fr.app N117 N119q
          refine own_st st119 ?_
          show own_Goes p e below s _ _ (T119.setTop (mkF m 133 #[iv p0, own_jv q1, .second, iv p2, own_jv q3, .second, iv p4, iv f, own_jv sn, .second, iv f2, own_jv s2, .second, rv b101, rv b102, iv (0 : Int32)] [(.int f2)]))
          refine own_st (fun _ k => XS.iload X119.here hx rfl (hb hby at_133) rfl  k) ?_
          show own_Goes p e below s _ _ (T119.setTop (mkF m 135 #[iv p0, own_jv q1, .second, iv p2, own_jv q3, .second, iv p4, iv f, own_jv sn, .second, iv f2, own_jv s2, .second, rv b101, rv b102, iv (0 : Int32)] [(.int f2), (.int f2)]))
          refine own_st (fun _ k => XS.icmpNo X119.here hx rfl (hb hby at_135) rfl (teq (rfl : f2 = f2)).2 k) ?_
          show own_Goes p e below s _ _ (T119.setTop (mkF m 138 #[iv p0, own_jv q1, .second, iv p2, own_jv q3, .second, iv p4, iv f, own_jv sn, .second, iv f2, own_jv s2, .second, rv b101, rv b102, iv (0 : Int32)] []))
          refine own_st (fun _ k => XS.aload X119.here hx rfl (hb hby at_138) rfl rfl  k) ?_
          show own_Goes p e below s _ _ (T119.setTop (mkF m 140 #[iv p0, own_jv q1, .second, iv p2, own_jv q3, .second, iv p4, iv f, own_jv sn, .second, iv f2, own_jv s2, .second, rv b101, rv b102, iv (0 : Int32)] [(.ref b102)]))
          obtain ⟨v120, T120, L120, X120, Q120, st120⟩ := own_callV X119 hx hZ (C := "com/example/brigid/brigid/telematik/prescription/PrescriptionId") (y := (⟨"com/example/brigid/brigid/telematik/prescription/PrescriptionId", "getSerialNumber", "()J"⟩ : MethodName)) hown (hw _ (List.mem_of_getElem? (i := 25) rfl)) (hw _ (List.mem_of_getElem? (i := 26) rfl)) (hw _ (List.mem_of_getElem? (i := 28) rfl)) (hw _ (List.mem_of_getElem? (i := 27) rfl)) (hw _ (List.mem_of_getElem? (i := 5) rfl)) (hw _ (List.mem_of_getElem? (i := 29) rfl)) (by decide) (W := 0) (rest := []) (argsL := []) (a := b102) (rmG2 l Z a0 hw [] b102 _ T102.heap n0 (by omega) F102b) (by decide) (by decide) (by decide) (by decide) e119 A102 own_pd3 rfl (g := (mkF m 140 #[iv p0, own_jv q1, .second, iv p2, own_jv q3, .second, iv p4, iv f, own_jv sn, .second, iv f2, own_jv s2, .second, rv b101, rv b102, iv (0 : Int32)] [(.ref b102)])) rfl (by rw [hml]; rfl) rfl (by show 2 * 0 + _ ≤ _; exact Nat.le_of_eq rfl) (hb hby at_140)
          obtain ⟨rfl, N120q, e120⟩ := Q120
          have N120 := Fr.app N119 N120q
          refine own_st st120 ?_
          show own_Goes p e below s _ _ (T120.setTop (mkF m 143 #[iv p0, own_jv q1, .second, iv p2, own_jv q3, .second, iv p4, iv f, own_jv sn, .second, iv f2, own_jv s2, .second, rv b101, rv b102, iv (0 : Int32)] [(.long s2)]))
          refine own_st (fun _ k => XS.lload X120.here hx rfl (hb hby at_143) rfl  k) ?_
          show own_Goes p e below s _ _ (T120.setTop (mkF m 145 #[iv p0, own_jv q1, .second, iv p2, own_jv q3, .second, iv p4, iv f, own_jv sn, .second, iv f2, own_jv s2, .second, rv b101, rv b102, iv (0 : Int32)] [(.long s2), (.long s2)]))
          refine own_st (fun _ k => XS.lcmp X120.here hx rfl (hb hby at_145) rfl k) ?_
          show own_Goes p e below s _ _ (T120.setTop (mkF m 146 #[iv p0, own_jv q1, .second, iv p2, own_jv q3, .second, iv p4, iv f, own_jv sn, .second, iv f2, own_jv s2, .second, rv b101, rv b102, iv (0 : Int32)] [(.int (lcmpW s2 s2))]))
          refine own_st (fun _ k => XS.ifNo X120.here hx rfl (hb hby at_146) rfl ((if0 _ _).trans (teq ((lw_eq _ _).mpr (rfl : s2 = s2))).2) k) ?_
          show own_Goes p e below s _ _ (T120.setTop (mkF m 149 #[iv p0, own_jv q1, .second, iv p2, own_jv q3, .second, iv p4, iv f, own_jv sn, .second, iv f2, own_jv s2, .second, rv b101, rv b102, iv (0 : Int32)] []))
          refine own_st (fun _ k => XS.aload X120.here hx rfl (hb hby at_149) rfl rfl  k) ?_
          show own_Goes p e below s _ _ (T120.setTop (mkF m 151 #[iv p0, own_jv q1, .second, iv p2, own_jv q3, .second, iv p4, iv f, own_jv sn, .second, iv f2, own_jv s2, .second, rv b101, rv b102, iv (0 : Int32)] [(.ref b101)]))
          refine own_st (fun _ k => XS.aload X120.here hx rfl (hb hby at_151) rfl rfl  k) ?_
          show own_Goes p e below s _ _ (T120.setTop (mkF m 153 #[iv p0, own_jv q1, .second, iv p2, own_jv q3, .second, iv p4, iv f, own_jv sn, .second, iv f2, own_jv s2, .second, rv b101, rv b102, iv (0 : Int32)] [(.ref b102), (.ref b101)]))
          obtain ⟨v121, T121, L121, X121, Q121, st121⟩ := own_callV X120 hx hZ (C := "com/example/brigid/brigid/telematik/prescription/PrescriptionId") (y := (⟨"com/example/brigid/brigid/telematik/prescription/PrescriptionId", "equals", "(Ljava/lang/Object;)Z"⟩ : MethodName)) hown (hw _ (List.mem_of_getElem? (i := 30) rfl)) (hw _ (List.mem_of_getElem? (i := 31) rfl)) (hw _ (List.mem_of_getElem? (i := 33) rfl)) (hw _ (List.mem_of_getElem? (i := 32) rfl)) (hw _ (List.mem_of_getElem? (i := 5) rfl)) (hw _ (List.mem_of_getElem? (i := 34) rfl)) (by decide) (W := 0) (rest := []) (argsL := [(.ref b102)]) (a := b101) (rmEq l Z a0 hw [] b101 b102 _ _ _ _ T102.heap n0 (by omega) A102 f115 F102a f118 F102b) (by decide) (by decide) (by decide) (by decide) e120 f116 own_pd4 rfl (g := (mkF m 153 #[iv p0, own_jv q1, .second, iv p2, own_jv q3, .second, iv p4, iv f, own_jv sn, .second, iv f2, own_jv s2, .second, rv b101, rv b102, iv (0 : Int32)] [(.ref b102), (.ref b101)])) rfl (by rw [hml]; rfl) rfl (by show 2 * 0 + _ ≤ _; exact Nat.le_of_eq rfl) (hb hby at_153)
          obtain ⟨r121, rfl, hr121, N121q, e121⟩ := Q121
          have N121 := Fr.app N120 N121q
          refine own_st st121 ?_
          show own_Goes p e below s _ _ (T121.setTop (mkF m 156 #[iv p0, own_jv q1, .second, iv p2, own_jv q3, .second, iv p4, iv f, own_jv sn, .second, iv f2, own_jv s2, .second, rv b101, rv b102, iv (0 : Int32)] [(.int r121)]))
          refine own_st (fun _ k => XS.iload X121.here hx rfl (hb hby at_156) rfl  k) ?_
          show own_Goes p e below s _ _ (T121.setTop (mkF m 158 #[iv p0, own_jv q1, .second, iv p2, own_jv q3, .second, iv p4, iv f, own_jv sn, .second, iv f2, own_jv s2, .second, rv b101, rv b102, iv (0 : Int32)] [(.int (0 : Int32)), (.int r121)]))
          by_cases c122 : r121 = (0 : Int32)
          · have c122i : r121.toInt = 0 := own_i_eq c122
            refine own_st (fun _ k => XS.icmpNo X121.here hx rfl (hb hby at_158) rfl (teq c122).2 k) ?_
            show own_Goes p e below s _ _ (T121.setTop (mkF m 161 #[iv p0, own_jv q1, .second, iv p2, own_jv q3, .second, iv p4, iv f, own_jv sn, .second, iv f2, own_jv s2, .second, rv b101, rv b102, iv (0 : Int32)] []))
            refine own_st (fun _ k => XS.iconst X121.here hx rfl (hb hby at_161) k) ?_
            show own_Goes p e below s _ _ (T121.setTop (mkF m 162 #[iv p0, own_jv q1, .second, iv p2, own_jv q3, .second, iv p4, iv f, own_jv sn, .second, iv f2, own_jv s2, .second, rv b101, rv b102, iv (0 : Int32)] [(.int (1 : Int32))]))
            refine own_st (fun _ k => XS.goto X121.here hx rfl (pc0 := 162) (pc' := 166) rfl (hb hby at_162) (by decide) (by decide) k) ?_
            show own_Goes p e below s _ _ (T121.setTop (mkF m 166 #[iv p0, own_jv q1, .second, iv p2, own_jv q3, .second, iv p4, iv f, own_jv sn, .second, iv f2, own_jv s2, .second, rv b101, rv b102, iv (0 : Int32)] [(.int (1 : Int32))]))
            exact own_retN X121 hx hlk (1 : Int32) hret (Or.inl rfl) rfl (hb hby at_166) (by decide) (by decide) ⟨rfl, N121⟩
          · have c122i : ¬ r121.toInt = 0 := own_i_ne c122
            exfalso; omega
      · have c103i : ¬ f.toInt = f2.toInt := own_i_ne c103
        refine own_st (fun _ k => XS.icmpYes X102.here hx rfl (pc0 := 89) (pc' := 104) rfl (hb hby at_89) rfl (feq c103).2 (by decide) (by decide) k) ?_
        show own_Goes p e below s _ _ (T102.setTop (mkF m 104 #[iv p0, own_jv q1, .second, iv p2, own_jv q3, .second, iv p4, iv f, own_jv sn, .second, iv f2, own_jv s2, .second, rv b101, rv b102, .unset] []))
        refine own_st (fun _ k => XS.iconst X102.here hx rfl (hb hby at_104) k) ?_
        show own_Goes p e below s _ _ (T102.setTop (mkF m 105 #[iv p0, own_jv q1, .second, iv p2, own_jv q3, .second, iv p4, iv f, own_jv sn, .second, iv f2, own_jv s2, .second, rv b101, rv b102, .unset] [(.int (0 : Int32))]))
        refine own_st (fun _ k => XS.istore X102.here hx rfl (hb hby at_105) rfl (l' := #[iv p0, own_jv q1, .second, iv p2, own_jv q3, .second, iv p4, iv f, own_jv sn, .second, iv f2, own_jv s2, .second, rv b101, rv b102, iv (0 : Int32)]) rfl k) ?_
        show own_Goes p e below s _ _ (T102.setTop (mkF m 107 #[iv p0, own_jv q1, .second, iv p2, own_jv q3, .second, iv p4, iv f, own_jv sn, .second, iv f2, own_jv s2, .second, rv b101, rv b102, iv (0 : Int32)] []))
        refine own_st (fun _ k => XS.aload X102.here hx rfl (hb hby at_107) rfl rfl  k) ?_
        show own_Goes p e below s _ _ (T102.setTop (mkF m 109 #[iv p0, own_jv q1, .second, iv p2, own_jv q3, .second, iv p4, iv f, own_jv sn, .second, iv f2, own_jv s2, .second, rv b101, rv b102, iv (0 : Int32)] [(.ref b101)]))
        have f124 := (F101a.keep K102 nin0)
        have f125 := (A101.keep K102)
        obtain ⟨v123, T123, L123, X123, Q123, st123⟩ := own_callV X102 hx hZ (C := "com/example/brigid/brigid/telematik/prescription/PrescriptionId") (y := (⟨"com/example/brigid/brigid/telematik/prescription/PrescriptionId", "getFlowType", "()I"⟩ : MethodName)) hown (hw _ (List.mem_of_getElem? (i := 20) rfl)) (hw _ (List.mem_of_getElem? (i := 21) rfl)) (hw _ (List.mem_of_getElem? (i := 23) rfl)) (hw _ (List.mem_of_getElem? (i := 22) rfl)) (hw _ (List.mem_of_getElem? (i := 5) rfl)) (hw _ (List.mem_of_getElem? (i := 24) rfl)) (by decide) (W := 0) (rest := []) (argsL := []) (a := b101) (rmG1 l Z a0 hw [] b101 _ T102.heap n0 (by omega) f124) (by decide) (by decide) (by decide) (by decide) rfl f125 own_pd2 rfl (g := (mkF m 109 #[iv p0, own_jv q1, .second, iv p2, own_jv q3, .second, iv p4, iv f, own_jv sn, .second, iv f2, own_jv s2, .second, rv b101, rv b102, iv (0 : Int32)] [(.ref b101)])) rfl (by rw [hml]; rfl) rfl (by show 2 * 0 + _ ≤ _; exact Nat.le_of_eq rfl) (hb hby at_109)
        obtain ⟨rfl, N123q, e123⟩ := Q123
        have N123 := Fr.app N102 N123q
        refine own_st st123 ?_
        show own_Goes p e below s _ _ (T123.setTop (mkF m 112 #[iv p0, own_jv q1, .second, iv p2, own_jv q3, .second, iv p4, iv f, own_jv sn, .second, iv f2, own_jv s2, .second, rv b101, rv b102, iv (0 : Int32)] [(.int f)]))
        refine own_st (fun _ k => XS.iload X123.here hx rfl (hb hby at_112) rfl  k) ?_
        show own_Goes p e below s _ _ (T123.setTop (mkF m 114 #[iv p0, own_jv q1, .second, iv p2, own_jv q3, .second, iv p4, iv f, own_jv sn, .second, iv f2, own_jv s2, .second, rv b101, rv b102, iv (0 : Int32)] [(.int f), (.int f)]))
        refine own_st (fun _ k => XS.icmpNo X123.here hx rfl (hb hby at_114) rfl (teq (rfl : f = f)).2 k) ?_
        show own_Goes p e below s _ _ (T123.setTop (mkF m 117 #[iv p0, own_jv q1, .second, iv p2, own_jv q3, .second, iv p4, iv f, own_jv sn, .second, iv f2, own_jv s2, .second, rv b101, rv b102, iv (0 : Int32)] []))
        refine own_st (fun _ k => XS.aload X123.here hx rfl (hb hby at_117) rfl rfl  k) ?_
        show own_Goes p e below s _ _ (T123.setTop (mkF m 119 #[iv p0, own_jv q1, .second, iv p2, own_jv q3, .second, iv p4, iv f, own_jv sn, .second, iv f2, own_jv s2, .second, rv b101, rv b102, iv (0 : Int32)] [(.ref b101)]))
        have f127 := (F101b.keep K102 nin0)
        obtain ⟨v126, T126, L126, X126, Q126, st126⟩ := own_callV X123 hx hZ (C := "com/example/brigid/brigid/telematik/prescription/PrescriptionId") (y := (⟨"com/example/brigid/brigid/telematik/prescription/PrescriptionId", "getSerialNumber", "()J"⟩ : MethodName)) hown (hw _ (List.mem_of_getElem? (i := 25) rfl)) (hw _ (List.mem_of_getElem? (i := 26) rfl)) (hw _ (List.mem_of_getElem? (i := 28) rfl)) (hw _ (List.mem_of_getElem? (i := 27) rfl)) (hw _ (List.mem_of_getElem? (i := 5) rfl)) (hw _ (List.mem_of_getElem? (i := 29) rfl)) (by decide) (W := 0) (rest := []) (argsL := []) (a := b101) (rmG2 l Z a0 hw [] b101 _ T102.heap n0 (by omega) f127) (by decide) (by decide) (by decide) (by decide) e123 f125 own_pd3 rfl (g := (mkF m 119 #[iv p0, own_jv q1, .second, iv p2, own_jv q3, .second, iv p4, iv f, own_jv sn, .second, iv f2, own_jv s2, .second, rv b101, rv b102, iv (0 : Int32)] [(.ref b101)])) rfl (by rw [hml]; rfl) rfl (by show 2 * 0 + _ ≤ _; exact Nat.le_of_eq rfl) (hb hby at_119)
        obtain ⟨rfl, N126q, e126⟩ := Q126
        have N126 := Fr.app N123 N126q
        refine own_st st126 ?_
        show own_Goes p e below s _ _ (T126.setTop (mkF m 122 #[iv p0, own_jv q1, .second, iv p2, own_jv q3, .second, iv p4, iv f, own_jv sn, .second, iv f2, own_jv s2, .second, rv b101, rv b102, iv (0 : Int32)] [(.long sn)]))
        refine own_st (fun _ k => XS.lload X126.here hx rfl (hb hby at_122) rfl  k) ?_
        show own_Goes p e below s _ _ (T126.setTop (mkF m 124 #[iv p0, own_jv q1, .second, iv p2, own_jv q3, .second, iv p4, iv f, own_jv sn, .second, iv f2, own_jv s2, .second, rv b101, rv b102, iv (0 : Int32)] [(.long sn), (.long sn)]))
        refine own_st (fun _ k => XS.lcmp X126.here hx rfl (hb hby at_124) rfl k) ?_
        show own_Goes p e below s _ _ (T126.setTop (mkF m 125 #[iv p0, own_jv q1, .second, iv p2, own_jv q3, .second, iv p4, iv f, own_jv sn, .second, iv f2, own_jv s2, .second, rv b101, rv b102, iv (0 : Int32)] [(.int (lcmpW sn sn))]))
        refine own_st (fun _ k => XS.ifNo X126.here hx rfl (hb hby at_125) rfl ((if0 _ _).trans (teq ((lw_eq _ _).mpr (rfl : sn = sn))).2) k) ?_
        show own_Goes p e below s _ _ (T126.setTop (mkF m 128 #[iv p0, own_jv q1, .second, iv p2, own_jv q3, .second, iv p4, iv f, own_jv sn, .second, iv f2, own_jv s2, .second, rv b101, rv b102, iv (0 : Int32)] []))
        refine own_st (fun _ k => XS.aload X126.here hx rfl (hb hby at_128) rfl rfl  k) ?_
        show own_Goes p e below s _ _ (T126.setTop (mkF m 130 #[iv p0, own_jv q1, .second, iv p2, own_jv q3, .second, iv p4, iv f, own_jv sn, .second, iv f2, own_jv s2, .second, rv b101, rv b102, iv (0 : Int32)] [(.ref b102)]))
        obtain ⟨v128, T128, L128, X128, Q128, st128⟩ := own_callV X126 hx hZ (C := "com/example/brigid/brigid/telematik/prescription/PrescriptionId") (y := (⟨"com/example/brigid/brigid/telematik/prescription/PrescriptionId", "getFlowType", "()I"⟩ : MethodName)) hown (hw _ (List.mem_of_getElem? (i := 20) rfl)) (hw _ (List.mem_of_getElem? (i := 21) rfl)) (hw _ (List.mem_of_getElem? (i := 23) rfl)) (hw _ (List.mem_of_getElem? (i := 22) rfl)) (hw _ (List.mem_of_getElem? (i := 5) rfl)) (hw _ (List.mem_of_getElem? (i := 24) rfl)) (by decide) (W := 0) (rest := []) (argsL := []) (a := b102) (rmG1 l Z a0 hw [] b102 _ T102.heap n0 (by omega) F102a) (by decide) (by decide) (by decide) (by decide) e126 A102 own_pd2 rfl (g := (mkF m 130 #[iv p0, own_jv q1, .second, iv p2, own_jv q3, .second, iv p4, iv f, own_jv sn, .second, iv f2, own_jv s2, .second, rv b101, rv b102, iv (0 : Int32)] [(.ref b102)])) rfl (by rw [hml]; rfl) rfl (by show 2 * 0 + _ ≤ _; exact Nat.le_of_eq rfl) (hb hby at_130)
        obtain ⟨rfl, N128q, e128⟩ := Q128
        have N128 := Fr.app N126 N128q
        refine own_st st128 ?_
        show own_Goes p e below s _ _ (T128.setTop (mkF m 133 #[iv p0, own_jv q1, .second, iv p2, own_jv q3, .second, iv p4, iv f, own_jv sn, .second, iv f2, own_jv s2, .second, rv b101, rv b102, iv (0 : Int32)] [(.int f2)]))
        refine own_st (fun _ k => XS.iload X128.here hx rfl (hb hby at_133) rfl  k) ?_
        show own_Goes p e below s _ _ (T128.setTop (mkF m 135 #[iv p0, own_jv q1, .second, iv p2, own_jv q3, .second, iv p4, iv f, own_jv sn, .second, iv f2, own_jv s2, .second, rv b101, rv b102, iv (0 : Int32)] [(.int f2), (.int f2)]))
        refine own_st (fun _ k => XS.icmpNo X128.here hx rfl (hb hby at_135) rfl (teq (rfl : f2 = f2)).2 k) ?_
        show own_Goes p e below s _ _ (T128.setTop (mkF m 138 #[iv p0, own_jv q1, .second, iv p2, own_jv q3, .second, iv p4, iv f, own_jv sn, .second, iv f2, own_jv s2, .second, rv b101, rv b102, iv (0 : Int32)] []))
        refine own_st (fun _ k => XS.aload X128.here hx rfl (hb hby at_138) rfl rfl  k) ?_
        show own_Goes p e below s _ _ (T128.setTop (mkF m 140 #[iv p0, own_jv q1, .second, iv p2, own_jv q3, .second, iv p4, iv f, own_jv sn, .second, iv f2, own_jv s2, .second, rv b101, rv b102, iv (0 : Int32)] [(.ref b102)]))
        obtain ⟨v129, T129, L129, X129, Q129, st129⟩ := own_callV X128 hx hZ (C := "com/example/brigid/brigid/telematik/prescription/PrescriptionId") (y := (⟨"com/example/brigid/brigid/telematik/prescription/PrescriptionId", "getSerialNumber", "()J"⟩ : MethodName)) hown (hw _ (List.mem_of_getElem? (i := 25) rfl)) (hw _ (List.mem_of_getElem? (i := 26) rfl)) (hw _ (List.mem_of_getElem? (i := 28) rfl)) (hw _ (List.mem_of_getElem? (i := 27) rfl)) (hw _ (List.mem_of_getElem? (i := 5) rfl)) (hw _ (List.mem_of_getElem? (i := 29) rfl)) (by decide) (W := 0) (rest := []) (argsL := []) (a := b102) (rmG2 l Z a0 hw [] b102 _ T102.heap n0 (by omega) F102b) (by decide) (by decide) (by decide) (by decide) e128 A102 own_pd3 rfl (g := (mkF m 140 #[iv p0, own_jv q1, .second, iv p2, own_jv q3, .second, iv p4, iv f, own_jv sn, .second, iv f2, own_jv s2, .second, rv b101, rv b102, iv (0 : Int32)] [(.ref b102)])) rfl (by rw [hml]; rfl) rfl (by show 2 * 0 + _ ≤ _; exact Nat.le_of_eq rfl) (hb hby at_140)
        obtain ⟨rfl, N129q, e129⟩ := Q129
        have N129 := Fr.app N128 N129q
        refine own_st st129 ?_
        show own_Goes p e below s _ _ (T129.setTop (mkF m 143 #[iv p0, own_jv q1, .second, iv p2, own_jv q3, .second, iv p4, iv f, own_jv sn, .second, iv f2, own_jv s2, .second, rv b101, rv b102, iv (0 : Int32)] [(.long s2)]))
        refine own_st (fun _ k => XS.lload X129.here hx rfl (hb hby at_143) rfl  k) ?_
        show own_Goes p e below s _ _ (T129.setTop (mkF m 145 #[iv p0, own_jv q1, .second, iv p2, own_jv q3, .second, iv p4, iv f, own_jv sn, .second, iv f2, own_jv s2, .second, rv b101, rv b102, iv (0 : Int32)] [(.long s2), (.long s2)]))
        refine own_st (fun _ k => XS.lcmp X129.here hx rfl (hb hby at_145) rfl k) ?_
        show own_Goes p e below s _ _ (T129.setTop (mkF m 146 #[iv p0, own_jv q1, .second, iv p2, own_jv q3, .second, iv p4, iv f, own_jv sn, .second, iv f2, own_jv s2, .second, rv b101, rv b102, iv (0 : Int32)] [(.int (lcmpW s2 s2))]))
        refine own_st (fun _ k => XS.ifNo X129.here hx rfl (hb hby at_146) rfl ((if0 _ _).trans (teq ((lw_eq _ _).mpr (rfl : s2 = s2))).2) k) ?_
        show own_Goes p e below s _ _ (T129.setTop (mkF m 149 #[iv p0, own_jv q1, .second, iv p2, own_jv q3, .second, iv p4, iv f, own_jv sn, .second, iv f2, own_jv s2, .second, rv b101, rv b102, iv (0 : Int32)] []))
        refine own_st (fun _ k => XS.aload X129.here hx rfl (hb hby at_149) rfl rfl  k) ?_
        show own_Goes p e below s _ _ (T129.setTop (mkF m 151 #[iv p0, own_jv q1, .second, iv p2, own_jv q3, .second, iv p4, iv f, own_jv sn, .second, iv f2, own_jv s2, .second, rv b101, rv b102, iv (0 : Int32)] [(.ref b101)]))
        refine own_st (fun _ k => XS.aload X129.here hx rfl (hb hby at_151) rfl rfl  k) ?_
        show own_Goes p e below s _ _ (T129.setTop (mkF m 153 #[iv p0, own_jv q1, .second, iv p2, own_jv q3, .second, iv p4, iv f, own_jv sn, .second, iv f2, own_jv s2, .second, rv b101, rv b102, iv (0 : Int32)] [(.ref b102), (.ref b101)]))
        obtain ⟨v130, T130, L130, X130, Q130, st130⟩ := own_callV X129 hx hZ (C := "com/example/brigid/brigid/telematik/prescription/PrescriptionId") (y := (⟨"com/example/brigid/brigid/telematik/prescription/PrescriptionId", "equals", "(Ljava/lang/Object;)Z"⟩ : MethodName)) hown (hw _ (List.mem_of_getElem? (i := 30) rfl)) (hw _ (List.mem_of_getElem? (i := 31) rfl)) (hw _ (List.mem_of_getElem? (i := 33) rfl)) (hw _ (List.mem_of_getElem? (i := 32) rfl)) (hw _ (List.mem_of_getElem? (i := 5) rfl)) (hw _ (List.mem_of_getElem? (i := 34) rfl)) (by decide) (W := 0) (rest := []) (argsL := [(.ref b102)]) (a := b101) (rmEq l Z a0 hw [] b101 b102 _ _ _ _ T102.heap n0 (by omega) A102 f124 F102a f127 F102b) (by decide) (by decide) (by decide) (by decide) e129 f125 own_pd4 rfl (g := (mkF m 153 #[iv p0, own_jv q1, .second, iv p2, own_jv q3, .second, iv p4, iv f, own_jv sn, .second, iv f2, own_jv s2, .second, rv b101, rv b102, iv (0 : Int32)] [(.ref b102), (.ref b101)])) rfl (by rw [hml]; rfl) rfl (by show 2 * 0 + _ ≤ _; exact Nat.le_of_eq rfl) (hb hby at_153)
        obtain ⟨r130, rfl, hr130, N130q, e130⟩ := Q130
        have N130 := Fr.app N129 N130q
        refine own_st st130 ?_
        show own_Goes p e below s _ _ (T130.setTop (mkF m 156 #[iv p0, own_jv q1, .second, iv p2, own_jv q3, .second, iv p4, iv f, own_jv sn, .second, iv f2, own_jv s2, .second, rv b101, rv b102, iv (0 : Int32)] [(.int r130)]))
        refine own_st (fun _ k => XS.iload X130.here hx rfl (hb hby at_156) rfl  k) ?_
        show own_Goes p e below s _ _ (T130.setTop (mkF m 158 #[iv p0, own_jv q1, .second, iv p2, own_jv q3, .second, iv p4, iv f, own_jv sn, .second, iv f2, own_jv s2, .second, rv b101, rv b102, iv (0 : Int32)] [(.int (0 : Int32)), (.int r130)]))
        by_cases c131 : r130 = (0 : Int32)
        · have c131i : r130.toInt = 0 := own_i_eq c131
          refine own_st (fun _ k => XS.icmpNo X130.here hx rfl (hb hby at_158) rfl (teq c131).2 k) ?_
          show own_Goes p e below s _ _ (T130.setTop (mkF m 161 #[iv p0, own_jv q1, .second, iv p2, own_jv q3, .second, iv p4, iv f, own_jv sn, .second, iv f2, own_jv s2, .second, rv b101, rv b102, iv (0 : Int32)] []))
          refine own_st (fun _ k => XS.iconst X130.here hx rfl (hb hby at_161) k) ?_
          show own_Goes p e below s _ _ (T130.setTop (mkF m 162 #[iv p0, own_jv q1, .second, iv p2, own_jv q3, .second, iv p4, iv f, own_jv sn, .second, iv f2, own_jv s2, .second, rv b101, rv b102, iv (0 : Int32)] [(.int (1 : Int32))]))
          refine own_st (fun _ k => XS.goto X130.here hx rfl (pc0 := 162) (pc' := 166) rfl (hb hby at_162) (by decide) (by decide) k) ?_
          show own_Goes p e below s _ _ (T130.setTop (mkF m 166 #[iv p0, own_jv q1, .second, iv p2, own_jv q3, .second, iv p4, iv f, own_jv sn, .second, iv f2, own_jv s2, .second, rv b101, rv b102, iv (0 : Int32)] [(.int (1 : Int32))]))
          exact own_retN X130 hx hlk (1 : Int32) hret (Or.inl rfl) rfl (hb hby at_166) (by decide) (by decide) ⟨rfl, N130⟩
        · have c131i : ¬ r130.toInt = 0 := own_i_ne c131
          exfalso; omega
    by_cases c132 : (p4 &&& (2 : Int32)) = (0 : Int32)
    · have c132i : (p4 &&& (2 : Int32)).toInt = 0 := own_i_eq c132
      refine own_st (fun _ k => XS.ifYes X.here hx rfl (pc0 := 47) (pc' := 55) rfl (hb hby at_47) rfl ((if0 _ _).trans (teq c132).1) (by decide) (by decide) k) ?_
      show own_Goes p e below s _ _ (T.setTop (mkF m 55 #[iv p0, own_jv q1, .second, iv p2, own_jv q3, .second, iv p4, iv f, own_jv sn, .second, iv f2, .unset, .unset, .unset, .unset, .unset] []))
      refine own_st (fun _ k => XS.lload X.here hx rfl (hb hby at_55) rfl  k) ?_
      show own_Goes p e below s _ _ (T.setTop (mkF m 57 #[iv p0, own_jv q1, .second, iv p2, own_jv q3, .second, iv p4, iv f, own_jv sn, .second, iv f2, .unset, .unset, .unset, .unset, .unset] [(.long q3)]))
      refine own_st (fun _ k => X.ldc2Long hx hown (mvT hZ (hw _ (List.mem_of_getElem? (i := 1) rfl))) (g := (mkF m 57 #[iv p0, own_jv q1, .second, iv p2, own_jv q3, .second, iv p4, iv f, own_jv sn, .second, iv f2, .unset, .unset, .unset, .unset, .unset] [(.long q3)])) rfl (hb hby at_57) _ k) ?_
      show own_Goes p e below s _ _ (T.setTop (mkF m 60 #[iv p0, own_jv q1, .second, iv p2, own_jv q3, .second, iv p4, iv f, own_jv sn, .second, iv f2, .unset, .unset, .unset, .unset, .unset] [(.long (9223372036854775807 : Int64)), (.long q3)]))
      refine own_st (fun _ k => XS.land X.here hx rfl (hb hby at_60) rfl k) ?_
      show own_Goes p e below s _ _ (T.setTop (mkF m 61 #[iv p0, own_jv q1, .second, iv p2, own_jv q3, .second, iv p4, iv f, own_jv sn, .second, iv f2, .unset, .unset, .unset, .unset, .unset] [(.long (q3 &&& (9223372036854775807 : Int64)))]))
      refine own_st (fun _ k => X.ldc2Long hx hown (mvT hZ (hw _ (List.mem_of_getElem? (i := 2) rfl))) (g := (mkF m 61 #[iv p0, own_jv q1, .second, iv p2, own_jv q3, .second, iv p4, iv f, own_jv sn, .second, iv f2, .unset, .unset, .unset, .unset, .unset] [(.long (q3 &&& (9223372036854775807 : Int64)))])) rfl (hb hby at_61) _ k) ?_
      show own_Goes p e below s _ _ (T.setTop (mkF m 64 #[iv p0, own_jv q1, .second, iv p2, own_jv q3, .second, iv p4, iv f, own_jv sn, .second, iv f2, .unset, .unset, .unset, .unset, .unset] [(.long (1000000000000 : Int64)), (.long (q3 &&& (9223372036854775807 : Int64)))]))
      refine own_st (fun _ k => XS.lrem X.here hx rfl (hb hby at_64) rfl (by decide) k) ?_
      show own_Goes p e below s _ _ (T.setTop (mkF m 65 #[iv p0, own_jv q1, .second, iv p2, own_jv q3, .second, iv p4, iv f, own_jv sn, .second, iv f2, .unset, .unset, .unset, .unset, .unset] [(.long ((q3 &&& (9223372036854775807 : Int64)) - ((q3 &&& (9223372036854775807 : Int64)) / (1000000000000 : Int64)) * (1000000000000 : Int64)))]))
      exact J65 _ (own_modJ q3)
    · have c132i : ¬ (p4 &&& (2 : Int32)).toInt = 0 := own_i_ne c132
      refine own_st (fun _ k => XS.ifNo X.here hx rfl (hb hby at_47) rfl ((if0 _ _).trans (feq c132).1) k) ?_
      show own_Goes p e below s _ _ (T.setTop (mkF m 50 #[iv p0, own_jv q1, .second, iv p2, own_jv q3, .second, iv p4, iv f, own_jv sn, .second, iv f2, .unset, .unset, .unset, .unset, .unset] []))
      refine own_st (fun _ k => XS.lload X.here hx rfl (hb hby at_50) rfl  k) ?_
      show own_Goes p e below s _ _ (T.setTop (mkF m 52 #[iv p0, own_jv q1, .second, iv p2, own_jv q3, .second, iv p4, iv f, own_jv sn, .second, iv f2, .unset, .unset, .unset, .unset, .unset] [(.long sn)]))
      refine own_st (fun _ k => XS.goto X.here hx rfl (pc0 := 52) (pc' := 65) rfl (hb hby at_52) (by decide) (by decide) k) ?_
      show own_Goes p e below s _ _ (T.setTop (mkF m 65 #[iv p0, own_jv q1, .second, iv p2, own_jv q3, .second, iv p4, iv f, own_jv sn, .second, iv f2, .unset, .unset, .unset, .unset, .unset] [(.long sn)]))
      exact J65 _ hsn
  by_cases c133 : (p4 &&& (1 : Int32)) = (0 : Int32)
  · have c133i : (p4 &&& (1 : Int32)).toInt = 0 := own_i_eq c133
    refine own_st (fun _ k => XS.ifYes X.here hx rfl (pc0 := 25) (pc' := 33) rfl (hb hby at_25) rfl ((if0 _ _).trans (teq c133).1) (by decide) (by decide) k) ?_
    show own_Goes p e below s _ _ (T.setTop (mkF m 33 #[iv p0, own_jv q1, .second, iv p2, own_jv q3, .second, iv p4, iv f, own_jv sn, .second, .unset, .unset, .unset, .unset, .unset, .unset] []))
    refine own_st (fun _ k => XS.iloadN X.here hx rfl (hb hby at_33) rfl  k) ?_
    show own_Goes p e below s _ _ (T.setTop (mkF m 34 #[iv p0, own_jv q1, .second, iv p2, own_jv q3, .second, iv p4, iv f, own_jv sn, .second, .unset, .unset, .unset, .unset, .unset, .unset] [(.int p2)]))
    refine own_st (fun _ k => X.ldcInt hx hown (mvT hZ (hw _ (List.mem_of_getElem? (i := 0) rfl))) (g := (mkF m 34 #[iv p0, own_jv q1, .second, iv p2, own_jv q3, .second, iv p4, iv f, own_jv sn, .second, .unset, .unset, .unset, .unset, .unset, .unset] [(.int p2)])) rfl (hb hby at_34) _ k) ?_
    show own_Goes p e below s _ _ (T.setTop (mkF m 36 #[iv p0, own_jv q1, .second, iv p2, own_jv q3, .second, iv p4, iv f, own_jv sn, .second, .unset, .unset, .unset, .unset, .unset, .unset] [(.int (2147483647 : Int32)), (.int p2)]))
    refine own_st (fun _ k => XS.iand X.here hx rfl (hb hby at_36) rfl k) ?_
    show own_Goes p e below s _ _ (T.setTop (mkF m 37 #[iv p0, own_jv q1, .second, iv p2, own_jv q3, .second, iv p4, iv f, own_jv sn, .second, .unset, .unset, .unset, .unset, .unset, .unset] [(.int (p2 &&& (2147483647 : Int32)))]))
    refine own_st (fun _ k => XS.sipush X.here hx rfl (hb hby at_37) k) ?_
    show own_Goes p e below s _ _ (T.setTop (mkF m 40 #[iv p0, own_jv q1, .second, iv p2, own_jv q3, .second, iv p4, iv f, own_jv sn, .second, .unset, .unset, .unset, .unset, .unset, .unset] [(.int (1000 : Int32)), (.int (p2 &&& (2147483647 : Int32)))]))
    refine own_st (fun _ k => iremM X hx rfl (hb hby at_40) rfl (by decide) k) ?_
    show own_Goes p e below s _ _ (T.setTop (mkF m 41 #[iv p0, own_jv q1, .second, iv p2, own_jv q3, .second, iv p4, iv f, own_jv sn, .second, .unset, .unset, .unset, .unset, .unset, .unset] [(.int ((p2 &&& (2147483647 : Int32)) % (1000 : Int32)))]))
    have hj := own_modI p2 1000 (by decide)
    exact J41 _ hj
  · have c133i : ¬ (p4 &&& (1 : Int32)).toInt = 0 := own_i_ne c133
    refine own_st (fun _ k => XS.ifNo X.here hx rfl (hb hby at_25) rfl ((if0 _ _).trans (feq c133).1) k) ?_
    show own_Goes p e below s _ _ (T.setTop (mkF m 28 #[iv p0, own_jv q1, .second, iv p2, own_jv q3, .second, iv p4, iv f, own_jv sn, .second, .unset, .unset, .unset, .unset, .unset, .unset] []))
    refine own_st (fun _ k => XS.iload X.here hx rfl (hb hby at_28) rfl  k) ?_
    show own_Goes p e below s _ _ (T.setTop (mkF m 30 #[iv p0, own_jv q1, .second, iv p2, own_jv q3, .second, iv p4, iv f, own_jv sn, .second, .unset, .unset, .unset, .unset, .unset, .unset] [(.int f)]))
    refine own_st (fun _ k => XS.goto X.here hx rfl (pc0 := 30) (pc' := 41) rfl (hb hby at_30) (by decide) (by decide) k) ?_
    show own_Goes p e below s _ _ (T.setTop (mkF m 41 #[iv p0, own_jv q1, .second, iv p2, own_jv q3, .second, iv p4, iv f, own_jv sn, .second, .unset, .unset, .unset, .unset, .unset, .unset] [(.int f)]))
    exact J41 _ ⟨hf.1, hf.2⟩
set_option maxRecDepth 65536 in
set_option maxHeartbeats 40000000 in
theorem comes_1 {Post : Tables → Env → Array Value → State → Outcome → State → Prop} (hpost : ∀ tb e args s v u, (limb_1_1.after args s (.returned v) u = true ∧ limb_1_2.after args s (.returned v) u = true ∧ True) → FrameEnd s (.returned v) u (Jvm.fieldLocs frame_1_writes args s ++ Jvm.arrayLocs frame_1_arrays args s ++ Jvm.staticLocs frame_1_statics s) 16 128 → Post tb e args s (.returned v) u) :
    ArmFor flags0 classFile x code maxLocals ret World_1 tables_1 room_1 Calls_1 rest_1 Pre_1 Post := by
  intro l hfl _ _ p e ha hc hk s m args below hf hA hF happ hP
  obtain ⟨hcalls, hrest, hpre⟩ := hP
  obtain ⟨-, -, -, hnamed, -, -, -, hat⟩ := (Spec.applies_iff hf).mp happ
  obtain ⟨hg, hn⟩ := and_e (Cond.before_iff.mp (show (Jvm.Cond.and given_1 narrow_1).before args s = true from hpre))
  obtain ⟨hcnt, q0⟩ := and_e hg
  obtain ⟨u0, q1⟩ := and_e q0
  obtain ⟨u1, q2⟩ := and_e q1
  obtain ⟨u2, q3⟩ := and_e q2
  obtain ⟨u3, q4⟩ := and_e q3
  obtain ⟨w0, w1, w2, w3, w4, rfl⟩ : ∃ w0 w1 w2 w3 w4 : Value, args = #[w0, w1, w2, w3, w4] := by
    have hs : args.size = 5 := by simpa [Cond.value, given_1] using hcnt
    obtain ⟨L⟩ := args
    match L, hs with
    | [w0, w1, w2, w3, w4], _ => exact ⟨w0, w1, w2, w3, w4, rfl⟩
  have hw := fun d (hd : d ∈ tables_1) => atoms_spec (ws := Jvm.Cond.code x code maxLocals ret :: tables_1) hat d (List.mem_cons_of_mem _ hd)
  have hfit : Fit s := fun {y c} hc i hi => by
    obtain ⟨ha, rfl⟩ := Array.getElem?_eq_some_iff.mp hc
    have q := List.all_eq_true.mp ((Array.all_eq_true_iff_forall_mem.mp hF) _ (Array.getElem_mem ha)) i (List.mem_range.mpr hi)
    simpa [Array.getElem?_eq_getElem hi] using q
  obtain ⟨i0, ei0⟩ := is_v u0
  obtain rfl : w0 = (.int i0) := Option.some.inj ei0
  obtain ⟨i1, ei1⟩ := isL_v u1
  obtain rfl : w1 = (.long i1) := Option.some.inj ei1
  obtain ⟨i2, ei2⟩ := is_v u2
  obtain rfl : w2 = (.int i2) := Option.some.inj ei2
  obtain ⟨i3, ei3⟩ := isL_v u3
  obtain rfl : w3 = (.long i3) := Option.some.inj ei3
  obtain ⟨i4, ei4⟩ := is_v q4
  obtain rfl : w4 = (.int i4) := Option.some.inj ei4
  obtain ⟨n, o, h1, h2, h3, _, L, rfl, ⟨rfl, N⟩, hq⟩ := rm0 l s _ hw tables_1 i0 i1 i2 i3 i4 s.heap s.heap.size (Nat.le_refl _) p e ha hc hk s m _ below hf ((Spec.applies_iff_loose hf).mp happ).1 ⟨rfl, State.Warmed39.refl s, rfl⟩ trivial
  refine ⟨n, _, h1, h2, h3, hpost _ _ _ _ _ _ ⟨Cond.after_iff.mpr rfl, Cond.after_iff.mpr (eq_i res_at (Term.int_eval (1)) rfl), trivial⟩ ⟨hq.1, hq.2.1, (hq.2.2.sift fun y hy => Or.inr (N y hy)).mono (by decide) (by decide)⟩⟩
theorem main_1_1 : Claimed_1_1 := comes_1 fun _ _ _ _ _ _ h hF => ⟨h.1, hF⟩
theorem main_1_2 : Claimed_1_2 := comes_1 fun _ _ _ _ _ _ h hF => ⟨h.2.1, hF⟩
end Jvm.Pilot.@@N@@
namespace Jvm.Pilot.@@N@@
open Jvm Jvm.ClassFile Sem Op Lib Jvm.Free Jvm.Stand Jvm.Pilot.@@N@@.Jvm.D
/-! MADE BY PROGRAM (witnessworld.py) out of the Statement's table words and the real class files: 9 classes; the members and pool entries that the words name. The judged class is class 1, her method 1. -/
namespace start1
open Jvm.ClassFile
def u (s : String) : CpInfo := .utf8 (stringToUtf16 s)
/-- a pool by its gaps: so many unusable entries, then the entry; so many at the end -/
def gap : Nat → List CpInfo → List CpInfo
  | 0, r => r
  | n + 1, r => .unusable :: gap n r
def poolList (es : List (Nat × CpInfo)) (last : Nat) : List CpInfo := es.foldr (fun e r => gap e.1 (e.2 :: r)) (gap last [])
def pool (es : List (Nat × CpInfo)) (last : Nat) : Array CpInfo := ⟨poolList es last⟩
def fileOf (pool : Array CpInfo) (this : Nat) (attrs : Array Attribute := #[]) (ms : Array MethodInfo := #[]) (fl : Nat := 33) (sup : Nat := 0) (ifs : Array Nat := #[]) (fds : Array FieldInfo := #[]) : ClassFile where
  minorVersion := 0
  majorVersion := 65
  constantPool := pool
  accessFlags := fl
  thisClass := this
  superClass := sup
  interfaces := ifs
  fields := fds
  methods := ms
  attributes := attrs
def plain (name : String) (sup : Option ClassId) : Class where
  name := name
  kind := .ordinary
  loader := none
  accessFlags := 33
  super := sup
  interfaces := #[]
  cf := none
  fields := #[]
  methods := #[]
  instanceTypes := #[]
  staticTypes := #[]
  resolved := #[]
  callSites := []
  init := .initialized
  statics := none
  mirror := none

def pool0 : Array CpInfo := pool [(5, u "<init>"), (0, u "()V"), (1, .class_ 10), (1, u "java/lang/Object")] 113

def k0c0 : Code := { maxStack := 0, maxLocals := 1, code := object_method_1_code, exceptionTable := #[], attributes := #[] }
def k0m0 : Method := { name := "<init>", desc := "()V", sig := { parameters := [], returnType := none }, accessFlags := 1, code := some k0c0 }
/-- java/lang/Object -/
def k0 : Class := { plain "java/lang/Object" none with
  accessFlags := 33
  interfaces := #[]
  cf := some (fileOf pool0 8 #[] #[{ accessFlags := 1, nameIndex := 5, descriptorIndex := 6, attributes := #[] }] 33 0 #[] #[])
  fields := #[]
  methods := #[k0m0]
  instanceTypes := #[]
  staticTypes := #[]
  resolved := Array.replicate 124 none
  statics := none }

def pool1 : Array CpInfo := pool [(2, .class_ 4), (1, u "java/lang/Object"), (0, u "<init>"), (0, u "()V"), (0, .integer 2147483647), (2, .long 9223372036854775807), (1, .long 1000000000000), (1, .methodref 15 16), (0, .class_ 17), (0, .nameAndType 18 19), (0, u "com/example/brigid/brigid/telematik/prescription/PrescriptionId"), (0, u "of"), (0, u "(IJ)Lcom/example/brigid/brigid/telematik/prescription/PrescriptionId;"), (0, .methodref 15 21), (0, .nameAndType 22 23), (0, u "getFlowType"), (0, u "()I"), (0, .methodref 15 25), (0, .nameAndType 26 27), (0, u "getSerialNumber"), (0, u "()J"), (0, .methodref 15 29), (0, .nameAndType 30 31), (0, u "equals"), (0, u "(Ljava/lang/Object;)Z"), (0, .class_ 33), (0, u "com/example/brigid/brigid/telematik/prescription/PrescriptionIdOfPinLaw"), (2, u "law"), (0, u "(IJIJI)Z")] 3

def k1m0 : Method := { name := "<init>", desc := "()V", sig := { parameters := [], returnType := none }, accessFlags := 1, code := none }
def k1c1 : Code := { maxStack := 4, maxLocals := 16, code := code, exceptionTable := #[], attributes := #[] }
def k1m1 : Method := { name := "law", desc := "(IJIJI)Z", sig := { parameters := [.int, .long, .int, .long, .int], returnType := some .boolean }, accessFlags := 9, code := some k1c1 }
/-- com/example/brigid/brigid/telematik/prescription/PrescriptionIdOfPinLaw -/
def k1 : Class := { plain "com/example/brigid/brigid/telematik/prescription/PrescriptionIdOfPinLaw" (some 0) with
  accessFlags := 49
  interfaces := #[]
  cf := some (fileOf pool1 32 #[] #[{ accessFlags := 1, nameIndex := 5, descriptorIndex := 6, attributes := #[] }, { accessFlags := 9, nameIndex := 36, descriptorIndex := 37, attributes := #[] }] 49 2 #[] #[])
  fields := #[]
  methods := #[k1m0, k1m1]
  instanceTypes := #[]
  staticTypes := #[]
  resolved := Array.replicate 41 none
  statics := none }

def pool2 : Array CpInfo := pool [(1, .class_ 2), (0, u "com/example/brigid/brigid/telematik/prescription/PrescriptionId"), (0, .methodref 4 5), (0, .class_ 6), (0, .nameAndType 7 8), (0, u "java/lang/Object"), (0, u "<init>"), (0, u "()V"), (0, .fieldref 1 10), (0, .nameAndType 11 12), (0, u "flowType"), (0, u "I"), (0, .fieldref 1 14), (0, .nameAndType 15 16), (0, u "serialNumber"), (0, u "J"), (7, .long 999999999999), (3, .methodref 1 29), (0, .nameAndType 7 30), (0, u "(IJ)V"), (2, u "DOTTED_FORM"), (0, u "Ljava/util/regex/Pattern;"), (43, u "()I"), (37, u "MAX_FLOW_TYPE"), (2, u "MAX_SERIAL_NUMBER"), (0, u "SERIAL_NUMBER_RANGE"), (0, u "MODULUS"), (3, u "of"), (0, u "(IJ)Lcom/example/brigid/brigid/telematik/prescription/PrescriptionId;"), (3, u "getFlowType"), (0, u "getSerialNumber"), (0, u "()J"), (0, u "equals"), (0, u "(Ljava/lang/Object;)Z")] 5

def k2c0 : Code := { maxStack := 3, maxLocals := 4, code := prog_5_method_1_code, exceptionTable := #[], attributes := #[] }
def k2m0 : Method := { name := "<init>", desc := "(IJ)V", sig := { parameters := [.int, .long], returnType := none }, accessFlags := 2, code := some k2c0 }
def k2c1 : Code := { maxStack := 5, maxLocals := 3, code := prog_5_method_2_code, exceptionTable := #[], attributes := #[] }
def k2m1 : Method := { name := "of", desc := "(IJ)Lcom/example/brigid/brigid/telematik/prescription/PrescriptionId;", sig := { parameters := [.int, .long], returnType := some (.object "com/example/brigid/brigid/telematik/prescription/PrescriptionId") }, accessFlags := 9, code := some k2c1 }
def k2c2 : Code := { maxStack := 1, maxLocals := 1, code := prog_5_method_4_code, exceptionTable := #[], attributes := #[] }
def k2m2 : Method := { name := "getFlowType", desc := "()I", sig := { parameters := [], returnType := some .int }, accessFlags := 1, code := some k2c2 }
def k2c3 : Code := { maxStack := 2, maxLocals := 1, code := prog_5_method_5_code, exceptionTable := #[], attributes := #[] }
def k2m3 : Method := { name := "getSerialNumber", desc := "()J", sig := { parameters := [], returnType := some .long }, accessFlags := 1, code := some k2c3 }
def k2c4 : Code := { maxStack := 4, maxLocals := 3, code := prog_5_method_7_code, exceptionTable := #[], attributes := #[] }
def k2m4 : Method := { name := "equals", desc := "(Ljava/lang/Object;)Z", sig := { parameters := [(.object "java/lang/Object")], returnType := some .boolean }, accessFlags := 1, code := some k2c4 }
/-- com/example/brigid/brigid/telematik/prescription/PrescriptionId -/
def k2 : Class := { plain "com/example/brigid/brigid/telematik/prescription/PrescriptionId" (some 0) with
  accessFlags := 33
  interfaces := #[]
  cf := some (fileOf pool2 1 #[] #[{ accessFlags := 2, nameIndex := 7, descriptorIndex := 30, attributes := #[] }, { accessFlags := 9, nameIndex := 125, descriptorIndex := 126, attributes := #[] }, { accessFlags := 1, nameIndex := 130, descriptorIndex := 78, attributes := #[] }, { accessFlags := 1, nameIndex := 131, descriptorIndex := 132, attributes := #[] }, { accessFlags := 1, nameIndex := 133, descriptorIndex := 134, attributes := #[] }] 33 4 #[] #[{ accessFlags := 26, nameIndex := 116, descriptorIndex := 12, attributes := #[] }, { accessFlags := 26, nameIndex := 119, descriptorIndex := 16, attributes := #[] }, { accessFlags := 26, nameIndex := 120, descriptorIndex := 16, attributes := #[] }, { accessFlags := 26, nameIndex := 121, descriptorIndex := 12, attributes := #[] }, { accessFlags := 26, nameIndex := 33, descriptorIndex := 34, attributes := #[] }, { accessFlags := 18, nameIndex := 11, descriptorIndex := 12, attributes := #[] }, { accessFlags := 18, nameIndex := 15, descriptorIndex := 16, attributes := #[] }])
  fields := #[{ name := "MAX_FLOW_TYPE", type := .int, accessFlags := 26, slot := 0, constantValue := 0 }, { name := "MAX_SERIAL_NUMBER", type := .long, accessFlags := 26, slot := 1, constantValue := 0 }, { name := "SERIAL_NUMBER_RANGE", type := .long, accessFlags := 26, slot := 2, constantValue := 0 }, { name := "MODULUS", type := .int, accessFlags := 26, slot := 3, constantValue := 0 }, { name := "DOTTED_FORM", type := (.object "java/util/regex/Pattern"), accessFlags := 26, slot := 4, constantValue := 0 }, { name := "flowType", type := .int, accessFlags := 18, slot := 0, constantValue := 0 }, { name := "serialNumber", type := .long, accessFlags := 18, slot := 1, constantValue := 0 }]
  methods := #[k2m0, k2m1, k2m2, k2m3, k2m4]
  instanceTypes := #[.int, .long]
  staticTypes := #[.int, .long, .long, .int, (.object "java/util/regex/Pattern")]
  resolved := Array.replicate 140 none
  statics := none }

def pool3 : Array CpInfo := pool [(1, u "java/lang/Cloneable"), (0, .class_ 1), (0, u "java/lang/Object"), (0, .class_ 3)] 3

/-- java/lang/Cloneable -/
def k3 : Class := { plain "java/lang/Cloneable" (some 0) with
  accessFlags := 1537
  interfaces := #[]
  cf := some (fileOf pool3 2 #[] #[] 1537 4 #[] #[])
  fields := #[]
  methods := #[]
  instanceTypes := #[]
  staticTypes := #[]
  resolved := Array.replicate 8 none
  statics := none }

def pool4 : Array CpInfo := pool [(1, u "java/io/Serializable"), (0, .class_ 1), (0, u "java/lang/Object"), (0, .class_ 3)] 3

/-- java/io/Serializable -/
def k4 : Class := { plain "java/io/Serializable" (some 0) with
  accessFlags := 1537
  interfaces := #[]
  cf := some (fileOf pool4 2 #[] #[] 1537 4 #[] #[])
  fields := #[]
  methods := #[]
  instanceTypes := #[]
  staticTypes := #[]
  resolved := Array.replicate 8 none
  statics := none }

/-- the primitive byte -/
def k5 : Class := { plain "byte" none with kind := .primitive 'B', accessFlags := 0x411 }
/-- [B -/
def k6 : Class := { plain "[B" (some 0) with kind := .array 5 .byte, interfaces := #[3, 4], accessFlags := 1041 }

/-- the primitive int -/
def k7 : Class := { plain "int" none with kind := .primitive 'I', accessFlags := 0x411 }
/-- [I -/
def k8 : Class := { plain "[I" (some 0) with kind := .array 7 .int, interfaces := #[3, 4], accessFlags := 1041 }

def heap : Heap := #[]
def classes : Array Class := #[k0, k1, k2, k3, k4, k5, k6, k7, k8]
def interned : List (Array UInt16 × Addr) := []
def slotsUsed : Nat := 0
def theMethod : MethodId := ⟨1, 1⟩
def args0 : Array Value := #[.int 5, .long 7, .int 3, .long 9, .int 1]
def aboutOver (below : List Frame) : State where
  vm := { classes := classes, interned := interned.toArray }
  heap := heap
  slotsUsed := slotsUsed
  threads := #[{ frames := .invoking theMethod args0 :: below }]
def below0 : List Frame := [.native { method := ⟨0, 0⟩, args := #[] }]
def about1 : State := aboutOver below0
def p0 : Program := .bare "" "" ""
def e0 : Env := launch0.env 0 0 0
theorem w_frames : about1.frames = Frame.invoking theMethod args0 :: below0 := rfl
set_option maxRecDepth 65536 in
theorem w_args : argsFit about1.vm theMethod args0 = true := by decide +kernel
set_option maxRecDepth 65536 in
theorem w_heap : heapFits about1 = true := by decide +kernel
set_option maxRecDepth 65536 in
theorem w_runnable : about1.curStatus? = some .runnable := by decide +kernel
set_option maxRecDepth 65536 in
theorem w_alone : about1.alone = true := by decide +kernel
set_option maxRecDepth 65536 in
theorem w_named : about1.methodNamed? x = some theMethod := by decide +kernel
set_option maxRecDepth 65536 in
theorem w_hears : about1.hears theMethod below0 = true := by decide +kernel
set_option maxRecDepth 65536 in
theorem w_ripe : about1.ripe theMethod args0 below0 = true := by decide +kernel
theorem w_running : about1.status = .running := rfl
set_option maxRecDepth 65536 in
theorem w_room : about1.hasRoom e0.platform room_1 = true :=
  launch0.hasRoom_least _ room_1 (by decide +kernel) (by decide +kernel) (by decide +kernel) (by decide +kernel) (by decide +kernel) (by decide +kernel)
theorem allAtoms_all (ts : List Jvm.Cond) (a : Array Jvm.Value) (st : Jvm.State) : (allAtoms ts).before a st = ts.all (fun c => c.before a st) := by
  induction ts with
  | nil => rfl
  | cons c t ih =>
    show (Jvm.Cond.and c (allAtoms t)).before a st = _
    rw [Jvm.Cond.before_and, ih, List.all_cons]
def words1 : List Jvm.Cond := Jvm.Cond.code x code maxLocals ret :: tables_1
/-- a 'code' word, met by the world's own term for the bytes: nothing is compared byte by byte -/
theorem code_word {y : MethodName} {bytes : ByteArray} {mx : Nat} {rt : Option FieldType} {a : Array Value} {s : State} {m : MethodId} {meth : Method} {c : Code} (h1 : s.methodNamed? y = some m) (h2 : s.vm.method? m = some meth) (h3 : meth.code = some c) (h4 : c.code = bytes)
    (h5 : (c.maxLocals == mx && c.exceptionTable.isEmpty && decide (c.maxStack ≤ mostOperands) && decide (meth.sig.returnType = rt) && !meth.locks && decide (parseMethodDescriptor y.desc = some meth.sig)) = true) : (Jvm.Cond.code y bytes mx rt).before a s = true := by
  simp only [Bool.and_eq_true, beq_iff_eq, Bool.not_eq_true', decide_eq_true_eq] at h5
  obtain ⟨⟨⟨⟨⟨g1, g2⟩, g3⟩, g4⟩, g5⟩, g6⟩ := h5
  simp [Cond.before, Cond.holds, Cond.value, h1, h2, h3, h4, g1, g2, g3, g4, g5, g6]
def isCode : Jvm.Cond → Bool
  | .code _ _ _ _ => true
  | _ => false
theorem all_split {L : List Jvm.Cond} {P : Jvm.Cond → Bool} (h1 : L.all (fun c => isCode c || P c) = true) (h2 : ∀ c ∈ L.filter isCode, P c = true) : L.all P = true := by
  refine List.all_eq_true.mpr fun c hc => ?_
  have h := List.all_eq_true.mp h1 c hc
  rcases Bool.eq_false_or_eq_true (isCode c) with hi | hi
  · exact h2 c (List.mem_filter.mpr ⟨hc, hi⟩)
  · simpa [hi] using h
set_option maxRecDepth 65536 in
theorem w_c0 : (Jvm.Cond.code x code maxLocals ret).before args0 about1 = true := code_word (m := ⟨1, 1⟩) (meth := k1m1) (c := k1c1) (by decide +kernel) rfl rfl rfl (by decide +kernel)
set_option maxRecDepth 65536 in
theorem w_c1 : (Jvm.Cond.code ({ cls := "com/example/brigid/brigid/telematik/prescription/PrescriptionId", name := "of", desc := "(IJ)Lcom/example/brigid/brigid/telematik/prescription/PrescriptionId;" } : Jvm.MethodName) prog_5_method_2_code (3 : Nat) (Option.some (Jvm.ClassFile.FieldType.object "com/example/brigid/brigid/telematik/prescription/PrescriptionId"))).before args0 about1 = true := code_word (m := ⟨2, 1⟩) (meth := k2m1) (c := k2c1) (by decide +kernel) rfl rfl rfl (by decide +kernel)
set_option maxRecDepth 65536 in
theorem w_c2 : (Jvm.Cond.code ({ cls := "com/example/brigid/brigid/telematik/prescription/PrescriptionId", name := "<init>", desc := "(IJ)V" } : Jvm.MethodName) prog_5_method_1_code (4 : Nat) (Option.none : Option Jvm.ClassFile.FieldType)).before args0 about1 = true := code_word (m := ⟨2, 0⟩) (meth := k2m0) (c := k2c0) (by decide +kernel) rfl rfl rfl (by decide +kernel)
set_option maxRecDepth 65536 in
theorem w_c3 : (Jvm.Cond.code ({ cls := "java/lang/Object", name := "<init>", desc := "()V" } : Jvm.MethodName) object_method_1_code (1 : Nat) (Option.none : Option Jvm.ClassFile.FieldType)).before args0 about1 = true := code_word (m := ⟨0, 0⟩) (meth := k0m0) (c := k0c0) (by decide +kernel) rfl rfl rfl (by decide +kernel)
set_option maxRecDepth 65536 in
theorem w_c4 : (Jvm.Cond.code ({ cls := "com/example/brigid/brigid/telematik/prescription/PrescriptionId", name := "getFlowType", desc := "()I" } : Jvm.MethodName) prog_5_method_4_code (1 : Nat) (Option.some Jvm.ClassFile.FieldType.int)).before args0 about1 = true := code_word (m := ⟨2, 2⟩) (meth := k2m2) (c := k2c2) (by decide +kernel) rfl rfl rfl (by decide +kernel)
set_option maxRecDepth 65536 in
theorem w_c5 : (Jvm.Cond.code ({ cls := "com/example/brigid/brigid/telematik/prescription/PrescriptionId", name := "getSerialNumber", desc := "()J" } : Jvm.MethodName) prog_5_method_5_code (1 : Nat) (Option.some Jvm.ClassFile.FieldType.long)).before args0 about1 = true := code_word (m := ⟨2, 3⟩) (meth := k2m3) (c := k2c3) (by decide +kernel) rfl rfl rfl (by decide +kernel)
set_option maxRecDepth 65536 in
theorem w_c6 : (Jvm.Cond.code ({ cls := "com/example/brigid/brigid/telematik/prescription/PrescriptionId", name := "equals", desc := "(Ljava/lang/Object;)Z" } : Jvm.MethodName) prog_5_method_7_code (3 : Nat) (Option.some Jvm.ClassFile.FieldType.boolean)).before args0 about1 = true := code_word (m := ⟨2, 4⟩) (meth := k2m4) (c := k2c4) (by decide +kernel) rfl rfl rfl (by decide +kernel)
def codes1 : List Jvm.Cond := [Jvm.Cond.code x code maxLocals ret, Jvm.Cond.code ({ cls := "com/example/brigid/brigid/telematik/prescription/PrescriptionId", name := "of", desc := "(IJ)Lcom/example/brigid/brigid/telematik/prescription/PrescriptionId;" } : Jvm.MethodName) prog_5_method_2_code (3 : Nat) (Option.some (Jvm.ClassFile.FieldType.object "com/example/brigid/brigid/telematik/prescription/PrescriptionId")), Jvm.Cond.code ({ cls := "com/example/brigid/brigid/telematik/prescription/PrescriptionId", name := "<init>", desc := "(IJ)V" } : Jvm.MethodName) prog_5_method_1_code (4 : Nat) (Option.none : Option Jvm.ClassFile.FieldType), Jvm.Cond.code ({ cls := "java/lang/Object", name := "<init>", desc := "()V" } : Jvm.MethodName) object_method_1_code (1 : Nat) (Option.none : Option Jvm.ClassFile.FieldType), Jvm.Cond.code ({ cls := "com/example/brigid/brigid/telematik/prescription/PrescriptionId", name := "getFlowType", desc := "()I" } : Jvm.MethodName) prog_5_method_4_code (1 : Nat) (Option.some Jvm.ClassFile.FieldType.int), Jvm.Cond.code ({ cls := "com/example/brigid/brigid/telematik/prescription/PrescriptionId", name := "getSerialNumber", desc := "()J" } : Jvm.MethodName) prog_5_method_5_code (1 : Nat) (Option.some Jvm.ClassFile.FieldType.long), Jvm.Cond.code ({ cls := "com/example/brigid/brigid/telematik/prescription/PrescriptionId", name := "equals", desc := "(Ljava/lang/Object;)Z" } : Jvm.MethodName) prog_5_method_7_code (3 : Nat) (Option.some Jvm.ClassFile.FieldType.boolean)]
set_option maxRecDepth 65536 in
theorem codes_eq : words1.filter isCode = codes1 := rfl
theorem w_codes : ∀ c ∈ words1.filter isCode, c.before args0 about1 = true := by
  rw [codes_eq]
  intro c hc
  simp only [codes1, List.mem_cons, List.not_mem_nil, or_false] at hc
  rcases hc with rfl | rfl | rfl | rfl | rfl | rfl | rfl
  · exact w_c0
  · exact w_c1
  · exact w_c2
  · exact w_c3
  · exact w_c4
  · exact w_c5
  · exact w_c6
set_option maxRecDepth 65536 in
theorem w_t1 : (words1.take 24).all (fun c => isCode c || c.before args0 about1) = true := by decide +kernel
set_option maxRecDepth 65536 in
theorem w_t2 : (words1.drop 24).all (fun c => isCode c || c.before args0 about1) = true := by decide +kernel
theorem w_tables : (allAtoms (Jvm.Cond.code x code maxLocals ret :: tables_1)).before args0 about1 = true := by
  rw [allAtoms_all]
  show words1.all (fun c => c.before args0 about1) = true
  refine all_split ?_ w_codes
  rw [← List.take_append_drop 24 words1, List.all_append, w_t1, w_t2]
  rfl
set_option maxRecDepth 65536 in
theorem w_case : (Jvm.Cond.and given_1 narrow_1).before args0 about1 = true := by decide +kernel
theorem w_applies : (headSpec (Jvm.Cond.code x code maxLocals ret :: tables_1) room_1).applies x e0.platform about1 = true :=
  (Spec.applies_iff w_frames).mpr ⟨w_running, w_runnable, w_alone, w_named, w_hears, w_ripe, w_room, w_tables⟩
theorem atStart : AtStart classFile x code maxLocals ret World_1 tables_1 room_1 Calls_1 rest_1 Pre_1 launch0 p0 e0 about1 theMethod args0 below0 :=
  ⟨lists_1, trivial, launch0.admits_env _ _ _, launch0.least_env, fairChoices_fair.cas, fairChoices_fair.clock, w_frames, w_args, w_heap, w_applies, trivial, trivial, w_case⟩
end start1
theorem witness_1 : WitnessClaimed_1 := ⟨start1.p0, start1.e0, start1.about1, start1.theMethod, start1.args0, start1.below0, start1.atStart⟩
end Jvm.Pilot.@@N@@
