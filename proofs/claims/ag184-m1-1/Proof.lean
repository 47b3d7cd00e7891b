import JvmDerived
import JvmDerived.Pilot.@@N@@Statement
import JvmDerived.Pilot.@@N@@Code
set_option linter.unusedVariables false
set_option linter.unusedSimpArgs false
namespace Jvm.Pilot.@@N@@
open Jvm Jvm.ClassFile Sem Op Lib Jvm.Free Jvm.Stand Jvm.LawKit Jvm.RoadKit Bundle Jvm.Pilot.@@N@@.Jvm.D
abbrev own_jv (x : Int64) : Slot := .val (.long x)
theorem own_i_lt {a b : Int32} (h : a < b) : a.toInt < b.toInt := Int32.lt_iff_toInt_lt.mp h
theorem own_i_nlt {a b : Int32} (h : ¬ a < b) : b.toInt ≤ a.toInt := Int.not_lt.mp fun q => h (Int32.lt_iff_toInt_lt.mpr q)
theorem own_i_eq {a b : Int32} (h : a = b) : a.toInt = b.toInt := congrArg Int32.toInt h
theorem own_i_ne {a b : Int32} (h : ¬ a = b) : ¬ a.toInt = b.toInt := fun q => h (Int32.toInt_inj.mp q)
theorem own_j_lt {a b : Int64} (h : a < b) : a.toInt < b.toInt := Int64.lt_iff_toInt_lt.mp h
theorem own_j_nlt {a b : Int64} (h : ¬ a < b) : b.toInt ≤ a.toInt := Int.not_lt.mp fun q => h (Int64.lt_iff_toInt_lt.mpr q)
theorem own_j_eq {a b : Int64} (h : a = b) : a.toInt = b.toInt := congrArg Int64.toInt h
theorem own_j_ne {a b : Int64} (h : ¬ a = b) : ¬ a.toInt = b.toInt := fun q => h (Int64.toInt_inj.mp q)
theorem own_b1 {P : Prop} (h : P) : ((1 : Int32).toInt = 1 ∧ P) ∨ ((1 : Int32).toInt = 0 ∧ ¬ P) := Or.inl ⟨by decide, h⟩
theorem own_b0 {P : Prop} (h : ¬ P) : ((0 : Int32).toInt = 1 ∧ P) ∨ ((0 : Int32).toInt = 0 ∧ ¬ P) := Or.inr ⟨by decide, h⟩
theorem own_cat {w : Value} (hw : w.isRef = true) : w.category = 1 := by rcases ref_cases hw with rfl | ⟨a, rfl⟩ <;> rfl
theorem own_fitR {t : FieldType} (ht : t.isReference = true) {w : Value} (hw : w.isRef = true) : fits t w = true := by
  rcases ref_cases hw with rfl | ⟨a, rfl⟩ <;> cases t <;> first | rfl | cases ht
theorem own_static {s : State} {args : Array Value} {C n d K : String} (h : (Jvm.Cond.exactly (Jvm.Term.static C n d) K).value args s none s [] = some true) (wi : (Jvm.Cond.initialized C).before args s = true) (wl : (Jvm.Cond.laysStatic C n d).before args s = true) : ∃ a, (Jvm.Term.static C n d).eval args s none [] s = some (.ref a) ∧ Sta s s.heap C n d (.ref a) ∧ Exa s s.heap a K := by
  obtain ⟨a, ev⟩ := exa_v h
  exact ⟨a, ev, Sta.start ev (Or.inr ⟨wi, wl⟩), Exa.start ev h⟩
theorem own_teq {s : State} {args : Array Value} {t : Jvm.Term} {x : Int32} (h : (Jvm.Cond.eq t (Jvm.Term.int x)).value args s none s [] = some true) : t.eval args s none [] s = some (.int x) := by
  simp only [Cond.value, Term.int_eval] at h
  cases hv : t.eval args s none [] s with
  | none => simp [hv] at h
  | some v => cases v <;> simp [hv] at h ⊢; exact h
theorem own_fint {s : State} {args : Array Value} {t : Jvm.Term} {C n d : String} {x : Int32} {a : Addr} (h : (Jvm.Cond.eq (Jvm.Term.field t C n d) (Jvm.Term.int x)).value args s none s [] = some true) (e : t.eval args s none [] s = some (.ref a)) : s.fieldOf? a C n d = some (.int x) := by
  have q := fld_at (C := C) (n := n) (dd := d) e
  simp only [Cond.value, q, Term.int_eval] at h
  cases hv : s.fieldOf? a C n d with
  | none => simp [hv] at h
  | some v => cases v <;> simp [hv] at h ⊢; exact h
theorem own_ord {s : State} {args : Array Value} {t t' : Jvm.Term} {C n d : String} {x y : Int32} {a b : Addr} (h : (Jvm.Cond.eq (Jvm.Term.field t C n d) (Jvm.Term.int x)).value args s none s [] = some true) (e : t.eval args s none [] s = some (.ref a)) (h' : (Jvm.Cond.eq (Jvm.Term.field t' C n d) (Jvm.Term.int y)).value args s none s [] = some true) (e' : t'.eval args s none [] s = some (.ref b)) (hn : x ≠ y) : ¬ a = b := fun q => by
  subst q
  have := (own_fint h e).symm.trans (own_fint h' e')
  cases this
  exact hn rfl
def own_O (Z : State) (a : Addr) (k : Int32) : Prop := Z.fieldOf? a "java/lang/Enum" "ordinal" "I" = some (.int k)
theorem own_one {Z : State} {a b : Addr} {i j : Int32} (h : own_O Z a i) (h' : own_O Z b j) (hn : i ≠ j) : ¬ a = b := fun q => by
  subst q
  have := Eq.symm h |>.trans h'
  cases this
  exact hn rfl
theorem own_fldR {s : State} {args : Array Value} {t : Jvm.Term} {C n d K : String} {a : Addr} (h : (Jvm.Cond.exactly (Jvm.Term.field t C n d) K).value args s none s [] = some true) (e : t.eval args s none [] s = some (.ref a)) : ∃ b, Fld s s.heap a C n d (.ref b) := by
  obtain ⟨b, ev⟩ := exa_v h
  rw [fld_at e] at ev
  exact ⟨b, Fld.start ev⟩
theorem own_fldN {s : State} {args : Array Value} {t : Jvm.Term} {C n d : String} {a : Addr} (h : (Jvm.Cond.eq (Jvm.Term.field t C n d) Jvm.Term.null).value args s none s [] = some true) (e : t.eval args s none [] s = some (.ref a)) : Fld s s.heap a C n d .null := by
  have ev := null_v h
  rw [fld_at e] at ev
  exact Fld.start ev
section OwnKit
variable {p : Program} {l : Launch} {e : Env} {R : Room} {s : State} {m : MethodId} {args : Array Value} {below : List Frame} {meth : Method} {c : Code} {T : State} {locs : List Loc} {cells slots : Nat} {Z : State} {a0 : Array Value} {h h' : Heap} {Q : Option Value → Heap → List Loc → Prop}
/-- from U the run comes to its end, and what it leaves is Q's -/
def own_Goes (p : Program) (e : Env) (below : List Frame) (s : State) (R : Room) (Q : Option Value → Heap → List Loc → Prop) (U : State) : Prop :=
  ∃ s₂ o, Steps p.tables e below U s₂ ∧ s₂.status = .running ∧ Ended s₂ below o ∧ ∃ v L, o = .returned v ∧ Q v s₂.heap L ∧ FrameEnd s o s₂ L R.cells R.slots
theorem own_st {U U' : State} (k : ∀ t, Steps p.tables e below U' t → Steps p.tables e below U t) (g : own_Goes p e below s R Q U') : own_Goes p e below s R Q U := by
  obtain ⟨s₂, o, h1, h2⟩ := g
  exact ⟨s₂, o, k _ h1, h2⟩
theorem own_fin (X : Stand p l e R s m args below meth c T locs cells slots) (hk : meth.locks = false) {v : Option Value} (hv : meth.sig.returnType = none → v = none) {U : State}
    (hs : ∀ fs, (∀ (f : JFrame) (acts : List Action), f.method = m → f.locked = none → f.entered = [] → (doReturn e (T.setTop f) acts v).1 = T.setFrames fs) → Steps p.tables e below U (T.setFrames fs))
    (hc : cells ≤ R.cells) (hl : slots ≤ R.slots) (q : Q v T.heap locs) : own_Goes p e below s R Q U := by
  obtain ⟨fs, hr, hrun, hended, hW, hsame⟩ := X.leave hv hk
  exact ⟨_, _, hs fs hr, hrun, hended, v, locs, rfl, q, ⟨v, rfl⟩, hW, hsame.mono hc hl⟩
theorem own_ret (X : Stand p l e R s m args below meth c T locs cells slots) (hx : p.tables.exec = Jvm.exec) (hk : meth.locks = false) {pc : Nat} {Ls : Array Slot} {w : Value} {t : FieldType} {i : Instr} {rest : List Value} (hret : meth.sig.returnType = some t) (hn : narrow t w = w)
    (hi : (i = .ireturn ∧ (t = .int ∨ t = .boolean ∨ t = .byte ∨ t = .char ∨ t = .short) ∧ ∃ z, w = .int z) ∨ (i = .lreturn ∧ t = .long ∧ ∃ z, w = .long z) ∨ (i = .dreturn ∧ t = .double ∧ ∃ z, w = .double z) ∨ (i = .freturn ∧ t = .float ∧ ∃ z, w = .float z) ∨ (i = .areturn ∧ t.isReference = true ∧ w.isRef = true))
    (hd : decode c.code pc = .ok (i, 1)) (hc : cells ≤ R.cells) (hl : slots ≤ R.slots) (q : Q (some w) T.heap locs) : own_Goes p e below s R Q (T.setTop (mkF m pc Ls (w :: rest))) :=
  own_fin X hk (fun h => by rw [hret] at h; cases h) (fun fs hr => retOut X hx hret hn hi hd hr) hc hl q
theorem own_retI (X : Stand p l e R s m args below meth c T locs cells slots) (hx : p.tables.exec = Jvm.exec) (hk : meth.locks = false) {pc : Nat} {Ls : Array Slot} {z : Int32} {rest : List Value} (hret : meth.sig.returnType = some .int)
    (hd : decode c.code pc = .ok (.ireturn, 1)) (hc : cells ≤ R.cells) (hl : slots ≤ R.slots) (q : Q (some (.int z)) T.heap locs) : own_Goes p e below s R Q (T.setTop (mkF m pc Ls (.int z :: rest))) :=
  own_ret X hx hk hret rfl (Or.inl ⟨rfl, Or.inl rfl, z, rfl⟩) hd hc hl q
theorem own_retJ (X : Stand p l e R s m args below meth c T locs cells slots) (hx : p.tables.exec = Jvm.exec) (hk : meth.locks = false) {pc : Nat} {Ls : Array Slot} {z : Int64} {rest : List Value} (hret : meth.sig.returnType = some .long)
    (hd : decode c.code pc = .ok (.lreturn, 1)) (hc : cells ≤ R.cells) (hl : slots ≤ R.slots) (q : Q (some (.long z)) T.heap locs) : own_Goes p e below s R Q (T.setTop (mkF m pc Ls (.long z :: rest))) :=
  own_ret X hx hk hret rfl (Or.inr (Or.inl ⟨rfl, rfl, z, rfl⟩)) hd hc hl q
theorem own_narR {t : FieldType} (ht : t.isReference = true) {w : Value} (hw : w.isRef = true) : narrow t w = w := by
  rcases ref_cases hw with rfl | ⟨a, rfl⟩ <;> cases t <;> first | rfl | cases ht
theorem own_retR (X : Stand p l e R s m args below meth c T locs cells slots) (hx : p.tables.exec = Jvm.exec) (hk : meth.locks = false) {pc : Nat} {Ls : Array Slot} {w : Value} {t : FieldType} {rest : List Value} (hret : meth.sig.returnType = some t) (ht : t.isReference = true) (hw : w.isRef = true)
    (hd : decode c.code pc = .ok (.areturn, 1)) (hc : cells ≤ R.cells) (hl : slots ≤ R.slots) (q : Q (some w) T.heap locs) : own_Goes p e below s R Q (T.setTop (mkF m pc Ls (w :: rest))) :=
  own_ret X hx hk hret (own_narR ht hw) (Or.inr (Or.inr (Or.inr (Or.inr ⟨rfl, ht, hw⟩)))) hd hc hl q
theorem own_retN (X : Stand p l e R s m args below meth c T locs cells slots) (hx : p.tables.exec = Jvm.exec) (hk : meth.locks = false) {pc : Nat} {Ls : Array Slot} {z : Int32} (z' : Int32) {t : FieldType} {rest : List Value} (hret : meth.sig.returnType = some t) (ht : t = .boolean ∨ t = .byte ∨ t = .char ∨ t = .short) (hz : nar t z = z')
    (hd : decode c.code pc = .ok (.ireturn, 1)) (hc : cells ≤ R.cells) (hl : slots ≤ R.slots) (q : Q (some (.int z')) T.heap locs) : own_Goes p e below s R Q (T.setTop (mkF m pc Ls (.int z :: rest))) := by
  subst hz
  exact own_fin X hk (fun h => by rw [hret] at h; cases h) (fun fs hr => retN X hx hret ht hd hr) hc hl q
theorem own_ret0 (X : Stand p l e R s m args below meth c T locs cells slots) (hx : p.tables.exec = Jvm.exec) (hk : meth.locks = false) {pc : Nat} {Ls : Array Slot} (hret : meth.sig.returnType = none)
    (hd : decode c.code pc = .ok (.return_, 1)) (hc : cells ≤ R.cells) (hl : slots ≤ R.slots) (q : Q none T.heap locs) : own_Goes p e below s R Q (T.setTop (mkF m pc Ls [])) :=
  own_fin X hk (fun _ => rfl) (fun fs hr => X.returnOut hx hret hd hr) hc hl q
theorem own_enter {y : MethodName} {bytes : ByteArray} {maxL : Nat} {ret : Option FieldType} {ws : List Jvm.Cond} {as' : Array Value} {h0 : Heap} {F : MethodId → JFrame}
    (hp : plainFor y = true) (hf : ∀ m, entryFrame m as' maxL = F m)
    (body : ∀ (p : Program) (e : Env) (s : State) (m : MethodId) (below : List Frame) (meth : Method) (c : Code) (T : State), Stand p l e R s m as' below meth c T [] 0 0 → p.tables.exec = Jvm.exec → c.code = bytes → c.maxLocals = maxL → meth.sig.returnType = ret → meth.locks = false → meth.name = y.name → s.vm.findClass y.cls = some m.cls → Z.Warmed39 s.vm → T.heap = h0 → own_Goes p e below s R Q (T.setTop (F m))) :
    MetFree l y (head1 (Jvm.Cond.code y bytes maxL ret :: ws) R) (fun a U => a = as' ∧ Z.Warmed39 U.vm ∧ U.heap = h0) (fun _ _ _ _ _ => True) (fun _ U o U' => ∃ v L, o = .returned v ∧ Q v U'.heap L ∧ FrameEnd U o U' L R.cells R.slots) := by
  refine MetFree.of_bodySF hp hisR ?_
  intro p e s m args below meth c s₁ Bd hml0 hP hK
  obtain ⟨rfl, hZ, hh⟩ := hP
  have e0 : s₁.heap = h0 := by rw [← hh, Bd.state]; rfl
  have g := body p e s m below meth c s₁ (Stand.of_body Bd) Bd.exec Bd.bytes hml0 Bd.returns Bd.notSynchronized (name_of_methodNamed Bd.named Bd.method).1 (findClass_of_methodNamed Bd.named) hZ e0
  rw [hf]
  exact g
theorem own_callS (X : Stand p l e R s m args below meth c T locs cells slots) (hx : p.tables.exec = Jvm.exec) (hZ : Z.Warmed39 s.vm) {own : String} {index : Nat} {y : MethodName} {bytes : ByteArray} {maxL : Nat} {ret : Option FieldType}
    (hown : s.vm.findClass own = some m.cls) (w1 : (Jvm.Cond.methodLink own index y).before a0 Z = true) (w2 : (Jvm.Cond.static y).before a0 Z = true) (w3 : (Jvm.Cond.initialized y.cls).before a0 Z = true) (w4 : (Jvm.Cond.code y bytes maxL ret).before a0 Z = true)
    (hy : y.cls ≠ "java/lang/invoke/MethodHandle" ∧ y.cls ≠ "java/lang/invoke/VarHandle") {W : Nat} {rm : Room} {argsL rest : List Value} {Qc : Option Value → Heap → List Loc → Prop}
    (hM : MetFree l y (head1 [Jvm.Cond.code y bytes maxL ret] rm) (fun a U => a = argsL.toArray ∧ Z.Warmed39 U.vm ∧ U.heap = h) (fun _ _ _ _ _ => True) (fun _ U o U' => ∃ v L, o = .returned v ∧ Qc v U'.heap L ∧ FrameEnd U o U' L rm.cells rm.slots))
    (hf : rm.frames + 1 ≤ R.frames) (hl : W + (maxL + 11) + rm.locals ≤ R.locals) (hc : cells + rm.cells ≤ R.cells) (hs : slots + rm.slots ≤ R.slots) (eT : T.heap = h)
    {ps : List FieldType} {r : Option FieldType} (hd : parseMethodDescriptor y.desc = some ⟨ps, r⟩) (hlen : argsL.length = ps.length)
    {g : JFrame} (hg : g.method = m) (hsize : g.locals.size = c.maxLocals) (hstack : g.stack = argsL.reverse ++ rest) (hW : 2 * g.monitorRoom + (rest.map fun v => v.category).sum ≤ W) (hdg : decode c.code g.pc = .ok (.invokestatic index, 3)) :
    ∃ (v : Option Value) (T' : State) (L : List Loc), Stand p l e R s m args below meth c T' (locs ++ L) (cells + rm.cells) (slots + rm.slots) ∧ Qc v T'.heap L ∧ ∀ t, Steps p.tables e below (T'.setTop { g with pc := g.pc + 3, stack := v.toList ++ rest }) t → Steps p.tables e below (T.setTop g) t := by
  obtain ⟨v, _, ⟨T', L', k', n'⟩, -, X', ⟨Lc, hQ, l', y', z'⟩, st⟩ := Jvm.LawKit.callS X hx (y := y) hown (mvT hZ w1) (mvT hZ w2) (mvT hZ w3) (mvT hZ w4) hy (backOf (W := W) hM hZ w4 w3 hf hl) hg hsize (argsL := argsL) (rest := rest) (lenOf hd hlen) hstack hW hdg (fun _ _ => ⟨rfl, eT, hc, hs⟩)
  dsimp only [Pt.U, Pt.locs, Pt.cells, Pt.slots] at X' l' y' z' st hQ
  subst l' y' z'
  exact ⟨v, T', Lc, X', hQ, st⟩
theorem own_callI (X : Stand p l e R s m args below meth c T locs cells slots) (hx : p.tables.exec = Jvm.exec) (hZ : Z.Warmed39 s.vm) {own : String} {index : Nat} {y : MethodName} {bytes : ByteArray} {maxL : Nat}
    (hown : s.vm.findClass own = some m.cls) (w1 : (Jvm.Cond.methodLink own index y).before a0 Z = true) (w2 : (Jvm.Cond.instanceMethod y).before a0 Z = true) (w3 : (Jvm.Cond.initialized y.cls).before a0 Z = true) (w4 : (Jvm.Cond.code y bytes maxL none).before a0 Z = true) (hy1 : y.name = "<init>")
    (hy : y.cls ≠ "java/lang/invoke/MethodHandle" ∧ y.cls ≠ "java/lang/invoke/VarHandle") {W : Nat} {rm : Room} {a : Addr} {argsL rest : List Value} {Qc : Option Value → Heap → List Loc → Prop}
    (hM : MetFree l y (head1 [Jvm.Cond.code y bytes maxL none] rm) (fun b U => b = (Value.ref a :: argsL).toArray ∧ Z.Warmed39 U.vm ∧ U.heap = h) (fun _ _ _ _ _ => True) (fun _ U o U' => ∃ v L, o = .returned v ∧ Qc v U'.heap L ∧ FrameEnd U o U' L rm.cells rm.slots))
    (hf : rm.frames + 1 ≤ R.frames) (hl : W + (maxL + 11) + rm.locals ≤ R.locals) (hc : cells + rm.cells ≤ R.cells) (hs : slots + rm.slots ≤ R.slots) (eT : T.heap = h)
    {ps : List FieldType} {r : Option FieldType} (hd : parseMethodDescriptor y.desc = some ⟨ps, r⟩) (hlen : argsL.length = ps.length)
    {g : JFrame} (hg : g.method = m) (hsize : g.locals.size = c.maxLocals) (hstack : g.stack = argsL.reverse ++ .ref a :: rest) (hW : 2 * g.monitorRoom + (rest.map fun v => v.category).sum ≤ W) (hdg : decode c.code g.pc = .ok (.invokespecial index, 3)) :
    ∃ (v : Option Value) (T' : State) (L : List Loc), Stand p l e R s m args below meth c T' (locs ++ L) (cells + rm.cells) (slots + rm.slots) ∧ Qc v T'.heap L ∧ ∀ t, Steps p.tables e below (T'.setTop { g with pc := g.pc + 3, stack := v.toList ++ rest }) t → Steps p.tables e below (T.setTop g) t := by
  obtain ⟨v, _, ⟨T', L', k', n'⟩, -, X', ⟨Lc, hQ, l', y', z'⟩, st⟩ := X.specialBack hx (y := y) hy1 hown (mvT hZ w1) (mvT hZ w2) (mvT hZ w4) hy (backOf (W := W) hM hZ w4 w3 hf hl) hg hsize (Steps.refl _) (a := a) (argsL := argsL) (rest := rest) (lenOf hd hlen) hstack hW hdg (fun _ _ => ⟨rfl, eT, hc, hs⟩)
  dsimp only [Pt.U, Pt.locs, Pt.cells, Pt.slots] at X' l' y' z' st hQ
  subst l' y' z'
  exact ⟨v, T', Lc, X', hQ, fun t k => st.trans k⟩
theorem own_callV (X : Stand p l e R s m args below meth c T locs cells slots) (hx : p.tables.exec = Jvm.exec) (hZ : Z.Warmed39 s.vm) {own C : String} {index : Nat} {y : MethodName} {bytes : ByteArray} {maxL : Nat} {ret : Option FieldType}
    (hown : s.vm.findClass own = some m.cls) (w1 : (Jvm.Cond.methodLink own index y).before a0 Z = true) (w5 : (Jvm.Cond.declares y).before a0 Z = true) (w6 : (Jvm.Cond.selects C y y).before a0 Z = true) (w2 : (Jvm.Cond.instanceMethod y).before a0 Z = true) (w3 : (Jvm.Cond.initialized y.cls).before a0 Z = true) (w4 : (Jvm.Cond.code y bytes maxL ret).before a0 Z = true)
    (hy : y.cls ≠ "java/lang/invoke/MethodHandle" ∧ y.cls ≠ "java/lang/invoke/VarHandle") {W : Nat} {rm : Room} {a : Addr} {argsL rest : List Value} {Qc : Option Value → Heap → List Loc → Prop}
    (hM : MetFree l y (head1 [Jvm.Cond.code y bytes maxL ret] rm) (fun b U => b = (Value.ref a :: argsL).toArray ∧ Z.Warmed39 U.vm ∧ U.heap = h) (fun _ _ _ _ _ => True) (fun _ U o U' => ∃ v L, o = .returned v ∧ Qc v U'.heap L ∧ FrameEnd U o U' L rm.cells rm.slots))
    (hf : rm.frames + 1 ≤ R.frames) (hl : W + (maxL + 11) + rm.locals ≤ R.locals) (hc : cells + rm.cells ≤ R.cells) (hs : slots + rm.slots ≤ R.slots) (eT : T.heap = h) (E : Exa Z h a C)
    {ps : List FieldType} {r : Option FieldType} (hd : parseMethodDescriptor y.desc = some ⟨ps, r⟩) (hlen : argsL.length = ps.length)
    {g : JFrame} (hg : g.method = m) (hsize : g.locals.size = c.maxLocals) (hstack : g.stack = argsL.reverse ++ .ref a :: rest) (hW : 2 * g.monitorRoom + (rest.map fun v => v.category).sum ≤ W) (hdg : decode c.code g.pc = .ok (.invokevirtual index, 3)) :
    ∃ (v : Option Value) (T' : State) (L : List Loc), Stand p l e R s m args below meth c T' (locs ++ L) (cells + rm.cells) (slots + rm.slots) ∧ Qc v T'.heap L ∧ ∀ t, Steps p.tables e below (T'.setTop { g with pc := g.pc + 3, stack := v.toList ++ rest }) t → Steps p.tables e below (T.setTop g) t := by
  obtain ⟨cq, kq, qa, qb, qc⟩ := isOf hZ eT E
  obtain ⟨v, _, ⟨T', L', k', n'⟩, -, X', ⟨Lc, hQ, l', y', z'⟩, st⟩ := X.virtualBack hx (y := y) (z := y) hown (mvT hZ w1) (mvT hZ w5) (notFace_of_selects (args := #[]) (mvT hZ w6)) (mvT hZ w6) (mvT hZ w2) hy (backOf (W := W) hM hZ w4 w3 hf hl) qa qc hg hsize (Steps.refl _) (argsL := argsL) (rest := rest) (lenOf hd hlen) hstack hW hdg (fun _ _ => ⟨rfl, eT, hc, hs⟩)
  dsimp only [Pt.U, Pt.locs, Pt.cells, Pt.slots] at X' l' y' z' st hQ
  subst l' y' z'
  exact ⟨v, T', Lc, X', hQ, fun t k => st.trans k⟩
theorem own_callP (X : Stand p l e R s m args below meth c T locs cells slots) (hx : p.tables.exec = Jvm.exec) (hZ : Z.Warmed39 s.vm) {own : String} {index : Nat} {y : MethodName} {bytes : ByteArray} {maxL : Nat} {ret : Option FieldType}
    (hown : s.vm.findClass own = some m.cls) (w1 : (Jvm.Cond.methodLink own index y).before a0 Z = true) (w5 : (Jvm.Cond.privateMethod y).before a0 Z = true) {ki : Nat} (w6 : (Jvm.Cond.instantiable y.cls ki).before a0 Z = true) (w2 : (Jvm.Cond.instanceMethod y).before a0 Z = true) (w3 : (Jvm.Cond.initialized y.cls).before a0 Z = true) (w4 : (Jvm.Cond.code y bytes maxL ret).before a0 Z = true)
    (hy : y.cls ≠ "java/lang/invoke/MethodHandle" ∧ y.cls ≠ "java/lang/invoke/VarHandle") {W : Nat} {rm : Room} {a : Addr} {argsL rest : List Value} {Qc : Option Value → Heap → List Loc → Prop} {C : String}
    (hM : MetFree l y (head1 [Jvm.Cond.code y bytes maxL ret] rm) (fun b U => b = (Value.ref a :: argsL).toArray ∧ Z.Warmed39 U.vm ∧ U.heap = h) (fun _ _ _ _ _ => True) (fun _ U o U' => ∃ v L, o = .returned v ∧ Qc v U'.heap L ∧ FrameEnd U o U' L rm.cells rm.slots))
    (hf : rm.frames + 1 ≤ R.frames) (hl : W + (maxL + 11) + rm.locals ≤ R.locals) (hc : cells + rm.cells ≤ R.cells) (hs : slots + rm.slots ≤ R.slots) (eT : T.heap = h) (E : Exa Z h a C)
    {ps : List FieldType} {r : Option FieldType} (hd : parseMethodDescriptor y.desc = some ⟨ps, r⟩) (hlen : argsL.length = ps.length)
    {g : JFrame} (hg : g.method = m) (hsize : g.locals.size = c.maxLocals) (hstack : g.stack = argsL.reverse ++ .ref a :: rest) (hW : 2 * g.monitorRoom + (rest.map fun v => v.category).sum ≤ W) (hdg : decode c.code g.pc = .ok (.invokevirtual index, 3)) :
    ∃ (v : Option Value) (T' : State) (L : List Loc), Stand p l e R s m args below meth c T' (locs ++ L) (cells + rm.cells) (slots + rm.slots) ∧ Qc v T'.heap L ∧ ∀ t, Steps p.tables e below (T'.setTop { g with pc := g.pc + 3, stack := v.toList ++ rest }) t → Steps p.tables e below (T.setTop g) t := by
  obtain ⟨cq, q1, q2⟩ := E.cell
  have hsel : (Jvm.Cond.selects y.cls y y).before args s = true := by
    obtain ⟨c2, k2, i1, i2, i3, i4, -⟩ := Cond.instantiable_spec (mv hZ w6 (args := args))
    exact selects_self_of_private i1 i2 (Bool.or_eq_false_iff.mp i4).1 (Cond.privateMethod_at (mvP hZ w5 (args := #[]))) (mvT hZ w2) hy
  obtain ⟨v, _, ⟨T', L', k', n'⟩, -, X', ⟨Lc, hQ, l', y', z'⟩, st⟩ := X.privateBack hx (y := y) hown (mvT hZ w1) (mvT hZ w2) hsel (Cond.privateMethod_at (mvP hZ w5 (args := #[]))) (mvT hZ w4) hy (backOf (W := W) hM hZ w4 w3 hf hl) hg hsize (Steps.refl _) (a := a) (by rw [eT]; exact q1) q2 (argsL := argsL) (rest := rest) (lenOf hd hlen) hstack hW hdg (fun _ _ => ⟨rfl, eT, hc, hs⟩)
  dsimp only [Pt.U, Pt.locs, Pt.cells, Pt.slots] at X' l' y' z' st hQ
  subst l' y' z'
  exact ⟨v, T', Lc, X', hQ, fun t k => st.trans k⟩
theorem own_sta_keep {C n d : String} {w : Value} {ws : List Addr} (F : Sta Z h C n d w) (K : Keep h h' ws) (q : ∀ x ∈ ws, ∀ c : Cell, h[x]? = some c → c.vm.isStatics = false) : Sta Z h' C n d w := by
  obtain ⟨cf, i, k, f, st, cell, h1, h2, h3, h4, h5, h6, h7⟩ := F
  exact ⟨cf, i, k, f, st, cell, h1, h2, h3, h4, K.2.1 _ _ h5 (fun hx => by have := q st hx cell h5; rw [this] at h6; cases h6), h6, h7⟩
theorem own_ext_keep (E : Ext h h') (ws : List Addr) : Keep h h' ws := (Keep.refl h ws).ext E
/-- an array at a: n places, the j-th holds f j -/
def own_Arf (Z : State) (h : Heap) (a : Addr) (ty : FieldType) (n : Nat) (f : Nat → Value) : Prop := ∃ c : Cell, Arr Z h a c ty ∧ c.slots.size = n ∧ ∀ j, j < n → c.slots[j]? = some (f j)
theorem own_Arf.lt {a : Addr} {ty : FieldType} {n : Nat} {f : Nat → Value} (F : own_Arf Z h a ty n f) : a < h.size := by obtain ⟨c, A, -⟩ := F; exact A.lt
theorem own_Arf.ext {a : Addr} {ty : FieldType} {n : Nat} {f : Nat → Value} (F : own_Arf Z h a ty n f) (E : Ext h h') : own_Arf Z h' a ty n f := by obtain ⟨c, A, r⟩ := F; exact ⟨c, A.ext E, r⟩
theorem own_Arf.other {a b : Addr} {ty : FieldType} {n : Nat} {f : Nat → Value} {sl : Nat} {v : Value} (F : own_Arf Z h b ty n f) (W : Wr h h' a sl v) (q : b ≠ a) : own_Arf Z h' b ty n f := by obtain ⟨c, A, r⟩ := F; exact ⟨c, A.other W q, r⟩
theorem own_Arf.keep {a : Addr} {ty : FieldType} {n : Nat} {f : Nat → Value} {ws : List Addr} (F : own_Arf Z h a ty n f) (K : Keep h h' ws) (q : a ∉ ws) : own_Arf Z h' a ty n f := by obtain ⟨c, A, r⟩ := F; exact ⟨c, ⟨K.2.1 a c A.1 q, A.2⟩, r⟩
theorem own_Arf.congr {a : Addr} {ty : FieldType} {n : Nat} {f f' : Nat → Value} (F : own_Arf Z h a ty n f) (q : ∀ j, j < n → f j = f' j) : own_Arf Z h a ty n f' := by obtain ⟨c, A, r1, r2⟩ := F; exact ⟨c, A, r1, fun j hj => by rw [← q j hj]; exact r2 j hj⟩
theorem own_Arf.set {a : Addr} {ty : FieldType} {n : Nat} {f : Nat → Value} {i : Nat} {v : Value} (F : own_Arf Z h a ty n f) (W : Wr h h' a i v) : own_Arf Z h' a ty n (fun k => if k = i then v else f k) := by
  obtain ⟨c, A, r1, r2⟩ := F
  refine ⟨c.setSlot i v, A.same W, by rw [sz_set]; exact r1, fun j hj => ?_⟩
  show (c.slots.setIfInBounds i v)[j]? = some (if j = i then v else f j)
  by_cases q : j = i
  · subst q
    simp [r1, hj]
  · rw [Array.getElem?_setIfInBounds_ne (Ne.symm q), if_neg q]
    exact r2 j hj
theorem own_Arf.setI {a : Addr} {ty : FieldType} {n : Nat} {f : Nat → Int32} {i : Nat} {x : Int32} (F : own_Arf Z h a ty n (fun k => .int (f k))) (W : Wr h h' a i (.int x)) : own_Arf Z h' a ty n (fun k => .int (if k = i then x else f k)) :=
  (own_Arf.set F W).congr fun k _ => by show (if k = i then Value.int x else .int (f k)) = .int (if k = i then x else f k); split <;> rfl
theorem own_Arf.setJ {a : Addr} {ty : FieldType} {n : Nat} {f : Nat → Int64} {i : Nat} {x : Int64} (F : own_Arf Z h a ty n (fun k => .long (f k))) (W : Wr h h' a i (.long x)) : own_Arf Z h' a ty n (fun k => .long (if k = i then x else f k)) :=
  (own_Arf.set F W).congr fun k _ => by show (if k = i then Value.long x else .long (f k)) = .long (if k = i then x else f k); split <;> rfl
theorem own_inb {c : Cell} {n : Nat} {j : Int32} (S : c.slots.size = n) (q : 0 ≤ j.toInt ∧ j.toInt < (n : Int)) : ¬ (j < 0 ∨ c.slots.size ≤ j.toNatClampNeg) := by
  rw [S]
  rintro (q1 | q1)
  · have := Int32.lt_iff_toInt_lt.mp q1
    simp at this
    omega
  · have h1 : j.toNatClampNeg = j.toInt.toNat := rfl
    omega
theorem own_idx {n : Nat} {j : Int32} (q : 0 ≤ j.toInt ∧ j.toInt < (n : Int)) : j.toNatClampNeg < n := by
  have h1 : j.toNatClampNeg = j.toInt.toNat := rfl
  omega
theorem own_newP (X : Stand p l e R s m args below meth c T locs cells slots) (hx : p.tables.exec = Jvm.exec) (hZ : Z.Warmed39 s.vm) {aty : ArrayType} (w : (Jvm.Cond.arrayClass (newarray.typeOf aty)).before a0 Z = true) (eT : T.heap = h) {g : JFrame} (hg : g.method = m) (hd : decode c.code g.pc = .ok (.newarray aty, 2)) {n : Int32} {rest : List Value} (hs : g.stack = .int n :: rest)
    (hn : ¬ n < 0) {cap : Nat} (hcap : n.toNatClampNeg ≤ cap) (hb : cap * 8 ≤ 536870912) (hc : cells + 1 ≤ R.cells) (hl : slots + cap ≤ R.slots) :
    ∃ T' h', Stand p l e R s m args below meth c T' locs (cells + 1) (slots + cap) ∧ T'.heap = h' ∧ Ext h h' ∧ own_Arf Z h' h.size (newarray.typeOf aty) n.toNatClampNeg (fun _ => defaultValue (newarray.typeOf aty)) ∧
      ∀ target, Steps p.tables e below (T'.setTop { g with pc := g.pc + 2, stack := .ref h.size :: rest }) target → Steps p.tables e below (T.setTop g) target := by
  obtain ⟨T', h', cA, X', e', E', A', st⟩ := newP X hx hZ w eT hg hd hs hn hcap hb hc hl
  refine ⟨T', h', X', e', E', ⟨_, A', sz_new _ _ _, fun j hj => ?_⟩, st⟩
  simp [newA, hj]
theorem own_newPE (X : Stand p l e R s m args below meth c T locs cells slots) (hx : p.tables.exec = Jvm.exec) (hZ : Z.Warmed39 s.vm) {aty : ArrayType} (w : (Jvm.Cond.arrayClass (newarray.typeOf aty)).before a0 Z = true) (eT : T.heap = h) {g : JFrame} (hg : g.method = m) (hd : decode c.code g.pc = .ok (.newarray aty, 2)) {n : Int32} {rest : List Value} (hs : g.stack = .int n :: rest)
    (hn : ¬ n < 0) {cap : Nat} (hcap : n.toNatClampNeg ≤ cap) (hb : cap * 8 ≤ 536870912) (hc : cells + 1 ≤ R.cells) (hl : slots + cap ≤ R.slots) {ad : String} (had : "[" ++ (newarray.typeOf aty).toString = ad) :
    ∃ T' h', Stand p l e R s m args below meth c T' locs (cells + 1) (slots + cap) ∧ T'.heap = h' ∧ Ext h h' ∧ own_Arf Z h' h.size (newarray.typeOf aty) n.toNatClampNeg (fun _ => defaultValue (newarray.typeOf aty)) ∧ Exa Z h' h.size ad ∧
      ∀ target, Steps p.tables e below (T'.setTop { g with pc := g.pc + 2, stack := .ref h.size :: rest }) target → Steps p.tables e below (T.setTop g) target := by
  obtain ⟨T', h', cA, X', e', E', A', Ex, st⟩ := newPE X hx hZ w eT hg hd hs hn hcap hb hc hl had
  refine ⟨T', h', X', e', E', ⟨_, A', sz_new _ _ _, fun j hj => ?_⟩, Ex, st⟩
  simp [newA, hj]
theorem own_cloneA (X : Stand p l e R s m args below meth c T locs cells slots) (hx : p.tables.exec = Jvm.exec) (hZ : Z.Warmed39 s.vm) {own ad : String} {index : Nat} (hown : s.vm.findClass own = some m.cls)
    (w1 : (Jvm.Cond.methodLink own index ⟨ad, "clone", "()Ljava/lang/Object;"⟩).before a0 Z = true) (w2 : (Jvm.Cond.sameMethod ad "java/lang/Object" "clone" "()Ljava/lang/Object;").before a0 Z = true) (w3 : (Jvm.Cond.native ⟨"java/lang/Object", "clone", "()Ljava/lang/Object;"⟩).before a0 Z = true)
    (w4 : (Jvm.Cond.instanceMethod ⟨"java/lang/Object", "clone", "()Ljava/lang/Object;"⟩).before a0 Z = true) (w5 : (Jvm.Cond.selects ad ⟨ad, "clone", "()Ljava/lang/Object;"⟩ ⟨"java/lang/Object", "clone", "()Ljava/lang/Object;"⟩).before a0 Z = true) (w6 : (Jvm.Cond.castable ad "java/lang/Cloneable").before a0 Z = true)
    (eT : T.heap = h) {a : Addr} {ty : FieldType} {n : Nat} {f : Nat → Value} (A : own_Arf Z h a ty n f) (E : Exa Z h a ad) (hfit : ∀ k, k < n → fits ty (f k) = true) {g : JFrame} (hg : g.method = m) (hsize : g.locals.size = c.maxLocals) {rest : List Value} (hs : g.stack = .ref a :: rest) (hd : decode c.code g.pc = .ok (.invokevirtual index, 3))
    (hf : 1 ≤ R.frames) {W : Nat} (hW : 2 * g.monitorRoom + (rest.map fun v => v.category).sum ≤ W) (hl : W + 14 ≤ R.locals) (hc : cells + 1 ≤ R.cells) (hsl : slots + n ≤ R.slots) :
    ∃ T' h', Stand p l e R s m args below meth c T' locs (cells + 1) (slots + n) ∧ T'.heap = h' ∧ Ext h h' ∧ own_Arf Z h' h.size ty n f ∧ Exa Z h' h.size ad ∧
      ∀ target, Steps p.tables e below (T'.setTop { g with pc := g.pc + 3, stack := .ref h.size :: rest }) target → Steps p.tables e below (T.setTop g) target := by
  obtain ⟨cl, A1, A2, A3⟩ := A
  have FC : FitC Z cl := fitC_of A1 fun i hi v hv => by
    rw [A3 i (by omega)] at hv
    cases hv
    exact hfit i (by omega)
  obtain ⟨T', h', X', e', ex, A', E', st⟩ := cloneA X hx hZ hown w1 w2 w3 w4 w5 w6 eT A1 E FC hg hsize hs hd hf hW hl (Nat.le_of_eq A2) hc hsl
  exact ⟨T', h', X', e', ex, ⟨cloneOf cl, A', A2, A3⟩, E', st⟩
theorem own_len (X : Stand p l e R s m args below meth c T locs cells slots) (hx : p.tables.exec = Jvm.exec) (hZ : Z.Warmed39 s.vm) (eT : T.heap = h) {a : Addr} {ty : FieldType} {n : Nat} {f : Nat → Value} (A : own_Arf Z h a ty n f) {g : JFrame} (hg : g.method = m) {rest : List Value} (hs : g.stack = .ref a :: rest) (hd : decode c.code g.pc = .ok (.arraylength, 1)) :
    ∀ t, Steps p.tables e below (T.setTop { g with pc := g.pc + 1, stack := .int n.toInt32 :: rest }) t → Steps p.tables e below (T.setTop g) t := by
  obtain ⟨cl, A1, A2, A3⟩ := A
  intro t k
  subst A2
  exact X.arraylength hx (by rw [eT]; exact A1.1) (State.isArrayOf_alike hZ.alike A1.2.1) hg hs hd _ k
theorem own_ldI (X : Stand p l e R s m args below meth c T locs cells slots) (hx : p.tables.exec = Jvm.exec) (hZ : Z.Warmed39 s.vm) (eT : T.heap = h) {a : Addr} {n : Nat} {f : Nat → Int32} (A : own_Arf Z h a .int n (fun k => .int (f k))) {j : Int32} (q : 0 ≤ j.toInt ∧ j.toInt < (n : Int)) {g : JFrame} (hg : g.method = m) {rest : List Value} (hs : g.stack = .int j :: .ref a :: rest) (hd : decode c.code g.pc = .ok (.iaload, 1)) :
    ∀ t, Steps p.tables e below (T.setTop { g with pc := g.pc + 1, stack := .int (f j.toNatClampNeg) :: rest }) t → Steps p.tables e below (T.setTop g) t := by
  obtain ⟨cl, A1, A2, A3⟩ := A
  exact fun t k => X.iaload hx (by rw [eT]; exact A1.1) (State.isArrayOf_alike hZ.alike A1.2.1) A1.2.2 (own_inb A2 q) (A3 _ (own_idx q)) hg hs hd _ k
theorem own_ldJ (X : Stand p l e R s m args below meth c T locs cells slots) (hx : p.tables.exec = Jvm.exec) (hZ : Z.Warmed39 s.vm) (eT : T.heap = h) {a : Addr} {n : Nat} {f : Nat → Int64} (A : own_Arf Z h a .long n (fun k => .long (f k))) {j : Int32} (q : 0 ≤ j.toInt ∧ j.toInt < (n : Int)) {g : JFrame} (hg : g.method = m) {rest : List Value} (hs : g.stack = .int j :: .ref a :: rest) (hd : decode c.code g.pc = .ok (.laload, 1)) :
    ∀ t, Steps p.tables e below (T.setTop { g with pc := g.pc + 1, stack := .long (f j.toNatClampNeg) :: rest }) t → Steps p.tables e below (T.setTop g) t := by
  obtain ⟨cl, A1, A2, A3⟩ := A
  exact fun t k => X.laload hx (by rw [eT]; exact A1.1) (State.isArrayOf_alike hZ.alike A1.2.1) A1.2.2 (own_inb A2 q) (A3 _ (own_idx q)) hg hs hd _ k
theorem own_ldC (X : Stand p l e R s m args below meth c T locs cells slots) (hx : p.tables.exec = Jvm.exec) (hZ : Z.Warmed39 s.vm) (eT : T.heap = h) {a : Addr} {n : Nat} {f : Nat → Int32} (A : own_Arf Z h a .char n (fun k => .int (f k))) {j : Int32} (q : 0 ≤ j.toInt ∧ j.toInt < (n : Int)) {g : JFrame} (hg : g.method = m) {rest : List Value} (hs : g.stack = .int j :: .ref a :: rest) (hd : decode c.code g.pc = .ok (.caload, 1)) :
    ∀ t, Steps p.tables e below (T.setTop { g with pc := g.pc + 1, stack := .int (f j.toNatClampNeg) :: rest }) t → Steps p.tables e below (T.setTop g) t := by
  obtain ⟨cl, A1, A2, A3⟩ := A
  exact fun t k => X.caload hx (by rw [eT]; exact A1.1) (State.isArrayOf_alike hZ.alike A1.2.1) A1.2.2 (own_inb A2 q) (A3 _ (own_idx q)) hg hs hd _ k
theorem own_ldS (X : Stand p l e R s m args below meth c T locs cells slots) (hx : p.tables.exec = Jvm.exec) (hZ : Z.Warmed39 s.vm) (eT : T.heap = h) {a : Addr} {n : Nat} {f : Nat → Int32} (A : own_Arf Z h a .short n (fun k => .int (f k))) {j : Int32} (q : 0 ≤ j.toInt ∧ j.toInt < (n : Int)) {g : JFrame} (hg : g.method = m) {rest : List Value} (hs : g.stack = .int j :: .ref a :: rest) (hd : decode c.code g.pc = .ok (.saload, 1)) :
    ∀ t, Steps p.tables e below (T.setTop { g with pc := g.pc + 1, stack := .int (f j.toNatClampNeg) :: rest }) t → Steps p.tables e below (T.setTop g) t := by
  obtain ⟨cl, A1, A2, A3⟩ := A
  exact fun t k => X.saload hx (by rw [eT]; exact A1.1) (State.isArrayOf_alike hZ.alike A1.2.1) A1.2.2 (own_inb A2 q) (A3 _ (own_idx q)) hg hs hd _ k
theorem own_ldB (X : Stand p l e R s m args below meth c T locs cells slots) (hx : p.tables.exec = Jvm.exec) (hZ : Z.Warmed39 s.vm) (eT : T.heap = h) {a : Addr} {n : Nat} {f : Nat → Int32} (A : own_Arf Z h a .byte n (fun k => .int (f k))) {j : Int32} (q : 0 ≤ j.toInt ∧ j.toInt < (n : Int)) {g : JFrame} (hg : g.method = m) {rest : List Value} (hs : g.stack = .int j :: .ref a :: rest) (hd : decode c.code g.pc = .ok (.baload, 1)) :
    ∀ t, Steps p.tables e below (T.setTop { g with pc := g.pc + 1, stack := .int (f j.toNatClampNeg) :: rest }) t → Steps p.tables e below (T.setTop g) t := by
  obtain ⟨cl, A1, A2, A3⟩ := A
  exact fun t k => X.baloadBytes hx (by rw [eT]; exact A1.1) (State.isArrayOf_alike hZ.alike A1.2.1) A1.2.2 (own_inb A2 q) (A3 _ (own_idx q)) hg hs hd _ k
theorem own_ldR (X : Stand p l e R s m args below meth c T locs cells slots) (hx : p.tables.exec = Jvm.exec) (hZ : Z.Warmed39 s.vm) (eT : T.heap = h) {a : Addr} {ty : FieldType} (hty : ty.isReference = true) {n : Nat} {f : Nat → Value} (A : own_Arf Z h a ty n f) {j : Int32} (q : 0 ≤ j.toInt ∧ j.toInt < (n : Int)) {g : JFrame} (hg : g.method = m) {rest : List Value} (hs : g.stack = .int j :: .ref a :: rest) (hd : decode c.code g.pc = .ok (.aaload, 1)) :
    ∀ t, Steps p.tables e below (T.setTop { g with pc := g.pc + 1, stack := f j.toNatClampNeg :: rest }) t → Steps p.tables e below (T.setTop g) t := by
  obtain ⟨cl, A1, A2, A3⟩ := A
  exact fun t k => X.aaload hx (by rw [eT]; exact A1.1) (State.isArrayOf_alike hZ.alike A1.2.1) hty A1.2.2 (own_inb A2 q) (A3 _ (own_idx q)) hg hs hd _ k
theorem own_stI (X : Stand p l e R s m args below meth c T locs cells slots) (hx : p.tables.exec = Jvm.exec) (hZ : Z.Warmed39 s.vm) (eT : T.heap = h) {a : Addr} {n : Nat} {f : Nat → Int32} (A : own_Arf Z h a .int n (fun k => .int (f k))) {j x : Int32} (q : 0 ≤ j.toInt ∧ j.toInt < (n : Int)) {g : JFrame} (hg : g.method = m) {rest : List Value} (hs : g.stack = .int x :: .int j :: .ref a :: rest) (hd : decode c.code g.pc = .ok (.iastore, 1)) :
    ∃ T' h', Stand p l e R s m args below meth c T' (locs ++ [⟨a, j.toNatClampNeg⟩]) cells slots ∧ T'.heap = h' ∧ Wr h h' a j.toNatClampNeg (.int x) ∧ own_Arf Z h' a .int n (fun k => .int (if k = j.toNatClampNeg then x else f k)) ∧ ∀ t, Steps p.tables e below (T'.setTop { g with pc := g.pc + 1, stack := rest }) t → Steps p.tables e below (T.setTop g) t := by
  obtain ⟨cl, A1, A2, A3⟩ := id A
  obtain ⟨T', h', X', e', W, st⟩ := stI X hx hZ eT A1 (own_inb A2 q) hg hs hd
  exact ⟨T', h', X', e', W, own_Arf.setI A W, st⟩
theorem own_stJ (X : Stand p l e R s m args below meth c T locs cells slots) (hx : p.tables.exec = Jvm.exec) (hZ : Z.Warmed39 s.vm) (eT : T.heap = h) {a : Addr} {n : Nat} {f : Nat → Int64} (A : own_Arf Z h a .long n (fun k => .long (f k))) {j : Int32} {x : Int64} (q : 0 ≤ j.toInt ∧ j.toInt < (n : Int)) {g : JFrame} (hg : g.method = m) {rest : List Value} (hs : g.stack = .long x :: .int j :: .ref a :: rest) (hd : decode c.code g.pc = .ok (.lastore, 1)) :
    ∃ T' h', Stand p l e R s m args below meth c T' (locs ++ [⟨a, j.toNatClampNeg⟩]) cells slots ∧ T'.heap = h' ∧ Wr h h' a j.toNatClampNeg (.long x) ∧ own_Arf Z h' a .long n (fun k => .long (if k = j.toNatClampNeg then x else f k)) ∧ ∀ t, Steps p.tables e below (T'.setTop { g with pc := g.pc + 1, stack := rest }) t → Steps p.tables e below (T.setTop g) t := by
  obtain ⟨cl, A1, A2, A3⟩ := id A
  obtain ⟨T', h', X', e', W, st⟩ := stJ X hx hZ eT A1 (own_inb A2 q) hg hs hd
  exact ⟨T', h', X', e', W, own_Arf.setJ A W, st⟩
theorem own_stC (X : Stand p l e R s m args below meth c T locs cells slots) (hx : p.tables.exec = Jvm.exec) (hZ : Z.Warmed39 s.vm) (eT : T.heap = h) {a : Addr} {n : Nat} {f : Nat → Int32} (A : own_Arf Z h a .char n (fun k => .int (f k))) {j x : Int32} (q : 0 ≤ j.toInt ∧ j.toInt < (n : Int)) {g : JFrame} (hg : g.method = m) {rest : List Value} (hs : g.stack = .int x :: .int j :: .ref a :: rest) (hd : decode c.code g.pc = .ok (.castore, 1)) :
    ∃ T' h', Stand p l e R s m args below meth c T' (locs ++ [⟨a, j.toNatClampNeg⟩]) cells slots ∧ T'.heap = h' ∧ Wr h h' a j.toNatClampNeg (.int (nar .char x)) ∧ own_Arf Z h' a .char n (fun k => .int (if k = j.toNatClampNeg then nar .char x else f k)) ∧ ∀ t, Steps p.tables e below (T'.setTop { g with pc := g.pc + 1, stack := rest }) t → Steps p.tables e below (T.setTop g) t := by
  obtain ⟨cl, A1, A2, A3⟩ := id A
  obtain ⟨T', h', X', e', W, st⟩ := stC X hx hZ eT A1 (own_inb A2 q) hg hs hd
  exact ⟨T', h', X', e', W, own_Arf.setI A W, st⟩
theorem own_stS (X : Stand p l e R s m args below meth c T locs cells slots) (hx : p.tables.exec = Jvm.exec) (hZ : Z.Warmed39 s.vm) (eT : T.heap = h) {a : Addr} {n : Nat} {f : Nat → Int32} (A : own_Arf Z h a .short n (fun k => .int (f k))) {j x : Int32} (q : 0 ≤ j.toInt ∧ j.toInt < (n : Int)) {g : JFrame} (hg : g.method = m) {rest : List Value} (hs : g.stack = .int x :: .int j :: .ref a :: rest) (hd : decode c.code g.pc = .ok (.sastore, 1)) :
    ∃ T' h', Stand p l e R s m args below meth c T' (locs ++ [⟨a, j.toNatClampNeg⟩]) cells slots ∧ T'.heap = h' ∧ Wr h h' a j.toNatClampNeg (.int (nar .short x)) ∧ own_Arf Z h' a .short n (fun k => .int (if k = j.toNatClampNeg then nar .short x else f k)) ∧ ∀ t, Steps p.tables e below (T'.setTop { g with pc := g.pc + 1, stack := rest }) t → Steps p.tables e below (T.setTop g) t := by
  obtain ⟨cl, A1, A2, A3⟩ := id A
  obtain ⟨T', h', X', e', W, st⟩ := stS X hx hZ eT A1 (own_inb A2 q) hg hs hd
  exact ⟨T', h', X', e', W, own_Arf.setI A W, st⟩
theorem own_stB (X : Stand p l e R s m args below meth c T locs cells slots) (hx : p.tables.exec = Jvm.exec) (hZ : Z.Warmed39 s.vm) (eT : T.heap = h) {a : Addr} {n : Nat} {f : Nat → Int32} (A : own_Arf Z h a .byte n (fun k => .int (f k))) {j x : Int32} (q : 0 ≤ j.toInt ∧ j.toInt < (n : Int)) {g : JFrame} (hg : g.method = m) {rest : List Value} (hs : g.stack = .int x :: .int j :: .ref a :: rest) (hd : decode c.code g.pc = .ok (.bastore, 1)) :
    ∃ T' h', Stand p l e R s m args below meth c T' (locs ++ [⟨a, j.toNatClampNeg⟩]) cells slots ∧ T'.heap = h' ∧ Wr h h' a j.toNatClampNeg (.int (nar .byte x)) ∧ own_Arf Z h' a .byte n (fun k => .int (if k = j.toNatClampNeg then nar .byte x else f k)) ∧ ∀ t, Steps p.tables e below (T'.setTop { g with pc := g.pc + 1, stack := rest }) t → Steps p.tables e below (T.setTop g) t := by
  obtain ⟨cl, A1, A2, A3⟩ := id A
  obtain ⟨T', h', X', e', W, st⟩ := stB X hx hZ eT A1 (own_inb A2 q) hg hs hd
  exact ⟨T', h', X', e', W, own_Arf.setI A W, st⟩
theorem own_newR (X : Stand p l e R s m args below meth c T locs cells slots) (hx : p.tables.exec = Jvm.exec) (hZ : Z.Warmed39 s.vm) {own C : String} {index : Nat} (hown : s.vm.findClass own = some m.cls) (w1 : (Jvm.Cond.classLink own index C).before a0 Z = true) (w2 : (Jvm.Cond.arrayOver (.object C)).before a0 Z = true)
    (eT : T.heap = h) {g : JFrame} (hg : g.method = m) (hd : decode c.code g.pc = .ok (.anewarray index, 3)) {n : Int32} {rest : List Value} (hs : g.stack = .int n :: rest) (hn : ¬ n < 0) {cap : Nat} (hcap : n.toNatClampNeg ≤ cap) (hb : cap * 8 ≤ 536870912) (hc : cells + 1 ≤ R.cells) (hl : slots + cap ≤ R.slots) :
    ∃ T' h', Stand p l e R s m args below meth c T' locs (cells + 1) (slots + cap) ∧ T'.heap = h' ∧ Ext h h' ∧ (∃ cl : Cell, h'[h.size]? = some cl ∧ Ovr Z cl.cls C) ∧ own_Arf Z h' h.size (.object C) n.toNatClampNeg (fun _ => .null) ∧
      ∀ target, Steps p.tables e below (T'.setTop { g with pc := g.pc + 3, stack := .ref h.size :: rest }) target → Steps p.tables e below (T.setTop g) target := by
  obtain ⟨T', h', cA, X', e', E', A', O', st⟩ := newR X hx hZ hown w1 w2 eT hg hd hs hn hcap hb hc hl
  refine ⟨T', h', X', e', E', ⟨_, A'.1, O'⟩, ⟨_, A', sz_new _ _ _, fun j hj => ?_⟩, st⟩
  simp [newA, hj, defaultValue]
/-- an array of objects of C: the class of the array is C's -/
def own_Ovr (Z : State) (h : Heap) (a : Addr) (C : String) : Prop := ∃ cl : Cell, h[a]? = some cl ∧ Ovr Z cl.cls C
theorem own_Ovr.ext {a : Addr} {C : String} (F : own_Ovr Z h a C) (E : Ext h h') : own_Ovr Z h' a C := by obtain ⟨cl, h1, h2⟩ := F; exact ⟨cl, E.2 _ _ h1, h2⟩
theorem own_Ovr.wr {a b : Addr} {C : String} {sl : Nat} {v : Value} (F : own_Ovr Z h a C) (W : Wr h h' b sl v) : own_Ovr Z h' a C := by
  obtain ⟨cl, h1, h2⟩ := F
  obtain ⟨c', e1, e2, -⟩ := wr_at W h1
  exact ⟨c', e1, by rw [e2]; exact h2⟩
theorem own_Ovr.keep {a : Addr} {C : String} {ws : List Addr} (F : own_Ovr Z h a C) (K : Keep h h' ws) : own_Ovr Z h' a C := by
  obtain ⟨cl, h1, h2⟩ := F
  obtain ⟨c', e1, e2, -⟩ := K.2.2 _ _ h1
  exact ⟨c', e1, by rw [e2]; exact h2⟩
theorem own_stR (X : Stand p l e R s m args below meth c T locs cells slots) (hx : p.tables.exec = Jvm.exec) (hZ : Z.Warmed39 s.vm) (eT : T.heap = h) {a : Addr} {C : String} {n : Nat} {f : Nat → Value} (A : own_Arf Z h a (.object C) n f) (O : own_Ovr Z h a C) {j : Int32} {v : Value} (I : v = .null ∨ ∃ y, v = .ref y ∧ Ins Z h y C true) (q : 0 ≤ j.toInt ∧ j.toInt < (n : Int)) {g : JFrame} (hg : g.method = m) {rest : List Value} (hs : g.stack = v :: .int j :: .ref a :: rest) (hd : decode c.code g.pc = .ok (.aastore, 1)) :
    ∃ T' h', Stand p l e R s m args below meth c T' (locs ++ [⟨a, j.toNatClampNeg⟩]) cells slots ∧ T'.heap = h' ∧ Wr h h' a j.toNatClampNeg v ∧ own_Arf Z h' a (.object C) n (fun k => if k = j.toNatClampNeg then v else f k) ∧ own_Ovr Z h' a C ∧ ∀ t, Steps p.tables e below (T'.setTop { g with pc := g.pc + 1, stack := rest }) t → Steps p.tables e below (T.setTop g) t := by
  obtain ⟨cl, A1, A2, A3⟩ := id A
  obtain ⟨cl2, o1, o2⟩ := id O
  cases A1.1.symm.trans o1
  have F : Sto Z h a v := by
    rcases I with rfl | ⟨y, rfl, I⟩
    · exact Or.inl rfl
    · exact Sto.of A1 o2 I
  obtain ⟨T', h', X', e', W, st⟩ := stR X hx hZ eT A1 (own_inb A2 q) rfl F hg hs hd
  exact ⟨T', h', X', e', W, own_Arf.set A W, O.wr W, st⟩
end OwnKit
theorem own_rem9 (x : Int32) : 0 ≤ (((x.toUInt32 >>> ((1 : Int32) &&& 31).toUInt32).toInt32) % (9 : Int32)).toInt ∧ (((x.toUInt32 >>> ((1 : Int32) &&& 31).toUInt32).toInt32) % (9 : Int32)).toInt < (9 : Nat) := by
  have h1 : (((x.toUInt32 >>> ((1 : Int32) &&& 31).toUInt32).toInt32)).toInt = (x.toInt % 4294967296) / 2 := c_iushr x 1 1 (by decide) (by decide)
  have h2 := (c_irem ((x.toUInt32 >>> ((1 : Int32) &&& 31).toUInt32).toInt32) 9 9 (by decide)).1 (by omega)
  omega
theorem own_d1_0 : decode jdk_29_method_69_code 0 = .ok (.iload_n 0, 1) := by decide +kernel
theorem own_d1_1 : decode jdk_29_method_69_code 1 = .ok (.iload_n 1, 1) := by decide +kernel
theorem own_d1_2 : decode jdk_29_method_69_code 2 = .ok (.if_icmp .gt 7, 3) := by decide +kernel
theorem own_d1_9 : decode jdk_29_method_69_code 9 = .ok (.iload_n 1, 1) := by decide +kernel
theorem own_d1_10 : decode jdk_29_method_69_code 10 = .ok (.ireturn, 1) := by decide +kernel
theorem own_d1_5 : decode jdk_29_method_69_code 5 = .ok (.iload_n 0, 1) := by decide +kernel
theorem own_d1_6 : decode jdk_29_method_69_code 6 = .ok (.goto 4, 3) := by decide +kernel
theorem own_ef_rmMin (m : MethodId) (p1 : Int32) (p2 : Int32) : entryFrame m #[(.int p1), (.int p2)] 2 = mkF m 0 #[iv p1, iv p2] [] := by first | (simp [entryFrame, mkF, argsToLocals, Value.category, maxLocals]; done) | rfl
abbrev own_Q_rmMin (Z : State) (p1 : Int32) (p2 : Int32) (h0 : Heap) (n0 : Nat) (v : Option Value) (h : Heap) (L : List Loc) : Prop := ∃ r : Int32, v = some (.int r) ∧ ((r = p1 ∧ p1.toInt ≤ p2.toInt) ∨ (r = p2 ∧ p2.toInt ≤ p1.toInt)) ∧ Fr n0 L ∧ h = h0
set_option maxRecDepth 65536 in
set_option maxHeartbeats 40000000 in
theorem rmMin (l : Launch) (Z : State) (a0 : Array Value) (hw : ∀ d ∈ tables_1, d.before a0 Z = true) (ws : List Jvm.Cond) (p1 : Int32) (p2 : Int32) (h0 : Heap) (n0 : Nat) (Z0 : n0 ≤ h0.size) :
    MetFree l (⟨"java/lang/Math", "min", "(II)I"⟩ : MethodName) (head1 (Jvm.Cond.code (⟨"java/lang/Math", "min", "(II)I"⟩ : MethodName) jdk_29_method_69_code 2 (some .int) :: ws) ({ frames := 0, cells := 0, slots := 0, locals := 0 } : Room)) (fun a U => a = #[(.int p1), (.int p2)] ∧ Z.Warmed39 U.vm ∧ U.heap = h0) (fun _ _ _ _ _ => True) (fun _ U o U' => ∃ v L, o = .returned v ∧ own_Q_rmMin Z p1 p2 h0 n0 v U'.heap L ∧ FrameEnd U o U' L ({ frames := 0, cells := 0, slots := 0, locals := 0 } : Room).cells ({ frames := 0, cells := 0, slots := 0, locals := 0 } : Room).slots) := by
  refine own_enter (Q := fun v h L => own_Q_rmMin Z p1 p2 h0 n0 v h L) (F := fun m => mkF m 0 #[iv p1, iv p2] []) (Jvm.Free.JP.mathPlain rfl (by decide +kernel)) (fun m => own_ef_rmMin m p1 p2) ?_
  intro p e s m below meth c T X hx hby hml hret hlk hnm hown hZ e0
  show own_Goes p e below s _ _ (T.setTop (mkF m 0 #[iv p1, iv p2] []))
  have N0 := Fr.nil n0
  refine own_st (fun _ k => XS.iloadN X.here hx rfl (hb hby own_d1_0) rfl  k) ?_
  show own_Goes p e below s _ _ (T.setTop (mkF m 1 #[iv p1, iv p2] [(.int p1)]))
  refine own_st (fun _ k => XS.iloadN X.here hx rfl (hb hby own_d1_1) rfl  k) ?_
  show own_Goes p e below s _ _ (T.setTop (mkF m 2 #[iv p1, iv p2] [(.int p2), (.int p1)]))
  by_cases c1 : p2 < p1
  · have c1i : p2.toInt < p1.toInt := own_i_lt c1
    refine own_st (fun _ k => XS.icmpYes X.here hx rfl (pc0 := 2) (pc' := 9) rfl (hb hby own_d1_2) rfl (tlt c1).2.2.1 (by decide) (by decide) k) ?_
    show own_Goes p e below s _ _ (T.setTop (mkF m 9 #[iv p1, iv p2] []))
    refine own_st (fun _ k => XS.iloadN X.here hx rfl (hb hby own_d1_9) rfl  k) ?_
    show own_Goes p e below s _ _ (T.setTop (mkF m 10 #[iv p1, iv p2] [(.int p2)]))
    exact own_retI X hx hlk hret (hb hby own_d1_10) (by decide) (by decide) ⟨p2, rfl, Or.inr ⟨rfl, by omega⟩, N0, e0⟩
  · have c1i : p1.toInt ≤ p2.toInt := own_i_nlt c1
    refine own_st (fun _ k => XS.icmpNo X.here hx rfl (hb hby own_d1_2) rfl (flt c1).2.2.1 k) ?_
    show own_Goes p e below s _ _ (T.setTop (mkF m 5 #[iv p1, iv p2] []))
    refine own_st (fun _ k => XS.iloadN X.here hx rfl (hb hby own_d1_5) rfl  k) ?_
    show own_Goes p e below s _ _ (T.setTop (mkF m 6 #[iv p1, iv p2] [(.int p1)]))
    refine own_st (fun _ k => XS.goto X.here hx rfl (pc0 := 6) (pc' := 10) rfl (hb hby own_d1_6) (by decide) (by decide) k) ?_
    show own_Goes p e below s _ _ (T.setTop (mkF m 10 #[iv p1, iv p2] [(.int p1)]))
    exact own_retI X hx hlk hret (hb hby own_d1_10) (by decide) (by decide) ⟨p1, rfl, Or.inl ⟨rfl, by omega⟩, N0, e0⟩
theorem own_d2_0 : decode jdk_29_method_65_code 0 = .ok (.iload_n 0, 1) := by decide +kernel
theorem own_d2_1 : decode jdk_29_method_65_code 1 = .ok (.iload_n 1, 1) := by decide +kernel
theorem own_d2_2 : decode jdk_29_method_65_code 2 = .ok (.if_icmp .lt 7, 3) := by decide +kernel
theorem own_d2_9 : decode jdk_29_method_65_code 9 = .ok (.iload_n 1, 1) := by decide +kernel
theorem own_d2_10 : decode jdk_29_method_65_code 10 = .ok (.ireturn, 1) := by decide +kernel
theorem own_d2_5 : decode jdk_29_method_65_code 5 = .ok (.iload_n 0, 1) := by decide +kernel
theorem own_d2_6 : decode jdk_29_method_65_code 6 = .ok (.goto 4, 3) := by decide +kernel
theorem own_ef_rmMax (m : MethodId) (p1 : Int32) (p2 : Int32) : entryFrame m #[(.int p1), (.int p2)] 2 = mkF m 0 #[iv p1, iv p2] [] := by first | (simp [entryFrame, mkF, argsToLocals, Value.category, maxLocals]; done) | rfl
abbrev own_Q_rmMax (Z : State) (p1 : Int32) (p2 : Int32) (h0 : Heap) (n0 : Nat) (v : Option Value) (h : Heap) (L : List Loc) : Prop := ∃ r : Int32, v = some (.int r) ∧ ((r = p1 ∧ p2.toInt ≤ p1.toInt) ∨ (r = p2 ∧ p1.toInt ≤ p2.toInt)) ∧ Fr n0 L ∧ h = h0
set_option maxRecDepth 65536 in
set_option maxHeartbeats 40000000 in
theorem rmMax (l : Launch) (Z : State) (a0 : Array Value) (hw : ∀ d ∈ tables_1, d.before a0 Z = true) (ws : List Jvm.Cond) (p1 : Int32) (p2 : Int32) (h0 : Heap) (n0 : Nat) (Z0 : n0 ≤ h0.size) :
    MetFree l (⟨"java/lang/Math", "max", "(II)I"⟩ : MethodName) (head1 (Jvm.Cond.code (⟨"java/lang/Math", "max", "(II)I"⟩ : MethodName) jdk_29_method_65_code 2 (some .int) :: ws) ({ frames := 0, cells := 0, slots := 0, locals := 0 } : Room)) (fun a U => a = #[(.int p1), (.int p2)] ∧ Z.Warmed39 U.vm ∧ U.heap = h0) (fun _ _ _ _ _ => True) (fun _ U o U' => ∃ v L, o = .returned v ∧ own_Q_rmMax Z p1 p2 h0 n0 v U'.heap L ∧ FrameEnd U o U' L ({ frames := 0, cells := 0, slots := 0, locals := 0 } : Room).cells ({ frames := 0, cells := 0, slots := 0, locals := 0 } : Room).slots) := by
  refine own_enter (Q := fun v h L => own_Q_rmMax Z p1 p2 h0 n0 v h L) (F := fun m => mkF m 0 #[iv p1, iv p2] []) (Jvm.Free.JP.mathPlain rfl (by decide +kernel)) (fun m => own_ef_rmMax m p1 p2) ?_
  intro p e s m below meth c T X hx hby hml hret hlk hnm hown hZ e0
  show own_Goes p e below s _ _ (T.setTop (mkF m 0 #[iv p1, iv p2] []))
  have N0 := Fr.nil n0
  refine own_st (fun _ k => XS.iloadN X.here hx rfl (hb hby own_d2_0) rfl  k) ?_
  show own_Goes p e below s _ _ (T.setTop (mkF m 1 #[iv p1, iv p2] [(.int p1)]))
  refine own_st (fun _ k => XS.iloadN X.here hx rfl (hb hby own_d2_1) rfl  k) ?_
  show own_Goes p e below s _ _ (T.setTop (mkF m 2 #[iv p1, iv p2] [(.int p2), (.int p1)]))
  by_cases c1 : p1 < p2
  · have c1i : p1.toInt < p2.toInt := own_i_lt c1
    refine own_st (fun _ k => XS.icmpYes X.here hx rfl (pc0 := 2) (pc' := 9) rfl (hb hby own_d2_2) rfl (tlt c1).1 (by decide) (by decide) k) ?_
    show own_Goes p e below s _ _ (T.setTop (mkF m 9 #[iv p1, iv p2] []))
    refine own_st (fun _ k => XS.iloadN X.here hx rfl (hb hby own_d2_9) rfl  k) ?_
    show own_Goes p e below s _ _ (T.setTop (mkF m 10 #[iv p1, iv p2] [(.int p2)]))
    exact own_retI X hx hlk hret (hb hby own_d2_10) (by decide) (by decide) ⟨p2, rfl, Or.inr ⟨rfl, by omega⟩, N0, e0⟩
  · have c1i : p2.toInt ≤ p1.toInt := own_i_nlt c1
    refine own_st (fun _ k => XS.icmpNo X.here hx rfl (hb hby own_d2_2) rfl (flt c1).1 k) ?_
    show own_Goes p e below s _ _ (T.setTop (mkF m 5 #[iv p1, iv p2] []))
    refine own_st (fun _ k => XS.iloadN X.here hx rfl (hb hby own_d2_5) rfl  k) ?_
    show own_Goes p e below s _ _ (T.setTop (mkF m 6 #[iv p1, iv p2] [(.int p1)]))
    refine own_st (fun _ k => XS.goto X.here hx rfl (pc0 := 6) (pc' := 10) rfl (hb hby own_d2_6) (by decide) (by decide) k) ?_
    show own_Goes p e below s _ _ (T.setTop (mkF m 10 #[iv p1, iv p2] [(.int p1)]))
    exact own_retI X hx hlk hret (hb hby own_d2_10) (by decide) (by decide) ⟨p1, rfl, Or.inl ⟨rfl, by omega⟩, N0, e0⟩
theorem own_pn0 : plainFor (⟨"com/example/footprint_to_feed/footprinttofeed/XmlDocument", "isXmlChar", "(I)Z"⟩ : MethodName) = true := by first | exact plainFor_of_name (by simp [plainName, overriddenIn]; done) | decide +kernel
theorem own_d3_0 : decode prog_30_method_11_code 0 = .ok (.iload_n 0, 1) := by decide +kernel
theorem own_d3_1 : decode prog_30_method_11_code 1 = .ok (.bipush 9, 2) := by decide +kernel
theorem own_d3_3 : decode prog_30_method_11_code 3 = .ok (.if_icmp .eq 45, 3) := by decide +kernel
theorem own_d3_48 : decode prog_30_method_11_code 48 = .ok (.iconst 1, 1) := by decide +kernel
theorem own_d3_49 : decode prog_30_method_11_code 49 = .ok (.goto 4, 3) := by decide +kernel
theorem own_d3_53 : decode prog_30_method_11_code 53 = .ok (.ireturn, 1) := by decide +kernel
theorem own_d3_6 : decode prog_30_method_11_code 6 = .ok (.iload_n 0, 1) := by decide +kernel
theorem own_d3_7 : decode prog_30_method_11_code 7 = .ok (.bipush 10, 2) := by decide +kernel
theorem own_d3_9 : decode prog_30_method_11_code 9 = .ok (.if_icmp .eq 39, 3) := by decide +kernel
theorem own_d3_12 : decode prog_30_method_11_code 12 = .ok (.iload_n 0, 1) := by decide +kernel
theorem own_d3_13 : decode prog_30_method_11_code 13 = .ok (.bipush 13, 2) := by decide +kernel
theorem own_d3_15 : decode prog_30_method_11_code 15 = .ok (.if_icmp .eq 33, 3) := by decide +kernel
theorem own_d3_18 : decode prog_30_method_11_code 18 = .ok (.iload_n 0, 1) := by decide +kernel
theorem own_d3_19 : decode prog_30_method_11_code 19 = .ok (.bipush 32, 2) := by decide +kernel
theorem own_d3_21 : decode prog_30_method_11_code 21 = .ok (.if_icmp .lt 9, 3) := by decide +kernel
theorem own_d3_30 : decode prog_30_method_11_code 30 = .ok (.iload_n 0, 1) := by decide +kernel
theorem own_d3_31 : decode prog_30_method_11_code 31 = .ok (.ldc 152, 2) := by decide +kernel
theorem own_d3_33 : decode prog_30_method_11_code 33 = .ok (.if_icmp .lt 9, 3) := by decide +kernel
theorem own_d3_42 : decode prog_30_method_11_code 42 = .ok (.iload_n 0, 1) := by decide +kernel
theorem own_d3_43 : decode prog_30_method_11_code 43 = .ok (.ldc 154, 2) := by decide +kernel
theorem own_d3_45 : decode prog_30_method_11_code 45 = .ok (.if_icmp .lt 7, 3) := by decide +kernel
theorem own_d3_52 : decode prog_30_method_11_code 52 = .ok (.iconst 0, 1) := by decide +kernel
theorem own_d3_36 : decode prog_30_method_11_code 36 = .ok (.iload_n 0, 1) := by decide +kernel
theorem own_d3_37 : decode prog_30_method_11_code 37 = .ok (.ldc 153, 2) := by decide +kernel
theorem own_d3_39 : decode prog_30_method_11_code 39 = .ok (.if_icmp .le 9, 3) := by decide +kernel
theorem own_d3_24 : decode prog_30_method_11_code 24 = .ok (.iload_n 0, 1) := by decide +kernel
theorem own_d3_25 : decode prog_30_method_11_code 25 = .ok (.ldc 151, 2) := by decide +kernel
theorem own_d3_27 : decode prog_30_method_11_code 27 = .ok (.if_icmp .le 21, 3) := by decide +kernel
theorem own_ef_rmX (m : MethodId) (p1 : Int32) : entryFrame m #[(.int p1)] 1 = mkF m 0 #[iv p1] [] := by first | (simp [entryFrame, mkF, argsToLocals, Value.category, maxLocals]; done) | rfl
abbrev own_Q_rmX (Z : State) (p1 : Int32) (h0 : Heap) (n0 : Nat) (v : Option Value) (h : Heap) (L : List Loc) : Prop := ∃ r : Int32, v = some (.int r) ∧ ((r.toInt = 1 ∧ (p1.toInt = 9 ∨ p1.toInt = 10 ∨ p1.toInt = 13 ∨ (32 ≤ p1.toInt ∧ p1.toInt ≤ 55295) ∨ (57344 ≤ p1.toInt ∧ p1.toInt ≤ 65533) ∨ 65536 ≤ p1.toInt)) ∨ (r.toInt = 0 ∧ ¬ (p1.toInt = 9 ∨ p1.toInt = 10 ∨ p1.toInt = 13 ∨ (32 ≤ p1.toInt ∧ p1.toInt ≤ 55295) ∨ (57344 ≤ p1.toInt ∧ p1.toInt ≤ 65533) ∨ 65536 ≤ p1.toInt))) ∧ Fr n0 L ∧ h = h0
set_option maxRecDepth 65536 in
set_option maxHeartbeats 40000000 in
theorem rmX (l : Launch) (Z : State) (a0 : Array Value) (hw : ∀ d ∈ tables_1, d.before a0 Z = true) (ws : List Jvm.Cond) (p1 : Int32) (h0 : Heap) (n0 : Nat) (Z0 : n0 ≤ h0.size) :
    MetFree l (⟨"com/example/footprint_to_feed/footprinttofeed/XmlDocument", "isXmlChar", "(I)Z"⟩ : MethodName) (head1 (Jvm.Cond.code (⟨"com/example/footprint_to_feed/footprinttofeed/XmlDocument", "isXmlChar", "(I)Z"⟩ : MethodName) prog_30_method_11_code 1 (some .boolean) :: ws) ({ frames := 0, cells := 0, slots := 0, locals := 0 } : Room)) (fun a U => a = #[(.int p1)] ∧ Z.Warmed39 U.vm ∧ U.heap = h0) (fun _ _ _ _ _ => True) (fun _ U o U' => ∃ v L, o = .returned v ∧ own_Q_rmX Z p1 h0 n0 v U'.heap L ∧ FrameEnd U o U' L ({ frames := 0, cells := 0, slots := 0, locals := 0 } : Room).cells ({ frames := 0, cells := 0, slots := 0, locals := 0 } : Room).slots) := by
  refine own_enter (Q := fun v h L => own_Q_rmX Z p1 h0 n0 v h L) (F := fun m => mkF m 0 #[iv p1] []) own_pn0 (fun m => own_ef_rmX m p1) ?_
  intro p e s m below meth c T X hx hby hml hret hlk hnm hown hZ e0
  show own_Goes p e below s _ _ (T.setTop (mkF m 0 #[iv p1] []))
  have N0 := Fr.nil n0
  refine own_st (fun _ k => XS.iloadN X.here hx rfl (hb hby own_d3_0) rfl  k) ?_
  show own_Goes p e below s _ _ (T.setTop (mkF m 1 #[iv p1] [(.int p1)]))
  refine own_st (fun _ k => XS.bipush X.here hx rfl (hb hby own_d3_1) k) ?_
  show own_Goes p e below s _ _ (T.setTop (mkF m 3 #[iv p1] [(.int (9 : Int32)), (.int p1)]))
  by_cases c1 : p1 = (9 : Int32)
  · have c1i : p1.toInt = 9 := own_i_eq c1
    refine own_st (fun _ k => XS.icmpYes X.here hx rfl (pc0 := 3) (pc' := 48) rfl (hb hby own_d3_3) rfl (teq c1).1 (by decide) (by decide) k) ?_
    show own_Goes p e below s _ _ (T.setTop (mkF m 48 #[iv p1] []))
    refine own_st (fun _ k => XS.iconst X.here hx rfl (hb hby own_d3_48) k) ?_
    show own_Goes p e below s _ _ (T.setTop (mkF m 49 #[iv p1] [(.int (1 : Int32))]))
    refine own_st (fun _ k => XS.goto X.here hx rfl (pc0 := 49) (pc' := 53) rfl (hb hby own_d3_49) (by decide) (by decide) k) ?_
    show own_Goes p e below s _ _ (T.setTop (mkF m 53 #[iv p1] [(.int (1 : Int32))]))
    exact own_retN X hx hlk (1 : Int32) hret (Or.inl rfl) rfl (hb hby own_d3_53) (by decide) (by decide) ⟨(1 : Int32), rfl, own_b1 (by omega), N0, e0⟩
  · have c1i : ¬ p1.toInt = 9 := own_i_ne c1
    refine own_st (fun _ k => XS.icmpNo X.here hx rfl (hb hby own_d3_3) rfl (feq c1).1 k) ?_
    show own_Goes p e below s _ _ (T.setTop (mkF m 6 #[iv p1] []))
    refine own_st (fun _ k => XS.iloadN X.here hx rfl (hb hby own_d3_6) rfl  k) ?_
    show own_Goes p e below s _ _ (T.setTop (mkF m 7 #[iv p1] [(.int p1)]))
    refine own_st (fun _ k => XS.bipush X.here hx rfl (hb hby own_d3_7) k) ?_
    show own_Goes p e below s _ _ (T.setTop (mkF m 9 #[iv p1] [(.int (10 : Int32)), (.int p1)]))
    by_cases c2 : p1 = (10 : Int32)
    · have c2i : p1.toInt = 10 := own_i_eq c2
      refine own_st (fun _ k => XS.icmpYes X.here hx rfl (pc0 := 9) (pc' := 48) rfl (hb hby own_d3_9) rfl (teq c2).1 (by decide) (by decide) k) ?_
      show own_Goes p e below s _ _ (T.setTop (mkF m 48 #[iv p1] []))
      refine own_st (fun _ k => XS.iconst X.here hx rfl (hb hby own_d3_48) k) ?_
      show own_Goes p e below s _ _ (T.setTop (mkF m 49 #[iv p1] [(.int (1 : Int32))]))
      refine own_st (fun _ k => XS.goto X.here hx rfl (pc0 := 49) (pc' := 53) rfl (hb hby own_d3_49) (by decide) (by decide) k) ?_
      show own_Goes p e below s _ _ (T.setTop (mkF m 53 #[iv p1] [(.int (1 : Int32))]))
      exact own_retN X hx hlk (1 : Int32) hret (Or.inl rfl) rfl (hb hby own_d3_53) (by decide) (by decide) ⟨(1 : Int32), rfl, own_b1 (by omega), N0, e0⟩
    · have c2i : ¬ p1.toInt = 10 := own_i_ne c2
      refine own_st (fun _ k => XS.icmpNo X.here hx rfl (hb hby own_d3_9) rfl (feq c2).1 k) ?_
      show own_Goes p e below s _ _ (T.setTop (mkF m 12 #[iv p1] []))
      refine own_st (fun _ k => XS.iloadN X.here hx rfl (hb hby own_d3_12) rfl  k) ?_
      show own_Goes p e below s _ _ (T.setTop (mkF m 13 #[iv p1] [(.int p1)]))
      refine own_st (fun _ k => XS.bipush X.here hx rfl (hb hby own_d3_13) k) ?_
      show own_Goes p e below s _ _ (T.setTop (mkF m 15 #[iv p1] [(.int (13 : Int32)), (.int p1)]))
      by_cases c3 : p1 = (13 : Int32)
      · have c3i : p1.toInt = 13 := own_i_eq c3
        refine own_st (fun _ k => XS.icmpYes X.here hx rfl (pc0 := 15) (pc' := 48) rfl (hb hby own_d3_15) rfl (teq c3).1 (by decide) (by decide) k) ?_
        show own_Goes p e below s _ _ (T.setTop (mkF m 48 #[iv p1] []))
        refine own_st (fun _ k => XS.iconst X.here hx rfl (hb hby own_d3_48) k) ?_
        show own_Goes p e below s _ _ (T.setTop (mkF m 49 #[iv p1] [(.int (1 : Int32))]))
        refine own_st (fun _ k => XS.goto X.here hx rfl (pc0 := 49) (pc' := 53) rfl (hb hby own_d3_49) (by decide) (by decide) k) ?_
        show own_Goes p e below s _ _ (T.setTop (mkF m 53 #[iv p1] [(.int (1 : Int32))]))
        exact own_retN X hx hlk (1 : Int32) hret (Or.inl rfl) rfl (hb hby own_d3_53) (by decide) (by decide) ⟨(1 : Int32), rfl, own_b1 (by omega), N0, e0⟩
      · have c3i : ¬ p1.toInt = 13 := own_i_ne c3
        refine own_st (fun _ k => XS.icmpNo X.here hx rfl (hb hby own_d3_15) rfl (feq c3).1 k) ?_
        show own_Goes p e below s _ _ (T.setTop (mkF m 18 #[iv p1] []))
        refine own_st (fun _ k => XS.iloadN X.here hx rfl (hb hby own_d3_18) rfl  k) ?_
        show own_Goes p e below s _ _ (T.setTop (mkF m 19 #[iv p1] [(.int p1)]))
        refine own_st (fun _ k => XS.bipush X.here hx rfl (hb hby own_d3_19) k) ?_
        show own_Goes p e below s _ _ (T.setTop (mkF m 21 #[iv p1] [(.int (32 : Int32)), (.int p1)]))
        by_cases c4 : p1 < (32 : Int32)
        · have c4i : p1.toInt < 32 := own_i_lt c4
          refine own_st (fun _ k => XS.icmpYes X.here hx rfl (pc0 := 21) (pc' := 30) rfl (hb hby own_d3_21) rfl (tlt c4).1 (by decide) (by decide) k) ?_
          show own_Goes p e below s _ _ (T.setTop (mkF m 30 #[iv p1] []))
          refine own_st (fun _ k => XS.iloadN X.here hx rfl (hb hby own_d3_30) rfl  k) ?_
          show own_Goes p e below s _ _ (T.setTop (mkF m 31 #[iv p1] [(.int p1)]))
          refine own_st (fun _ k => X.ldcInt hx hown (mvT hZ (hw _ (List.mem_of_getElem? (i := 17) rfl))) (g := (mkF m 31 #[iv p1] [(.int p1)])) rfl (hb hby own_d3_31) _ k) ?_
          show own_Goes p e below s _ _ (T.setTop (mkF m 33 #[iv p1] [(.int (57344 : Int32)), (.int p1)]))
          by_cases c5 : p1 < (57344 : Int32)
          · have c5i : p1.toInt < 57344 := own_i_lt c5
            refine own_st (fun _ k => XS.icmpYes X.here hx rfl (pc0 := 33) (pc' := 42) rfl (hb hby own_d3_33) rfl (tlt c5).1 (by decide) (by decide) k) ?_
            show own_Goes p e below s _ _ (T.setTop (mkF m 42 #[iv p1] []))
            refine own_st (fun _ k => XS.iloadN X.here hx rfl (hb hby own_d3_42) rfl  k) ?_
            show own_Goes p e below s _ _ (T.setTop (mkF m 43 #[iv p1] [(.int p1)]))
            refine own_st (fun _ k => X.ldcInt hx hown (mvT hZ (hw _ (List.mem_of_getElem? (i := 18) rfl))) (g := (mkF m 43 #[iv p1] [(.int p1)])) rfl (hb hby own_d3_43) _ k) ?_
            show own_Goes p e below s _ _ (T.setTop (mkF m 45 #[iv p1] [(.int (65536 : Int32)), (.int p1)]))
            by_cases c6 : p1 < (65536 : Int32)
            · have c6i : p1.toInt < 65536 := own_i_lt c6
              refine own_st (fun _ k => XS.icmpYes X.here hx rfl (pc0 := 45) (pc' := 52) rfl (hb hby own_d3_45) rfl (tlt c6).1 (by decide) (by decide) k) ?_
              show own_Goes p e below s _ _ (T.setTop (mkF m 52 #[iv p1] []))
              refine own_st (fun _ k => XS.iconst X.here hx rfl (hb hby own_d3_52) k) ?_
              show own_Goes p e below s _ _ (T.setTop (mkF m 53 #[iv p1] [(.int (0 : Int32))]))
              exact own_retN X hx hlk (0 : Int32) hret (Or.inl rfl) rfl (hb hby own_d3_53) (by decide) (by decide) ⟨(0 : Int32), rfl, own_b0 (by omega), N0, e0⟩
            · have c6i : 65536 ≤ p1.toInt := own_i_nlt c6
              refine own_st (fun _ k => XS.icmpNo X.here hx rfl (hb hby own_d3_45) rfl (flt c6).1 k) ?_
              show own_Goes p e below s _ _ (T.setTop (mkF m 48 #[iv p1] []))
              refine own_st (fun _ k => XS.iconst X.here hx rfl (hb hby own_d3_48) k) ?_
              show own_Goes p e below s _ _ (T.setTop (mkF m 49 #[iv p1] [(.int (1 : Int32))]))
              refine own_st (fun _ k => XS.goto X.here hx rfl (pc0 := 49) (pc' := 53) rfl (hb hby own_d3_49) (by decide) (by decide) k) ?_
              show own_Goes p e below s _ _ (T.setTop (mkF m 53 #[iv p1] [(.int (1 : Int32))]))
              exact own_retN X hx hlk (1 : Int32) hret (Or.inl rfl) rfl (hb hby own_d3_53) (by decide) (by decide) ⟨(1 : Int32), rfl, own_b1 (by omega), N0, e0⟩
          · have c5i : 57344 ≤ p1.toInt := own_i_nlt c5
            refine own_st (fun _ k => XS.icmpNo X.here hx rfl (hb hby own_d3_33) rfl (flt c5).1 k) ?_
            show own_Goes p e below s _ _ (T.setTop (mkF m 36 #[iv p1] []))
            refine own_st (fun _ k => XS.iloadN X.here hx rfl (hb hby own_d3_36) rfl  k) ?_
            show own_Goes p e below s _ _ (T.setTop (mkF m 37 #[iv p1] [(.int p1)]))
            refine own_st (fun _ k => X.ldcInt hx hown (mvT hZ (hw _ (List.mem_of_getElem? (i := 27) rfl))) (g := (mkF m 37 #[iv p1] [(.int p1)])) rfl (hb hby own_d3_37) _ k) ?_
            show own_Goes p e below s _ _ (T.setTop (mkF m 39 #[iv p1] [(.int (65533 : Int32)), (.int p1)]))
            by_cases c7 : (65533 : Int32) < p1
            · have c7i : 65533 < p1.toInt := own_i_lt c7
              refine own_st (fun _ k => XS.icmpNo X.here hx rfl (hb hby own_d3_39) rfl (tlt c7).2.2.2 k) ?_
              show own_Goes p e below s _ _ (T.setTop (mkF m 42 #[iv p1] []))
              refine own_st (fun _ k => XS.iloadN X.here hx rfl (hb hby own_d3_42) rfl  k) ?_
              show own_Goes p e below s _ _ (T.setTop (mkF m 43 #[iv p1] [(.int p1)]))
              refine own_st (fun _ k => X.ldcInt hx hown (mvT hZ (hw _ (List.mem_of_getElem? (i := 18) rfl))) (g := (mkF m 43 #[iv p1] [(.int p1)])) rfl (hb hby own_d3_43) _ k) ?_
              show own_Goes p e below s _ _ (T.setTop (mkF m 45 #[iv p1] [(.int (65536 : Int32)), (.int p1)]))
              by_cases c8 : p1 < (65536 : Int32)
              · have c8i : p1.toInt < 65536 := own_i_lt c8
                refine own_st (fun _ k => XS.icmpYes X.here hx rfl (pc0 := 45) (pc' := 52) rfl (hb hby own_d3_45) rfl (tlt c8).1 (by decide) (by decide) k) ?_
                show own_Goes p e below s _ _ (T.setTop (mkF m 52 #[iv p1] []))
                refine own_st (fun _ k => XS.iconst X.here hx rfl (hb hby own_d3_52) k) ?_
                show own_Goes p e below s _ _ (T.setTop (mkF m 53 #[iv p1] [(.int (0 : Int32))]))
                exact own_retN X hx hlk (0 : Int32) hret (Or.inl rfl) rfl (hb hby own_d3_53) (by decide) (by decide) ⟨(0 : Int32), rfl, own_b0 (by omega), N0, e0⟩
              · have c8i : 65536 ≤ p1.toInt := own_i_nlt c8
                refine own_st (fun _ k => XS.icmpNo X.here hx rfl (hb hby own_d3_45) rfl (flt c8).1 k) ?_
                show own_Goes p e below s _ _ (T.setTop (mkF m 48 #[iv p1] []))
                refine own_st (fun _ k => XS.iconst X.here hx rfl (hb hby own_d3_48) k) ?_
                show own_Goes p e below s _ _ (T.setTop (mkF m 49 #[iv p1] [(.int (1 : Int32))]))
                refine own_st (fun _ k => XS.goto X.here hx rfl (pc0 := 49) (pc' := 53) rfl (hb hby own_d3_49) (by decide) (by decide) k) ?_
                show own_Goes p e below s _ _ (T.setTop (mkF m 53 #[iv p1] [(.int (1 : Int32))]))
                exact own_retN X hx hlk (1 : Int32) hret (Or.inl rfl) rfl (hb hby own_d3_53) (by decide) (by decide) ⟨(1 : Int32), rfl, own_b1 (by omega), N0, e0⟩
            · have c7i : p1.toInt ≤ 65533 := own_i_nlt c7
              refine own_st (fun _ k => XS.icmpYes X.here hx rfl (pc0 := 39) (pc' := 48) rfl (hb hby own_d3_39) rfl (flt c7).2.2.2 (by decide) (by decide) k) ?_
              show own_Goes p e below s _ _ (T.setTop (mkF m 48 #[iv p1] []))
              refine own_st (fun _ k => XS.iconst X.here hx rfl (hb hby own_d3_48) k) ?_
              show own_Goes p e below s _ _ (T.setTop (mkF m 49 #[iv p1] [(.int (1 : Int32))]))
              refine own_st (fun _ k => XS.goto X.here hx rfl (pc0 := 49) (pc' := 53) rfl (hb hby own_d3_49) (by decide) (by decide) k) ?_
              show own_Goes p e below s _ _ (T.setTop (mkF m 53 #[iv p1] [(.int (1 : Int32))]))
              exact own_retN X hx hlk (1 : Int32) hret (Or.inl rfl) rfl (hb hby own_d3_53) (by decide) (by decide) ⟨(1 : Int32), rfl, own_b1 (by omega), N0, e0⟩
        · have c4i : 32 ≤ p1.toInt := own_i_nlt c4
          refine own_st (fun _ k => XS.icmpNo X.here hx rfl (hb hby own_d3_21) rfl (flt c4).1 k) ?_
          show own_Goes p e below s _ _ (T.setTop (mkF m 24 #[iv p1] []))
          refine own_st (fun _ k => XS.iloadN X.here hx rfl (hb hby own_d3_24) rfl  k) ?_
          show own_Goes p e below s _ _ (T.setTop (mkF m 25 #[iv p1] [(.int p1)]))
          refine own_st (fun _ k => X.ldcInt hx hown (mvT hZ (hw _ (List.mem_of_getElem? (i := 25) rfl))) (g := (mkF m 25 #[iv p1] [(.int p1)])) rfl (hb hby own_d3_25) _ k) ?_
          show own_Goes p e below s _ _ (T.setTop (mkF m 27 #[iv p1] [(.int (55295 : Int32)), (.int p1)]))
          by_cases c9 : (55295 : Int32) < p1
          · have c9i : 55295 < p1.toInt := own_i_lt c9
            refine own_st (fun _ k => XS.icmpNo X.here hx rfl (hb hby own_d3_27) rfl (tlt c9).2.2.2 k) ?_
            show own_Goes p e below s _ _ (T.setTop (mkF m 30 #[iv p1] []))
            refine own_st (fun _ k => XS.iloadN X.here hx rfl (hb hby own_d3_30) rfl  k) ?_
            show own_Goes p e below s _ _ (T.setTop (mkF m 31 #[iv p1] [(.int p1)]))
            refine own_st (fun _ k => X.ldcInt hx hown (mvT hZ (hw _ (List.mem_of_getElem? (i := 17) rfl))) (g := (mkF m 31 #[iv p1] [(.int p1)])) rfl (hb hby own_d3_31) _ k) ?_
            show own_Goes p e below s _ _ (T.setTop (mkF m 33 #[iv p1] [(.int (57344 : Int32)), (.int p1)]))
            by_cases c10 : p1 < (57344 : Int32)
            · have c10i : p1.toInt < 57344 := own_i_lt c10
              refine own_st (fun _ k => XS.icmpYes X.here hx rfl (pc0 := 33) (pc' := 42) rfl (hb hby own_d3_33) rfl (tlt c10).1 (by decide) (by decide) k) ?_
              show own_Goes p e below s _ _ (T.setTop (mkF m 42 #[iv p1] []))
              refine own_st (fun _ k => XS.iloadN X.here hx rfl (hb hby own_d3_42) rfl  k) ?_
              show own_Goes p e below s _ _ (T.setTop (mkF m 43 #[iv p1] [(.int p1)]))
              refine own_st (fun _ k => X.ldcInt hx hown (mvT hZ (hw _ (List.mem_of_getElem? (i := 18) rfl))) (g := (mkF m 43 #[iv p1] [(.int p1)])) rfl (hb hby own_d3_43) _ k) ?_
              show own_Goes p e below s _ _ (T.setTop (mkF m 45 #[iv p1] [(.int (65536 : Int32)), (.int p1)]))
              by_cases c11 : p1 < (65536 : Int32)
              · have c11i : p1.toInt < 65536 := own_i_lt c11
                refine own_st (fun _ k => XS.icmpYes X.here hx rfl (pc0 := 45) (pc' := 52) rfl (hb hby own_d3_45) rfl (tlt c11).1 (by decide) (by decide) k) ?_
                show own_Goes p e below s _ _ (T.setTop (mkF m 52 #[iv p1] []))
                refine own_st (fun _ k => XS.iconst X.here hx rfl (hb hby own_d3_52) k) ?_
                show own_Goes p e below s _ _ (T.setTop (mkF m 53 #[iv p1] [(.int (0 : Int32))]))
                exact own_retN X hx hlk (0 : Int32) hret (Or.inl rfl) rfl (hb hby own_d3_53) (by decide) (by decide) ⟨(0 : Int32), rfl, own_b0 (by omega), N0, e0⟩
              · have c11i : 65536 ≤ p1.toInt := own_i_nlt c11
                refine own_st (fun _ k => XS.icmpNo X.here hx rfl (hb hby own_d3_45) rfl (flt c11).1 k) ?_
                show own_Goes p e below s _ _ (T.setTop (mkF m 48 #[iv p1] []))
                refine own_st (fun _ k => XS.iconst X.here hx rfl (hb hby own_d3_48) k) ?_
                show own_Goes p e below s _ _ (T.setTop (mkF m 49 #[iv p1] [(.int (1 : Int32))]))
                refine own_st (fun _ k => XS.goto X.here hx rfl (pc0 := 49) (pc' := 53) rfl (hb hby own_d3_49) (by decide) (by decide) k) ?_
                show own_Goes p e below s _ _ (T.setTop (mkF m 53 #[iv p1] [(.int (1 : Int32))]))
                exact own_retN X hx hlk (1 : Int32) hret (Or.inl rfl) rfl (hb hby own_d3_53) (by decide) (by decide) ⟨(1 : Int32), rfl, own_b1 (by omega), N0, e0⟩
            · have c10i : 57344 ≤ p1.toInt := own_i_nlt c10
              refine own_st (fun _ k => XS.icmpNo X.here hx rfl (hb hby own_d3_33) rfl (flt c10).1 k) ?_
              show own_Goes p e below s _ _ (T.setTop (mkF m 36 #[iv p1] []))
              refine own_st (fun _ k => XS.iloadN X.here hx rfl (hb hby own_d3_36) rfl  k) ?_
              show own_Goes p e below s _ _ (T.setTop (mkF m 37 #[iv p1] [(.int p1)]))
              refine own_st (fun _ k => X.ldcInt hx hown (mvT hZ (hw _ (List.mem_of_getElem? (i := 27) rfl))) (g := (mkF m 37 #[iv p1] [(.int p1)])) rfl (hb hby own_d3_37) _ k) ?_
              show own_Goes p e below s _ _ (T.setTop (mkF m 39 #[iv p1] [(.int (65533 : Int32)), (.int p1)]))
              by_cases c12 : (65533 : Int32) < p1
              · have c12i : 65533 < p1.toInt := own_i_lt c12
                refine own_st (fun _ k => XS.icmpNo X.here hx rfl (hb hby own_d3_39) rfl (tlt c12).2.2.2 k) ?_
                show own_Goes p e below s _ _ (T.setTop (mkF m 42 #[iv p1] []))
                refine own_st (fun _ k => XS.iloadN X.here hx rfl (hb hby own_d3_42) rfl  k) ?_
                show own_Goes p e below s _ _ (T.setTop (mkF m 43 #[iv p1] [(.int p1)]))
                refine own_st (fun _ k => X.ldcInt hx hown (mvT hZ (hw _ (List.mem_of_getElem? (i := 18) rfl))) (g := (mkF m 43 #[iv p1] [(.int p1)])) rfl (hb hby own_d3_43) _ k) ?_
                show own_Goes p e below s _ _ (T.setTop (mkF m 45 #[iv p1] [(.int (65536 : Int32)), (.int p1)]))
                by_cases c13 : p1 < (65536 : Int32)
                · have c13i : p1.toInt < 65536 := own_i_lt c13
                  refine own_st (fun _ k => XS.icmpYes X.here hx rfl (pc0 := 45) (pc' := 52) rfl (hb hby own_d3_45) rfl (tlt c13).1 (by decide) (by decide) k) ?_
                  show own_Goes p e below s _ _ (T.setTop (mkF m 52 #[iv p1] []))
                  refine own_st (fun _ k => XS.iconst X.here hx rfl (hb hby own_d3_52) k) ?_
                  show own_Goes p e below s _ _ (T.setTop (mkF m 53 #[iv p1] [(.int (0 : Int32))]))
                  exact own_retN X hx hlk (0 : Int32) hret (Or.inl rfl) rfl (hb hby own_d3_53) (by decide) (by decide) ⟨(0 : Int32), rfl, own_b0 (by omega), N0, e0⟩
                · have c13i : 65536 ≤ p1.toInt := own_i_nlt c13
                  refine own_st (fun _ k => XS.icmpNo X.here hx rfl (hb hby own_d3_45) rfl (flt c13).1 k) ?_
                  show own_Goes p e below s _ _ (T.setTop (mkF m 48 #[iv p1] []))
                  refine own_st (fun _ k => XS.iconst X.here hx rfl (hb hby own_d3_48) k) ?_
                  show own_Goes p e below s _ _ (T.setTop (mkF m 49 #[iv p1] [(.int (1 : Int32))]))
                  refine own_st (fun _ k => XS.goto X.here hx rfl (pc0 := 49) (pc' := 53) rfl (hb hby own_d3_49) (by decide) (by decide) k) ?_
                  show own_Goes p e below s _ _ (T.setTop (mkF m 53 #[iv p1] [(.int (1 : Int32))]))
                  exact own_retN X hx hlk (1 : Int32) hret (Or.inl rfl) rfl (hb hby own_d3_53) (by decide) (by decide) ⟨(1 : Int32), rfl, own_b1 (by omega), N0, e0⟩
              · have c12i : p1.toInt ≤ 65533 := own_i_nlt c12
                refine own_st (fun _ k => XS.icmpYes X.here hx rfl (pc0 := 39) (pc' := 48) rfl (hb hby own_d3_39) rfl (flt c12).2.2.2 (by decide) (by decide) k) ?_
                show own_Goes p e below s _ _ (T.setTop (mkF m 48 #[iv p1] []))
                refine own_st (fun _ k => XS.iconst X.here hx rfl (hb hby own_d3_48) k) ?_
                show own_Goes p e below s _ _ (T.setTop (mkF m 49 #[iv p1] [(.int (1 : Int32))]))
                refine own_st (fun _ k => XS.goto X.here hx rfl (pc0 := 49) (pc' := 53) rfl (hb hby own_d3_49) (by decide) (by decide) k) ?_
                show own_Goes p e below s _ _ (T.setTop (mkF m 53 #[iv p1] [(.int (1 : Int32))]))
                exact own_retN X hx hlk (1 : Int32) hret (Or.inl rfl) rfl (hb hby own_d3_53) (by decide) (by decide) ⟨(1 : Int32), rfl, own_b1 (by omega), N0, e0⟩
          · have c9i : p1.toInt ≤ 55295 := own_i_nlt c9
            refine own_st (fun _ k => XS.icmpYes X.here hx rfl (pc0 := 27) (pc' := 48) rfl (hb hby own_d3_27) rfl (flt c9).2.2.2 (by decide) (by decide) k) ?_
            show own_Goes p e below s _ _ (T.setTop (mkF m 48 #[iv p1] []))
            refine own_st (fun _ k => XS.iconst X.here hx rfl (hb hby own_d3_48) k) ?_
            show own_Goes p e below s _ _ (T.setTop (mkF m 49 #[iv p1] [(.int (1 : Int32))]))
            refine own_st (fun _ k => XS.goto X.here hx rfl (pc0 := 49) (pc' := 53) rfl (hb hby own_d3_49) (by decide) (by decide) k) ?_
            show own_Goes p e below s _ _ (T.setTop (mkF m 53 #[iv p1] [(.int (1 : Int32))]))
            exact own_retN X hx hlk (1 : Int32) hret (Or.inl rfl) rfl (hb hby own_d3_53) (by decide) (by decide) ⟨(1 : Int32), rfl, own_b1 (by omega), N0, e0⟩
theorem own_pn1 : plainFor (⟨"com/example/footprint_to_feed/footprinttofeed/XmlDocumentIsXmlCharPinLaw", "expected", "(I)Z"⟩ : MethodName) = true := by first | exact plainFor_of_name (by simp [plainName, overriddenIn]; done) | decide +kernel
theorem own_d4_0 : decode method_2_code 0 = .ok (.iload_n 0, 1) := by decide +kernel
theorem own_d4_1 : decode method_2_code 1 = .ok (.bipush 32, 2) := by decide +kernel
theorem own_d4_3 : decode method_2_code 3 = .ok (.if_icmp .ge 27, 3) := by decide +kernel
theorem own_d4_6 : decode method_2_code 6 = .ok (.iload_n 0, 1) := by decide +kernel
theorem own_d4_7 : decode method_2_code 7 = .ok (.bipush 9, 2) := by decide +kernel
theorem own_d4_9 : decode method_2_code 9 = .ok (.if_icmp .eq 15, 3) := by decide +kernel
theorem own_d4_24 : decode method_2_code 24 = .ok (.iconst 1, 1) := by decide +kernel
theorem own_d4_25 : decode method_2_code 25 = .ok (.goto 4, 3) := by decide +kernel
theorem own_d4_29 : decode method_2_code 29 = .ok (.ireturn, 1) := by decide +kernel
theorem own_d4_12 : decode method_2_code 12 = .ok (.iload_n 0, 1) := by decide +kernel
theorem own_d4_13 : decode method_2_code 13 = .ok (.bipush 10, 2) := by decide +kernel
theorem own_d4_15 : decode method_2_code 15 = .ok (.if_icmp .eq 9, 3) := by decide +kernel
theorem own_d4_18 : decode method_2_code 18 = .ok (.iload_n 0, 1) := by decide +kernel
theorem own_d4_19 : decode method_2_code 19 = .ok (.bipush 13, 2) := by decide +kernel
theorem own_d4_21 : decode method_2_code 21 = .ok (.if_icmp .ne 7, 3) := by decide +kernel
theorem own_d4_28 : decode method_2_code 28 = .ok (.iconst 0, 1) := by decide +kernel
theorem own_d4_30 : decode method_2_code 30 = .ok (.iload_n 0, 1) := by decide +kernel
theorem own_d4_31 : decode method_2_code 31 = .ok (.ldc 7, 2) := by decide +kernel
theorem own_d4_33 : decode method_2_code 33 = .ok (.if_icmp .ge 5, 3) := by decide +kernel
theorem own_d4_36 : decode method_2_code 36 = .ok (.iconst 1, 1) := by decide +kernel
theorem own_d4_37 : decode method_2_code 37 = .ok (.ireturn, 1) := by decide +kernel
theorem own_d4_38 : decode method_2_code 38 = .ok (.iload_n 0, 1) := by decide +kernel
theorem own_d4_39 : decode method_2_code 39 = .ok (.ldc 8, 2) := by decide +kernel
theorem own_d4_41 : decode method_2_code 41 = .ok (.if_icmp .ge 5, 3) := by decide +kernel
theorem own_d4_44 : decode method_2_code 44 = .ok (.iconst 0, 1) := by decide +kernel
theorem own_d4_45 : decode method_2_code 45 = .ok (.ireturn, 1) := by decide +kernel
theorem own_d4_46 : decode method_2_code 46 = .ok (.iload_n 0, 1) := by decide +kernel
theorem own_d4_47 : decode method_2_code 47 = .ok (.ldc 9, 2) := by decide +kernel
theorem own_d4_49 : decode method_2_code 49 = .ok (.if_icmp .ge 5, 3) := by decide +kernel
theorem own_d4_52 : decode method_2_code 52 = .ok (.iconst 1, 1) := by decide +kernel
theorem own_d4_53 : decode method_2_code 53 = .ok (.ireturn, 1) := by decide +kernel
theorem own_d4_54 : decode method_2_code 54 = .ok (.iload_n 0, 1) := by decide +kernel
theorem own_d4_55 : decode method_2_code 55 = .ok (.ldc 10, 2) := by decide +kernel
theorem own_d4_57 : decode method_2_code 57 = .ok (.if_icmp .ge 5, 3) := by decide +kernel
theorem own_d4_60 : decode method_2_code 60 = .ok (.iconst 0, 1) := by decide +kernel
theorem own_d4_61 : decode method_2_code 61 = .ok (.ireturn, 1) := by decide +kernel
theorem own_d4_62 : decode method_2_code 62 = .ok (.iconst 1, 1) := by decide +kernel
theorem own_d4_63 : decode method_2_code 63 = .ok (.ireturn, 1) := by decide +kernel
theorem own_ef_rmE (m : MethodId) (p1 : Int32) : entryFrame m #[(.int p1)] 1 = mkF m 0 #[iv p1] [] := by first | (simp [entryFrame, mkF, argsToLocals, Value.category, maxLocals]; done) | rfl
abbrev own_Q_rmE (Z : State) (p1 : Int32) (h0 : Heap) (n0 : Nat) (v : Option Value) (h : Heap) (L : List Loc) : Prop := ∃ r : Int32, v = some (.int r) ∧ ((r.toInt = 1 ∧ (p1.toInt = 9 ∨ p1.toInt = 10 ∨ p1.toInt = 13 ∨ (32 ≤ p1.toInt ∧ p1.toInt ≤ 55295) ∨ (57344 ≤ p1.toInt ∧ p1.toInt ≤ 65533) ∨ 65536 ≤ p1.toInt)) ∨ (r.toInt = 0 ∧ ¬ (p1.toInt = 9 ∨ p1.toInt = 10 ∨ p1.toInt = 13 ∨ (32 ≤ p1.toInt ∧ p1.toInt ≤ 55295) ∨ (57344 ≤ p1.toInt ∧ p1.toInt ≤ 65533) ∨ 65536 ≤ p1.toInt))) ∧ Fr n0 L ∧ h = h0
set_option maxRecDepth 65536 in
set_option maxHeartbeats 40000000 in
theorem rmE (l : Launch) (Z : State) (a0 : Array Value) (hw : ∀ d ∈ tables_1, d.before a0 Z = true) (ws : List Jvm.Cond) (p1 : Int32) (h0 : Heap) (n0 : Nat) (Z0 : n0 ≤ h0.size) :
    MetFree l (⟨"com/example/footprint_to_feed/footprinttofeed/XmlDocumentIsXmlCharPinLaw", "expected", "(I)Z"⟩ : MethodName) (head1 (Jvm.Cond.code (⟨"com/example/footprint_to_feed/footprinttofeed/XmlDocumentIsXmlCharPinLaw", "expected", "(I)Z"⟩ : MethodName) method_2_code 1 (some .boolean) :: ws) ({ frames := 0, cells := 0, slots := 0, locals := 0 } : Room)) (fun a U => a = #[(.int p1)] ∧ Z.Warmed39 U.vm ∧ U.heap = h0) (fun _ _ _ _ _ => True) (fun _ U o U' => ∃ v L, o = .returned v ∧ own_Q_rmE Z p1 h0 n0 v U'.heap L ∧ FrameEnd U o U' L ({ frames := 0, cells := 0, slots := 0, locals := 0 } : Room).cells ({ frames := 0, cells := 0, slots := 0, locals := 0 } : Room).slots) := by
  refine own_enter (Q := fun v h L => own_Q_rmE Z p1 h0 n0 v h L) (F := fun m => mkF m 0 #[iv p1] []) own_pn1 (fun m => own_ef_rmE m p1) ?_
  intro p e s m below meth c T X hx hby hml hret hlk hnm hown hZ e0
  show own_Goes p e below s _ _ (T.setTop (mkF m 0 #[iv p1] []))
  have N0 := Fr.nil n0
  refine own_st (fun _ k => XS.iloadN X.here hx rfl (hb hby own_d4_0) rfl  k) ?_
  show own_Goes p e below s _ _ (T.setTop (mkF m 1 #[iv p1] [(.int p1)]))
  refine own_st (fun _ k => XS.bipush X.here hx rfl (hb hby own_d4_1) k) ?_
  show own_Goes p e below s _ _ (T.setTop (mkF m 3 #[iv p1] [(.int (32 : Int32)), (.int p1)]))
  by_cases c1 : p1 < (32 : Int32)
  · have c1i : p1.toInt < 32 := own_i_lt c1
    refine own_st (fun _ k => XS.icmpNo X.here hx rfl (hb hby own_d4_3) rfl (tlt c1).2.1 k) ?_
    show own_Goes p e below s _ _ (T.setTop (mkF m 6 #[iv p1] []))
    refine own_st (fun _ k => XS.iloadN X.here hx rfl (hb hby own_d4_6) rfl  k) ?_
    show own_Goes p e below s _ _ (T.setTop (mkF m 7 #[iv p1] [(.int p1)]))
    refine own_st (fun _ k => XS.bipush X.here hx rfl (hb hby own_d4_7) k) ?_
    show own_Goes p e below s _ _ (T.setTop (mkF m 9 #[iv p1] [(.int (9 : Int32)), (.int p1)]))
    by_cases c2 : p1 = (9 : Int32)
    · have c2i : p1.toInt = 9 := own_i_eq c2
      refine own_st (fun _ k => XS.icmpYes X.here hx rfl (pc0 := 9) (pc' := 24) rfl (hb hby own_d4_9) rfl (teq c2).1 (by decide) (by decide) k) ?_
      show own_Goes p e below s _ _ (T.setTop (mkF m 24 #[iv p1] []))
      refine own_st (fun _ k => XS.iconst X.here hx rfl (hb hby own_d4_24) k) ?_
      show own_Goes p e below s _ _ (T.setTop (mkF m 25 #[iv p1] [(.int (1 : Int32))]))
      refine own_st (fun _ k => XS.goto X.here hx rfl (pc0 := 25) (pc' := 29) rfl (hb hby own_d4_25) (by decide) (by decide) k) ?_
      show own_Goes p e below s _ _ (T.setTop (mkF m 29 #[iv p1] [(.int (1 : Int32))]))
      exact own_retN X hx hlk (1 : Int32) hret (Or.inl rfl) rfl (hb hby own_d4_29) (by decide) (by decide) ⟨(1 : Int32), rfl, own_b1 (by omega), N0, e0⟩
    · have c2i : ¬ p1.toInt = 9 := own_i_ne c2
      refine own_st (fun _ k => XS.icmpNo X.here hx rfl (hb hby own_d4_9) rfl (feq c2).1 k) ?_
      show own_Goes p e below s _ _ (T.setTop (mkF m 12 #[iv p1] []))
      refine own_st (fun _ k => XS.iloadN X.here hx rfl (hb hby own_d4_12) rfl  k) ?_
      show own_Goes p e below s _ _ (T.setTop (mkF m 13 #[iv p1] [(.int p1)]))
      refine own_st (fun _ k => XS.bipush X.here hx rfl (hb hby own_d4_13) k) ?_
      show own_Goes p e below s _ _ (T.setTop (mkF m 15 #[iv p1] [(.int (10 : Int32)), (.int p1)]))
      by_cases c3 : p1 = (10 : Int32)
      · have c3i : p1.toInt = 10 := own_i_eq c3
        refine own_st (fun _ k => XS.icmpYes X.here hx rfl (pc0 := 15) (pc' := 24) rfl (hb hby own_d4_15) rfl (teq c3).1 (by decide) (by decide) k) ?_
        show own_Goes p e below s _ _ (T.setTop (mkF m 24 #[iv p1] []))
        refine own_st (fun _ k => XS.iconst X.here hx rfl (hb hby own_d4_24) k) ?_
        show own_Goes p e below s _ _ (T.setTop (mkF m 25 #[iv p1] [(.int (1 : Int32))]))
        refine own_st (fun _ k => XS.goto X.here hx rfl (pc0 := 25) (pc' := 29) rfl (hb hby own_d4_25) (by decide) (by decide) k) ?_
        show own_Goes p e below s _ _ (T.setTop (mkF m 29 #[iv p1] [(.int (1 : Int32))]))
        exact own_retN X hx hlk (1 : Int32) hret (Or.inl rfl) rfl (hb hby own_d4_29) (by decide) (by decide) ⟨(1 : Int32), rfl, own_b1 (by omega), N0, e0⟩
      · have c3i : ¬ p1.toInt = 10 := own_i_ne c3
        refine own_st (fun _ k => XS.icmpNo X.here hx rfl (hb hby own_d4_15) rfl (feq c3).1 k) ?_
        show own_Goes p e below s _ _ (T.setTop (mkF m 18 #[iv p1] []))
        refine own_st (fun _ k => XS.iloadN X.here hx rfl (hb hby own_d4_18) rfl  k) ?_
        show own_Goes p e below s _ _ (T.setTop (mkF m 19 #[iv p1] [(.int p1)]))
        refine own_st (fun _ k => XS.bipush X.here hx rfl (hb hby own_d4_19) k) ?_
        show own_Goes p e below s _ _ (T.setTop (mkF m 21 #[iv p1] [(.int (13 : Int32)), (.int p1)]))
        by_cases c4 : p1 = (13 : Int32)
        · have c4i : p1.toInt = 13 := own_i_eq c4
          refine own_st (fun _ k => XS.icmpNo X.here hx rfl (hb hby own_d4_21) rfl (teq c4).2 k) ?_
          show own_Goes p e below s _ _ (T.setTop (mkF m 24 #[iv p1] []))
          refine own_st (fun _ k => XS.iconst X.here hx rfl (hb hby own_d4_24) k) ?_
          show own_Goes p e below s _ _ (T.setTop (mkF m 25 #[iv p1] [(.int (1 : Int32))]))
          refine own_st (fun _ k => XS.goto X.here hx rfl (pc0 := 25) (pc' := 29) rfl (hb hby own_d4_25) (by decide) (by decide) k) ?_
          show own_Goes p e below s _ _ (T.setTop (mkF m 29 #[iv p1] [(.int (1 : Int32))]))
          exact own_retN X hx hlk (1 : Int32) hret (Or.inl rfl) rfl (hb hby own_d4_29) (by decide) (by decide) ⟨(1 : Int32), rfl, own_b1 (by omega), N0, e0⟩
        · have c4i : ¬ p1.toInt = 13 := own_i_ne c4
          refine own_st (fun _ k => XS.icmpYes X.here hx rfl (pc0 := 21) (pc' := 28) rfl (hb hby own_d4_21) rfl (feq c4).2 (by decide) (by decide) k) ?_
          show own_Goes p e below s _ _ (T.setTop (mkF m 28 #[iv p1] []))
          refine own_st (fun _ k => XS.iconst X.here hx rfl (hb hby own_d4_28) k) ?_
          show own_Goes p e below s _ _ (T.setTop (mkF m 29 #[iv p1] [(.int (0 : Int32))]))
          exact own_retN X hx hlk (0 : Int32) hret (Or.inl rfl) rfl (hb hby own_d4_29) (by decide) (by decide) ⟨(0 : Int32), rfl, own_b0 (by omega), N0, e0⟩
  · have c1i : 32 ≤ p1.toInt := own_i_nlt c1
    refine own_st (fun _ k => XS.icmpYes X.here hx rfl (pc0 := 3) (pc' := 30) rfl (hb hby own_d4_3) rfl (flt c1).2.1 (by decide) (by decide) k) ?_
    show own_Goes p e below s _ _ (T.setTop (mkF m 30 #[iv p1] []))
    refine own_st (fun _ k => XS.iloadN X.here hx rfl (hb hby own_d4_30) rfl  k) ?_
    show own_Goes p e below s _ _ (T.setTop (mkF m 31 #[iv p1] [(.int p1)]))
    refine own_st (fun _ k => X.ldcInt hx hown (mvT hZ (hw _ (List.mem_of_getElem? (i := 26) rfl))) (g := (mkF m 31 #[iv p1] [(.int p1)])) rfl (hb hby own_d4_31) _ k) ?_
    show own_Goes p e below s _ _ (T.setTop (mkF m 33 #[iv p1] [(.int (55296 : Int32)), (.int p1)]))
    by_cases c5 : p1 < (55296 : Int32)
    · have c5i : p1.toInt < 55296 := own_i_lt c5
      refine own_st (fun _ k => XS.icmpNo X.here hx rfl (hb hby own_d4_33) rfl (tlt c5).2.1 k) ?_
      show own_Goes p e below s _ _ (T.setTop (mkF m 36 #[iv p1] []))
      refine own_st (fun _ k => XS.iconst X.here hx rfl (hb hby own_d4_36) k) ?_
      show own_Goes p e below s _ _ (T.setTop (mkF m 37 #[iv p1] [(.int (1 : Int32))]))
      exact own_retN X hx hlk (1 : Int32) hret (Or.inl rfl) rfl (hb hby own_d4_37) (by decide) (by decide) ⟨(1 : Int32), rfl, own_b1 (by omega), N0, e0⟩
    · have c5i : 55296 ≤ p1.toInt := own_i_nlt c5
      refine own_st (fun _ k => XS.icmpYes X.here hx rfl (pc0 := 33) (pc' := 38) rfl (hb hby own_d4_33) rfl (flt c5).2.1 (by decide) (by decide) k) ?_
      show own_Goes p e below s _ _ (T.setTop (mkF m 38 #[iv p1] []))
      refine own_st (fun _ k => XS.iloadN X.here hx rfl (hb hby own_d4_38) rfl  k) ?_
      show own_Goes p e below s _ _ (T.setTop (mkF m 39 #[iv p1] [(.int p1)]))
      refine own_st (fun _ k => X.ldcInt hx hown (mvT hZ (hw _ (List.mem_of_getElem? (i := 2) rfl))) (g := (mkF m 39 #[iv p1] [(.int p1)])) rfl (hb hby own_d4_39) _ k) ?_
      show own_Goes p e below s _ _ (T.setTop (mkF m 41 #[iv p1] [(.int (57344 : Int32)), (.int p1)]))
      by_cases c6 : p1 < (57344 : Int32)
      · have c6i : p1.toInt < 57344 := own_i_lt c6
        refine own_st (fun _ k => XS.icmpNo X.here hx rfl (hb hby own_d4_41) rfl (tlt c6).2.1 k) ?_
        show own_Goes p e below s _ _ (T.setTop (mkF m 44 #[iv p1] []))
        refine own_st (fun _ k => XS.iconst X.here hx rfl (hb hby own_d4_44) k) ?_
        show own_Goes p e below s _ _ (T.setTop (mkF m 45 #[iv p1] [(.int (0 : Int32))]))
        exact own_retN X hx hlk (0 : Int32) hret (Or.inl rfl) rfl (hb hby own_d4_45) (by decide) (by decide) ⟨(0 : Int32), rfl, own_b0 (by omega), N0, e0⟩
      · have c6i : 57344 ≤ p1.toInt := own_i_nlt c6
        refine own_st (fun _ k => XS.icmpYes X.here hx rfl (pc0 := 41) (pc' := 46) rfl (hb hby own_d4_41) rfl (flt c6).2.1 (by decide) (by decide) k) ?_
        show own_Goes p e below s _ _ (T.setTop (mkF m 46 #[iv p1] []))
        refine own_st (fun _ k => XS.iloadN X.here hx rfl (hb hby own_d4_46) rfl  k) ?_
        show own_Goes p e below s _ _ (T.setTop (mkF m 47 #[iv p1] [(.int p1)]))
        refine own_st (fun _ k => X.ldcInt hx hown (mvT hZ (hw _ (List.mem_of_getElem? (i := 28) rfl))) (g := (mkF m 47 #[iv p1] [(.int p1)])) rfl (hb hby own_d4_47) _ k) ?_
        show own_Goes p e below s _ _ (T.setTop (mkF m 49 #[iv p1] [(.int (65534 : Int32)), (.int p1)]))
        by_cases c7 : p1 < (65534 : Int32)
        · have c7i : p1.toInt < 65534 := own_i_lt c7
          refine own_st (fun _ k => XS.icmpNo X.here hx rfl (hb hby own_d4_49) rfl (tlt c7).2.1 k) ?_
          show own_Goes p e below s _ _ (T.setTop (mkF m 52 #[iv p1] []))
          refine own_st (fun _ k => XS.iconst X.here hx rfl (hb hby own_d4_52) k) ?_
          show own_Goes p e below s _ _ (T.setTop (mkF m 53 #[iv p1] [(.int (1 : Int32))]))
          exact own_retN X hx hlk (1 : Int32) hret (Or.inl rfl) rfl (hb hby own_d4_53) (by decide) (by decide) ⟨(1 : Int32), rfl, own_b1 (by omega), N0, e0⟩
        · have c7i : 65534 ≤ p1.toInt := own_i_nlt c7
          refine own_st (fun _ k => XS.icmpYes X.here hx rfl (pc0 := 49) (pc' := 54) rfl (hb hby own_d4_49) rfl (flt c7).2.1 (by decide) (by decide) k) ?_
          show own_Goes p e below s _ _ (T.setTop (mkF m 54 #[iv p1] []))
          refine own_st (fun _ k => XS.iloadN X.here hx rfl (hb hby own_d4_54) rfl  k) ?_
          show own_Goes p e below s _ _ (T.setTop (mkF m 55 #[iv p1] [(.int p1)]))
          refine own_st (fun _ k => X.ldcInt hx hown (mvT hZ (hw _ (List.mem_of_getElem? (i := 4) rfl))) (g := (mkF m 55 #[iv p1] [(.int p1)])) rfl (hb hby own_d4_55) _ k) ?_
          show own_Goes p e below s _ _ (T.setTop (mkF m 57 #[iv p1] [(.int (65536 : Int32)), (.int p1)]))
          by_cases c8 : p1 < (65536 : Int32)
          · have c8i : p1.toInt < 65536 := own_i_lt c8
            refine own_st (fun _ k => XS.icmpNo X.here hx rfl (hb hby own_d4_57) rfl (tlt c8).2.1 k) ?_
            show own_Goes p e below s _ _ (T.setTop (mkF m 60 #[iv p1] []))
            refine own_st (fun _ k => XS.iconst X.here hx rfl (hb hby own_d4_60) k) ?_
            show own_Goes p e below s _ _ (T.setTop (mkF m 61 #[iv p1] [(.int (0 : Int32))]))
            exact own_retN X hx hlk (0 : Int32) hret (Or.inl rfl) rfl (hb hby own_d4_61) (by decide) (by decide) ⟨(0 : Int32), rfl, own_b0 (by omega), N0, e0⟩
          · have c8i : 65536 ≤ p1.toInt := own_i_nlt c8
            refine own_st (fun _ k => XS.icmpYes X.here hx rfl (pc0 := 57) (pc' := 62) rfl (hb hby own_d4_57) rfl (flt c8).2.1 (by decide) (by decide) k) ?_
            show own_Goes p e below s _ _ (T.setTop (mkF m 62 #[iv p1] []))
            refine own_st (fun _ k => XS.iconst X.here hx rfl (hb hby own_d4_62) k) ?_
            show own_Goes p e below s _ _ (T.setTop (mkF m 63 #[iv p1] [(.int (1 : Int32))]))
            exact own_retN X hx hlk (1 : Int32) hret (Or.inl rfl) rfl (hb hby own_d4_63) (by decide) (by decide) ⟨(1 : Int32), rfl, own_b1 (by omega), N0, e0⟩
theorem own_pn2 : plainFor (⟨"com/example/footprint_to_feed/footprinttofeed/XmlDocumentIsXmlCharPinLaw", "law", "(III)Z"⟩ : MethodName) = true := by first | exact plainFor_of_name (by simp [plainName, overriddenIn]; done) | decide +kernel
theorem own_pd0 : parseMethodDescriptor "(I)Z" = some ⟨[.int], some .boolean⟩ := by decide +kernel
theorem own_pd1 : parseMethodDescriptor "(II)I" = some ⟨[.int, .int], some .int⟩ := by decide +kernel
theorem own_ef_rm0 (m : MethodId) (p0 : Int32) (p1 : Int32) (p2 : Int32) : entryFrame m #[(.int p0), (.int p1), (.int p2)] maxLocals = mkF m 0 #[iv p0, iv p1, iv p2, .unset, .unset, .unset, .unset] [] := by first | (simp [entryFrame, mkF, argsToLocals, Value.category, maxLocals]; done) | rfl
abbrev own_Q_rm0 (Z : State) (p0 : Int32) (p1 : Int32) (p2 : Int32) (h0 : Heap) (n0 : Nat) (v : Option Value) (h : Heap) (L : List Loc) : Prop := v = some (.int 1) ∧ Fr n0 L
set_option maxRecDepth 65536 in
set_option maxHeartbeats 40000000 in
theorem rm0 (l : Launch) (Z : State) (a0 : Array Value) (hw : ∀ d ∈ tables_1, d.before a0 Z = true) (ws : List Jvm.Cond) (p0 : Int32) (p1 : Int32) (p2 : Int32) (h0 : Heap) (n0 : Nat) (Z0 : n0 ≤ h0.size) :
    MetFree l x (head1 (Jvm.Cond.code x code maxLocals ret :: ws) room_1) (fun a U => a = #[(.int p0), (.int p1), (.int p2)] ∧ Z.Warmed39 U.vm ∧ U.heap = h0) (fun _ _ _ _ _ => True) (fun _ U o U' => ∃ v L, o = .returned v ∧ own_Q_rm0 Z p0 p1 p2 h0 n0 v U'.heap L ∧ FrameEnd U o U' L room_1.cells room_1.slots) := by
  refine own_enter (Q := fun v h L => own_Q_rm0 Z p0 p1 p2 h0 n0 v h L) (F := fun m => mkF m 0 #[iv p0, iv p1, iv p2, .unset, .unset, .unset, .unset] []) own_pn2 (fun m => own_ef_rm0 m p0 p1 p2) ?_
  intro p e s m below meth c T X hx hby hml hret hlk hnm hown hZ e0
  show own_Goes p e below s _ _ (T.setTop (mkF m 0 #[iv p0, iv p1, iv p2, .unset, .unset, .unset, .unset] []))
  have N0 := Fr.nil n0
  refine own_st (fun _ k => XS.iloadN X.here hx rfl (hb hby at_0) rfl  k) ?_
  show own_Goes p e below s _ _ (T.setTop (mkF m 1 #[iv p0, iv p1, iv p2, .unset, .unset, .unset, .unset] [(.int p1)]))
  refine own_st (fun _ k => XS.iconst X.here hx rfl (hb hby at_1) k) ?_
  show own_Goes p e below s _ _ (T.setTop (mkF m 2 #[iv p0, iv p1, iv p2, .unset, .unset, .unset, .unset] [(.int (1 : Int32)), (.int p1)]))
  refine own_st (fun _ k => XS.iand X.here hx rfl (hb hby at_2) rfl k) ?_
  show own_Goes p e below s _ _ (T.setTop (mkF m 3 #[iv p0, iv p1, iv p2, .unset, .unset, .unset, .unset] [(.int (p1 &&& (1 : Int32)))]))
  by_cases c1 : (p1 &&& (1 : Int32)) = (0 : Int32)
  · have c1i : (p1 &&& (1 : Int32)).toInt = 0 := own_i_eq c1
    refine own_st (fun _ k => XS.ifNo X.here hx rfl (hb hby at_3) rfl ((if0 _ _).trans (teq c1).2) k) ?_
    show own_Goes p e below s _ _ (T.setTop (mkF m 6 #[iv p0, iv p1, iv p2, .unset, .unset, .unset, .unset] []))
    refine own_st (fun _ k => XS.iloadN X.here hx rfl (hb hby at_6) rfl  k) ?_
    show own_Goes p e below s _ _ (T.setTop (mkF m 7 #[iv p0, iv p1, iv p2, .unset, .unset, .unset, .unset] [(.int p0)]))
    refine own_st (fun _ k => X.ldcInt hx hown (mvT hZ (hw _ (List.mem_of_getElem? (i := 23) rfl))) (g := (mkF m 7 #[iv p0, iv p1, iv p2, .unset, .unset, .unset, .unset] [(.int p0)])) rfl (hb hby at_7) _ k) ?_
    show own_Goes p e below s _ _ (T.setTop (mkF m 9 #[iv p0, iv p1, iv p2, .unset, .unset, .unset, .unset] [(.int (2147483647 : Int32)), (.int p0)]))
    refine own_st (fun _ k => XS.iand X.here hx rfl (hb hby at_9) rfl k) ?_
    show own_Goes p e below s _ _ (T.setTop (mkF m 10 #[iv p0, iv p1, iv p2, .unset, .unset, .unset, .unset] [(.int (p0 &&& (2147483647 : Int32)))]))
    refine own_st (fun _ k => X.ldcInt hx hown (mvT hZ (hw _ (List.mem_of_getElem? (i := 24) rfl))) (g := (mkF m 10 #[iv p0, iv p1, iv p2, .unset, .unset, .unset, .unset] [(.int (p0 &&& (2147483647 : Int32)))])) rfl (hb hby at_10) _ k) ?_
    show own_Goes p e below s _ _ (T.setTop (mkF m 12 #[iv p0, iv p1, iv p2, .unset, .unset, .unset, .unset] [(.int (1114112 : Int32)), (.int (p0 &&& (2147483647 : Int32)))]))
    refine own_st (fun _ k => iremM X hx rfl (hb hby at_12) rfl (by decide) k) ?_
    show own_Goes p e below s _ _ (T.setTop (mkF m 13 #[iv p0, iv p1, iv p2, .unset, .unset, .unset, .unset] [(.int ((p0 &&& (2147483647 : Int32)) % (1114112 : Int32)))]))
    refine own_st (fun _ k => XS.istoreN X.here hx rfl (hb hby at_13) rfl (l' := #[iv p0, iv p1, iv p2, iv ((p0 &&& (2147483647 : Int32)) % (1114112 : Int32)), .unset, .unset, .unset]) rfl k) ?_
    show own_Goes p e below s _ _ (T.setTop (mkF m 14 #[iv p0, iv p1, iv p2, iv ((p0 &&& (2147483647 : Int32)) % (1114112 : Int32)), .unset, .unset, .unset] []))
    refine own_st (fun _ k => XS.goto X.here hx rfl (pc0 := 14) (pc' := 105) rfl (hb hby at_14) (by decide) (by decide) k) ?_
    show own_Goes p e below s _ _ (T.setTop (mkF m 105 #[iv p0, iv p1, iv p2, iv ((p0 &&& (2147483647 : Int32)) % (1114112 : Int32)), .unset, .unset, .unset] []))
    generalize ((p0 &&& (2147483647 : Int32)) % (1114112 : Int32)) = c0
    show own_Goes p e below s _ _ (T.setTop (mkF m 105 #[iv p0, iv p1, iv p2, iv c0, .unset, .unset, .unset] []))
    refine own_st (fun _ k => XS.iloadN X.here hx rfl (hb hby at_105) rfl  k) ?_
    show own_Goes p e below s _ _ (T.setTop (mkF m 106 #[iv p0, iv p1, iv p2, iv c0, .unset, .unset, .unset] [(.int c0)]))
    obtain ⟨v2, T2, L2, X2, Q2, st2⟩ := own_callS X hx hZ (y := (⟨"com/example/footprint_to_feed/footprinttofeed/XmlDocument", "isXmlChar", "(I)Z"⟩ : MethodName)) hown (hw _ (List.mem_of_getElem? (i := 13) rfl)) (hw _ (List.mem_of_getElem? (i := 14) rfl)) (hw _ (List.mem_of_getElem? (i := 15) rfl)) (hw _ (List.mem_of_getElem? (i := 16) rfl)) (by decide) (W := 0) (rest := []) (argsL := [(.int c0)]) (rmX l Z a0 hw [] c0 h0 n0 (by omega)) (by decide) (by decide) (by decide) (by decide) e0 own_pd0 rfl (g := (mkF m 106 #[iv p0, iv p1, iv p2, iv c0, .unset, .unset, .unset] [(.int c0)])) rfl (by rw [hml]; rfl) rfl (by show 2 * 0 + _ ≤ _; exact Nat.le_of_eq rfl) (hb hby at_106)
    obtain ⟨r2, rfl, hr2, N2q, e2⟩ := Q2
    have N2 := Fr.app N0 N2q
    refine own_st st2 ?_
    show own_Goes p e below s _ _ (T2.setTop (mkF m 109 #[iv p0, iv p1, iv p2, iv c0, .unset, .unset, .unset] [(.int r2)]))
    refine own_st (fun _ k => XS.iloadN X2.here hx rfl (hb hby at_109) rfl  k) ?_
    show own_Goes p e below s _ _ (T2.setTop (mkF m 110 #[iv p0, iv p1, iv p2, iv c0, .unset, .unset, .unset] [(.int c0), (.int r2)]))
    obtain ⟨v3, T3, L3, X3, Q3, st3⟩ := own_callS X2 hx hZ (y := (⟨"com/example/footprint_to_feed/footprinttofeed/XmlDocumentIsXmlCharPinLaw", "expected", "(I)Z"⟩ : MethodName)) hown (hw _ (List.mem_of_getElem? (i := 19) rfl)) (hw _ (List.mem_of_getElem? (i := 20) rfl)) (hw _ (List.mem_of_getElem? (i := 21) rfl)) (hw _ (List.mem_of_getElem? (i := 22) rfl)) (by decide) (W := 1) (rest := [(.int r2)]) (argsL := [(.int c0)]) (rmE l Z a0 hw [] c0 h0 n0 (by omega)) (by decide) (by decide) (by decide) (by decide) e2 own_pd0 rfl (g := (mkF m 110 #[iv p0, iv p1, iv p2, iv c0, .unset, .unset, .unset] [(.int c0), (.int r2)])) rfl (by rw [hml]; rfl) rfl (by show 2 * 0 + _ ≤ _; exact Nat.le_of_eq rfl) (hb hby at_110)
    obtain ⟨r3, rfl, hr3, N3q, e3⟩ := Q3
    have N3 := Fr.app N2 N3q
    refine own_st st3 ?_
    show own_Goes p e below s _ _ (T3.setTop (mkF m 113 #[iv p0, iv p1, iv p2, iv c0, .unset, .unset, .unset] [(.int r3), (.int r2)]))
    by_cases c4 : r2 = r3
    · have c4i : r2.toInt = r3.toInt := own_i_eq c4
      refine own_st (fun _ k => XS.icmpNo X3.here hx rfl (hb hby at_113) rfl (teq c4).2 k) ?_
      show own_Goes p e below s _ _ (T3.setTop (mkF m 116 #[iv p0, iv p1, iv p2, iv c0, .unset, .unset, .unset] []))
      refine own_st (fun _ k => XS.iconst X3.here hx rfl (hb hby at_116) k) ?_
      show own_Goes p e below s _ _ (T3.setTop (mkF m 117 #[iv p0, iv p1, iv p2, iv c0, .unset, .unset, .unset] [(.int (1 : Int32))]))
      refine own_st (fun _ k => XS.goto X3.here hx rfl (pc0 := 117) (pc' := 121) rfl (hb hby at_117) (by decide) (by decide) k) ?_
      show own_Goes p e below s _ _ (T3.setTop (mkF m 121 #[iv p0, iv p1, iv p2, iv c0, .unset, .unset, .unset] [(.int (1 : Int32))]))
      exact own_retN X3 hx hlk (1 : Int32) hret (Or.inl rfl) rfl (hb hby at_121) (by decide) (by decide) ⟨rfl, N3⟩
    · have c4i : ¬ r2.toInt = r3.toInt := own_i_ne c4
      exfalso; omega
  · have c1i : ¬ (p1 &&& (1 : Int32)).toInt = 0 := own_i_ne c1
    refine own_st (fun _ k => XS.ifYes X.here hx rfl (pc0 := 3) (pc' := 17) rfl (hb hby at_3) rfl ((if0 _ _).trans (feq c1).2) (by decide) (by decide) k) ?_
    show own_Goes p e below s _ _ (T.setTop (mkF m 17 #[iv p0, iv p1, iv p2, .unset, .unset, .unset, .unset] []))
    refine own_st (fun _ k => XS.bipush X.here hx rfl (hb hby at_17) k) ?_
    show own_Goes p e below s _ _ (T.setTop (mkF m 19 #[iv p0, iv p1, iv p2, .unset, .unset, .unset, .unset] [(.int (9 : Int32))]))
    obtain ⟨T5, h5, X5, e5, E5, A5, st5⟩ := own_newP X hx hZ (aty := .int) (hw _ (List.mem_of_getElem? (i := 0) rfl)) e0 (g := (mkF m 19 #[iv p0, iv p1, iv p2, .unset, .unset, .unset, .unset] [(.int (9 : Int32))])) rfl (hb hby at_19) rfl (by decide) (cap := 9) (by decide) (by decide) (by decide) (by decide)
    obtain ⟨b5, g5⟩ : ∃ z, z = h0.size := ⟨_, rfl⟩
    rw [← g5] at A5 st5
    have V5 : own_Arf Z h5 b5 .int 9 (fun k => .int ((fun _ => (0 : Int32)) k)) := A5
    have y5 := V5.lt
    have z5 := E5.1
    refine own_st st5 ?_
    show own_Goes p e below s _ _ (T5.setTop (mkF m 21 #[iv p0, iv p1, iv p2, .unset, .unset, .unset, .unset] [(.ref b5)]))
    refine own_st (fun _ k => XS.dup X5.here hx rfl (hb hby at_21) rfl rfl k) ?_
    show own_Goes p e below s _ _ (T5.setTop (mkF m 22 #[iv p0, iv p1, iv p2, .unset, .unset, .unset, .unset] [(.ref b5), (.ref b5)]))
    refine own_st (fun _ k => XS.iconst X5.here hx rfl (hb hby at_22) k) ?_
    show own_Goes p e below s _ _ (T5.setTop (mkF m 23 #[iv p0, iv p1, iv p2, .unset, .unset, .unset, .unset] [(.int (0 : Int32)), (.ref b5), (.ref b5)]))
    refine own_st (fun _ k => XS.iconst X5.here hx rfl (hb hby at_23) k) ?_
    show own_Goes p e below s _ _ (T5.setTop (mkF m 24 #[iv p0, iv p1, iv p2, .unset, .unset, .unset, .unset] [(.int (0 : Int32)), (.int (0 : Int32)), (.ref b5), (.ref b5)]))
    obtain ⟨T6, h6, X6, e6, W6, A6, st6⟩ := own_stI X5 hx hZ e5 V5 (j := (0 : Int32)) (by decide) (g := (mkF m 24 #[iv p0, iv p1, iv p2, .unset, .unset, .unset, .unset] [(.int (0 : Int32)), (.int (0 : Int32)), (.ref b5), (.ref b5)])) rfl rfl (hb hby at_24)
    have V6 : own_Arf Z h6 b5 .int 9 (fun k => .int ((fun k => if k = 0 then (0 : Int32) else (fun _ => (0 : Int32)) k) k)) := A6
    have z6 := W6.size
    have N6 := Fr.snoc X6 N0 (by omega)
    refine own_st st6 ?_
    show own_Goes p e below s _ _ (T6.setTop (mkF m 25 #[iv p0, iv p1, iv p2, .unset, .unset, .unset, .unset] [(.ref b5)]))
    refine own_st (fun _ k => XS.dup X6.here hx rfl (hb hby at_25) rfl rfl k) ?_
    show own_Goes p e below s _ _ (T6.setTop (mkF m 26 #[iv p0, iv p1, iv p2, .unset, .unset, .unset, .unset] [(.ref b5), (.ref b5)]))
    refine own_st (fun _ k => XS.iconst X6.here hx rfl (hb hby at_26) k) ?_
    show own_Goes p e below s _ _ (T6.setTop (mkF m 27 #[iv p0, iv p1, iv p2, .unset, .unset, .unset, .unset] [(.int (1 : Int32)), (.ref b5), (.ref b5)]))
    refine own_st (fun _ k => XS.bipush X6.here hx rfl (hb hby at_27) k) ?_
    show own_Goes p e below s _ _ (T6.setTop (mkF m 29 #[iv p0, iv p1, iv p2, .unset, .unset, .unset, .unset] [(.int (9 : Int32)), (.int (1 : Int32)), (.ref b5), (.ref b5)]))
    obtain ⟨T7, h7, X7, e7, W7, A7, st7⟩ := own_stI X6 hx hZ e6 V6 (j := (1 : Int32)) (by decide) (g := (mkF m 29 #[iv p0, iv p1, iv p2, .unset, .unset, .unset, .unset] [(.int (9 : Int32)), (.int (1 : Int32)), (.ref b5), (.ref b5)])) rfl rfl (hb hby at_29)
    have V7 : own_Arf Z h7 b5 .int 9 (fun k => .int ((fun k => if k = 1 then (9 : Int32) else (fun k => if k = 0 then (0 : Int32) else (fun _ => (0 : Int32)) k) k) k)) := A7
    have z7 := W7.size
    have N7 := Fr.snoc X7 N6 (by omega)
    refine own_st st7 ?_
    show own_Goes p e below s _ _ (T7.setTop (mkF m 30 #[iv p0, iv p1, iv p2, .unset, .unset, .unset, .unset] [(.ref b5)]))
    refine own_st (fun _ k => XS.dup X7.here hx rfl (hb hby at_30) rfl rfl k) ?_
    show own_Goes p e below s _ _ (T7.setTop (mkF m 31 #[iv p0, iv p1, iv p2, .unset, .unset, .unset, .unset] [(.ref b5), (.ref b5)]))
    refine own_st (fun _ k => XS.iconst X7.here hx rfl (hb hby at_31) k) ?_
    show own_Goes p e below s _ _ (T7.setTop (mkF m 32 #[iv p0, iv p1, iv p2, .unset, .unset, .unset, .unset] [(.int (2 : Int32)), (.ref b5), (.ref b5)]))
    refine own_st (fun _ k => XS.bipush X7.here hx rfl (hb hby at_32) k) ?_
    show own_Goes p e below s _ _ (T7.setTop (mkF m 34 #[iv p0, iv p1, iv p2, .unset, .unset, .unset, .unset] [(.int (13 : Int32)), (.int (2 : Int32)), (.ref b5), (.ref b5)]))
    obtain ⟨T8, h8, X8, e8, W8, A8, st8⟩ := own_stI X7 hx hZ e7 V7 (j := (2 : Int32)) (by decide) (g := (mkF m 34 #[iv p0, iv p1, iv p2, .unset, .unset, .unset, .unset] [(.int (13 : Int32)), (.int (2 : Int32)), (.ref b5), (.ref b5)])) rfl rfl (hb hby at_34)
    have V8 : own_Arf Z h8 b5 .int 9 (fun k => .int ((fun k => if k = 2 then (13 : Int32) else (fun k => if k = 1 then (9 : Int32) else (fun k => if k = 0 then (0 : Int32) else (fun _ => (0 : Int32)) k) k) k) k)) := A8
    have z8 := W8.size
    have N8 := Fr.snoc X8 N7 (by omega)
    refine own_st st8 ?_
    show own_Goes p e below s _ _ (T8.setTop (mkF m 35 #[iv p0, iv p1, iv p2, .unset, .unset, .unset, .unset] [(.ref b5)]))
    refine own_st (fun _ k => XS.dup X8.here hx rfl (hb hby at_35) rfl rfl k) ?_
    show own_Goes p e below s _ _ (T8.setTop (mkF m 36 #[iv p0, iv p1, iv p2, .unset, .unset, .unset, .unset] [(.ref b5), (.ref b5)]))
    refine own_st (fun _ k => XS.iconst X8.here hx rfl (hb hby at_36) k) ?_
    show own_Goes p e below s _ _ (T8.setTop (mkF m 37 #[iv p0, iv p1, iv p2, .unset, .unset, .unset, .unset] [(.int (3 : Int32)), (.ref b5), (.ref b5)]))
    refine own_st (fun _ k => XS.bipush X8.here hx rfl (hb hby at_37) k) ?_
    show own_Goes p e below s _ _ (T8.setTop (mkF m 39 #[iv p0, iv p1, iv p2, .unset, .unset, .unset, .unset] [(.int (32 : Int32)), (.int (3 : Int32)), (.ref b5), (.ref b5)]))
    obtain ⟨T9, h9, X9, e9, W9, A9, st9⟩ := own_stI X8 hx hZ e8 V8 (j := (3 : Int32)) (by decide) (g := (mkF m 39 #[iv p0, iv p1, iv p2, .unset, .unset, .unset, .unset] [(.int (32 : Int32)), (.int (3 : Int32)), (.ref b5), (.ref b5)])) rfl rfl (hb hby at_39)
    have V9 : own_Arf Z h9 b5 .int 9 (fun k => .int ((fun k => if k = 3 then (32 : Int32) else (fun k => if k = 2 then (13 : Int32) else (fun k => if k = 1 then (9 : Int32) else (fun k => if k = 0 then (0 : Int32) else (fun _ => (0 : Int32)) k) k) k) k) k)) := A9
    have z9 := W9.size
    have N9 := Fr.snoc X9 N8 (by omega)
    refine own_st st9 ?_
    show own_Goes p e below s _ _ (T9.setTop (mkF m 40 #[iv p0, iv p1, iv p2, .unset, .unset, .unset, .unset] [(.ref b5)]))
    refine own_st (fun _ k => XS.dup X9.here hx rfl (hb hby at_40) rfl rfl k) ?_
    show own_Goes p e below s _ _ (T9.setTop (mkF m 41 #[iv p0, iv p1, iv p2, .unset, .unset, .unset, .unset] [(.ref b5), (.ref b5)]))
    refine own_st (fun _ k => XS.iconst X9.here hx rfl (hb hby at_41) k) ?_
    show own_Goes p e below s _ _ (T9.setTop (mkF m 42 #[iv p0, iv p1, iv p2, .unset, .unset, .unset, .unset] [(.int (4 : Int32)), (.ref b5), (.ref b5)]))
    refine own_st (fun _ k => X9.ldcInt hx hown (mvT hZ (hw _ (List.mem_of_getElem? (i := 1) rfl))) (g := (mkF m 42 #[iv p0, iv p1, iv p2, .unset, .unset, .unset, .unset] [(.int (4 : Int32)), (.ref b5), (.ref b5)])) rfl (hb hby at_42) _ k) ?_
    show own_Goes p e below s _ _ (T9.setTop (mkF m 44 #[iv p0, iv p1, iv p2, .unset, .unset, .unset, .unset] [(.int (55295 : Int32)), (.int (4 : Int32)), (.ref b5), (.ref b5)]))
    obtain ⟨T10, h10, X10, e10, W10, A10, st10⟩ := own_stI X9 hx hZ e9 V9 (j := (4 : Int32)) (by decide) (g := (mkF m 44 #[iv p0, iv p1, iv p2, .unset, .unset, .unset, .unset] [(.int (55295 : Int32)), (.int (4 : Int32)), (.ref b5), (.ref b5)])) rfl rfl (hb hby at_44)
    have V10 : own_Arf Z h10 b5 .int 9 (fun k => .int ((fun k => if k = 4 then (55295 : Int32) else (fun k => if k = 3 then (32 : Int32) else (fun k => if k = 2 then (13 : Int32) else (fun k => if k = 1 then (9 : Int32) else (fun k => if k = 0 then (0 : Int32) else (fun _ => (0 : Int32)) k) k) k) k) k) k)) := A10
    have z10 := W10.size
    have N10 := Fr.snoc X10 N9 (by omega)
    refine own_st st10 ?_
    show own_Goes p e below s _ _ (T10.setTop (mkF m 45 #[iv p0, iv p1, iv p2, .unset, .unset, .unset, .unset] [(.ref b5)]))
    refine own_st (fun _ k => XS.dup X10.here hx rfl (hb hby at_45) rfl rfl k) ?_
    show own_Goes p e below s _ _ (T10.setTop (mkF m 46 #[iv p0, iv p1, iv p2, .unset, .unset, .unset, .unset] [(.ref b5), (.ref b5)]))
    refine own_st (fun _ k => XS.iconst X10.here hx rfl (hb hby at_46) k) ?_
    show own_Goes p e below s _ _ (T10.setTop (mkF m 47 #[iv p0, iv p1, iv p2, .unset, .unset, .unset, .unset] [(.int (5 : Int32)), (.ref b5), (.ref b5)]))
    refine own_st (fun _ k => X10.ldcInt hx hown (mvT hZ (hw _ (List.mem_of_getElem? (i := 2) rfl))) (g := (mkF m 47 #[iv p0, iv p1, iv p2, .unset, .unset, .unset, .unset] [(.int (5 : Int32)), (.ref b5), (.ref b5)])) rfl (hb hby at_47) _ k) ?_
    show own_Goes p e below s _ _ (T10.setTop (mkF m 49 #[iv p0, iv p1, iv p2, .unset, .unset, .unset, .unset] [(.int (57344 : Int32)), (.int (5 : Int32)), (.ref b5), (.ref b5)]))
    obtain ⟨T11, h11, X11, e11, W11, A11, st11⟩ := own_stI X10 hx hZ e10 V10 (j := (5 : Int32)) (by decide) (g := (mkF m 49 #[iv p0, iv p1, iv p2, .unset, .unset, .unset, .unset] [(.int (57344 : Int32)), (.int (5 : Int32)), (.ref b5), (.ref b5)])) rfl rfl (hb hby at_49)
    have V11 : own_Arf Z h11 b5 .int 9 (fun k => .int ((fun k => if k = 5 then (57344 : Int32) else (fun k => if k = 4 then (55295 : Int32) else (fun k => if k = 3 then (32 : Int32) else (fun k => if k = 2 then (13 : Int32) else (fun k => if k = 1 then (9 : Int32) else (fun k => if k = 0 then (0 : Int32) else (fun _ => (0 : Int32)) k) k) k) k) k) k) k)) := A11
    have z11 := W11.size
    have N11 := Fr.snoc X11 N10 (by omega)
    refine own_st st11 ?_
    show own_Goes p e below s _ _ (T11.setTop (mkF m 50 #[iv p0, iv p1, iv p2, .unset, .unset, .unset, .unset] [(.ref b5)]))
    refine own_st (fun _ k => XS.dup X11.here hx rfl (hb hby at_50) rfl rfl k) ?_
    show own_Goes p e below s _ _ (T11.setTop (mkF m 51 #[iv p0, iv p1, iv p2, .unset, .unset, .unset, .unset] [(.ref b5), (.ref b5)]))
    refine own_st (fun _ k => XS.bipush X11.here hx rfl (hb hby at_51) k) ?_
    show own_Goes p e below s _ _ (T11.setTop (mkF m 53 #[iv p0, iv p1, iv p2, .unset, .unset, .unset, .unset] [(.int (6 : Int32)), (.ref b5), (.ref b5)]))
    refine own_st (fun _ k => X11.ldcInt hx hown (mvT hZ (hw _ (List.mem_of_getElem? (i := 3) rfl))) (g := (mkF m 53 #[iv p0, iv p1, iv p2, .unset, .unset, .unset, .unset] [(.int (6 : Int32)), (.ref b5), (.ref b5)])) rfl (hb hby at_53) _ k) ?_
    show own_Goes p e below s _ _ (T11.setTop (mkF m 55 #[iv p0, iv p1, iv p2, .unset, .unset, .unset, .unset] [(.int (65533 : Int32)), (.int (6 : Int32)), (.ref b5), (.ref b5)]))
    obtain ⟨T12, h12, X12, e12, W12, A12, st12⟩ := own_stI X11 hx hZ e11 V11 (j := (6 : Int32)) (by decide) (g := (mkF m 55 #[iv p0, iv p1, iv p2, .unset, .unset, .unset, .unset] [(.int (65533 : Int32)), (.int (6 : Int32)), (.ref b5), (.ref b5)])) rfl rfl (hb hby at_55)
    have V12 : own_Arf Z h12 b5 .int 9 (fun k => .int ((fun k => if k = 6 then (65533 : Int32) else (fun k => if k = 5 then (57344 : Int32) else (fun k => if k = 4 then (55295 : Int32) else (fun k => if k = 3 then (32 : Int32) else (fun k => if k = 2 then (13 : Int32) else (fun k => if k = 1 then (9 : Int32) else (fun k => if k = 0 then (0 : Int32) else (fun _ => (0 : Int32)) k) k) k) k) k) k) k) k)) := A12
    have z12 := W12.size
    have N12 := Fr.snoc X12 N11 (by omega)
    refine own_st st12 ?_
    show own_Goes p e below s _ _ (T12.setTop (mkF m 56 #[iv p0, iv p1, iv p2, .unset, .unset, .unset, .unset] [(.ref b5)]))
    refine own_st (fun _ k => XS.dup X12.here hx rfl (hb hby at_56) rfl rfl k) ?_
    show own_Goes p e below s _ _ (T12.setTop (mkF m 57 #[iv p0, iv p1, iv p2, .unset, .unset, .unset, .unset] [(.ref b5), (.ref b5)]))
    refine own_st (fun _ k => XS.bipush X12.here hx rfl (hb hby at_57) k) ?_
    show own_Goes p e below s _ _ (T12.setTop (mkF m 59 #[iv p0, iv p1, iv p2, .unset, .unset, .unset, .unset] [(.int (7 : Int32)), (.ref b5), (.ref b5)]))
    refine own_st (fun _ k => X12.ldcInt hx hown (mvT hZ (hw _ (List.mem_of_getElem? (i := 4) rfl))) (g := (mkF m 59 #[iv p0, iv p1, iv p2, .unset, .unset, .unset, .unset] [(.int (7 : Int32)), (.ref b5), (.ref b5)])) rfl (hb hby at_59) _ k) ?_
    show own_Goes p e below s _ _ (T12.setTop (mkF m 61 #[iv p0, iv p1, iv p2, .unset, .unset, .unset, .unset] [(.int (65536 : Int32)), (.int (7 : Int32)), (.ref b5), (.ref b5)]))
    obtain ⟨T13, h13, X13, e13, W13, A13, st13⟩ := own_stI X12 hx hZ e12 V12 (j := (7 : Int32)) (by decide) (g := (mkF m 61 #[iv p0, iv p1, iv p2, .unset, .unset, .unset, .unset] [(.int (65536 : Int32)), (.int (7 : Int32)), (.ref b5), (.ref b5)])) rfl rfl (hb hby at_61)
    have V13 : own_Arf Z h13 b5 .int 9 (fun k => .int ((fun k => if k = 7 then (65536 : Int32) else (fun k => if k = 6 then (65533 : Int32) else (fun k => if k = 5 then (57344 : Int32) else (fun k => if k = 4 then (55295 : Int32) else (fun k => if k = 3 then (32 : Int32) else (fun k => if k = 2 then (13 : Int32) else (fun k => if k = 1 then (9 : Int32) else (fun k => if k = 0 then (0 : Int32) else (fun _ => (0 : Int32)) k) k) k) k) k) k) k) k) k)) := A13
    have z13 := W13.size
    have N13 := Fr.snoc X13 N12 (by omega)
    refine own_st st13 ?_
    show own_Goes p e below s _ _ (T13.setTop (mkF m 62 #[iv p0, iv p1, iv p2, .unset, .unset, .unset, .unset] [(.ref b5)]))
    refine own_st (fun _ k => XS.dup X13.here hx rfl (hb hby at_62) rfl rfl k) ?_
    show own_Goes p e below s _ _ (T13.setTop (mkF m 63 #[iv p0, iv p1, iv p2, .unset, .unset, .unset, .unset] [(.ref b5), (.ref b5)]))
    refine own_st (fun _ k => XS.bipush X13.here hx rfl (hb hby at_63) k) ?_
    show own_Goes p e below s _ _ (T13.setTop (mkF m 65 #[iv p0, iv p1, iv p2, .unset, .unset, .unset, .unset] [(.int (8 : Int32)), (.ref b5), (.ref b5)]))
    refine own_st (fun _ k => X13.ldcInt hx hown (mvT hZ (hw _ (List.mem_of_getElem? (i := 5) rfl))) (g := (mkF m 65 #[iv p0, iv p1, iv p2, .unset, .unset, .unset, .unset] [(.int (8 : Int32)), (.ref b5), (.ref b5)])) rfl (hb hby at_65) _ k) ?_
    show own_Goes p e below s _ _ (T13.setTop (mkF m 67 #[iv p0, iv p1, iv p2, .unset, .unset, .unset, .unset] [(.int (1114111 : Int32)), (.int (8 : Int32)), (.ref b5), (.ref b5)]))
    obtain ⟨T14, h14, X14, e14, W14, A14, st14⟩ := own_stI X13 hx hZ e13 V13 (j := (8 : Int32)) (by decide) (g := (mkF m 67 #[iv p0, iv p1, iv p2, .unset, .unset, .unset, .unset] [(.int (1114111 : Int32)), (.int (8 : Int32)), (.ref b5), (.ref b5)])) rfl rfl (hb hby at_67)
    have V14 : own_Arf Z h14 b5 .int 9 (fun k => .int ((fun k => if k = 8 then (1114111 : Int32) else (fun k => if k = 7 then (65536 : Int32) else (fun k => if k = 6 then (65533 : Int32) else (fun k => if k = 5 then (57344 : Int32) else (fun k => if k = 4 then (55295 : Int32) else (fun k => if k = 3 then (32 : Int32) else (fun k => if k = 2 then (13 : Int32) else (fun k => if k = 1 then (9 : Int32) else (fun k => if k = 0 then (0 : Int32) else (fun _ => (0 : Int32)) k) k) k) k) k) k) k) k) k) k)) := A14
    have z14 := W14.size
    have N14 := Fr.snoc X14 N13 (by omega)
    refine own_st st14 ?_
    show own_Goes p e below s _ _ (T14.setTop (mkF m 68 #[iv p0, iv p1, iv p2, .unset, .unset, .unset, .unset] [(.ref b5)]))
    refine own_st (fun _ k => XS.astore X14.here hx rfl (hb hby at_68) rfl rfl (l' := #[iv p0, iv p1, iv p2, .unset, rv b5, .unset, .unset]) rfl k) ?_
    show own_Goes p e below s _ _ (T14.setTop (mkF m 70 #[iv p0, iv p1, iv p2, .unset, rv b5, .unset, .unset] []))
    refine own_st (fun _ k => XS.iloadN X14.here hx rfl (hb hby at_70) rfl  k) ?_
    show own_Goes p e below s _ _ (T14.setTop (mkF m 71 #[iv p0, iv p1, iv p2, .unset, rv b5, .unset, .unset] [(.int p1)]))
    refine own_st (fun _ k => XS.iconst X14.here hx rfl (hb hby at_71) k) ?_
    show own_Goes p e below s _ _ (T14.setTop (mkF m 72 #[iv p0, iv p1, iv p2, .unset, rv b5, .unset, .unset] [(.int (1 : Int32)), (.int p1)]))
    refine own_st (fun _ k => XS.iushr X14.here hx rfl (hb hby at_72) rfl k) ?_
    show own_Goes p e below s _ _ (T14.setTop (mkF m 73 #[iv p0, iv p1, iv p2, .unset, rv b5, .unset, .unset] [(.int ((p1.toUInt32 >>> ((1 : Int32) &&& 31).toUInt32).toInt32))]))
    refine own_st (fun _ k => XS.aload X14.here hx rfl (hb hby at_73) rfl rfl  k) ?_
    show own_Goes p e below s _ _ (T14.setTop (mkF m 75 #[iv p0, iv p1, iv p2, .unset, rv b5, .unset, .unset] [(.ref b5), (.int ((p1.toUInt32 >>> ((1 : Int32) &&& 31).toUInt32).toInt32))]))
    refine own_st (fun _ k => own_len X14 hx hZ e14 V14 (g := (mkF m 75 #[iv p0, iv p1, iv p2, .unset, rv b5, .unset, .unset] [(.ref b5), (.int ((p1.toUInt32 >>> ((1 : Int32) &&& 31).toUInt32).toInt32))])) rfl rfl (hb hby at_75) _ k) ?_
    show own_Goes p e below s _ _ (T14.setTop (mkF m 76 #[iv p0, iv p1, iv p2, .unset, rv b5, .unset, .unset] [(.int (9 : Int32)), (.int ((p1.toUInt32 >>> ((1 : Int32) &&& 31).toUInt32).toInt32))]))
    refine own_st (fun _ k => iremM X14 hx rfl (hb hby at_76) rfl (by decide) k) ?_
    show own_Goes p e below s _ _ (T14.setTop (mkF m 77 #[iv p0, iv p1, iv p2, .unset, rv b5, .unset, .unset] [(.int (((p1.toUInt32 >>> ((1 : Int32) &&& 31).toUInt32).toInt32) % (9 : Int32)))]))
    have hi := own_rem9 p1
    generalize (((p1.toUInt32 >>> ((1 : Int32) &&& 31).toUInt32).toInt32) % (9 : Int32)) = i9 at hi ⊢
    show own_Goes p e below s _ _ (T14.setTop (mkF m 77 #[iv p0, iv p1, iv p2, .unset, rv b5, .unset, .unset] [(.int i9)]))
    refine own_st (fun _ k => XS.istore X14.here hx rfl (hb hby at_77) rfl (l' := #[iv p0, iv p1, iv p2, .unset, rv b5, iv i9, .unset]) rfl k) ?_
    show own_Goes p e below s _ _ (T14.setTop (mkF m 79 #[iv p0, iv p1, iv p2, .unset, rv b5, iv i9, .unset] []))
    refine own_st (fun _ k => XS.aload X14.here hx rfl (hb hby at_79) rfl rfl  k) ?_
    show own_Goes p e below s _ _ (T14.setTop (mkF m 81 #[iv p0, iv p1, iv p2, .unset, rv b5, iv i9, .unset] [(.ref b5)]))
    refine own_st (fun _ k => XS.iload X14.here hx rfl (hb hby at_81) rfl  k) ?_
    show own_Goes p e below s _ _ (T14.setTop (mkF m 83 #[iv p0, iv p1, iv p2, .unset, rv b5, iv i9, .unset] [(.int i9), (.ref b5)]))
    refine own_st (fun _ k => own_ldI X14 hx hZ e14 V14 (j := i9) ⟨hi.1, hi.2⟩ (g := (mkF m 83 #[iv p0, iv p1, iv p2, .unset, rv b5, iv i9, .unset] [(.int i9), (.ref b5)])) rfl rfl (hb hby at_83) _ k) ?_
    show own_Goes p e below s _ _ (T14.setTop (mkF m 84 #[iv p0, iv p1, iv p2, .unset, rv b5, iv i9, .unset] [(.int ((fun k => if k = 8 then (1114111 : Int32) else (fun k => if k = 7 then (65536 : Int32) else (fun k => if k = 6 then (65533 : Int32) else (fun k => if k = 5 then (57344 : Int32) else (fun k => if k = 4 then (55295 : Int32) else (fun k => if k = 3 then (32 : Int32) else (fun k => if k = 2 then (13 : Int32) else (fun k => if k = 1 then (9 : Int32) else (fun k => if k = 0 then (0 : Int32) else (fun _ => (0 : Int32)) k) k) k) k) k) k) k) k) k) (i9).toNatClampNeg))]))
    generalize ((fun k => if k = 8 then (1114111 : Int32) else (fun k => if k = 7 then (65536 : Int32) else (fun k => if k = 6 then (65533 : Int32) else (fun k => if k = 5 then (57344 : Int32) else (fun k => if k = 4 then (55295 : Int32) else (fun k => if k = 3 then (32 : Int32) else (fun k => if k = 2 then (13 : Int32) else (fun k => if k = 1 then (9 : Int32) else (fun k => if k = 0 then (0 : Int32) else (fun _ => (0 : Int32)) k) k) k) k) k) k) k) k) k) (i9).toNatClampNeg) = u9
    show own_Goes p e below s _ _ (T14.setTop (mkF m 84 #[iv p0, iv p1, iv p2, .unset, rv b5, iv i9, .unset] [(.int u9)]))
    refine own_st (fun _ k => XS.iloadN X14.here hx rfl (hb hby at_84) rfl  k) ?_
    show own_Goes p e below s _ _ (T14.setTop (mkF m 85 #[iv p0, iv p1, iv p2, .unset, rv b5, iv i9, .unset] [(.int p2), (.int u9)]))
    refine own_st (fun _ k => XS.bipush X14.here hx rfl (hb hby at_85) k) ?_
    show own_Goes p e below s _ _ (T14.setTop (mkF m 87 #[iv p0, iv p1, iv p2, .unset, rv b5, iv i9, .unset] [(.int (7 : Int32)), (.int p2), (.int u9)]))
    refine own_st (fun _ k => XS.iand X14.here hx rfl (hb hby at_87) rfl k) ?_
    show own_Goes p e below s _ _ (T14.setTop (mkF m 88 #[iv p0, iv p1, iv p2, .unset, rv b5, iv i9, .unset] [(.int (p2 &&& (7 : Int32))), (.int u9)]))
    refine own_st (fun _ k => XS.iconst X14.here hx rfl (hb hby at_88) k) ?_
    show own_Goes p e below s _ _ (T14.setTop (mkF m 89 #[iv p0, iv p1, iv p2, .unset, rv b5, iv i9, .unset] [(.int (4 : Int32)), (.int (p2 &&& (7 : Int32))), (.int u9)]))
    refine own_st (fun _ k => XS.isub X14.here hx rfl (hb hby at_89) rfl k) ?_
    show own_Goes p e below s _ _ (T14.setTop (mkF m 90 #[iv p0, iv p1, iv p2, .unset, rv b5, iv i9, .unset] [(.int ((p2 &&& (7 : Int32)) - (4 : Int32))), (.int u9)]))
    refine own_st (fun _ k => XS.iadd X14.here hx rfl (hb hby at_90) rfl k) ?_
    show own_Goes p e below s _ _ (T14.setTop (mkF m 91 #[iv p0, iv p1, iv p2, .unset, rv b5, iv i9, .unset] [(.int (u9 + ((p2 &&& (7 : Int32)) - (4 : Int32))))]))
    refine own_st (fun _ k => XS.istore X14.here hx rfl (hb hby at_91) rfl (l' := #[iv p0, iv p1, iv p2, .unset, rv b5, iv i9, iv (u9 + ((p2 &&& (7 : Int32)) - (4 : Int32)))]) rfl k) ?_
    show own_Goes p e below s _ _ (T14.setTop (mkF m 93 #[iv p0, iv p1, iv p2, .unset, rv b5, iv i9, iv (u9 + ((p2 &&& (7 : Int32)) - (4 : Int32)))] []))
    refine own_st (fun _ k => XS.iconst X14.here hx rfl (hb hby at_93) k) ?_
    show own_Goes p e below s _ _ (T14.setTop (mkF m 94 #[iv p0, iv p1, iv p2, .unset, rv b5, iv i9, iv (u9 + ((p2 &&& (7 : Int32)) - (4 : Int32)))] [(.int (0 : Int32))]))
    refine own_st (fun _ k => X14.ldcInt hx hown (mvT hZ (hw _ (List.mem_of_getElem? (i := 5) rfl))) (g := (mkF m 94 #[iv p0, iv p1, iv p2, .unset, rv b5, iv i9, iv (u9 + ((p2 &&& (7 : Int32)) - (4 : Int32)))] [(.int (0 : Int32))])) rfl (hb hby at_94) _ k) ?_
    show own_Goes p e below s _ _ (T14.setTop (mkF m 96 #[iv p0, iv p1, iv p2, .unset, rv b5, iv i9, iv (u9 + ((p2 &&& (7 : Int32)) - (4 : Int32)))] [(.int (1114111 : Int32)), (.int (0 : Int32))]))
    refine own_st (fun _ k => XS.iload X14.here hx rfl (hb hby at_96) rfl  k) ?_
    show own_Goes p e below s _ _ (T14.setTop (mkF m 98 #[iv p0, iv p1, iv p2, .unset, rv b5, iv i9, iv (u9 + ((p2 &&& (7 : Int32)) - (4 : Int32)))] [(.int (u9 + ((p2 &&& (7 : Int32)) - (4 : Int32)))), (.int (1114111 : Int32)), (.int (0 : Int32))]))
    obtain ⟨v15, T15, L15, X15, Q15, st15⟩ := own_callS X14 hx hZ (y := (⟨"java/lang/Math", "min", "(II)I"⟩ : MethodName)) hown (hw _ (List.mem_of_getElem? (i := 6) rfl)) (hw _ (List.mem_of_getElem? (i := 7) rfl)) (hw _ (List.mem_of_getElem? (i := 8) rfl)) (hw _ (List.mem_of_getElem? (i := 9) rfl)) (by decide) (W := 1) (rest := [(.int (0 : Int32))]) (argsL := [(.int (1114111 : Int32)), (.int (u9 + ((p2 &&& (7 : Int32)) - (4 : Int32))))]) (rmMin l Z a0 hw [] (1114111 : Int32) (u9 + ((p2 &&& (7 : Int32)) - (4 : Int32))) h14 n0 (by omega)) (by decide) (by decide) (by decide) (by decide) e14 own_pd1 rfl (g := (mkF m 98 #[iv p0, iv p1, iv p2, .unset, rv b5, iv i9, iv (u9 + ((p2 &&& (7 : Int32)) - (4 : Int32)))] [(.int (u9 + ((p2 &&& (7 : Int32)) - (4 : Int32)))), (.int (1114111 : Int32)), (.int (0 : Int32))])) rfl (by rw [hml]; rfl) rfl (by show 2 * 0 + _ ≤ _; exact Nat.le_of_eq rfl) (hb hby at_98)
    obtain ⟨r15, rfl, hr15, N15q, e15⟩ := Q15
    have N15 := Fr.app N14 N15q
    refine own_st st15 ?_
    show own_Goes p e below s _ _ (T15.setTop (mkF m 101 #[iv p0, iv p1, iv p2, .unset, rv b5, iv i9, iv (u9 + ((p2 &&& (7 : Int32)) - (4 : Int32)))] [(.int r15), (.int (0 : Int32))]))
    obtain ⟨v16, T16, L16, X16, Q16, st16⟩ := own_callS X15 hx hZ (y := (⟨"java/lang/Math", "max", "(II)I"⟩ : MethodName)) hown (hw _ (List.mem_of_getElem? (i := 10) rfl)) (hw _ (List.mem_of_getElem? (i := 11) rfl)) (hw _ (List.mem_of_getElem? (i := 8) rfl)) (hw _ (List.mem_of_getElem? (i := 12) rfl)) (by decide) (W := 0) (rest := []) (argsL := [(.int (0 : Int32)), (.int r15)]) (rmMax l Z a0 hw [] (0 : Int32) r15 h14 n0 (by omega)) (by decide) (by decide) (by decide) (by decide) e15 own_pd1 rfl (g := (mkF m 101 #[iv p0, iv p1, iv p2, .unset, rv b5, iv i9, iv (u9 + ((p2 &&& (7 : Int32)) - (4 : Int32)))] [(.int r15), (.int (0 : Int32))])) rfl (by rw [hml]; rfl) rfl (by show 2 * 0 + _ ≤ _; exact Nat.le_of_eq rfl) (hb hby at_101)
    obtain ⟨r16, rfl, hr16, N16q, e16⟩ := Q16
    have N16 := Fr.app N15 N16q
    refine own_st st16 ?_
    show own_Goes p e below s _ _ (T16.setTop (mkF m 104 #[iv p0, iv p1, iv p2, .unset, rv b5, iv i9, iv (u9 + ((p2 &&& (7 : Int32)) - (4 : Int32)))] [(.int r16)]))
    refine own_st (fun _ k => XS.istoreN X16.here hx rfl (hb hby at_104) rfl (l' := #[iv p0, iv p1, iv p2, iv r16, rv b5, iv i9, iv (u9 + ((p2 &&& (7 : Int32)) - (4 : Int32)))]) rfl k) ?_
    show own_Goes p e below s _ _ (T16.setTop (mkF m 105 #[iv p0, iv p1, iv p2, iv r16, rv b5, iv i9, iv (u9 + ((p2 &&& (7 : Int32)) - (4 : Int32)))] []))
    generalize r16 = c0
    show own_Goes p e below s _ _ (T16.setTop (mkF m 105 #[iv p0, iv p1, iv p2, iv c0, rv b5, iv i9, iv (u9 + ((p2 &&& (7 : Int32)) - (4 : Int32)))] []))
    refine own_st (fun _ k => XS.iloadN X16.here hx rfl (hb hby at_105) rfl  k) ?_
    show own_Goes p e below s _ _ (T16.setTop (mkF m 106 #[iv p0, iv p1, iv p2, iv c0, rv b5, iv i9, iv (u9 + ((p2 &&& (7 : Int32)) - (4 : Int32)))] [(.int c0)]))
    obtain ⟨v17, T17, L17, X17, Q17, st17⟩ := own_callS X16 hx hZ (y := (⟨"com/example/footprint_to_feed/footprinttofeed/XmlDocument", "isXmlChar", "(I)Z"⟩ : MethodName)) hown (hw _ (List.mem_of_getElem? (i := 13) rfl)) (hw _ (List.mem_of_getElem? (i := 14) rfl)) (hw _ (List.mem_of_getElem? (i := 15) rfl)) (hw _ (List.mem_of_getElem? (i := 16) rfl)) (by decide) (W := 0) (rest := []) (argsL := [(.int c0)]) (rmX l Z a0 hw [] c0 h14 n0 (by omega)) (by decide) (by decide) (by decide) (by decide) e16 own_pd0 rfl (g := (mkF m 106 #[iv p0, iv p1, iv p2, iv c0, rv b5, iv i9, iv (u9 + ((p2 &&& (7 : Int32)) - (4 : Int32)))] [(.int c0)])) rfl (by rw [hml]; rfl) rfl (by show 2 * 0 + _ ≤ _; exact Nat.le_of_eq rfl) (hb hby at_106)
    obtain ⟨r17, rfl, hr17, N17q, e17⟩ := Q17
    have N17 := Fr.app N16 N17q
    refine own_st st17 ?_
    show own_Goes p e below s _ _ (T17.setTop (mkF m 109 #[iv p0, iv p1, iv p2, iv c0, rv b5, iv i9, iv (u9 + ((p2 &&& (7 : Int32)) - (4 : Int32)))] [(.int r17)]))
    refine own_st (fun _ k => XS.iloadN X17.here hx rfl (hb hby at_109) rfl  k) ?_
    show own_Goes p e below s _ _ (T17.setTop (mkF m 110 #[iv p0, iv p1, iv p2, iv c0, rv b5, iv i9, iv (u9 + ((p2 &&& (7 : Int32)) - (4 : Int32)))] [(.int c0), (.int r17)]))
    obtain ⟨v18, T18, L18, X18, Q18, st18⟩ := own_callS X17 hx hZ (y := (⟨"com/example/footprint_to_feed/footprinttofeed/XmlDocumentIsXmlCharPinLaw", "expected", "(I)Z"⟩ : MethodName)) hown (hw _ (List.mem_of_getElem? (i := 19) rfl)) (hw _ (List.mem_of_getElem? (i := 20) rfl)) (hw _ (List.mem_of_getElem? (i := 21) rfl)) (hw _ (List.mem_of_getElem? (i := 22) rfl)) (by decide) (W := 1) (rest := [(.int r17)]) (argsL := [(.int c0)]) (rmE l Z a0 hw [] c0 h14 n0 (by omega)) (by decide) (by decide) (by decide) (by decide) e17 own_pd0 rfl (g := (mkF m 110 #[iv p0, iv p1, iv p2, iv c0, rv b5, iv i9, iv (u9 + ((p2 &&& (7 : Int32)) - (4 : Int32)))] [(.int c0), (.int r17)])) rfl (by rw [hml]; rfl) rfl (by show 2 * 0 + _ ≤ _; exact Nat.le_of_eq rfl) (hb hby at_110)
    obtain ⟨r18, rfl, hr18, N18q, e18⟩ := Q18
    have N18 := Fr.app N17 N18q
    refine own_st st18 ?_
    show own_Goes p e below s _ _ (T18.setTop (mkF m 113 #[iv p0, iv p1, iv p2, iv c0, rv b5, iv i9, iv (u9 + ((p2 &&& (7 : Int32)) - (4 : Int32)))] [(.int r18), (.int r17)]))
    by_cases c19 : r17 = r18
    · have c19i : r17.toInt = r18.toInt := own_i_eq c19
      refine own_st (fun _ k => XS.icmpNo X18.here hx rfl (hb hby at_113) rfl (teq c19).2 k) ?_
      show own_Goes p e below s _ _ (T18.setTop (mkF m 116 #[iv p0, iv p1, iv p2, iv c0, rv b5, iv i9, iv (u9 + ((p2 &&& (7 : Int32)) - (4 : Int32)))] []))
      refine own_st (fun _ k => XS.iconst X18.here hx rfl (hb hby at_116) k) ?_
      show own_Goes p e below s _ _ (T18.setTop (mkF m 117 #[iv p0, iv p1, iv p2, iv c0, rv b5, iv i9, iv (u9 + ((p2 &&& (7 : Int32)) - (4 : Int32)))] [(.int (1 : Int32))]))
      refine own_st (fun _ k => XS.goto X18.here hx rfl (pc0 := 117) (pc' := 121) rfl (hb hby at_117) (by decide) (by decide) k) ?_
      show own_Goes p e below s _ _ (T18.setTop (mkF m 121 #[iv p0, iv p1, iv p2, iv c0, rv b5, iv i9, iv (u9 + ((p2 &&& (7 : Int32)) - (4 : Int32)))] [(.int (1 : Int32))]))
      exact own_retN X18 hx hlk (1 : Int32) hret (Or.inl rfl) rfl (hb hby at_121) (by decide) (by decide) ⟨rfl, N18⟩
    · have c19i : ¬ r17.toInt = r18.toInt := own_i_ne c19
      exfalso; omega
set_option maxRecDepth 65536 in
set_option maxHeartbeats 40000000 in
theorem comes_1 {Post : Tables → Env → Array Value → State → Outcome → State → Prop} (hpost : ∀ tb e args s v u, (limb_1_1.after args s (.returned v) u = true ∧ limb_1_2.after args s (.returned v) u = true ∧ True) → FrameEnd s (.returned v) u (Jvm.fieldLocs frame_1_writes args s ++ Jvm.arrayLocs frame_1_arrays args s ++ Jvm.staticLocs frame_1_statics s) 16 128 → Post tb e args s (.returned v) u) :
    ArmFor flags0 classFile x code maxLocals ret World_1 tables_1 room_1 Calls_1 rest_1 Pre_1 Post := by
  intro l hfl _ _ p e ha hc hk s m args below hf hA hF happ hP
  obtain ⟨hcalls, hrest, hpre⟩ := hP
  obtain ⟨-, -, -, hnamed, -, -, -, hat⟩ := (Spec.applies_iff hf).mp happ
  obtain ⟨hg, hn⟩ := and_e (Cond.before_iff.mp (show (Jvm.Cond.and given_1 narrow_1).before args s = true from hpre))
  obtain ⟨hcnt, q0⟩ := and_e hg
  obtain ⟨u0, q1⟩ := and_e q0
  obtain ⟨u1, q2⟩ := and_e q1
  obtain ⟨w0, w1, w2, rfl⟩ : ∃ w0 w1 w2 : Value, args = #[w0, w1, w2] := by
    have hs : args.size = 3 := by simpa [Cond.value, given_1] using hcnt
    obtain ⟨L⟩ := args
    match L, hs with
    | [w0, w1, w2], _ => exact ⟨w0, w1, w2, rfl⟩
  have hw := fun d (hd : d ∈ tables_1) => atoms_spec (ws := Jvm.Cond.code x code maxLocals ret :: tables_1) hat d (List.mem_cons_of_mem _ hd)
  have hfit : Fit s := fun {y c} hc i hi => by
    obtain ⟨ha, rfl⟩ := Array.getElem?_eq_some_iff.mp hc
    have q := List.all_eq_true.mp ((Array.all_eq_true_iff_forall_mem.mp hF) _ (Array.getElem_mem ha)) i (List.mem_range.mpr hi)
    simpa [Array.getElem?_eq_getElem hi] using q
  obtain ⟨i0, ei0⟩ := is_v u0
  obtain rfl : w0 = (.int i0) := Option.some.inj ei0
  obtain ⟨i1, ei1⟩ := is_v u1
  obtain rfl : w1 = (.int i1) := Option.some.inj ei1
  obtain ⟨i2, ei2⟩ := is_v q2
  obtain rfl : w2 = (.int i2) := Option.some.inj ei2
  obtain ⟨n, o, h1, h2, h3, _, L, rfl, ⟨rfl, N⟩, hq⟩ := rm0 l s _ hw tables_1 i0 i1 i2 s.heap s.heap.size (Nat.le_refl _) p e ha hc hk s m _ below hf ((Spec.applies_iff_loose hf).mp happ).1 ⟨rfl, State.Warmed39.refl s, rfl⟩ trivial
  refine ⟨n, _, h1, h2, h3, hpost _ _ _ _ _ _ ⟨Cond.after_iff.mpr rfl, Cond.after_iff.mpr (eq_i res_at (Term.int_eval (1)) rfl), trivial⟩ ⟨hq.1, hq.2.1, (hq.2.2.sift fun y hy => Or.inr (N y hy)).mono (by decide) (by decide)⟩⟩
theorem main_1_1 : Claimed_1_1 := comes_1 fun _ _ _ _ _ _ h hF => ⟨h.1, hF⟩
theorem main_1_2 : Claimed_1_2 := comes_1 fun _ _ _ _ _ _ h hF => ⟨h.2.1, hF⟩
end Jvm.Pilot.@@N@@
namespace Jvm.Pilot.@@N@@
open Jvm Jvm.ClassFile Sem Op Lib Jvm.Free Jvm.Stand Jvm.Pilot.@@N@@.Jvm.D
/-! MADE BY PROGRAM (witnessworld.py) out of the Statement's table words and the real class files: 10 classes; the members and pool entries that the words name. The judged class is class 1, her method 2. -/
namespace start1
open Jvm.ClassFile
def u (s : String) : CpInfo := .utf8 (stringToUtf16 s)
/-- a pool by its gaps: so many unusable entries, then the entry; so many at the end -/
def gap : Nat → List CpInfo → List CpInfo
  | 0, r => r
  | n + 1, r => .unusable :: gap n r
def poolList (es : List (Nat × CpInfo)) (last : Nat) : List CpInfo := es.foldr (fun e r => gap e.1 (e.2 :: r)) (gap last [])
def pool (es : List (Nat × CpInfo)) (last : Nat) : Array CpInfo := ⟨poolList es last⟩
def fileOf (pool : Array CpInfo) (this : Nat) (attrs : Array Attribute := #[]) (ms : Array MethodInfo := #[]) (fl : Nat := 33) (sup : Nat := 0) (ifs : Array Nat := #[]) (fds : Array FieldInfo := #[]) : ClassFile where
  minorVersion := 0
  majorVersion := 65
  constantPool := pool
  accessFlags := fl
  thisClass := this
  superClass := sup
  interfaces := ifs
  fields := fds
  methods := ms
  attributes := attrs
def plain (name : String) (sup : Option ClassId) : Class where
  name := name
  kind := .ordinary
  loader := none
  accessFlags := 33
  super := sup
  interfaces := #[]
  cf := none
  fields := #[]
  methods := #[]
  instanceTypes := #[]
  staticTypes := #[]
  resolved := #[]
  callSites := []
  init := .initialized
  statics := none
  mirror := none

def pool0 : Array CpInfo := pool [(5, u "<init>"), (0, u "()V"), (1, .class_ 10), (1, u "java/lang/Object")] 113

def k0m0 : Method := { name := "<init>", desc := "()V", sig := { parameters := [], returnType := none }, accessFlags := 1, code := none }
/-- java/lang/Object -/
def k0 : Class := { plain "java/lang/Object" none with
  accessFlags := 33
  interfaces := #[]
  cf := some (fileOf pool0 8 #[] #[{ accessFlags := 1, nameIndex := 5, descriptorIndex := 6, attributes := #[] }] 33 0 #[] #[])
  fields := #[]
  methods := #[k0m0]
  instanceTypes := #[]
  staticTypes := #[]
  resolved := Array.replicate 124 none
  statics := none }

def pool1 : Array CpInfo := pool [(2, .class_ 4), (1, u "java/lang/Object"), (0, u "<init>"), (0, u "()V"), (0, .integer 55296), (0, .integer 57344), (0, .integer 65534), (0, .integer 65536), (0, .integer 2147483647), (0, .integer 1114112), (0, .integer 55295), (0, .integer 65533), (0, .integer 1114111), (0, .methodref 17 18), (0, .class_ 19), (0, .nameAndType 20 21), (0, u "java/lang/Math"), (0, u "min"), (0, u "(II)I"), (0, .methodref 17 23), (0, .nameAndType 24 21), (0, u "max"), (0, .methodref 26 27), (0, .class_ 28), (0, .nameAndType 29 30), (0, u "com/example/footprint_to_feed/footprinttofeed/XmlDocument"), (0, u "isXmlChar"), (0, u "(I)Z"), (0, .methodref 32 33), (0, .class_ 34), (0, .nameAndType 35 30), (0, u "com/example/footprint_to_feed/footprinttofeed/XmlDocumentIsXmlCharPinLaw"), (0, u "expected"), (3, u "law"), (0, u "(III)Z")] 2

def k1m0 : Method := { name := "<init>", desc := "()V", sig := { parameters := [], returnType := none }, accessFlags := 1, code := none }
def k1c1 : Code := { maxStack := 2, maxLocals := 1, code := method_2_code, exceptionTable := #[], attributes := #[] }
def k1m1 : Method := { name := "expected", desc := "(I)Z", sig := { parameters := [.int], returnType := some .boolean }, accessFlags := 10, code := some k1c1 }
def k1c2 : Code := { maxStack := 4, maxLocals := 7, code := code, exceptionTable := #[], attributes := #[] }
def k1m2 : Method := { name := "law", desc := "(III)Z", sig := { parameters := [.int, .int, .int], returnType := some .boolean }, accessFlags := 9, code := some k1c2 }
/-- com/example/footprint_to_feed/footprinttofeed/XmlDocumentIsXmlCharPinLaw -/
def k1 : Class := { plain "com/example/footprint_to_feed/footprinttofeed/XmlDocumentIsXmlCharPinLaw" (some 0) with
  accessFlags := 49
  interfaces := #[]
  cf := some (fileOf pool1 32 #[] #[{ accessFlags := 1, nameIndex := 5, descriptorIndex := 6, attributes := #[] }, { accessFlags := 10, nameIndex := 35, descriptorIndex := 30, attributes := #[] }, { accessFlags := 9, nameIndex := 39, descriptorIndex := 40, attributes := #[] }] 49 2 #[] #[])
  fields := #[]
  methods := #[k1m0, k1m1, k1m2]
  instanceTypes := #[]
  staticTypes := #[]
  resolved := Array.replicate 43 none
  statics := none }

def pool2 : Array CpInfo := pool [(1, .class_ 2), (0, u "java/lang/Math"), (1, .class_ 6), (1, u "java/lang/Object"), (0, u "<init>"), (0, u "()V"), (89, .class_ 100), (1, u "java/lang/Math$RandomNumberGeneratorHolder"), (71, u "negativeZeroFloatBits"), (0, u "J"), (2, u "negativeZeroDoubleBits"), (21, u "max"), (2, u "min"), (43, u "$assertionsDisabled"), (0, u "Z"), (88, u "(II)I"), (2, u "twoToTheDoubleScaleDown"), (0, u "D"), (4, u "twoToTheDoubleScaleUp"), (9, u "E"), (3, u "PI"), (2, u "TAU"), (2, u "DEGREES_TO_RADIANS"), (0, u "RADIANS_TO_DEGREES")] 94

def k2m0 : Method := { name := "<init>", desc := "()V", sig := { parameters := [], returnType := none }, accessFlags := 2, code := none }
def k2c1 : Code := { maxStack := 2, maxLocals := 2, code := jdk_29_method_65_code, exceptionTable := #[], attributes := #[] }
def k2m1 : Method := { name := "max", desc := "(II)I", sig := { parameters := [.int, .int], returnType := some .int }, accessFlags := 9, code := some k2c1 }
def k2c2 : Code := { maxStack := 2, maxLocals := 2, code := jdk_29_method_69_code, exceptionTable := #[], attributes := #[] }
def k2m2 : Method := { name := "min", desc := "(II)I", sig := { parameters := [.int, .int], returnType := some .int }, accessFlags := 9, code := some k2c2 }
/-- java/lang/Math -/
def k2 : Class := { plain "java/lang/Math" (some 0) with
  accessFlags := 49
  interfaces := #[]
  cf := some (fileOf pool2 1 #[.nestMembers #[98]] #[{ accessFlags := 2, nameIndex := 7, descriptorIndex := 8, attributes := #[] }, { accessFlags := 9, nameIndex := 198, descriptorIndex := 335, attributes := #[] }, { accessFlags := 9, nameIndex := 201, descriptorIndex := 335, attributes := #[] }] 49 4 #[] #[{ accessFlags := 25, nameIndex := 354, descriptorIndex := 339, attributes := #[] }, { accessFlags := 25, nameIndex := 358, descriptorIndex := 339, attributes := #[] }, { accessFlags := 25, nameIndex := 361, descriptorIndex := 339, attributes := #[] }, { accessFlags := 26, nameIndex := 364, descriptorIndex := 339, attributes := #[] }, { accessFlags := 26, nameIndex := 365, descriptorIndex := 339, attributes := #[] }, { accessFlags := 26, nameIndex := 172, descriptorIndex := 173, attributes := #[] }, { accessFlags := 26, nameIndex := 176, descriptorIndex := 173, attributes := #[] }, { accessFlags := 8, nameIndex := 344, descriptorIndex := 339, attributes := #[] }, { accessFlags := 8, nameIndex := 338, descriptorIndex := 339, attributes := #[] }, { accessFlags := 4120, nameIndex := 245, descriptorIndex := 246, attributes := #[] }])
  fields := #[{ name := "E", type := .double, accessFlags := 25, slot := 0, constantValue := 0 }, { name := "PI", type := .double, accessFlags := 25, slot := 1, constantValue := 0 }, { name := "TAU", type := .double, accessFlags := 25, slot := 2, constantValue := 0 }, { name := "DEGREES_TO_RADIANS", type := .double, accessFlags := 26, slot := 3, constantValue := 0 }, { name := "RADIANS_TO_DEGREES", type := .double, accessFlags := 26, slot := 4, constantValue := 0 }, { name := "negativeZeroFloatBits", type := .long, accessFlags := 26, slot := 5, constantValue := 0 }, { name := "negativeZeroDoubleBits", type := .long, accessFlags := 26, slot := 6, constantValue := 0 }, { name := "twoToTheDoubleScaleUp", type := .double, accessFlags := 8, slot := 7, constantValue := 0 }, { name := "twoToTheDoubleScaleDown", type := .double, accessFlags := 8, slot := 8, constantValue := 0 }, { name := "$assertionsDisabled", type := .boolean, accessFlags := 4120, slot := 9, constantValue := 0 }]
  methods := #[k2m0, k2m1, k2m2]
  instanceTypes := #[]
  staticTypes := #[.double, .double, .double, .double, .double, .long, .long, .double, .double, .boolean]
  resolved := Array.replicate 460 none
  statics := none }

def pool3 : Array CpInfo := pool [(2, .class_ 4), (1, u "java/lang/Object"), (3, .class_ 10), (1, u "com/example/footprint_to_feed/footprinttofeed/XmlDocument"), (0, u "SPARE"), (0, u "Ljava/util/concurrent/BlockingQueue;"), (7, u "[B"), (12, u "bytes"), (4, u "openNamespaces"), (0, u "[Lcom/example/footprint_to_feed/footprinttofeed/Namespace;"), (4, u "openNames"), (0, u "[Ljava/lang/String;"), (2, u "root"), (0, u "Lcom/example/footprint_to_feed/footprinttofeed/Namespace;"), (22, .class_ 74), (1, u "com/example/footprint_to_feed/footprinttofeed/XmlDocument$Pieces"), (29, u "open"), (0, u "I"), (15, u "inStartTag"), (0, u "Z"), (28, .integer 55295), (0, .integer 57344), (0, .integer 65533), (0, .integer 65536), (50, u "isXmlChar"), (0, u "(I)Z"), (10, u "size"), (14, u "INITIAL_BYTES"), (2, u "REPLACEMENT"), (0, u "MOST_OPEN"), (1, u "MOST_SPARE")] 52

def k3c0 : Code := { maxStack := 2, maxLocals := 1, code := prog_30_method_11_code, exceptionTable := #[], attributes := #[] }
def k3m0 : Method := { name := "isXmlChar", desc := "(I)Z", sig := { parameters := [.int], returnType := some .boolean }, accessFlags := 8, code := some k3c0 }
/-- com/example/footprint_to_feed/footprinttofeed/XmlDocument -/
def k3 : Class := { plain "com/example/footprint_to_feed/footprinttofeed/XmlDocument" (some 0) with
  accessFlags := 48
  interfaces := #[]
  cf := some (fileOf pool3 8 #[.nestMembers #[72]] #[{ accessFlags := 8, nameIndex := 205, descriptorIndex := 206, attributes := #[] }] 48 2 #[] #[{ accessFlags := 26, nameIndex := 232, descriptorIndex := 105, attributes := #[] }, { accessFlags := 26, nameIndex := 235, descriptorIndex := 105, attributes := #[] }, { accessFlags := 26, nameIndex := 236, descriptorIndex := 105, attributes := #[] }, { accessFlags := 26, nameIndex := 238, descriptorIndex := 105, attributes := #[] }, { accessFlags := 26, nameIndex := 11, descriptorIndex := 12, attributes := #[] }, { accessFlags := 18, nameIndex := 48, descriptorIndex := 49, attributes := #[] }, { accessFlags := 2, nameIndex := 33, descriptorIndex := 20, attributes := #[] }, { accessFlags := 2, nameIndex := 217, descriptorIndex := 105, attributes := #[] }, { accessFlags := 2, nameIndex := 38, descriptorIndex := 39, attributes := #[] }, { accessFlags := 2, nameIndex := 44, descriptorIndex := 45, attributes := #[] }, { accessFlags := 2, nameIndex := 104, descriptorIndex := 105, attributes := #[] }, { accessFlags := 2, nameIndex := 121, descriptorIndex := 122, attributes := #[] }])
  fields := #[{ name := "INITIAL_BYTES", type := .int, accessFlags := 26, slot := 0, constantValue := 0 }, { name := "REPLACEMENT", type := .int, accessFlags := 26, slot := 1, constantValue := 0 }, { name := "MOST_OPEN", type := .int, accessFlags := 26, slot := 2, constantValue := 0 }, { name := "MOST_SPARE", type := .int, accessFlags := 26, slot := 3, constantValue := 0 }, { name := "SPARE", type := (.object "java/util/concurrent/BlockingQueue"), accessFlags := 26, slot := 4, constantValue := 0 }, { name := "root", type := (.object "com/example/footprint_to_feed/footprinttofeed/Namespace"), accessFlags := 18, slot := 0, constantValue := 0 }, { name := "bytes", type := (.array .byte), accessFlags := 2, slot := 1, constantValue := 0 }, { name := "size", type := .int, accessFlags := 2, slot := 2, constantValue := 0 }, { name := "openNamespaces", type := (.array (.object "com/example/footprint_to_feed/footprinttofeed/Namespace")), accessFlags := 2, slot := 3, constantValue := 0 }, { name := "openNames", type := (.array (.object "java/lang/String")), accessFlags := 2, slot := 4, constantValue := 0 }, { name := "open", type := .int, accessFlags := 2, slot := 5, constantValue := 0 }, { name := "inStartTag", type := .boolean, accessFlags := 2, slot := 6, constantValue := 0 }]
  methods := #[k3m0]
  instanceTypes := #[(.object "com/example/footprint_to_feed/footprinttofeed/Namespace"), (.array .byte), .int, (.array (.object "com/example/footprint_to_feed/footprinttofeed/Namespace")), (.array (.object "java/lang/String")), .int, .boolean]
  staticTypes := #[.int, .int, .int, .int, (.object "java/util/concurrent/BlockingQueue")]
  resolved := Array.replicate 291 none
  statics := none }

def pool4 : Array CpInfo := pool [(1, u "java/lang/Cloneable"), (0, .class_ 1), (0, u "java/lang/Object"), (0, .class_ 3)] 3

/-- java/lang/Cloneable -/
def k4 : Class := { plain "java/lang/Cloneable" (some 0) with
  accessFlags := 1537
  interfaces := #[]
  cf := some (fileOf pool4 2 #[] #[] 1537 4 #[] #[])
  fields := #[]
  methods := #[]
  instanceTypes := #[]
  staticTypes := #[]
  resolved := Array.replicate 8 none
  statics := none }

def pool5 : Array CpInfo := pool [(1, u "java/io/Serializable"), (0, .class_ 1), (0, u "java/lang/Object"), (0, .class_ 3)] 3

/-- java/io/Serializable -/
def k5 : Class := { plain "java/io/Serializable" (some 0) with
  accessFlags := 1537
  interfaces := #[]
  cf := some (fileOf pool5 2 #[] #[] 1537 4 #[] #[])
  fields := #[]
  methods := #[]
  instanceTypes := #[]
  staticTypes := #[]
  resolved := Array.replicate 8 none
  statics := none }

/-- the primitive byte -/
def k6 : Class := { plain "byte" none with kind := .primitive 'B', accessFlags := 0x411 }
/-- [B -/
def k7 : Class := { plain "[B" (some 0) with kind := .array 6 .byte, interfaces := #[4, 5], accessFlags := 1041 }

/-- the primitive int -/
def k8 : Class := { plain "int" none with kind := .primitive 'I', accessFlags := 0x411 }
/-- [I -/
def k9 : Class := { plain "[I" (some 0) with kind := .array 8 .int, interfaces := #[4, 5], accessFlags := 1041 }

def heap : Heap := #[]
def classes : Array Class := #[k0, k1, k2, k3, k4, k5, k6, k7, k8, k9]
def interned : List (Array UInt16 × Addr) := []
def slotsUsed : Nat := 0
def theMethod : MethodId := ⟨1, 2⟩
def args0 : Array Value := #[.int 5, .int 3, .int 2]
def aboutOver (below : List Frame) : State where
  vm := { classes := classes, interned := interned.toArray }
  heap := heap
  slotsUsed := slotsUsed
  threads := #[{ frames := .invoking theMethod args0 :: below }]
def below0 : List Frame := [.native { method := ⟨0, 0⟩, args := #[] }]
def about1 : State := aboutOver below0
def p0 : Program := .bare "" "" ""
def e0 : Env := launch0.env 0 0 0
theorem w_frames : about1.frames = Frame.invoking theMethod args0 :: below0 := rfl
set_option maxRecDepth 65536 in
theorem w_args : argsFit about1.vm theMethod args0 = true := by decide +kernel
set_option maxRecDepth 65536 in
theorem w_heap : heapFits about1 = true := by decide +kernel
set_option maxRecDepth 65536 in
theorem w_runnable : about1.curStatus? = some .runnable := by decide +kernel
set_option maxRecDepth 65536 in
theorem w_alone : about1.alone = true := by decide +kernel
set_option maxRecDepth 65536 in
theorem w_named : about1.methodNamed? x = some theMethod := by decide +kernel
set_option maxRecDepth 65536 in
theorem w_hears : about1.hears theMethod below0 = true := by decide +kernel
set_option maxRecDepth 65536 in
theorem w_ripe : about1.ripe theMethod args0 below0 = true := by decide +kernel
theorem w_running : about1.status = .running := rfl
set_option maxRecDepth 65536 in
theorem w_room : about1.hasRoom e0.platform room_1 = true :=
  launch0.hasRoom_least _ room_1 (by decide +kernel) (by decide +kernel) (by decide +kernel) (by decide +kernel) (by decide +kernel) (by decide +kernel)
theorem allAtoms_all (ts : List Jvm.Cond) (a : Array Jvm.Value) (st : Jvm.State) : (allAtoms ts).before a st = ts.all (fun c => c.before a st) := by
  induction ts with
  | nil => rfl
  | cons c t ih =>
    show (Jvm.Cond.and c (allAtoms t)).before a st = _
    rw [Jvm.Cond.before_and, ih, List.all_cons]
def words1 : List Jvm.Cond := Jvm.Cond.code x code maxLocals ret :: tables_1
/-- a 'code' word, met by the world's own term for the bytes: nothing is compared byte by byte -/
theorem code_word {y : MethodName} {bytes : ByteArray} {mx : Nat} {rt : Option FieldType} {a : Array Value} {s : State} {m : MethodId} {meth : Method} {c : Code} (h1 : s.methodNamed? y = some m) (h2 : s.vm.method? m = some meth) (h3 : meth.code = some c) (h4 : c.code = bytes)
    (h5 : (c.maxLocals == mx && c.exceptionTable.isEmpty && decide (c.maxStack ≤ mostOperands) && decide (meth.sig.returnType = rt) && !meth.locks && decide (parseMethodDescriptor y.desc = some meth.sig)) = true) : (Jvm.Cond.code y bytes mx rt).before a s = true := by
  simp only [Bool.and_eq_true, beq_iff_eq, Bool.not_eq_true', decide_eq_true_eq] at h5
  obtain ⟨⟨⟨⟨⟨g1, g2⟩, g3⟩, g4⟩, g5⟩, g6⟩ := h5
  simp [Cond.before, Cond.holds, Cond.value, h1, h2, h3, h4, g1, g2, g3, g4, g5, g6]
def isCode : Jvm.Cond → Bool
  | .code _ _ _ _ => true
  | _ => false
theorem all_split {L : List Jvm.Cond} {P : Jvm.Cond → Bool} (h1 : L.all (fun c => isCode c || P c) = true) (h2 : ∀ c ∈ L.filter isCode, P c = true) : L.all P = true := by
  refine List.all_eq_true.mpr fun c hc => ?_
  have h := List.all_eq_true.mp h1 c hc
  rcases Bool.eq_false_or_eq_true (isCode c) with hi | hi
  · exact h2 c (List.mem_filter.mpr ⟨hc, hi⟩)
  · simpa [hi] using h
set_option maxRecDepth 65536 in
theorem w_c0 : (Jvm.Cond.code x code maxLocals ret).before args0 about1 = true := code_word (m := ⟨1, 2⟩) (meth := k1m2) (c := k1c2) (by decide +kernel) rfl rfl rfl (by decide +kernel)
set_option maxRecDepth 65536 in
theorem w_c1 : (Jvm.Cond.code ({ cls := "java/lang/Math", name := "min", desc := "(II)I" } : Jvm.MethodName) jdk_29_method_69_code (2 : Nat) (Option.some Jvm.ClassFile.FieldType.int)).before args0 about1 = true := code_word (m := ⟨2, 2⟩) (meth := k2m2) (c := k2c2) (by decide +kernel) rfl rfl rfl (by decide +kernel)
set_option maxRecDepth 65536 in
theorem w_c2 : (Jvm.Cond.code ({ cls := "java/lang/Math", name := "max", desc := "(II)I" } : Jvm.MethodName) jdk_29_method_65_code (2 : Nat) (Option.some Jvm.ClassFile.FieldType.int)).before args0 about1 = true := code_word (m := ⟨2, 1⟩) (meth := k2m1) (c := k2c1) (by decide +kernel) rfl rfl rfl (by decide +kernel)
set_option maxRecDepth 65536 in
theorem w_c3 : (Jvm.Cond.code ({ cls := "com/example/footprint_to_feed/footprinttofeed/XmlDocument", name := "isXmlChar", desc := "(I)Z" } : Jvm.MethodName) prog_30_method_11_code (1 : Nat) (Option.some Jvm.ClassFile.FieldType.boolean)).before args0 about1 = true := code_word (m := ⟨3, 0⟩) (meth := k3m0) (c := k3c0) (by decide +kernel) rfl rfl rfl (by decide +kernel)
set_option maxRecDepth 65536 in
theorem w_c4 : (Jvm.Cond.code ({ cls := "com/example/footprint_to_feed/footprinttofeed/XmlDocumentIsXmlCharPinLaw", name := "expected", desc := "(I)Z" } : Jvm.MethodName) method_2_code (1 : Nat) (Option.some Jvm.ClassFile.FieldType.boolean)).before args0 about1 = true := code_word (m := ⟨1, 1⟩) (meth := k1m1) (c := k1c1) (by decide +kernel) rfl rfl rfl (by decide +kernel)
def codes1 : List Jvm.Cond := [Jvm.Cond.code x code maxLocals ret, Jvm.Cond.code ({ cls := "java/lang/Math", name := "min", desc := "(II)I" } : Jvm.MethodName) jdk_29_method_69_code (2 : Nat) (Option.some Jvm.ClassFile.FieldType.int), Jvm.Cond.code ({ cls := "java/lang/Math", name := "max", desc := "(II)I" } : Jvm.MethodName) jdk_29_method_65_code (2 : Nat) (Option.some Jvm.ClassFile.FieldType.int), Jvm.Cond.code ({ cls := "com/example/footprint_to_feed/footprinttofeed/XmlDocument", name := "isXmlChar", desc := "(I)Z" } : Jvm.MethodName) prog_30_method_11_code (1 : Nat) (Option.some Jvm.ClassFile.FieldType.boolean), Jvm.Cond.code ({ cls := "com/example/footprint_to_feed/footprinttofeed/XmlDocumentIsXmlCharPinLaw", name := "expected", desc := "(I)Z" } : Jvm.MethodName) method_2_code (1 : Nat) (Option.some Jvm.ClassFile.FieldType.boolean)]
set_option maxRecDepth 65536 in
theorem codes_eq : words1.filter isCode = codes1 := rfl
theorem w_codes : ∀ c ∈ words1.filter isCode, c.before args0 about1 = true := by
  rw [codes_eq]
  intro c hc
  simp only [codes1, List.mem_cons, List.not_mem_nil, or_false] at hc
  rcases hc with rfl | rfl | rfl | rfl | rfl
  · exact w_c0
  · exact w_c1
  · exact w_c2
  · exact w_c3
  · exact w_c4
set_option maxRecDepth 65536 in
theorem w_t1 : (words1.take 24).all (fun c => isCode c || c.before args0 about1) = true := by decide +kernel
set_option maxRecDepth 65536 in
theorem w_t2 : (words1.drop 24).all (fun c => isCode c || c.before args0 about1) = true := by decide +kernel
theorem w_tables : (allAtoms (Jvm.Cond.code x code maxLocals ret :: tables_1)).before args0 about1 = true := by
  rw [allAtoms_all]
  show words1.all (fun c => c.before args0 about1) = true
  refine all_split ?_ w_codes
  rw [← List.take_append_drop 24 words1, List.all_append, w_t1, w_t2]
  rfl
set_option maxRecDepth 65536 in
theorem w_case : (Jvm.Cond.and given_1 narrow_1).before args0 about1 = true := by decide +kernel
theorem w_applies : (headSpec (Jvm.Cond.code x code maxLocals ret :: tables_1) room_1).applies x e0.platform about1 = true :=
  (Spec.applies_iff w_frames).mpr ⟨w_running, w_runnable, w_alone, w_named, w_hears, w_ripe, w_room, w_tables⟩
theorem atStart : AtStart classFile x code maxLocals ret World_1 tables_1 room_1 Calls_1 rest_1 Pre_1 launch0 p0 e0 about1 theMethod args0 below0 :=
  ⟨lists_1, trivial, launch0.admits_env _ _ _, launch0.least_env, fairChoices_fair.cas, fairChoices_fair.clock, w_frames, w_args, w_heap, w_applies, trivial, trivial, w_case⟩
end start1
theorem witness_1 : WitnessClaimed_1 := ⟨start1.p0, start1.e0, start1.about1, start1.theMethod, start1.args0, start1.below0, start1.atStart⟩
end Jvm.Pilot.@@N@@
