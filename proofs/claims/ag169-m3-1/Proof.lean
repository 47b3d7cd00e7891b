import JvmDerived
import JvmDerived.Pilot.@@N@@Statement
import JvmDerived.Pilot.@@N@@Code
set_option linter.unusedVariables false
set_option linter.unusedSimpArgs false
namespace Jvm.Pilot.@@N@@
open Jvm Jvm.ClassFile Sem Op Lib Jvm.Free Jvm.Stand Jvm.LawKit Jvm.RoadKit Bundle Jvm.Pilot.@@N@@.Jvm.D
abbrev own_jv (x : Int64) : Slot := .val (.long x)
theorem own_i_lt {a b : Int32} (h : a < b) : a.toInt < b.toInt := Int32.lt_iff_toInt_lt.mp h
theorem own_i_nlt {a b : Int32} (h : ¬ a < b) : b.toInt ≤ a.toInt := Int.not_lt.mp fun q => h (Int32.lt_iff_toInt_lt.mpr q)
theorem own_i_eq {a b : Int32} (h : a = b) : a.toInt = b.toInt := congrArg Int32.toInt h
theorem own_i_ne {a b : Int32} (h : ¬ a = b) : ¬ a.toInt = b.toInt := fun q => h (Int32.toInt_inj.mp q)
theorem own_j_lt {a b : Int64} (h : a < b) : a.toInt < b.toInt := Int64.lt_iff_toInt_lt.mp h
theorem own_j_nlt {a b : Int64} (h : ¬ a < b) : b.toInt ≤ a.toInt := Int.not_lt.mp fun q => h (Int64.lt_iff_toInt_lt.mpr q)
theorem own_j_eq {a b : Int64} (h : a = b) : a.toInt = b.toInt := congrArg Int64.toInt h
theorem own_j_ne {a b : Int64} (h : ¬ a = b) : ¬ a.toInt = b.toInt := fun q => h (Int64.toInt_inj.mp q)
theorem own_b1 {P : Prop} (h : P) : ((1 : Int32).toInt = 1 ∧ P) ∨ ((1 : Int32).toInt = 0 ∧ ¬ P) := Or.inl ⟨by decide, h⟩
theorem own_b0 {P : Prop} (h : ¬ P) : ((0 : Int32).toInt = 1 ∧ P) ∨ ((0 : Int32).toInt = 0 ∧ ¬ P) := Or.inr ⟨by decide, h⟩
theorem own_cat {w : Value} (hw : w.isRef = true) : w.category = 1 := by rcases ref_cases hw with rfl | ⟨a, rfl⟩ <;> rfl
theorem own_fitR {t : FieldType} (ht : t.isReference = true) {w : Value} (hw : w.isRef = true) : fits t w = true := by
  rcases ref_cases hw with rfl | ⟨a, rfl⟩ <;> cases t <;> first | rfl | cases ht
theorem own_static {s : State} {args : Array Value} {C n d K : String} (h : (Jvm.Cond.exactly (Jvm.Term.static C n d) K).value args s none s [] = some true) (wi : (Jvm.Cond.initialized C).before args s = true) (wl : (Jvm.Cond.laysStatic C n d).before args s = true) : ∃ a, (Jvm.Term.static C n d).eval args s none [] s = some (.ref a) ∧ Sta s s.heap C n d (.ref a) ∧ Exa s s.heap a K := by
  obtain ⟨a, ev⟩ := exa_v h
  exact ⟨a, ev, Sta.start ev (Or.inr ⟨wi, wl⟩), Exa.start ev h⟩
theorem own_teq {s : State} {args : Array Value} {t : Jvm.Term} {x : Int32} (h : (Jvm.Cond.eq t (Jvm.Term.int x)).value args s none s [] = some true) : t.eval args s none [] s = some (.int x) := by
  simp only [Cond.value, Term.int_eval] at h
  cases hv : t.eval args s none [] s with
  | none => simp [hv] at h
  | some v => cases v <;> simp [hv] at h ⊢; exact h
theorem own_fint {s : State} {args : Array Value} {t : Jvm.Term} {C n d : String} {x : Int32} {a : Addr} (h : (Jvm.Cond.eq (Jvm.Term.field t C n d) (Jvm.Term.int x)).value args s none s [] = some true) (e : t.eval args s none [] s = some (.ref a)) : s.fieldOf? a C n d = some (.int x) := by
  have q := fld_at (C := C) (n := n) (dd := d) e
  simp only [Cond.value, q, Term.int_eval] at h
  cases hv : s.fieldOf? a C n d with
  | none => simp [hv] at h
  | some v => cases v <;> simp [hv] at h ⊢; exact h
theorem own_ord {s : State} {args : Array Value} {t t' : Jvm.Term} {C n d : String} {x y : Int32} {a b : Nat} (h : (Jvm.Cond.eq (Jvm.Term.field t C n d) (Jvm.Term.int x)).value args s none s [] = some true) (e : t.eval args s none [] s = some (.ref a)) (h' : (Jvm.Cond.eq (Jvm.Term.field t' C n d) (Jvm.Term.int y)).value args s none s [] = some true) (e' : t'.eval args s none [] s = some (.ref b)) (hn : x ≠ y) : ¬ a = b := fun q => by
  subst q
  have := (own_fint h e).symm.trans (own_fint h' e')
  cases this
  exact hn rfl
def own_O (Z : State) (a : Addr) (k : Int32) : Prop := Z.fieldOf? a "java/lang/Enum" "ordinal" "I" = some (.int k)
theorem own_one {Z : State} {a b : Nat} {i j : Int32} (h : own_O Z a i) (h' : own_O Z b j) (hn : i ≠ j) : ¬ a = b := fun q => by
  subst q
  have := Eq.symm h |>.trans h'
  cases this
  exact hn rfl
theorem own_fldR {s : State} {args : Array Value} {t : Jvm.Term} {C n d K : String} {a : Addr} (h : (Jvm.Cond.exactly (Jvm.Term.field t C n d) K).value args s none s [] = some true) (e : t.eval args s none [] s = some (.ref a)) : ∃ b, Fld s s.heap a C n d (.ref b) := by
  obtain ⟨b, ev⟩ := exa_v h
  rw [fld_at e] at ev
  exact ⟨b, Fld.start ev⟩
theorem own_fldN {s : State} {args : Array Value} {t : Jvm.Term} {C n d : String} {a : Addr} (h : (Jvm.Cond.eq (Jvm.Term.field t C n d) Jvm.Term.null).value args s none s [] = some true) (e : t.eval args s none [] s = some (.ref a)) : Fld s s.heap a C n d .null := by
  have ev := null_v h
  rw [fld_at e] at ev
  exact Fld.start ev
theorem own_ne {x y : Addr} (h : @Ne Nat x y) : x ≠ y := h
theorem own_lt {x : Addr} {y : Nat} (h : x < y) : @LT.lt Nat instLTNat x y := h
section OwnKit
variable {p : Program} {l : Launch} {e : Env} {R : Room} {s : State} {m : MethodId} {args : Array Value} {below : List Frame} {meth : Method} {c : Code} {T : State} {locs : List Loc} {cells slots : Nat} {Z : State} {a0 : Array Value} {h h' : Heap} {Q : Option Value → Heap → List Loc → Prop}
/-- from U the run comes to its end, and what it leaves is Q's -/
def own_Goes (p : Program) (e : Env) (below : List Frame) (s : State) (R : Room) (Q : Option Value → Heap → List Loc → Prop) (U : State) : Prop :=
  ∃ s₂ o, Steps p.tables e below U s₂ ∧ s₂.status = .running ∧ Ended s₂ below o ∧ ∃ v L, o = .returned v ∧ Q v s₂.heap L ∧ FrameEnd s o s₂ L R.cells R.slots
theorem own_st {U U' : State} (k : ∀ t, Steps p.tables e below U' t → Steps p.tables e below U t) (g : own_Goes p e below s R Q U') : own_Goes p e below s R Q U := by
  obtain ⟨s₂, o, h1, h2⟩ := g
  exact ⟨s₂, o, k _ h1, h2⟩
theorem own_fin (X : Stand p l e R s m args below meth c T locs cells slots) (hk : meth.locks = false) {v : Option Value} (hv : meth.sig.returnType = none → v = none) {U : State}
    (hs : ∀ fs, (∀ (f : JFrame) (acts : List Action), f.method = m → f.locked = none → f.entered = [] → (doReturn e (T.setTop f) acts v).1 = T.setFrames fs) → Steps p.tables e below U (T.setFrames fs))
    (hc : cells ≤ R.cells) (hl : slots ≤ R.slots) (q : Q v T.heap locs) : own_Goes p e below s R Q U := by
  obtain ⟨fs, hr, hrun, hended, hW, hsame⟩ := X.leave hv hk
  exact ⟨_, _, hs fs hr, hrun, hended, v, locs, rfl, q, ⟨v, rfl⟩, hW, hsame.mono hc hl⟩
theorem own_ret (X : Stand p l e R s m args below meth c T locs cells slots) (hx : p.tables.exec = Jvm.exec) (hk : meth.locks = false) {pc : Nat} {Ls : Array Slot} {w : Value} {t : FieldType} {i : Instr} {rest : List Value} (hret : meth.sig.returnType = some t) (hn : narrow t w = w)
    (hi : (i = .ireturn ∧ (t = .int ∨ t = .boolean ∨ t = .byte ∨ t = .char ∨ t = .short) ∧ ∃ z, w = .int z) ∨ (i = .lreturn ∧ t = .long ∧ ∃ z, w = .long z) ∨ (i = .dreturn ∧ t = .double ∧ ∃ z, w = .double z) ∨ (i = .freturn ∧ t = .float ∧ ∃ z, w = .float z) ∨ (i = .areturn ∧ t.isReference = true ∧ w.isRef = true))
    (hd : decode c.code pc = .ok (i, 1)) (hc : cells ≤ R.cells) (hl : slots ≤ R.slots) (q : Q (some w) T.heap locs) : own_Goes p e below s R Q (T.setTop (mkF m pc Ls (w :: rest))) :=
  own_fin X hk (fun h => by rw [hret] at h; cases h) (fun fs hr => retOut X hx hret hn hi hd hr) hc hl q
theorem own_retI (X : Stand p l e R s m args below meth c T locs cells slots) (hx : p.tables.exec = Jvm.exec) (hk : meth.locks = false) {pc : Nat} {Ls : Array Slot} {z : Int32} {rest : List Value} (hret : meth.sig.returnType = some .int)
    (hd : decode c.code pc = .ok (.ireturn, 1)) (hc : cells ≤ R.cells) (hl : slots ≤ R.slots) (q : Q (some (.int z)) T.heap locs) : own_Goes p e below s R Q (T.setTop (mkF m pc Ls (.int z :: rest))) :=
  own_ret X hx hk hret rfl (Or.inl ⟨rfl, Or.inl rfl, z, rfl⟩) hd hc hl q
theorem own_retJ (X : Stand p l e R s m args below meth c T locs cells slots) (hx : p.tables.exec = Jvm.exec) (hk : meth.locks = false) {pc : Nat} {Ls : Array Slot} {z : Int64} {rest : List Value} (hret : meth.sig.returnType = some .long)
    (hd : decode c.code pc = .ok (.lreturn, 1)) (hc : cells ≤ R.cells) (hl : slots ≤ R.slots) (q : Q (some (.long z)) T.heap locs) : own_Goes p e below s R Q (T.setTop (mkF m pc Ls (.long z :: rest))) :=
  own_ret X hx hk hret rfl (Or.inr (Or.inl ⟨rfl, rfl, z, rfl⟩)) hd hc hl q
theorem own_narR {t : FieldType} (ht : t.isReference = true) {w : Value} (hw : w.isRef = true) : narrow t w = w := by
  rcases ref_cases hw with rfl | ⟨a, rfl⟩ <;> cases t <;> first | rfl | cases ht
theorem own_retR (X : Stand p l e R s m args below meth c T locs cells slots) (hx : p.tables.exec = Jvm.exec) (hk : meth.locks = false) {pc : Nat} {Ls : Array Slot} {w : Value} {t : FieldType} {rest : List Value} (hret : meth.sig.returnType = some t) (ht : t.isReference = true) (hw : w.isRef = true)
    (hd : decode c.code pc = .ok (.areturn, 1)) (hc : cells ≤ R.cells) (hl : slots ≤ R.slots) (q : Q (some w) T.heap locs) : own_Goes p e below s R Q (T.setTop (mkF m pc Ls (w :: rest))) :=
  own_ret X hx hk hret (own_narR ht hw) (Or.inr (Or.inr (Or.inr (Or.inr ⟨rfl, ht, hw⟩)))) hd hc hl q
theorem own_retN (X : Stand p l e R s m args below meth c T locs cells slots) (hx : p.tables.exec = Jvm.exec) (hk : meth.locks = false) {pc : Nat} {Ls : Array Slot} {z : Int32} (z' : Int32) {t : FieldType} {rest : List Value} (hret : meth.sig.returnType = some t) (ht : t = .boolean ∨ t = .byte ∨ t = .char ∨ t = .short) (hz : nar t z = z')
    (hd : decode c.code pc = .ok (.ireturn, 1)) (hc : cells ≤ R.cells) (hl : slots ≤ R.slots) (q : Q (some (.int z')) T.heap locs) : own_Goes p e below s R Q (T.setTop (mkF m pc Ls (.int z :: rest))) := by
  subst hz
  exact own_fin X hk (fun h => by rw [hret] at h; cases h) (fun fs hr => retN X hx hret ht hd hr) hc hl q
theorem own_ret0 (X : Stand p l e R s m args below meth c T locs cells slots) (hx : p.tables.exec = Jvm.exec) (hk : meth.locks = false) {pc : Nat} {Ls : Array Slot} (hret : meth.sig.returnType = none)
    (hd : decode c.code pc = .ok (.return_, 1)) (hc : cells ≤ R.cells) (hl : slots ≤ R.slots) (q : Q none T.heap locs) : own_Goes p e below s R Q (T.setTop (mkF m pc Ls [])) :=
  own_fin X hk (fun _ => rfl) (fun fs hr => X.returnOut hx hret hd hr) hc hl q
theorem own_enter {y : MethodName} {bytes : ByteArray} {maxL : Nat} {ret : Option FieldType} {ws : List Jvm.Cond} {as' : Array Value} {h0 : Heap} {F : MethodId → JFrame}
    (hp : plainFor y = true) (hf : ∀ m, entryFrame m as' maxL = F m)
    (body : ∀ (p : Program) (e : Env) (s : State) (m : MethodId) (below : List Frame) (meth : Method) (c : Code) (T : State), Stand p l e R s m as' below meth c T [] 0 0 → p.tables.exec = Jvm.exec → c.code = bytes → c.maxLocals = maxL → meth.sig.returnType = ret → meth.locks = false → meth.name = y.name → s.vm.findClass y.cls = some m.cls → Z.Warmed39 s.vm → T.heap = h0 → own_Goes p e below s R Q (T.setTop (F m))) :
    MetFree l y (head1 (Jvm.Cond.code y bytes maxL ret :: ws) R) (fun a U => a = as' ∧ Z.Warmed39 U.vm ∧ U.heap = h0) (fun _ _ _ _ _ => True) (fun _ U o U' => ∃ v L, o = .returned v ∧ Q v U'.heap L ∧ FrameEnd U o U' L R.cells R.slots) := by
  refine MetFree.of_bodySF hp hisR ?_
  intro p e s m args below meth c s₁ Bd hml0 hP hK
  obtain ⟨rfl, hZ, hh⟩ := hP
  have e0 : s₁.heap = h0 := by rw [← hh, Bd.state]; rfl
  have g := body p e s m below meth c s₁ (Stand.of_body Bd) Bd.exec Bd.bytes hml0 Bd.returns Bd.notSynchronized (name_of_methodNamed Bd.named Bd.method).1 (findClass_of_methodNamed Bd.named) hZ e0
  rw [hf]
  exact g
theorem own_callS (X : Stand p l e R s m args below meth c T locs cells slots) (hx : p.tables.exec = Jvm.exec) (hZ : Z.Warmed39 s.vm) {own : String} {index : Nat} {y : MethodName} {bytes : ByteArray} {maxL : Nat} {ret : Option FieldType}
    (hown : s.vm.findClass own = some m.cls) (w1 : (Jvm.Cond.methodLink own index y).before a0 Z = true) (w2 : (Jvm.Cond.static y).before a0 Z = true) (w3 : (Jvm.Cond.initialized y.cls).before a0 Z = true) (w4 : (Jvm.Cond.code y bytes maxL ret).before a0 Z = true)
    (hy : y.cls ≠ "java/lang/invoke/MethodHandle" ∧ y.cls ≠ "java/lang/invoke/VarHandle") {W : Nat} {rm : Room} {argsL rest : List Value} {Qc : Option Value → Heap → List Loc → Prop}
    (hM : MetFree l y (head1 [Jvm.Cond.code y bytes maxL ret] rm) (fun a U => a = argsL.toArray ∧ Z.Warmed39 U.vm ∧ U.heap = h) (fun _ _ _ _ _ => True) (fun _ U o U' => ∃ v L, o = .returned v ∧ Qc v U'.heap L ∧ FrameEnd U o U' L rm.cells rm.slots))
    (hf : rm.frames + 1 ≤ R.frames) (hl : W + (maxL + 11) + rm.locals ≤ R.locals) (hc : cells + rm.cells ≤ R.cells) (hs : slots + rm.slots ≤ R.slots) (eT : T.heap = h)
    {ps : List FieldType} {r : Option FieldType} (hd : parseMethodDescriptor y.desc = some ⟨ps, r⟩) (hlen : argsL.length = ps.length)
    {g : JFrame} (hg : g.method = m) (hsize : g.locals.size = c.maxLocals) (hstack : g.stack = argsL.reverse ++ rest) (hW : 2 * g.monitorRoom + (rest.map fun v => v.category).sum ≤ W) (hdg : decode c.code g.pc = .ok (.invokestatic index, 3)) :
    ∃ (v : Option Value) (T' : State) (L : List Loc), Stand p l e R s m args below meth c T' (locs ++ L) (cells + rm.cells) (slots + rm.slots) ∧ Qc v T'.heap L ∧ ∀ t, Steps p.tables e below (T'.setTop { g with pc := g.pc + 3, stack := v.toList ++ rest }) t → Steps p.tables e below (T.setTop g) t := by
  obtain ⟨v, _, ⟨T', L', k', n'⟩, -, X', ⟨Lc, hQ, l', y', z'⟩, st⟩ := Jvm.LawKit.callS X hx (y := y) hown (mvT hZ w1) (mvT hZ w2) (mvT hZ w3) (mvT hZ w4) hy (backOf (W := W) hM hZ w4 w3 hf hl) hg hsize (argsL := argsL) (rest := rest) (lenOf hd hlen) hstack hW hdg (fun _ _ => ⟨rfl, eT, hc, hs⟩)
  dsimp only [Pt.U, Pt.locs, Pt.cells, Pt.slots] at X' l' y' z' st hQ
  subst l' y' z'
  exact ⟨v, T', Lc, X', hQ, st⟩
theorem own_callI (X : Stand p l e R s m args below meth c T locs cells slots) (hx : p.tables.exec = Jvm.exec) (hZ : Z.Warmed39 s.vm) {own : String} {index : Nat} {y : MethodName} {bytes : ByteArray} {maxL : Nat}
    (hown : s.vm.findClass own = some m.cls) (w1 : (Jvm.Cond.methodLink own index y).before a0 Z = true) (w2 : (Jvm.Cond.instanceMethod y).before a0 Z = true) (w3 : (Jvm.Cond.initialized y.cls).before a0 Z = true) (w4 : (Jvm.Cond.code y bytes maxL none).before a0 Z = true) (hy1 : y.name = "<init>")
    (hy : y.cls ≠ "java/lang/invoke/MethodHandle" ∧ y.cls ≠ "java/lang/invoke/VarHandle") {W : Nat} {rm : Room} {a : Addr} {argsL rest : List Value} {Qc : Option Value → Heap → List Loc → Prop}
    (hM : MetFree l y (head1 [Jvm.Cond.code y bytes maxL none] rm) (fun b U => b = (Value.ref a :: argsL).toArray ∧ Z.Warmed39 U.vm ∧ U.heap = h) (fun _ _ _ _ _ => True) (fun _ U o U' => ∃ v L, o = .returned v ∧ Qc v U'.heap L ∧ FrameEnd U o U' L rm.cells rm.slots))
    (hf : rm.frames + 1 ≤ R.frames) (hl : W + (maxL + 11) + rm.locals ≤ R.locals) (hc : cells + rm.cells ≤ R.cells) (hs : slots + rm.slots ≤ R.slots) (eT : T.heap = h)
    {ps : List FieldType} {r : Option FieldType} (hd : parseMethodDescriptor y.desc = some ⟨ps, r⟩) (hlen : argsL.length = ps.length)
    {g : JFrame} (hg : g.method = m) (hsize : g.locals.size = c.maxLocals) (hstack : g.stack = argsL.reverse ++ .ref a :: rest) (hW : 2 * g.monitorRoom + (rest.map fun v => v.category).sum ≤ W) (hdg : decode c.code g.pc = .ok (.invokespecial index, 3)) :
    ∃ (v : Option Value) (T' : State) (L : List Loc), Stand p l e R s m args below meth c T' (locs ++ L) (cells + rm.cells) (slots + rm.slots) ∧ Qc v T'.heap L ∧ ∀ t, Steps p.tables e below (T'.setTop { g with pc := g.pc + 3, stack := v.toList ++ rest }) t → Steps p.tables e below (T.setTop g) t := by
  obtain ⟨v, _, ⟨T', L', k', n'⟩, -, X', ⟨Lc, hQ, l', y', z'⟩, st⟩ := X.specialBack hx (y := y) hy1 hown (mvT hZ w1) (mvT hZ w2) (mvT hZ w4) hy (backOf (W := W) hM hZ w4 w3 hf hl) hg hsize (Steps.refl _) (a := a) (argsL := argsL) (rest := rest) (lenOf hd hlen) hstack hW hdg (fun _ _ => ⟨rfl, eT, hc, hs⟩)
  dsimp only [Pt.U, Pt.locs, Pt.cells, Pt.slots] at X' l' y' z' st hQ
  subst l' y' z'
  exact ⟨v, T', Lc, X', hQ, fun t k => st.trans k⟩
theorem own_callV (X : Stand p l e R s m args below meth c T locs cells slots) (hx : p.tables.exec = Jvm.exec) (hZ : Z.Warmed39 s.vm) {own C : String} {index : Nat} {y : MethodName} {bytes : ByteArray} {maxL : Nat} {ret : Option FieldType}
    (hown : s.vm.findClass own = some m.cls) (w1 : (Jvm.Cond.methodLink own index y).before a0 Z = true) (w5 : (Jvm.Cond.declares y).before a0 Z = true) (w6 : (Jvm.Cond.selects C y y).before a0 Z = true) (w2 : (Jvm.Cond.instanceMethod y).before a0 Z = true) (w3 : (Jvm.Cond.initialized y.cls).before a0 Z = true) (w4 : (Jvm.Cond.code y bytes maxL ret).before a0 Z = true)
    (hy : y.cls ≠ "java/lang/invoke/MethodHandle" ∧ y.cls ≠ "java/lang/invoke/VarHandle") {W : Nat} {rm : Room} {a : Addr} {argsL rest : List Value} {Qc : Option Value → Heap → List Loc → Prop}
    (hM : MetFree l y (head1 [Jvm.Cond.code y bytes maxL ret] rm) (fun b U => b = (Value.ref a :: argsL).toArray ∧ Z.Warmed39 U.vm ∧ U.heap = h) (fun _ _ _ _ _ => True) (fun _ U o U' => ∃ v L, o = .returned v ∧ Qc v U'.heap L ∧ FrameEnd U o U' L rm.cells rm.slots))
    (hf : rm.frames + 1 ≤ R.frames) (hl : W + (maxL + 11) + rm.locals ≤ R.locals) (hc : cells + rm.cells ≤ R.cells) (hs : slots + rm.slots ≤ R.slots) (eT : T.heap = h) (E : Exa Z h a C)
    {ps : List FieldType} {r : Option FieldType} (hd : parseMethodDescriptor y.desc = some ⟨ps, r⟩) (hlen : argsL.length = ps.length)
    {g : JFrame} (hg : g.method = m) (hsize : g.locals.size = c.maxLocals) (hstack : g.stack = argsL.reverse ++ .ref a :: rest) (hW : 2 * g.monitorRoom + (rest.map fun v => v.category).sum ≤ W) (hdg : decode c.code g.pc = .ok (.invokevirtual index, 3)) :
    ∃ (v : Option Value) (T' : State) (L : List Loc), Stand p l e R s m args below meth c T' (locs ++ L) (cells + rm.cells) (slots + rm.slots) ∧ Qc v T'.heap L ∧ ∀ t, Steps p.tables e below (T'.setTop { g with pc := g.pc + 3, stack := v.toList ++ rest }) t → Steps p.tables e below (T.setTop g) t := by
  obtain ⟨cq, kq, qa, qb, qc⟩ := isOf hZ eT E
  obtain ⟨v, _, ⟨T', L', k', n'⟩, -, X', ⟨Lc, hQ, l', y', z'⟩, st⟩ := X.virtualBack hx (y := y) (z := y) hown (mvT hZ w1) (mvT hZ w5) (notFace_of_selects (args := #[]) (mvT hZ w6)) (mvT hZ w6) (mvT hZ w2) hy (backOf (W := W) hM hZ w4 w3 hf hl) qa qc hg hsize (Steps.refl _) (argsL := argsL) (rest := rest) (lenOf hd hlen) hstack hW hdg (fun _ _ => ⟨rfl, eT, hc, hs⟩)
  dsimp only [Pt.U, Pt.locs, Pt.cells, Pt.slots] at X' l' y' z' st hQ
  subst l' y' z'
  exact ⟨v, T', Lc, X', hQ, fun t k => st.trans k⟩
theorem own_callP (X : Stand p l e R s m args below meth c T locs cells slots) (hx : p.tables.exec = Jvm.exec) (hZ : Z.Warmed39 s.vm) {own : String} {index : Nat} {y : MethodName} {bytes : ByteArray} {maxL : Nat} {ret : Option FieldType}
    (hown : s.vm.findClass own = some m.cls) (w1 : (Jvm.Cond.methodLink own index y).before a0 Z = true) (w5 : (Jvm.Cond.privateMethod y).before a0 Z = true) {ki : Nat} (w6 : (Jvm.Cond.instantiable y.cls ki).before a0 Z = true) (w2 : (Jvm.Cond.instanceMethod y).before a0 Z = true) (w3 : (Jvm.Cond.initialized y.cls).before a0 Z = true) (w4 : (Jvm.Cond.code y bytes maxL ret).before a0 Z = true)
    (hy : y.cls ≠ "java/lang/invoke/MethodHandle" ∧ y.cls ≠ "java/lang/invoke/VarHandle") {W : Nat} {rm : Room} {a : Addr} {argsL rest : List Value} {Qc : Option Value → Heap → List Loc → Prop} {C : String}
    (hM : MetFree l y (head1 [Jvm.Cond.code y bytes maxL ret] rm) (fun b U => b = (Value.ref a :: argsL).toArray ∧ Z.Warmed39 U.vm ∧ U.heap = h) (fun _ _ _ _ _ => True) (fun _ U o U' => ∃ v L, o = .returned v ∧ Qc v U'.heap L ∧ FrameEnd U o U' L rm.cells rm.slots))
    (hf : rm.frames + 1 ≤ R.frames) (hl : W + (maxL + 11) + rm.locals ≤ R.locals) (hc : cells + rm.cells ≤ R.cells) (hs : slots + rm.slots ≤ R.slots) (eT : T.heap = h) (E : Exa Z h a C)
    {ps : List FieldType} {r : Option FieldType} (hd : parseMethodDescriptor y.desc = some ⟨ps, r⟩) (hlen : argsL.length = ps.length)
    {g : JFrame} (hg : g.method = m) (hsize : g.locals.size = c.maxLocals) (hstack : g.stack = argsL.reverse ++ .ref a :: rest) (hW : 2 * g.monitorRoom + (rest.map fun v => v.category).sum ≤ W) (hdg : decode c.code g.pc = .ok (.invokevirtual index, 3)) :
    ∃ (v : Option Value) (T' : State) (L : List Loc), Stand p l e R s m args below meth c T' (locs ++ L) (cells + rm.cells) (slots + rm.slots) ∧ Qc v T'.heap L ∧ ∀ t, Steps p.tables e below (T'.setTop { g with pc := g.pc + 3, stack := v.toList ++ rest }) t → Steps p.tables e below (T.setTop g) t := by
  obtain ⟨cq, q1, q2⟩ := E.cell
  have hsel : (Jvm.Cond.selects y.cls y y).before args s = true := by
    obtain ⟨c2, k2, i1, i2, i3, i4, -⟩ := Cond.instantiable_spec (mv hZ w6 (args := args))
    exact selects_self_of_private i1 i2 (Bool.or_eq_false_iff.mp i4).1 (Cond.privateMethod_at (mvP hZ w5 (args := #[]))) (mvT hZ w2) hy
  obtain ⟨v, _, ⟨T', L', k', n'⟩, -, X', ⟨Lc, hQ, l', y', z'⟩, st⟩ := X.privateBack hx (y := y) hown (mvT hZ w1) (mvT hZ w2) hsel (Cond.privateMethod_at (mvP hZ w5 (args := #[]))) (mvT hZ w4) hy (backOf (W := W) hM hZ w4 w3 hf hl) hg hsize (Steps.refl _) (a := a) (by rw [eT]; exact q1) q2 (argsL := argsL) (rest := rest) (lenOf hd hlen) hstack hW hdg (fun _ _ => ⟨rfl, eT, hc, hs⟩)
  dsimp only [Pt.U, Pt.locs, Pt.cells, Pt.slots] at X' l' y' z' st hQ
  subst l' y' z'
  exact ⟨v, T', Lc, X', hQ, fun t k => st.trans k⟩
theorem own_sta_keep {C n d : String} {w : Value} {ws : List Addr} (F : Sta Z h C n d w) (K : Keep h h' ws) (q : ∀ x ∈ ws, ∀ c : Cell, h[x]? = some c → c.vm.isStatics = false) : Sta Z h' C n d w := by
  obtain ⟨cf, i, k, f, st, cell, h1, h2, h3, h4, h5, h6, h7⟩ := F
  exact ⟨cf, i, k, f, st, cell, h1, h2, h3, h4, K.2.1 _ _ h5 (fun hx => by have := q st hx cell h5; rw [this] at h6; cases h6), h6, h7⟩
theorem own_ext_keep (E : Ext h h') (ws : List Addr) : Keep h h' ws := (Keep.refl h ws).ext E
/-- an array at a: n places, the j-th holds f j -/
def own_Arf (Z : State) (h : Heap) (a : Addr) (ty : FieldType) (n : Nat) (f : Nat → Value) : Prop := ∃ c : Cell, Arr Z h a c ty ∧ c.slots.size = n ∧ ∀ j, j < n → c.slots[j]? = some (f j)
theorem own_Arf.lt {a : Nat} {ty : FieldType} {n : Nat} {f : Nat → Value} (F : own_Arf Z h a ty n f) : a < h.size := by obtain ⟨c, A, -⟩ := F; exact A.lt
theorem own_Arf.ext {a : Addr} {ty : FieldType} {n : Nat} {f : Nat → Value} (F : own_Arf Z h a ty n f) (E : Ext h h') : own_Arf Z h' a ty n f := by obtain ⟨c, A, r⟩ := F; exact ⟨c, A.ext E, r⟩
theorem own_Arf.other {a b : Addr} {ty : FieldType} {n : Nat} {f : Nat → Value} {sl : Nat} {v : Value} (F : own_Arf Z h b ty n f) (W : Wr h h' a sl v) (q : b ≠ a) : own_Arf Z h' b ty n f := by obtain ⟨c, A, r⟩ := F; exact ⟨c, A.other W q, r⟩
theorem own_Arf.keep {a : Addr} {ty : FieldType} {n : Nat} {f : Nat → Value} {ws : List Addr} (F : own_Arf Z h a ty n f) (K : Keep h h' ws) (q : a ∉ ws) : own_Arf Z h' a ty n f := by obtain ⟨c, A, r⟩ := F; exact ⟨c, ⟨K.2.1 a c A.1 q, A.2⟩, r⟩
theorem own_Arf.congr {a : Addr} {ty : FieldType} {n : Nat} {f f' : Nat → Value} (F : own_Arf Z h a ty n f) (q : ∀ j, j < n → f j = f' j) : own_Arf Z h a ty n f' := by obtain ⟨c, A, r1, r2⟩ := F; exact ⟨c, A, r1, fun j hj => by rw [← q j hj]; exact r2 j hj⟩
theorem own_Arf.set {a : Addr} {ty : FieldType} {n : Nat} {f : Nat → Value} {i : Nat} {v : Value} (F : own_Arf Z h a ty n f) (W : Wr h h' a i v) : own_Arf Z h' a ty n (fun k => if k = i then v else f k) := by
  obtain ⟨c, A, r1, r2⟩ := F
  refine ⟨c.setSlot i v, A.same W, by rw [sz_set]; exact r1, fun j hj => ?_⟩
  show (c.slots.setIfInBounds i v)[j]? = some (if j = i then v else f j)
  by_cases q : j = i
  · subst q
    simp [r1, hj]
  · rw [Array.getElem?_setIfInBounds_ne (Ne.symm q), if_neg q]
    exact r2 j hj
theorem own_Arf.setI {a : Addr} {ty : FieldType} {n : Nat} {f : Nat → Int32} {i : Nat} {x : Int32} (F : own_Arf Z h a ty n (fun k => .int (f k))) (W : Wr h h' a i (.int x)) : own_Arf Z h' a ty n (fun k => .int (if k = i then x else f k)) :=
  (own_Arf.set F W).congr fun k _ => by show (if k = i then Value.int x else .int (f k)) = .int (if k = i then x else f k); split <;> rfl
theorem own_Arf.setJ {a : Addr} {ty : FieldType} {n : Nat} {f : Nat → Int64} {i : Nat} {x : Int64} (F : own_Arf Z h a ty n (fun k => .long (f k))) (W : Wr h h' a i (.long x)) : own_Arf Z h' a ty n (fun k => .long (if k = i then x else f k)) :=
  (own_Arf.set F W).congr fun k _ => by show (if k = i then Value.long x else .long (f k)) = .long (if k = i then x else f k); split <;> rfl
theorem own_inb {c : Cell} {n : Nat} {j : Int32} (S : c.slots.size = n) (q : 0 ≤ j.toInt ∧ j.toInt < (n : Int)) : ¬ (j < 0 ∨ c.slots.size ≤ j.toNatClampNeg) := by
  rw [S]
  rintro (q1 | q1)
  · have := Int32.lt_iff_toInt_lt.mp q1
    simp at this
    omega
  · have h1 : j.toNatClampNeg = j.toInt.toNat := rfl
    omega
theorem own_idx {n : Nat} {j : Int32} (q : 0 ≤ j.toInt ∧ j.toInt < (n : Int)) : j.toNatClampNeg < n := by
  have h1 : j.toNatClampNeg = j.toInt.toNat := rfl
  omega
theorem own_newP (X : Stand p l e R s m args below meth c T locs cells slots) (hx : p.tables.exec = Jvm.exec) (hZ : Z.Warmed39 s.vm) {aty : ArrayType} (w : (Jvm.Cond.arrayClass (newarray.typeOf aty)).before a0 Z = true) (eT : T.heap = h) {g : JFrame} (hg : g.method = m) (hd : decode c.code g.pc = .ok (.newarray aty, 2)) {n : Int32} {rest : List Value} (hs : g.stack = .int n :: rest)
    (hn : ¬ n < 0) {cap : Nat} (hcap : n.toNatClampNeg ≤ cap) (hb : cap * 8 ≤ 536870912) (hc : cells + 1 ≤ R.cells) (hl : slots + cap ≤ R.slots) :
    ∃ T' h', Stand p l e R s m args below meth c T' locs (cells + 1) (slots + cap) ∧ T'.heap = h' ∧ Ext h h' ∧ own_Arf Z h' h.size (newarray.typeOf aty) n.toNatClampNeg (fun _ => defaultValue (newarray.typeOf aty)) ∧
      ∀ target, Steps p.tables e below (T'.setTop { g with pc := g.pc + 2, stack := .ref h.size :: rest }) target → Steps p.tables e below (T.setTop g) target := by
  obtain ⟨T', h', cA, X', e', E', A', st⟩ := newP X hx hZ w eT hg hd hs hn hcap hb hc hl
  refine ⟨T', h', X', e', E', ⟨_, A', sz_new _ _ _, fun j hj => ?_⟩, st⟩
  simp [newA, hj]
theorem own_newPE (X : Stand p l e R s m args below meth c T locs cells slots) (hx : p.tables.exec = Jvm.exec) (hZ : Z.Warmed39 s.vm) {aty : ArrayType} (w : (Jvm.Cond.arrayClass (newarray.typeOf aty)).before a0 Z = true) (eT : T.heap = h) {g : JFrame} (hg : g.method = m) (hd : decode c.code g.pc = .ok (.newarray aty, 2)) {n : Int32} {rest : List Value} (hs : g.stack = .int n :: rest)
    (hn : ¬ n < 0) {cap : Nat} (hcap : n.toNatClampNeg ≤ cap) (hb : cap * 8 ≤ 536870912) (hc : cells + 1 ≤ R.cells) (hl : slots + cap ≤ R.slots) {ad : String} (had : "[" ++ (newarray.typeOf aty).toString = ad) :
    ∃ T' h', Stand p l e R s m args below meth c T' locs (cells + 1) (slots + cap) ∧ T'.heap = h' ∧ Ext h h' ∧ own_Arf Z h' h.size (newarray.typeOf aty) n.toNatClampNeg (fun _ => defaultValue (newarray.typeOf aty)) ∧ Exa Z h' h.size ad ∧
      ∀ target, Steps p.tables e below (T'.setTop { g with pc := g.pc + 2, stack := .ref h.size :: rest }) target → Steps p.tables e below (T.setTop g) target := by
  obtain ⟨T', h', cA, X', e', E', A', Ex, st⟩ := newPE X hx hZ w eT hg hd hs hn hcap hb hc hl had
  refine ⟨T', h', X', e', E', ⟨_, A', sz_new _ _ _, fun j hj => ?_⟩, Ex, st⟩
  simp [newA, hj]
theorem own_cloneA (X : Stand p l e R s m args below meth c T locs cells slots) (hx : p.tables.exec = Jvm.exec) (hZ : Z.Warmed39 s.vm) {own ad : String} {index : Nat} (hown : s.vm.findClass own = some m.cls)
    (w1 : (Jvm.Cond.methodLink own index ⟨ad, "clone", "()Ljava/lang/Object;"⟩).before a0 Z = true) (w2 : (Jvm.Cond.sameMethod ad "java/lang/Object" "clone" "()Ljava/lang/Object;").before a0 Z = true) (w3 : (Jvm.Cond.native ⟨"java/lang/Object", "clone", "()Ljava/lang/Object;"⟩).before a0 Z = true)
    (w4 : (Jvm.Cond.instanceMethod ⟨"java/lang/Object", "clone", "()Ljava/lang/Object;"⟩).before a0 Z = true) (w5 : (Jvm.Cond.selects ad ⟨ad, "clone", "()Ljava/lang/Object;"⟩ ⟨"java/lang/Object", "clone", "()Ljava/lang/Object;"⟩).before a0 Z = true) (w6 : (Jvm.Cond.castable ad "java/lang/Cloneable").before a0 Z = true)
    (eT : T.heap = h) {a : Addr} {ty : FieldType} {n : Nat} {f : Nat → Value} (A : own_Arf Z h a ty n f) (E : Exa Z h a ad) (hfit : ∀ k, k < n → fits ty (f k) = true) {g : JFrame} (hg : g.method = m) (hsize : g.locals.size = c.maxLocals) {rest : List Value} (hs : g.stack = .ref a :: rest) (hd : decode c.code g.pc = .ok (.invokevirtual index, 3))
    (hf : 1 ≤ R.frames) {W : Nat} (hW : 2 * g.monitorRoom + (rest.map fun v => v.category).sum ≤ W) (hl : W + 14 ≤ R.locals) (hc : cells + 1 ≤ R.cells) (hsl : slots + n ≤ R.slots) :
    ∃ T' h', Stand p l e R s m args below meth c T' locs (cells + 1) (slots + n) ∧ T'.heap = h' ∧ Ext h h' ∧ own_Arf Z h' h.size ty n f ∧ Exa Z h' h.size ad ∧
      ∀ target, Steps p.tables e below (T'.setTop { g with pc := g.pc + 3, stack := .ref h.size :: rest }) target → Steps p.tables e below (T.setTop g) target := by
  obtain ⟨cl, A1, A2, A3⟩ := A
  have FC : FitC Z cl := fitC_of A1 fun i hi v hv => by
    rw [A3 i (by omega)] at hv
    cases hv
    exact hfit i (by omega)
  obtain ⟨T', h', X', e', ex, A', E', st⟩ := cloneA X hx hZ hown w1 w2 w3 w4 w5 w6 eT A1 E FC hg hsize hs hd hf hW hl (Nat.le_of_eq A2) hc hsl
  exact ⟨T', h', X', e', ex, ⟨cloneOf cl, A', A2, A3⟩, E', st⟩
theorem own_len (X : Stand p l e R s m args below meth c T locs cells slots) (hx : p.tables.exec = Jvm.exec) (hZ : Z.Warmed39 s.vm) (eT : T.heap = h) {a : Addr} {ty : FieldType} {n : Nat} {f : Nat → Value} (A : own_Arf Z h a ty n f) {g : JFrame} (hg : g.method = m) {rest : List Value} (hs : g.stack = .ref a :: rest) (hd : decode c.code g.pc = .ok (.arraylength, 1)) :
    ∀ t, Steps p.tables e below (T.setTop { g with pc := g.pc + 1, stack := .int n.toInt32 :: rest }) t → Steps p.tables e below (T.setTop g) t := by
  obtain ⟨cl, A1, A2, A3⟩ := A
  intro t k
  subst A2
  exact X.arraylength hx (by rw [eT]; exact A1.1) (State.isArrayOf_alike hZ.alike A1.2.1) hg hs hd _ k
theorem own_ldI (X : Stand p l e R s m args below meth c T locs cells slots) (hx : p.tables.exec = Jvm.exec) (hZ : Z.Warmed39 s.vm) (eT : T.heap = h) {a : Addr} {n : Nat} {f : Nat → Int32} (A : own_Arf Z h a .int n (fun k => .int (f k))) {j : Int32} (q : 0 ≤ j.toInt ∧ j.toInt < (n : Int)) {g : JFrame} (hg : g.method = m) {rest : List Value} (hs : g.stack = .int j :: .ref a :: rest) (hd : decode c.code g.pc = .ok (.iaload, 1)) :
    ∀ t, Steps p.tables e below (T.setTop { g with pc := g.pc + 1, stack := .int (f j.toNatClampNeg) :: rest }) t → Steps p.tables e below (T.setTop g) t := by
  obtain ⟨cl, A1, A2, A3⟩ := A
  exact fun t k => X.iaload hx (by rw [eT]; exact A1.1) (State.isArrayOf_alike hZ.alike A1.2.1) A1.2.2 (own_inb A2 q) (A3 _ (own_idx q)) hg hs hd _ k
theorem own_ldJ (X : Stand p l e R s m args below meth c T locs cells slots) (hx : p.tables.exec = Jvm.exec) (hZ : Z.Warmed39 s.vm) (eT : T.heap = h) {a : Addr} {n : Nat} {f : Nat → Int64} (A : own_Arf Z h a .long n (fun k => .long (f k))) {j : Int32} (q : 0 ≤ j.toInt ∧ j.toInt < (n : Int)) {g : JFrame} (hg : g.method = m) {rest : List Value} (hs : g.stack = .int j :: .ref a :: rest) (hd : decode c.code g.pc = .ok (.laload, 1)) :
    ∀ t, Steps p.tables e below (T.setTop { g with pc := g.pc + 1, stack := .long (f j.toNatClampNeg) :: rest }) t → Steps p.tables e below (T.setTop g) t := by
  obtain ⟨cl, A1, A2, A3⟩ := A
  exact fun t k => X.laload hx (by rw [eT]; exact A1.1) (State.isArrayOf_alike hZ.alike A1.2.1) A1.2.2 (own_inb A2 q) (A3 _ (own_idx q)) hg hs hd _ k
theorem own_ldC (X : Stand p l e R s m args below meth c T locs cells slots) (hx : p.tables.exec = Jvm.exec) (hZ : Z.Warmed39 s.vm) (eT : T.heap = h) {a : Addr} {n : Nat} {f : Nat → Int32} (A : own_Arf Z h a .char n (fun k => .int (f k))) {j : Int32} (q : 0 ≤ j.toInt ∧ j.toInt < (n : Int)) {g : JFrame} (hg : g.method = m) {rest : List Value} (hs : g.stack = .int j :: .ref a :: rest) (hd : decode c.code g.pc = .ok (.caload, 1)) :
    ∀ t, Steps p.tables e below (T.setTop { g with pc := g.pc + 1, stack := .int (f j.toNatClampNeg) :: rest }) t → Steps p.tables e below (T.setTop g) t := by
  obtain ⟨cl, A1, A2, A3⟩ := A
  exact fun t k => X.caload hx (by rw [eT]; exact A1.1) (State.isArrayOf_alike hZ.alike A1.2.1) A1.2.2 (own_inb A2 q) (A3 _ (own_idx q)) hg hs hd _ k
theorem own_ldS (X : Stand p l e R s m args below meth c T locs cells slots) (hx : p.tables.exec = Jvm.exec) (hZ : Z.Warmed39 s.vm) (eT : T.heap = h) {a : Addr} {n : Nat} {f : Nat → Int32} (A : own_Arf Z h a .short n (fun k => .int (f k))) {j : Int32} (q : 0 ≤ j.toInt ∧ j.toInt < (n : Int)) {g : JFrame} (hg : g.method = m) {rest : List Value} (hs : g.stack = .int j :: .ref a :: rest) (hd : decode c.code g.pc = .ok (.saload, 1)) :
    ∀ t, Steps p.tables e below (T.setTop { g with pc := g.pc + 1, stack := .int (f j.toNatClampNeg) :: rest }) t → Steps p.tables e below (T.setTop g) t := by
  obtain ⟨cl, A1, A2, A3⟩ := A
  exact fun t k => X.saload hx (by rw [eT]; exact A1.1) (State.isArrayOf_alike hZ.alike A1.2.1) A1.2.2 (own_inb A2 q) (A3 _ (own_idx q)) hg hs hd _ k
theorem own_ldB (X : Stand p l e R s m args below meth c T locs cells slots) (hx : p.tables.exec = Jvm.exec) (hZ : Z.Warmed39 s.vm) (eT : T.heap = h) {a : Addr} {n : Nat} {f : Nat → Int32} (A : own_Arf Z h a .byte n (fun k => .int (f k))) {j : Int32} (q : 0 ≤ j.toInt ∧ j.toInt < (n : Int)) {g : JFrame} (hg : g.method = m) {rest : List Value} (hs : g.stack = .int j :: .ref a :: rest) (hd : decode c.code g.pc = .ok (.baload, 1)) :
    ∀ t, Steps p.tables e below (T.setTop { g with pc := g.pc + 1, stack := .int (f j.toNatClampNeg) :: rest }) t → Steps p.tables e below (T.setTop g) t := by
  obtain ⟨cl, A1, A2, A3⟩ := A
  exact fun t k => X.baloadBytes hx (by rw [eT]; exact A1.1) (State.isArrayOf_alike hZ.alike A1.2.1) A1.2.2 (own_inb A2 q) (A3 _ (own_idx q)) hg hs hd _ k
theorem own_ldR (X : Stand p l e R s m args below meth c T locs cells slots) (hx : p.tables.exec = Jvm.exec) (hZ : Z.Warmed39 s.vm) (eT : T.heap = h) {a : Addr} {ty : FieldType} (hty : ty.isReference = true) {n : Nat} {f : Nat → Value} (A : own_Arf Z h a ty n f) {j : Int32} (q : 0 ≤ j.toInt ∧ j.toInt < (n : Int)) {g : JFrame} (hg : g.method = m) {rest : List Value} (hs : g.stack = .int j :: .ref a :: rest) (hd : decode c.code g.pc = .ok (.aaload, 1)) :
    ∀ t, Steps p.tables e below (T.setTop { g with pc := g.pc + 1, stack := f j.toNatClampNeg :: rest }) t → Steps p.tables e below (T.setTop g) t := by
  obtain ⟨cl, A1, A2, A3⟩ := A
  exact fun t k => X.aaload hx (by rw [eT]; exact A1.1) (State.isArrayOf_alike hZ.alike A1.2.1) hty A1.2.2 (own_inb A2 q) (A3 _ (own_idx q)) hg hs hd _ k
theorem own_stI (X : Stand p l e R s m args below meth c T locs cells slots) (hx : p.tables.exec = Jvm.exec) (hZ : Z.Warmed39 s.vm) (eT : T.heap = h) {a : Addr} {n : Nat} {f : Nat → Int32} (A : own_Arf Z h a .int n (fun k => .int (f k))) {j x : Int32} (q : 0 ≤ j.toInt ∧ j.toInt < (n : Int)) {g : JFrame} (hg : g.method = m) {rest : List Value} (hs : g.stack = .int x :: .int j :: .ref a :: rest) (hd : decode c.code g.pc = .ok (.iastore, 1)) :
    ∃ T' h', Stand p l e R s m args below meth c T' (locs ++ [⟨a, j.toNatClampNeg⟩]) cells slots ∧ T'.heap = h' ∧ Wr h h' a j.toNatClampNeg (.int x) ∧ own_Arf Z h' a .int n (fun k => .int (if k = j.toNatClampNeg then x else f k)) ∧ ∀ t, Steps p.tables e below (T'.setTop { g with pc := g.pc + 1, stack := rest }) t → Steps p.tables e below (T.setTop g) t := by
  obtain ⟨cl, A1, A2, A3⟩ := id A
  obtain ⟨T', h', X', e', W, st⟩ := stI X hx hZ eT A1 (own_inb A2 q) hg hs hd
  exact ⟨T', h', X', e', W, own_Arf.setI A W, st⟩
theorem own_stJ (X : Stand p l e R s m args below meth c T locs cells slots) (hx : p.tables.exec = Jvm.exec) (hZ : Z.Warmed39 s.vm) (eT : T.heap = h) {a : Addr} {n : Nat} {f : Nat → Int64} (A : own_Arf Z h a .long n (fun k => .long (f k))) {j : Int32} {x : Int64} (q : 0 ≤ j.toInt ∧ j.toInt < (n : Int)) {g : JFrame} (hg : g.method = m) {rest : List Value} (hs : g.stack = .long x :: .int j :: .ref a :: rest) (hd : decode c.code g.pc = .ok (.lastore, 1)) :
    ∃ T' h', Stand p l e R s m args below meth c T' (locs ++ [⟨a, j.toNatClampNeg⟩]) cells slots ∧ T'.heap = h' ∧ Wr h h' a j.toNatClampNeg (.long x) ∧ own_Arf Z h' a .long n (fun k => .long (if k = j.toNatClampNeg then x else f k)) ∧ ∀ t, Steps p.tables e below (T'.setTop { g with pc := g.pc + 1, stack := rest }) t → Steps p.tables e below (T.setTop g) t := by
  obtain ⟨cl, A1, A2, A3⟩ := id A
  obtain ⟨T', h', X', e', W, st⟩ := stJ X hx hZ eT A1 (own_inb A2 q) hg hs hd
  exact ⟨T', h', X', e', W, own_Arf.setJ A W, st⟩
theorem own_stC (X : Stand p l e R s m args below meth c T locs cells slots) (hx : p.tables.exec = Jvm.exec) (hZ : Z.Warmed39 s.vm) (eT : T.heap = h) {a : Addr} {n : Nat} {f : Nat → Int32} (A : own_Arf Z h a .char n (fun k => .int (f k))) {j x : Int32} (q : 0 ≤ j.toInt ∧ j.toInt < (n : Int)) {g : JFrame} (hg : g.method = m) {rest : List Value} (hs : g.stack = .int x :: .int j :: .ref a :: rest) (hd : decode c.code g.pc = .ok (.castore, 1)) :
    ∃ T' h', Stand p l e R s m args below meth c T' (locs ++ [⟨a, j.toNatClampNeg⟩]) cells slots ∧ T'.heap = h' ∧ Wr h h' a j.toNatClampNeg (.int (nar .char x)) ∧ own_Arf Z h' a .char n (fun k => .int (if k = j.toNatClampNeg then nar .char x else f k)) ∧ ∀ t, Steps p.tables e below (T'.setTop { g with pc := g.pc + 1, stack := rest }) t → Steps p.tables e below (T.setTop g) t := by
  obtain ⟨cl, A1, A2, A3⟩ := id A
  obtain ⟨T', h', X', e', W, st⟩ := stC X hx hZ eT A1 (own_inb A2 q) hg hs hd
  exact ⟨T', h', X', e', W, own_Arf.setI A W, st⟩
theorem own_stS (X : Stand p l e R s m args below meth c T locs cells slots) (hx : p.tables.exec = Jvm.exec) (hZ : Z.Warmed39 s.vm) (eT : T.heap = h) {a : Addr} {n : Nat} {f : Nat → Int32} (A : own_Arf Z h a .short n (fun k => .int (f k))) {j x : Int32} (q : 0 ≤ j.toInt ∧ j.toInt < (n : Int)) {g : JFrame} (hg : g.method = m) {rest : List Value} (hs : g.stack = .int x :: .int j :: .ref a :: rest) (hd : decode c.code g.pc = .ok (.sastore, 1)) :
    ∃ T' h', Stand p l e R s m args below meth c T' (locs ++ [⟨a, j.toNatClampNeg⟩]) cells slots ∧ T'.heap = h' ∧ Wr h h' a j.toNatClampNeg (.int (nar .short x)) ∧ own_Arf Z h' a .short n (fun k => .int (if k = j.toNatClampNeg then nar .short x else f k)) ∧ ∀ t, Steps p.tables e below (T'.setTop { g with pc := g.pc + 1, stack := rest }) t → Steps p.tables e below (T.setTop g) t := by
  obtain ⟨cl, A1, A2, A3⟩ := id A
  obtain ⟨T', h', X', e', W, st⟩ := stS X hx hZ eT A1 (own_inb A2 q) hg hs hd
  exact ⟨T', h', X', e', W, own_Arf.setI A W, st⟩
theorem own_stB (X : Stand p l e R s m args below meth c T locs cells slots) (hx : p.tables.exec = Jvm.exec) (hZ : Z.Warmed39 s.vm) (eT : T.heap = h) {a : Addr} {n : Nat} {f : Nat → Int32} (A : own_Arf Z h a .byte n (fun k => .int (f k))) {j x : Int32} (q : 0 ≤ j.toInt ∧ j.toInt < (n : Int)) {g : JFrame} (hg : g.method = m) {rest : List Value} (hs : g.stack = .int x :: .int j :: .ref a :: rest) (hd : decode c.code g.pc = .ok (.bastore, 1)) :
    ∃ T' h', Stand p l e R s m args below meth c T' (locs ++ [⟨a, j.toNatClampNeg⟩]) cells slots ∧ T'.heap = h' ∧ Wr h h' a j.toNatClampNeg (.int (nar .byte x)) ∧ own_Arf Z h' a .byte n (fun k => .int (if k = j.toNatClampNeg then nar .byte x else f k)) ∧ ∀ t, Steps p.tables e below (T'.setTop { g with pc := g.pc + 1, stack := rest }) t → Steps p.tables e below (T.setTop g) t := by
  obtain ⟨cl, A1, A2, A3⟩ := id A
  obtain ⟨T', h', X', e', W, st⟩ := stB X hx hZ eT A1 (own_inb A2 q) hg hs hd
  exact ⟨T', h', X', e', W, own_Arf.setI A W, st⟩
theorem own_newR (X : Stand p l e R s m args below meth c T locs cells slots) (hx : p.tables.exec = Jvm.exec) (hZ : Z.Warmed39 s.vm) {own C : String} {index : Nat} (hown : s.vm.findClass own = some m.cls) (w1 : (Jvm.Cond.classLink own index C).before a0 Z = true) (w2 : (Jvm.Cond.arrayOver (.object C)).before a0 Z = true)
    (eT : T.heap = h) {g : JFrame} (hg : g.method = m) (hd : decode c.code g.pc = .ok (.anewarray index, 3)) {n : Int32} {rest : List Value} (hs : g.stack = .int n :: rest) (hn : ¬ n < 0) {cap : Nat} (hcap : n.toNatClampNeg ≤ cap) (hb : cap * 8 ≤ 536870912) (hc : cells + 1 ≤ R.cells) (hl : slots + cap ≤ R.slots) :
    ∃ T' h', Stand p l e R s m args below meth c T' locs (cells + 1) (slots + cap) ∧ T'.heap = h' ∧ Ext h h' ∧ (∃ cl : Cell, h'[h.size]? = some cl ∧ Ovr Z cl.cls C) ∧ own_Arf Z h' h.size (.object C) n.toNatClampNeg (fun _ => .null) ∧
      ∀ target, Steps p.tables e below (T'.setTop { g with pc := g.pc + 3, stack := .ref h.size :: rest }) target → Steps p.tables e below (T.setTop g) target := by
  obtain ⟨T', h', cA, X', e', E', A', O', st⟩ := newR X hx hZ hown w1 w2 eT hg hd hs hn hcap hb hc hl
  refine ⟨T', h', X', e', E', ⟨_, A'.1, O'⟩, ⟨_, A', sz_new _ _ _, fun j hj => ?_⟩, st⟩
  simp [newA, hj, defaultValue]
/-- an array of objects of C: the class of the array is C's -/
def own_Ovr (Z : State) (h : Heap) (a : Addr) (C : String) : Prop := ∃ cl : Cell, h[a]? = some cl ∧ Ovr Z cl.cls C
theorem own_Ovr.ext {a : Addr} {C : String} (F : own_Ovr Z h a C) (E : Ext h h') : own_Ovr Z h' a C := by obtain ⟨cl, h1, h2⟩ := F; exact ⟨cl, E.2 _ _ h1, h2⟩
theorem own_Ovr.wr {a b : Addr} {C : String} {sl : Nat} {v : Value} (F : own_Ovr Z h a C) (W : Wr h h' b sl v) : own_Ovr Z h' a C := by
  obtain ⟨cl, h1, h2⟩ := F
  obtain ⟨c', e1, e2, -⟩ := wr_at W h1
  exact ⟨c', e1, by rw [e2]; exact h2⟩
theorem own_Ovr.keep {a : Addr} {C : String} {ws : List Addr} (F : own_Ovr Z h a C) (K : Keep h h' ws) : own_Ovr Z h' a C := by
  obtain ⟨cl, h1, h2⟩ := F
  obtain ⟨c', e1, e2, -⟩ := K.2.2 _ _ h1
  exact ⟨c', e1, by rw [e2]; exact h2⟩
theorem own_stR (X : Stand p l e R s m args below meth c T locs cells slots) (hx : p.tables.exec = Jvm.exec) (hZ : Z.Warmed39 s.vm) (eT : T.heap = h) {a : Addr} {C : String} {n : Nat} {f : Nat → Value} (A : own_Arf Z h a (.object C) n f) (O : own_Ovr Z h a C) {j : Int32} {v : Value} (I : v = .null ∨ ∃ y, v = .ref y ∧ Ins Z h y C true) (q : 0 ≤ j.toInt ∧ j.toInt < (n : Int)) {g : JFrame} (hg : g.method = m) {rest : List Value} (hs : g.stack = v :: .int j :: .ref a :: rest) (hd : decode c.code g.pc = .ok (.aastore, 1)) :
    ∃ T' h', Stand p l e R s m args below meth c T' (locs ++ [⟨a, j.toNatClampNeg⟩]) cells slots ∧ T'.heap = h' ∧ Wr h h' a j.toNatClampNeg v ∧ own_Arf Z h' a (.object C) n (fun k => if k = j.toNatClampNeg then v else f k) ∧ own_Ovr Z h' a C ∧ ∀ t, Steps p.tables e below (T'.setTop { g with pc := g.pc + 1, stack := rest }) t → Steps p.tables e below (T.setTop g) t := by
  obtain ⟨cl, A1, A2, A3⟩ := id A
  obtain ⟨cl2, o1, o2⟩ := id O
  cases A1.1.symm.trans o1
  have F : Sto Z h a v := by
    rcases I with rfl | ⟨y, rfl, I⟩
    · exact Or.inl rfl
    · exact Sto.of A1 o2 I
  obtain ⟨T', h', X', e', W, st⟩ := stR X hx hZ eT A1 (own_inb A2 q) rfl F hg hs hd
  exact ⟨T', h', X', e', W, own_Arf.set A W, O.wr W, st⟩
end OwnKit
theorem own_pl1 {Z : State} {h : Heap} {a : Addr} {C : String} (E : Exa Z h a C) : ∀ x ∈ [a], ∀ c : Cell, h[x]? = some c → c.vm.isStatics = false := fun x hx c hc => by
  cases List.mem_singleton.mp hx
  obtain ⟨c', k, h1, -, -, h4, -⟩ := E
  cases h1.symm.trans hc
  exact h4
theorem own_pl0 {h : Heap} : ∀ x ∈ ([] : List Addr), ∀ c : Cell, h[x]? = some c → c.vm.isStatics = false := fun x hx => nomatch hx
theorem own_nb (x : Int32) (h : -128 ≤ x.toInt ∧ x.toInt < 128) : (nar .byte x).toInt = x.toInt := by
  have h2 := c_i2b x
  show x.toInt8.toInt32.toInt = x.toInt
  omega
theorem own_ch (x : Int32) (h : 0 ≤ x.toInt ∧ x.toInt ≤ 255) : 0 ≤ (nar .char (x.toUInt32.toUInt16.toUInt32.toInt32)).toInt ∧ (nar .char (x.toUInt32.toUInt16.toUInt32.toInt32)).toInt ≤ 255 := by
  have h1 := c_i2c x
  have h2 := c_i2c (x.toUInt32.toUInt16.toUInt32.toInt32)
  show 0 ≤ ((x.toUInt32.toUInt16.toUInt32.toInt32).toUInt32.toUInt16.toUInt32.toInt32).toInt ∧ ((x.toUInt32.toUInt16.toUInt32.toInt32).toUInt32.toUInt16.toUInt32.toInt32).toInt ≤ 255
  omega
theorem own_m255 (x : Int32) : 0 ≤ (x &&& (255 : Int32)).toInt ∧ (x &&& (255 : Int32)).toInt ≤ 255 := by
  have h3 : (x &&& (255 : Int32)).toInt = x.toInt % 256 := c_mask x 255 8 (by decide) (by decide)
  omega
theorem own_ch0 (x : Int32) : 0 ≤ (nar .char ((x &&& (255 : Int32)).toUInt32.toUInt16.toUInt32.toInt32)).toInt ∧ (nar .char ((x &&& (255 : Int32)).toUInt32.toUInt16.toUInt32.toInt32)).toInt ≤ 255 := own_ch _ (own_m255 x)
theorem own_ch1 (x : Int32) : 0 ≤ (nar .char ((((x.toUInt32 >>> ((8 : Int32) &&& 31).toUInt32).toInt32) &&& (255 : Int32)).toUInt32.toUInt16.toUInt32.toInt32)).toInt ∧ (nar .char ((((x.toUInt32 >>> ((8 : Int32) &&& 31).toUInt32).toInt32) &&& (255 : Int32)).toUInt32.toUInt16.toUInt32.toInt32)).toInt ≤ 255 := own_ch _ (own_m255 _)
theorem own_chB (x : Int32) : 0 ≤ ((x &&& (255 : Int32)).toUInt32.toUInt16.toUInt32.toInt32).toInt ∧ ((x &&& (255 : Int32)).toUInt32.toUInt16.toUInt32.toInt32).toInt ≤ 255 := by
  have h0 := own_m255 x
  have h1 := c_i2c (x &&& (255 : Int32))
  omega
theorem own_compact {s : State} {args : Array Value} {C n d : String} (h1 : (Jvm.Cond.isInt (Jvm.Term.static C n d)).value args s none s [] = some true) (h2 : (Jvm.Cond.not (Jvm.Cond.eq (Jvm.Term.static C n d) (Jvm.Term.int (0 : Int32)))).value args s none s [] = some true) (w : (Jvm.Cond.initializedFor C n d).before args s = true) : ∃ cs : Int32, Sta s s.heap C n d (.int cs) ∧ ¬ cs = (0 : Int32) := by
  obtain ⟨cs, ev⟩ := is_v h1
  refine ⟨cs, Sta.start ev (Or.inl w), fun q => ?_⟩
  subst q
  have h3 := not_v h2
  have h4 := eq_i ev (Term.int_eval (0 : Int32)) rfl
  rw [h4] at h3
  cases h3
theorem own_pn0 : plainFor (⟨"java/lang/StringUTF16", "compress", "([CI[BII)I"⟩ : MethodName) = true := by first | exact plainFor_of_name (by simp [plainName, overriddenIn]; done) | decide +kernel
theorem own_d5_0 : decode jdk_52_method_21_code 0 = .ok (.iconst 0, 1) := by decide +kernel
theorem own_d5_1 : decode jdk_52_method_21_code 1 = .ok (.istore 5, 2) := by decide +kernel
theorem own_d5_3 : decode jdk_52_method_21_code 3 = .ok (.iload 5, 2) := by decide +kernel
theorem own_d5_5 : decode jdk_52_method_21_code 5 = .ok (.iload 4, 2) := by decide +kernel
theorem own_d5_7 : decode jdk_52_method_21_code 7 = .ok (.if_icmp .ge 37, 3) := by decide +kernel
theorem own_d5_10 : decode jdk_52_method_21_code 10 = .ok (.aload_n 0, 1) := by decide +kernel
theorem own_d5_11 : decode jdk_52_method_21_code 11 = .ok (.iload_n 1, 1) := by decide +kernel
theorem own_d5_12 : decode jdk_52_method_21_code 12 = .ok (.caload, 1) := by decide +kernel
theorem own_d5_13 : decode jdk_52_method_21_code 13 = .ok (.istore 6, 2) := by decide +kernel
theorem own_d5_15 : decode jdk_52_method_21_code 15 = .ok (.iload 6, 2) := by decide +kernel
theorem own_d5_17 : decode jdk_52_method_21_code 17 = .ok (.sipush 255, 3) := by decide +kernel
theorem own_d5_20 : decode jdk_52_method_21_code 20 = .ok (.if_icmp .le 6, 3) := by decide +kernel
theorem own_d5_26 : decode jdk_52_method_21_code 26 = .ok (.aload_n 2, 1) := by decide +kernel
theorem own_d5_27 : decode jdk_52_method_21_code 27 = .ok (.iload_n 3, 1) := by decide +kernel
theorem own_d5_28 : decode jdk_52_method_21_code 28 = .ok (.iload 6, 2) := by decide +kernel
theorem own_d5_30 : decode jdk_52_method_21_code 30 = .ok (.i2b, 1) := by decide +kernel
theorem own_d5_31 : decode jdk_52_method_21_code 31 = .ok (.bastore, 1) := by decide +kernel
theorem own_d5_32 : decode jdk_52_method_21_code 32 = .ok (.iinc 1 1, 3) := by decide +kernel
theorem own_d5_35 : decode jdk_52_method_21_code 35 = .ok (.iinc 3 1, 3) := by decide +kernel
theorem own_d5_38 : decode jdk_52_method_21_code 38 = .ok (.iinc 5 1, 3) := by decide +kernel
theorem own_d5_41 : decode jdk_52_method_21_code 41 = .ok (.goto (-38), 3) := by decide +kernel
theorem own_d5_44 : decode jdk_52_method_21_code 44 = .ok (.iload 4, 2) := by decide +kernel
theorem own_d5_46 : decode jdk_52_method_21_code 46 = .ok (.ireturn, 1) := by decide +kernel
theorem own_ef_rmCc2 (m : MethodId) (a1 : Nat) (a3 : Nat) : entryFrame m #[(.ref a1), (.int (0 : Int32)), (.ref a3), (.int (0 : Int32)), (.int (2 : Int32))] 7 = mkF m 0 #[rv a1, iv (0 : Int32), rv a3, iv (0 : Int32), iv (2 : Int32), .unset, .unset] [] := by first | (simp [entryFrame, mkF, argsToLocals, Value.category, maxLocals]; done) | rfl
abbrev own_Q_rmCc2 (Z : State) (a1 : Nat) (a3 : Nat) (f : Nat → Int32) (g : Nat → Int32) (h0 : Heap) (n0 : Nat) (v : Option Value) (h : Heap) (L : List Loc) : Prop := v = some (.int (2 : Int32)) ∧ Fr n0 L ∧ Keep h0 h [a3] ∧ own_Arf Z h a3 .byte 2 (fun k => .int ((fun j => nar .byte ((f j).toInt8.toInt32)) k))
set_option maxRecDepth 65536 in
set_option maxHeartbeats 40000000 in
theorem rmCc2 (l : Launch) (Z : State) (a0 : Array Value) (hw : ∀ d ∈ tables_1, d.before a0 Z = true) (ws : List Jvm.Cond) (a1 : Nat) (a3 : Nat) (f : Nat → Int32) (g : Nat → Int32) (h0 : Heap) (n0 : Nat) (Z0 : n0 ≤ h0.size) (V1 : own_Arf Z h0 a1 .char 2 (fun k => .int (f k))) (V3 : own_Arf Z h0 a3 .byte 2 (fun k => .int (g k))) (hc : ∀ j, j < 2 → 0 ≤ (f j).toInt ∧ (f j).toInt ≤ 255) (g3 : n0 ≤ a3) (x13 : a1 ≠ a3) :
    MetFree l (⟨"java/lang/StringUTF16", "compress", "([CI[BII)I"⟩ : MethodName) (head1 (Jvm.Cond.code (⟨"java/lang/StringUTF16", "compress", "([CI[BII)I"⟩ : MethodName) jdk_52_method_21_code 7 (some .int) :: ws) ({ frames := 0, cells := 0, slots := 0, locals := 0 } : Room)) (fun a U => a = #[(.ref a1), (.int (0 : Int32)), (.ref a3), (.int (0 : Int32)), (.int (2 : Int32))] ∧ Z.Warmed39 U.vm ∧ U.heap = h0) (fun _ _ _ _ _ => True) (fun _ U o U' => ∃ v L, o = .returned v ∧ own_Q_rmCc2 Z a1 a3 f g h0 n0 v U'.heap L ∧ FrameEnd U o U' L ({ frames := 0, cells := 0, slots := 0, locals := 0 } : Room).cells ({ frames := 0, cells := 0, slots := 0, locals := 0 } : Room).slots) := by
  refine own_enter (Q := fun v h L => own_Q_rmCc2 Z a1 a3 f g h0 n0 v h L) (F := fun m => mkF m 0 #[rv a1, iv (0 : Int32), rv a3, iv (0 : Int32), iv (2 : Int32), .unset, .unset] []) own_pn0 (fun m => own_ef_rmCc2 m a1 a3) ?_
  intro p e s m below meth c T X hx hby hml hret hlk hnm hown hZ e0
  show own_Goes p e below s _ _ (T.setTop (mkF m 0 #[rv a1, iv (0 : Int32), rv a3, iv (0 : Int32), iv (2 : Int32), .unset, .unset] []))
  have N0 := Fr.nil n0
  have hc0 := hc 0 (by decide)
  have hc1 := hc 1 (by decide)
  refine own_st (fun _ k => XS.iconst X.here hx rfl (hb hby own_d5_0) k) ?_
  show own_Goes p e below s _ _ (T.setTop (mkF m 1 #[rv a1, iv (0 : Int32), rv a3, iv (0 : Int32), iv (2 : Int32), .unset, .unset] [(.int (0 : Int32))]))
  refine own_st (fun _ k => XS.istore X.here hx rfl (hb hby own_d5_1) rfl (l' := #[rv a1, iv (0 : Int32), rv a3, iv (0 : Int32), iv (2 : Int32), iv (0 : Int32), .unset]) rfl k) ?_
  show own_Goes p e below s _ _ (T.setTop (mkF m 3 #[rv a1, iv (0 : Int32), rv a3, iv (0 : Int32), iv (2 : Int32), iv (0 : Int32), .unset] []))
  refine own_st (fun _ k => XS.iload X.here hx rfl (hb hby own_d5_3) rfl  k) ?_
  show own_Goes p e below s _ _ (T.setTop (mkF m 5 #[rv a1, iv (0 : Int32), rv a3, iv (0 : Int32), iv (2 : Int32), iv (0 : Int32), .unset] [(.int (0 : Int32))]))
  refine own_st (fun _ k => XS.iload X.here hx rfl (hb hby own_d5_5) rfl  k) ?_
  show own_Goes p e below s _ _ (T.setTop (mkF m 7 #[rv a1, iv (0 : Int32), rv a3, iv (0 : Int32), iv (2 : Int32), iv (0 : Int32), .unset] [(.int (2 : Int32)), (.int (0 : Int32))]))
  refine own_st (fun _ k => XS.icmpNo X.here hx rfl (hb hby own_d5_7) rfl (tlt (by decide : (0 : Int32) < (2 : Int32))).2.1 k) ?_
  show own_Goes p e below s _ _ (T.setTop (mkF m 10 #[rv a1, iv (0 : Int32), rv a3, iv (0 : Int32), iv (2 : Int32), iv (0 : Int32), .unset] []))
  refine own_st (fun _ k => XS.aloadN X.here hx rfl (hb hby own_d5_10) rfl rfl  k) ?_
  show own_Goes p e below s _ _ (T.setTop (mkF m 11 #[rv a1, iv (0 : Int32), rv a3, iv (0 : Int32), iv (2 : Int32), iv (0 : Int32), .unset] [(.ref a1)]))
  refine own_st (fun _ k => XS.iloadN X.here hx rfl (hb hby own_d5_11) rfl  k) ?_
  show own_Goes p e below s _ _ (T.setTop (mkF m 12 #[rv a1, iv (0 : Int32), rv a3, iv (0 : Int32), iv (2 : Int32), iv (0 : Int32), .unset] [(.int (0 : Int32)), (.ref a1)]))
  refine own_st (fun _ k => own_ldC X hx hZ e0 V1 (j := (0 : Int32)) (by decide) (g := (mkF m 12 #[rv a1, iv (0 : Int32), rv a3, iv (0 : Int32), iv (2 : Int32), iv (0 : Int32), .unset] [(.int (0 : Int32)), (.ref a1)])) rfl rfl (hb hby own_d5_12) _ k) ?_
  show own_Goes p e below s _ _ (T.setTop (mkF m 13 #[rv a1, iv (0 : Int32), rv a3, iv (0 : Int32), iv (2 : Int32), iv (0 : Int32), .unset] [(.int (f 0))]))
  refine own_st (fun _ k => XS.istore X.here hx rfl (hb hby own_d5_13) rfl (l' := #[rv a1, iv (0 : Int32), rv a3, iv (0 : Int32), iv (2 : Int32), iv (0 : Int32), iv (f 0)]) rfl k) ?_
  show own_Goes p e below s _ _ (T.setTop (mkF m 15 #[rv a1, iv (0 : Int32), rv a3, iv (0 : Int32), iv (2 : Int32), iv (0 : Int32), iv (f 0)] []))
  refine own_st (fun _ k => XS.iload X.here hx rfl (hb hby own_d5_15) rfl  k) ?_
  show own_Goes p e below s _ _ (T.setTop (mkF m 17 #[rv a1, iv (0 : Int32), rv a3, iv (0 : Int32), iv (2 : Int32), iv (0 : Int32), iv (f 0)] [(.int (f 0))]))
  refine own_st (fun _ k => XS.sipush X.here hx rfl (hb hby own_d5_17) k) ?_
  show own_Goes p e below s _ _ (T.setTop (mkF m 20 #[rv a1, iv (0 : Int32), rv a3, iv (0 : Int32), iv (2 : Int32), iv (0 : Int32), iv (f 0)] [(.int (255 : Int32)), (.int (f 0))]))
  by_cases c101 : (255 : Int32) < (f 0)
  · have c101i : 255 < (f 0).toInt := own_i_lt c101
    exfalso; omega
  · have c101i : (f 0).toInt ≤ 255 := own_i_nlt c101
    refine own_st (fun _ k => XS.icmpYes X.here hx rfl (pc0 := 20) (pc' := 26) rfl (hb hby own_d5_20) rfl (flt c101).2.2.2 (by decide) (by decide) k) ?_
    show own_Goes p e below s _ _ (T.setTop (mkF m 26 #[rv a1, iv (0 : Int32), rv a3, iv (0 : Int32), iv (2 : Int32), iv (0 : Int32), iv (f 0)] []))
    refine own_st (fun _ k => XS.aloadN X.here hx rfl (hb hby own_d5_26) rfl rfl  k) ?_
    show own_Goes p e below s _ _ (T.setTop (mkF m 27 #[rv a1, iv (0 : Int32), rv a3, iv (0 : Int32), iv (2 : Int32), iv (0 : Int32), iv (f 0)] [(.ref a3)]))
    refine own_st (fun _ k => XS.iloadN X.here hx rfl (hb hby own_d5_27) rfl  k) ?_
    show own_Goes p e below s _ _ (T.setTop (mkF m 28 #[rv a1, iv (0 : Int32), rv a3, iv (0 : Int32), iv (2 : Int32), iv (0 : Int32), iv (f 0)] [(.int (0 : Int32)), (.ref a3)]))
    refine own_st (fun _ k => XS.iload X.here hx rfl (hb hby own_d5_28) rfl  k) ?_
    show own_Goes p e below s _ _ (T.setTop (mkF m 30 #[rv a1, iv (0 : Int32), rv a3, iv (0 : Int32), iv (2 : Int32), iv (0 : Int32), iv (f 0)] [(.int (f 0)), (.int (0 : Int32)), (.ref a3)]))
    refine own_st (fun _ k => XS.i2b X.here hx rfl (hb hby own_d5_30) rfl k) ?_
    show own_Goes p e below s _ _ (T.setTop (mkF m 31 #[rv a1, iv (0 : Int32), rv a3, iv (0 : Int32), iv (2 : Int32), iv (0 : Int32), iv (f 0)] [(.int ((f 0).toInt8.toInt32)), (.int (0 : Int32)), (.ref a3)]))
    obtain ⟨T102, h102, X102, e102, W102, A102, st102⟩ := own_stB X hx hZ e0 V3 (j := (0 : Int32)) (by decide) (g := (mkF m 31 #[rv a1, iv (0 : Int32), rv a3, iv (0 : Int32), iv (2 : Int32), iv (0 : Int32), iv (f 0)] [(.int ((f 0).toInt8.toInt32)), (.int (0 : Int32)), (.ref a3)])) rfl rfl (hb hby own_d5_31)
    have V102 : own_Arf Z h102 a3 .byte 2 (fun k => .int ((fun k => if k = 0 then (nar .byte ((f 0).toInt8.toInt32)) else g k) k)) := A102
    have z102 := W102.size
    have N102 := Fr.snoc X102 N0 (by omega)
    refine own_st st102 ?_
    show own_Goes p e below s _ _ (T102.setTop (mkF m 32 #[rv a1, iv (0 : Int32), rv a3, iv (0 : Int32), iv (2 : Int32), iv (0 : Int32), iv (f 0)] []))
    refine own_st (fun _ k => XS.iinc X102.here hx rfl (hb hby own_d5_32) rfl (l' := #[rv a1, iv (1 : Int32), rv a3, iv (0 : Int32), iv (2 : Int32), iv (0 : Int32), iv (f 0)]) rfl k) ?_
    show own_Goes p e below s _ _ (T102.setTop (mkF m 35 #[rv a1, iv (1 : Int32), rv a3, iv (0 : Int32), iv (2 : Int32), iv (0 : Int32), iv (f 0)] []))
    refine own_st (fun _ k => XS.iinc X102.here hx rfl (hb hby own_d5_35) rfl (l' := #[rv a1, iv (1 : Int32), rv a3, iv (1 : Int32), iv (2 : Int32), iv (0 : Int32), iv (f 0)]) rfl k) ?_
    show own_Goes p e below s _ _ (T102.setTop (mkF m 38 #[rv a1, iv (1 : Int32), rv a3, iv (1 : Int32), iv (2 : Int32), iv (0 : Int32), iv (f 0)] []))
    refine own_st (fun _ k => XS.iinc X102.here hx rfl (hb hby own_d5_38) rfl (l' := #[rv a1, iv (1 : Int32), rv a3, iv (1 : Int32), iv (2 : Int32), iv (1 : Int32), iv (f 0)]) rfl k) ?_
    show own_Goes p e below s _ _ (T102.setTop (mkF m 41 #[rv a1, iv (1 : Int32), rv a3, iv (1 : Int32), iv (2 : Int32), iv (1 : Int32), iv (f 0)] []))
    refine own_st (fun _ k => XS.goto X102.here hx rfl (pc0 := 41) (pc' := 3) rfl (hb hby own_d5_41) (by decide) (by decide) k) ?_
    show own_Goes p e below s _ _ (T102.setTop (mkF m 3 #[rv a1, iv (1 : Int32), rv a3, iv (1 : Int32), iv (2 : Int32), iv (1 : Int32), iv (f 0)] []))
    refine own_st (fun _ k => XS.iload X102.here hx rfl (hb hby own_d5_3) rfl  k) ?_
    show own_Goes p e below s _ _ (T102.setTop (mkF m 5 #[rv a1, iv (1 : Int32), rv a3, iv (1 : Int32), iv (2 : Int32), iv (1 : Int32), iv (f 0)] [(.int (1 : Int32))]))
    refine own_st (fun _ k => XS.iload X102.here hx rfl (hb hby own_d5_5) rfl  k) ?_
    show own_Goes p e below s _ _ (T102.setTop (mkF m 7 #[rv a1, iv (1 : Int32), rv a3, iv (1 : Int32), iv (2 : Int32), iv (1 : Int32), iv (f 0)] [(.int (2 : Int32)), (.int (1 : Int32))]))
    refine own_st (fun _ k => XS.icmpNo X102.here hx rfl (hb hby own_d5_7) rfl (tlt (by decide : (1 : Int32) < (2 : Int32))).2.1 k) ?_
    show own_Goes p e below s _ _ (T102.setTop (mkF m 10 #[rv a1, iv (1 : Int32), rv a3, iv (1 : Int32), iv (2 : Int32), iv (1 : Int32), iv (f 0)] []))
    refine own_st (fun _ k => XS.aloadN X102.here hx rfl (hb hby own_d5_10) rfl rfl  k) ?_
    show own_Goes p e below s _ _ (T102.setTop (mkF m 11 #[rv a1, iv (1 : Int32), rv a3, iv (1 : Int32), iv (2 : Int32), iv (1 : Int32), iv (f 0)] [(.ref a1)]))
    refine own_st (fun _ k => XS.iloadN X102.here hx rfl (hb hby own_d5_11) rfl  k) ?_
    show own_Goes p e below s _ _ (T102.setTop (mkF m 12 #[rv a1, iv (1 : Int32), rv a3, iv (1 : Int32), iv (2 : Int32), iv (1 : Int32), iv (f 0)] [(.int (1 : Int32)), (.ref a1)]))
    have f103 := (V1.other W102 (own_ne (by omega)))
    refine own_st (fun _ k => own_ldC X102 hx hZ e102 f103 (j := (1 : Int32)) (by decide) (g := (mkF m 12 #[rv a1, iv (1 : Int32), rv a3, iv (1 : Int32), iv (2 : Int32), iv (1 : Int32), iv (f 0)] [(.int (1 : Int32)), (.ref a1)])) rfl rfl (hb hby own_d5_12) _ k) ?_
    show own_Goes p e below s _ _ (T102.setTop (mkF m 13 #[rv a1, iv (1 : Int32), rv a3, iv (1 : Int32), iv (2 : Int32), iv (1 : Int32), iv (f 0)] [(.int (f 1))]))
    refine own_st (fun _ k => XS.istore X102.here hx rfl (hb hby own_d5_13) rfl (l' := #[rv a1, iv (1 : Int32), rv a3, iv (1 : Int32), iv (2 : Int32), iv (1 : Int32), iv (f 1)]) rfl k) ?_
    show own_Goes p e below s _ _ (T102.setTop (mkF m 15 #[rv a1, iv (1 : Int32), rv a3, iv (1 : Int32), iv (2 : Int32), iv (1 : Int32), iv (f 1)] []))
    refine own_st (fun _ k => XS.iload X102.here hx rfl (hb hby own_d5_15) rfl  k) ?_
    show own_Goes p e below s _ _ (T102.setTop (mkF m 17 #[rv a1, iv (1 : Int32), rv a3, iv (1 : Int32), iv (2 : Int32), iv (1 : Int32), iv (f 1)] [(.int (f 1))]))
    refine own_st (fun _ k => XS.sipush X102.here hx rfl (hb hby own_d5_17) k) ?_
    show own_Goes p e below s _ _ (T102.setTop (mkF m 20 #[rv a1, iv (1 : Int32), rv a3, iv (1 : Int32), iv (2 : Int32), iv (1 : Int32), iv (f 1)] [(.int (255 : Int32)), (.int (f 1))]))
    by_cases c104 : (255 : Int32) < (f 1)
    · have c104i : 255 < (f 1).toInt := own_i_lt c104
      exfalso; omega
    · have c104i : (f 1).toInt ≤ 255 := own_i_nlt c104
      refine own_st (fun _ k => XS.icmpYes X102.here hx rfl (pc0 := 20) (pc' := 26) rfl (hb hby own_d5_20) rfl (flt c104).2.2.2 (by decide) (by decide) k) ?_
      show own_Goes p e below s _ _ (T102.setTop (mkF m 26 #[rv a1, iv (1 : Int32), rv a3, iv (1 : Int32), iv (2 : Int32), iv (1 : Int32), iv (f 1)] []))
      refine own_st (fun _ k => XS.aloadN X102.here hx rfl (hb hby own_d5_26) rfl rfl  k) ?_
      show own_Goes p e below s _ _ (T102.setTop (mkF m 27 #[rv a1, iv (1 : Int32), rv a3, iv (1 : Int32), iv (2 : Int32), iv (1 : Int32), iv (f 1)] [(.ref a3)]))
      refine own_st (fun _ k => XS.iloadN X102.here hx rfl (hb hby own_d5_27) rfl  k) ?_
      show own_Goes p e below s _ _ (T102.setTop (mkF m 28 #[rv a1, iv (1 : Int32), rv a3, iv (1 : Int32), iv (2 : Int32), iv (1 : Int32), iv (f 1)] [(.int (1 : Int32)), (.ref a3)]))
      refine own_st (fun _ k => XS.iload X102.here hx rfl (hb hby own_d5_28) rfl  k) ?_
      show own_Goes p e below s _ _ (T102.setTop (mkF m 30 #[rv a1, iv (1 : Int32), rv a3, iv (1 : Int32), iv (2 : Int32), iv (1 : Int32), iv (f 1)] [(.int (f 1)), (.int (1 : Int32)), (.ref a3)]))
      refine own_st (fun _ k => XS.i2b X102.here hx rfl (hb hby own_d5_30) rfl k) ?_
      show own_Goes p e below s _ _ (T102.setTop (mkF m 31 #[rv a1, iv (1 : Int32), rv a3, iv (1 : Int32), iv (2 : Int32), iv (1 : Int32), iv (f 1)] [(.int ((f 1).toInt8.toInt32)), (.int (1 : Int32)), (.ref a3)]))
      obtain ⟨T105, h105, X105, e105, W105, A105, st105⟩ := own_stB X102 hx hZ e102 V102 (j := (1 : Int32)) (by decide) (g := (mkF m 31 #[rv a1, iv (1 : Int32), rv a3, iv (1 : Int32), iv (2 : Int32), iv (1 : Int32), iv (f 1)] [(.int ((f 1).toInt8.toInt32)), (.int (1 : Int32)), (.ref a3)])) rfl rfl (hb hby own_d5_31)
      have V105 : own_Arf Z h105 a3 .byte 2 (fun k => .int ((fun k => if k = 1 then (nar .byte ((f 1).toInt8.toInt32)) else (fun k => if k = 0 then (nar .byte ((f 0).toInt8.toInt32)) else g k) k) k)) := A105
      have z105 := W105.size
      have N105 := Fr.snoc X105 N102 (by omega)
      refine own_st st105 ?_
      show own_Goes p e below s _ _ (T105.setTop (mkF m 32 #[rv a1, iv (1 : Int32), rv a3, iv (1 : Int32), iv (2 : Int32), iv (1 : Int32), iv (f 1)] []))
      refine own_st (fun _ k => XS.iinc X105.here hx rfl (hb hby own_d5_32) rfl (l' := #[rv a1, iv (2 : Int32), rv a3, iv (1 : Int32), iv (2 : Int32), iv (1 : Int32), iv (f 1)]) rfl k) ?_
      show own_Goes p e below s _ _ (T105.setTop (mkF m 35 #[rv a1, iv (2 : Int32), rv a3, iv (1 : Int32), iv (2 : Int32), iv (1 : Int32), iv (f 1)] []))
      refine own_st (fun _ k => XS.iinc X105.here hx rfl (hb hby own_d5_35) rfl (l' := #[rv a1, iv (2 : Int32), rv a3, iv (2 : Int32), iv (2 : Int32), iv (1 : Int32), iv (f 1)]) rfl k) ?_
      show own_Goes p e below s _ _ (T105.setTop (mkF m 38 #[rv a1, iv (2 : Int32), rv a3, iv (2 : Int32), iv (2 : Int32), iv (1 : Int32), iv (f 1)] []))
      refine own_st (fun _ k => XS.iinc X105.here hx rfl (hb hby own_d5_38) rfl (l' := #[rv a1, iv (2 : Int32), rv a3, iv (2 : Int32), iv (2 : Int32), iv (2 : Int32), iv (f 1)]) rfl k) ?_
      show own_Goes p e below s _ _ (T105.setTop (mkF m 41 #[rv a1, iv (2 : Int32), rv a3, iv (2 : Int32), iv (2 : Int32), iv (2 : Int32), iv (f 1)] []))
      refine own_st (fun _ k => XS.goto X105.here hx rfl (pc0 := 41) (pc' := 3) rfl (hb hby own_d5_41) (by decide) (by decide) k) ?_
      show own_Goes p e below s _ _ (T105.setTop (mkF m 3 #[rv a1, iv (2 : Int32), rv a3, iv (2 : Int32), iv (2 : Int32), iv (2 : Int32), iv (f 1)] []))
      refine own_st (fun _ k => XS.iload X105.here hx rfl (hb hby own_d5_3) rfl  k) ?_
      show own_Goes p e below s _ _ (T105.setTop (mkF m 5 #[rv a1, iv (2 : Int32), rv a3, iv (2 : Int32), iv (2 : Int32), iv (2 : Int32), iv (f 1)] [(.int (2 : Int32))]))
      refine own_st (fun _ k => XS.iload X105.here hx rfl (hb hby own_d5_5) rfl  k) ?_
      show own_Goes p e below s _ _ (T105.setTop (mkF m 7 #[rv a1, iv (2 : Int32), rv a3, iv (2 : Int32), iv (2 : Int32), iv (2 : Int32), iv (f 1)] [(.int (2 : Int32)), (.int (2 : Int32))]))
      refine own_st (fun _ k => XS.icmpYes X105.here hx rfl (pc0 := 7) (pc' := 44) rfl (hb hby own_d5_7) rfl (flt (by decide : ¬ ((2 : Int32) < (2 : Int32)))).2.1 (by decide) (by decide) k) ?_
      show own_Goes p e below s _ _ (T105.setTop (mkF m 44 #[rv a1, iv (2 : Int32), rv a3, iv (2 : Int32), iv (2 : Int32), iv (2 : Int32), iv (f 1)] []))
      refine own_st (fun _ k => XS.iload X105.here hx rfl (hb hby own_d5_44) rfl  k) ?_
      show own_Goes p e below s _ _ (T105.setTop (mkF m 46 #[rv a1, iv (2 : Int32), rv a3, iv (2 : Int32), iv (2 : Int32), iv (2 : Int32), iv (f 1)] [(.int (2 : Int32))]))
      exact own_retI X105 hx hlk hret (hb hby own_d5_46) (by decide) (by decide) ⟨rfl, N105, by rw [e105]; exact (((Keep.refl h0 [a3]).wr W102 (Or.inl (by simp))).wr W105 (Or.inl (by simp))), by rw [e105]; exact (own_Arf.congr V105 (fun j hj => by have q : j = 0 ∨ j = 1 := (by omega); rcases q with rfl | rfl <;> rfl))⟩
theorem own_pn1 : plainFor (⟨"java/lang/StringUTF16", "compress", "([CII)[B"⟩ : MethodName) = true := by first | exact plainFor_of_name (by simp [plainName, overriddenIn]; done) | decide +kernel
theorem own_d4_0 : decode jdk_52_method_16_code 0 = .ok (.iload_n 2, 1) := by decide +kernel
theorem own_d4_1 : decode jdk_52_method_16_code 1 = .ok (.newarray .byte, 2) := by decide +kernel
theorem own_d4_3 : decode jdk_52_method_16_code 3 = .ok (.astore_n 3, 1) := by decide +kernel
theorem own_d4_4 : decode jdk_52_method_16_code 4 = .ok (.aload_n 0, 1) := by decide +kernel
theorem own_d4_5 : decode jdk_52_method_16_code 5 = .ok (.iload_n 1, 1) := by decide +kernel
theorem own_d4_6 : decode jdk_52_method_16_code 6 = .ok (.aload_n 3, 1) := by decide +kernel
theorem own_d4_7 : decode jdk_52_method_16_code 7 = .ok (.iconst 0, 1) := by decide +kernel
theorem own_d4_8 : decode jdk_52_method_16_code 8 = .ok (.iload_n 2, 1) := by decide +kernel
theorem own_d4_9 : decode jdk_52_method_16_code 9 = .ok (.invokestatic 115, 3) := by decide +kernel
theorem own_pd0 : parseMethodDescriptor "([CI[BII)I" = some ⟨[(.array .char), .int, (.array .byte), .int, .int], some .int⟩ := by decide +kernel
theorem own_d4_12 : decode jdk_52_method_16_code 12 = .ok (.istore 4, 2) := by decide +kernel
theorem own_d4_14 : decode jdk_52_method_16_code 14 = .ok (.iload 4, 2) := by decide +kernel
theorem own_d4_16 : decode jdk_52_method_16_code 16 = .ok (.iload_n 2, 1) := by decide +kernel
theorem own_d4_17 : decode jdk_52_method_16_code 17 = .ok (.if_icmp .eq 40, 3) := by decide +kernel
theorem own_d4_57 : decode jdk_52_method_16_code 57 = .ok (.aload_n 3, 1) := by decide +kernel
theorem own_d4_58 : decode jdk_52_method_16_code 58 = .ok (.areturn, 1) := by decide +kernel
theorem own_ef_rmCp2 (m : MethodId) (a1 : Nat) : entryFrame m #[(.ref a1), (.int (0 : Int32)), (.int (2 : Int32))] 6 = mkF m 0 #[rv a1, iv (0 : Int32), iv (2 : Int32), .unset, .unset, .unset] [] := by first | (simp [entryFrame, mkF, argsToLocals, Value.category, maxLocals]; done) | rfl
abbrev own_Q_rmCp2 (Z : State) (a1 : Nat) (f : Nat → Int32) (h0 : Heap) (n0 : Nat) (v : Option Value) (h : Heap) (L : List Loc) : Prop := ∃ b : Nat, v = some (.ref b) ∧ Fr n0 L ∧ Keep h0 h [] ∧ h0.size ≤ b ∧ b < h.size ∧ own_Arf Z h b .byte 2 (fun k => .int ((fun j => nar .byte ((f j).toInt8.toInt32)) k))
set_option maxRecDepth 65536 in
set_option maxHeartbeats 40000000 in
theorem rmCp2 (l : Launch) (Z : State) (a0 : Array Value) (hw : ∀ d ∈ tables_1, d.before a0 Z = true) (ws : List Jvm.Cond) (a1 : Nat) (f : Nat → Int32) (h0 : Heap) (n0 : Nat) (Z0 : n0 ≤ h0.size) (V1 : own_Arf Z h0 a1 .char 2 (fun k => .int (f k))) (hc : ∀ j, j < 2 → 0 ≤ (f j).toInt ∧ (f j).toInt ≤ 255) :
    MetFree l (⟨"java/lang/StringUTF16", "compress", "([CII)[B"⟩ : MethodName) (head1 (Jvm.Cond.code (⟨"java/lang/StringUTF16", "compress", "([CII)[B"⟩ : MethodName) jdk_52_method_16_code 6 (some (.array .byte)) :: ws) ({ frames := 1, cells := 1, slots := 2, locals := 18 } : Room)) (fun a U => a = #[(.ref a1), (.int (0 : Int32)), (.int (2 : Int32))] ∧ Z.Warmed39 U.vm ∧ U.heap = h0) (fun _ _ _ _ _ => True) (fun _ U o U' => ∃ v L, o = .returned v ∧ own_Q_rmCp2 Z a1 f h0 n0 v U'.heap L ∧ FrameEnd U o U' L ({ frames := 1, cells := 1, slots := 2, locals := 18 } : Room).cells ({ frames := 1, cells := 1, slots := 2, locals := 18 } : Room).slots) := by
  refine own_enter (Q := fun v h L => own_Q_rmCp2 Z a1 f h0 n0 v h L) (F := fun m => mkF m 0 #[rv a1, iv (0 : Int32), iv (2 : Int32), .unset, .unset, .unset] []) own_pn1 (fun m => own_ef_rmCp2 m a1) ?_
  intro p e s m below meth c T X hx hby hml hret hlk hnm hown hZ e0
  show own_Goes p e below s _ _ (T.setTop (mkF m 0 #[rv a1, iv (0 : Int32), iv (2 : Int32), .unset, .unset, .unset] []))
  have N0 := Fr.nil n0
  have y1 := own_lt V1.lt
  refine own_st (fun _ k => XS.iloadN X.here hx rfl (hb hby own_d4_0) rfl  k) ?_
  show own_Goes p e below s _ _ (T.setTop (mkF m 1 #[rv a1, iv (0 : Int32), iv (2 : Int32), .unset, .unset, .unset] [(.int (2 : Int32))]))
  obtain ⟨T101, h101, X101, e101, E101, A101, st101⟩ := own_newP X hx hZ (aty := .byte) (hw _ (List.mem_of_getElem? (i := 19) rfl)) e0 (g := (mkF m 1 #[rv a1, iv (0 : Int32), iv (2 : Int32), .unset, .unset, .unset] [(.int (2 : Int32))])) rfl (hb hby own_d4_1) rfl (by decide) (cap := 2) (by decide) (by decide) (by decide) (by decide)
  obtain ⟨b101, g101⟩ : ∃ z, z = h0.size := ⟨_, rfl⟩
  rw [← g101] at A101 st101
  have V101 : own_Arf Z h101 b101 .byte 2 (fun k => .int ((fun _ => (0 : Int32)) k)) := A101
  have y101 := own_lt V101.lt
  have z101 := E101.1
  refine own_st st101 ?_
  show own_Goes p e below s _ _ (T101.setTop (mkF m 3 #[rv a1, iv (0 : Int32), iv (2 : Int32), .unset, .unset, .unset] [(.ref b101)]))
  refine own_st (fun _ k => XS.astoreN X101.here hx rfl (hb hby own_d4_3) rfl rfl (l' := #[rv a1, iv (0 : Int32), iv (2 : Int32), rv b101, .unset, .unset]) rfl k) ?_
  show own_Goes p e below s _ _ (T101.setTop (mkF m 4 #[rv a1, iv (0 : Int32), iv (2 : Int32), rv b101, .unset, .unset] []))
  refine own_st (fun _ k => XS.aloadN X101.here hx rfl (hb hby own_d4_4) rfl rfl  k) ?_
  show own_Goes p e below s _ _ (T101.setTop (mkF m 5 #[rv a1, iv (0 : Int32), iv (2 : Int32), rv b101, .unset, .unset] [(.ref a1)]))
  refine own_st (fun _ k => XS.iloadN X101.here hx rfl (hb hby own_d4_5) rfl  k) ?_
  show own_Goes p e below s _ _ (T101.setTop (mkF m 6 #[rv a1, iv (0 : Int32), iv (2 : Int32), rv b101, .unset, .unset] [(.int (0 : Int32)), (.ref a1)]))
  refine own_st (fun _ k => XS.aloadN X101.here hx rfl (hb hby own_d4_6) rfl rfl  k) ?_
  show own_Goes p e below s _ _ (T101.setTop (mkF m 7 #[rv a1, iv (0 : Int32), iv (2 : Int32), rv b101, .unset, .unset] [(.ref b101), (.int (0 : Int32)), (.ref a1)]))
  refine own_st (fun _ k => XS.iconst X101.here hx rfl (hb hby own_d4_7) k) ?_
  show own_Goes p e below s _ _ (T101.setTop (mkF m 8 #[rv a1, iv (0 : Int32), iv (2 : Int32), rv b101, .unset, .unset] [(.int (0 : Int32)), (.ref b101), (.int (0 : Int32)), (.ref a1)]))
  refine own_st (fun _ k => XS.iloadN X101.here hx rfl (hb hby own_d4_8) rfl  k) ?_
  show own_Goes p e below s _ _ (T101.setTop (mkF m 9 #[rv a1, iv (0 : Int32), iv (2 : Int32), rv b101, .unset, .unset] [(.int (2 : Int32)), (.int (0 : Int32)), (.ref b101), (.int (0 : Int32)), (.ref a1)]))
  have f103 := (V1.ext E101)
  obtain ⟨v102, T102, L102, X102, Q102, st102⟩ := own_callS X101 hx hZ (y := (⟨"java/lang/StringUTF16", "compress", "([CI[BII)I"⟩ : MethodName)) hown (hw _ (List.mem_of_getElem? (i := 20) rfl)) (hw _ (List.mem_of_getElem? (i := 21) rfl)) (hw _ (List.mem_of_getElem? (i := 17) rfl)) (hw _ (List.mem_of_getElem? (i := 22) rfl)) (by decide) (W := 0) (rest := []) (argsL := [(.ref a1), (.int (0 : Int32)), (.ref b101), (.int (0 : Int32)), (.int (2 : Int32))]) (rmCc2 l Z a0 hw [] a1 b101 _ _ h101 n0 (by omega) f103 V101 hc (by omega) (by omega)) (by decide) (by decide) (by decide) (by decide) e101 own_pd0 rfl (g := (mkF m 9 #[rv a1, iv (0 : Int32), iv (2 : Int32), rv b101, .unset, .unset] [(.int (2 : Int32)), (.int (0 : Int32)), (.ref b101), (.int (0 : Int32)), (.ref a1)])) rfl (by rw [hml]; rfl) rfl (by show 2 * 0 + _ ≤ _; exact Nat.le_of_eq rfl) (hb hby own_d4_9)
  obtain ⟨rfl, N102q, K102, V102⟩ := Q102
  have z102 := K102.1
  have N102 := Fr.app N0 N102q
  refine own_st st102 ?_
  show own_Goes p e below s _ _ (T102.setTop (mkF m 12 #[rv a1, iv (0 : Int32), iv (2 : Int32), rv b101, .unset, .unset] [(.int (2 : Int32))]))
  refine own_st (fun _ k => XS.istore X102.here hx rfl (hb hby own_d4_12) rfl (l' := #[rv a1, iv (0 : Int32), iv (2 : Int32), rv b101, iv (2 : Int32), .unset]) rfl k) ?_
  show own_Goes p e below s _ _ (T102.setTop (mkF m 14 #[rv a1, iv (0 : Int32), iv (2 : Int32), rv b101, iv (2 : Int32), .unset] []))
  refine own_st (fun _ k => XS.iload X102.here hx rfl (hb hby own_d4_14) rfl  k) ?_
  show own_Goes p e below s _ _ (T102.setTop (mkF m 16 #[rv a1, iv (0 : Int32), iv (2 : Int32), rv b101, iv (2 : Int32), .unset] [(.int (2 : Int32))]))
  refine own_st (fun _ k => XS.iloadN X102.here hx rfl (hb hby own_d4_16) rfl  k) ?_
  show own_Goes p e below s _ _ (T102.setTop (mkF m 17 #[rv a1, iv (0 : Int32), iv (2 : Int32), rv b101, iv (2 : Int32), .unset] [(.int (2 : Int32)), (.int (2 : Int32))]))
  refine own_st (fun _ k => XS.icmpYes X102.here hx rfl (pc0 := 17) (pc' := 57) rfl (hb hby own_d4_17) rfl (teq (by decide : (2 : Int32) = (2 : Int32))).1 (by decide) (by decide) k) ?_
  show own_Goes p e below s _ _ (T102.setTop (mkF m 57 #[rv a1, iv (0 : Int32), iv (2 : Int32), rv b101, iv (2 : Int32), .unset] []))
  refine own_st (fun _ k => XS.aloadN X102.here hx rfl (hb hby own_d4_57) rfl rfl  k) ?_
  show own_Goes p e below s _ _ (T102.setTop (mkF m 58 #[rv a1, iv (0 : Int32), iv (2 : Int32), rv b101, iv (2 : Int32), .unset] [(.ref b101)]))
  exact own_retR X102 hx hlk hret rfl rfl (hb hby own_d4_58) (by decide) (by decide) ⟨b101, rfl, N102, (((Keep.refl h0 []).ext E101).trans K102 (allS (Or.inr (by omega)) all0)), by omega, by omega, V102⟩
theorem own_pn2 : plainFor (⟨"java/lang/StringUTF16", "coderFromArrayLen", "([BI)B"⟩ : MethodName) = true := by first | exact plainFor_of_name (by simp [plainName, overriddenIn]; done) | decide +kernel
theorem own_d6_0 : decode jdk_52_method_15_code 0 = .ok (.iload_n 1, 1) := by decide +kernel
theorem own_d6_1 : decode jdk_52_method_15_code 1 = .ok (.aload_n 0, 1) := by decide +kernel
theorem own_d6_2 : decode jdk_52_method_15_code 2 = .ok (.arraylength, 1) := by decide +kernel
theorem own_d6_3 : decode jdk_52_method_15_code 3 = .ok (.isub, 1) := by decide +kernel
theorem own_d6_4 : decode jdk_52_method_15_code 4 = .ok (.bipush 31, 2) := by decide +kernel
theorem own_d6_6 : decode jdk_52_method_15_code 6 = .ok (.iushr, 1) := by decide +kernel
theorem own_d6_7 : decode jdk_52_method_15_code 7 = .ok (.i2b, 1) := by decide +kernel
theorem own_d6_8 : decode jdk_52_method_15_code 8 = .ok (.ireturn, 1) := by decide +kernel
theorem own_ef_rmCo2 (m : MethodId) (a1 : Nat) : entryFrame m #[(.ref a1), (.int (2 : Int32))] 2 = mkF m 0 #[rv a1, iv (2 : Int32)] [] := by first | (simp [entryFrame, mkF, argsToLocals, Value.category, maxLocals]; done) | rfl
abbrev own_Q_rmCo2 (Z : State) (a1 : Nat) (g : Nat → Int32) (h0 : Heap) (n0 : Nat) (v : Option Value) (h : Heap) (L : List Loc) : Prop := v = some (.int (0 : Int32)) ∧ Fr n0 L ∧ h = h0
set_option maxRecDepth 65536 in
set_option maxHeartbeats 40000000 in
theorem rmCo2 (l : Launch) (Z : State) (a0 : Array Value) (hw : ∀ d ∈ tables_1, d.before a0 Z = true) (ws : List Jvm.Cond) (a1 : Nat) (g : Nat → Int32) (h0 : Heap) (n0 : Nat) (Z0 : n0 ≤ h0.size) (V1 : own_Arf Z h0 a1 .byte 2 (fun k => .int (g k))) :
    MetFree l (⟨"java/lang/StringUTF16", "coderFromArrayLen", "([BI)B"⟩ : MethodName) (head1 (Jvm.Cond.code (⟨"java/lang/StringUTF16", "coderFromArrayLen", "([BI)B"⟩ : MethodName) jdk_52_method_15_code 2 (some .byte) :: ws) ({ frames := 0, cells := 0, slots := 0, locals := 0 } : Room)) (fun a U => a = #[(.ref a1), (.int (2 : Int32))] ∧ Z.Warmed39 U.vm ∧ U.heap = h0) (fun _ _ _ _ _ => True) (fun _ U o U' => ∃ v L, o = .returned v ∧ own_Q_rmCo2 Z a1 g h0 n0 v U'.heap L ∧ FrameEnd U o U' L ({ frames := 0, cells := 0, slots := 0, locals := 0 } : Room).cells ({ frames := 0, cells := 0, slots := 0, locals := 0 } : Room).slots) := by
  refine own_enter (Q := fun v h L => own_Q_rmCo2 Z a1 g h0 n0 v h L) (F := fun m => mkF m 0 #[rv a1, iv (2 : Int32)] []) own_pn2 (fun m => own_ef_rmCo2 m a1) ?_
  intro p e s m below meth c T X hx hby hml hret hlk hnm hown hZ e0
  show own_Goes p e below s _ _ (T.setTop (mkF m 0 #[rv a1, iv (2 : Int32)] []))
  have N0 := Fr.nil n0
  refine own_st (fun _ k => XS.iloadN X.here hx rfl (hb hby own_d6_0) rfl  k) ?_
  show own_Goes p e below s _ _ (T.setTop (mkF m 1 #[rv a1, iv (2 : Int32)] [(.int (2 : Int32))]))
  refine own_st (fun _ k => XS.aloadN X.here hx rfl (hb hby own_d6_1) rfl rfl  k) ?_
  show own_Goes p e below s _ _ (T.setTop (mkF m 2 #[rv a1, iv (2 : Int32)] [(.ref a1), (.int (2 : Int32))]))
  refine own_st (fun _ k => own_len X hx hZ e0 V1 (g := (mkF m 2 #[rv a1, iv (2 : Int32)] [(.ref a1), (.int (2 : Int32))])) rfl rfl (hb hby own_d6_2) _ k) ?_
  show own_Goes p e below s _ _ (T.setTop (mkF m 3 #[rv a1, iv (2 : Int32)] [(.int (2 : Int32)), (.int (2 : Int32))]))
  refine own_st (fun _ k => XS.isub X.here hx rfl (hb hby own_d6_3) rfl k) ?_
  show own_Goes p e below s _ _ (T.setTop (mkF m 4 #[rv a1, iv (2 : Int32)] [(.int (0 : Int32))]))
  refine own_st (fun _ k => XS.bipush X.here hx rfl (hb hby own_d6_4) k) ?_
  show own_Goes p e below s _ _ (T.setTop (mkF m 6 #[rv a1, iv (2 : Int32)] [(.int (31 : Int32)), (.int (0 : Int32))]))
  refine own_st (fun _ k => XS.iushr X.here hx rfl (hb hby own_d6_6) rfl k) ?_
  show own_Goes p e below s _ _ (T.setTop (mkF m 7 #[rv a1, iv (2 : Int32)] [(.int (((0 : Int32).toUInt32 >>> ((31 : Int32) &&& 31).toUInt32).toInt32))]))
  refine own_st (fun _ k => XS.i2b X.here hx rfl (hb hby own_d6_7) rfl k) ?_
  show own_Goes p e below s _ _ (T.setTop (mkF m 8 #[rv a1, iv (2 : Int32)] [(.int ((((0 : Int32).toUInt32 >>> ((31 : Int32) &&& 31).toUInt32).toInt32).toInt8.toInt32))]))
  exact own_retN X hx hlk (nar .byte ((((0 : Int32).toUInt32 >>> ((31 : Int32) &&& 31).toUInt32).toInt32).toInt8.toInt32)) hret (Or.inr (Or.inl rfl)) rfl (hb hby own_d6_8) (by decide) (by decide) ⟨by decide, N0, e0⟩
theorem own_pn3 : plainFor (⟨"java/lang/String", "<init>", "([CIILjava/lang/Void;)V"⟩ : MethodName) = true := by first | exact plainFor_of_name (by simp [plainName, overriddenIn]; done) | decide +kernel
theorem own_d2_0 : decode jdk_42_method_149_code 0 = .ok (.aload_n 0, 1) := by decide +kernel
theorem own_d2_1 : decode jdk_42_method_149_code 1 = .ok (.invokespecial 1, 3) := by decide +kernel
theorem own_d2_4 : decode jdk_42_method_149_code 4 = .ok (.iload_n 3, 1) := by decide +kernel
theorem own_d2_5 : decode jdk_42_method_149_code 5 = .ok (.ifCond .ne 22, 3) := by decide +kernel
theorem own_d2_27 : decode jdk_42_method_149_code 27 = .ok (.getstatic 38, 3) := by decide +kernel
theorem own_d2_30 : decode jdk_42_method_149_code 30 = .ok (.ifCond .eq 28, 3) := by decide +kernel
theorem own_d2_33 : decode jdk_42_method_149_code 33 = .ok (.aload_n 1, 1) := by decide +kernel
theorem own_d2_34 : decode jdk_42_method_149_code 34 = .ok (.iload_n 2, 1) := by decide +kernel
theorem own_d2_35 : decode jdk_42_method_149_code 35 = .ok (.iload_n 3, 1) := by decide +kernel
theorem own_d2_36 : decode jdk_42_method_149_code 36 = .ok (.invokestatic 177, 3) := by decide +kernel
theorem own_pd1 : parseMethodDescriptor "([CII)[B" = some ⟨[(.array .char), .int, .int], some (.array .byte)⟩ := by decide +kernel
theorem own_d2_39 : decode jdk_42_method_149_code 39 = .ok (.astore 5, 2) := by decide +kernel
theorem own_d2_41 : decode jdk_42_method_149_code 41 = .ok (.aload_n 0, 1) := by decide +kernel
theorem own_d2_42 : decode jdk_42_method_149_code 42 = .ok (.aload 5, 2) := by decide +kernel
theorem own_d2_44 : decode jdk_42_method_149_code 44 = .ok (.iload_n 3, 1) := by decide +kernel
theorem own_d2_45 : decode jdk_42_method_149_code 45 = .ok (.invokestatic 47, 3) := by decide +kernel
theorem own_pd2 : parseMethodDescriptor "([BI)B" = some ⟨[(.array .byte), .int], some .byte⟩ := by decide +kernel
theorem own_d2_48 : decode jdk_42_method_149_code 48 = .ok (.putfield 15, 3) := by decide +kernel
theorem own_d2_51 : decode jdk_42_method_149_code 51 = .ok (.aload_n 0, 1) := by decide +kernel
theorem own_d2_52 : decode jdk_42_method_149_code 52 = .ok (.aload 5, 2) := by decide +kernel
theorem own_d2_54 : decode jdk_42_method_149_code 54 = .ok (.putfield 9, 3) := by decide +kernel
theorem own_d2_57 : decode jdk_42_method_149_code 57 = .ok (.return_, 1) := by decide +kernel
theorem own_ef_rmSI2 (m : MethodId) (a1 : Nat) (a2 : Nat) : entryFrame m #[(.ref a1), (.ref a2), (.int (0 : Int32)), (.int (2 : Int32)), .null] 6 = mkF m 0 #[rv a1, rv a2, iv (0 : Int32), iv (2 : Int32), .val .null, .unset] [] := by first | (simp [entryFrame, mkF, argsToLocals, Value.category, maxLocals]; done) | rfl
abbrev own_Q_rmSI2 (Z : State) (a1 : Nat) (a2 : Nat) (f : Nat → Int32) (cs : Int32) (u1 : Value) (u2 : Value) (h0 : Heap) (n0 : Nat) (v : Option Value) (h : Heap) (L : List Loc) : Prop := v = none ∧ Fr n0 L ∧ Keep h0 h [a1] ∧ ∃ b : Nat, h0.size ≤ b ∧ b < h.size ∧ Exa Z h a1 "java/lang/String" ∧ Fld Z h a1 "java/lang/String" "value" "[B" (.ref b) ∧ Fld Z h a1 "java/lang/String" "coder" "B" (.int (0 : Int32)) ∧ own_Arf Z h b .byte 2 (fun k => .int ((fun j => nar .byte ((f j).toInt8.toInt32)) k))
set_option maxRecDepth 65536 in
set_option maxHeartbeats 40000000 in
theorem rmSI2 (l : Launch) (Z : State) (a0 : Array Value) (hw : ∀ d ∈ tables_1, d.before a0 Z = true) (ws : List Jvm.Cond) (a1 : Nat) (a2 : Nat) (f : Nat → Int32) (cs : Int32) (u1 : Value) (u2 : Value) (h0 : Heap) (n0 : Nat) (Z0 : n0 ≤ h0.size) (E1 : Exa Z h0 a1 "java/lang/String") (F_value : Fld Z h0 a1 "java/lang/String" "value" "[B" u1) (F_coder : Fld Z h0 a1 "java/lang/String" "coder" "B" u2) (V2 : own_Arf Z h0 a2 .char 2 (fun k => .int (f k))) (hc : ∀ j, j < 2 → 0 ≤ (f j).toInt ∧ (f j).toInt ≤ 255) (S1 : Sta Z h0 "java/lang/String" "COMPACT_STRINGS" "Z" (.int cs)) (hcs : ¬ cs = (0 : Int32)) (g1 : n0 ≤ a1) (x12 : a1 ≠ a2) :
    MetFree l (⟨"java/lang/String", "<init>", "([CIILjava/lang/Void;)V"⟩ : MethodName) (head1 (Jvm.Cond.code (⟨"java/lang/String", "<init>", "([CIILjava/lang/Void;)V"⟩ : MethodName) jdk_42_method_149_code 6 none :: ws) ({ frames := 2, cells := 1, slots := 2, locals := 35 } : Room)) (fun a U => a = #[(.ref a1), (.ref a2), (.int (0 : Int32)), (.int (2 : Int32)), .null] ∧ Z.Warmed39 U.vm ∧ U.heap = h0) (fun _ _ _ _ _ => True) (fun _ U o U' => ∃ v L, o = .returned v ∧ own_Q_rmSI2 Z a1 a2 f cs u1 u2 h0 n0 v U'.heap L ∧ FrameEnd U o U' L ({ frames := 2, cells := 1, slots := 2, locals := 35 } : Room).cells ({ frames := 2, cells := 1, slots := 2, locals := 35 } : Room).slots) := by
  refine own_enter (Q := fun v h L => own_Q_rmSI2 Z a1 a2 f cs u1 u2 h0 n0 v h L) (F := fun m => mkF m 0 #[rv a1, rv a2, iv (0 : Int32), iv (2 : Int32), .val .null, .unset] []) own_pn3 (fun m => own_ef_rmSI2 m a1 a2) ?_
  intro p e s m below meth c T X hx hby hml hret hlk hnm hown hZ e0
  show own_Goes p e below s _ _ (T.setTop (mkF m 0 #[rv a1, rv a2, iv (0 : Int32), iv (2 : Int32), .val .null, .unset] []))
  have N0 := Fr.nil n0
  have yE := own_lt E1.lt
  have yV := own_lt V2.lt
  refine own_st (fun _ k => XS.aloadN X.here hx rfl (hb hby own_d2_0) rfl rfl  k) ?_
  show own_Goes p e below s _ _ (T.setTop (mkF m 1 #[rv a1, rv a2, iv (0 : Int32), iv (2 : Int32), .val .null, .unset] [(.ref a1)]))
  obtain ⟨T101, X101, e101, st101⟩ := initO X hx hZ hown (hw _ (List.mem_of_getElem? (i := 11) rfl)) (hw _ (List.mem_of_getElem? (i := 12) rfl)) (hw _ (List.mem_of_getElem? (i := 13) rfl)) e0 (g := (mkF m 1 #[rv a1, rv a2, iv (0 : Int32), iv (2 : Int32), .val .null, .unset] [(.ref a1)])) rfl (by rw [hml]; rfl) rfl (hb hby own_d2_1) (by decide) (W := 0) (by show 2 * 0 + _ ≤ _; exact Nat.le_of_eq rfl) (by decide)
  refine own_st st101 ?_
  show own_Goes p e below s _ _ (T101.setTop (mkF m 4 #[rv a1, rv a2, iv (0 : Int32), iv (2 : Int32), .val .null, .unset] []))
  refine own_st (fun _ k => XS.iloadN X101.here hx rfl (hb hby own_d2_4) rfl  k) ?_
  show own_Goes p e below s _ _ (T101.setTop (mkF m 5 #[rv a1, rv a2, iv (0 : Int32), iv (2 : Int32), .val .null, .unset] [(.int (2 : Int32))]))
  refine own_st (fun _ k => XS.ifYes X101.here hx rfl (pc0 := 5) (pc' := 27) rfl (hb hby own_d2_5) rfl ((if0 _ _).trans (feq (by decide : ¬ ((2 : Int32) = (0 : Int32)))).2) (by decide) (by decide) k) ?_
  show own_Goes p e below s _ _ (T101.setTop (mkF m 27 #[rv a1, rv a2, iv (0 : Int32), iv (2 : Int32), .val .null, .unset] []))
  obtain ⟨T102, X102, e102, st102⟩ := getS2 X101 hx hZ hown (host := "") (Or.inl (hw _ (List.mem_of_getElem? (i := 14) rfl))) Via.refl e101 S1 (g := (mkF m 27 #[rv a1, rv a2, iv (0 : Int32), iv (2 : Int32), .val .null, .unset] [])) rfl (hb hby own_d2_27)
  refine own_st st102 ?_
  show own_Goes p e below s _ _ (T102.setTop (mkF m 30 #[rv a1, rv a2, iv (0 : Int32), iv (2 : Int32), .val .null, .unset] [(.int cs)]))
  refine own_st (fun _ k => XS.ifNo X102.here hx rfl (hb hby own_d2_30) rfl ((if0 _ _).trans (feq hcs).1) k) ?_
  show own_Goes p e below s _ _ (T102.setTop (mkF m 33 #[rv a1, rv a2, iv (0 : Int32), iv (2 : Int32), .val .null, .unset] []))
  refine own_st (fun _ k => XS.aloadN X102.here hx rfl (hb hby own_d2_33) rfl rfl  k) ?_
  show own_Goes p e below s _ _ (T102.setTop (mkF m 34 #[rv a1, rv a2, iv (0 : Int32), iv (2 : Int32), .val .null, .unset] [(.ref a2)]))
  refine own_st (fun _ k => XS.iloadN X102.here hx rfl (hb hby own_d2_34) rfl  k) ?_
  show own_Goes p e below s _ _ (T102.setTop (mkF m 35 #[rv a1, rv a2, iv (0 : Int32), iv (2 : Int32), .val .null, .unset] [(.int (0 : Int32)), (.ref a2)]))
  refine own_st (fun _ k => XS.iloadN X102.here hx rfl (hb hby own_d2_35) rfl  k) ?_
  show own_Goes p e below s _ _ (T102.setTop (mkF m 36 #[rv a1, rv a2, iv (0 : Int32), iv (2 : Int32), .val .null, .unset] [(.int (2 : Int32)), (.int (0 : Int32)), (.ref a2)]))
  obtain ⟨v103, T103, L103, X103, Q103, st103⟩ := own_callS X102 hx hZ (y := (⟨"java/lang/StringUTF16", "compress", "([CII)[B"⟩ : MethodName)) hown (hw _ (List.mem_of_getElem? (i := 15) rfl)) (hw _ (List.mem_of_getElem? (i := 16) rfl)) (hw _ (List.mem_of_getElem? (i := 17) rfl)) (hw _ (List.mem_of_getElem? (i := 18) rfl)) (by decide) (W := 0) (rest := []) (argsL := [(.ref a2), (.int (0 : Int32)), (.int (2 : Int32))]) (rmCp2 l Z a0 hw [] a2 _ h0 n0 (by omega) V2 hc) (by decide) (by decide) (by decide) (by decide) e102 own_pd1 rfl (g := (mkF m 36 #[rv a1, rv a2, iv (0 : Int32), iv (2 : Int32), .val .null, .unset] [(.int (2 : Int32)), (.int (0 : Int32)), (.ref a2)])) rfl (by rw [hml]; rfl) rfl (by show 2 * 0 + _ ≤ _; exact Nat.le_of_eq rfl) (hb hby own_d2_36)
  obtain ⟨b103, rfl, N103q, K103, g103, y103, V103⟩ := Q103
  have z103 := K103.1
  have N103 := Fr.app N0 N103q
  refine own_st st103 ?_
  show own_Goes p e below s _ _ (T103.setTop (mkF m 39 #[rv a1, rv a2, iv (0 : Int32), iv (2 : Int32), .val .null, .unset] [(.ref b103)]))
  refine own_st (fun _ k => XS.astore X103.here hx rfl (hb hby own_d2_39) rfl rfl (l' := #[rv a1, rv a2, iv (0 : Int32), iv (2 : Int32), .val .null, rv b103]) rfl k) ?_
  show own_Goes p e below s _ _ (T103.setTop (mkF m 41 #[rv a1, rv a2, iv (0 : Int32), iv (2 : Int32), .val .null, rv b103] []))
  refine own_st (fun _ k => XS.aloadN X103.here hx rfl (hb hby own_d2_41) rfl rfl  k) ?_
  show own_Goes p e below s _ _ (T103.setTop (mkF m 42 #[rv a1, rv a2, iv (0 : Int32), iv (2 : Int32), .val .null, rv b103] [(.ref a1)]))
  refine own_st (fun _ k => XS.aload X103.here hx rfl (hb hby own_d2_42) rfl rfl  k) ?_
  show own_Goes p e below s _ _ (T103.setTop (mkF m 44 #[rv a1, rv a2, iv (0 : Int32), iv (2 : Int32), .val .null, rv b103] [(.ref b103), (.ref a1)]))
  refine own_st (fun _ k => XS.iloadN X103.here hx rfl (hb hby own_d2_44) rfl  k) ?_
  show own_Goes p e below s _ _ (T103.setTop (mkF m 45 #[rv a1, rv a2, iv (0 : Int32), iv (2 : Int32), .val .null, rv b103] [(.int (2 : Int32)), (.ref b103), (.ref a1)]))
  obtain ⟨v104, T104, L104, X104, Q104, st104⟩ := own_callS X103 hx hZ (y := (⟨"java/lang/StringUTF16", "coderFromArrayLen", "([BI)B"⟩ : MethodName)) hown (hw _ (List.mem_of_getElem? (i := 23) rfl)) (hw _ (List.mem_of_getElem? (i := 24) rfl)) (hw _ (List.mem_of_getElem? (i := 17) rfl)) (hw _ (List.mem_of_getElem? (i := 25) rfl)) (by decide) (W := 1) (rest := [(.ref a1)]) (argsL := [(.ref b103), (.int (2 : Int32))]) (rmCo2 l Z a0 hw [] b103 _ T103.heap n0 (by omega) V103) (by decide) (by decide) (by decide) (by decide) rfl own_pd2 rfl (g := (mkF m 45 #[rv a1, rv a2, iv (0 : Int32), iv (2 : Int32), .val .null, rv b103] [(.int (2 : Int32)), (.ref b103), (.ref a1)])) rfl (by rw [hml]; rfl) rfl (by show 2 * 0 + _ ≤ _; exact Nat.le_of_eq rfl) (hb hby own_d2_45)
  obtain ⟨rfl, N104q, e104⟩ := Q104
  have N104 := Fr.app N103 N104q
  refine own_st st104 ?_
  show own_Goes p e below s _ _ (T104.setTop (mkF m 48 #[rv a1, rv a2, iv (0 : Int32), iv (2 : Int32), .val .null, rv b103] [(.int (0 : Int32)), (.ref a1)]))
  have f105 := (F_coder.keep K103 nin0)
  have f106 := (E1.keep K103)
  obtain ⟨T107, h107, X107, e107, W107, st107⟩ := putFN X104 hx hZ hown (hw _ (List.mem_of_getElem? (i := 26) rfl)) Via.refl e104 f105 f106 (Or.inr ⟨(hw _ (List.mem_of_getElem? (i := 27) rfl)), rfl, hnm⟩) (hw _ (List.mem_of_getElem? (i := 2) rfl)) (ty := .byte) (v' := (.int (nar .byte (0 : Int32)))) (by decide) rfl (fits_nar_byte _) (g := (mkF m 48 #[rv a1, rv a2, iv (0 : Int32), iv (2 : Int32), .val .null, rv b103] [(.int (0 : Int32)), (.ref a1)])) rfl rfl (hb hby own_d2_48)
  have z107 := W107.size
  have N107 := Fr.snoc X107 N104 (by omega)
  have F107 := f105.same W107
  refine own_st st107 ?_
  show own_Goes p e below s _ _ (T107.setTop (mkF m 51 #[rv a1, rv a2, iv (0 : Int32), iv (2 : Int32), .val .null, rv b103] []))
  refine own_st (fun _ k => XS.aloadN X107.here hx rfl (hb hby own_d2_51) rfl rfl  k) ?_
  show own_Goes p e below s _ _ (T107.setTop (mkF m 52 #[rv a1, rv a2, iv (0 : Int32), iv (2 : Int32), .val .null, rv b103] [(.ref a1)]))
  refine own_st (fun _ k => XS.aload X107.here hx rfl (hb hby own_d2_52) rfl rfl  k) ?_
  show own_Goes p e below s _ _ (T107.setTop (mkF m 54 #[rv a1, rv a2, iv (0 : Int32), iv (2 : Int32), .val .null, rv b103] [(.ref b103), (.ref a1)]))
  have f108 := ((F_value.keep K103 nin0).other W107 (Or.inr (slot_ne (Or.inr (hw _ (List.mem_of_getElem? (i := 29) rfl))) (Or.inr (hw _ (List.mem_of_getElem? (i := 27) rfl))) (by decide) (t := (.array .byte)) (t' := .byte) (by decide) (by decide))))
  have f109 := (f106.wr W107)
  obtain ⟨T110, h110, X110, e110, W110, st110⟩ := putF X107 hx hZ hown (host := "") (Or.inl (hw _ (List.mem_of_getElem? (i := 28) rfl))) Via.refl e107 f108 f109 (Or.inr ⟨(hw _ (List.mem_of_getElem? (i := 29) rfl)), rfl, hnm⟩) (hw _ (List.mem_of_getElem? (i := 2) rfl)) (ty := (.array .byte)) (by decide) rfl rfl (g := (mkF m 54 #[rv a1, rv a2, iv (0 : Int32), iv (2 : Int32), .val .null, rv b103] [(.ref b103), (.ref a1)])) rfl rfl (hb hby own_d2_54)
  have z110 := W110.size
  have N110 := Fr.snoc X110 N107 (by omega)
  have F110 := f108.same W110
  refine own_st st110 ?_
  show own_Goes p e below s _ _ (T110.setTop (mkF m 57 #[rv a1, rv a2, iv (0 : Int32), iv (2 : Int32), .val .null, rv b103] []))
  have f111 := (f109.wr W110)
  have f112 := (F107.other W110 (Or.inr (slot_ne (Or.inr (hw _ (List.mem_of_getElem? (i := 27) rfl))) (Or.inr (hw _ (List.mem_of_getElem? (i := 29) rfl))) (by decide) (t := .byte) (t' := (.array .byte)) (by decide) (by decide))))
  have f113 := ((V103.other W107 (own_ne (by omega))).other W110 (own_ne (by omega)))
  exact own_ret0 X110 hx hlk hret (hb hby own_d2_57) (by decide) (by decide) ⟨rfl, N110, by rw [e110]; exact ((((Keep.refl h0 [a1]).trans K103 all0).wr W107 (Or.inl (by simp))).wr W110 (Or.inl (by simp))), b103, by omega, by rw [e110]; omega, by rw [e110]; exact f111, by rw [e110]; exact F110, by rw [e110]; exact f112, by rw [e110]; exact f113⟩
theorem own_pn4 : plainFor (⟨"java/lang/String", "<init>", "([C)V"⟩ : MethodName) = true := by first | exact plainFor_of_name (by simp [plainName, overriddenIn]; done) | decide +kernel
theorem own_d1_0 : decode jdk_42_method_3_code 0 = .ok (.aload_n 0, 1) := by decide +kernel
theorem own_d1_1 : decode jdk_42_method_3_code 1 = .ok (.aload_n 1, 1) := by decide +kernel
theorem own_d1_2 : decode jdk_42_method_3_code 2 = .ok (.iconst 0, 1) := by decide +kernel
theorem own_d1_3 : decode jdk_42_method_3_code 3 = .ok (.aload_n 1, 1) := by decide +kernel
theorem own_d1_4 : decode jdk_42_method_3_code 4 = .ok (.arraylength, 1) := by decide +kernel
theorem own_d1_5 : decode jdk_42_method_3_code 5 = .ok (.aconst_null, 1) := by decide +kernel
theorem own_d1_6 : decode jdk_42_method_3_code 6 = .ok (.invokespecial 27, 3) := by decide +kernel
theorem own_pd3 : parseMethodDescriptor "([CIILjava/lang/Void;)V" = some ⟨[(.array .char), .int, .int, (.object "java/lang/Void")], none⟩ := by decide +kernel
theorem own_d1_9 : decode jdk_42_method_3_code 9 = .ok (.return_, 1) := by decide +kernel
theorem own_ef_rmS2 (m : MethodId) (a1 : Nat) (a2 : Nat) : entryFrame m #[(.ref a1), (.ref a2)] 2 = mkF m 0 #[rv a1, rv a2] [] := by first | (simp [entryFrame, mkF, argsToLocals, Value.category, maxLocals]; done) | rfl
abbrev own_Q_rmS2 (Z : State) (a1 : Nat) (a2 : Nat) (f : Nat → Int32) (cs : Int32) (u1 : Value) (u2 : Value) (h0 : Heap) (n0 : Nat) (v : Option Value) (h : Heap) (L : List Loc) : Prop := v = none ∧ Fr n0 L ∧ Keep h0 h [a1] ∧ ∃ b : Nat, h0.size ≤ b ∧ b < h.size ∧ Exa Z h a1 "java/lang/String" ∧ Fld Z h a1 "java/lang/String" "value" "[B" (.ref b) ∧ Fld Z h a1 "java/lang/String" "coder" "B" (.int (0 : Int32)) ∧ own_Arf Z h b .byte 2 (fun k => .int ((fun j => nar .byte ((f j).toInt8.toInt32)) k))
set_option maxRecDepth 65536 in
set_option maxHeartbeats 40000000 in
theorem rmS2 (l : Launch) (Z : State) (a0 : Array Value) (hw : ∀ d ∈ tables_1, d.before a0 Z = true) (ws : List Jvm.Cond) (a1 : Nat) (a2 : Nat) (f : Nat → Int32) (cs : Int32) (u1 : Value) (u2 : Value) (h0 : Heap) (n0 : Nat) (Z0 : n0 ≤ h0.size) (E1 : Exa Z h0 a1 "java/lang/String") (F_value : Fld Z h0 a1 "java/lang/String" "value" "[B" u1) (F_coder : Fld Z h0 a1 "java/lang/String" "coder" "B" u2) (V2 : own_Arf Z h0 a2 .char 2 (fun k => .int (f k))) (hc : ∀ j, j < 2 → 0 ≤ (f j).toInt ∧ (f j).toInt ≤ 255) (S1 : Sta Z h0 "java/lang/String" "COMPACT_STRINGS" "Z" (.int cs)) (hcs : ¬ cs = (0 : Int32)) (g1 : n0 ≤ a1) (x12 : a1 ≠ a2) :
    MetFree l (⟨"java/lang/String", "<init>", "([C)V"⟩ : MethodName) (head1 (Jvm.Cond.code (⟨"java/lang/String", "<init>", "([C)V"⟩ : MethodName) jdk_42_method_3_code 2 none :: ws) ({ frames := 3, cells := 1, slots := 2, locals := 52 } : Room)) (fun a U => a = #[(.ref a1), (.ref a2)] ∧ Z.Warmed39 U.vm ∧ U.heap = h0) (fun _ _ _ _ _ => True) (fun _ U o U' => ∃ v L, o = .returned v ∧ own_Q_rmS2 Z a1 a2 f cs u1 u2 h0 n0 v U'.heap L ∧ FrameEnd U o U' L ({ frames := 3, cells := 1, slots := 2, locals := 52 } : Room).cells ({ frames := 3, cells := 1, slots := 2, locals := 52 } : Room).slots) := by
  refine own_enter (Q := fun v h L => own_Q_rmS2 Z a1 a2 f cs u1 u2 h0 n0 v h L) (F := fun m => mkF m 0 #[rv a1, rv a2] []) own_pn4 (fun m => own_ef_rmS2 m a1 a2) ?_
  intro p e s m below meth c T X hx hby hml hret hlk hnm hown hZ e0
  show own_Goes p e below s _ _ (T.setTop (mkF m 0 #[rv a1, rv a2] []))
  have N0 := Fr.nil n0
  have yE := own_lt E1.lt
  have yV := own_lt V2.lt
  refine own_st (fun _ k => XS.aloadN X.here hx rfl (hb hby own_d1_0) rfl rfl  k) ?_
  show own_Goes p e below s _ _ (T.setTop (mkF m 1 #[rv a1, rv a2] [(.ref a1)]))
  refine own_st (fun _ k => XS.aloadN X.here hx rfl (hb hby own_d1_1) rfl rfl  k) ?_
  show own_Goes p e below s _ _ (T.setTop (mkF m 2 #[rv a1, rv a2] [(.ref a2), (.ref a1)]))
  refine own_st (fun _ k => XS.iconst X.here hx rfl (hb hby own_d1_2) k) ?_
  show own_Goes p e below s _ _ (T.setTop (mkF m 3 #[rv a1, rv a2] [(.int (0 : Int32)), (.ref a2), (.ref a1)]))
  refine own_st (fun _ k => XS.aloadN X.here hx rfl (hb hby own_d1_3) rfl rfl  k) ?_
  show own_Goes p e below s _ _ (T.setTop (mkF m 4 #[rv a1, rv a2] [(.ref a2), (.int (0 : Int32)), (.ref a2), (.ref a1)]))
  refine own_st (fun _ k => own_len X hx hZ e0 V2 (g := (mkF m 4 #[rv a1, rv a2] [(.ref a2), (.int (0 : Int32)), (.ref a2), (.ref a1)])) rfl rfl (hb hby own_d1_4) _ k) ?_
  show own_Goes p e below s _ _ (T.setTop (mkF m 5 #[rv a1, rv a2] [(.int (2 : Int32)), (.int (0 : Int32)), (.ref a2), (.ref a1)]))
  refine own_st (fun _ k => XS.aconstNull X.here hx rfl (hb hby own_d1_5) k) ?_
  show own_Goes p e below s _ _ (T.setTop (mkF m 6 #[rv a1, rv a2] [.null, (.int (2 : Int32)), (.int (0 : Int32)), (.ref a2), (.ref a1)]))
  obtain ⟨v101, T101, L101, X101, Q101, st101⟩ := own_callI X hx hZ (y := (⟨"java/lang/String", "<init>", "([CIILjava/lang/Void;)V"⟩ : MethodName)) hown (hw _ (List.mem_of_getElem? (i := 7) rfl)) (hw _ (List.mem_of_getElem? (i := 8) rfl)) (hw _ (List.mem_of_getElem? (i := 3) rfl)) (hw _ (List.mem_of_getElem? (i := 10) rfl)) rfl (by decide) (W := 0) (rest := []) (argsL := [(.ref a2), (.int (0 : Int32)), (.int (2 : Int32)), .null]) (a := a1) (rmSI2 l Z a0 hw [] a1 a2 _ cs _ _  h0 n0 (by omega) E1 F_value F_coder V2 hc S1 hcs (by omega) (by omega)) (by decide) (by decide) (by decide) (by decide) e0 own_pd3 rfl (g := (mkF m 6 #[rv a1, rv a2] [.null, (.int (2 : Int32)), (.int (0 : Int32)), (.ref a2), (.ref a1)])) rfl (by rw [hml]; rfl) rfl (by show 2 * 0 + _ ≤ _; exact Nat.le_of_eq rfl) (hb hby own_d1_6)
  obtain ⟨rfl, N101q, K101, b101, g101, y101, A101, F101_value, F101_coder, V101⟩ := Q101
  have z101 := K101.1
  have N101 := Fr.app N0 N101q
  refine own_st st101 ?_
  show own_Goes p e below s _ _ (T101.setTop (mkF m 9 #[rv a1, rv a2] []))
  exact own_ret0 X101 hx hlk hret (hb hby own_d1_9) (by decide) (by decide) ⟨rfl, N101, ((Keep.refl h0 [a1]).trans K101 (allS (Or.inl (by simp)) all0)), b101, by omega, by omega, A101, F101_value, F101_coder, V101⟩
theorem own_pn5 : plainFor (⟨"java/lang/StringLatin1", "canEncode", "(C)Z"⟩ : MethodName) = true := by first | exact plainFor_of_name (by simp [plainName, overriddenIn]; done) | decide +kernel
theorem own_d8_0 : decode jdk_43_method_3_code 0 = .ok (.iload_n 0, 1) := by decide +kernel
theorem own_d8_1 : decode jdk_43_method_3_code 1 = .ok (.sipush 255, 3) := by decide +kernel
theorem own_d8_4 : decode jdk_43_method_3_code 4 = .ok (.if_icmp .gt 7, 3) := by decide +kernel
theorem own_d8_7 : decode jdk_43_method_3_code 7 = .ok (.iconst 1, 1) := by decide +kernel
theorem own_d8_8 : decode jdk_43_method_3_code 8 = .ok (.goto 4, 3) := by decide +kernel
theorem own_d8_12 : decode jdk_43_method_3_code 12 = .ok (.ireturn, 1) := by decide +kernel
theorem own_ef_rmCan (m : MethodId) (p1 : Int32) : entryFrame m #[(.int p1)] 1 = mkF m 0 #[iv p1] [] := by first | (simp [entryFrame, mkF, argsToLocals, Value.category, maxLocals]; done) | rfl
abbrev own_Q_rmCan (Z : State) (p1 : Int32) (h0 : Heap) (n0 : Nat) (v : Option Value) (h : Heap) (L : List Loc) : Prop := v = some (.int (1 : Int32)) ∧ Fr n0 L ∧ h = h0
set_option maxRecDepth 65536 in
set_option maxHeartbeats 40000000 in
theorem rmCan (l : Launch) (Z : State) (a0 : Array Value) (hw : ∀ d ∈ tables_1, d.before a0 Z = true) (ws : List Jvm.Cond) (p1 : Int32) (h0 : Heap) (n0 : Nat) (Z0 : n0 ≤ h0.size) (hp : 0 ≤ p1.toInt ∧ p1.toInt ≤ 255) :
    MetFree l (⟨"java/lang/StringLatin1", "canEncode", "(C)Z"⟩ : MethodName) (head1 (Jvm.Cond.code (⟨"java/lang/StringLatin1", "canEncode", "(C)Z"⟩ : MethodName) jdk_43_method_3_code 1 (some .boolean) :: ws) ({ frames := 0, cells := 0, slots := 0, locals := 0 } : Room)) (fun a U => a = #[(.int p1)] ∧ Z.Warmed39 U.vm ∧ U.heap = h0) (fun _ _ _ _ _ => True) (fun _ U o U' => ∃ v L, o = .returned v ∧ own_Q_rmCan Z p1 h0 n0 v U'.heap L ∧ FrameEnd U o U' L ({ frames := 0, cells := 0, slots := 0, locals := 0 } : Room).cells ({ frames := 0, cells := 0, slots := 0, locals := 0 } : Room).slots) := by
  refine own_enter (Q := fun v h L => own_Q_rmCan Z p1 h0 n0 v h L) (F := fun m => mkF m 0 #[iv p1] []) own_pn5 (fun m => own_ef_rmCan m p1) ?_
  intro p e s m below meth c T X hx hby hml hret hlk hnm hown hZ e0
  show own_Goes p e below s _ _ (T.setTop (mkF m 0 #[iv p1] []))
  have N0 := Fr.nil n0
  refine own_st (fun _ k => XS.iloadN X.here hx rfl (hb hby own_d8_0) rfl  k) ?_
  show own_Goes p e below s _ _ (T.setTop (mkF m 1 #[iv p1] [(.int p1)]))
  refine own_st (fun _ k => XS.sipush X.here hx rfl (hb hby own_d8_1) k) ?_
  show own_Goes p e below s _ _ (T.setTop (mkF m 4 #[iv p1] [(.int (255 : Int32)), (.int p1)]))
  by_cases c101 : (255 : Int32) < p1
  · have c101i : 255 < p1.toInt := own_i_lt c101
    exfalso; omega
  · have c101i : p1.toInt ≤ 255 := own_i_nlt c101
    refine own_st (fun _ k => XS.icmpNo X.here hx rfl (hb hby own_d8_4) rfl (flt c101).2.2.1 k) ?_
    show own_Goes p e below s _ _ (T.setTop (mkF m 7 #[iv p1] []))
    refine own_st (fun _ k => XS.iconst X.here hx rfl (hb hby own_d8_7) k) ?_
    show own_Goes p e below s _ _ (T.setTop (mkF m 8 #[iv p1] [(.int (1 : Int32))]))
    refine own_st (fun _ k => XS.goto X.here hx rfl (pc0 := 8) (pc' := 12) rfl (hb hby own_d8_8) (by decide) (by decide) k) ?_
    show own_Goes p e below s _ _ (T.setTop (mkF m 12 #[iv p1] [(.int (1 : Int32))]))
    exact own_retN X hx hlk (1 : Int32) hret (Or.inl rfl) rfl (hb hby own_d8_12) (by decide) (by decide) ⟨rfl, N0, e0⟩
theorem own_pn6 : plainFor (⟨"java/lang/StringLatin1", "toBytes", "(C)[B"⟩ : MethodName) = true := by first | exact plainFor_of_name (by simp [plainName, overriddenIn]; done) | decide +kernel
theorem own_d9_0 : decode jdk_43_method_46_code 0 = .ok (.iconst 1, 1) := by decide +kernel
theorem own_d9_1 : decode jdk_43_method_46_code 1 = .ok (.newarray .byte, 2) := by decide +kernel
theorem own_d9_3 : decode jdk_43_method_46_code 3 = .ok (.dup, 1) := by decide +kernel
theorem own_d9_4 : decode jdk_43_method_46_code 4 = .ok (.iconst 0, 1) := by decide +kernel
theorem own_d9_5 : decode jdk_43_method_46_code 5 = .ok (.iload_n 0, 1) := by decide +kernel
theorem own_d9_6 : decode jdk_43_method_46_code 6 = .ok (.i2b, 1) := by decide +kernel
theorem own_d9_7 : decode jdk_43_method_46_code 7 = .ok (.bastore, 1) := by decide +kernel
theorem own_d9_8 : decode jdk_43_method_46_code 8 = .ok (.areturn, 1) := by decide +kernel
theorem own_ef_rmTB (m : MethodId) (p1 : Int32) : entryFrame m #[(.int p1)] 1 = mkF m 0 #[iv p1] [] := by first | (simp [entryFrame, mkF, argsToLocals, Value.category, maxLocals]; done) | rfl
abbrev own_Q_rmTB (Z : State) (p1 : Int32) (h0 : Heap) (n0 : Nat) (v : Option Value) (h : Heap) (L : List Loc) : Prop := ∃ b : Nat, v = some (.ref b) ∧ Fr n0 L ∧ Keep h0 h [] ∧ h0.size ≤ b ∧ b < h.size
set_option maxRecDepth 65536 in
set_option maxHeartbeats 40000000 in
theorem rmTB (l : Launch) (Z : State) (a0 : Array Value) (hw : ∀ d ∈ tables_1, d.before a0 Z = true) (ws : List Jvm.Cond) (p1 : Int32) (h0 : Heap) (n0 : Nat) (Z0 : n0 ≤ h0.size) :
    MetFree l (⟨"java/lang/StringLatin1", "toBytes", "(C)[B"⟩ : MethodName) (head1 (Jvm.Cond.code (⟨"java/lang/StringLatin1", "toBytes", "(C)[B"⟩ : MethodName) jdk_43_method_46_code 1 (some (.array .byte)) :: ws) ({ frames := 0, cells := 1, slots := 1, locals := 0 } : Room)) (fun a U => a = #[(.int p1)] ∧ Z.Warmed39 U.vm ∧ U.heap = h0) (fun _ _ _ _ _ => True) (fun _ U o U' => ∃ v L, o = .returned v ∧ own_Q_rmTB Z p1 h0 n0 v U'.heap L ∧ FrameEnd U o U' L ({ frames := 0, cells := 1, slots := 1, locals := 0 } : Room).cells ({ frames := 0, cells := 1, slots := 1, locals := 0 } : Room).slots) := by
  refine own_enter (Q := fun v h L => own_Q_rmTB Z p1 h0 n0 v h L) (F := fun m => mkF m 0 #[iv p1] []) own_pn6 (fun m => own_ef_rmTB m p1) ?_
  intro p e s m below meth c T X hx hby hml hret hlk hnm hown hZ e0
  show own_Goes p e below s _ _ (T.setTop (mkF m 0 #[iv p1] []))
  have N0 := Fr.nil n0
  refine own_st (fun _ k => XS.iconst X.here hx rfl (hb hby own_d9_0) k) ?_
  show own_Goes p e below s _ _ (T.setTop (mkF m 1 #[iv p1] [(.int (1 : Int32))]))
  obtain ⟨T101, h101, X101, e101, E101, A101, st101⟩ := own_newP X hx hZ (aty := .byte) (hw _ (List.mem_of_getElem? (i := 19) rfl)) e0 (g := (mkF m 1 #[iv p1] [(.int (1 : Int32))])) rfl (hb hby own_d9_1) rfl (by decide) (cap := 1) (by decide) (by decide) (by decide) (by decide)
  obtain ⟨b101, g101⟩ : ∃ z, z = h0.size := ⟨_, rfl⟩
  rw [← g101] at A101 st101
  have V101 : own_Arf Z h101 b101 .byte 1 (fun k => .int ((fun _ => (0 : Int32)) k)) := A101
  have y101 := own_lt V101.lt
  have z101 := E101.1
  refine own_st st101 ?_
  show own_Goes p e below s _ _ (T101.setTop (mkF m 3 #[iv p1] [(.ref b101)]))
  refine own_st (fun _ k => XS.dup X101.here hx rfl (hb hby own_d9_3) rfl rfl k) ?_
  show own_Goes p e below s _ _ (T101.setTop (mkF m 4 #[iv p1] [(.ref b101), (.ref b101)]))
  refine own_st (fun _ k => XS.iconst X101.here hx rfl (hb hby own_d9_4) k) ?_
  show own_Goes p e below s _ _ (T101.setTop (mkF m 5 #[iv p1] [(.int (0 : Int32)), (.ref b101), (.ref b101)]))
  refine own_st (fun _ k => XS.iloadN X101.here hx rfl (hb hby own_d9_5) rfl  k) ?_
  show own_Goes p e below s _ _ (T101.setTop (mkF m 6 #[iv p1] [(.int p1), (.int (0 : Int32)), (.ref b101), (.ref b101)]))
  refine own_st (fun _ k => XS.i2b X101.here hx rfl (hb hby own_d9_6) rfl k) ?_
  show own_Goes p e below s _ _ (T101.setTop (mkF m 7 #[iv p1] [(.int (p1.toInt8.toInt32)), (.int (0 : Int32)), (.ref b101), (.ref b101)]))
  obtain ⟨T102, h102, X102, e102, W102, A102, st102⟩ := own_stB X101 hx hZ e101 V101 (j := (0 : Int32)) (by decide) (g := (mkF m 7 #[iv p1] [(.int (p1.toInt8.toInt32)), (.int (0 : Int32)), (.ref b101), (.ref b101)])) rfl rfl (hb hby own_d9_7)
  have V102 : own_Arf Z h102 b101 .byte 1 (fun k => .int ((fun k => if k = 0 then (nar .byte (p1.toInt8.toInt32)) else (fun _ => (0 : Int32)) k) k)) := A102
  have z102 := W102.size
  have N102 := Fr.snoc X102 N0 (by omega)
  refine own_st st102 ?_
  show own_Goes p e below s _ _ (T102.setTop (mkF m 8 #[iv p1] [(.ref b101)]))
  exact own_retR X102 hx hlk hret rfl rfl (hb hby own_d9_8) (by decide) (by decide) ⟨b101, rfl, N102, by rw [e102]; exact (((Keep.refl h0 []).ext E101).wr W102 (Or.inr (by omega))), by omega, by rw [e102]; omega⟩
theorem own_pn7 : plainFor (⟨"java/lang/String", "<init>", "([BB)V"⟩ : MethodName) = true := by first | exact plainFor_of_name (by simp [plainName, overriddenIn]; done) | decide +kernel
theorem own_d10_0 : decode jdk_42_method_151_code 0 = .ok (.aload_n 0, 1) := by decide +kernel
theorem own_d10_1 : decode jdk_42_method_151_code 1 = .ok (.invokespecial 1, 3) := by decide +kernel
theorem own_d10_4 : decode jdk_42_method_151_code 4 = .ok (.aload_n 0, 1) := by decide +kernel
theorem own_d10_5 : decode jdk_42_method_151_code 5 = .ok (.aload_n 1, 1) := by decide +kernel
theorem own_d10_6 : decode jdk_42_method_151_code 6 = .ok (.putfield 9, 3) := by decide +kernel
theorem own_d10_9 : decode jdk_42_method_151_code 9 = .ok (.aload_n 0, 1) := by decide +kernel
theorem own_d10_10 : decode jdk_42_method_151_code 10 = .ok (.iload_n 2, 1) := by decide +kernel
theorem own_d10_11 : decode jdk_42_method_151_code 11 = .ok (.putfield 15, 3) := by decide +kernel
theorem own_d10_14 : decode jdk_42_method_151_code 14 = .ok (.return_, 1) := by decide +kernel
theorem own_ef_rmBB (m : MethodId) (a1 : Nat) (a2 : Nat) : entryFrame m #[(.ref a1), (.ref a2), (.int (0 : Int32))] 3 = mkF m 0 #[rv a1, rv a2, iv (0 : Int32)] [] := by first | (simp [entryFrame, mkF, argsToLocals, Value.category, maxLocals]; done) | rfl
abbrev own_Q_rmBB (Z : State) (a1 : Nat) (a2 : Nat) (u1 : Value) (u2 : Value) (h0 : Heap) (n0 : Nat) (v : Option Value) (h : Heap) (L : List Loc) : Prop := v = none ∧ Fr n0 L ∧ Keep h0 h [a1] ∧ Exa Z h a1 "java/lang/String"
set_option maxRecDepth 65536 in
set_option maxHeartbeats 40000000 in
theorem rmBB (l : Launch) (Z : State) (a0 : Array Value) (hw : ∀ d ∈ tables_1, d.before a0 Z = true) (ws : List Jvm.Cond) (a1 : Nat) (a2 : Nat) (u1 : Value) (u2 : Value) (h0 : Heap) (n0 : Nat) (Z0 : n0 ≤ h0.size) (E1 : Exa Z h0 a1 "java/lang/String") (F_value : Fld Z h0 a1 "java/lang/String" "value" "[B" u1) (F_coder : Fld Z h0 a1 "java/lang/String" "coder" "B" u2) (g1 : n0 ≤ a1) :
    MetFree l (⟨"java/lang/String", "<init>", "([BB)V"⟩ : MethodName) (head1 (Jvm.Cond.code (⟨"java/lang/String", "<init>", "([BB)V"⟩ : MethodName) jdk_42_method_151_code 3 none :: ws) ({ frames := 1, cells := 0, slots := 0, locals := 12 } : Room)) (fun a U => a = #[(.ref a1), (.ref a2), (.int (0 : Int32))] ∧ Z.Warmed39 U.vm ∧ U.heap = h0) (fun _ _ _ _ _ => True) (fun _ U o U' => ∃ v L, o = .returned v ∧ own_Q_rmBB Z a1 a2 u1 u2 h0 n0 v U'.heap L ∧ FrameEnd U o U' L ({ frames := 1, cells := 0, slots := 0, locals := 12 } : Room).cells ({ frames := 1, cells := 0, slots := 0, locals := 12 } : Room).slots) := by
  refine own_enter (Q := fun v h L => own_Q_rmBB Z a1 a2 u1 u2 h0 n0 v h L) (F := fun m => mkF m 0 #[rv a1, rv a2, iv (0 : Int32)] []) own_pn7 (fun m => own_ef_rmBB m a1 a2) ?_
  intro p e s m below meth c T X hx hby hml hret hlk hnm hown hZ e0
  show own_Goes p e below s _ _ (T.setTop (mkF m 0 #[rv a1, rv a2, iv (0 : Int32)] []))
  have N0 := Fr.nil n0
  refine own_st (fun _ k => XS.aloadN X.here hx rfl (hb hby own_d10_0) rfl rfl  k) ?_
  show own_Goes p e below s _ _ (T.setTop (mkF m 1 #[rv a1, rv a2, iv (0 : Int32)] [(.ref a1)]))
  obtain ⟨T101, X101, e101, st101⟩ := initO X hx hZ hown (hw _ (List.mem_of_getElem? (i := 11) rfl)) (hw _ (List.mem_of_getElem? (i := 12) rfl)) (hw _ (List.mem_of_getElem? (i := 13) rfl)) e0 (g := (mkF m 1 #[rv a1, rv a2, iv (0 : Int32)] [(.ref a1)])) rfl (by rw [hml]; rfl) rfl (hb hby own_d10_1) (by decide) (W := 0) (by show 2 * 0 + _ ≤ _; exact Nat.le_of_eq rfl) (by decide)
  refine own_st st101 ?_
  show own_Goes p e below s _ _ (T101.setTop (mkF m 4 #[rv a1, rv a2, iv (0 : Int32)] []))
  refine own_st (fun _ k => XS.aloadN X101.here hx rfl (hb hby own_d10_4) rfl rfl  k) ?_
  show own_Goes p e below s _ _ (T101.setTop (mkF m 5 #[rv a1, rv a2, iv (0 : Int32)] [(.ref a1)]))
  refine own_st (fun _ k => XS.aloadN X101.here hx rfl (hb hby own_d10_5) rfl rfl  k) ?_
  show own_Goes p e below s _ _ (T101.setTop (mkF m 6 #[rv a1, rv a2, iv (0 : Int32)] [(.ref a2), (.ref a1)]))
  obtain ⟨T102, h102, X102, e102, W102, st102⟩ := putF X101 hx hZ hown (host := "") (Or.inl (hw _ (List.mem_of_getElem? (i := 28) rfl))) Via.refl e101 F_value E1 (Or.inr ⟨(hw _ (List.mem_of_getElem? (i := 29) rfl)), rfl, hnm⟩) (hw _ (List.mem_of_getElem? (i := 2) rfl)) (ty := (.array .byte)) (by decide) rfl rfl (g := (mkF m 6 #[rv a1, rv a2, iv (0 : Int32)] [(.ref a2), (.ref a1)])) rfl rfl (hb hby own_d10_6)
  have z102 := W102.size
  have N102 := Fr.snoc X102 N0 (by omega)
  have F102 := F_value.same W102
  refine own_st st102 ?_
  show own_Goes p e below s _ _ (T102.setTop (mkF m 9 #[rv a1, rv a2, iv (0 : Int32)] []))
  refine own_st (fun _ k => XS.aloadN X102.here hx rfl (hb hby own_d10_9) rfl rfl  k) ?_
  show own_Goes p e below s _ _ (T102.setTop (mkF m 10 #[rv a1, rv a2, iv (0 : Int32)] [(.ref a1)]))
  refine own_st (fun _ k => XS.iloadN X102.here hx rfl (hb hby own_d10_10) rfl  k) ?_
  show own_Goes p e below s _ _ (T102.setTop (mkF m 11 #[rv a1, rv a2, iv (0 : Int32)] [(.int (0 : Int32)), (.ref a1)]))
  have f103 := (F_coder.other W102 (Or.inr (slot_ne (Or.inr (hw _ (List.mem_of_getElem? (i := 27) rfl))) (Or.inr (hw _ (List.mem_of_getElem? (i := 29) rfl))) (by decide) (t := .byte) (t' := (.array .byte)) (by decide) (by decide))))
  have f104 := (E1.wr W102)
  obtain ⟨T105, h105, X105, e105, W105, st105⟩ := putFN X102 hx hZ hown (hw _ (List.mem_of_getElem? (i := 26) rfl)) Via.refl e102 f103 f104 (Or.inr ⟨(hw _ (List.mem_of_getElem? (i := 27) rfl)), rfl, hnm⟩) (hw _ (List.mem_of_getElem? (i := 2) rfl)) (ty := .byte) (v' := (.int (nar .byte (0 : Int32)))) (by decide) rfl (fits_nar_byte _) (g := (mkF m 11 #[rv a1, rv a2, iv (0 : Int32)] [(.int (0 : Int32)), (.ref a1)])) rfl rfl (hb hby own_d10_11)
  have z105 := W105.size
  have N105 := Fr.snoc X105 N102 (by omega)
  have F105 := f103.same W105
  refine own_st st105 ?_
  show own_Goes p e below s _ _ (T105.setTop (mkF m 14 #[rv a1, rv a2, iv (0 : Int32)] []))
  have f106 := (f104.wr W105)
  exact own_ret0 X105 hx hlk hret (hb hby own_d10_14) (by decide) (by decide) ⟨rfl, N105, by rw [e105]; exact (((Keep.refl h0 [a1]).wr W102 (Or.inl (by simp))).wr W105 (Or.inl (by simp))), by rw [e105]; exact f106⟩
theorem own_pn8 : plainFor (⟨"java/lang/String", "valueOf", "(C)Ljava/lang/String;"⟩ : MethodName) = true := by first | exact plainFor_of_name (by simp [plainName, overriddenIn]; done) | decide +kernel
theorem own_d7_0 : decode jdk_42_method_139_code 0 = .ok (.getstatic 38, 3) := by decide +kernel
theorem own_d7_3 : decode jdk_42_method_139_code 3 = .ok (.ifCond .eq 23, 3) := by decide +kernel
theorem own_d7_6 : decode jdk_42_method_139_code 6 = .ok (.iload_n 0, 1) := by decide +kernel
theorem own_d7_7 : decode jdk_42_method_139_code 7 = .ok (.invokestatic 1015, 3) := by decide +kernel
theorem own_pd4 : parseMethodDescriptor "(C)Z" = some ⟨[.char], some .boolean⟩ := by decide +kernel
theorem own_d7_10 : decode jdk_42_method_139_code 10 = .ok (.ifCond .eq 16, 3) := by decide +kernel
theorem own_d7_13 : decode jdk_42_method_139_code 13 = .ok (.new 10, 3) := by decide +kernel
theorem own_d7_16 : decode jdk_42_method_139_code 16 = .ok (.dup, 1) := by decide +kernel
theorem own_d7_17 : decode jdk_42_method_139_code 17 = .ok (.iload_n 0, 1) := by decide +kernel
theorem own_d7_18 : decode jdk_42_method_139_code 18 = .ok (.invokestatic 1018, 3) := by decide +kernel
theorem own_pd5 : parseMethodDescriptor "(C)[B" = some ⟨[.char], some (.array .byte)⟩ := by decide +kernel
theorem own_d7_21 : decode jdk_42_method_139_code 21 = .ok (.iconst 0, 1) := by decide +kernel
theorem own_d7_22 : decode jdk_42_method_139_code 22 = .ok (.invokespecial 209, 3) := by decide +kernel
theorem own_pd6 : parseMethodDescriptor "([BB)V" = some ⟨[(.array .byte), .byte], none⟩ := by decide +kernel
theorem own_d7_25 : decode jdk_42_method_139_code 25 = .ok (.areturn, 1) := by decide +kernel
theorem own_ef_rmVO (m : MethodId) (p1 : Int32) : entryFrame m #[(.int p1)] 1 = mkF m 0 #[iv p1] [] := by first | (simp [entryFrame, mkF, argsToLocals, Value.category, maxLocals]; done) | rfl
abbrev own_Q_rmVO (Z : State) (p1 : Int32) (cs : Int32) (h0 : Heap) (n0 : Nat) (v : Option Value) (h : Heap) (L : List Loc) : Prop := ∃ b : Nat, v = some (.ref b) ∧ Fr n0 L ∧ Keep h0 h [] ∧ h0.size ≤ b ∧ Exa Z h b "java/lang/String"
set_option maxRecDepth 65536 in
set_option maxHeartbeats 40000000 in
theorem rmVO (l : Launch) (Z : State) (a0 : Array Value) (hw : ∀ d ∈ tables_1, d.before a0 Z = true) (ws : List Jvm.Cond) (p1 : Int32) (cs : Int32) (h0 : Heap) (n0 : Nat) (Z0 : n0 ≤ h0.size) (hp : 0 ≤ p1.toInt ∧ p1.toInt ≤ 255) (S1 : Sta Z h0 "java/lang/String" "COMPACT_STRINGS" "Z" (.int cs)) (hcs : ¬ cs = (0 : Int32)) :
    MetFree l (⟨"java/lang/String", "valueOf", "(C)Ljava/lang/String;"⟩ : MethodName) (head1 (Jvm.Cond.code (⟨"java/lang/String", "valueOf", "(C)Ljava/lang/String;"⟩ : MethodName) jdk_42_method_139_code 1 (some (.object "java/lang/String")) :: ws) ({ frames := 2, cells := 2, slots := 5, locals := 28 } : Room)) (fun a U => a = #[(.int p1)] ∧ Z.Warmed39 U.vm ∧ U.heap = h0) (fun _ _ _ _ _ => True) (fun _ U o U' => ∃ v L, o = .returned v ∧ own_Q_rmVO Z p1 cs h0 n0 v U'.heap L ∧ FrameEnd U o U' L ({ frames := 2, cells := 2, slots := 5, locals := 28 } : Room).cells ({ frames := 2, cells := 2, slots := 5, locals := 28 } : Room).slots) := by
  refine own_enter (Q := fun v h L => own_Q_rmVO Z p1 cs h0 n0 v h L) (F := fun m => mkF m 0 #[iv p1] []) own_pn8 (fun m => own_ef_rmVO m p1) ?_
  intro p e s m below meth c T X hx hby hml hret hlk hnm hown hZ e0
  show own_Goes p e below s _ _ (T.setTop (mkF m 0 #[iv p1] []))
  have N0 := Fr.nil n0
  obtain ⟨T101, X101, e101, st101⟩ := getS2 X hx hZ hown (host := "") (Or.inl (hw _ (List.mem_of_getElem? (i := 14) rfl))) Via.refl e0 S1 (g := (mkF m 0 #[iv p1] [])) rfl (hb hby own_d7_0)
  refine own_st st101 ?_
  show own_Goes p e below s _ _ (T101.setTop (mkF m 3 #[iv p1] [(.int cs)]))
  refine own_st (fun _ k => XS.ifNo X101.here hx rfl (hb hby own_d7_3) rfl ((if0 _ _).trans (feq hcs).1) k) ?_
  show own_Goes p e below s _ _ (T101.setTop (mkF m 6 #[iv p1] []))
  refine own_st (fun _ k => XS.iloadN X101.here hx rfl (hb hby own_d7_6) rfl  k) ?_
  show own_Goes p e below s _ _ (T101.setTop (mkF m 7 #[iv p1] [(.int p1)]))
  obtain ⟨v102, T102, L102, X102, Q102, st102⟩ := own_callS X101 hx hZ (y := (⟨"java/lang/StringLatin1", "canEncode", "(C)Z"⟩ : MethodName)) hown (hw _ (List.mem_of_getElem? (i := 33) rfl)) (hw _ (List.mem_of_getElem? (i := 34) rfl)) (hw _ (List.mem_of_getElem? (i := 35) rfl)) (hw _ (List.mem_of_getElem? (i := 36) rfl)) (by decide) (W := 0) (rest := []) (argsL := [(.int p1)]) (rmCan l Z a0 hw [] p1 h0 n0 (by omega) hp) (by decide) (by decide) (by decide) (by decide) e101 own_pd4 rfl (g := (mkF m 7 #[iv p1] [(.int p1)])) rfl (by rw [hml]; rfl) rfl (by show 2 * 0 + _ ≤ _; exact Nat.le_of_eq rfl) (hb hby own_d7_7)
  obtain ⟨rfl, N102q, e102⟩ := Q102
  have N102 := Fr.app N0 N102q
  refine own_st st102 ?_
  show own_Goes p e below s _ _ (T102.setTop (mkF m 10 #[iv p1] [(.int (1 : Int32))]))
  refine own_st (fun _ k => XS.ifNo X102.here hx rfl (hb hby own_d7_10) rfl ((if0 _ _).trans (feq (by decide : ¬ ((1 : Int32) = (0 : Int32)))).1) k) ?_
  show own_Goes p e below s _ _ (T102.setTop (mkF m 13 #[iv p1] []))
  obtain ⟨T103, h103, X103, e103, E103, A103, D103, -, st103⟩ := newO X102 hx hZ hown (hw _ (List.mem_of_getElem? (i := 37) rfl)) (hw _ (List.mem_of_getElem? (i := 2) rfl)) (hw _ (List.mem_of_getElem? (i := 3) rfl)) e102 (g := (mkF m 13 #[iv p1] [])) rfl (hb hby own_d7_13) (by decide) (by decide)
  obtain ⟨b103, g103⟩ : ∃ z, z = h0.size := ⟨_, rfl⟩
  rw [← g103] at A103 D103 st103
  have y103 := own_lt A103.lt
  have z103 := E103.1
  have F103_coder : Fld Z h103 b103 "java/lang/String" "coder" "B" (.int (0 : Int32)) := D103 (Or.inr (hw _ (List.mem_of_getElem? (i := 27) rfl))) (ty := .byte) (by decide)
  have F103_value : Fld Z h103 b103 "java/lang/String" "value" "[B" .null := D103 (Or.inr (hw _ (List.mem_of_getElem? (i := 29) rfl))) (ty := (.array .byte)) (by decide)
  refine own_st st103 ?_
  show own_Goes p e below s _ _ (T103.setTop (mkF m 16 #[iv p1] [(.ref b103)]))
  refine own_st (fun _ k => XS.dup X103.here hx rfl (hb hby own_d7_16) rfl rfl k) ?_
  show own_Goes p e below s _ _ (T103.setTop (mkF m 17 #[iv p1] [(.ref b103), (.ref b103)]))
  refine own_st (fun _ k => XS.iloadN X103.here hx rfl (hb hby own_d7_17) rfl  k) ?_
  show own_Goes p e below s _ _ (T103.setTop (mkF m 18 #[iv p1] [(.int p1), (.ref b103), (.ref b103)]))
  obtain ⟨v104, T104, L104, X104, Q104, st104⟩ := own_callS X103 hx hZ (y := (⟨"java/lang/StringLatin1", "toBytes", "(C)[B"⟩ : MethodName)) hown (hw _ (List.mem_of_getElem? (i := 38) rfl)) (hw _ (List.mem_of_getElem? (i := 39) rfl)) (hw _ (List.mem_of_getElem? (i := 35) rfl)) (hw _ (List.mem_of_getElem? (i := 40) rfl)) (by decide) (W := 2) (rest := [(.ref b103), (.ref b103)]) (argsL := [(.int p1)]) (rmTB l Z a0 hw [] p1 h103 n0 (by omega)) (by decide) (by decide) (by decide) (by decide) e103 own_pd5 rfl (g := (mkF m 18 #[iv p1] [(.int p1), (.ref b103), (.ref b103)])) rfl (by rw [hml]; rfl) rfl (by show 2 * 0 + _ ≤ _; exact Nat.le_of_eq rfl) (hb hby own_d7_18)
  obtain ⟨b104, rfl, N104q, K104, g104, y104⟩ := Q104
  have z104 := K104.1
  have N104 := Fr.app N102 N104q
  refine own_st st104 ?_
  show own_Goes p e below s _ _ (T104.setTop (mkF m 21 #[iv p1] [(.ref b104), (.ref b103), (.ref b103)]))
  refine own_st (fun _ k => XS.iconst X104.here hx rfl (hb hby own_d7_21) k) ?_
  show own_Goes p e below s _ _ (T104.setTop (mkF m 22 #[iv p1] [(.int (0 : Int32)), (.ref b104), (.ref b103), (.ref b103)]))
  have f106 := (A103.keep K104)
  have f107 := (F103_value.keep K104 nin0)
  have f108 := (F103_coder.keep K104 nin0)
  obtain ⟨v105, T105, L105, X105, Q105, st105⟩ := own_callI X104 hx hZ (y := (⟨"java/lang/String", "<init>", "([BB)V"⟩ : MethodName)) hown (hw _ (List.mem_of_getElem? (i := 41) rfl)) (hw _ (List.mem_of_getElem? (i := 42) rfl)) (hw _ (List.mem_of_getElem? (i := 3) rfl)) (hw _ (List.mem_of_getElem? (i := 43) rfl)) rfl (by decide) (W := 1) (rest := [(.ref b103)]) (argsL := [(.ref b104), (.int (0 : Int32))]) (a := b103) (rmBB l Z a0 hw [] b103 b104 _ _ T104.heap n0 (by omega) f106 f107 f108 (by omega)) (by decide) (by decide) (by decide) (by decide) rfl own_pd6 rfl (g := (mkF m 22 #[iv p1] [(.int (0 : Int32)), (.ref b104), (.ref b103), (.ref b103)])) rfl (by rw [hml]; rfl) rfl (by show 2 * 0 + _ ≤ _; exact Nat.le_of_eq rfl) (hb hby own_d7_22)
  obtain ⟨rfl, N105q, K105, A105⟩ := Q105
  have z105 := K105.1
  have N105 := Fr.app N104 N105q
  refine own_st st105 ?_
  show own_Goes p e below s _ _ (T105.setTop (mkF m 25 #[iv p1] [(.ref b103)]))
  exact own_retR X105 hx hlk hret rfl rfl (hb hby own_d7_25) (by decide) (by decide) ⟨b103, rfl, N105, ((((Keep.refl h0 []).ext E103).trans K104 all0).trans K105 (allS (Or.inr (by omega)) all0)), by omega, A105⟩
theorem own_pn9 : plainFor (⟨"com/example/tender_parcel/tenderparcel/TarReader$Entry", "<init>", "(Ljava/lang/String;BLjava/lang/String;JJJJ)V"⟩ : MethodName) = true := by first | exact plainFor_of_name (by simp [plainName, overriddenIn]; done) | decide +kernel
theorem own_d11_0 : decode prog_107_method_1_code 0 = .ok (.aload_n 0, 1) := by decide +kernel
theorem own_d11_1 : decode prog_107_method_1_code 1 = .ok (.invokespecial 1, 3) := by decide +kernel
theorem own_d11_4 : decode prog_107_method_1_code 4 = .ok (.aload_n 0, 1) := by decide +kernel
theorem own_d11_5 : decode prog_107_method_1_code 5 = .ok (.iconst 0, 1) := by decide +kernel
theorem own_d11_6 : decode prog_107_method_1_code 6 = .ok (.putfield 9, 3) := by decide +kernel
theorem own_d11_9 : decode prog_107_method_1_code 9 = .ok (.aload_n 0, 1) := by decide +kernel
theorem own_d11_10 : decode prog_107_method_1_code 10 = .ok (.aload_n 1, 1) := by decide +kernel
theorem own_d11_11 : decode prog_107_method_1_code 11 = .ok (.putfield 13, 3) := by decide +kernel
theorem own_d11_14 : decode prog_107_method_1_code 14 = .ok (.aload_n 0, 1) := by decide +kernel
theorem own_d11_15 : decode prog_107_method_1_code 15 = .ok (.iload_n 2, 1) := by decide +kernel
theorem own_d11_16 : decode prog_107_method_1_code 16 = .ok (.putfield 17, 3) := by decide +kernel
theorem own_d11_19 : decode prog_107_method_1_code 19 = .ok (.aload_n 0, 1) := by decide +kernel
theorem own_d11_20 : decode prog_107_method_1_code 20 = .ok (.aload_n 3, 1) := by decide +kernel
theorem own_d11_21 : decode prog_107_method_1_code 21 = .ok (.putfield 20, 3) := by decide +kernel
theorem own_d11_24 : decode prog_107_method_1_code 24 = .ok (.aload_n 0, 1) := by decide +kernel
theorem own_d11_25 : decode prog_107_method_1_code 25 = .ok (.lload 4, 2) := by decide +kernel
theorem own_d11_27 : decode prog_107_method_1_code 27 = .ok (.putfield 23, 3) := by decide +kernel
theorem own_d11_30 : decode prog_107_method_1_code 30 = .ok (.aload_n 0, 1) := by decide +kernel
theorem own_d11_31 : decode prog_107_method_1_code 31 = .ok (.lload 6, 2) := by decide +kernel
theorem own_d11_33 : decode prog_107_method_1_code 33 = .ok (.putfield 27, 3) := by decide +kernel
theorem own_d11_36 : decode prog_107_method_1_code 36 = .ok (.aload_n 0, 1) := by decide +kernel
theorem own_d11_37 : decode prog_107_method_1_code 37 = .ok (.lload 8, 2) := by decide +kernel
theorem own_d11_39 : decode prog_107_method_1_code 39 = .ok (.putfield 30, 3) := by decide +kernel
theorem own_d11_42 : decode prog_107_method_1_code 42 = .ok (.aload_n 0, 1) := by decide +kernel
theorem own_d11_43 : decode prog_107_method_1_code 43 = .ok (.lload 10, 2) := by decide +kernel
theorem own_d11_45 : decode prog_107_method_1_code 45 = .ok (.putfield 33, 3) := by decide +kernel
theorem own_d11_48 : decode prog_107_method_1_code 48 = .ok (.aload_n 0, 1) := by decide +kernel
theorem own_d11_49 : decode prog_107_method_1_code 49 = .ok (.lload 10, 2) := by decide +kernel
theorem own_d11_51 : decode prog_107_method_1_code 51 = .ok (.putfield 36, 3) := by decide +kernel
theorem own_d11_54 : decode prog_107_method_1_code 54 = .ok (.return_, 1) := by decide +kernel
theorem own_ef_rmE (m : MethodId) (a1 : Nat) (a2 : Nat) (p3 : Int32) (a4 : Nat) (q5 : Int64) (q6 : Int64) (q7 : Int64) (q8 : Int64) : entryFrame m #[(.ref a1), (.ref a2), (.int p3), (.ref a4), (.long q5), (.long q6), (.long q7), (.long q8)] 12 = mkF m 0 #[rv a1, rv a2, iv p3, rv a4, own_jv q5, .second, own_jv q6, .second, own_jv q7, .second, own_jv q8, .second] [] := by first | (simp [entryFrame, mkF, argsToLocals, Value.category, maxLocals]; done) | rfl
abbrev own_Q_rmE (Z : State) (a1 : Nat) (a2 : Nat) (p3 : Int32) (a4 : Nat) (q5 : Int64) (q6 : Int64) (q7 : Int64) (q8 : Int64) (u_sparse : Value) (u_name : Value) (u_type : Value) (u_linkName : Value) (u_size : Value) (u_headers : Value) (u_data : Value) (u_stored : Value) (u_areaLength : Value) (h0 : Heap) (n0 : Nat) (v : Option Value) (h : Heap) (L : List Loc) : Prop := v = none ∧ Fr n0 L ∧ Keep h0 h [a1] ∧ Exa Z h a1 "com/example/tender_parcel/tenderparcel/TarReader$Entry" ∧ Fld Z h a1 "com/example/tender_parcel/tenderparcel/TarReader$Entry" "type" "B" (.int (nar .byte p3))
set_option maxRecDepth 65536 in
set_option maxHeartbeats 40000000 in
theorem rmE (l : Launch) (Z : State) (a0 : Array Value) (hw : ∀ d ∈ tables_1, d.before a0 Z = true) (ws : List Jvm.Cond) (a1 : Nat) (a2 : Nat) (p3 : Int32) (a4 : Nat) (q5 : Int64) (q6 : Int64) (q7 : Int64) (q8 : Int64) (u_sparse : Value) (u_name : Value) (u_type : Value) (u_linkName : Value) (u_size : Value) (u_headers : Value) (u_data : Value) (u_stored : Value) (u_areaLength : Value) (h0 : Heap) (n0 : Nat) (Z0 : n0 ≤ h0.size) (E1 : Exa Z h0 a1 "com/example/tender_parcel/tenderparcel/TarReader$Entry") (F_sparse : Fld Z h0 a1 "com/example/tender_parcel/tenderparcel/TarReader$Entry" "sparse" "B" u_sparse) (F_name : Fld Z h0 a1 "com/example/tender_parcel/tenderparcel/TarReader$Entry" "name" "Ljava/lang/String;" u_name) (F_type : Fld Z h0 a1 "com/example/tender_parcel/tenderparcel/TarReader$Entry" "type" "B" u_type) (F_linkName : Fld Z h0 a1 "com/example/tender_parcel/tenderparcel/TarReader$Entry" "linkName" "Ljava/lang/String;" u_linkName) (F_size : Fld Z h0 a1 "com/example/tender_parcel/tenderparcel/TarReader$Entry" "size" "J" u_size) (F_headers : Fld Z h0 a1 "com/example/tender_parcel/tenderparcel/TarReader$Entry" "headers" "J" u_headers) (F_data : Fld Z h0 a1 "com/example/tender_parcel/tenderparcel/TarReader$Entry" "data" "J" u_data) (F_stored : Fld Z h0 a1 "com/example/tender_parcel/tenderparcel/TarReader$Entry" "stored" "J" u_stored) (F_areaLength : Fld Z h0 a1 "com/example/tender_parcel/tenderparcel/TarReader$Entry" "areaLength" "J" u_areaLength) (g1 : n0 ≤ a1) :
    MetFree l (⟨"com/example/tender_parcel/tenderparcel/TarReader$Entry", "<init>", "(Ljava/lang/String;BLjava/lang/String;JJJJ)V"⟩ : MethodName) (head1 (Jvm.Cond.code (⟨"com/example/tender_parcel/tenderparcel/TarReader$Entry", "<init>", "(Ljava/lang/String;BLjava/lang/String;JJJJ)V"⟩ : MethodName) prog_107_method_1_code 12 none :: ws) ({ frames := 1, cells := 0, slots := 0, locals := 12 } : Room)) (fun a U => a = #[(.ref a1), (.ref a2), (.int p3), (.ref a4), (.long q5), (.long q6), (.long q7), (.long q8)] ∧ Z.Warmed39 U.vm ∧ U.heap = h0) (fun _ _ _ _ _ => True) (fun _ U o U' => ∃ v L, o = .returned v ∧ own_Q_rmE Z a1 a2 p3 a4 q5 q6 q7 q8 u_sparse u_name u_type u_linkName u_size u_headers u_data u_stored u_areaLength h0 n0 v U'.heap L ∧ FrameEnd U o U' L ({ frames := 1, cells := 0, slots := 0, locals := 12 } : Room).cells ({ frames := 1, cells := 0, slots := 0, locals := 12 } : Room).slots) := by
  refine own_enter (Q := fun v h L => own_Q_rmE Z a1 a2 p3 a4 q5 q6 q7 q8 u_sparse u_name u_type u_linkName u_size u_headers u_data u_stored u_areaLength h0 n0 v h L) (F := fun m => mkF m 0 #[rv a1, rv a2, iv p3, rv a4, own_jv q5, .second, own_jv q6, .second, own_jv q7, .second, own_jv q8, .second] []) own_pn9 (fun m => own_ef_rmE m a1 a2 p3 a4 q5 q6 q7 q8) ?_
  intro p e s m below meth c T X hx hby hml hret hlk hnm hown hZ e0
  show own_Goes p e below s _ _ (T.setTop (mkF m 0 #[rv a1, rv a2, iv p3, rv a4, own_jv q5, .second, own_jv q6, .second, own_jv q7, .second, own_jv q8, .second] []))
  have N0 := Fr.nil n0
  refine own_st (fun _ k => XS.aloadN X.here hx rfl (hb hby own_d11_0) rfl rfl  k) ?_
  show own_Goes p e below s _ _ (T.setTop (mkF m 1 #[rv a1, rv a2, iv p3, rv a4, own_jv q5, .second, own_jv q6, .second, own_jv q7, .second, own_jv q8, .second] [(.ref a1)]))
  obtain ⟨T101, X101, e101, st101⟩ := initO X hx hZ hown (hw _ (List.mem_of_getElem? (i := 50) rfl)) (hw _ (List.mem_of_getElem? (i := 12) rfl)) (hw _ (List.mem_of_getElem? (i := 13) rfl)) e0 (g := (mkF m 1 #[rv a1, rv a2, iv p3, rv a4, own_jv q5, .second, own_jv q6, .second, own_jv q7, .second, own_jv q8, .second] [(.ref a1)])) rfl (by rw [hml]; rfl) rfl (hb hby own_d11_1) (by decide) (W := 0) (by show 2 * 0 + _ ≤ _; exact Nat.le_of_eq rfl) (by decide)
  refine own_st st101 ?_
  show own_Goes p e below s _ _ (T101.setTop (mkF m 4 #[rv a1, rv a2, iv p3, rv a4, own_jv q5, .second, own_jv q6, .second, own_jv q7, .second, own_jv q8, .second] []))
  refine own_st (fun _ k => XS.aloadN X101.here hx rfl (hb hby own_d11_4) rfl rfl  k) ?_
  show own_Goes p e below s _ _ (T101.setTop (mkF m 5 #[rv a1, rv a2, iv p3, rv a4, own_jv q5, .second, own_jv q6, .second, own_jv q7, .second, own_jv q8, .second] [(.ref a1)]))
  refine own_st (fun _ k => XS.iconst X101.here hx rfl (hb hby own_d11_5) k) ?_
  show own_Goes p e below s _ _ (T101.setTop (mkF m 6 #[rv a1, rv a2, iv p3, rv a4, own_jv q5, .second, own_jv q6, .second, own_jv q7, .second, own_jv q8, .second] [(.int (0 : Int32)), (.ref a1)]))
  obtain ⟨T102, h102, X102, e102, W102, st102⟩ := putFN X101 hx hZ hown (hw _ (List.mem_of_getElem? (i := 51) rfl)) Via.refl e101 F_sparse E1 (Or.inl (hw _ (List.mem_of_getElem? (i := 52) rfl))) (hw _ (List.mem_of_getElem? (i := 45) rfl)) (ty := .byte) (v' := (.int (nar .byte (0 : Int32)))) (by decide) rfl (fits_nar_byte _) (g := (mkF m 6 #[rv a1, rv a2, iv p3, rv a4, own_jv q5, .second, own_jv q6, .second, own_jv q7, .second, own_jv q8, .second] [(.int (0 : Int32)), (.ref a1)])) rfl rfl (hb hby own_d11_6)
  have z102 := W102.size
  have N102 := Fr.snoc X102 N0 (by omega)
  have F102 := F_sparse.same W102
  refine own_st st102 ?_
  show own_Goes p e below s _ _ (T102.setTop (mkF m 9 #[rv a1, rv a2, iv p3, rv a4, own_jv q5, .second, own_jv q6, .second, own_jv q7, .second, own_jv q8, .second] []))
  refine own_st (fun _ k => XS.aloadN X102.here hx rfl (hb hby own_d11_9) rfl rfl  k) ?_
  show own_Goes p e below s _ _ (T102.setTop (mkF m 10 #[rv a1, rv a2, iv p3, rv a4, own_jv q5, .second, own_jv q6, .second, own_jv q7, .second, own_jv q8, .second] [(.ref a1)]))
  refine own_st (fun _ k => XS.aloadN X102.here hx rfl (hb hby own_d11_10) rfl rfl  k) ?_
  show own_Goes p e below s _ _ (T102.setTop (mkF m 11 #[rv a1, rv a2, iv p3, rv a4, own_jv q5, .second, own_jv q6, .second, own_jv q7, .second, own_jv q8, .second] [(.ref a2), (.ref a1)]))
  have f103 := (F_name.other W102 (Or.inr (slot_ne (Or.inr (hw _ (List.mem_of_getElem? (i := 54) rfl))) (Or.inl (hw _ (List.mem_of_getElem? (i := 52) rfl))) (by decide) (t := (.object "java/lang/String")) (t' := .byte) (by decide) (by decide))))
  have f104 := (E1.wr W102)
  obtain ⟨T105, h105, X105, e105, W105, st105⟩ := putF X102 hx hZ hown (host := "") (Or.inl (hw _ (List.mem_of_getElem? (i := 53) rfl))) Via.refl e102 f103 f104 (Or.inr ⟨(hw _ (List.mem_of_getElem? (i := 54) rfl)), rfl, hnm⟩) (hw _ (List.mem_of_getElem? (i := 45) rfl)) (ty := (.object "java/lang/String")) (by decide) rfl rfl (g := (mkF m 11 #[rv a1, rv a2, iv p3, rv a4, own_jv q5, .second, own_jv q6, .second, own_jv q7, .second, own_jv q8, .second] [(.ref a2), (.ref a1)])) rfl rfl (hb hby own_d11_11)
  have z105 := W105.size
  have N105 := Fr.snoc X105 N102 (by omega)
  have F105 := f103.same W105
  refine own_st st105 ?_
  show own_Goes p e below s _ _ (T105.setTop (mkF m 14 #[rv a1, rv a2, iv p3, rv a4, own_jv q5, .second, own_jv q6, .second, own_jv q7, .second, own_jv q8, .second] []))
  refine own_st (fun _ k => XS.aloadN X105.here hx rfl (hb hby own_d11_14) rfl rfl  k) ?_
  show own_Goes p e below s _ _ (T105.setTop (mkF m 15 #[rv a1, rv a2, iv p3, rv a4, own_jv q5, .second, own_jv q6, .second, own_jv q7, .second, own_jv q8, .second] [(.ref a1)]))
  refine own_st (fun _ k => XS.iloadN X105.here hx rfl (hb hby own_d11_15) rfl  k) ?_
  show own_Goes p e below s _ _ (T105.setTop (mkF m 16 #[rv a1, rv a2, iv p3, rv a4, own_jv q5, .second, own_jv q6, .second, own_jv q7, .second, own_jv q8, .second] [(.int p3), (.ref a1)]))
  have f106 := ((F_type.other W102 (Or.inr (slot_ne (Or.inr (hw _ (List.mem_of_getElem? (i := 56) rfl))) (Or.inl (hw _ (List.mem_of_getElem? (i := 52) rfl))) (by decide) (t := .byte) (t' := .byte) (by decide) (by decide)))).other W105 (Or.inr (slot_ne (Or.inr (hw _ (List.mem_of_getElem? (i := 56) rfl))) (Or.inr (hw _ (List.mem_of_getElem? (i := 54) rfl))) (by decide) (t := .byte) (t' := (.object "java/lang/String")) (by decide) (by decide))))
  have f107 := (f104.wr W105)
  obtain ⟨T108, h108, X108, e108, W108, st108⟩ := putFN X105 hx hZ hown (hw _ (List.mem_of_getElem? (i := 55) rfl)) Via.refl e105 f106 f107 (Or.inr ⟨(hw _ (List.mem_of_getElem? (i := 56) rfl)), rfl, hnm⟩) (hw _ (List.mem_of_getElem? (i := 45) rfl)) (ty := .byte) (v' := (.int (nar .byte p3))) (by decide) rfl (fits_nar_byte _) (g := (mkF m 16 #[rv a1, rv a2, iv p3, rv a4, own_jv q5, .second, own_jv q6, .second, own_jv q7, .second, own_jv q8, .second] [(.int p3), (.ref a1)])) rfl rfl (hb hby own_d11_16)
  have z108 := W108.size
  have N108 := Fr.snoc X108 N105 (by omega)
  have F108 := f106.same W108
  refine own_st st108 ?_
  show own_Goes p e below s _ _ (T108.setTop (mkF m 19 #[rv a1, rv a2, iv p3, rv a4, own_jv q5, .second, own_jv q6, .second, own_jv q7, .second, own_jv q8, .second] []))
  refine own_st (fun _ k => XS.aloadN X108.here hx rfl (hb hby own_d11_19) rfl rfl  k) ?_
  show own_Goes p e below s _ _ (T108.setTop (mkF m 20 #[rv a1, rv a2, iv p3, rv a4, own_jv q5, .second, own_jv q6, .second, own_jv q7, .second, own_jv q8, .second] [(.ref a1)]))
  refine own_st (fun _ k => XS.aloadN X108.here hx rfl (hb hby own_d11_20) rfl rfl  k) ?_
  show own_Goes p e below s _ _ (T108.setTop (mkF m 21 #[rv a1, rv a2, iv p3, rv a4, own_jv q5, .second, own_jv q6, .second, own_jv q7, .second, own_jv q8, .second] [(.ref a4), (.ref a1)]))
  have f109 := (((F_linkName.other W102 (Or.inr (slot_ne (Or.inr (hw _ (List.mem_of_getElem? (i := 58) rfl))) (Or.inl (hw _ (List.mem_of_getElem? (i := 52) rfl))) (by decide) (t := (.object "java/lang/String")) (t' := .byte) (by decide) (by decide)))).other W105 (Or.inr (slot_ne (Or.inr (hw _ (List.mem_of_getElem? (i := 58) rfl))) (Or.inr (hw _ (List.mem_of_getElem? (i := 54) rfl))) (by decide) (t := (.object "java/lang/String")) (t' := (.object "java/lang/String")) (by decide) (by decide)))).other W108 (Or.inr (slot_ne (Or.inr (hw _ (List.mem_of_getElem? (i := 58) rfl))) (Or.inr (hw _ (List.mem_of_getElem? (i := 56) rfl))) (by decide) (t := (.object "java/lang/String")) (t' := .byte) (by decide) (by decide))))
  have f110 := (f107.wr W108)
  obtain ⟨T111, h111, X111, e111, W111, st111⟩ := putF X108 hx hZ hown (host := "") (Or.inl (hw _ (List.mem_of_getElem? (i := 57) rfl))) Via.refl e108 f109 f110 (Or.inr ⟨(hw _ (List.mem_of_getElem? (i := 58) rfl)), rfl, hnm⟩) (hw _ (List.mem_of_getElem? (i := 45) rfl)) (ty := (.object "java/lang/String")) (by decide) rfl rfl (g := (mkF m 21 #[rv a1, rv a2, iv p3, rv a4, own_jv q5, .second, own_jv q6, .second, own_jv q7, .second, own_jv q8, .second] [(.ref a4), (.ref a1)])) rfl rfl (hb hby own_d11_21)
  have z111 := W111.size
  have N111 := Fr.snoc X111 N108 (by omega)
  have F111 := f109.same W111
  refine own_st st111 ?_
  show own_Goes p e below s _ _ (T111.setTop (mkF m 24 #[rv a1, rv a2, iv p3, rv a4, own_jv q5, .second, own_jv q6, .second, own_jv q7, .second, own_jv q8, .second] []))
  refine own_st (fun _ k => XS.aloadN X111.here hx rfl (hb hby own_d11_24) rfl rfl  k) ?_
  show own_Goes p e below s _ _ (T111.setTop (mkF m 25 #[rv a1, rv a2, iv p3, rv a4, own_jv q5, .second, own_jv q6, .second, own_jv q7, .second, own_jv q8, .second] [(.ref a1)]))
  refine own_st (fun _ k => XS.lload X111.here hx rfl (hb hby own_d11_25) rfl  k) ?_
  show own_Goes p e below s _ _ (T111.setTop (mkF m 27 #[rv a1, rv a2, iv p3, rv a4, own_jv q5, .second, own_jv q6, .second, own_jv q7, .second, own_jv q8, .second] [(.long q5), (.ref a1)]))
  have f112 := ((((F_size.other W102 (Or.inr (slot_ne (Or.inl (hw _ (List.mem_of_getElem? (i := 60) rfl))) (Or.inl (hw _ (List.mem_of_getElem? (i := 52) rfl))) (by decide) (t := .long) (t' := .byte) (by decide) (by decide)))).other W105 (Or.inr (slot_ne (Or.inl (hw _ (List.mem_of_getElem? (i := 60) rfl))) (Or.inr (hw _ (List.mem_of_getElem? (i := 54) rfl))) (by decide) (t := .long) (t' := (.object "java/lang/String")) (by decide) (by decide)))).other W108 (Or.inr (slot_ne (Or.inl (hw _ (List.mem_of_getElem? (i := 60) rfl))) (Or.inr (hw _ (List.mem_of_getElem? (i := 56) rfl))) (by decide) (t := .long) (t' := .byte) (by decide) (by decide)))).other W111 (Or.inr (slot_ne (Or.inl (hw _ (List.mem_of_getElem? (i := 60) rfl))) (Or.inr (hw _ (List.mem_of_getElem? (i := 58) rfl))) (by decide) (t := .long) (t' := (.object "java/lang/String")) (by decide) (by decide))))
  have f113 := (f110.wr W111)
  obtain ⟨T114, h114, X114, e114, W114, st114⟩ := putF X111 hx hZ hown (host := "") (Or.inl (hw _ (List.mem_of_getElem? (i := 59) rfl))) Via.refl e111 f112 f113 (Or.inl (hw _ (List.mem_of_getElem? (i := 60) rfl))) (hw _ (List.mem_of_getElem? (i := 45) rfl)) (ty := .long) (by decide) rfl rfl (g := (mkF m 27 #[rv a1, rv a2, iv p3, rv a4, own_jv q5, .second, own_jv q6, .second, own_jv q7, .second, own_jv q8, .second] [(.long q5), (.ref a1)])) rfl rfl (hb hby own_d11_27)
  have z114 := W114.size
  have N114 := Fr.snoc X114 N111 (by omega)
  have F114 := f112.same W114
  refine own_st st114 ?_
  show own_Goes p e below s _ _ (T114.setTop (mkF m 30 #[rv a1, rv a2, iv p3, rv a4, own_jv q5, .second, own_jv q6, .second, own_jv q7, .second, own_jv q8, .second] []))
  refine own_st (fun _ k => XS.aloadN X114.here hx rfl (hb hby own_d11_30) rfl rfl  k) ?_
  show own_Goes p e below s _ _ (T114.setTop (mkF m 31 #[rv a1, rv a2, iv p3, rv a4, own_jv q5, .second, own_jv q6, .second, own_jv q7, .second, own_jv q8, .second] [(.ref a1)]))
  refine own_st (fun _ k => XS.lload X114.here hx rfl (hb hby own_d11_31) rfl  k) ?_
  show own_Goes p e below s _ _ (T114.setTop (mkF m 33 #[rv a1, rv a2, iv p3, rv a4, own_jv q5, .second, own_jv q6, .second, own_jv q7, .second, own_jv q8, .second] [(.long q6), (.ref a1)]))
  have f115 := (((((F_headers.other W102 (Or.inr (slot_ne (Or.inr (hw _ (List.mem_of_getElem? (i := 62) rfl))) (Or.inl (hw _ (List.mem_of_getElem? (i := 52) rfl))) (by decide) (t := .long) (t' := .byte) (by decide) (by decide)))).other W105 (Or.inr (slot_ne (Or.inr (hw _ (List.mem_of_getElem? (i := 62) rfl))) (Or.inr (hw _ (List.mem_of_getElem? (i := 54) rfl))) (by decide) (t := .long) (t' := (.object "java/lang/String")) (by decide) (by decide)))).other W108 (Or.inr (slot_ne (Or.inr (hw _ (List.mem_of_getElem? (i := 62) rfl))) (Or.inr (hw _ (List.mem_of_getElem? (i := 56) rfl))) (by decide) (t := .long) (t' := .byte) (by decide) (by decide)))).other W111 (Or.inr (slot_ne (Or.inr (hw _ (List.mem_of_getElem? (i := 62) rfl))) (Or.inr (hw _ (List.mem_of_getElem? (i := 58) rfl))) (by decide) (t := .long) (t' := (.object "java/lang/String")) (by decide) (by decide)))).other W114 (Or.inr (slot_ne (Or.inr (hw _ (List.mem_of_getElem? (i := 62) rfl))) (Or.inl (hw _ (List.mem_of_getElem? (i := 60) rfl))) (by decide) (t := .long) (t' := .long) (by decide) (by decide))))
  have f116 := (f113.wr W114)
  obtain ⟨T117, h117, X117, e117, W117, st117⟩ := putF X114 hx hZ hown (host := "") (Or.inl (hw _ (List.mem_of_getElem? (i := 61) rfl))) Via.refl e114 f115 f116 (Or.inr ⟨(hw _ (List.mem_of_getElem? (i := 62) rfl)), rfl, hnm⟩) (hw _ (List.mem_of_getElem? (i := 45) rfl)) (ty := .long) (by decide) rfl rfl (g := (mkF m 33 #[rv a1, rv a2, iv p3, rv a4, own_jv q5, .second, own_jv q6, .second, own_jv q7, .second, own_jv q8, .second] [(.long q6), (.ref a1)])) rfl rfl (hb hby own_d11_33)
  have z117 := W117.size
  have N117 := Fr.snoc X117 N114 (by omega)
  have F117 := f115.same W117
  refine own_st st117 ?_
  show own_Goes p e below s _ _ (T117.setTop (mkF m 36 #[rv a1, rv a2, iv p3, rv a4, own_jv q5, .second, own_jv q6, .second, own_jv q7, .second, own_jv q8, .second] []))
  refine own_st (fun _ k => XS.aloadN X117.here hx rfl (hb hby own_d11_36) rfl rfl  k) ?_
  show own_Goes p e below s _ _ (T117.setTop (mkF m 37 #[rv a1, rv a2, iv p3, rv a4, own_jv q5, .second, own_jv q6, .second, own_jv q7, .second, own_jv q8, .second] [(.ref a1)]))
  refine own_st (fun _ k => XS.lload X117.here hx rfl (hb hby own_d11_37) rfl  k) ?_
  show own_Goes p e below s _ _ (T117.setTop (mkF m 39 #[rv a1, rv a2, iv p3, rv a4, own_jv q5, .second, own_jv q6, .second, own_jv q7, .second, own_jv q8, .second] [(.long q7), (.ref a1)]))
  have f118 := ((((((F_data.other W102 (Or.inr (slot_ne (Or.inl (hw _ (List.mem_of_getElem? (i := 64) rfl))) (Or.inl (hw _ (List.mem_of_getElem? (i := 52) rfl))) (by decide) (t := .long) (t' := .byte) (by decide) (by decide)))).other W105 (Or.inr (slot_ne (Or.inl (hw _ (List.mem_of_getElem? (i := 64) rfl))) (Or.inr (hw _ (List.mem_of_getElem? (i := 54) rfl))) (by decide) (t := .long) (t' := (.object "java/lang/String")) (by decide) (by decide)))).other W108 (Or.inr (slot_ne (Or.inl (hw _ (List.mem_of_getElem? (i := 64) rfl))) (Or.inr (hw _ (List.mem_of_getElem? (i := 56) rfl))) (by decide) (t := .long) (t' := .byte) (by decide) (by decide)))).other W111 (Or.inr (slot_ne (Or.inl (hw _ (List.mem_of_getElem? (i := 64) rfl))) (Or.inr (hw _ (List.mem_of_getElem? (i := 58) rfl))) (by decide) (t := .long) (t' := (.object "java/lang/String")) (by decide) (by decide)))).other W114 (Or.inr (slot_ne (Or.inl (hw _ (List.mem_of_getElem? (i := 64) rfl))) (Or.inl (hw _ (List.mem_of_getElem? (i := 60) rfl))) (by decide) (t := .long) (t' := .long) (by decide) (by decide)))).other W117 (Or.inr (slot_ne (Or.inl (hw _ (List.mem_of_getElem? (i := 64) rfl))) (Or.inr (hw _ (List.mem_of_getElem? (i := 62) rfl))) (by decide) (t := .long) (t' := .long) (by decide) (by decide))))
  have f119 := (f116.wr W117)
  obtain ⟨T120, h120, X120, e120, W120, st120⟩ := putF X117 hx hZ hown (host := "") (Or.inl (hw _ (List.mem_of_getElem? (i := 63) rfl))) Via.refl e117 f118 f119 (Or.inl (hw _ (List.mem_of_getElem? (i := 64) rfl))) (hw _ (List.mem_of_getElem? (i := 45) rfl)) (ty := .long) (by decide) rfl rfl (g := (mkF m 39 #[rv a1, rv a2, iv p3, rv a4, own_jv q5, .second, own_jv q6, .second, own_jv q7, .second, own_jv q8, .second] [(.long q7), (.ref a1)])) rfl rfl (hb hby own_d11_39)
  have z120 := W120.size
  have N120 := Fr.snoc X120 N117 (by omega)
  have F120 := f118.same W120
  refine own_st st120 ?_
  show own_Goes p e below s _ _ (T120.setTop (mkF m 42 #[rv a1, rv a2, iv p3, rv a4, own_jv q5, .second, own_jv q6, .second, own_jv q7, .second, own_jv q8, .second] []))
  refine own_st (fun _ k => XS.aloadN X120.here hx rfl (hb hby own_d11_42) rfl rfl  k) ?_
  show own_Goes p e below s _ _ (T120.setTop (mkF m 43 #[rv a1, rv a2, iv p3, rv a4, own_jv q5, .second, own_jv q6, .second, own_jv q7, .second, own_jv q8, .second] [(.ref a1)]))
  refine own_st (fun _ k => XS.lload X120.here hx rfl (hb hby own_d11_43) rfl  k) ?_
  show own_Goes p e below s _ _ (T120.setTop (mkF m 45 #[rv a1, rv a2, iv p3, rv a4, own_jv q5, .second, own_jv q6, .second, own_jv q7, .second, own_jv q8, .second] [(.long q8), (.ref a1)]))
  have f121 := (((((((F_stored.other W102 (Or.inr (slot_ne (Or.inl (hw _ (List.mem_of_getElem? (i := 66) rfl))) (Or.inl (hw _ (List.mem_of_getElem? (i := 52) rfl))) (by decide) (t := .long) (t' := .byte) (by decide) (by decide)))).other W105 (Or.inr (slot_ne (Or.inl (hw _ (List.mem_of_getElem? (i := 66) rfl))) (Or.inr (hw _ (List.mem_of_getElem? (i := 54) rfl))) (by decide) (t := .long) (t' := (.object "java/lang/String")) (by decide) (by decide)))).other W108 (Or.inr (slot_ne (Or.inl (hw _ (List.mem_of_getElem? (i := 66) rfl))) (Or.inr (hw _ (List.mem_of_getElem? (i := 56) rfl))) (by decide) (t := .long) (t' := .byte) (by decide) (by decide)))).other W111 (Or.inr (slot_ne (Or.inl (hw _ (List.mem_of_getElem? (i := 66) rfl))) (Or.inr (hw _ (List.mem_of_getElem? (i := 58) rfl))) (by decide) (t := .long) (t' := (.object "java/lang/String")) (by decide) (by decide)))).other W114 (Or.inr (slot_ne (Or.inl (hw _ (List.mem_of_getElem? (i := 66) rfl))) (Or.inl (hw _ (List.mem_of_getElem? (i := 60) rfl))) (by decide) (t := .long) (t' := .long) (by decide) (by decide)))).other W117 (Or.inr (slot_ne (Or.inl (hw _ (List.mem_of_getElem? (i := 66) rfl))) (Or.inr (hw _ (List.mem_of_getElem? (i := 62) rfl))) (by decide) (t := .long) (t' := .long) (by decide) (by decide)))).other W120 (Or.inr (slot_ne (Or.inl (hw _ (List.mem_of_getElem? (i := 66) rfl))) (Or.inl (hw _ (List.mem_of_getElem? (i := 64) rfl))) (by decide) (t := .long) (t' := .long) (by decide) (by decide))))
  have f122 := (f119.wr W120)
  obtain ⟨T123, h123, X123, e123, W123, st123⟩ := putF X120 hx hZ hown (host := "") (Or.inl (hw _ (List.mem_of_getElem? (i := 65) rfl))) Via.refl e120 f121 f122 (Or.inl (hw _ (List.mem_of_getElem? (i := 66) rfl))) (hw _ (List.mem_of_getElem? (i := 45) rfl)) (ty := .long) (by decide) rfl rfl (g := (mkF m 45 #[rv a1, rv a2, iv p3, rv a4, own_jv q5, .second, own_jv q6, .second, own_jv q7, .second, own_jv q8, .second] [(.long q8), (.ref a1)])) rfl rfl (hb hby own_d11_45)
  have z123 := W123.size
  have N123 := Fr.snoc X123 N120 (by omega)
  have F123 := f121.same W123
  refine own_st st123 ?_
  show own_Goes p e below s _ _ (T123.setTop (mkF m 48 #[rv a1, rv a2, iv p3, rv a4, own_jv q5, .second, own_jv q6, .second, own_jv q7, .second, own_jv q8, .second] []))
  refine own_st (fun _ k => XS.aloadN X123.here hx rfl (hb hby own_d11_48) rfl rfl  k) ?_
  show own_Goes p e below s _ _ (T123.setTop (mkF m 49 #[rv a1, rv a2, iv p3, rv a4, own_jv q5, .second, own_jv q6, .second, own_jv q7, .second, own_jv q8, .second] [(.ref a1)]))
  refine own_st (fun _ k => XS.lload X123.here hx rfl (hb hby own_d11_49) rfl  k) ?_
  show own_Goes p e below s _ _ (T123.setTop (mkF m 51 #[rv a1, rv a2, iv p3, rv a4, own_jv q5, .second, own_jv q6, .second, own_jv q7, .second, own_jv q8, .second] [(.long q8), (.ref a1)]))
  have f124 := ((((((((F_areaLength.other W102 (Or.inr (slot_ne (Or.inr (hw _ (List.mem_of_getElem? (i := 68) rfl))) (Or.inl (hw _ (List.mem_of_getElem? (i := 52) rfl))) (by decide) (t := .long) (t' := .byte) (by decide) (by decide)))).other W105 (Or.inr (slot_ne (Or.inr (hw _ (List.mem_of_getElem? (i := 68) rfl))) (Or.inr (hw _ (List.mem_of_getElem? (i := 54) rfl))) (by decide) (t := .long) (t' := (.object "java/lang/String")) (by decide) (by decide)))).other W108 (Or.inr (slot_ne (Or.inr (hw _ (List.mem_of_getElem? (i := 68) rfl))) (Or.inr (hw _ (List.mem_of_getElem? (i := 56) rfl))) (by decide) (t := .long) (t' := .byte) (by decide) (by decide)))).other W111 (Or.inr (slot_ne (Or.inr (hw _ (List.mem_of_getElem? (i := 68) rfl))) (Or.inr (hw _ (List.mem_of_getElem? (i := 58) rfl))) (by decide) (t := .long) (t' := (.object "java/lang/String")) (by decide) (by decide)))).other W114 (Or.inr (slot_ne (Or.inr (hw _ (List.mem_of_getElem? (i := 68) rfl))) (Or.inl (hw _ (List.mem_of_getElem? (i := 60) rfl))) (by decide) (t := .long) (t' := .long) (by decide) (by decide)))).other W117 (Or.inr (slot_ne (Or.inr (hw _ (List.mem_of_getElem? (i := 68) rfl))) (Or.inr (hw _ (List.mem_of_getElem? (i := 62) rfl))) (by decide) (t := .long) (t' := .long) (by decide) (by decide)))).other W120 (Or.inr (slot_ne (Or.inr (hw _ (List.mem_of_getElem? (i := 68) rfl))) (Or.inl (hw _ (List.mem_of_getElem? (i := 64) rfl))) (by decide) (t := .long) (t' := .long) (by decide) (by decide)))).other W123 (Or.inr (slot_ne (Or.inr (hw _ (List.mem_of_getElem? (i := 68) rfl))) (Or.inl (hw _ (List.mem_of_getElem? (i := 66) rfl))) (by decide) (t := .long) (t' := .long) (by decide) (by decide))))
  have f125 := (f122.wr W123)
  obtain ⟨T126, h126, X126, e126, W126, st126⟩ := putF X123 hx hZ hown (host := "") (Or.inl (hw _ (List.mem_of_getElem? (i := 67) rfl))) Via.refl e123 f124 f125 (Or.inr ⟨(hw _ (List.mem_of_getElem? (i := 68) rfl)), rfl, hnm⟩) (hw _ (List.mem_of_getElem? (i := 45) rfl)) (ty := .long) (by decide) rfl rfl (g := (mkF m 51 #[rv a1, rv a2, iv p3, rv a4, own_jv q5, .second, own_jv q6, .second, own_jv q7, .second, own_jv q8, .second] [(.long q8), (.ref a1)])) rfl rfl (hb hby own_d11_51)
  have z126 := W126.size
  have N126 := Fr.snoc X126 N123 (by omega)
  have F126 := f124.same W126
  refine own_st st126 ?_
  show own_Goes p e below s _ _ (T126.setTop (mkF m 54 #[rv a1, rv a2, iv p3, rv a4, own_jv q5, .second, own_jv q6, .second, own_jv q7, .second, own_jv q8, .second] []))
  have f127 := (f125.wr W126)
  have f128 := ((((((F108.other W111 (Or.inr (slot_ne (Or.inr (hw _ (List.mem_of_getElem? (i := 56) rfl))) (Or.inr (hw _ (List.mem_of_getElem? (i := 58) rfl))) (by decide) (t := .byte) (t' := (.object "java/lang/String")) (by decide) (by decide)))).other W114 (Or.inr (slot_ne (Or.inr (hw _ (List.mem_of_getElem? (i := 56) rfl))) (Or.inl (hw _ (List.mem_of_getElem? (i := 60) rfl))) (by decide) (t := .byte) (t' := .long) (by decide) (by decide)))).other W117 (Or.inr (slot_ne (Or.inr (hw _ (List.mem_of_getElem? (i := 56) rfl))) (Or.inr (hw _ (List.mem_of_getElem? (i := 62) rfl))) (by decide) (t := .byte) (t' := .long) (by decide) (by decide)))).other W120 (Or.inr (slot_ne (Or.inr (hw _ (List.mem_of_getElem? (i := 56) rfl))) (Or.inl (hw _ (List.mem_of_getElem? (i := 64) rfl))) (by decide) (t := .byte) (t' := .long) (by decide) (by decide)))).other W123 (Or.inr (slot_ne (Or.inr (hw _ (List.mem_of_getElem? (i := 56) rfl))) (Or.inl (hw _ (List.mem_of_getElem? (i := 66) rfl))) (by decide) (t := .byte) (t' := .long) (by decide) (by decide)))).other W126 (Or.inr (slot_ne (Or.inr (hw _ (List.mem_of_getElem? (i := 56) rfl))) (Or.inr (hw _ (List.mem_of_getElem? (i := 68) rfl))) (by decide) (t := .byte) (t' := .long) (by decide) (by decide))))
  exact own_ret0 X126 hx hlk hret (hb hby own_d11_54) (by decide) (by decide) ⟨rfl, N126, by rw [e126]; exact ((((((((((Keep.refl h0 [a1]).wr W102 (Or.inl (by simp))).wr W105 (Or.inl (by simp))).wr W108 (Or.inl (by simp))).wr W111 (Or.inl (by simp))).wr W114 (Or.inl (by simp))).wr W117 (Or.inl (by simp))).wr W120 (Or.inl (by simp))).wr W123 (Or.inl (by simp))).wr W126 (Or.inl (by simp))), by rw [e126]; exact f127, by rw [e126]; exact f128⟩
theorem own_pn10 : plainFor (⟨"com/example/tender_parcel/tenderparcel/TarReader$Entry", "isSymbolicLink", "()Z"⟩ : MethodName) = true := by first | exact plainFor_of_name (by simp [plainName, overriddenIn]; done) | decide +kernel
theorem own_d12_0 : decode prog_107_method_12_code 0 = .ok (.aload_n 0, 1) := by decide +kernel
theorem own_d12_1 : decode prog_107_method_12_code 1 = .ok (.getfield 17, 3) := by decide +kernel
theorem own_d12_4 : decode prog_107_method_12_code 4 = .ok (.bipush 50, 2) := by decide +kernel
theorem own_d12_6 : decode prog_107_method_12_code 6 = .ok (.if_icmp .ne 7, 3) := by decide +kernel
theorem own_d12_9 : decode prog_107_method_12_code 9 = .ok (.iconst 1, 1) := by decide +kernel
theorem own_d12_10 : decode prog_107_method_12_code 10 = .ok (.goto 4, 3) := by decide +kernel
theorem own_d12_14 : decode prog_107_method_12_code 14 = .ok (.ireturn, 1) := by decide +kernel
theorem own_d12_13 : decode prog_107_method_12_code 13 = .ok (.iconst 0, 1) := by decide +kernel
theorem own_ef_rmSym (m : MethodId) (a1 : Nat) : entryFrame m #[(.ref a1)] 1 = mkF m 0 #[rv a1] [] := by first | (simp [entryFrame, mkF, argsToLocals, Value.category, maxLocals]; done) | rfl
abbrev own_Q_rmSym (Z : State) (a1 : Nat) (x1 : Int32) (h0 : Heap) (n0 : Nat) (v : Option Value) (h : Heap) (L : List Loc) : Prop := ∃ r : Int32, v = some (.int r) ∧ ((r.toInt = 1 ∧ (x1.toInt = 50)) ∨ (r.toInt = 0 ∧ ¬ (x1.toInt = 50))) ∧ Fr n0 L ∧ h = h0
set_option maxRecDepth 65536 in
set_option maxHeartbeats 40000000 in
theorem rmSym (l : Launch) (Z : State) (a0 : Array Value) (hw : ∀ d ∈ tables_1, d.before a0 Z = true) (ws : List Jvm.Cond) (a1 : Nat) (x1 : Int32) (h0 : Heap) (n0 : Nat) (Z0 : n0 ≤ h0.size) (F1 : Fld Z h0 a1 "com/example/tender_parcel/tenderparcel/TarReader$Entry" "type" "B" (.int x1)) :
    MetFree l (⟨"com/example/tender_parcel/tenderparcel/TarReader$Entry", "isSymbolicLink", "()Z"⟩ : MethodName) (head1 (Jvm.Cond.code (⟨"com/example/tender_parcel/tenderparcel/TarReader$Entry", "isSymbolicLink", "()Z"⟩ : MethodName) prog_107_method_12_code 1 (some .boolean) :: ws) ({ frames := 0, cells := 0, slots := 0, locals := 0 } : Room)) (fun a U => a = #[(.ref a1)] ∧ Z.Warmed39 U.vm ∧ U.heap = h0) (fun _ _ _ _ _ => True) (fun _ U o U' => ∃ v L, o = .returned v ∧ own_Q_rmSym Z a1 x1 h0 n0 v U'.heap L ∧ FrameEnd U o U' L ({ frames := 0, cells := 0, slots := 0, locals := 0 } : Room).cells ({ frames := 0, cells := 0, slots := 0, locals := 0 } : Room).slots) := by
  refine own_enter (Q := fun v h L => own_Q_rmSym Z a1 x1 h0 n0 v h L) (F := fun m => mkF m 0 #[rv a1] []) own_pn10 (fun m => own_ef_rmSym m a1) ?_
  intro p e s m below meth c T X hx hby hml hret hlk hnm hown hZ e0
  show own_Goes p e below s _ _ (T.setTop (mkF m 0 #[rv a1] []))
  have N0 := Fr.nil n0
  refine own_st (fun _ k => XS.aloadN X.here hx rfl (hb hby own_d12_0) rfl rfl  k) ?_
  show own_Goes p e below s _ _ (T.setTop (mkF m 1 #[rv a1] [(.ref a1)]))
  obtain ⟨T101, X101, e101, st101⟩ := getF X hx hZ hown (host := "") (Or.inl (hw _ (List.mem_of_getElem? (i := 55) rfl))) Via.refl e0 F1 (g := (mkF m 1 #[rv a1] [(.ref a1)])) rfl rfl (hb hby own_d12_1)
  refine own_st st101 ?_
  show own_Goes p e below s _ _ (T101.setTop (mkF m 4 #[rv a1] [(.int x1)]))
  refine own_st (fun _ k => XS.bipush X101.here hx rfl (hb hby own_d12_4) k) ?_
  show own_Goes p e below s _ _ (T101.setTop (mkF m 6 #[rv a1] [(.int (50 : Int32)), (.int x1)]))
  by_cases c102 : x1 = (50 : Int32)
  · have c102i : x1.toInt = 50 := own_i_eq c102
    refine own_st (fun _ k => XS.icmpNo X101.here hx rfl (hb hby own_d12_6) rfl (teq c102).2 k) ?_
    show own_Goes p e below s _ _ (T101.setTop (mkF m 9 #[rv a1] []))
    refine own_st (fun _ k => XS.iconst X101.here hx rfl (hb hby own_d12_9) k) ?_
    show own_Goes p e below s _ _ (T101.setTop (mkF m 10 #[rv a1] [(.int (1 : Int32))]))
    refine own_st (fun _ k => XS.goto X101.here hx rfl (pc0 := 10) (pc' := 14) rfl (hb hby own_d12_10) (by decide) (by decide) k) ?_
    show own_Goes p e below s _ _ (T101.setTop (mkF m 14 #[rv a1] [(.int (1 : Int32))]))
    exact own_retN X101 hx hlk (1 : Int32) hret (Or.inl rfl) rfl (hb hby own_d12_14) (by decide) (by decide) ⟨(1 : Int32), rfl, own_b1 (by omega), N0, e101⟩
  · have c102i : ¬ x1.toInt = 50 := own_i_ne c102
    refine own_st (fun _ k => XS.icmpYes X101.here hx rfl (pc0 := 6) (pc' := 13) rfl (hb hby own_d12_6) rfl (feq c102).2 (by decide) (by decide) k) ?_
    show own_Goes p e below s _ _ (T101.setTop (mkF m 13 #[rv a1] []))
    refine own_st (fun _ k => XS.iconst X101.here hx rfl (hb hby own_d12_13) k) ?_
    show own_Goes p e below s _ _ (T101.setTop (mkF m 14 #[rv a1] [(.int (0 : Int32))]))
    exact own_retN X101 hx hlk (0 : Int32) hret (Or.inl rfl) rfl (hb hby own_d12_14) (by decide) (by decide) ⟨(0 : Int32), rfl, own_b0 (by omega), N0, e101⟩
theorem own_pn11 : plainFor (⟨"com/example/tender_parcel/tenderparcel/TarReader$Entry", "isHardLink", "()Z"⟩ : MethodName) = true := by first | exact plainFor_of_name (by simp [plainName, overriddenIn]; done) | decide +kernel
theorem own_d13_0 : decode prog_107_method_13_code 0 = .ok (.aload_n 0, 1) := by decide +kernel
theorem own_d13_1 : decode prog_107_method_13_code 1 = .ok (.getfield 17, 3) := by decide +kernel
theorem own_d13_4 : decode prog_107_method_13_code 4 = .ok (.bipush 49, 2) := by decide +kernel
theorem own_d13_6 : decode prog_107_method_13_code 6 = .ok (.if_icmp .ne 7, 3) := by decide +kernel
theorem own_d13_9 : decode prog_107_method_13_code 9 = .ok (.iconst 1, 1) := by decide +kernel
theorem own_d13_10 : decode prog_107_method_13_code 10 = .ok (.goto 4, 3) := by decide +kernel
theorem own_d13_14 : decode prog_107_method_13_code 14 = .ok (.ireturn, 1) := by decide +kernel
theorem own_d13_13 : decode prog_107_method_13_code 13 = .ok (.iconst 0, 1) := by decide +kernel
theorem own_ef_rmHard (m : MethodId) (a1 : Nat) : entryFrame m #[(.ref a1)] 1 = mkF m 0 #[rv a1] [] := by first | (simp [entryFrame, mkF, argsToLocals, Value.category, maxLocals]; done) | rfl
abbrev own_Q_rmHard (Z : State) (a1 : Nat) (x1 : Int32) (h0 : Heap) (n0 : Nat) (v : Option Value) (h : Heap) (L : List Loc) : Prop := ∃ r : Int32, v = some (.int r) ∧ ((r.toInt = 1 ∧ (x1.toInt = 49)) ∨ (r.toInt = 0 ∧ ¬ (x1.toInt = 49))) ∧ Fr n0 L ∧ h = h0
set_option maxRecDepth 65536 in
set_option maxHeartbeats 40000000 in
theorem rmHard (l : Launch) (Z : State) (a0 : Array Value) (hw : ∀ d ∈ tables_1, d.before a0 Z = true) (ws : List Jvm.Cond) (a1 : Nat) (x1 : Int32) (h0 : Heap) (n0 : Nat) (Z0 : n0 ≤ h0.size) (F1 : Fld Z h0 a1 "com/example/tender_parcel/tenderparcel/TarReader$Entry" "type" "B" (.int x1)) :
    MetFree l (⟨"com/example/tender_parcel/tenderparcel/TarReader$Entry", "isHardLink", "()Z"⟩ : MethodName) (head1 (Jvm.Cond.code (⟨"com/example/tender_parcel/tenderparcel/TarReader$Entry", "isHardLink", "()Z"⟩ : MethodName) prog_107_method_13_code 1 (some .boolean) :: ws) ({ frames := 0, cells := 0, slots := 0, locals := 0 } : Room)) (fun a U => a = #[(.ref a1)] ∧ Z.Warmed39 U.vm ∧ U.heap = h0) (fun _ _ _ _ _ => True) (fun _ U o U' => ∃ v L, o = .returned v ∧ own_Q_rmHard Z a1 x1 h0 n0 v U'.heap L ∧ FrameEnd U o U' L ({ frames := 0, cells := 0, slots := 0, locals := 0 } : Room).cells ({ frames := 0, cells := 0, slots := 0, locals := 0 } : Room).slots) := by
  refine own_enter (Q := fun v h L => own_Q_rmHard Z a1 x1 h0 n0 v h L) (F := fun m => mkF m 0 #[rv a1] []) own_pn11 (fun m => own_ef_rmHard m a1) ?_
  intro p e s m below meth c T X hx hby hml hret hlk hnm hown hZ e0
  show own_Goes p e below s _ _ (T.setTop (mkF m 0 #[rv a1] []))
  have N0 := Fr.nil n0
  refine own_st (fun _ k => XS.aloadN X.here hx rfl (hb hby own_d13_0) rfl rfl  k) ?_
  show own_Goes p e below s _ _ (T.setTop (mkF m 1 #[rv a1] [(.ref a1)]))
  obtain ⟨T101, X101, e101, st101⟩ := getF X hx hZ hown (host := "") (Or.inl (hw _ (List.mem_of_getElem? (i := 55) rfl))) Via.refl e0 F1 (g := (mkF m 1 #[rv a1] [(.ref a1)])) rfl rfl (hb hby own_d13_1)
  refine own_st st101 ?_
  show own_Goes p e below s _ _ (T101.setTop (mkF m 4 #[rv a1] [(.int x1)]))
  refine own_st (fun _ k => XS.bipush X101.here hx rfl (hb hby own_d13_4) k) ?_
  show own_Goes p e below s _ _ (T101.setTop (mkF m 6 #[rv a1] [(.int (49 : Int32)), (.int x1)]))
  by_cases c102 : x1 = (49 : Int32)
  · have c102i : x1.toInt = 49 := own_i_eq c102
    refine own_st (fun _ k => XS.icmpNo X101.here hx rfl (hb hby own_d13_6) rfl (teq c102).2 k) ?_
    show own_Goes p e below s _ _ (T101.setTop (mkF m 9 #[rv a1] []))
    refine own_st (fun _ k => XS.iconst X101.here hx rfl (hb hby own_d13_9) k) ?_
    show own_Goes p e below s _ _ (T101.setTop (mkF m 10 #[rv a1] [(.int (1 : Int32))]))
    refine own_st (fun _ k => XS.goto X101.here hx rfl (pc0 := 10) (pc' := 14) rfl (hb hby own_d13_10) (by decide) (by decide) k) ?_
    show own_Goes p e below s _ _ (T101.setTop (mkF m 14 #[rv a1] [(.int (1 : Int32))]))
    exact own_retN X101 hx hlk (1 : Int32) hret (Or.inl rfl) rfl (hb hby own_d13_14) (by decide) (by decide) ⟨(1 : Int32), rfl, own_b1 (by omega), N0, e101⟩
  · have c102i : ¬ x1.toInt = 49 := own_i_ne c102
    refine own_st (fun _ k => XS.icmpYes X101.here hx rfl (pc0 := 6) (pc' := 13) rfl (hb hby own_d13_6) rfl (feq c102).2 (by decide) (by decide) k) ?_
    show own_Goes p e below s _ _ (T101.setTop (mkF m 13 #[rv a1] []))
    refine own_st (fun _ k => XS.iconst X101.here hx rfl (hb hby own_d13_13) k) ?_
    show own_Goes p e below s _ _ (T101.setTop (mkF m 14 #[rv a1] [(.int (0 : Int32))]))
    exact own_retN X101 hx hlk (0 : Int32) hret (Or.inl rfl) rfl (hb hby own_d13_14) (by decide) (by decide) ⟨(0 : Int32), rfl, own_b0 (by omega), N0, e101⟩
theorem own_pn12 : plainFor (⟨"com/example/tender_parcel/tenderparcel/TarReader$Entry", "isDirectory", "()Z"⟩ : MethodName) = true := by first | exact plainFor_of_name (by simp [plainName, overriddenIn]; done) | decide +kernel
theorem own_d14_0 : decode prog_107_method_11_code 0 = .ok (.aload_n 0, 1) := by decide +kernel
theorem own_d14_1 : decode prog_107_method_11_code 1 = .ok (.getfield 17, 3) := by decide +kernel
theorem own_d14_4 : decode prog_107_method_11_code 4 = .ok (.bipush 48, 2) := by decide +kernel
theorem own_d14_6 : decode prog_107_method_11_code 6 = .ok (.if_icmp .eq 19, 3) := by decide +kernel
theorem own_d14_9 : decode prog_107_method_11_code 9 = .ok (.aload_n 0, 1) := by decide +kernel
theorem own_d14_10 : decode prog_107_method_11_code 10 = .ok (.getfield 17, 3) := by decide +kernel
theorem own_d14_13 : decode prog_107_method_11_code 13 = .ok (.ifCond .eq 12, 3) := by decide +kernel
theorem own_d14_16 : decode prog_107_method_11_code 16 = .ok (.aload_n 0, 1) := by decide +kernel
theorem own_d14_17 : decode prog_107_method_11_code 17 = .ok (.getfield 17, 3) := by decide +kernel
theorem own_d14_20 : decode prog_107_method_11_code 20 = .ok (.bipush 55, 2) := by decide +kernel
theorem own_d14_22 : decode prog_107_method_11_code 22 = .ok (.if_icmp .ne 7, 3) := by decide +kernel
theorem own_d14_29 : decode prog_107_method_11_code 29 = .ok (.iconst 0, 1) := by decide +kernel
theorem own_d14_30 : decode prog_107_method_11_code 30 = .ok (.istore_n 1, 1) := by decide +kernel
theorem own_d14_31 : decode prog_107_method_11_code 31 = .ok (.aload_n 0, 1) := by decide +kernel
theorem own_d14_32 : decode prog_107_method_11_code 32 = .ok (.getfield 17, 3) := by decide +kernel
theorem own_d14_35 : decode prog_107_method_11_code 35 = .ok (.bipush 53, 2) := by decide +kernel
theorem own_d14_37 : decode prog_107_method_11_code 37 = .ok (.if_icmp .eq 28, 3) := by decide +kernel
theorem own_d14_40 : decode prog_107_method_11_code 40 = .ok (.aload_n 0, 1) := by decide +kernel
theorem own_d14_41 : decode prog_107_method_11_code 41 = .ok (.getfield 17, 3) := by decide +kernel
theorem own_d14_44 : decode prog_107_method_11_code 44 = .ok (.bipush 68, 2) := by decide +kernel
theorem own_d14_46 : decode prog_107_method_11_code 46 = .ok (.if_icmp .eq 19, 3) := by decide +kernel
theorem own_d14_49 : decode prog_107_method_11_code 49 = .ok (.iload_n 1, 1) := by decide +kernel
theorem own_d14_50 : decode prog_107_method_11_code 50 = .ok (.ifCond .eq 19, 3) := by decide +kernel
theorem own_d14_69 : decode prog_107_method_11_code 69 = .ok (.iconst 0, 1) := by decide +kernel
theorem own_d14_70 : decode prog_107_method_11_code 70 = .ok (.ireturn, 1) := by decide +kernel
theorem own_ef_rmDir (m : MethodId) (a1 : Nat) : entryFrame m #[(.ref a1)] 2 = mkF m 0 #[rv a1, .unset] [] := by first | (simp [entryFrame, mkF, argsToLocals, Value.category, maxLocals]; done) | rfl
abbrev own_Q_rmDir (Z : State) (a1 : Nat) (x1 : Int32) (h0 : Heap) (n0 : Nat) (v : Option Value) (h : Heap) (L : List Loc) : Prop := ∃ r : Int32, v = some (.int r) ∧ ((r.toInt = 1 ∧ (x1.toInt = 48)) ∨ (r.toInt = 0 ∧ ¬ (x1.toInt = 48))) ∧ Fr n0 L ∧ h = h0
set_option maxRecDepth 65536 in
set_option maxHeartbeats 40000000 in
theorem rmDir (l : Launch) (Z : State) (a0 : Array Value) (hw : ∀ d ∈ tables_1, d.before a0 Z = true) (ws : List Jvm.Cond) (a1 : Nat) (x1 : Int32) (h0 : Heap) (n0 : Nat) (Z0 : n0 ≤ h0.size) (F1 : Fld Z h0 a1 "com/example/tender_parcel/tenderparcel/TarReader$Entry" "type" "B" (.int x1)) (hx : x1.toInt = 50) :
    MetFree l (⟨"com/example/tender_parcel/tenderparcel/TarReader$Entry", "isDirectory", "()Z"⟩ : MethodName) (head1 (Jvm.Cond.code (⟨"com/example/tender_parcel/tenderparcel/TarReader$Entry", "isDirectory", "()Z"⟩ : MethodName) prog_107_method_11_code 2 (some .boolean) :: ws) ({ frames := 0, cells := 0, slots := 0, locals := 0 } : Room)) (fun a U => a = #[(.ref a1)] ∧ Z.Warmed39 U.vm ∧ U.heap = h0) (fun _ _ _ _ _ => True) (fun _ U o U' => ∃ v L, o = .returned v ∧ own_Q_rmDir Z a1 x1 h0 n0 v U'.heap L ∧ FrameEnd U o U' L ({ frames := 0, cells := 0, slots := 0, locals := 0 } : Room).cells ({ frames := 0, cells := 0, slots := 0, locals := 0 } : Room).slots) := by
  refine own_enter (Q := fun v h L => own_Q_rmDir Z a1 x1 h0 n0 v h L) (F := fun m => mkF m 0 #[rv a1, .unset] []) own_pn12 (fun m => own_ef_rmDir m a1) ?_
  intro p e s m below meth c T X hx hby hml hret hlk hnm hown hZ e0
  show own_Goes p e below s _ _ (T.setTop (mkF m 0 #[rv a1, .unset] []))
  have N0 := Fr.nil n0
  refine own_st (fun _ k => XS.aloadN X.here hx rfl (hb hby own_d14_0) rfl rfl  k) ?_
  show own_Goes p e below s _ _ (T.setTop (mkF m 1 #[rv a1, .unset] [(.ref a1)]))
  obtain ⟨T101, X101, e101, st101⟩ := getF X hx hZ hown (host := "") (Or.inl (hw _ (List.mem_of_getElem? (i := 55) rfl))) Via.refl e0 F1 (g := (mkF m 1 #[rv a1, .unset] [(.ref a1)])) rfl rfl (hb hby own_d14_1)
  refine own_st st101 ?_
  show own_Goes p e below s _ _ (T101.setTop (mkF m 4 #[rv a1, .unset] [(.int x1)]))
  refine own_st (fun _ k => XS.bipush X101.here hx rfl (hb hby own_d14_4) k) ?_
  show own_Goes p e below s _ _ (T101.setTop (mkF m 6 #[rv a1, .unset] [(.int (48 : Int32)), (.int x1)]))
  by_cases c102 : x1 = (48 : Int32)
  · have c102i : x1.toInt = 48 := own_i_eq c102
    exfalso; omega
  · have c102i : ¬ x1.toInt = 48 := own_i_ne c102
    refine own_st (fun _ k => XS.icmpNo X101.here hx rfl (hb hby own_d14_6) rfl (feq c102).1 k) ?_
    show own_Goes p e below s _ _ (T101.setTop (mkF m 9 #[rv a1, .unset] []))
    refine own_st (fun _ k => XS.aloadN X101.here hx rfl (hb hby own_d14_9) rfl rfl  k) ?_
    show own_Goes p e below s _ _ (T101.setTop (mkF m 10 #[rv a1, .unset] [(.ref a1)]))
    obtain ⟨T103, X103, e103, st103⟩ := getF X101 hx hZ hown (host := "") (Or.inl (hw _ (List.mem_of_getElem? (i := 55) rfl))) Via.refl e101 F1 (g := (mkF m 10 #[rv a1, .unset] [(.ref a1)])) rfl rfl (hb hby own_d14_10)
    refine own_st st103 ?_
    show own_Goes p e below s _ _ (T103.setTop (mkF m 13 #[rv a1, .unset] [(.int x1)]))
    by_cases c104 : x1 = (0 : Int32)
    · have c104i : x1.toInt = 0 := own_i_eq c104
      exfalso; omega
    · have c104i : ¬ x1.toInt = 0 := own_i_ne c104
      refine own_st (fun _ k => XS.ifNo X103.here hx rfl (hb hby own_d14_13) rfl ((if0 _ _).trans (feq c104).1) k) ?_
      show own_Goes p e below s _ _ (T103.setTop (mkF m 16 #[rv a1, .unset] []))
      refine own_st (fun _ k => XS.aloadN X103.here hx rfl (hb hby own_d14_16) rfl rfl  k) ?_
      show own_Goes p e below s _ _ (T103.setTop (mkF m 17 #[rv a1, .unset] [(.ref a1)]))
      obtain ⟨T105, X105, e105, st105⟩ := getF X103 hx hZ hown (host := "") (Or.inl (hw _ (List.mem_of_getElem? (i := 55) rfl))) Via.refl e103 F1 (g := (mkF m 17 #[rv a1, .unset] [(.ref a1)])) rfl rfl (hb hby own_d14_17)
      refine own_st st105 ?_
      show own_Goes p e below s _ _ (T105.setTop (mkF m 20 #[rv a1, .unset] [(.int x1)]))
      refine own_st (fun _ k => XS.bipush X105.here hx rfl (hb hby own_d14_20) k) ?_
      show own_Goes p e below s _ _ (T105.setTop (mkF m 22 #[rv a1, .unset] [(.int (55 : Int32)), (.int x1)]))
      by_cases c106 : x1 = (55 : Int32)
      · have c106i : x1.toInt = 55 := own_i_eq c106
        exfalso; omega
      · have c106i : ¬ x1.toInt = 55 := own_i_ne c106
        refine own_st (fun _ k => XS.icmpYes X105.here hx rfl (pc0 := 22) (pc' := 29) rfl (hb hby own_d14_22) rfl (feq c106).2 (by decide) (by decide) k) ?_
        show own_Goes p e below s _ _ (T105.setTop (mkF m 29 #[rv a1, .unset] []))
        refine own_st (fun _ k => XS.iconst X105.here hx rfl (hb hby own_d14_29) k) ?_
        show own_Goes p e below s _ _ (T105.setTop (mkF m 30 #[rv a1, .unset] [(.int (0 : Int32))]))
        refine own_st (fun _ k => XS.istoreN X105.here hx rfl (hb hby own_d14_30) rfl (l' := #[rv a1, iv (0 : Int32)]) rfl k) ?_
        show own_Goes p e below s _ _ (T105.setTop (mkF m 31 #[rv a1, iv (0 : Int32)] []))
        refine own_st (fun _ k => XS.aloadN X105.here hx rfl (hb hby own_d14_31) rfl rfl  k) ?_
        show own_Goes p e below s _ _ (T105.setTop (mkF m 32 #[rv a1, iv (0 : Int32)] [(.ref a1)]))
        obtain ⟨T107, X107, e107, st107⟩ := getF X105 hx hZ hown (host := "") (Or.inl (hw _ (List.mem_of_getElem? (i := 55) rfl))) Via.refl e105 F1 (g := (mkF m 32 #[rv a1, iv (0 : Int32)] [(.ref a1)])) rfl rfl (hb hby own_d14_32)
        refine own_st st107 ?_
        show own_Goes p e below s _ _ (T107.setTop (mkF m 35 #[rv a1, iv (0 : Int32)] [(.int x1)]))
        refine own_st (fun _ k => XS.bipush X107.here hx rfl (hb hby own_d14_35) k) ?_
        show own_Goes p e below s _ _ (T107.setTop (mkF m 37 #[rv a1, iv (0 : Int32)] [(.int (53 : Int32)), (.int x1)]))
        by_cases c108 : x1 = (53 : Int32)
        · have c108i : x1.toInt = 53 := own_i_eq c108
          exfalso; omega
        · have c108i : ¬ x1.toInt = 53 := own_i_ne c108
          refine own_st (fun _ k => XS.icmpNo X107.here hx rfl (hb hby own_d14_37) rfl (feq c108).1 k) ?_
          show own_Goes p e below s _ _ (T107.setTop (mkF m 40 #[rv a1, iv (0 : Int32)] []))
          refine own_st (fun _ k => XS.aloadN X107.here hx rfl (hb hby own_d14_40) rfl rfl  k) ?_
          show own_Goes p e below s _ _ (T107.setTop (mkF m 41 #[rv a1, iv (0 : Int32)] [(.ref a1)]))
          obtain ⟨T109, X109, e109, st109⟩ := getF X107 hx hZ hown (host := "") (Or.inl (hw _ (List.mem_of_getElem? (i := 55) rfl))) Via.refl e107 F1 (g := (mkF m 41 #[rv a1, iv (0 : Int32)] [(.ref a1)])) rfl rfl (hb hby own_d14_41)
          refine own_st st109 ?_
          show own_Goes p e below s _ _ (T109.setTop (mkF m 44 #[rv a1, iv (0 : Int32)] [(.int x1)]))
          refine own_st (fun _ k => XS.bipush X109.here hx rfl (hb hby own_d14_44) k) ?_
          show own_Goes p e below s _ _ (T109.setTop (mkF m 46 #[rv a1, iv (0 : Int32)] [(.int (68 : Int32)), (.int x1)]))
          by_cases c110 : x1 = (68 : Int32)
          · have c110i : x1.toInt = 68 := own_i_eq c110
            exfalso; omega
          · have c110i : ¬ x1.toInt = 68 := own_i_ne c110
            refine own_st (fun _ k => XS.icmpNo X109.here hx rfl (hb hby own_d14_46) rfl (feq c110).1 k) ?_
            show own_Goes p e below s _ _ (T109.setTop (mkF m 49 #[rv a1, iv (0 : Int32)] []))
            refine own_st (fun _ k => XS.iloadN X109.here hx rfl (hb hby own_d14_49) rfl  k) ?_
            show own_Goes p e below s _ _ (T109.setTop (mkF m 50 #[rv a1, iv (0 : Int32)] [(.int (0 : Int32))]))
            refine own_st (fun _ k => XS.ifYes X109.here hx rfl (pc0 := 50) (pc' := 69) rfl (hb hby own_d14_50) rfl ((if0 _ _).trans (teq (by decide : (0 : Int32) = (0 : Int32))).1) (by decide) (by decide) k) ?_
            show own_Goes p e below s _ _ (T109.setTop (mkF m 69 #[rv a1, iv (0 : Int32)] []))
            refine own_st (fun _ k => XS.iconst X109.here hx rfl (hb hby own_d14_69) k) ?_
            show own_Goes p e below s _ _ (T109.setTop (mkF m 70 #[rv a1, iv (0 : Int32)] [(.int (0 : Int32))]))
            exact own_retN X109 hx hlk (0 : Int32) hret (Or.inl rfl) rfl (hb hby own_d14_70) (by decide) (by decide) ⟨(0 : Int32), rfl, own_b0 (by omega), N0, e109⟩
theorem own_pn13 : plainFor (⟨"com/example/tender_parcel/tenderparcel/TarReader$Entry", "isRegular", "()Z"⟩ : MethodName) = true := by first | exact plainFor_of_name (by simp [plainName, overriddenIn]; done) | decide +kernel
theorem own_d15_0 : decode prog_107_method_14_code 0 = .ok (.aload_n 0, 1) := by decide +kernel
theorem own_d15_1 : decode prog_107_method_14_code 1 = .ok (.getfield 17, 3) := by decide +kernel
theorem own_d15_4 : decode prog_107_method_14_code 4 = .ok (.bipush 48, 2) := by decide +kernel
theorem own_d15_6 : decode prog_107_method_14_code 6 = .ok (.if_icmp .eq 28, 3) := by decide +kernel
theorem own_d15_9 : decode prog_107_method_14_code 9 = .ok (.aload_n 0, 1) := by decide +kernel
theorem own_d15_10 : decode prog_107_method_14_code 10 = .ok (.getfield 17, 3) := by decide +kernel
theorem own_d15_13 : decode prog_107_method_14_code 13 = .ok (.ifCond .eq 21, 3) := by decide +kernel
theorem own_d15_16 : decode prog_107_method_14_code 16 = .ok (.aload_n 0, 1) := by decide +kernel
theorem own_d15_17 : decode prog_107_method_14_code 17 = .ok (.getfield 17, 3) := by decide +kernel
theorem own_d15_20 : decode prog_107_method_14_code 20 = .ok (.bipush 55, 2) := by decide +kernel
theorem own_d15_22 : decode prog_107_method_14_code 22 = .ok (.if_icmp .eq 12, 3) := by decide +kernel
theorem own_d15_25 : decode prog_107_method_14_code 25 = .ok (.aload_n 0, 1) := by decide +kernel
theorem own_d15_26 : decode prog_107_method_14_code 26 = .ok (.getfield 17, 3) := by decide +kernel
theorem own_d15_29 : decode prog_107_method_14_code 29 = .ok (.bipush 83, 2) := by decide +kernel
theorem own_d15_31 : decode prog_107_method_14_code 31 = .ok (.if_icmp .ne 7, 3) := by decide +kernel
theorem own_d15_38 : decode prog_107_method_14_code 38 = .ok (.iconst 0, 1) := by decide +kernel
theorem own_d15_39 : decode prog_107_method_14_code 39 = .ok (.istore_n 1, 1) := by decide +kernel
theorem own_d15_40 : decode prog_107_method_14_code 40 = .ok (.iload_n 1, 1) := by decide +kernel
theorem own_d15_41 : decode prog_107_method_14_code 41 = .ok (.ifCond .eq 14, 3) := by decide +kernel
theorem own_d15_55 : decode prog_107_method_14_code 55 = .ok (.iconst 0, 1) := by decide +kernel
theorem own_d15_56 : decode prog_107_method_14_code 56 = .ok (.ireturn, 1) := by decide +kernel
theorem own_ef_rmReg (m : MethodId) (a1 : Nat) : entryFrame m #[(.ref a1)] 2 = mkF m 0 #[rv a1, .unset] [] := by first | (simp [entryFrame, mkF, argsToLocals, Value.category, maxLocals]; done) | rfl
abbrev own_Q_rmReg (Z : State) (a1 : Nat) (x1 : Int32) (h0 : Heap) (n0 : Nat) (v : Option Value) (h : Heap) (L : List Loc) : Prop := ∃ r : Int32, v = some (.int r) ∧ ((r.toInt = 1 ∧ (x1.toInt = 48)) ∨ (r.toInt = 0 ∧ ¬ (x1.toInt = 48))) ∧ Fr n0 L ∧ h = h0
set_option maxRecDepth 65536 in
set_option maxHeartbeats 40000000 in
theorem rmReg (l : Launch) (Z : State) (a0 : Array Value) (hw : ∀ d ∈ tables_1, d.before a0 Z = true) (ws : List Jvm.Cond) (a1 : Nat) (x1 : Int32) (h0 : Heap) (n0 : Nat) (Z0 : n0 ≤ h0.size) (F1 : Fld Z h0 a1 "com/example/tender_parcel/tenderparcel/TarReader$Entry" "type" "B" (.int x1)) (hx : x1.toInt = 50) :
    MetFree l (⟨"com/example/tender_parcel/tenderparcel/TarReader$Entry", "isRegular", "()Z"⟩ : MethodName) (head1 (Jvm.Cond.code (⟨"com/example/tender_parcel/tenderparcel/TarReader$Entry", "isRegular", "()Z"⟩ : MethodName) prog_107_method_14_code 2 (some .boolean) :: ws) ({ frames := 0, cells := 0, slots := 0, locals := 0 } : Room)) (fun a U => a = #[(.ref a1)] ∧ Z.Warmed39 U.vm ∧ U.heap = h0) (fun _ _ _ _ _ => True) (fun _ U o U' => ∃ v L, o = .returned v ∧ own_Q_rmReg Z a1 x1 h0 n0 v U'.heap L ∧ FrameEnd U o U' L ({ frames := 0, cells := 0, slots := 0, locals := 0 } : Room).cells ({ frames := 0, cells := 0, slots := 0, locals := 0 } : Room).slots) := by
  refine own_enter (Q := fun v h L => own_Q_rmReg Z a1 x1 h0 n0 v h L) (F := fun m => mkF m 0 #[rv a1, .unset] []) own_pn13 (fun m => own_ef_rmReg m a1) ?_
  intro p e s m below meth c T X hx hby hml hret hlk hnm hown hZ e0
  show own_Goes p e below s _ _ (T.setTop (mkF m 0 #[rv a1, .unset] []))
  have N0 := Fr.nil n0
  refine own_st (fun _ k => XS.aloadN X.here hx rfl (hb hby own_d15_0) rfl rfl  k) ?_
  show own_Goes p e below s _ _ (T.setTop (mkF m 1 #[rv a1, .unset] [(.ref a1)]))
  obtain ⟨T101, X101, e101, st101⟩ := getF X hx hZ hown (host := "") (Or.inl (hw _ (List.mem_of_getElem? (i := 55) rfl))) Via.refl e0 F1 (g := (mkF m 1 #[rv a1, .unset] [(.ref a1)])) rfl rfl (hb hby own_d15_1)
  refine own_st st101 ?_
  show own_Goes p e below s _ _ (T101.setTop (mkF m 4 #[rv a1, .unset] [(.int x1)]))
  refine own_st (fun _ k => XS.bipush X101.here hx rfl (hb hby own_d15_4) k) ?_
  show own_Goes p e below s _ _ (T101.setTop (mkF m 6 #[rv a1, .unset] [(.int (48 : Int32)), (.int x1)]))
  by_cases c102 : x1 = (48 : Int32)
  · have c102i : x1.toInt = 48 := own_i_eq c102
    exfalso; omega
  · have c102i : ¬ x1.toInt = 48 := own_i_ne c102
    refine own_st (fun _ k => XS.icmpNo X101.here hx rfl (hb hby own_d15_6) rfl (feq c102).1 k) ?_
    show own_Goes p e below s _ _ (T101.setTop (mkF m 9 #[rv a1, .unset] []))
    refine own_st (fun _ k => XS.aloadN X101.here hx rfl (hb hby own_d15_9) rfl rfl  k) ?_
    show own_Goes p e below s _ _ (T101.setTop (mkF m 10 #[rv a1, .unset] [(.ref a1)]))
    obtain ⟨T103, X103, e103, st103⟩ := getF X101 hx hZ hown (host := "") (Or.inl (hw _ (List.mem_of_getElem? (i := 55) rfl))) Via.refl e101 F1 (g := (mkF m 10 #[rv a1, .unset] [(.ref a1)])) rfl rfl (hb hby own_d15_10)
    refine own_st st103 ?_
    show own_Goes p e below s _ _ (T103.setTop (mkF m 13 #[rv a1, .unset] [(.int x1)]))
    by_cases c104 : x1 = (0 : Int32)
    · have c104i : x1.toInt = 0 := own_i_eq c104
      exfalso; omega
    · have c104i : ¬ x1.toInt = 0 := own_i_ne c104
      refine own_st (fun _ k => XS.ifNo X103.here hx rfl (hb hby own_d15_13) rfl ((if0 _ _).trans (feq c104).1) k) ?_
      show own_Goes p e below s _ _ (T103.setTop (mkF m 16 #[rv a1, .unset] []))
      refine own_st (fun _ k => XS.aloadN X103.here hx rfl (hb hby own_d15_16) rfl rfl  k) ?_
      show own_Goes p e below s _ _ (T103.setTop (mkF m 17 #[rv a1, .unset] [(.ref a1)]))
      obtain ⟨T105, X105, e105, st105⟩ := getF X103 hx hZ hown (host := "") (Or.inl (hw _ (List.mem_of_getElem? (i := 55) rfl))) Via.refl e103 F1 (g := (mkF m 17 #[rv a1, .unset] [(.ref a1)])) rfl rfl (hb hby own_d15_17)
      refine own_st st105 ?_
      show own_Goes p e below s _ _ (T105.setTop (mkF m 20 #[rv a1, .unset] [(.int x1)]))
      refine own_st (fun _ k => XS.bipush X105.here hx rfl (hb hby own_d15_20) k) ?_
      show own_Goes p e below s _ _ (T105.setTop (mkF m 22 #[rv a1, .unset] [(.int (55 : Int32)), (.int x1)]))
      by_cases c106 : x1 = (55 : Int32)
      · have c106i : x1.toInt = 55 := own_i_eq c106
        exfalso; omega
      · have c106i : ¬ x1.toInt = 55 := own_i_ne c106
        refine own_st (fun _ k => XS.icmpNo X105.here hx rfl (hb hby own_d15_22) rfl (feq c106).1 k) ?_
        show own_Goes p e below s _ _ (T105.setTop (mkF m 25 #[rv a1, .unset] []))
        refine own_st (fun _ k => XS.aloadN X105.here hx rfl (hb hby own_d15_25) rfl rfl  k) ?_
        show own_Goes p e below s _ _ (T105.setTop (mkF m 26 #[rv a1, .unset] [(.ref a1)]))
        obtain ⟨T107, X107, e107, st107⟩ := getF X105 hx hZ hown (host := "") (Or.inl (hw _ (List.mem_of_getElem? (i := 55) rfl))) Via.refl e105 F1 (g := (mkF m 26 #[rv a1, .unset] [(.ref a1)])) rfl rfl (hb hby own_d15_26)
        refine own_st st107 ?_
        show own_Goes p e below s _ _ (T107.setTop (mkF m 29 #[rv a1, .unset] [(.int x1)]))
        refine own_st (fun _ k => XS.bipush X107.here hx rfl (hb hby own_d15_29) k) ?_
        show own_Goes p e below s _ _ (T107.setTop (mkF m 31 #[rv a1, .unset] [(.int (83 : Int32)), (.int x1)]))
        by_cases c108 : x1 = (83 : Int32)
        · have c108i : x1.toInt = 83 := own_i_eq c108
          exfalso; omega
        · have c108i : ¬ x1.toInt = 83 := own_i_ne c108
          refine own_st (fun _ k => XS.icmpYes X107.here hx rfl (pc0 := 31) (pc' := 38) rfl (hb hby own_d15_31) rfl (feq c108).2 (by decide) (by decide) k) ?_
          show own_Goes p e below s _ _ (T107.setTop (mkF m 38 #[rv a1, .unset] []))
          refine own_st (fun _ k => XS.iconst X107.here hx rfl (hb hby own_d15_38) k) ?_
          show own_Goes p e below s _ _ (T107.setTop (mkF m 39 #[rv a1, .unset] [(.int (0 : Int32))]))
          refine own_st (fun _ k => XS.istoreN X107.here hx rfl (hb hby own_d15_39) rfl (l' := #[rv a1, iv (0 : Int32)]) rfl k) ?_
          show own_Goes p e below s _ _ (T107.setTop (mkF m 40 #[rv a1, iv (0 : Int32)] []))
          refine own_st (fun _ k => XS.iloadN X107.here hx rfl (hb hby own_d15_40) rfl  k) ?_
          show own_Goes p e below s _ _ (T107.setTop (mkF m 41 #[rv a1, iv (0 : Int32)] [(.int (0 : Int32))]))
          refine own_st (fun _ k => XS.ifYes X107.here hx rfl (pc0 := 41) (pc' := 55) rfl (hb hby own_d15_41) rfl ((if0 _ _).trans (teq (by decide : (0 : Int32) = (0 : Int32))).1) (by decide) (by decide) k) ?_
          show own_Goes p e below s _ _ (T107.setTop (mkF m 55 #[rv a1, iv (0 : Int32)] []))
          refine own_st (fun _ k => XS.iconst X107.here hx rfl (hb hby own_d15_55) k) ?_
          show own_Goes p e below s _ _ (T107.setTop (mkF m 56 #[rv a1, iv (0 : Int32)] [(.int (0 : Int32))]))
          exact own_retN X107 hx hlk (0 : Int32) hret (Or.inl rfl) rfl (hb hby own_d15_56) (by decide) (by decide) ⟨(0 : Int32), rfl, own_b0 (by omega), N0, e107⟩
theorem own_pn14 : plainFor (⟨"com/example/tender_parcel/tenderparcel/EntryIsSymbolicLinkPinLaw", "law", "(IIJJJJ)Z"⟩ : MethodName) = true := by first | exact plainFor_of_name (by simp [plainName, overriddenIn]; done) | decide +kernel
theorem own_pd7 : parseMethodDescriptor "([C)V" = some ⟨[(.array .char)], none⟩ := by decide +kernel
theorem own_pd8 : parseMethodDescriptor "(C)Ljava/lang/String;" = some ⟨[.char], some (.object "java/lang/String")⟩ := by decide +kernel
theorem own_pd9 : parseMethodDescriptor "(Ljava/lang/String;BLjava/lang/String;JJJJ)V" = some ⟨[(.object "java/lang/String"), .byte, (.object "java/lang/String"), .long, .long, .long, .long], none⟩ := by decide +kernel
theorem own_pd10 : parseMethodDescriptor "()Z" = some ⟨[], some .boolean⟩ := by decide +kernel
theorem own_ef_rm0 (m : MethodId) (p0 : Int32) (p1 : Int32) (q2 : Int64) (q3 : Int64) (q4 : Int64) (q5 : Int64) : entryFrame m #[(.int p0), (.int p1), (.long q2), (.long q3), (.long q4), (.long q5)] maxLocals = mkF m 0 #[iv p0, iv p1, own_jv q2, .second, own_jv q3, .second, own_jv q4, .second, own_jv q5, .second, .unset, .unset, .unset, .unset, .unset, .unset, .unset] [] := by first | (simp [entryFrame, mkF, argsToLocals, Value.category, maxLocals]; done) | rfl
abbrev own_Q_rm0 (Z : State) (p0 : Int32) (p1 : Int32) (q2 : Int64) (q3 : Int64) (q4 : Int64) (q5 : Int64) (cs : Int32) (h0 : Heap) (n0 : Nat) (v : Option Value) (h : Heap) (L : List Loc) : Prop := v = some (.int 1) ∧ Fr n0 L
set_option maxRecDepth 65536 in
set_option maxHeartbeats 40000000 in
theorem rm0 (l : Launch) (Z : State) (a0 : Array Value) (hw : ∀ d ∈ tables_1, d.before a0 Z = true) (ws : List Jvm.Cond) (p0 : Int32) (p1 : Int32) (q2 : Int64) (q3 : Int64) (q4 : Int64) (q5 : Int64) (cs : Int32) (h0 : Heap) (n0 : Nat) (Z0 : n0 ≤ h0.size) (S1 : Sta Z h0 "java/lang/String" "COMPACT_STRINGS" "Z" (.int cs)) (hcs : ¬ cs = (0 : Int32)) :
    MetFree l x (head1 (Jvm.Cond.code x code maxLocals ret :: ws) room_1) (fun a U => a = #[(.int p0), (.int p1), (.long q2), (.long q3), (.long q4), (.long q5)] ∧ Z.Warmed39 U.vm ∧ U.heap = h0) (fun _ _ _ _ _ => True) (fun _ U o U' => ∃ v L, o = .returned v ∧ own_Q_rm0 Z p0 p1 q2 q3 q4 q5 cs h0 n0 v U'.heap L ∧ FrameEnd U o U' L room_1.cells room_1.slots) := by
  refine own_enter (Q := fun v h L => own_Q_rm0 Z p0 p1 q2 q3 q4 q5 cs h0 n0 v h L) (F := fun m => mkF m 0 #[iv p0, iv p1, own_jv q2, .second, own_jv q3, .second, own_jv q4, .second, own_jv q5, .second, .unset, .unset, .unset, .unset, .unset, .unset, .unset] []) own_pn14 (fun m => own_ef_rm0 m p0 p1 q2 q3 q4 q5) ?_
  intro p e s m below meth c T X hx hby hml hret hlk hnm hown hZ e0
  show own_Goes p e below s _ _ (T.setTop (mkF m 0 #[iv p0, iv p1, own_jv q2, .second, own_jv q3, .second, own_jv q4, .second, own_jv q5, .second, .unset, .unset, .unset, .unset, .unset, .unset, .unset] []))
  have N0 := Fr.nil n0
  refine own_st (fun _ k => XS.iloadN X.here hx rfl (hb hby at_0) rfl  k) ?_
  show own_Goes p e below s _ _ (T.setTop (mkF m 1 #[iv p0, iv p1, own_jv q2, .second, own_jv q3, .second, own_jv q4, .second, own_jv q5, .second, .unset, .unset, .unset, .unset, .unset, .unset, .unset] [(.int p0)]))
  refine own_st (fun _ k => XS.i2b X.here hx rfl (hb hby at_1) rfl k) ?_
  show own_Goes p e below s _ _ (T.setTop (mkF m 2 #[iv p0, iv p1, own_jv q2, .second, own_jv q3, .second, own_jv q4, .second, own_jv q5, .second, .unset, .unset, .unset, .unset, .unset, .unset, .unset] [(.int (p0.toInt8.toInt32))]))
  have hty := c_i2b p0
  generalize (p0.toInt8.toInt32) = ty at hty ⊢
  show own_Goes p e below s _ _ (T.setTop (mkF m 2 #[iv p0, iv p1, own_jv q2, .second, own_jv q3, .second, own_jv q4, .second, own_jv q5, .second, .unset, .unset, .unset, .unset, .unset, .unset, .unset] [(.int ty)]))
  refine own_st (fun _ k => XS.istore X.here hx rfl (hb hby at_2) rfl (l' := #[iv p0, iv p1, own_jv q2, .second, own_jv q3, .second, own_jv q4, .second, own_jv q5, .second, iv ty, .unset, .unset, .unset, .unset, .unset, .unset]) rfl k) ?_
  show own_Goes p e below s _ _ (T.setTop (mkF m 4 #[iv p0, iv p1, own_jv q2, .second, own_jv q3, .second, own_jv q4, .second, own_jv q5, .second, iv ty, .unset, .unset, .unset, .unset, .unset, .unset] []))
  refine own_st (fun _ k => XS.iconst X.here hx rfl (hb hby at_4) k) ?_
  show own_Goes p e below s _ _ (T.setTop (mkF m 5 #[iv p0, iv p1, own_jv q2, .second, own_jv q3, .second, own_jv q4, .second, own_jv q5, .second, iv ty, .unset, .unset, .unset, .unset, .unset, .unset] [(.int (2 : Int32))]))
  obtain ⟨T101, h101, X101, e101, E101, A101, st101⟩ := own_newP X hx hZ (aty := .char) (hw _ (List.mem_of_getElem? (i := 0) rfl)) e0 (g := (mkF m 5 #[iv p0, iv p1, own_jv q2, .second, own_jv q3, .second, own_jv q4, .second, own_jv q5, .second, iv ty, .unset, .unset, .unset, .unset, .unset, .unset] [(.int (2 : Int32))])) rfl (hb hby at_5) rfl (by decide) (cap := 2) (by decide) (by decide) (by decide) (by decide)
  obtain ⟨b101, g101⟩ : ∃ z, z = h0.size := ⟨_, rfl⟩
  rw [← g101] at A101 st101
  have V101 : own_Arf Z h101 b101 .char 2 (fun k => .int ((fun _ => (0 : Int32)) k)) := A101
  have y101 := own_lt V101.lt
  have z101 := E101.1
  refine own_st st101 ?_
  show own_Goes p e below s _ _ (T101.setTop (mkF m 7 #[iv p0, iv p1, own_jv q2, .second, own_jv q3, .second, own_jv q4, .second, own_jv q5, .second, iv ty, .unset, .unset, .unset, .unset, .unset, .unset] [(.ref b101)]))
  refine own_st (fun _ k => XS.astore X101.here hx rfl (hb hby at_7) rfl rfl (l' := #[iv p0, iv p1, own_jv q2, .second, own_jv q3, .second, own_jv q4, .second, own_jv q5, .second, iv ty, rv b101, .unset, .unset, .unset, .unset, .unset]) rfl k) ?_
  show own_Goes p e below s _ _ (T101.setTop (mkF m 9 #[iv p0, iv p1, own_jv q2, .second, own_jv q3, .second, own_jv q4, .second, own_jv q5, .second, iv ty, rv b101, .unset, .unset, .unset, .unset, .unset] []))
  refine own_st (fun _ k => XS.aload X101.here hx rfl (hb hby at_9) rfl rfl  k) ?_
  show own_Goes p e below s _ _ (T101.setTop (mkF m 11 #[iv p0, iv p1, own_jv q2, .second, own_jv q3, .second, own_jv q4, .second, own_jv q5, .second, iv ty, rv b101, .unset, .unset, .unset, .unset, .unset] [(.ref b101)]))
  refine own_st (fun _ k => XS.iconst X101.here hx rfl (hb hby at_11) k) ?_
  show own_Goes p e below s _ _ (T101.setTop (mkF m 12 #[iv p0, iv p1, own_jv q2, .second, own_jv q3, .second, own_jv q4, .second, own_jv q5, .second, iv ty, rv b101, .unset, .unset, .unset, .unset, .unset] [(.int (0 : Int32)), (.ref b101)]))
  refine own_st (fun _ k => XS.iloadN X101.here hx rfl (hb hby at_12) rfl  k) ?_
  show own_Goes p e below s _ _ (T101.setTop (mkF m 13 #[iv p0, iv p1, own_jv q2, .second, own_jv q3, .second, own_jv q4, .second, own_jv q5, .second, iv ty, rv b101, .unset, .unset, .unset, .unset, .unset] [(.int p1), (.int (0 : Int32)), (.ref b101)]))
  refine own_st (fun _ k => XS.sipush X101.here hx rfl (hb hby at_13) k) ?_
  show own_Goes p e below s _ _ (T101.setTop (mkF m 16 #[iv p0, iv p1, own_jv q2, .second, own_jv q3, .second, own_jv q4, .second, own_jv q5, .second, iv ty, rv b101, .unset, .unset, .unset, .unset, .unset] [(.int (255 : Int32)), (.int p1), (.int (0 : Int32)), (.ref b101)]))
  refine own_st (fun _ k => XS.iand X101.here hx rfl (hb hby at_16) rfl k) ?_
  show own_Goes p e below s _ _ (T101.setTop (mkF m 17 #[iv p0, iv p1, own_jv q2, .second, own_jv q3, .second, own_jv q4, .second, own_jv q5, .second, iv ty, rv b101, .unset, .unset, .unset, .unset, .unset] [(.int (p1 &&& (255 : Int32))), (.int (0 : Int32)), (.ref b101)]))
  refine own_st (fun _ k => XS.i2c X101.here hx rfl (hb hby at_17) rfl k) ?_
  show own_Goes p e below s _ _ (T101.setTop (mkF m 18 #[iv p0, iv p1, own_jv q2, .second, own_jv q3, .second, own_jv q4, .second, own_jv q5, .second, iv ty, rv b101, .unset, .unset, .unset, .unset, .unset] [(.int ((p1 &&& (255 : Int32)).toUInt32.toUInt16.toUInt32.toInt32)), (.int (0 : Int32)), (.ref b101)]))
  obtain ⟨T102, h102, X102, e102, W102, A102, st102⟩ := own_stC X101 hx hZ e101 V101 (j := (0 : Int32)) (by decide) (g := (mkF m 18 #[iv p0, iv p1, own_jv q2, .second, own_jv q3, .second, own_jv q4, .second, own_jv q5, .second, iv ty, rv b101, .unset, .unset, .unset, .unset, .unset] [(.int ((p1 &&& (255 : Int32)).toUInt32.toUInt16.toUInt32.toInt32)), (.int (0 : Int32)), (.ref b101)])) rfl rfl (hb hby at_18)
  have V102 : own_Arf Z h102 b101 .char 2 (fun k => .int ((fun k => if k = 0 then (nar .char ((p1 &&& (255 : Int32)).toUInt32.toUInt16.toUInt32.toInt32)) else (fun _ => (0 : Int32)) k) k)) := A102
  have z102 := W102.size
  have N102 := Fr.snoc X102 N0 (by omega)
  refine own_st st102 ?_
  show own_Goes p e below s _ _ (T102.setTop (mkF m 19 #[iv p0, iv p1, own_jv q2, .second, own_jv q3, .second, own_jv q4, .second, own_jv q5, .second, iv ty, rv b101, .unset, .unset, .unset, .unset, .unset] []))
  refine own_st (fun _ k => XS.aload X102.here hx rfl (hb hby at_19) rfl rfl  k) ?_
  show own_Goes p e below s _ _ (T102.setTop (mkF m 21 #[iv p0, iv p1, own_jv q2, .second, own_jv q3, .second, own_jv q4, .second, own_jv q5, .second, iv ty, rv b101, .unset, .unset, .unset, .unset, .unset] [(.ref b101)]))
  refine own_st (fun _ k => XS.iconst X102.here hx rfl (hb hby at_21) k) ?_
  show own_Goes p e below s _ _ (T102.setTop (mkF m 22 #[iv p0, iv p1, own_jv q2, .second, own_jv q3, .second, own_jv q4, .second, own_jv q5, .second, iv ty, rv b101, .unset, .unset, .unset, .unset, .unset] [(.int (1 : Int32)), (.ref b101)]))
  refine own_st (fun _ k => XS.iloadN X102.here hx rfl (hb hby at_22) rfl  k) ?_
  show own_Goes p e below s _ _ (T102.setTop (mkF m 23 #[iv p0, iv p1, own_jv q2, .second, own_jv q3, .second, own_jv q4, .second, own_jv q5, .second, iv ty, rv b101, .unset, .unset, .unset, .unset, .unset] [(.int p1), (.int (1 : Int32)), (.ref b101)]))
  refine own_st (fun _ k => XS.bipush X102.here hx rfl (hb hby at_23) k) ?_
  show own_Goes p e below s _ _ (T102.setTop (mkF m 25 #[iv p0, iv p1, own_jv q2, .second, own_jv q3, .second, own_jv q4, .second, own_jv q5, .second, iv ty, rv b101, .unset, .unset, .unset, .unset, .unset] [(.int (8 : Int32)), (.int p1), (.int (1 : Int32)), (.ref b101)]))
  refine own_st (fun _ k => XS.iushr X102.here hx rfl (hb hby at_25) rfl k) ?_
  show own_Goes p e below s _ _ (T102.setTop (mkF m 26 #[iv p0, iv p1, own_jv q2, .second, own_jv q3, .second, own_jv q4, .second, own_jv q5, .second, iv ty, rv b101, .unset, .unset, .unset, .unset, .unset] [(.int ((p1.toUInt32 >>> ((8 : Int32) &&& 31).toUInt32).toInt32)), (.int (1 : Int32)), (.ref b101)]))
  refine own_st (fun _ k => XS.sipush X102.here hx rfl (hb hby at_26) k) ?_
  show own_Goes p e below s _ _ (T102.setTop (mkF m 29 #[iv p0, iv p1, own_jv q2, .second, own_jv q3, .second, own_jv q4, .second, own_jv q5, .second, iv ty, rv b101, .unset, .unset, .unset, .unset, .unset] [(.int (255 : Int32)), (.int ((p1.toUInt32 >>> ((8 : Int32) &&& 31).toUInt32).toInt32)), (.int (1 : Int32)), (.ref b101)]))
  refine own_st (fun _ k => XS.iand X102.here hx rfl (hb hby at_29) rfl k) ?_
  show own_Goes p e below s _ _ (T102.setTop (mkF m 30 #[iv p0, iv p1, own_jv q2, .second, own_jv q3, .second, own_jv q4, .second, own_jv q5, .second, iv ty, rv b101, .unset, .unset, .unset, .unset, .unset] [(.int (((p1.toUInt32 >>> ((8 : Int32) &&& 31).toUInt32).toInt32) &&& (255 : Int32))), (.int (1 : Int32)), (.ref b101)]))
  refine own_st (fun _ k => XS.i2c X102.here hx rfl (hb hby at_30) rfl k) ?_
  show own_Goes p e below s _ _ (T102.setTop (mkF m 31 #[iv p0, iv p1, own_jv q2, .second, own_jv q3, .second, own_jv q4, .second, own_jv q5, .second, iv ty, rv b101, .unset, .unset, .unset, .unset, .unset] [(.int ((((p1.toUInt32 >>> ((8 : Int32) &&& 31).toUInt32).toInt32) &&& (255 : Int32)).toUInt32.toUInt16.toUInt32.toInt32)), (.int (1 : Int32)), (.ref b101)]))
  obtain ⟨T103, h103, X103, e103, W103, A103, st103⟩ := own_stC X102 hx hZ e102 V102 (j := (1 : Int32)) (by decide) (g := (mkF m 31 #[iv p0, iv p1, own_jv q2, .second, own_jv q3, .second, own_jv q4, .second, own_jv q5, .second, iv ty, rv b101, .unset, .unset, .unset, .unset, .unset] [(.int ((((p1.toUInt32 >>> ((8 : Int32) &&& 31).toUInt32).toInt32) &&& (255 : Int32)).toUInt32.toUInt16.toUInt32.toInt32)), (.int (1 : Int32)), (.ref b101)])) rfl rfl (hb hby at_31)
  have V103 : own_Arf Z h103 b101 .char 2 (fun k => .int ((fun k => if k = 1 then (nar .char ((((p1.toUInt32 >>> ((8 : Int32) &&& 31).toUInt32).toInt32) &&& (255 : Int32)).toUInt32.toUInt16.toUInt32.toInt32)) else (fun k => if k = 0 then (nar .char ((p1 &&& (255 : Int32)).toUInt32.toUInt16.toUInt32.toInt32)) else (fun _ => (0 : Int32)) k) k) k)) := A103
  have z103 := W103.size
  have N103 := Fr.snoc X103 N102 (by omega)
  refine own_st st103 ?_
  show own_Goes p e below s _ _ (T103.setTop (mkF m 32 #[iv p0, iv p1, own_jv q2, .second, own_jv q3, .second, own_jv q4, .second, own_jv q5, .second, iv ty, rv b101, .unset, .unset, .unset, .unset, .unset] []))
  obtain ⟨T104, h104, X104, e104, E104, A104, D104, -, st104⟩ := newO X103 hx hZ hown (hw _ (List.mem_of_getElem? (i := 1) rfl)) (hw _ (List.mem_of_getElem? (i := 2) rfl)) (hw _ (List.mem_of_getElem? (i := 3) rfl)) e103 (g := (mkF m 32 #[iv p0, iv p1, own_jv q2, .second, own_jv q3, .second, own_jv q4, .second, own_jv q5, .second, iv ty, rv b101, .unset, .unset, .unset, .unset, .unset] [])) rfl (hb hby at_32) (by decide) (by decide)
  obtain ⟨b104, g104⟩ : ∃ z, z = h103.size := ⟨_, rfl⟩
  rw [← g104] at A104 D104 st104
  have y104 := own_lt A104.lt
  have z104 := E104.1
  have F104_coder : Fld Z h104 b104 "java/lang/String" "coder" "B" (.int (0 : Int32)) := D104 (Or.inr (hw _ (List.mem_of_getElem? (i := 27) rfl))) (ty := .byte) (by decide)
  have F104_value : Fld Z h104 b104 "java/lang/String" "value" "[B" .null := D104 (Or.inr (hw _ (List.mem_of_getElem? (i := 29) rfl))) (ty := (.array .byte)) (by decide)
  refine own_st st104 ?_
  show own_Goes p e below s _ _ (T104.setTop (mkF m 35 #[iv p0, iv p1, own_jv q2, .second, own_jv q3, .second, own_jv q4, .second, own_jv q5, .second, iv ty, rv b101, .unset, .unset, .unset, .unset, .unset] [(.ref b104)]))
  refine own_st (fun _ k => XS.dup X104.here hx rfl (hb hby at_35) rfl rfl k) ?_
  show own_Goes p e below s _ _ (T104.setTop (mkF m 36 #[iv p0, iv p1, own_jv q2, .second, own_jv q3, .second, own_jv q4, .second, own_jv q5, .second, iv ty, rv b101, .unset, .unset, .unset, .unset, .unset] [(.ref b104), (.ref b104)]))
  refine own_st (fun _ k => XS.aload X104.here hx rfl (hb hby at_36) rfl rfl  k) ?_
  show own_Goes p e below s _ _ (T104.setTop (mkF m 38 #[iv p0, iv p1, own_jv q2, .second, own_jv q3, .second, own_jv q4, .second, own_jv q5, .second, iv ty, rv b101, .unset, .unset, .unset, .unset, .unset] [(.ref b101), (.ref b104), (.ref b104)]))
  have f105 := (V103.ext E104)
  have hcs2 : ∀ j, j < 2 → 0 ≤ ((fun k => if k = 1 then (nar .char ((((p1.toUInt32 >>> ((8 : Int32) &&& 31).toUInt32).toInt32) &&& (255 : Int32)).toUInt32.toUInt16.toUInt32.toInt32)) else (fun k => if k = 0 then (nar .char ((p1 &&& (255 : Int32)).toUInt32.toUInt16.toUInt32.toInt32)) else (fun _ => (0 : Int32)) k) k) j).toInt ∧ ((fun k => if k = 1 then (nar .char ((((p1.toUInt32 >>> ((8 : Int32) &&& 31).toUInt32).toInt32) &&& (255 : Int32)).toUInt32.toUInt16.toUInt32.toInt32)) else (fun k => if k = 0 then (nar .char ((p1 &&& (255 : Int32)).toUInt32.toUInt16.toUInt32.toInt32)) else (fun _ => (0 : Int32)) k) k) j).toInt ≤ 255 := by
    intro j hj
    have q : j = 0 ∨ j = 1 := by omega
    rcases q with rfl | rfl
    · exact own_ch0 _
    · exact own_ch1 _
  generalize (fun k => if k = 1 then (nar .char ((((p1.toUInt32 >>> ((8 : Int32) &&& 31).toUInt32).toInt32) &&& (255 : Int32)).toUInt32.toUInt16.toUInt32.toInt32)) else (fun k => if k = 0 then (nar .char ((p1 &&& (255 : Int32)).toUInt32.toUInt16.toUInt32.toInt32)) else (fun _ => (0 : Int32)) k) k) = fc at f105 hcs2
  have hyb := own_lt f105.lt
  have f107 := ((((S1.ext E101).wr W102).wr W103).ext E104)
  obtain ⟨v106, T106, L106, X106, Q106, st106⟩ := own_callI X104 hx hZ (y := (⟨"java/lang/String", "<init>", "([C)V"⟩ : MethodName)) hown (hw _ (List.mem_of_getElem? (i := 4) rfl)) (hw _ (List.mem_of_getElem? (i := 5) rfl)) (hw _ (List.mem_of_getElem? (i := 3) rfl)) (hw _ (List.mem_of_getElem? (i := 6) rfl)) rfl (by decide) (W := 1) (rest := [(.ref b104)]) (argsL := [(.ref b101)]) (a := b104) (rmS2 l Z a0 hw [] b104 b101 _ cs _ _  h104 n0 (by omega) A104 F104_value F104_coder f105 hcs2 f107 hcs (by omega) (by omega)) (by decide) (by decide) (by decide) (by decide) e104 own_pd7 rfl (g := (mkF m 38 #[iv p0, iv p1, own_jv q2, .second, own_jv q3, .second, own_jv q4, .second, own_jv q5, .second, iv ty, rv b101, .unset, .unset, .unset, .unset, .unset] [(.ref b101), (.ref b104), (.ref b104)])) rfl (by rw [hml]; rfl) rfl (by show 2 * 0 + _ ≤ _; exact Nat.le_of_eq rfl) (hb hby at_38)
  obtain ⟨rfl, N106q, K106, b106, g106, y106, A106, F106_value, F106_coder, V106⟩ := Q106
  have z106 := K106.1
  have N106 := Fr.app N103 N106q
  refine own_st st106 ?_
  show own_Goes p e below s _ _ (T106.setTop (mkF m 41 #[iv p0, iv p1, own_jv q2, .second, own_jv q3, .second, own_jv q4, .second, own_jv q5, .second, iv ty, rv b101, .unset, .unset, .unset, .unset, .unset] [(.ref b104)]))
  refine own_st (fun _ k => XS.astore X106.here hx rfl (hb hby at_41) rfl rfl (l' := #[iv p0, iv p1, own_jv q2, .second, own_jv q3, .second, own_jv q4, .second, own_jv q5, .second, iv ty, rv b101, rv b104, .unset, .unset, .unset, .unset]) rfl k) ?_
  show own_Goes p e below s _ _ (T106.setTop (mkF m 43 #[iv p0, iv p1, own_jv q2, .second, own_jv q3, .second, own_jv q4, .second, own_jv q5, .second, iv ty, rv b101, rv b104, .unset, .unset, .unset, .unset] []))
  refine own_st (fun _ k => XS.iloadN X106.here hx rfl (hb hby at_43) rfl  k) ?_
  show own_Goes p e below s _ _ (T106.setTop (mkF m 44 #[iv p0, iv p1, own_jv q2, .second, own_jv q3, .second, own_jv q4, .second, own_jv q5, .second, iv ty, rv b101, rv b104, .unset, .unset, .unset, .unset] [(.int p1)]))
  refine own_st (fun _ k => XS.bipush X106.here hx rfl (hb hby at_44) k) ?_
  show own_Goes p e below s _ _ (T106.setTop (mkF m 46 #[iv p0, iv p1, own_jv q2, .second, own_jv q3, .second, own_jv q4, .second, own_jv q5, .second, iv ty, rv b101, rv b104, .unset, .unset, .unset, .unset] [(.int (16 : Int32)), (.int p1)]))
  refine own_st (fun _ k => XS.iushr X106.here hx rfl (hb hby at_46) rfl k) ?_
  show own_Goes p e below s _ _ (T106.setTop (mkF m 47 #[iv p0, iv p1, own_jv q2, .second, own_jv q3, .second, own_jv q4, .second, own_jv q5, .second, iv ty, rv b101, rv b104, .unset, .unset, .unset, .unset] [(.int ((p1.toUInt32 >>> ((16 : Int32) &&& 31).toUInt32).toInt32))]))
  refine own_st (fun _ k => XS.sipush X106.here hx rfl (hb hby at_47) k) ?_
  show own_Goes p e below s _ _ (T106.setTop (mkF m 50 #[iv p0, iv p1, own_jv q2, .second, own_jv q3, .second, own_jv q4, .second, own_jv q5, .second, iv ty, rv b101, rv b104, .unset, .unset, .unset, .unset] [(.int (255 : Int32)), (.int ((p1.toUInt32 >>> ((16 : Int32) &&& 31).toUInt32).toInt32))]))
  refine own_st (fun _ k => XS.iand X106.here hx rfl (hb hby at_50) rfl k) ?_
  show own_Goes p e below s _ _ (T106.setTop (mkF m 51 #[iv p0, iv p1, own_jv q2, .second, own_jv q3, .second, own_jv q4, .second, own_jv q5, .second, iv ty, rv b101, rv b104, .unset, .unset, .unset, .unset] [(.int (((p1.toUInt32 >>> ((16 : Int32) &&& 31).toUInt32).toInt32) &&& (255 : Int32)))]))
  refine own_st (fun _ k => XS.i2c X106.here hx rfl (hb hby at_51) rfl k) ?_
  show own_Goes p e below s _ _ (T106.setTop (mkF m 52 #[iv p0, iv p1, own_jv q2, .second, own_jv q3, .second, own_jv q4, .second, own_jv q5, .second, iv ty, rv b101, rv b104, .unset, .unset, .unset, .unset] [(.int ((((p1.toUInt32 >>> ((16 : Int32) &&& 31).toUInt32).toInt32) &&& (255 : Int32)).toUInt32.toUInt16.toUInt32.toInt32))]))
  have f109 := (own_sta_keep f107 K106 (own_pl1 A104))
  obtain ⟨v108, T108, L108, X108, Q108, st108⟩ := own_callS X106 hx hZ (y := (⟨"java/lang/String", "valueOf", "(C)Ljava/lang/String;"⟩ : MethodName)) hown (hw _ (List.mem_of_getElem? (i := 30) rfl)) (hw _ (List.mem_of_getElem? (i := 31) rfl)) (hw _ (List.mem_of_getElem? (i := 3) rfl)) (hw _ (List.mem_of_getElem? (i := 32) rfl)) (by decide) (W := 0) (rest := []) (argsL := [(.int ((((p1.toUInt32 >>> ((16 : Int32) &&& 31).toUInt32).toInt32) &&& (255 : Int32)).toUInt32.toUInt16.toUInt32.toInt32))]) (rmVO l Z a0 hw [] ((((p1.toUInt32 >>> ((16 : Int32) &&& 31).toUInt32).toInt32) &&& (255 : Int32)).toUInt32.toUInt16.toUInt32.toInt32) cs T106.heap n0 (by omega) (own_chB _) f109 hcs) (by decide) (by decide) (by decide) (by decide) rfl own_pd8 rfl (g := (mkF m 52 #[iv p0, iv p1, own_jv q2, .second, own_jv q3, .second, own_jv q4, .second, own_jv q5, .second, iv ty, rv b101, rv b104, .unset, .unset, .unset, .unset] [(.int ((((p1.toUInt32 >>> ((16 : Int32) &&& 31).toUInt32).toInt32) &&& (255 : Int32)).toUInt32.toUInt16.toUInt32.toInt32))])) rfl (by rw [hml]; rfl) rfl (by show 2 * 0 + _ ≤ _; exact Nat.le_of_eq rfl) (hb hby at_52)
  obtain ⟨b108, rfl, N108q, K108, g108, A108⟩ := Q108
  have z108 := K108.1
  have y108 := own_lt A108.lt
  have N108 := Fr.app N106 N108q
  refine own_st st108 ?_
  show own_Goes p e below s _ _ (T108.setTop (mkF m 55 #[iv p0, iv p1, own_jv q2, .second, own_jv q3, .second, own_jv q4, .second, own_jv q5, .second, iv ty, rv b101, rv b104, .unset, .unset, .unset, .unset] [(.ref b108)]))
  refine own_st (fun _ k => XS.astore X108.here hx rfl (hb hby at_55) rfl rfl (l' := #[iv p0, iv p1, own_jv q2, .second, own_jv q3, .second, own_jv q4, .second, own_jv q5, .second, iv ty, rv b101, rv b104, rv b108, .unset, .unset, .unset]) rfl k) ?_
  show own_Goes p e below s _ _ (T108.setTop (mkF m 57 #[iv p0, iv p1, own_jv q2, .second, own_jv q3, .second, own_jv q4, .second, own_jv q5, .second, iv ty, rv b101, rv b104, rv b108, .unset, .unset, .unset] []))
  obtain ⟨T110, h110, X110, e110, E110, A110, D110, -, st110⟩ := newO X108 hx hZ hown (hw _ (List.mem_of_getElem? (i := 44) rfl)) (hw _ (List.mem_of_getElem? (i := 45) rfl)) (hw _ (List.mem_of_getElem? (i := 46) rfl)) rfl (g := (mkF m 57 #[iv p0, iv p1, own_jv q2, .second, own_jv q3, .second, own_jv q4, .second, own_jv q5, .second, iv ty, rv b101, rv b104, rv b108, .unset, .unset, .unset] [])) rfl (hb hby at_57) (by decide) (by decide)
  obtain ⟨b110, g110⟩ : ∃ z, z = T108.heap.size := ⟨_, rfl⟩
  rw [← g110] at A110 D110 st110
  have y110 := own_lt A110.lt
  have z110 := E110.1
  have F110_sparse : Fld Z h110 b110 "com/example/tender_parcel/tenderparcel/TarReader$Entry" "sparse" "B" (.int (0 : Int32)) := D110 (Or.inl (hw _ (List.mem_of_getElem? (i := 52) rfl))) (ty := .byte) (by decide)
  have F110_name : Fld Z h110 b110 "com/example/tender_parcel/tenderparcel/TarReader$Entry" "name" "Ljava/lang/String;" .null := D110 (Or.inr (hw _ (List.mem_of_getElem? (i := 54) rfl))) (ty := (.object "java/lang/String")) (by decide)
  have F110_type : Fld Z h110 b110 "com/example/tender_parcel/tenderparcel/TarReader$Entry" "type" "B" (.int (0 : Int32)) := D110 (Or.inr (hw _ (List.mem_of_getElem? (i := 56) rfl))) (ty := .byte) (by decide)
  have F110_linkName : Fld Z h110 b110 "com/example/tender_parcel/tenderparcel/TarReader$Entry" "linkName" "Ljava/lang/String;" .null := D110 (Or.inr (hw _ (List.mem_of_getElem? (i := 58) rfl))) (ty := (.object "java/lang/String")) (by decide)
  have F110_size : Fld Z h110 b110 "com/example/tender_parcel/tenderparcel/TarReader$Entry" "size" "J" (.long (0 : Int64)) := D110 (Or.inl (hw _ (List.mem_of_getElem? (i := 60) rfl))) (ty := .long) (by decide)
  have F110_headers : Fld Z h110 b110 "com/example/tender_parcel/tenderparcel/TarReader$Entry" "headers" "J" (.long (0 : Int64)) := D110 (Or.inr (hw _ (List.mem_of_getElem? (i := 62) rfl))) (ty := .long) (by decide)
  have F110_data : Fld Z h110 b110 "com/example/tender_parcel/tenderparcel/TarReader$Entry" "data" "J" (.long (0 : Int64)) := D110 (Or.inl (hw _ (List.mem_of_getElem? (i := 64) rfl))) (ty := .long) (by decide)
  have F110_stored : Fld Z h110 b110 "com/example/tender_parcel/tenderparcel/TarReader$Entry" "stored" "J" (.long (0 : Int64)) := D110 (Or.inl (hw _ (List.mem_of_getElem? (i := 66) rfl))) (ty := .long) (by decide)
  have F110_areaLength : Fld Z h110 b110 "com/example/tender_parcel/tenderparcel/TarReader$Entry" "areaLength" "J" (.long (0 : Int64)) := D110 (Or.inr (hw _ (List.mem_of_getElem? (i := 68) rfl))) (ty := .long) (by decide)
  refine own_st st110 ?_
  show own_Goes p e below s _ _ (T110.setTop (mkF m 60 #[iv p0, iv p1, own_jv q2, .second, own_jv q3, .second, own_jv q4, .second, own_jv q5, .second, iv ty, rv b101, rv b104, rv b108, .unset, .unset, .unset] [(.ref b110)]))
  refine own_st (fun _ k => XS.dup X110.here hx rfl (hb hby at_60) rfl rfl k) ?_
  show own_Goes p e below s _ _ (T110.setTop (mkF m 61 #[iv p0, iv p1, own_jv q2, .second, own_jv q3, .second, own_jv q4, .second, own_jv q5, .second, iv ty, rv b101, rv b104, rv b108, .unset, .unset, .unset] [(.ref b110), (.ref b110)]))
  refine own_st (fun _ k => XS.aload X110.here hx rfl (hb hby at_61) rfl rfl  k) ?_
  show own_Goes p e below s _ _ (T110.setTop (mkF m 63 #[iv p0, iv p1, own_jv q2, .second, own_jv q3, .second, own_jv q4, .second, own_jv q5, .second, iv ty, rv b101, rv b104, rv b108, .unset, .unset, .unset] [(.ref b104), (.ref b110), (.ref b110)]))
  refine own_st (fun _ k => XS.iload X110.here hx rfl (hb hby at_63) rfl  k) ?_
  show own_Goes p e below s _ _ (T110.setTop (mkF m 65 #[iv p0, iv p1, own_jv q2, .second, own_jv q3, .second, own_jv q4, .second, own_jv q5, .second, iv ty, rv b101, rv b104, rv b108, .unset, .unset, .unset] [(.int ty), (.ref b104), (.ref b110), (.ref b110)]))
  refine own_st (fun _ k => XS.aload X110.here hx rfl (hb hby at_65) rfl rfl  k) ?_
  show own_Goes p e below s _ _ (T110.setTop (mkF m 67 #[iv p0, iv p1, own_jv q2, .second, own_jv q3, .second, own_jv q4, .second, own_jv q5, .second, iv ty, rv b101, rv b104, rv b108, .unset, .unset, .unset] [(.ref b108), (.int ty), (.ref b104), (.ref b110), (.ref b110)]))
  refine own_st (fun _ k => XS.lloadN X110.here hx rfl (hb hby at_67) rfl  k) ?_
  show own_Goes p e below s _ _ (T110.setTop (mkF m 68 #[iv p0, iv p1, own_jv q2, .second, own_jv q3, .second, own_jv q4, .second, own_jv q5, .second, iv ty, rv b101, rv b104, rv b108, .unset, .unset, .unset] [(.long q2), (.ref b108), (.int ty), (.ref b104), (.ref b110), (.ref b110)]))
  refine own_st (fun _ k => XS.lload X110.here hx rfl (hb hby at_68) rfl  k) ?_
  show own_Goes p e below s _ _ (T110.setTop (mkF m 70 #[iv p0, iv p1, own_jv q2, .second, own_jv q3, .second, own_jv q4, .second, own_jv q5, .second, iv ty, rv b101, rv b104, rv b108, .unset, .unset, .unset] [(.long q3), (.long q2), (.ref b108), (.int ty), (.ref b104), (.ref b110), (.ref b110)]))
  refine own_st (fun _ k => XS.lload X110.here hx rfl (hb hby at_70) rfl  k) ?_
  show own_Goes p e below s _ _ (T110.setTop (mkF m 72 #[iv p0, iv p1, own_jv q2, .second, own_jv q3, .second, own_jv q4, .second, own_jv q5, .second, iv ty, rv b101, rv b104, rv b108, .unset, .unset, .unset] [(.long q4), (.long q3), (.long q2), (.ref b108), (.int ty), (.ref b104), (.ref b110), (.ref b110)]))
  refine own_st (fun _ k => XS.lload X110.here hx rfl (hb hby at_72) rfl  k) ?_
  show own_Goes p e below s _ _ (T110.setTop (mkF m 74 #[iv p0, iv p1, own_jv q2, .second, own_jv q3, .second, own_jv q4, .second, own_jv q5, .second, iv ty, rv b101, rv b104, rv b108, .unset, .unset, .unset] [(.long q5), (.long q4), (.long q3), (.long q2), (.ref b108), (.int ty), (.ref b104), (.ref b110), (.ref b110)]))
  obtain ⟨v111, T111, L111, X111, Q111, st111⟩ := own_callI X110 hx hZ (y := (⟨"com/example/tender_parcel/tenderparcel/TarReader$Entry", "<init>", "(Ljava/lang/String;BLjava/lang/String;JJJJ)V"⟩ : MethodName)) hown (hw _ (List.mem_of_getElem? (i := 47) rfl)) (hw _ (List.mem_of_getElem? (i := 48) rfl)) (hw _ (List.mem_of_getElem? (i := 46) rfl)) (hw _ (List.mem_of_getElem? (i := 49) rfl)) rfl (by decide) (W := 1) (rest := [(.ref b110)]) (argsL := [(.ref b104), (.int ty), (.ref b108), (.long q2), (.long q3), (.long q4), (.long q5)]) (a := b110) (rmE l Z a0 hw [] b110 b104 ty b108 q2 q3 q4 q5 _ _ _ _ _ _ _ _ _  h110 n0 (by omega) A110 F110_sparse F110_name F110_type F110_linkName F110_size F110_headers F110_data F110_stored F110_areaLength (by omega)) (by decide) (by decide) (by decide) (by decide) e110 own_pd9 rfl (g := (mkF m 74 #[iv p0, iv p1, own_jv q2, .second, own_jv q3, .second, own_jv q4, .second, own_jv q5, .second, iv ty, rv b101, rv b104, rv b108, .unset, .unset, .unset] [(.long q5), (.long q4), (.long q3), (.long q2), (.ref b108), (.int ty), (.ref b104), (.ref b110), (.ref b110)])) rfl (by rw [hml]; rfl) rfl (by show 2 * 0 + _ ≤ _; exact Nat.le_of_eq rfl) (hb hby at_74)
  obtain ⟨rfl, N111q, K111, A111, F111⟩ := Q111
  have z111 := K111.1
  have N111 := Fr.app N108 N111q
  refine own_st st111 ?_
  show own_Goes p e below s _ _ (T111.setTop (mkF m 77 #[iv p0, iv p1, own_jv q2, .second, own_jv q3, .second, own_jv q4, .second, own_jv q5, .second, iv ty, rv b101, rv b104, rv b108, .unset, .unset, .unset] [(.ref b110)]))
  refine own_st (fun _ k => XS.astore X111.here hx rfl (hb hby at_77) rfl rfl (l' := #[iv p0, iv p1, own_jv q2, .second, own_jv q3, .second, own_jv q4, .second, own_jv q5, .second, iv ty, rv b101, rv b104, rv b108, rv b110, .unset, .unset]) rfl k) ?_
  show own_Goes p e below s _ _ (T111.setTop (mkF m 79 #[iv p0, iv p1, own_jv q2, .second, own_jv q3, .second, own_jv q4, .second, own_jv q5, .second, iv ty, rv b101, rv b104, rv b108, rv b110, .unset, .unset] []))
  refine own_st (fun _ k => XS.aload X111.here hx rfl (hb hby at_79) rfl rfl  k) ?_
  show own_Goes p e below s _ _ (T111.setTop (mkF m 81 #[iv p0, iv p1, own_jv q2, .second, own_jv q3, .second, own_jv q4, .second, own_jv q5, .second, iv ty, rv b101, rv b104, rv b108, rv b110, .unset, .unset] [(.ref b110)]))
  have hnb := own_nb ty hty.2
  obtain ⟨v112, T112, L112, X112, Q112, st112⟩ := own_callV X111 hx hZ (C := "com/example/tender_parcel/tenderparcel/TarReader$Entry") (y := (⟨"com/example/tender_parcel/tenderparcel/TarReader$Entry", "isSymbolicLink", "()Z"⟩ : MethodName)) hown (hw _ (List.mem_of_getElem? (i := 69) rfl)) (hw _ (List.mem_of_getElem? (i := 70) rfl)) (hw _ (List.mem_of_getElem? (i := 72) rfl)) (hw _ (List.mem_of_getElem? (i := 71) rfl)) (hw _ (List.mem_of_getElem? (i := 46) rfl)) (hw _ (List.mem_of_getElem? (i := 73) rfl)) (by decide) (W := 0) (rest := []) (argsL := []) (a := b110) (rmSym l Z a0 hw [] b110 _ T111.heap n0 (by omega) F111) (by decide) (by decide) (by decide) (by decide) rfl A111 own_pd10 rfl (g := (mkF m 81 #[iv p0, iv p1, own_jv q2, .second, own_jv q3, .second, own_jv q4, .second, own_jv q5, .second, iv ty, rv b101, rv b104, rv b108, rv b110, .unset, .unset] [(.ref b110)])) rfl (by rw [hml]; rfl) rfl (by show 2 * 0 + _ ≤ _; exact Nat.le_of_eq rfl) (hb hby at_81)
  obtain ⟨r112, rfl, hr112, N112q, e112⟩ := Q112
  have N112 := Fr.app N111 N112q
  refine own_st st112 ?_
  show own_Goes p e below s _ _ (T112.setTop (mkF m 84 #[iv p0, iv p1, own_jv q2, .second, own_jv q3, .second, own_jv q4, .second, own_jv q5, .second, iv ty, rv b101, rv b104, rv b108, rv b110, .unset, .unset] [(.int r112)]))
  refine own_st (fun _ k => XS.istore X112.here hx rfl (hb hby at_84) rfl (l' := #[iv p0, iv p1, own_jv q2, .second, own_jv q3, .second, own_jv q4, .second, own_jv q5, .second, iv ty, rv b101, rv b104, rv b108, rv b110, iv r112, .unset]) rfl k) ?_
  show own_Goes p e below s _ _ (T112.setTop (mkF m 86 #[iv p0, iv p1, own_jv q2, .second, own_jv q3, .second, own_jv q4, .second, own_jv q5, .second, iv ty, rv b101, rv b104, rv b108, rv b110, iv r112, .unset] []))
  refine own_st (fun _ k => XS.iload X112.here hx rfl (hb hby at_86) rfl  k) ?_
  show own_Goes p e below s _ _ (T112.setTop (mkF m 88 #[iv p0, iv p1, own_jv q2, .second, own_jv q3, .second, own_jv q4, .second, own_jv q5, .second, iv ty, rv b101, rv b104, rv b108, rv b110, iv r112, .unset] [(.int ty)]))
  refine own_st (fun _ k => XS.bipush X112.here hx rfl (hb hby at_88) k) ?_
  show own_Goes p e below s _ _ (T112.setTop (mkF m 90 #[iv p0, iv p1, own_jv q2, .second, own_jv q3, .second, own_jv q4, .second, own_jv q5, .second, iv ty, rv b101, rv b104, rv b108, rv b110, iv r112, .unset] [(.int (50 : Int32)), (.int ty)]))
  by_cases c113 : ty = (50 : Int32)
  · have c113i : ty.toInt = 50 := own_i_eq c113
    refine own_st (fun _ k => XS.icmpNo X112.here hx rfl (hb hby at_90) rfl (teq c113).2 k) ?_
    show own_Goes p e below s _ _ (T112.setTop (mkF m 93 #[iv p0, iv p1, own_jv q2, .second, own_jv q3, .second, own_jv q4, .second, own_jv q5, .second, iv ty, rv b101, rv b104, rv b108, rv b110, iv r112, .unset] []))
    refine own_st (fun _ k => XS.iconst X112.here hx rfl (hb hby at_93) k) ?_
    show own_Goes p e below s _ _ (T112.setTop (mkF m 94 #[iv p0, iv p1, own_jv q2, .second, own_jv q3, .second, own_jv q4, .second, own_jv q5, .second, iv ty, rv b101, rv b104, rv b108, rv b110, iv r112, .unset] [(.int (1 : Int32))]))
    refine own_st (fun _ k => XS.goto X112.here hx rfl (pc0 := 94) (pc' := 98) rfl (hb hby at_94) (by decide) (by decide) k) ?_
    show own_Goes p e below s _ _ (T112.setTop (mkF m 98 #[iv p0, iv p1, own_jv q2, .second, own_jv q3, .second, own_jv q4, .second, own_jv q5, .second, iv ty, rv b101, rv b104, rv b108, rv b110, iv r112, .unset] [(.int (1 : Int32))]))
    refine own_st (fun _ k => XS.istore X112.here hx rfl (hb hby at_98) rfl (l' := #[iv p0, iv p1, own_jv q2, .second, own_jv q3, .second, own_jv q4, .second, own_jv q5, .second, iv ty, rv b101, rv b104, rv b108, rv b110, iv r112, iv (1 : Int32)]) rfl k) ?_
    show own_Goes p e below s _ _ (T112.setTop (mkF m 100 #[iv p0, iv p1, own_jv q2, .second, own_jv q3, .second, own_jv q4, .second, own_jv q5, .second, iv ty, rv b101, rv b104, rv b108, rv b110, iv r112, iv (1 : Int32)] []))
    refine own_st (fun _ k => XS.iload X112.here hx rfl (hb hby at_100) rfl  k) ?_
    show own_Goes p e below s _ _ (T112.setTop (mkF m 102 #[iv p0, iv p1, own_jv q2, .second, own_jv q3, .second, own_jv q4, .second, own_jv q5, .second, iv ty, rv b101, rv b104, rv b108, rv b110, iv r112, iv (1 : Int32)] [(.int r112)]))
    refine own_st (fun _ k => XS.iload X112.here hx rfl (hb hby at_102) rfl  k) ?_
    show own_Goes p e below s _ _ (T112.setTop (mkF m 104 #[iv p0, iv p1, own_jv q2, .second, own_jv q3, .second, own_jv q4, .second, own_jv q5, .second, iv ty, rv b101, rv b104, rv b108, rv b110, iv r112, iv (1 : Int32)] [(.int (1 : Int32)), (.int r112)]))
    by_cases c114 : r112 = (1 : Int32)
    · have c114i : r112.toInt = 1 := own_i_eq c114
      refine own_st (fun _ k => XS.icmpYes X112.here hx rfl (pc0 := 104) (pc' := 109) rfl (hb hby at_104) rfl (teq c114).1 (by decide) (by decide) k) ?_
      show own_Goes p e below s _ _ (T112.setTop (mkF m 109 #[iv p0, iv p1, own_jv q2, .second, own_jv q3, .second, own_jv q4, .second, own_jv q5, .second, iv ty, rv b101, rv b104, rv b108, rv b110, iv r112, iv (1 : Int32)] []))
      refine own_st (fun _ k => XS.iload X112.here hx rfl (hb hby at_109) rfl  k) ?_
      show own_Goes p e below s _ _ (T112.setTop (mkF m 111 #[iv p0, iv p1, own_jv q2, .second, own_jv q3, .second, own_jv q4, .second, own_jv q5, .second, iv ty, rv b101, rv b104, rv b108, rv b110, iv r112, iv (1 : Int32)] [(.int r112)]))
      by_cases c115 : r112 = (0 : Int32)
      · have c115i : r112.toInt = 0 := own_i_eq c115
        refine own_st (fun _ k => XS.ifYes X112.here hx rfl (pc0 := 111) (pc' := 140) rfl (hb hby at_111) rfl ((if0 _ _).trans (teq c115).1) (by decide) (by decide) k) ?_
        show own_Goes p e below s _ _ (T112.setTop (mkF m 140 #[iv p0, iv p1, own_jv q2, .second, own_jv q3, .second, own_jv q4, .second, own_jv q5, .second, iv ty, rv b101, rv b104, rv b108, rv b110, iv r112, iv (1 : Int32)] []))
        refine own_st (fun _ k => XS.iconst X112.here hx rfl (hb hby at_140) k) ?_
        show own_Goes p e below s _ _ (T112.setTop (mkF m 141 #[iv p0, iv p1, own_jv q2, .second, own_jv q3, .second, own_jv q4, .second, own_jv q5, .second, iv ty, rv b101, rv b104, rv b108, rv b110, iv r112, iv (1 : Int32)] [(.int (1 : Int32))]))
        exact own_retN X112 hx hlk (1 : Int32) hret (Or.inl rfl) rfl (hb hby at_141) (by decide) (by decide) ⟨rfl, N112⟩
      · have c115i : ¬ r112.toInt = 0 := own_i_ne c115
        refine own_st (fun _ k => XS.ifNo X112.here hx rfl (hb hby at_111) rfl ((if0 _ _).trans (feq c115).1) k) ?_
        show own_Goes p e below s _ _ (T112.setTop (mkF m 114 #[iv p0, iv p1, own_jv q2, .second, own_jv q3, .second, own_jv q4, .second, own_jv q5, .second, iv ty, rv b101, rv b104, rv b108, rv b110, iv r112, iv (1 : Int32)] []))
        refine own_st (fun _ k => XS.aload X112.here hx rfl (hb hby at_114) rfl rfl  k) ?_
        show own_Goes p e below s _ _ (T112.setTop (mkF m 116 #[iv p0, iv p1, own_jv q2, .second, own_jv q3, .second, own_jv q4, .second, own_jv q5, .second, iv ty, rv b101, rv b104, rv b108, rv b110, iv r112, iv (1 : Int32)] [(.ref b110)]))
        obtain ⟨v116, T116, L116, X116, Q116, st116⟩ := own_callV X112 hx hZ (C := "com/example/tender_parcel/tenderparcel/TarReader$Entry") (y := (⟨"com/example/tender_parcel/tenderparcel/TarReader$Entry", "isHardLink", "()Z"⟩ : MethodName)) hown (hw _ (List.mem_of_getElem? (i := 74) rfl)) (hw _ (List.mem_of_getElem? (i := 75) rfl)) (hw _ (List.mem_of_getElem? (i := 77) rfl)) (hw _ (List.mem_of_getElem? (i := 76) rfl)) (hw _ (List.mem_of_getElem? (i := 46) rfl)) (hw _ (List.mem_of_getElem? (i := 78) rfl)) (by decide) (W := 0) (rest := []) (argsL := []) (a := b110) (rmHard l Z a0 hw [] b110 _ T111.heap n0 (by omega) F111) (by decide) (by decide) (by decide) (by decide) e112 A111 own_pd10 rfl (g := (mkF m 116 #[iv p0, iv p1, own_jv q2, .second, own_jv q3, .second, own_jv q4, .second, own_jv q5, .second, iv ty, rv b101, rv b104, rv b108, rv b110, iv r112, iv (1 : Int32)] [(.ref b110)])) rfl (by rw [hml]; rfl) rfl (by show 2 * 0 + _ ≤ _; exact Nat.le_of_eq rfl) (hb hby at_116)
        obtain ⟨r116, rfl, hr116, N116q, e116⟩ := Q116
        have N116 := Fr.app N112 N116q
        refine own_st st116 ?_
        show own_Goes p e below s _ _ (T116.setTop (mkF m 119 #[iv p0, iv p1, own_jv q2, .second, own_jv q3, .second, own_jv q4, .second, own_jv q5, .second, iv ty, rv b101, rv b104, rv b108, rv b110, iv r112, iv (1 : Int32)] [(.int r116)]))
        by_cases c117 : r116 = (0 : Int32)
        · have c117i : r116.toInt = 0 := own_i_eq c117
          refine own_st (fun _ k => XS.ifNo X116.here hx rfl (hb hby at_119) rfl ((if0 _ _).trans (teq c117).2) k) ?_
          show own_Goes p e below s _ _ (T116.setTop (mkF m 122 #[iv p0, iv p1, own_jv q2, .second, own_jv q3, .second, own_jv q4, .second, own_jv q5, .second, iv ty, rv b101, rv b104, rv b108, rv b110, iv r112, iv (1 : Int32)] []))
          refine own_st (fun _ k => XS.aload X116.here hx rfl (hb hby at_122) rfl rfl  k) ?_
          show own_Goes p e below s _ _ (T116.setTop (mkF m 124 #[iv p0, iv p1, own_jv q2, .second, own_jv q3, .second, own_jv q4, .second, own_jv q5, .second, iv ty, rv b101, rv b104, rv b108, rv b110, iv r112, iv (1 : Int32)] [(.ref b110)]))
          obtain ⟨v118, T118, L118, X118, Q118, st118⟩ := own_callV X116 hx hZ (C := "com/example/tender_parcel/tenderparcel/TarReader$Entry") (y := (⟨"com/example/tender_parcel/tenderparcel/TarReader$Entry", "isDirectory", "()Z"⟩ : MethodName)) hown (hw _ (List.mem_of_getElem? (i := 79) rfl)) (hw _ (List.mem_of_getElem? (i := 80) rfl)) (hw _ (List.mem_of_getElem? (i := 82) rfl)) (hw _ (List.mem_of_getElem? (i := 81) rfl)) (hw _ (List.mem_of_getElem? (i := 46) rfl)) (hw _ (List.mem_of_getElem? (i := 83) rfl)) (by decide) (W := 0) (rest := []) (argsL := []) (a := b110) (rmDir l Z a0 hw [] b110 _ T111.heap n0 (by omega) F111 (by omega)) (by decide) (by decide) (by decide) (by decide) e116 A111 own_pd10 rfl (g := (mkF m 124 #[iv p0, iv p1, own_jv q2, .second, own_jv q3, .second, own_jv q4, .second, own_jv q5, .second, iv ty, rv b101, rv b104, rv b108, rv b110, iv r112, iv (1 : Int32)] [(.ref b110)])) rfl (by rw [hml]; rfl) rfl (by show 2 * 0 + _ ≤ _; exact Nat.le_of_eq rfl) (hb hby at_124)
          obtain ⟨r118, rfl, hr118, N118q, e118⟩ := Q118
          have N118 := Fr.app N116 N118q
          refine own_st st118 ?_
          show own_Goes p e below s _ _ (T118.setTop (mkF m 127 #[iv p0, iv p1, own_jv q2, .second, own_jv q3, .second, own_jv q4, .second, own_jv q5, .second, iv ty, rv b101, rv b104, rv b108, rv b110, iv r112, iv (1 : Int32)] [(.int r118)]))
          by_cases c119 : r118 = (0 : Int32)
          · have c119i : r118.toInt = 0 := own_i_eq c119
            refine own_st (fun _ k => XS.ifNo X118.here hx rfl (hb hby at_127) rfl ((if0 _ _).trans (teq c119).2) k) ?_
            show own_Goes p e below s _ _ (T118.setTop (mkF m 130 #[iv p0, iv p1, own_jv q2, .second, own_jv q3, .second, own_jv q4, .second, own_jv q5, .second, iv ty, rv b101, rv b104, rv b108, rv b110, iv r112, iv (1 : Int32)] []))
            refine own_st (fun _ k => XS.aload X118.here hx rfl (hb hby at_130) rfl rfl  k) ?_
            show own_Goes p e below s _ _ (T118.setTop (mkF m 132 #[iv p0, iv p1, own_jv q2, .second, own_jv q3, .second, own_jv q4, .second, own_jv q5, .second, iv ty, rv b101, rv b104, rv b108, rv b110, iv r112, iv (1 : Int32)] [(.ref b110)]))
            obtain ⟨v120, T120, L120, X120, Q120, st120⟩ := own_callV X118 hx hZ (C := "com/example/tender_parcel/tenderparcel/TarReader$Entry") (y := (⟨"com/example/tender_parcel/tenderparcel/TarReader$Entry", "isRegular", "()Z"⟩ : MethodName)) hown (hw _ (List.mem_of_getElem? (i := 84) rfl)) (hw _ (List.mem_of_getElem? (i := 85) rfl)) (hw _ (List.mem_of_getElem? (i := 87) rfl)) (hw _ (List.mem_of_getElem? (i := 86) rfl)) (hw _ (List.mem_of_getElem? (i := 46) rfl)) (hw _ (List.mem_of_getElem? (i := 88) rfl)) (by decide) (W := 0) (rest := []) (argsL := []) (a := b110) (rmReg l Z a0 hw [] b110 _ T111.heap n0 (by omega) F111 (by omega)) (by decide) (by decide) (by decide) (by decide) e118 A111 own_pd10 rfl (g := (mkF m 132 #[iv p0, iv p1, own_jv q2, .second, own_jv q3, .second, own_jv q4, .second, own_jv q5, .second, iv ty, rv b101, rv b104, rv b108, rv b110, iv r112, iv (1 : Int32)] [(.ref b110)])) rfl (by rw [hml]; rfl) rfl (by show 2 * 0 + _ ≤ _; exact Nat.le_of_eq rfl) (hb hby at_132)
            obtain ⟨r120, rfl, hr120, N120q, e120⟩ := Q120
            have N120 := Fr.app N118 N120q
            refine own_st st120 ?_
            show own_Goes p e below s _ _ (T120.setTop (mkF m 135 #[iv p0, iv p1, own_jv q2, .second, own_jv q3, .second, own_jv q4, .second, own_jv q5, .second, iv ty, rv b101, rv b104, rv b108, rv b110, iv r112, iv (1 : Int32)] [(.int r120)]))
            by_cases c121 : r120 = (0 : Int32)
            · have c121i : r120.toInt = 0 := own_i_eq c121
              refine own_st (fun _ k => XS.ifYes X120.here hx rfl (pc0 := 135) (pc' := 140) rfl (hb hby at_135) rfl ((if0 _ _).trans (teq c121).1) (by decide) (by decide) k) ?_
              show own_Goes p e below s _ _ (T120.setTop (mkF m 140 #[iv p0, iv p1, own_jv q2, .second, own_jv q3, .second, own_jv q4, .second, own_jv q5, .second, iv ty, rv b101, rv b104, rv b108, rv b110, iv r112, iv (1 : Int32)] []))
              refine own_st (fun _ k => XS.iconst X120.here hx rfl (hb hby at_140) k) ?_
              show own_Goes p e below s _ _ (T120.setTop (mkF m 141 #[iv p0, iv p1, own_jv q2, .second, own_jv q3, .second, own_jv q4, .second, own_jv q5, .second, iv ty, rv b101, rv b104, rv b108, rv b110, iv r112, iv (1 : Int32)] [(.int (1 : Int32))]))
              exact own_retN X120 hx hlk (1 : Int32) hret (Or.inl rfl) rfl (hb hby at_141) (by decide) (by decide) ⟨rfl, N120⟩
            · have c121i : ¬ r120.toInt = 0 := own_i_ne c121
              exfalso; omega
          · have c119i : ¬ r118.toInt = 0 := own_i_ne c119
            exfalso; omega
        · have c117i : ¬ r116.toInt = 0 := own_i_ne c117
          exfalso; omega
    · have c114i : ¬ r112.toInt = 1 := own_i_ne c114
      exfalso; omega
  · have c113i : ¬ ty.toInt = 50 := own_i_ne c113
    refine own_st (fun _ k => XS.icmpYes X112.here hx rfl (pc0 := 90) (pc' := 97) rfl (hb hby at_90) rfl (feq c113).2 (by decide) (by decide) k) ?_
    show own_Goes p e below s _ _ (T112.setTop (mkF m 97 #[iv p0, iv p1, own_jv q2, .second, own_jv q3, .second, own_jv q4, .second, own_jv q5, .second, iv ty, rv b101, rv b104, rv b108, rv b110, iv r112, .unset] []))
    refine own_st (fun _ k => XS.iconst X112.here hx rfl (hb hby at_97) k) ?_
    show own_Goes p e below s _ _ (T112.setTop (mkF m 98 #[iv p0, iv p1, own_jv q2, .second, own_jv q3, .second, own_jv q4, .second, own_jv q5, .second, iv ty, rv b101, rv b104, rv b108, rv b110, iv r112, .unset] [(.int (0 : Int32))]))
    refine own_st (fun _ k => XS.istore X112.here hx rfl (hb hby at_98) rfl (l' := #[iv p0, iv p1, own_jv q2, .second, own_jv q3, .second, own_jv q4, .second, own_jv q5, .second, iv ty, rv b101, rv b104, rv b108, rv b110, iv r112, iv (0 : Int32)]) rfl k) ?_
    show own_Goes p e below s _ _ (T112.setTop (mkF m 100 #[iv p0, iv p1, own_jv q2, .second, own_jv q3, .second, own_jv q4, .second, own_jv q5, .second, iv ty, rv b101, rv b104, rv b108, rv b110, iv r112, iv (0 : Int32)] []))
    refine own_st (fun _ k => XS.iload X112.here hx rfl (hb hby at_100) rfl  k) ?_
    show own_Goes p e below s _ _ (T112.setTop (mkF m 102 #[iv p0, iv p1, own_jv q2, .second, own_jv q3, .second, own_jv q4, .second, own_jv q5, .second, iv ty, rv b101, rv b104, rv b108, rv b110, iv r112, iv (0 : Int32)] [(.int r112)]))
    refine own_st (fun _ k => XS.iload X112.here hx rfl (hb hby at_102) rfl  k) ?_
    show own_Goes p e below s _ _ (T112.setTop (mkF m 104 #[iv p0, iv p1, own_jv q2, .second, own_jv q3, .second, own_jv q4, .second, own_jv q5, .second, iv ty, rv b101, rv b104, rv b108, rv b110, iv r112, iv (0 : Int32)] [(.int (0 : Int32)), (.int r112)]))
    by_cases c122 : r112 = (0 : Int32)
    · have c122i : r112.toInt = 0 := own_i_eq c122
      refine own_st (fun _ k => XS.icmpYes X112.here hx rfl (pc0 := 104) (pc' := 109) rfl (hb hby at_104) rfl (teq c122).1 (by decide) (by decide) k) ?_
      show own_Goes p e below s _ _ (T112.setTop (mkF m 109 #[iv p0, iv p1, own_jv q2, .second, own_jv q3, .second, own_jv q4, .second, own_jv q5, .second, iv ty, rv b101, rv b104, rv b108, rv b110, iv r112, iv (0 : Int32)] []))
      refine own_st (fun _ k => XS.iload X112.here hx rfl (hb hby at_109) rfl  k) ?_
      show own_Goes p e below s _ _ (T112.setTop (mkF m 111 #[iv p0, iv p1, own_jv q2, .second, own_jv q3, .second, own_jv q4, .second, own_jv q5, .second, iv ty, rv b101, rv b104, rv b108, rv b110, iv r112, iv (0 : Int32)] [(.int r112)]))
      refine own_st (fun _ k => XS.ifYes X112.here hx rfl (pc0 := 111) (pc' := 140) rfl (hb hby at_111) rfl ((if0 _ _).trans (teq c122).1) (by decide) (by decide) k) ?_
      show own_Goes p e below s _ _ (T112.setTop (mkF m 140 #[iv p0, iv p1, own_jv q2, .second, own_jv q3, .second, own_jv q4, .second, own_jv q5, .second, iv ty, rv b101, rv b104, rv b108, rv b110, iv r112, iv (0 : Int32)] []))
      refine own_st (fun _ k => XS.iconst X112.here hx rfl (hb hby at_140) k) ?_
      show own_Goes p e below s _ _ (T112.setTop (mkF m 141 #[iv p0, iv p1, own_jv q2, .second, own_jv q3, .second, own_jv q4, .second, own_jv q5, .second, iv ty, rv b101, rv b104, rv b108, rv b110, iv r112, iv (0 : Int32)] [(.int (1 : Int32))]))
      exact own_retN X112 hx hlk (1 : Int32) hret (Or.inl rfl) rfl (hb hby at_141) (by decide) (by decide) ⟨rfl, N112⟩
    · have c122i : ¬ r112.toInt = 0 := own_i_ne c122
      exfalso; omega
set_option maxRecDepth 65536 in
set_option maxHeartbeats 40000000 in
theorem comes_1 {Post : Tables → Env → Array Value → State → Outcome → State → Prop} (hpost : ∀ tb e args s v u, (limb_1_1.after args s (.returned v) u = true ∧ limb_1_2.after args s (.returned v) u = true ∧ True) → FrameEnd s (.returned v) u (Jvm.fieldLocs frame_1_writes args s ++ Jvm.arrayLocs frame_1_arrays args s ++ Jvm.staticLocs frame_1_statics s) 24 128 → Post tb e args s (.returned v) u) :
    ArmFor flags0 classFile x code maxLocals ret World_1 tables_1 room_1 Calls_1 rest_1 Pre_1 Post := by
  intro l hfl _ _ p e ha hc hk s m args below hf hA hF happ hP
  obtain ⟨hcalls, hrest, hpre⟩ := hP
  obtain ⟨-, -, -, hnamed, -, -, -, hat⟩ := (Spec.applies_iff hf).mp happ
  obtain ⟨hg, hn⟩ := and_e (Cond.before_iff.mp (show (Jvm.Cond.and given_1 narrow_1).before args s = true from hpre))
  obtain ⟨hcnt, q0⟩ := and_e hg
  obtain ⟨u0, q1⟩ := and_e q0
  obtain ⟨u1, q2⟩ := and_e q1
  obtain ⟨u2, q3⟩ := and_e q2
  obtain ⟨u3, q4⟩ := and_e q3
  obtain ⟨u4, q5⟩ := and_e q4
  obtain ⟨w0, w1, w2, w3, w4, w5, rfl⟩ : ∃ w0 w1 w2 w3 w4 w5 : Value, args = #[w0, w1, w2, w3, w4, w5] := by
    have hs : args.size = 6 := by simpa [Cond.value, given_1] using hcnt
    obtain ⟨L⟩ := args
    match L, hs with
    | [w0, w1, w2, w3, w4, w5], _ => exact ⟨w0, w1, w2, w3, w4, w5, rfl⟩
  have hw := fun d (hd : d ∈ tables_1) => atoms_spec (ws := Jvm.Cond.code x code maxLocals ret :: tables_1) hat d (List.mem_cons_of_mem _ hd)
  have hfit : Fit s := fun {y c} hc i hi => by
    obtain ⟨ha, rfl⟩ := Array.getElem?_eq_some_iff.mp hc
    have q := List.all_eq_true.mp ((Array.all_eq_true_iff_forall_mem.mp hF) _ (Array.getElem_mem ha)) i (List.mem_range.mpr hi)
    simpa [Array.getElem?_eq_getElem hi] using q
  obtain ⟨hsets, hown0⟩ := atoms_of _ (rest_1_c_eq ▸ (show rest_1_c.before _ s = true from hrest))
  obtain ⟨i0, ei0⟩ := is_v u0
  obtain rfl : w0 = (.int i0) := Option.some.inj ei0
  obtain ⟨i1, ei1⟩ := is_v u1
  obtain rfl : w1 = (.int i1) := Option.some.inj ei1
  obtain ⟨i2, ei2⟩ := isL_v u2
  obtain rfl : w2 = (.long i2) := Option.some.inj ei2
  obtain ⟨i3, ei3⟩ := isL_v u3
  obtain rfl : w3 = (.long i3) := Option.some.inj ei3
  obtain ⟨i4, ei4⟩ := isL_v u4
  obtain rfl : w4 = (.long i4) := Option.some.inj ei4
  obtain ⟨i5, ei5⟩ := isL_v q5
  obtain rfl : w5 = (.long i5) := Option.some.inj ei5
  obtain ⟨cs, S1, hcs⟩ := own_compact (Cond.before_iff.mp (hsets _ (List.mem_of_getElem? (i := 1) rfl))) (Cond.before_iff.mp (hsets _ (List.mem_of_getElem? (i := 2) rfl))) (hsets _ (List.mem_of_getElem? (i := 0) rfl))
  obtain ⟨n, o, h1, h2, h3, _, L, rfl, ⟨rfl, N⟩, hq⟩ := rm0 l s _ hw tables_1 i0 i1 i2 i3 i4 i5 cs s.heap s.heap.size (Nat.le_refl _) S1 hcs p e ha hc hk s m _ below hf ((Spec.applies_iff_loose hf).mp happ).1 ⟨rfl, State.Warmed39.refl s, rfl⟩ trivial
  refine ⟨n, _, h1, h2, h3, hpost _ _ _ _ _ _ ⟨Cond.after_iff.mpr rfl, Cond.after_iff.mpr (eq_i res_at (Term.int_eval (1)) rfl), trivial⟩ ⟨hq.1, hq.2.1, (hq.2.2.sift fun y hy => Or.inr (N y hy)).mono (by decide) (by decide)⟩⟩
theorem main_1_1 : Claimed_1_1 := comes_1 fun _ _ _ _ _ _ h hF => ⟨h.1, hF⟩
theorem main_1_2 : Claimed_1_2 := comes_1 fun _ _ _ _ _ _ h hF => ⟨h.2.1, hF⟩
end Jvm.Pilot.@@N@@
namespace Jvm.Pilot.@@N@@
open Jvm Jvm.ClassFile Sem Op Lib Jvm.Free Jvm.Stand Jvm.Pilot.@@N@@.Jvm.D
/-! MADE BY PROGRAM (witnessworld.py) out of the Statement's table words and the real class files: 20 classes; the members and pool entries that the words name. The judged class is class 1, her method 1. -/
namespace start1
open Jvm.ClassFile
def u (s : String) : CpInfo := .utf8 (stringToUtf16 s)
/-- a pool by its gaps: so many unusable entries, then the entry; so many at the end -/
def gap : Nat → List CpInfo → List CpInfo
  | 0, r => r
  | n + 1, r => .unusable :: gap n r
def poolList (es : List (Nat × CpInfo)) (last : Nat) : List CpInfo := es.foldr (fun e r => gap e.1 (e.2 :: r)) (gap last [])
def pool (es : List (Nat × CpInfo)) (last : Nat) : Array CpInfo := ⟨poolList es last⟩
def fileOf (pool : Array CpInfo) (this : Nat) (attrs : Array Attribute := #[]) (ms : Array MethodInfo := #[]) (fl : Nat := 33) (sup : Nat := 0) (ifs : Array Nat := #[]) (fds : Array FieldInfo := #[]) : ClassFile where
  minorVersion := 0
  majorVersion := 65
  constantPool := pool
  accessFlags := fl
  thisClass := this
  superClass := sup
  interfaces := ifs
  fields := fds
  methods := ms
  attributes := attrs
def plain (name : String) (sup : Option ClassId) : Class where
  name := name
  kind := .ordinary
  loader := none
  accessFlags := 33
  super := sup
  interfaces := #[]
  cf := none
  fields := #[]
  methods := #[]
  instanceTypes := #[]
  staticTypes := #[]
  resolved := #[]
  callSites := []
  init := .initialized
  statics := none
  mirror := none

def pool0 : Array CpInfo := pool [(5, u "<init>"), (0, u "()V"), (1, .class_ 10), (1, u "java/lang/Object")] 113

def k0c0 : Code := { maxStack := 0, maxLocals := 1, code := object_method_1_code, exceptionTable := #[], attributes := #[] }
def k0m0 : Method := { name := "<init>", desc := "()V", sig := { parameters := [], returnType := none }, accessFlags := 1, code := some k0c0 }
/-- java/lang/Object -/
def k0 : Class := { plain "java/lang/Object" none with
  accessFlags := 33
  interfaces := #[]
  cf := some (fileOf pool0 8 #[] #[{ accessFlags := 1, nameIndex := 5, descriptorIndex := 6, attributes := #[] }] 33 0 #[] #[])
  fields := #[]
  methods := #[k0m0]
  instanceTypes := #[]
  staticTypes := #[]
  resolved := Array.replicate 124 none
  statics := none }

def pool1 : Array CpInfo := pool [(2, .class_ 4), (1, u "java/lang/Object"), (0, u "<init>"), (0, u "()V"), (0, .class_ 8), (0, u "java/lang/String"), (0, .methodref 7 10), (0, .nameAndType 5 11), (0, u "([C)V"), (0, .methodref 7 13), (0, .nameAndType 14 15), (0, u "valueOf"), (0, u "(C)Ljava/lang/String;"), (0, .class_ 17), (0, u "com/example/tender_parcel/tenderparcel/TarReader$Entry"), (0, .methodref 16 19), (0, .nameAndType 5 20), (0, u "(Ljava/lang/String;BLjava/lang/String;JJJJ)V"), (0, .methodref 16 22), (0, .nameAndType 23 24), (0, u "isSymbolicLink"), (0, u "()Z"), (0, .methodref 16 26), (0, .nameAndType 27 24), (0, u "isHardLink"), (0, .methodref 16 29), (0, .nameAndType 30 24), (0, u "isDirectory"), (0, .methodref 16 32), (0, .nameAndType 33 24), (0, u "isRegular"), (0, .class_ 35), (0, u "com/example/tender_parcel/tenderparcel/EntryIsSymbolicLinkPinLaw"), (2, u "law"), (0, u "(IIJJJJ)Z")] 9

def k1m0 : Method := { name := "<init>", desc := "()V", sig := { parameters := [], returnType := none }, accessFlags := 2, code := none }
def k1c1 : Code := { maxStack := 13, maxLocals := 17, code := code, exceptionTable := #[], attributes := #[] }
def k1m1 : Method := { name := "law", desc := "(IIJJJJ)Z", sig := { parameters := [.int, .int, .long, .long, .long, .long], returnType := some .boolean }, accessFlags := 9, code := some k1c1 }
/-- com/example/tender_parcel/tenderparcel/EntryIsSymbolicLinkPinLaw -/
def k1 : Class := { plain "com/example/tender_parcel/tenderparcel/EntryIsSymbolicLinkPinLaw" (some 0) with
  accessFlags := 49
  interfaces := #[]
  cf := some (fileOf pool1 34 #[] #[{ accessFlags := 2, nameIndex := 5, descriptorIndex := 6, attributes := #[] }, { accessFlags := 9, nameIndex := 38, descriptorIndex := 39, attributes := #[] }] 49 2 #[] #[])
  fields := #[]
  methods := #[k1m0, k1m1]
  instanceTypes := #[]
  staticTypes := #[]
  resolved := Array.replicate 49 none
  statics := none }

def pool2 : Array CpInfo := pool [(1, .class_ 2), (0, u "java/io/Serializable"), (0, .class_ 4), (0, u "java/lang/Object")] 2

/-- java/io/Serializable -/
def k2 : Class := { plain "java/io/Serializable" (some 0) with
  accessFlags := 1537
  interfaces := #[]
  cf := some (fileOf pool2 1 #[] #[] 1537 3 #[] #[])
  fields := #[]
  methods := #[]
  instanceTypes := #[]
  staticTypes := #[]
  resolved := Array.replicate 7 none
  statics := none }

def pool3 : Array CpInfo := pool [(1, .class_ 2), (0, u "java/lang/Comparable"), (0, .class_ 4), (0, u "java/lang/Object")] 7

/-- java/lang/Comparable -/
def k3 : Class := { plain "java/lang/Comparable" (some 0) with
  accessFlags := 1537
  interfaces := #[]
  cf := some (fileOf pool3 1 #[] #[] 1537 3 #[] #[])
  fields := #[]
  methods := #[]
  instanceTypes := #[]
  staticTypes := #[]
  resolved := Array.replicate 12 none
  statics := none }

def pool4 : Array CpInfo := pool [(2, .class_ 4), (1, u "java/lang/CharSequence"), (42, .class_ 48), (0, u "java/lang/CharSequence$1CodePointIterator"), (10, .class_ 60), (0, u "java/lang/CharSequence$1CharIterator"), (5, .class_ 67), (0, u "java/lang/Object")] 63

/-- java/lang/CharSequence -/
def k4 : Class := { plain "java/lang/CharSequence" (some 0) with
  accessFlags := 1537
  interfaces := #[]
  cf := some (fileOf pool4 2 #[.nestMembers #[47, 59]] #[] 1537 66 #[] #[])
  fields := #[]
  methods := #[]
  instanceTypes := #[]
  staticTypes := #[]
  resolved := Array.replicate 131 none
  statics := none }

def pool5 : Array CpInfo := pool [(1, .class_ 2), (0, u "java/lang/constant/Constable"), (0, .class_ 4), (0, u "java/lang/Object")] 6

/-- java/lang/constant/Constable -/
def k5 : Class := { plain "java/lang/constant/Constable" (some 0) with
  accessFlags := 1537
  interfaces := #[]
  cf := some (fileOf pool5 1 #[] #[] 1537 3 #[] #[])
  fields := #[]
  methods := #[]
  instanceTypes := #[]
  staticTypes := #[]
  resolved := Array.replicate 11 none
  statics := none }

def pool6 : Array CpInfo := pool [(1, .class_ 2), (0, u "java/lang/constant/ConstantDesc"), (0, .class_ 4), (0, u "java/lang/Object")] 32

/-- java/lang/constant/ConstantDesc -/
def k6 : Class := { plain "java/lang/constant/ConstantDesc" (some 0) with
  accessFlags := 1537
  interfaces := #[]
  cf := some (fileOf pool6 1 #[] #[] 1537 3 #[] #[])
  fields := #[]
  methods := #[]
  instanceTypes := #[]
  staticTypes := #[]
  resolved := Array.replicate 37 none
  statics := none }

def pool7 : Array CpInfo := pool [(1, .methodref 2 3), (0, .class_ 4), (0, .nameAndType 5 6), (0, u "java/lang/Object"), (0, u "<init>"), (0, u "()V"), (2, .fieldref 10 11), (0, .class_ 12), (0, .nameAndType 13 14), (0, u "java/lang/String"), (0, u "value"), (0, u "[B"), (0, .fieldref 10 16), (0, .nameAndType 17 18), (0, u "coder"), (0, u "B"), (2, u "hash"), (0, u "I"), (2, u "hashIsZero"), (0, u "Z"), (0, .methodref 10 28), (0, .nameAndType 5 29), (0, u "([CIILjava/lang/Void;)V"), (8, .fieldref 10 39), (0, .nameAndType 40 26), (0, u "COMPACT_STRINGS"), (1, .class_ 44), (1, u "java/lang/StringUTF16"), (0, u "compress"), (1, .methodref 42 48), (0, .nameAndType 49 50), (0, u "coderFromArrayLen"), (0, u "([BI)B"), (2, u "toBytes"), (53, .class_ 109), (1, u "java/lang/StringLatin1"), (67, .methodref 42 178), (0, .nameAndType 45 179), (0, u "([CII)[B"), (29, .methodref 10 210), (0, .nameAndType 5 211), (0, u "([BB)V"), (157, u "(C)Z"), (205, .class_ 576), (0, u "java/lang/CharSequence"), (22, u "CASE_INSENSITIVE_ORDER"), (0, u "Ljava/util/Comparator;"), (181, u "valueOf"), (0, u "(C)Ljava/lang/String;"), (226, u "([C)V"), (4, .methodref 107 1016), (0, .nameAndType 1017 369), (0, u "canEncode"), (0, .methodref 107 1019), (0, .nameAndType 53 1020), (0, u "(C)[B"), (80, u "serialPersistentFields"), (0, u "[Ljava/io/ObjectStreamField;"), (0, .class_ 1104), (0, u "java/lang/String$CaseInsensitiveComparator"), (1, .class_ 1107), (0, u "java/io/Serializable"), (0, .class_ 1109), (0, u "java/lang/Comparable"), (0, .class_ 1111), (0, u "java/lang/constant/Constable"), (0, .class_ 1113), (0, u "java/lang/constant/ConstantDesc"), (2, u "serialVersionUID"), (0, u "J"), (3, u "REPL"), (0, u "C"), (2, u "LATIN1"), (1, u "UTF16")] 323

def k7m0 : Method := { name := "<init>", desc := "()V", sig := { parameters := [], returnType := none }, accessFlags := 1, code := none }
def k7c1 : Code := { maxStack := 5, maxLocals := 2, code := jdk_42_method_3_code, exceptionTable := #[], attributes := #[] }
def k7m1 : Method := { name := "<init>", desc := "([C)V", sig := { parameters := [(.array .char)], returnType := none }, accessFlags := 1, code := some k7c1 }
def k7c2 : Code := { maxStack := 4, maxLocals := 1, code := jdk_42_method_139_code, exceptionTable := #[], attributes := #[] }
def k7m2 : Method := { name := "valueOf", desc := "(C)Ljava/lang/String;", sig := { parameters := [.char], returnType := some (.object "java/lang/String") }, accessFlags := 9, code := some k7c2 }
def k7c3 : Code := { maxStack := 4, maxLocals := 6, code := jdk_42_method_149_code, exceptionTable := #[], attributes := #[] }
def k7m3 : Method := { name := "<init>", desc := "([CIILjava/lang/Void;)V", sig := { parameters := [(.array .char), .int, .int, (.object "java/lang/Void")], returnType := none }, accessFlags := 2, code := some k7c3 }
def k7c4 : Code := { maxStack := 2, maxLocals := 3, code := jdk_42_method_151_code, exceptionTable := #[], attributes := #[] }
def k7m4 : Method := { name := "<init>", desc := "([BB)V", sig := { parameters := [(.array .byte), .byte], returnType := none }, accessFlags := 0, code := some k7c4 }
/-- java/lang/String -/
def k7 : Class := { plain "java/lang/String" (some 0) with
  accessFlags := 49
  interfaces := #[2, 3, 4, 5, 6]
  cf := some (fileOf pool7 10 #[.nestMembers #[1103]] #[{ accessFlags := 1, nameIndex := 5, descriptorIndex := 6, attributes := #[] }, { accessFlags := 1, nameIndex := 5, descriptorIndex := 1010, attributes := #[] }, { accessFlags := 9, nameIndex := 782, descriptorIndex := 783, attributes := #[] }, { accessFlags := 2, nameIndex := 5, descriptorIndex := 29, attributes := #[] }, { accessFlags := 0, nameIndex := 5, descriptorIndex := 211, attributes := #[] }] 49 2 #[1106, 1108, 575, 1110, 1112] #[{ accessFlags := 18, nameIndex := 13, descriptorIndex := 14, attributes := #[] }, { accessFlags := 18, nameIndex := 17, descriptorIndex := 18, attributes := #[] }, { accessFlags := 2, nameIndex := 21, descriptorIndex := 22, attributes := #[] }, { accessFlags := 2, nameIndex := 25, descriptorIndex := 26, attributes := #[] }, { accessFlags := 26, nameIndex := 1116, descriptorIndex := 1117, attributes := #[] }, { accessFlags := 24, nameIndex := 40, descriptorIndex := 26, attributes := #[] }, { accessFlags := 26, nameIndex := 1101, descriptorIndex := 1102, attributes := #[] }, { accessFlags := 26, nameIndex := 1121, descriptorIndex := 1122, attributes := #[] }, { accessFlags := 25, nameIndex := 599, descriptorIndex := 600, attributes := #[] }, { accessFlags := 24, nameIndex := 1125, descriptorIndex := 18, attributes := #[] }, { accessFlags := 24, nameIndex := 1127, descriptorIndex := 18, attributes := #[] }])
  fields := #[{ name := "value", type := (.array .byte), accessFlags := 18, slot := 0, constantValue := 0 }, { name := "coder", type := .byte, accessFlags := 18, slot := 1, constantValue := 0 }, { name := "hash", type := .int, accessFlags := 2, slot := 2, constantValue := 0 }, { name := "hashIsZero", type := .boolean, accessFlags := 2, slot := 3, constantValue := 0 }, { name := "serialVersionUID", type := .long, accessFlags := 26, slot := 0, constantValue := 0 }, { name := "COMPACT_STRINGS", type := .boolean, accessFlags := 24, slot := 1, constantValue := 0 }, { name := "serialPersistentFields", type := (.array (.object "java/io/ObjectStreamField")), accessFlags := 26, slot := 2, constantValue := 0 }, { name := "REPL", type := .char, accessFlags := 26, slot := 3, constantValue := 0 }, { name := "CASE_INSENSITIVE_ORDER", type := (.object "java/util/Comparator"), accessFlags := 25, slot := 4, constantValue := 0 }, { name := "LATIN1", type := .byte, accessFlags := 24, slot := 5, constantValue := 0 }, { name := "UTF16", type := .byte, accessFlags := 24, slot := 6, constantValue := 0 }]
  methods := #[k7m0, k7m1, k7m2, k7m3, k7m4]
  instanceTypes := #[(.array .byte), .byte, .int, .boolean]
  staticTypes := #[.long, .boolean, (.array (.object "java/io/ObjectStreamField")), .char, (.object "java/util/Comparator"), .byte, .byte]
  resolved := Array.replicate 1451 none
  statics := some 0 }

def pool8 : Array CpInfo := pool [(6, .class_ 8), (1, u "java/lang/Object"), (0, u "<init>"), (0, u "()V"), (1, .class_ 14), (1, u "java/lang/StringUTF16"), (31, u "$assertionsDisabled"), (0, u "Z"), (13, u "HI_BYTE_SHIFT"), (0, u "I"), (2, u "LO_BYTE_SHIFT"), (49, .methodref 12 116), (0, .nameAndType 117 118), (0, u "compress"), (0, u "([CI[BII)I"), (3, u "([CII)[B"), (138, u "coderFromArrayLen"), (0, u "([BI)B"), (106, .class_ 371), (1, u "java/lang/StringUTF16$LinesSpliterator"), (58, u "MAX_LENGTH"), (196, .class_ 628), (0, u "java/lang/StringUTF16$CodePointsSpliterator"), (0, .class_ 630), (0, u "java/lang/StringUTF16$CharsSpliterator")] 4

def k8m0 : Method := { name := "<init>", desc := "()V", sig := { parameters := [], returnType := none }, accessFlags := 0, code := none }
def k8c1 : Code := { maxStack := 2, maxLocals := 2, code := jdk_52_method_15_code, exceptionTable := #[], attributes := #[] }
def k8m1 : Method := { name := "coderFromArrayLen", desc := "([BI)B", sig := { parameters := [(.array .byte), .int], returnType := some .byte }, accessFlags := 8, code := some k8c1 }
def k8c2 : Code := { maxStack := 5, maxLocals := 6, code := jdk_52_method_16_code, exceptionTable := #[], attributes := #[] }
def k8m2 : Method := { name := "compress", desc := "([CII)[B", sig := { parameters := [(.array .char), .int, .int], returnType := some (.array .byte) }, accessFlags := 9, code := some k8c2 }
def k8c3 : Code := { maxStack := 3, maxLocals := 7, code := jdk_52_method_21_code, exceptionTable := #[], attributes := #[] }
def k8m3 : Method := { name := "compress", desc := "([CI[BII)I", sig := { parameters := [(.array .char), .int, (.array .byte), .int, .int], returnType := some .int }, accessFlags := 9, code := some k8c3 }
/-- java/lang/StringUTF16 -/
def k8 : Class := { plain "java/lang/StringUTF16" (some 0) with
  accessFlags := 48
  interfaces := #[]
  cf := some (fileOf pool8 12 #[.nestMembers #[627, 629, 369]] #[{ accessFlags := 0, nameIndex := 9, descriptorIndex := 10, attributes := #[] }, { accessFlags := 8, nameIndex := 261, descriptorIndex := 262, attributes := #[] }, { accessFlags := 9, nameIndex := 117, descriptorIndex := 122, attributes := #[] }, { accessFlags := 9, nameIndex := 117, descriptorIndex := 118, attributes := #[] }] 48 6 #[] #[{ accessFlags := 26, nameIndex := 61, descriptorIndex := 62, attributes := #[] }, { accessFlags := 26, nameIndex := 65, descriptorIndex := 62, attributes := #[] }, { accessFlags := 24, nameIndex := 430, descriptorIndex := 62, attributes := #[] }, { accessFlags := 4120, nameIndex := 46, descriptorIndex := 47, attributes := #[] }])
  fields := #[{ name := "HI_BYTE_SHIFT", type := .int, accessFlags := 26, slot := 0, constantValue := 0 }, { name := "LO_BYTE_SHIFT", type := .int, accessFlags := 26, slot := 1, constantValue := 0 }, { name := "MAX_LENGTH", type := .int, accessFlags := 24, slot := 2, constantValue := 0 }, { name := "$assertionsDisabled", type := .boolean, accessFlags := 4120, slot := 3, constantValue := 0 }]
  methods := #[k8m0, k8m1, k8m2, k8m3]
  instanceTypes := #[]
  staticTypes := #[.int, .int, .int, .boolean]
  resolved := Array.replicate 635 none
  statics := none }

def pool9 : Array CpInfo := pool [(4, .class_ 6), (1, u "java/lang/Object"), (0, u "<init>"), (0, u "()V"), (5, .class_ 16), (1, u "java/lang/StringLatin1"), (73, u "canEncode"), (14, u "(C)Z"), (15, u "$assertionsDisabled"), (0, u "Z"), (98, .class_ 223), (1, u "java/lang/StringLatin1$LinesSpliterator"), (156, u "toBytes"), (1, u "(C)[B"), (7, .class_ 391), (0, u "java/lang/StringLatin1$CharsSpliterator")] 3

def k9m0 : Method := { name := "<init>", desc := "()V", sig := { parameters := [], returnType := none }, accessFlags := 0, code := none }
def k9c1 : Code := { maxStack := 2, maxLocals := 1, code := jdk_43_method_3_code, exceptionTable := #[], attributes := #[] }
def k9m1 : Method := { name := "canEncode", desc := "(C)Z", sig := { parameters := [.char], returnType := some .boolean }, accessFlags := 9, code := some k9c1 }
def k9c2 : Code := { maxStack := 4, maxLocals := 1, code := jdk_43_method_46_code, exceptionTable := #[], attributes := #[] }
def k9m2 : Method := { name := "toBytes", desc := "(C)[B", sig := { parameters := [.char], returnType := some (.array .byte) }, accessFlags := 9, code := some k9c2 }
/-- java/lang/StringLatin1 -/
def k9 : Class := { plain "java/lang/StringLatin1" (some 0) with
  accessFlags := 48
  interfaces := #[]
  cf := some (fileOf pool9 14 #[.nestMembers #[390, 221]] #[{ accessFlags := 0, nameIndex := 7, descriptorIndex := 8, attributes := #[] }, { accessFlags := 9, nameIndex := 90, descriptorIndex := 105, attributes := #[] }, { accessFlags := 9, nameIndex := 380, descriptorIndex := 382, attributes := #[] }] 48 4 #[] #[{ accessFlags := 4120, nameIndex := 121, descriptorIndex := 122, attributes := #[] }])
  fields := #[{ name := "$assertionsDisabled", type := .boolean, accessFlags := 4120, slot := 0, constantValue := 0 }]
  methods := #[k9m0, k9m1, k9m2]
  instanceTypes := #[]
  staticTypes := #[.boolean]
  resolved := Array.replicate 395 none
  statics := none }

def pool10 : Array CpInfo := pool [(1, .methodref 2 3), (0, .class_ 4), (0, .nameAndType 5 6), (0, u "java/lang/Object"), (0, u "<init>"), (0, u "()V"), (0, .class_ 8), (0, u "com/example/tender_parcel/tenderparcel/TarReader$Entry"), (0, .fieldref 7 10), (0, .nameAndType 11 12), (0, u "sparse"), (0, u "B"), (0, .fieldref 7 14), (0, .nameAndType 15 16), (0, u "name"), (0, u "Ljava/lang/String;"), (0, .fieldref 7 18), (0, .nameAndType 19 12), (0, u "type"), (0, .fieldref 7 21), (0, .nameAndType 22 16), (0, u "linkName"), (0, .fieldref 7 24), (0, .nameAndType 25 26), (0, u "size"), (0, u "J"), (0, .fieldref 7 28), (0, .nameAndType 29 26), (0, u "headers"), (0, .fieldref 7 31), (0, .nameAndType 32 26), (0, u "data"), (0, .fieldref 7 34), (0, .nameAndType 35 26), (0, u "stored"), (0, .fieldref 7 37), (0, .nameAndType 38 26), (0, u "areaLength"), (2, u "end"), (2, u "holes"), (2, u "whole"), (0, u "Z"), (8, .methodref 7 58), (0, .nameAndType 59 60), (0, u "isDirectory"), (0, u "()Z"), (0, u "NOT_SPARSE"), (2, u "GNU"), (1, u "PAX_0"), (1, u "PAX_1"), (1, u "mapAt"), (0, u "mapText"), (0, u "(Ljava/lang/String;BLjava/lang/String;JJJJ)V"), (14, u "isSymbolicLink"), (0, u "isHardLink"), (0, u "isRegular"), (3, .class_ 94), (0, u "com/example/tender_parcel/tenderparcel/TarReader")] 2

def k10c0 : Code := { maxStack := 3, maxLocals := 12, code := prog_107_method_1_code, exceptionTable := #[], attributes := #[] }
def k10m0 : Method := { name := "<init>", desc := "(Ljava/lang/String;BLjava/lang/String;JJJJ)V", sig := { parameters := [(.object "java/lang/String"), .byte, (.object "java/lang/String"), .long, .long, .long, .long], returnType := none }, accessFlags := 0, code := some k10c0 }
def k10c1 : Code := { maxStack := 2, maxLocals := 2, code := prog_107_method_11_code, exceptionTable := #[], attributes := #[] }
def k10m1 : Method := { name := "isDirectory", desc := "()Z", sig := { parameters := [], returnType := some .boolean }, accessFlags := 0, code := some k10c1 }
def k10c2 : Code := { maxStack := 2, maxLocals := 1, code := prog_107_method_12_code, exceptionTable := #[], attributes := #[] }
def k10m2 : Method := { name := "isSymbolicLink", desc := "()Z", sig := { parameters := [], returnType := some .boolean }, accessFlags := 0, code := some k10c2 }
def k10c3 : Code := { maxStack := 2, maxLocals := 1, code := prog_107_method_13_code, exceptionTable := #[], attributes := #[] }
def k10m3 : Method := { name := "isHardLink", desc := "()Z", sig := { parameters := [], returnType := some .boolean }, accessFlags := 0, code := some k10c3 }
def k10c4 : Code := { maxStack := 2, maxLocals := 2, code := prog_107_method_14_code, exceptionTable := #[], attributes := #[] }
def k10m4 : Method := { name := "isRegular", desc := "()Z", sig := { parameters := [], returnType := some .boolean }, accessFlags := 0, code := some k10c4 }
/-- com/example/tender_parcel/tenderparcel/TarReader$Entry -/
def k10 : Class := { plain "com/example/tender_parcel/tenderparcel/TarReader$Entry" (some 0) with
  accessFlags := 32
  interfaces := #[]
  cf := some (fileOf pool10 7 #[.nestHost 93] #[{ accessFlags := 0, nameIndex := 5, descriptorIndex := 72, attributes := #[] }, { accessFlags := 0, nameIndex := 59, descriptorIndex := 60, attributes := #[] }, { accessFlags := 0, nameIndex := 87, descriptorIndex := 60, attributes := #[] }, { accessFlags := 0, nameIndex := 88, descriptorIndex := 60, attributes := #[] }, { accessFlags := 0, nameIndex := 89, descriptorIndex := 60, attributes := #[] }] 32 2 #[] #[{ accessFlags := 26, nameIndex := 61, descriptorIndex := 12, attributes := #[] }, { accessFlags := 26, nameIndex := 64, descriptorIndex := 12, attributes := #[] }, { accessFlags := 26, nameIndex := 66, descriptorIndex := 12, attributes := #[] }, { accessFlags := 26, nameIndex := 68, descriptorIndex := 12, attributes := #[] }, { accessFlags := 18, nameIndex := 15, descriptorIndex := 16, attributes := #[] }, { accessFlags := 18, nameIndex := 19, descriptorIndex := 12, attributes := #[] }, { accessFlags := 18, nameIndex := 22, descriptorIndex := 16, attributes := #[] }, { accessFlags := 18, nameIndex := 29, descriptorIndex := 26, attributes := #[] }, { accessFlags := 18, nameIndex := 38, descriptorIndex := 26, attributes := #[] }, { accessFlags := 2, nameIndex := 25, descriptorIndex := 26, attributes := #[] }, { accessFlags := 2, nameIndex := 32, descriptorIndex := 26, attributes := #[] }, { accessFlags := 2, nameIndex := 35, descriptorIndex := 26, attributes := #[] }, { accessFlags := 2, nameIndex := 41, descriptorIndex := 26, attributes := #[] }, { accessFlags := 2, nameIndex := 44, descriptorIndex := 26, attributes := #[] }, { accessFlags := 2, nameIndex := 47, descriptorIndex := 48, attributes := #[] }, { accessFlags := 2, nameIndex := 11, descriptorIndex := 12, attributes := #[] }, { accessFlags := 2, nameIndex := 70, descriptorIndex := 26, attributes := #[] }, { accessFlags := 2, nameIndex := 71, descriptorIndex := 16, attributes := #[] }])
  fields := #[{ name := "NOT_SPARSE", type := .byte, accessFlags := 26, slot := 0, constantValue := 0 }, { name := "GNU", type := .byte, accessFlags := 26, slot := 1, constantValue := 0 }, { name := "PAX_0", type := .byte, accessFlags := 26, slot := 2, constantValue := 0 }, { name := "PAX_1", type := .byte, accessFlags := 26, slot := 3, constantValue := 0 }, { name := "name", type := (.object "java/lang/String"), accessFlags := 18, slot := 0, constantValue := 0 }, { name := "type", type := .byte, accessFlags := 18, slot := 1, constantValue := 0 }, { name := "linkName", type := (.object "java/lang/String"), accessFlags := 18, slot := 2, constantValue := 0 }, { name := "headers", type := .long, accessFlags := 18, slot := 3, constantValue := 0 }, { name := "areaLength", type := .long, accessFlags := 18, slot := 4, constantValue := 0 }, { name := "size", type := .long, accessFlags := 2, slot := 5, constantValue := 0 }, { name := "data", type := .long, accessFlags := 2, slot := 6, constantValue := 0 }, { name := "stored", type := .long, accessFlags := 2, slot := 7, constantValue := 0 }, { name := "end", type := .long, accessFlags := 2, slot := 8, constantValue := 0 }, { name := "holes", type := .long, accessFlags := 2, slot := 9, constantValue := 0 }, { name := "whole", type := .boolean, accessFlags := 2, slot := 10, constantValue := 0 }, { name := "sparse", type := .byte, accessFlags := 2, slot := 11, constantValue := 0 }, { name := "mapAt", type := .long, accessFlags := 2, slot := 12, constantValue := 0 }, { name := "mapText", type := (.object "java/lang/String"), accessFlags := 2, slot := 13, constantValue := 0 }]
  methods := #[k10m0, k10m1, k10m2, k10m3, k10m4]
  instanceTypes := #[(.object "java/lang/String"), .byte, (.object "java/lang/String"), .long, .long, .long, .long, .long, .long, .long, .boolean, .byte, .long, (.object "java/lang/String")]
  staticTypes := #[.byte, .byte, .byte, .byte]
  resolved := Array.replicate 97 none
  statics := none }

def pool11 : Array CpInfo := pool [(2, .class_ 4), (1, u "java/lang/Object"), (0, u "<init>"), (0, u "()V"), (17, .class_ 26), (1, u "jdk/internal/util/Preconditions"), (28, .class_ 56), (0, u "jdk/internal/util/Preconditions$4"), (57, .class_ 115), (0, u "jdk/internal/util/Preconditions$1"), (7, u "SIOOBE_FORMATTER"), (0, u "Ljava/util/function/BiFunction;"), (0, .class_ 126), (0, u "jdk/internal/util/Preconditions$2"), (3, u "AIOOBE_FORMATTER"), (0, .class_ 132), (0, u "jdk/internal/util/Preconditions$3"), (3, u "IOOBE_FORMATTER")] 57

def k11m0 : Method := { name := "<init>", desc := "()V", sig := { parameters := [], returnType := none }, accessFlags := 1, code := none }
/-- jdk/internal/util/Preconditions -/
def k11 : Class := { plain "jdk/internal/util/Preconditions" (some 0) with
  accessFlags := 33
  interfaces := #[]
  cf := some (fileOf pool11 24 #[.nestMembers #[55, 131, 125, 114]] #[{ accessFlags := 1, nameIndex := 5, descriptorIndex := 6, attributes := #[] }] 33 2 #[] #[{ accessFlags := 25, nameIndex := 123, descriptorIndex := 124, attributes := #[] }, { accessFlags := 25, nameIndex := 130, descriptorIndex := 124, attributes := #[] }, { accessFlags := 25, nameIndex := 136, descriptorIndex := 124, attributes := #[] }])
  fields := #[{ name := "SIOOBE_FORMATTER", type := (.object "java/util/function/BiFunction"), accessFlags := 25, slot := 0, constantValue := 0 }, { name := "AIOOBE_FORMATTER", type := (.object "java/util/function/BiFunction"), accessFlags := 25, slot := 1, constantValue := 0 }, { name := "IOOBE_FORMATTER", type := (.object "java/util/function/BiFunction"), accessFlags := 25, slot := 2, constantValue := 0 }]
  methods := #[k11m0]
  instanceTypes := #[]
  staticTypes := #[(.object "java/util/function/BiFunction"), (.object "java/util/function/BiFunction"), (.object "java/util/function/BiFunction")]
  resolved := Array.replicate 194 none
  statics := some 1 }

def pool12 : Array CpInfo := pool [(9, u "<init>"), (6, .class_ 18), (1, u "java/lang/Object"), (0, u "()V"), (1, .class_ 23), (1, u "jdk/internal/util/ArraysSupport"), (0, u "LOG2_ARRAY_LONG_INDEX_SCALE"), (0, u "I"), (2, u "U"), (0, u "Ljdk/internal/misc/Unsafe;"), (8, u "BIG_ENDIAN"), (0, u "Z"), (8, u "LOG2_BYTE_BIT_SIZE"), (4, u "LOG2_ARRAY_INT_INDEX_SCALE"), (54, u "JLA"), (0, u "Ljdk/internal/access/JavaLangAccess;"), (11, u "LOG2_ARRAY_BOOLEAN_INDEX_SCALE"), (9, u "LOG2_ARRAY_BYTE_INDEX_SCALE"), (5, u "LOG2_ARRAY_CHAR_INDEX_SCALE"), (5, u "LOG2_ARRAY_SHORT_INDEX_SCALE"), (18, u "LOG2_ARRAY_FLOAT_INDEX_SCALE"), (24, u "LOG2_ARRAY_DOUBLE_INDEX_SCALE"), (89, u "T_BOOLEAN"), (2, u "T_CHAR"), (1, u "T_FLOAT"), (1, u "T_DOUBLE"), (1, u "T_BYTE"), (1, u "T_SHORT"), (1, u "T_INT"), (1, u "T_LONG"), (1, u "SOFT_MAX_ARRAY_LENGTH")] 83

def k12m0 : Method := { name := "<init>", desc := "()V", sig := { parameters := [], returnType := none }, accessFlags := 2, code := none }
/-- jdk/internal/util/ArraysSupport -/
def k12 : Class := { plain "jdk/internal/util/ArraysSupport" (some 0) with
  accessFlags := 33
  interfaces := #[]
  cf := some (fileOf pool12 21 #[] #[{ accessFlags := 2, nameIndex := 9, descriptorIndex := 19, attributes := #[] }] 33 16 #[] #[{ accessFlags := 24, nameIndex := 28, descriptorIndex := 29, attributes := #[] }, { accessFlags := 26, nameIndex := 38, descriptorIndex := 39, attributes := #[] }, { accessFlags := 25, nameIndex := 121, descriptorIndex := 25, attributes := #[] }, { accessFlags := 25, nameIndex := 131, descriptorIndex := 25, attributes := #[] }, { accessFlags := 25, nameIndex := 137, descriptorIndex := 25, attributes := #[] }, { accessFlags := 25, nameIndex := 143, descriptorIndex := 25, attributes := #[] }, { accessFlags := 25, nameIndex := 53, descriptorIndex := 25, attributes := #[] }, { accessFlags := 25, nameIndex := 24, descriptorIndex := 25, attributes := #[] }, { accessFlags := 25, nameIndex := 162, descriptorIndex := 25, attributes := #[] }, { accessFlags := 25, nameIndex := 187, descriptorIndex := 25, attributes := #[] }, { accessFlags := 26, nameIndex := 48, descriptorIndex := 25, attributes := #[] }, { accessFlags := 25, nameIndex := 277, descriptorIndex := 25, attributes := #[] }, { accessFlags := 25, nameIndex := 280, descriptorIndex := 25, attributes := #[] }, { accessFlags := 25, nameIndex := 282, descriptorIndex := 25, attributes := #[] }, { accessFlags := 25, nameIndex := 284, descriptorIndex := 25, attributes := #[] }, { accessFlags := 25, nameIndex := 286, descriptorIndex := 25, attributes := #[] }, { accessFlags := 25, nameIndex := 288, descriptorIndex := 25, attributes := #[] }, { accessFlags := 25, nameIndex := 290, descriptorIndex := 25, attributes := #[] }, { accessFlags := 25, nameIndex := 292, descriptorIndex := 25, attributes := #[] }, { accessFlags := 26, nameIndex := 108, descriptorIndex := 109, attributes := #[] }, { accessFlags := 25, nameIndex := 294, descriptorIndex := 25, attributes := #[] }])
  fields := #[{ name := "U", type := (.object "jdk/internal/misc/Unsafe"), accessFlags := 24, slot := 0, constantValue := 0 }, { name := "BIG_ENDIAN", type := .boolean, accessFlags := 26, slot := 1, constantValue := 0 }, { name := "LOG2_ARRAY_BOOLEAN_INDEX_SCALE", type := .int, accessFlags := 25, slot := 2, constantValue := 0 }, { name := "LOG2_ARRAY_BYTE_INDEX_SCALE", type := .int, accessFlags := 25, slot := 3, constantValue := 0 }, { name := "LOG2_ARRAY_CHAR_INDEX_SCALE", type := .int, accessFlags := 25, slot := 4, constantValue := 0 }, { name := "LOG2_ARRAY_SHORT_INDEX_SCALE", type := .int, accessFlags := 25, slot := 5, constantValue := 0 }, { name := "LOG2_ARRAY_INT_INDEX_SCALE", type := .int, accessFlags := 25, slot := 6, constantValue := 0 }, { name := "LOG2_ARRAY_LONG_INDEX_SCALE", type := .int, accessFlags := 25, slot := 7, constantValue := 0 }, { name := "LOG2_ARRAY_FLOAT_INDEX_SCALE", type := .int, accessFlags := 25, slot := 8, constantValue := 0 }, { name := "LOG2_ARRAY_DOUBLE_INDEX_SCALE", type := .int, accessFlags := 25, slot := 9, constantValue := 0 }, { name := "LOG2_BYTE_BIT_SIZE", type := .int, accessFlags := 26, slot := 10, constantValue := 0 }, { name := "T_BOOLEAN", type := .int, accessFlags := 25, slot := 11, constantValue := 0 }, { name := "T_CHAR", type := .int, accessFlags := 25, slot := 12, constantValue := 0 }, { name := "T_FLOAT", type := .int, accessFlags := 25, slot := 13, constantValue := 0 }, { name := "T_DOUBLE", type := .int, accessFlags := 25, slot := 14, constantValue := 0 }, { name := "T_BYTE", type := .int, accessFlags := 25, slot := 15, constantValue := 0 }, { name := "T_SHORT", type := .int, accessFlags := 25, slot := 16, constantValue := 0 }, { name := "T_INT", type := .int, accessFlags := 25, slot := 17, constantValue := 0 }, { name := "T_LONG", type := .int, accessFlags := 25, slot := 18, constantValue := 0 }, { name := "JLA", type := (.object "jdk/internal/access/JavaLangAccess"), accessFlags := 26, slot := 19, constantValue := 0 }, { name := "SOFT_MAX_ARRAY_LENGTH", type := .int, accessFlags := 25, slot := 20, constantValue := 0 }]
  methods := #[k12m0]
  instanceTypes := #[]
  staticTypes := #[(.object "jdk/internal/misc/Unsafe"), .boolean, .int, .int, .int, .int, .int, .int, .int, .int, .int, .int, .int, .int, .int, .int, .int, .int, .int, (.object "jdk/internal/access/JavaLangAccess"), .int]
  resolved := Array.replicate 378 none
  statics := none }

def pool13 : Array CpInfo := pool [(1, u "java/lang/Cloneable"), (0, .class_ 1), (0, u "java/lang/Object"), (0, .class_ 3)] 3

/-- java/lang/Cloneable -/
def k13 : Class := { plain "java/lang/Cloneable" (some 0) with
  accessFlags := 1537
  interfaces := #[]
  cf := some (fileOf pool13 2 #[] #[] 1537 4 #[] #[])
  fields := #[]
  methods := #[]
  instanceTypes := #[]
  staticTypes := #[]
  resolved := Array.replicate 8 none
  statics := none }

/-- the primitive byte -/
def k14 : Class := { plain "byte" none with kind := .primitive 'B', accessFlags := 0x411 }
/-- [B -/
def k15 : Class := { plain "[B" (some 0) with kind := .array 14 .byte, interfaces := #[13, 2], accessFlags := 1041 }

/-- the primitive char -/
def k16 : Class := { plain "char" none with kind := .primitive 'C', accessFlags := 0x411 }
/-- [C -/
def k17 : Class := { plain "[C" (some 0) with kind := .array 16 .char, interfaces := #[13, 2], accessFlags := 1041 }

/-- the primitive int -/
def k18 : Class := { plain "int" none with kind := .primitive 'I', accessFlags := 0x411 }
/-- [I -/
def k19 : Class := { plain "[I" (some 0) with kind := .array 18 .int, interfaces := #[13, 2], accessFlags := 1041 }

def heap : Heap := #[{ cls := 7, slots := #[.long 0, .int 1, .null, .int 0, .null, .int 0, .int 0], vm := .statics 7 },
  { cls := 11, slots := #[.null, .null, .null], vm := .statics 11 }]
def classes : Array Class := #[k0, k1, k2, k3, k4, k5, k6, k7, k8, k9, k10, k11, k12, k13, k14, k15, k16, k17, k18, k19]
def interned : List (Array UInt16 × Addr) := []
def slotsUsed : Nat := 10
def theMethod : MethodId := ⟨1, 1⟩
def args0 : Array Value := #[.int 5, .int 6, .long 1, .long 2, .long 3, .long 4]
def aboutOver (below : List Frame) : State where
  vm := { classes := classes, interned := interned.toArray }
  heap := heap
  slotsUsed := slotsUsed
  threads := #[{ frames := .invoking theMethod args0 :: below }]
def below0 : List Frame := [.native { method := ⟨0, 0⟩, args := #[] }]
def about1 : State := aboutOver below0
def p0 : Program := .bare "" "" ""
def e0 : Env := launch0.env 0 0 0
theorem w_frames : about1.frames = Frame.invoking theMethod args0 :: below0 := rfl
set_option maxRecDepth 65536 in
theorem w_args : argsFit about1.vm theMethod args0 = true := by decide +kernel
set_option maxRecDepth 65536 in
theorem w_heap : heapFits about1 = true := by decide +kernel
set_option maxRecDepth 65536 in
theorem w_runnable : about1.curStatus? = some .runnable := by decide +kernel
set_option maxRecDepth 65536 in
theorem w_alone : about1.alone = true := by decide +kernel
set_option maxRecDepth 65536 in
theorem w_named : about1.methodNamed? x = some theMethod := by decide +kernel
set_option maxRecDepth 65536 in
theorem w_hears : about1.hears theMethod below0 = true := by decide +kernel
set_option maxRecDepth 65536 in
theorem w_ripe : about1.ripe theMethod args0 below0 = true := by decide +kernel
theorem w_running : about1.status = .running := rfl
set_option maxRecDepth 65536 in
theorem w_room : about1.hasRoom e0.platform room_1 = true :=
  launch0.hasRoom_least _ room_1 (by decide +kernel) (by decide +kernel) (by decide +kernel) (by decide +kernel) (by decide +kernel) (by decide +kernel)
theorem allAtoms_all (ts : List Jvm.Cond) (a : Array Jvm.Value) (st : Jvm.State) : (allAtoms ts).before a st = ts.all (fun c => c.before a st) := by
  induction ts with
  | nil => rfl
  | cons c t ih =>
    show (Jvm.Cond.and c (allAtoms t)).before a st = _
    rw [Jvm.Cond.before_and, ih, List.all_cons]
def words1 : List Jvm.Cond := Jvm.Cond.code x code maxLocals ret :: tables_1
/-- a 'code' word, met by the world's own term for the bytes: nothing is compared byte by byte -/
theorem code_word {y : MethodName} {bytes : ByteArray} {mx : Nat} {rt : Option FieldType} {a : Array Value} {s : State} {m : MethodId} {meth : Method} {c : Code} (h1 : s.methodNamed? y = some m) (h2 : s.vm.method? m = some meth) (h3 : meth.code = some c) (h4 : c.code = bytes)
    (h5 : (c.maxLocals == mx && c.exceptionTable.isEmpty && decide (c.maxStack ≤ mostOperands) && decide (meth.sig.returnType = rt) && !meth.locks && decide (parseMethodDescriptor y.desc = some meth.sig)) = true) : (Jvm.Cond.code y bytes mx rt).before a s = true := by
  simp only [Bool.and_eq_true, beq_iff_eq, Bool.not_eq_true', decide_eq_true_eq] at h5
  obtain ⟨⟨⟨⟨⟨g1, g2⟩, g3⟩, g4⟩, g5⟩, g6⟩ := h5
  simp [Cond.before, Cond.holds, Cond.value, h1, h2, h3, h4, g1, g2, g3, g4, g5, g6]
def isCode : Jvm.Cond → Bool
  | .code _ _ _ _ => true
  | _ => false
theorem all_split {L : List Jvm.Cond} {P : Jvm.Cond → Bool} (h1 : L.all (fun c => isCode c || P c) = true) (h2 : ∀ c ∈ L.filter isCode, P c = true) : L.all P = true := by
  refine List.all_eq_true.mpr fun c hc => ?_
  have h := List.all_eq_true.mp h1 c hc
  rcases Bool.eq_false_or_eq_true (isCode c) with hi | hi
  · exact h2 c (List.mem_filter.mpr ⟨hc, hi⟩)
  · simpa [hi] using h
set_option maxRecDepth 65536 in
theorem w_c0 : (Jvm.Cond.code x code maxLocals ret).before args0 about1 = true := code_word (m := ⟨1, 1⟩) (meth := k1m1) (c := k1c1) (by decide +kernel) rfl rfl rfl (by decide +kernel)
set_option maxRecDepth 65536 in
theorem w_c1 : (Jvm.Cond.code ({ cls := "java/lang/String", name := "<init>", desc := "([C)V" } : Jvm.MethodName) jdk_42_method_3_code (2 : Nat) (Option.none : Option Jvm.ClassFile.FieldType)).before args0 about1 = true := code_word (m := ⟨7, 1⟩) (meth := k7m1) (c := k7c1) (by decide +kernel) rfl rfl rfl (by decide +kernel)
set_option maxRecDepth 65536 in
theorem w_c2 : (Jvm.Cond.code ({ cls := "java/lang/String", name := "<init>", desc := "([CIILjava/lang/Void;)V" } : Jvm.MethodName) jdk_42_method_149_code (6 : Nat) (Option.none : Option Jvm.ClassFile.FieldType)).before args0 about1 = true := code_word (m := ⟨7, 3⟩) (meth := k7m3) (c := k7c3) (by decide +kernel) rfl rfl rfl (by decide +kernel)
set_option maxRecDepth 65536 in
theorem w_c3 : (Jvm.Cond.code ({ cls := "java/lang/Object", name := "<init>", desc := "()V" } : Jvm.MethodName) object_method_1_code (1 : Nat) (Option.none : Option Jvm.ClassFile.FieldType)).before args0 about1 = true := code_word (m := ⟨0, 0⟩) (meth := k0m0) (c := k0c0) (by decide +kernel) rfl rfl rfl (by decide +kernel)
set_option maxRecDepth 65536 in
theorem w_c4 : (Jvm.Cond.code ({ cls := "java/lang/StringUTF16", name := "compress", desc := "([CII)[B" } : Jvm.MethodName) jdk_52_method_16_code (6 : Nat) (Option.some (Jvm.ClassFile.FieldType.array Jvm.ClassFile.FieldType.byte))).before args0 about1 = true := code_word (m := ⟨8, 2⟩) (meth := k8m2) (c := k8c2) (by decide +kernel) rfl rfl rfl (by decide +kernel)
set_option maxRecDepth 65536 in
theorem w_c5 : (Jvm.Cond.code ({ cls := "java/lang/StringUTF16", name := "compress", desc := "([CI[BII)I" } : Jvm.MethodName) jdk_52_method_21_code (7 : Nat) (Option.some Jvm.ClassFile.FieldType.int)).before args0 about1 = true := code_word (m := ⟨8, 3⟩) (meth := k8m3) (c := k8c3) (by decide +kernel) rfl rfl rfl (by decide +kernel)
set_option maxRecDepth 65536 in
theorem w_c6 : (Jvm.Cond.code ({ cls := "java/lang/StringUTF16", name := "coderFromArrayLen", desc := "([BI)B" } : Jvm.MethodName) jdk_52_method_15_code (2 : Nat) (Option.some Jvm.ClassFile.FieldType.byte)).before args0 about1 = true := code_word (m := ⟨8, 1⟩) (meth := k8m1) (c := k8c1) (by decide +kernel) rfl rfl rfl (by decide +kernel)
set_option maxRecDepth 65536 in
theorem w_c7 : (Jvm.Cond.code ({ cls := "java/lang/String", name := "valueOf", desc := "(C)Ljava/lang/String;" } : Jvm.MethodName) jdk_42_method_139_code (1 : Nat) (Option.some (Jvm.ClassFile.FieldType.object "java/lang/String"))).before args0 about1 = true := code_word (m := ⟨7, 2⟩) (meth := k7m2) (c := k7c2) (by decide +kernel) rfl rfl rfl (by decide +kernel)
set_option maxRecDepth 65536 in
theorem w_c8 : (Jvm.Cond.code ({ cls := "java/lang/StringLatin1", name := "canEncode", desc := "(C)Z" } : Jvm.MethodName) jdk_43_method_3_code (1 : Nat) (Option.some Jvm.ClassFile.FieldType.boolean)).before args0 about1 = true := code_word (m := ⟨9, 1⟩) (meth := k9m1) (c := k9c1) (by decide +kernel) rfl rfl rfl (by decide +kernel)
set_option maxRecDepth 65536 in
theorem w_c9 : (Jvm.Cond.code ({ cls := "java/lang/StringLatin1", name := "toBytes", desc := "(C)[B" } : Jvm.MethodName) jdk_43_method_46_code (1 : Nat) (Option.some (Jvm.ClassFile.FieldType.array Jvm.ClassFile.FieldType.byte))).before args0 about1 = true := code_word (m := ⟨9, 2⟩) (meth := k9m2) (c := k9c2) (by decide +kernel) rfl rfl rfl (by decide +kernel)
set_option maxRecDepth 65536 in
theorem w_c10 : (Jvm.Cond.code ({ cls := "java/lang/String", name := "<init>", desc := "([BB)V" } : Jvm.MethodName) jdk_42_method_151_code (3 : Nat) (Option.none : Option Jvm.ClassFile.FieldType)).before args0 about1 = true := code_word (m := ⟨7, 4⟩) (meth := k7m4) (c := k7c4) (by decide +kernel) rfl rfl rfl (by decide +kernel)
set_option maxRecDepth 65536 in
theorem w_c11 : (Jvm.Cond.code ({ cls := "com/example/tender_parcel/tenderparcel/TarReader$Entry", name := "<init>", desc := "(Ljava/lang/String;BLjava/lang/String;JJJJ)V" } : Jvm.MethodName) prog_107_method_1_code (12 : Nat) (Option.none : Option Jvm.ClassFile.FieldType)).before args0 about1 = true := code_word (m := ⟨10, 0⟩) (meth := k10m0) (c := k10c0) (by decide +kernel) rfl rfl rfl (by decide +kernel)
set_option maxRecDepth 65536 in
theorem w_c12 : (Jvm.Cond.code ({ cls := "com/example/tender_parcel/tenderparcel/TarReader$Entry", name := "isSymbolicLink", desc := "()Z" } : Jvm.MethodName) prog_107_method_12_code (1 : Nat) (Option.some Jvm.ClassFile.FieldType.boolean)).before args0 about1 = true := code_word (m := ⟨10, 2⟩) (meth := k10m2) (c := k10c2) (by decide +kernel) rfl rfl rfl (by decide +kernel)
set_option maxRecDepth 65536 in
theorem w_c13 : (Jvm.Cond.code ({ cls := "com/example/tender_parcel/tenderparcel/TarReader$Entry", name := "isHardLink", desc := "()Z" } : Jvm.MethodName) prog_107_method_13_code (1 : Nat) (Option.some Jvm.ClassFile.FieldType.boolean)).before args0 about1 = true := code_word (m := ⟨10, 3⟩) (meth := k10m3) (c := k10c3) (by decide +kernel) rfl rfl rfl (by decide +kernel)
set_option maxRecDepth 65536 in
theorem w_c14 : (Jvm.Cond.code ({ cls := "com/example/tender_parcel/tenderparcel/TarReader$Entry", name := "isDirectory", desc := "()Z" } : Jvm.MethodName) prog_107_method_11_code (2 : Nat) (Option.some Jvm.ClassFile.FieldType.boolean)).before args0 about1 = true := code_word (m := ⟨10, 1⟩) (meth := k10m1) (c := k10c1) (by decide +kernel) rfl rfl rfl (by decide +kernel)
set_option maxRecDepth 65536 in
theorem w_c15 : (Jvm.Cond.code ({ cls := "com/example/tender_parcel/tenderparcel/TarReader$Entry", name := "isRegular", desc := "()Z" } : Jvm.MethodName) prog_107_method_14_code (2 : Nat) (Option.some Jvm.ClassFile.FieldType.boolean)).before args0 about1 = true := code_word (m := ⟨10, 4⟩) (meth := k10m4) (c := k10c4) (by decide +kernel) rfl rfl rfl (by decide +kernel)
def codes1 : List Jvm.Cond := [Jvm.Cond.code x code maxLocals ret, Jvm.Cond.code ({ cls := "java/lang/String", name := "<init>", desc := "([C)V" } : Jvm.MethodName) jdk_42_method_3_code (2 : Nat) (Option.none : Option Jvm.ClassFile.FieldType), Jvm.Cond.code ({ cls := "java/lang/String", name := "<init>", desc := "([CIILjava/lang/Void;)V" } : Jvm.MethodName) jdk_42_method_149_code (6 : Nat) (Option.none : Option Jvm.ClassFile.FieldType), Jvm.Cond.code ({ cls := "java/lang/Object", name := "<init>", desc := "()V" } : Jvm.MethodName) object_method_1_code (1 : Nat) (Option.none : Option Jvm.ClassFile.FieldType), Jvm.Cond.code ({ cls := "java/lang/StringUTF16", name := "compress", desc := "([CII)[B" } : Jvm.MethodName) jdk_52_method_16_code (6 : Nat) (Option.some (Jvm.ClassFile.FieldType.array Jvm.ClassFile.FieldType.byte)), Jvm.Cond.code ({ cls := "java/lang/StringUTF16", name := "compress", desc := "([CI[BII)I" } : Jvm.MethodName) jdk_52_method_21_code (7 : Nat) (Option.some Jvm.ClassFile.FieldType.int), Jvm.Cond.code ({ cls := "java/lang/StringUTF16", name := "coderFromArrayLen", desc := "([BI)B" } : Jvm.MethodName) jdk_52_method_15_code (2 : Nat) (Option.some Jvm.ClassFile.FieldType.byte), Jvm.Cond.code ({ cls := "java/lang/String", name := "valueOf", desc := "(C)Ljava/lang/String;" } : Jvm.MethodName) jdk_42_method_139_code (1 : Nat) (Option.some (Jvm.ClassFile.FieldType.object "java/lang/String")), Jvm.Cond.code ({ cls := "java/lang/StringLatin1", name := "canEncode", desc := "(C)Z" } : Jvm.MethodName) jdk_43_method_3_code (1 : Nat) (Option.some Jvm.ClassFile.FieldType.boolean), Jvm.Cond.code ({ cls := "java/lang/StringLatin1", name := "toBytes", desc := "(C)[B" } : Jvm.MethodName) jdk_43_method_46_code (1 : Nat) (Option.some (Jvm.ClassFile.FieldType.array Jvm.ClassFile.FieldType.byte)), Jvm.Cond.code ({ cls := "java/lang/String", name := "<init>", desc := "([BB)V" } : Jvm.MethodName) jdk_42_method_151_code (3 : Nat) (Option.none : Option Jvm.ClassFile.FieldType), Jvm.Cond.code ({ cls := "com/example/tender_parcel/tenderparcel/TarReader$Entry", name := "<init>", desc := "(Ljava/lang/String;BLjava/lang/String;JJJJ)V" } : Jvm.MethodName) prog_107_method_1_code (12 : Nat) (Option.none : Option Jvm.ClassFile.FieldType), Jvm.Cond.code ({ cls := "com/example/tender_parcel/tenderparcel/TarReader$Entry", name := "isSymbolicLink", desc := "()Z" } : Jvm.MethodName) prog_107_method_12_code (1 : Nat) (Option.some Jvm.ClassFile.FieldType.boolean), Jvm.Cond.code ({ cls := "com/example/tender_parcel/tenderparcel/TarReader$Entry", name := "isHardLink", desc := "()Z" } : Jvm.MethodName) prog_107_method_13_code (1 : Nat) (Option.some Jvm.ClassFile.FieldType.boolean), Jvm.Cond.code ({ cls := "com/example/tender_parcel/tenderparcel/TarReader$Entry", name := "isDirectory", desc := "()Z" } : Jvm.MethodName) prog_107_method_11_code (2 : Nat) (Option.some Jvm.ClassFile.FieldType.boolean), Jvm.Cond.code ({ cls := "com/example/tender_parcel/tenderparcel/TarReader$Entry", name := "isRegular", desc := "()Z" } : Jvm.MethodName) prog_107_method_14_code (2 : Nat) (Option.some Jvm.ClassFile.FieldType.boolean)]
set_option maxRecDepth 65536 in
theorem codes_eq : words1.filter isCode = codes1 := rfl
theorem w_codes : ∀ c ∈ words1.filter isCode, c.before args0 about1 = true := by
  rw [codes_eq]
  intro c hc
  simp only [codes1, List.mem_cons, List.not_mem_nil, or_false] at hc
  rcases hc with rfl | rfl | rfl | rfl | rfl | rfl | rfl | rfl | rfl | rfl | rfl | rfl | rfl | rfl | rfl | rfl
  · exact w_c0
  · exact w_c1
  · exact w_c2
  · exact w_c3
  · exact w_c4
  · exact w_c5
  · exact w_c6
  · exact w_c7
  · exact w_c8
  · exact w_c9
  · exact w_c10
  · exact w_c11
  · exact w_c12
  · exact w_c13
  · exact w_c14
  · exact w_c15
set_option maxRecDepth 65536 in
theorem w_t1 : (words1.take 24).all (fun c => isCode c || c.before args0 about1) = true := by decide +kernel
set_option maxRecDepth 65536 in
theorem w_t2 : ((words1.drop 24).take 24).all (fun c => isCode c || c.before args0 about1) = true := by decide +kernel
set_option maxRecDepth 65536 in
theorem w_t3 : (((words1.drop 24).drop 24).take 24).all (fun c => isCode c || c.before args0 about1) = true := by decide +kernel
set_option maxRecDepth 65536 in
theorem w_t4 : (((words1.drop 24).drop 24).drop 24).all (fun c => isCode c || c.before args0 about1) = true := by decide +kernel
theorem w_tables : (allAtoms (Jvm.Cond.code x code maxLocals ret :: tables_1)).before args0 about1 = true := by
  rw [allAtoms_all]
  show words1.all (fun c => c.before args0 about1) = true
  refine all_split ?_ w_codes
  rw [← List.take_append_drop 24 words1, List.all_append, w_t1, ← List.take_append_drop 24 (words1.drop 24), List.all_append, w_t2, ← List.take_append_drop 24 ((words1.drop 24).drop 24), List.all_append, w_t3, w_t4]
  rfl
set_option maxRecDepth 65536 in
theorem w_rest : rest_1_c.before args0 about1 = true := by decide +kernel
set_option maxRecDepth 65536 in
theorem w_case : (Jvm.Cond.and given_1 narrow_1).before args0 about1 = true := by decide +kernel
theorem w_applies : (headSpec (Jvm.Cond.code x code maxLocals ret :: tables_1) room_1).applies x e0.platform about1 = true :=
  (Spec.applies_iff w_frames).mpr ⟨w_running, w_runnable, w_alone, w_named, w_hears, w_ripe, w_room, w_tables⟩
theorem atStart : AtStart classFile x code maxLocals ret World_1 tables_1 room_1 Calls_1 rest_1 Pre_1 launch0 p0 e0 about1 theMethod args0 below0 :=
  ⟨lists_1, trivial, launch0.admits_env _ _ _, launch0.least_env, fairChoices_fair.cas, fairChoices_fair.clock, w_frames, w_args, w_heap, w_applies, trivial, w_rest, w_case⟩
end start1
theorem witness_1 : WitnessClaimed_1 := ⟨start1.p0, start1.e0, start1.about1, start1.theMethod, start1.args0, start1.below0, start1.atStart⟩
end Jvm.Pilot.@@N@@
