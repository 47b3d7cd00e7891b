import JvmDerived
import JvmDerived.Pilot.@@N@@Statement
import JvmDerived.Pilot.@@N@@Code
set_option linter.unusedVariables false
set_option linter.unusedSimpArgs false
namespace Jvm.Pilot.@@N@@
open Jvm Jvm.ClassFile Sem Op Lib Jvm.Free Jvm.Stand Jvm.LawKit Jvm.RoadKit Bundle Jvm.Pilot.@@N@@.Jvm.D
abbrev own_jv (x : Int64) : Slot := .val (.long x)
theorem own_i_lt {a b : Int32} (h : a < b) : a.toInt < b.toInt := Int32.lt_iff_toInt_lt.mp h
theorem own_i_nlt {a b : Int32} (h : ¬ a < b) : b.toInt ≤ a.toInt := Int.not_lt.mp fun q => h (Int32.lt_iff_toInt_lt.mpr q)
theorem own_i_eq {a b : Int32} (h : a = b) : a.toInt = b.toInt := congrArg Int32.toInt h
theorem own_i_ne {a b : Int32} (h : ¬ a = b) : ¬ a.toInt = b.toInt := fun q => h (Int32.toInt_inj.mp q)
theorem own_j_lt {a b : Int64} (h : a < b) : a.toInt < b.toInt := Int64.lt_iff_toInt_lt.mp h
theorem own_j_nlt {a b : Int64} (h : ¬ a < b) : b.toInt ≤ a.toInt := Int.not_lt.mp fun q => h (Int64.lt_iff_toInt_lt.mpr q)
theorem own_j_eq {a b : Int64} (h : a = b) : a.toInt = b.toInt := congrArg Int64.toInt h
theorem own_j_ne {a b : Int64} (h : ¬ a = b) : ¬ a.toInt = b.toInt := fun q => h (Int64.toInt_inj.mp q)
theorem own_b1 {P : Prop} (h : P) : ((1 : Int32).toInt = 1 ∧ P) ∨ ((1 : Int32).toInt = 0 ∧ ¬ P) := Or.inl ⟨by decide, h⟩
theorem own_b0 {P : Prop} (h : ¬ P) : ((0 : Int32).toInt = 1 ∧ P) ∨ ((0 : Int32).toInt = 0 ∧ ¬ P) := Or.inr ⟨by decide, h⟩
theorem own_cat {w : Value} (hw : w.isRef = true) : w.category = 1 := by rcases ref_cases hw with rfl | ⟨a, rfl⟩ <;> rfl
theorem own_fitR {t : FieldType} (ht : t.isReference = true) {w : Value} (hw : w.isRef = true) : fits t w = true := by
  rcases ref_cases hw with rfl | ⟨a, rfl⟩ <;> cases t <;> first | rfl | cases ht
theorem own_static {s : State} {args : Array Value} {C n d K : String} (h : (Jvm.Cond.exactly (Jvm.Term.static C n d) K).value args s none s [] = some true) (wi : (Jvm.Cond.initialized C).before args s = true) (wl : (Jvm.Cond.laysStatic C n d).before args s = true) : ∃ a, (Jvm.Term.static C n d).eval args s none [] s = some (.ref a) ∧ Sta s s.heap C n d (.ref a) ∧ Exa s s.heap a K := by
  obtain ⟨a, ev⟩ := exa_v h
  exact ⟨a, ev, Sta.start ev (Or.inr ⟨wi, wl⟩), Exa.start ev h⟩
theorem own_teq {s : State} {args : Array Value} {t : Jvm.Term} {x : Int32} (h : (Jvm.Cond.eq t (Jvm.Term.int x)).value args s none s [] = some true) : t.eval args s none [] s = some (.int x) := by
  simp only [Cond.value, Term.int_eval] at h
  cases hv : t.eval args s none [] s with
  | none => simp [hv] at h
  | some v => cases v <;> simp [hv] at h ⊢; exact h
theorem own_fint {s : State} {args : Array Value} {t : Jvm.Term} {C n d : String} {x : Int32} {a : Addr} (h : (Jvm.Cond.eq (Jvm.Term.field t C n d) (Jvm.Term.int x)).value args s none s [] = some true) (e : t.eval args s none [] s = some (.ref a)) : s.fieldOf? a C n d = some (.int x) := by
  have q := fld_at (C := C) (n := n) (dd := d) e
  simp only [Cond.value, q, Term.int_eval] at h
  cases hv : s.fieldOf? a C n d with
  | none => simp [hv] at h
  | some v => cases v <;> simp [hv] at h ⊢; exact h
theorem own_ord {s : State} {args : Array Value} {t t' : Jvm.Term} {C n d : String} {x y : Int32} {a b : Nat} (h : (Jvm.Cond.eq (Jvm.Term.field t C n d) (Jvm.Term.int x)).value args s none s [] = some true) (e : t.eval args s none [] s = some (.ref a)) (h' : (Jvm.Cond.eq (Jvm.Term.field t' C n d) (Jvm.Term.int y)).value args s none s [] = some true) (e' : t'.eval args s none [] s = some (.ref b)) (hn : x ≠ y) : ¬ a = b := fun q => by
  subst q
  have := (own_fint h e).symm.trans (own_fint h' e')
  cases this
  exact hn rfl
def own_O (Z : State) (a : Addr) (k : Int32) : Prop := Z.fieldOf? a "java/lang/Enum" "ordinal" "I" = some (.int k)
theorem own_one {Z : State} {a b : Nat} {i j : Int32} (h : own_O Z a i) (h' : own_O Z b j) (hn : i ≠ j) : ¬ a = b := fun q => by
  subst q
  have := Eq.symm h |>.trans h'
  cases this
  exact hn rfl
theorem own_fldR {s : State} {args : Array Value} {t : Jvm.Term} {C n d K : String} {a : Addr} (h : (Jvm.Cond.exactly (Jvm.Term.field t C n d) K).value args s none s [] = some true) (e : t.eval args s none [] s = some (.ref a)) : ∃ b, Fld s s.heap a C n d (.ref b) := by
  obtain ⟨b, ev⟩ := exa_v h
  rw [fld_at e] at ev
  exact ⟨b, Fld.start ev⟩
theorem own_fldN {s : State} {args : Array Value} {t : Jvm.Term} {C n d : String} {a : Addr} (h : (Jvm.Cond.eq (Jvm.Term.field t C n d) Jvm.Term.null).value args s none s [] = some true) (e : t.eval args s none [] s = some (.ref a)) : Fld s s.heap a C n d .null := by
  have ev := null_v h
  rw [fld_at e] at ev
  exact Fld.start ev
theorem own_ne {x y : Addr} (h : @Ne Nat x y) : x ≠ y := h
theorem own_lt {x : Addr} {y : Nat} (h : x < y) : @LT.lt Nat instLTNat x y := h
section OwnKit
variable {p : Program} {l : Launch} {e : Env} {R : Room} {s : State} {m : MethodId} {args : Array Value} {below : List Frame} {meth : Method} {c : Code} {T : State} {locs : List Loc} {cells slots : Nat} {Z : State} {a0 : Array Value} {h h' : Heap} {Q : Option Value → Heap → List Loc → Prop}
/-- from U the run comes to its end, and what it leaves is Q's -/
def own_Goes (p : Program) (e : Env) (below : List Frame) (s : State) (R : Room) (Q : Option Value → Heap → List Loc → Prop) (U : State) : Prop :=
  ∃ s₂ o, Steps p.tables e below U s₂ ∧ s₂.status = .running ∧ Ended s₂ below o ∧ ∃ v L, o = .returned v ∧ Q v s₂.heap L ∧ FrameEnd s o s₂ L R.cells R.slots
theorem own_st {U U' : State} (k : ∀ t, Steps p.tables e below U' t → Steps p.tables e below U t) (g : own_Goes p e below s R Q U') : own_Goes p e below s R Q U := by
  obtain ⟨s₂, o, h1, h2⟩ := g
  exact ⟨s₂, o, k _ h1, h2⟩
theorem own_fin (X : Stand p l e R s m args below meth c T locs cells slots) (hk : meth.locks = false) {v : Option Value} (hv : meth.sig.returnType = none → v = none) {U : State}
    (hs : ∀ fs, (∀ (f : JFrame) (acts : List Action), f.method = m → f.locked = none → f.entered = [] → (doReturn e (T.setTop f) acts v).1 = T.setFrames fs) → Steps p.tables e below U (T.setFrames fs))
    (hc : cells ≤ R.cells) (hl : slots ≤ R.slots) (q : Q v T.heap locs) : own_Goes p e below s R Q U := by
  obtain ⟨fs, hr, hrun, hended, hW, hsame⟩ := X.leave hv hk
  exact ⟨_, _, hs fs hr, hrun, hended, v, locs, rfl, q, ⟨v, rfl⟩, hW, hsame.mono hc hl⟩
theorem own_ret (X : Stand p l e R s m args below meth c T locs cells slots) (hx : p.tables.exec = Jvm.exec) (hk : meth.locks = false) {pc : Nat} {Ls : Array Slot} {w : Value} {t : FieldType} {i : Instr} {rest : List Value} (hret : meth.sig.returnType = some t) (hn : narrow t w = w)
    (hi : (i = .ireturn ∧ (t = .int ∨ t = .boolean ∨ t = .byte ∨ t = .char ∨ t = .short) ∧ ∃ z, w = .int z) ∨ (i = .lreturn ∧ t = .long ∧ ∃ z, w = .long z) ∨ (i = .dreturn ∧ t = .double ∧ ∃ z, w = .double z) ∨ (i = .freturn ∧ t = .float ∧ ∃ z, w = .float z) ∨ (i = .areturn ∧ t.isReference = true ∧ w.isRef = true))
    (hd : decode c.code pc = .ok (i, 1)) (hc : cells ≤ R.cells) (hl : slots ≤ R.slots) (q : Q (some w) T.heap locs) : own_Goes p e below s R Q (T.setTop (mkF m pc Ls (w :: rest))) :=
  own_fin X hk (fun h => by rw [hret] at h; cases h) (fun fs hr => retOut X hx hret hn hi hd hr) hc hl q
theorem own_retI (X : Stand p l e R s m args below meth c T locs cells slots) (hx : p.tables.exec = Jvm.exec) (hk : meth.locks = false) {pc : Nat} {Ls : Array Slot} {z : Int32} {rest : List Value} (hret : meth.sig.returnType = some .int)
    (hd : decode c.code pc = .ok (.ireturn, 1)) (hc : cells ≤ R.cells) (hl : slots ≤ R.slots) (q : Q (some (.int z)) T.heap locs) : own_Goes p e below s R Q (T.setTop (mkF m pc Ls (.int z :: rest))) :=
  own_ret X hx hk hret rfl (Or.inl ⟨rfl, Or.inl rfl, z, rfl⟩) hd hc hl q
theorem own_retJ (X : Stand p l e R s m args below meth c T locs cells slots) (hx : p.tables.exec = Jvm.exec) (hk : meth.locks = false) {pc : Nat} {Ls : Array Slot} {z : Int64} {rest : List Value} (hret : meth.sig.returnType = some .long)
    (hd : decode c.code pc = .ok (.lreturn, 1)) (hc : cells ≤ R.cells) (hl : slots ≤ R.slots) (q : Q (some (.long z)) T.heap locs) : own_Goes p e below s R Q (T.setTop (mkF m pc Ls (.long z :: rest))) :=
  own_ret X hx hk hret rfl (Or.inr (Or.inl ⟨rfl, rfl, z, rfl⟩)) hd hc hl q
theorem own_narR {t : FieldType} (ht : t.isReference = true) {w : Value} (hw : w.isRef = true) : narrow t w = w := by
  rcases ref_cases hw with rfl | ⟨a, rfl⟩ <;> cases t <;> first | rfl | cases ht
theorem own_retR (X : Stand p l e R s m args below meth c T locs cells slots) (hx : p.tables.exec = Jvm.exec) (hk : meth.locks = false) {pc : Nat} {Ls : Array Slot} {w : Value} {t : FieldType} {rest : List Value} (hret : meth.sig.returnType = some t) (ht : t.isReference = true) (hw : w.isRef = true)
    (hd : decode c.code pc = .ok (.areturn, 1)) (hc : cells ≤ R.cells) (hl : slots ≤ R.slots) (q : Q (some w) T.heap locs) : own_Goes p e below s R Q (T.setTop (mkF m pc Ls (w :: rest))) :=
  own_ret X hx hk hret (own_narR ht hw) (Or.inr (Or.inr (Or.inr (Or.inr ⟨rfl, ht, hw⟩)))) hd hc hl q
theorem own_retN (X : Stand p l e R s m args below meth c T locs cells slots) (hx : p.tables.exec = Jvm.exec) (hk : meth.locks = false) {pc : Nat} {Ls : Array Slot} {z : Int32} (z' : Int32) {t : FieldType} {rest : List Value} (hret : meth.sig.returnType = some t) (ht : t = .boolean ∨ t = .byte ∨ t = .char ∨ t = .short) (hz : nar t z = z')
    (hd : decode c.code pc = .ok (.ireturn, 1)) (hc : cells ≤ R.cells) (hl : slots ≤ R.slots) (q : Q (some (.int z')) T.heap locs) : own_Goes p e below s R Q (T.setTop (mkF m pc Ls (.int z :: rest))) := by
  subst hz
  exact own_fin X hk (fun h => by rw [hret] at h; cases h) (fun fs hr => retN X hx hret ht hd hr) hc hl q
theorem own_ret0 (X : Stand p l e R s m args below meth c T locs cells slots) (hx : p.tables.exec = Jvm.exec) (hk : meth.locks = false) {pc : Nat} {Ls : Array Slot} (hret : meth.sig.returnType = none)
    (hd : decode c.code pc = .ok (.return_, 1)) (hc : cells ≤ R.cells) (hl : slots ≤ R.slots) (q : Q none T.heap locs) : own_Goes p e below s R Q (T.setTop (mkF m pc Ls [])) :=
  own_fin X hk (fun _ => rfl) (fun fs hr => X.returnOut hx hret hd hr) hc hl q
theorem own_enter {y : MethodName} {bytes : ByteArray} {maxL : Nat} {ret : Option FieldType} {ws : List Jvm.Cond} {as' : Array Value} {h0 : Heap} {F : MethodId → JFrame}
    (hp : plainFor y = true) (hf : ∀ m, entryFrame m as' maxL = F m)
    (body : ∀ (p : Program) (e : Env) (s : State) (m : MethodId) (below : List Frame) (meth : Method) (c : Code) (T : State), Stand p l e R s m as' below meth c T [] 0 0 → p.tables.exec = Jvm.exec → c.code = bytes → c.maxLocals = maxL → meth.sig.returnType = ret → meth.locks = false → meth.name = y.name → s.vm.findClass y.cls = some m.cls → Z.Warmed39 s.vm → T.heap = h0 → own_Goes p e below s R Q (T.setTop (F m))) :
    MetFree l y (head1 (Jvm.Cond.code y bytes maxL ret :: ws) R) (fun a U => a = as' ∧ Z.Warmed39 U.vm ∧ U.heap = h0) (fun _ _ _ _ _ => True) (fun _ U o U' => ∃ v L, o = .returned v ∧ Q v U'.heap L ∧ FrameEnd U o U' L R.cells R.slots) := by
  refine MetFree.of_bodySF hp hisR ?_
  intro p e s m args below meth c s₁ Bd hml0 hP hK
  obtain ⟨rfl, hZ, hh⟩ := hP
  have e0 : s₁.heap = h0 := by rw [← hh, Bd.state]; rfl
  have g := body p e s m below meth c s₁ (Stand.of_body Bd) Bd.exec Bd.bytes hml0 Bd.returns Bd.notSynchronized (name_of_methodNamed Bd.named Bd.method).1 (findClass_of_methodNamed Bd.named) hZ e0
  rw [hf]
  exact g
theorem own_callS (X : Stand p l e R s m args below meth c T locs cells slots) (hx : p.tables.exec = Jvm.exec) (hZ : Z.Warmed39 s.vm) {own : String} {index : Nat} {y : MethodName} {bytes : ByteArray} {maxL : Nat} {ret : Option FieldType}
    (hown : s.vm.findClass own = some m.cls) (w1 : (Jvm.Cond.methodLink own index y).before a0 Z = true) (w2 : (Jvm.Cond.static y).before a0 Z = true) (w3 : (Jvm.Cond.initialized y.cls).before a0 Z = true) (w4 : (Jvm.Cond.code y bytes maxL ret).before a0 Z = true)
    (hy : y.cls ≠ "java/lang/invoke/MethodHandle" ∧ y.cls ≠ "java/lang/invoke/VarHandle") {W : Nat} {rm : Room} {argsL rest : List Value} {Qc : Option Value → Heap → List Loc → Prop}
    (hM : MetFree l y (head1 [Jvm.Cond.code y bytes maxL ret] rm) (fun a U => a = argsL.toArray ∧ Z.Warmed39 U.vm ∧ U.heap = h) (fun _ _ _ _ _ => True) (fun _ U o U' => ∃ v L, o = .returned v ∧ Qc v U'.heap L ∧ FrameEnd U o U' L rm.cells rm.slots))
    (hf : rm.frames + 1 ≤ R.frames) (hl : W + (maxL + 11) + rm.locals ≤ R.locals) (hc : cells + rm.cells ≤ R.cells) (hs : slots + rm.slots ≤ R.slots) (eT : T.heap = h)
    {ps : List FieldType} {r : Option FieldType} (hd : parseMethodDescriptor y.desc = some ⟨ps, r⟩) (hlen : argsL.length = ps.length)
    {g : JFrame} (hg : g.method = m) (hsize : g.locals.size = c.maxLocals) (hstack : g.stack = argsL.reverse ++ rest) (hW : 2 * g.monitorRoom + (rest.map fun v => v.category).sum ≤ W) (hdg : decode c.code g.pc = .ok (.invokestatic index, 3)) :
    ∃ (v : Option Value) (T' : State) (L : List Loc), Stand p l e R s m args below meth c T' (locs ++ L) (cells + rm.cells) (slots + rm.slots) ∧ Qc v T'.heap L ∧ ∀ t, Steps p.tables e below (T'.setTop { g with pc := g.pc + 3, stack := v.toList ++ rest }) t → Steps p.tables e below (T.setTop g) t := by
  obtain ⟨v, _, ⟨T', L', k', n'⟩, -, X', ⟨Lc, hQ, l', y', z'⟩, st⟩ := Jvm.LawKit.callS X hx (y := y) hown (mvT hZ w1) (mvT hZ w2) (mvT hZ w3) (mvT hZ w4) hy (backOf (W := W) hM hZ w4 w3 hf hl) hg hsize (argsL := argsL) (rest := rest) (lenOf hd hlen) hstack hW hdg (fun _ _ => ⟨rfl, eT, hc, hs⟩)
  dsimp only [Pt.U, Pt.locs, Pt.cells, Pt.slots] at X' l' y' z' st hQ
  subst l' y' z'
  exact ⟨v, T', Lc, X', hQ, st⟩
theorem own_callI (X : Stand p l e R s m args below meth c T locs cells slots) (hx : p.tables.exec = Jvm.exec) (hZ : Z.Warmed39 s.vm) {own : String} {index : Nat} {y : MethodName} {bytes : ByteArray} {maxL : Nat}
    (hown : s.vm.findClass own = some m.cls) (w1 : (Jvm.Cond.methodLink own index y).before a0 Z = true) (w2 : (Jvm.Cond.instanceMethod y).before a0 Z = true) (w3 : (Jvm.Cond.initialized y.cls).before a0 Z = true) (w4 : (Jvm.Cond.code y bytes maxL none).before a0 Z = true) (hy1 : y.name = "<init>")
    (hy : y.cls ≠ "java/lang/invoke/MethodHandle" ∧ y.cls ≠ "java/lang/invoke/VarHandle") {W : Nat} {rm : Room} {a : Addr} {argsL rest : List Value} {Qc : Option Value → Heap → List Loc → Prop}
    (hM : MetFree l y (head1 [Jvm.Cond.code y bytes maxL none] rm) (fun b U => b = (Value.ref a :: argsL).toArray ∧ Z.Warmed39 U.vm ∧ U.heap = h) (fun _ _ _ _ _ => True) (fun _ U o U' => ∃ v L, o = .returned v ∧ Qc v U'.heap L ∧ FrameEnd U o U' L rm.cells rm.slots))
    (hf : rm.frames + 1 ≤ R.frames) (hl : W + (maxL + 11) + rm.locals ≤ R.locals) (hc : cells + rm.cells ≤ R.cells) (hs : slots + rm.slots ≤ R.slots) (eT : T.heap = h)
    {ps : List FieldType} {r : Option FieldType} (hd : parseMethodDescriptor y.desc = some ⟨ps, r⟩) (hlen : argsL.length = ps.length)
    {g : JFrame} (hg : g.method = m) (hsize : g.locals.size = c.maxLocals) (hstack : g.stack = argsL.reverse ++ .ref a :: rest) (hW : 2 * g.monitorRoom + (rest.map fun v => v.category).sum ≤ W) (hdg : decode c.code g.pc = .ok (.invokespecial index, 3)) :
    ∃ (v : Option Value) (T' : State) (L : List Loc), Stand p l e R s m args below meth c T' (locs ++ L) (cells + rm.cells) (slots + rm.slots) ∧ Qc v T'.heap L ∧ ∀ t, Steps p.tables e below (T'.setTop { g with pc := g.pc + 3, stack := v.toList ++ rest }) t → Steps p.tables e below (T.setTop g) t := by
  obtain ⟨v, _, ⟨T', L', k', n'⟩, -, X', ⟨Lc, hQ, l', y', z'⟩, st⟩ := X.specialBack hx (y := y) hy1 hown (mvT hZ w1) (mvT hZ w2) (mvT hZ w4) hy (backOf (W := W) hM hZ w4 w3 hf hl) hg hsize (Steps.refl _) (a := a) (argsL := argsL) (rest := rest) (lenOf hd hlen) hstack hW hdg (fun _ _ => ⟨rfl, eT, hc, hs⟩)
  dsimp only [Pt.U, Pt.locs, Pt.cells, Pt.slots] at X' l' y' z' st hQ
  subst l' y' z'
  exact ⟨v, T', Lc, X', hQ, fun t k => st.trans k⟩
theorem own_callV (X : Stand p l e R s m args below meth c T locs cells slots) (hx : p.tables.exec = Jvm.exec) (hZ : Z.Warmed39 s.vm) {own C : String} {index : Nat} {y : MethodName} {bytes : ByteArray} {maxL : Nat} {ret : Option FieldType}
    (hown : s.vm.findClass own = some m.cls) (w1 : (Jvm.Cond.methodLink own index y).before a0 Z = true) (w5 : (Jvm.Cond.declares y).before a0 Z = true) (w6 : (Jvm.Cond.selects C y y).before a0 Z = true) (w2 : (Jvm.Cond.instanceMethod y).before a0 Z = true) (w3 : (Jvm.Cond.initialized y.cls).before a0 Z = true) (w4 : (Jvm.Cond.code y bytes maxL ret).before a0 Z = true)
    (hy : y.cls ≠ "java/lang/invoke/MethodHandle" ∧ y.cls ≠ "java/lang/invoke/VarHandle") {W : Nat} {rm : Room} {a : Addr} {argsL rest : List Value} {Qc : Option Value → Heap → List Loc → Prop}
    (hM : MetFree l y (head1 [Jvm.Cond.code y bytes maxL ret] rm) (fun b U => b = (Value.ref a :: argsL).toArray ∧ Z.Warmed39 U.vm ∧ U.heap = h) (fun _ _ _ _ _ => True) (fun _ U o U' => ∃ v L, o = .returned v ∧ Qc v U'.heap L ∧ FrameEnd U o U' L rm.cells rm.slots))
    (hf : rm.frames + 1 ≤ R.frames) (hl : W + (maxL + 11) + rm.locals ≤ R.locals) (hc : cells + rm.cells ≤ R.cells) (hs : slots + rm.slots ≤ R.slots) (eT : T.heap = h) (E : Exa Z h a C)
    {ps : List FieldType} {r : Option FieldType} (hd : parseMethodDescriptor y.desc = some ⟨ps, r⟩) (hlen : argsL.length = ps.length)
    {g : JFrame} (hg : g.method = m) (hsize : g.locals.size = c.maxLocals) (hstack : g.stack = argsL.reverse ++ .ref a :: rest) (hW : 2 * g.monitorRoom + (rest.map fun v => v.category).sum ≤ W) (hdg : decode c.code g.pc = .ok (.invokevirtual index, 3)) :
    ∃ (v : Option Value) (T' : State) (L : List Loc), Stand p l e R s m args below meth c T' (locs ++ L) (cells + rm.cells) (slots + rm.slots) ∧ Qc v T'.heap L ∧ ∀ t, Steps p.tables e below (T'.setTop { g with pc := g.pc + 3, stack := v.toList ++ rest }) t → Steps p.tables e below (T.setTop g) t := by
  obtain ⟨cq, kq, qa, qb, qc⟩ := isOf hZ eT E
  obtain ⟨v, _, ⟨T', L', k', n'⟩, -, X', ⟨Lc, hQ, l', y', z'⟩, st⟩ := X.virtualBack hx (y := y) (z := y) hown (mvT hZ w1) (mvT hZ w5) (notFace_of_selects (args := #[]) (mvT hZ w6)) (mvT hZ w6) (mvT hZ w2) hy (backOf (W := W) hM hZ w4 w3 hf hl) qa qc hg hsize (Steps.refl _) (argsL := argsL) (rest := rest) (lenOf hd hlen) hstack hW hdg (fun _ _ => ⟨rfl, eT, hc, hs⟩)
  dsimp only [Pt.U, Pt.locs, Pt.cells, Pt.slots] at X' l' y' z' st hQ
  subst l' y' z'
  exact ⟨v, T', Lc, X', hQ, fun t k => st.trans k⟩
theorem own_callP (X : Stand p l e R s m args below meth c T locs cells slots) (hx : p.tables.exec = Jvm.exec) (hZ : Z.Warmed39 s.vm) {own : String} {index : Nat} {y : MethodName} {bytes : ByteArray} {maxL : Nat} {ret : Option FieldType}
    (hown : s.vm.findClass own = some m.cls) (w1 : (Jvm.Cond.methodLink own index y).before a0 Z = true) (w5 : (Jvm.Cond.privateMethod y).before a0 Z = true) {ki : Nat} (w6 : (Jvm.Cond.instantiable y.cls ki).before a0 Z = true) (w2 : (Jvm.Cond.instanceMethod y).before a0 Z = true) (w3 : (Jvm.Cond.initialized y.cls).before a0 Z = true) (w4 : (Jvm.Cond.code y bytes maxL ret).before a0 Z = true)
    (hy : y.cls ≠ "java/lang/invoke/MethodHandle" ∧ y.cls ≠ "java/lang/invoke/VarHandle") {W : Nat} {rm : Room} {a : Addr} {argsL rest : List Value} {Qc : Option Value → Heap → List Loc → Prop} {C : String}
    (hM : MetFree l y (head1 [Jvm.Cond.code y bytes maxL ret] rm) (fun b U => b = (Value.ref a :: argsL).toArray ∧ Z.Warmed39 U.vm ∧ U.heap = h) (fun _ _ _ _ _ => True) (fun _ U o U' => ∃ v L, o = .returned v ∧ Qc v U'.heap L ∧ FrameEnd U o U' L rm.cells rm.slots))
    (hf : rm.frames + 1 ≤ R.frames) (hl : W + (maxL + 11) + rm.locals ≤ R.locals) (hc : cells + rm.cells ≤ R.cells) (hs : slots + rm.slots ≤ R.slots) (eT : T.heap = h) (E : Exa Z h a C)
    {ps : List FieldType} {r : Option FieldType} (hd : parseMethodDescriptor y.desc = some ⟨ps, r⟩) (hlen : argsL.length = ps.length)
    {g : JFrame} (hg : g.method = m) (hsize : g.locals.size = c.maxLocals) (hstack : g.stack = argsL.reverse ++ .ref a :: rest) (hW : 2 * g.monitorRoom + (rest.map fun v => v.category).sum ≤ W) (hdg : decode c.code g.pc = .ok (.invokevirtual index, 3)) :
    ∃ (v : Option Value) (T' : State) (L : List Loc), Stand p l e R s m args below meth c T' (locs ++ L) (cells + rm.cells) (slots + rm.slots) ∧ Qc v T'.heap L ∧ ∀ t, Steps p.tables e below (T'.setTop { g with pc := g.pc + 3, stack := v.toList ++ rest }) t → Steps p.tables e below (T.setTop g) t := by
  obtain ⟨cq, q1, q2⟩ := E.cell
  have hsel : (Jvm.Cond.selects y.cls y y).before args s = true := by
    obtain ⟨c2, k2, i1, i2, i3, i4, -⟩ := Cond.instantiable_spec (mv hZ w6 (args := args))
    exact selects_self_of_private i1 i2 (Bool.or_eq_false_iff.mp i4).1 (Cond.privateMethod_at (mvP hZ w5 (args := #[]))) (mvT hZ w2) hy
  obtain ⟨v, _, ⟨T', L', k', n'⟩, -, X', ⟨Lc, hQ, l', y', z'⟩, st⟩ := X.privateBack hx (y := y) hown (mvT hZ w1) (mvT hZ w2) hsel (Cond.privateMethod_at (mvP hZ w5 (args := #[]))) (mvT hZ w4) hy (backOf (W := W) hM hZ w4 w3 hf hl) hg hsize (Steps.refl _) (a := a) (by rw [eT]; exact q1) q2 (argsL := argsL) (rest := rest) (lenOf hd hlen) hstack hW hdg (fun _ _ => ⟨rfl, eT, hc, hs⟩)
  dsimp only [Pt.U, Pt.locs, Pt.cells, Pt.slots] at X' l' y' z' st hQ
  subst l' y' z'
  exact ⟨v, T', Lc, X', hQ, fun t k => st.trans k⟩
theorem own_sta_keep {C n d : String} {w : Value} {ws : List Addr} (F : Sta Z h C n d w) (K : Keep h h' ws) (q : ∀ x ∈ ws, ∀ c : Cell, h[x]? = some c → c.vm.isStatics = false) : Sta Z h' C n d w := by
  obtain ⟨cf, i, k, f, st, cell, h1, h2, h3, h4, h5, h6, h7⟩ := F
  exact ⟨cf, i, k, f, st, cell, h1, h2, h3, h4, K.2.1 _ _ h5 (fun hx => by have := q st hx cell h5; rw [this] at h6; cases h6), h6, h7⟩
theorem own_ext_keep (E : Ext h h') (ws : List Addr) : Keep h h' ws := (Keep.refl h ws).ext E
/-- an array at a: n places, the j-th holds f j -/
def own_Arf (Z : State) (h : Heap) (a : Addr) (ty : FieldType) (n : Nat) (f : Nat → Value) : Prop := ∃ c : Cell, Arr Z h a c ty ∧ c.slots.size = n ∧ ∀ j, j < n → c.slots[j]? = some (f j)
theorem own_Arf.lt {a : Nat} {ty : FieldType} {n : Nat} {f : Nat → Value} (F : own_Arf Z h a ty n f) : a < h.size := by obtain ⟨c, A, -⟩ := F; exact A.lt
theorem own_Arf.ext {a : Addr} {ty : FieldType} {n : Nat} {f : Nat → Value} (F : own_Arf Z h a ty n f) (E : Ext h h') : own_Arf Z h' a ty n f := by obtain ⟨c, A, r⟩ := F; exact ⟨c, A.ext E, r⟩
theorem own_Arf.other {a b : Addr} {ty : FieldType} {n : Nat} {f : Nat → Value} {sl : Nat} {v : Value} (F : own_Arf Z h b ty n f) (W : Wr h h' a sl v) (q : b ≠ a) : own_Arf Z h' b ty n f := by obtain ⟨c, A, r⟩ := F; exact ⟨c, A.other W q, r⟩
theorem own_Arf.keep {a : Addr} {ty : FieldType} {n : Nat} {f : Nat → Value} {ws : List Addr} (F : own_Arf Z h a ty n f) (K : Keep h h' ws) (q : a ∉ ws) : own_Arf Z h' a ty n f := by obtain ⟨c, A, r⟩ := F; exact ⟨c, ⟨K.2.1 a c A.1 q, A.2⟩, r⟩
theorem own_Arf.congr {a : Addr} {ty : FieldType} {n : Nat} {f f' : Nat → Value} (F : own_Arf Z h a ty n f) (q : ∀ j, j < n → f j = f' j) : own_Arf Z h a ty n f' := by obtain ⟨c, A, r1, r2⟩ := F; exact ⟨c, A, r1, fun j hj => by rw [← q j hj]; exact r2 j hj⟩
theorem own_Arf.set {a : Addr} {ty : FieldType} {n : Nat} {f : Nat → Value} {i : Nat} {v : Value} (F : own_Arf Z h a ty n f) (W : Wr h h' a i v) : own_Arf Z h' a ty n (fun k => if k = i then v else f k) := by
  obtain ⟨c, A, r1, r2⟩ := F
  refine ⟨c.setSlot i v, A.same W, by rw [sz_set]; exact r1, fun j hj => ?_⟩
  show (c.slots.setIfInBounds i v)[j]? = some (if j = i then v else f j)
  by_cases q : j = i
  · subst q
    simp [r1, hj]
  · rw [Array.getElem?_setIfInBounds_ne (Ne.symm q), if_neg q]
    exact r2 j hj
theorem own_Arf.setI {a : Addr} {ty : FieldType} {n : Nat} {f : Nat → Int32} {i : Nat} {x : Int32} (F : own_Arf Z h a ty n (fun k => .int (f k))) (W : Wr h h' a i (.int x)) : own_Arf Z h' a ty n (fun k => .int (if k = i then x else f k)) :=
  (own_Arf.set F W).congr fun k _ => by show (if k = i then Value.int x else .int (f k)) = .int (if k = i then x else f k); split <;> rfl
theorem own_Arf.setJ {a : Addr} {ty : FieldType} {n : Nat} {f : Nat → Int64} {i : Nat} {x : Int64} (F : own_Arf Z h a ty n (fun k => .long (f k))) (W : Wr h h' a i (.long x)) : own_Arf Z h' a ty n (fun k => .long (if k = i then x else f k)) :=
  (own_Arf.set F W).congr fun k _ => by show (if k = i then Value.long x else .long (f k)) = .long (if k = i then x else f k); split <;> rfl
theorem own_inb {c : Cell} {n : Nat} {j : Int32} (S : c.slots.size = n) (q : 0 ≤ j.toInt ∧ j.toInt < (n : Int)) : ¬ (j < 0 ∨ c.slots.size ≤ j.toNatClampNeg) := by
  rw [S]
  rintro (q1 | q1)
  · have := Int32.lt_iff_toInt_lt.mp q1
    simp at this
    omega
  · have h1 : j.toNatClampNeg = j.toInt.toNat := rfl
    omega
theorem own_idx {n : Nat} {j : Int32} (q : 0 ≤ j.toInt ∧ j.toInt < (n : Int)) : j.toNatClampNeg < n := by
  have h1 : j.toNatClampNeg = j.toInt.toNat := rfl
  omega
theorem own_newP (X : Stand p l e R s m args below meth c T locs cells slots) (hx : p.tables.exec = Jvm.exec) (hZ : Z.Warmed39 s.vm) {aty : ArrayType} (w : (Jvm.Cond.arrayClass (newarray.typeOf aty)).before a0 Z = true) (eT : T.heap = h) {g : JFrame} (hg : g.method = m) (hd : decode c.code g.pc = .ok (.newarray aty, 2)) {n : Int32} {rest : List Value} (hs : g.stack = .int n :: rest)
    (hn : ¬ n < 0) {cap : Nat} (hcap : n.toNatClampNeg ≤ cap) (hb : cap * 8 ≤ 536870912) (hc : cells + 1 ≤ R.cells) (hl : slots + cap ≤ R.slots) :
    ∃ T' h', Stand p l e R s m args below meth c T' locs (cells + 1) (slots + cap) ∧ T'.heap = h' ∧ Ext h h' ∧ own_Arf Z h' h.size (newarray.typeOf aty) n.toNatClampNeg (fun _ => defaultValue (newarray.typeOf aty)) ∧
      ∀ target, Steps p.tables e below (T'.setTop { g with pc := g.pc + 2, stack := .ref h.size :: rest }) target → Steps p.tables e below (T.setTop g) target := by
  obtain ⟨T', h', cA, X', e', E', A', st⟩ := newP X hx hZ w eT hg hd hs hn hcap hb hc hl
  refine ⟨T', h', X', e', E', ⟨_, A', sz_new _ _ _, fun j hj => ?_⟩, st⟩
  simp [newA, hj]
theorem own_newPE (X : Stand p l e R s m args below meth c T locs cells slots) (hx : p.tables.exec = Jvm.exec) (hZ : Z.Warmed39 s.vm) {aty : ArrayType} (w : (Jvm.Cond.arrayClass (newarray.typeOf aty)).before a0 Z = true) (eT : T.heap = h) {g : JFrame} (hg : g.method = m) (hd : decode c.code g.pc = .ok (.newarray aty, 2)) {n : Int32} {rest : List Value} (hs : g.stack = .int n :: rest)
    (hn : ¬ n < 0) {cap : Nat} (hcap : n.toNatClampNeg ≤ cap) (hb : cap * 8 ≤ 536870912) (hc : cells + 1 ≤ R.cells) (hl : slots + cap ≤ R.slots) {ad : String} (had : "[" ++ (newarray.typeOf aty).toString = ad) :
    ∃ T' h', Stand p l e R s m args below meth c T' locs (cells + 1) (slots + cap) ∧ T'.heap = h' ∧ Ext h h' ∧ own_Arf Z h' h.size (newarray.typeOf aty) n.toNatClampNeg (fun _ => defaultValue (newarray.typeOf aty)) ∧ Exa Z h' h.size ad ∧
      ∀ target, Steps p.tables e below (T'.setTop { g with pc := g.pc + 2, stack := .ref h.size :: rest }) target → Steps p.tables e below (T.setTop g) target := by
  obtain ⟨T', h', cA, X', e', E', A', Ex, st⟩ := newPE X hx hZ w eT hg hd hs hn hcap hb hc hl had
  refine ⟨T', h', X', e', E', ⟨_, A', sz_new _ _ _, fun j hj => ?_⟩, Ex, st⟩
  simp [newA, hj]
theorem own_cloneA (X : Stand p l e R s m args below meth c T locs cells slots) (hx : p.tables.exec = Jvm.exec) (hZ : Z.Warmed39 s.vm) {own ad : String} {index : Nat} (hown : s.vm.findClass own = some m.cls)
    (w1 : (Jvm.Cond.methodLink own index ⟨ad, "clone", "()Ljava/lang/Object;"⟩).before a0 Z = true) (w2 : (Jvm.Cond.sameMethod ad "java/lang/Object" "clone" "()Ljava/lang/Object;").before a0 Z = true) (w3 : (Jvm.Cond.native ⟨"java/lang/Object", "clone", "()Ljava/lang/Object;"⟩).before a0 Z = true)
    (w4 : (Jvm.Cond.instanceMethod ⟨"java/lang/Object", "clone", "()Ljava/lang/Object;"⟩).before a0 Z = true) (w5 : (Jvm.Cond.selects ad ⟨ad, "clone", "()Ljava/lang/Object;"⟩ ⟨"java/lang/Object", "clone", "()Ljava/lang/Object;"⟩).before a0 Z = true) (w6 : (Jvm.Cond.castable ad "java/lang/Cloneable").before a0 Z = true)
    (eT : T.heap = h) {a : Addr} {ty : FieldType} {n : Nat} {f : Nat → Value} (A : own_Arf Z h a ty n f) (E : Exa Z h a ad) (hfit : ∀ k, k < n → fits ty (f k) = true) {g : JFrame} (hg : g.method = m) (hsize : g.locals.size = c.maxLocals) {rest : List Value} (hs : g.stack = .ref a :: rest) (hd : decode c.code g.pc = .ok (.invokevirtual index, 3))
    (hf : 1 ≤ R.frames) {W : Nat} (hW : 2 * g.monitorRoom + (rest.map fun v => v.category).sum ≤ W) (hl : W + 14 ≤ R.locals) (hc : cells + 1 ≤ R.cells) (hsl : slots + n ≤ R.slots) :
    ∃ T' h', Stand p l e R s m args below meth c T' locs (cells + 1) (slots + n) ∧ T'.heap = h' ∧ Ext h h' ∧ own_Arf Z h' h.size ty n f ∧ Exa Z h' h.size ad ∧
      ∀ target, Steps p.tables e below (T'.setTop { g with pc := g.pc + 3, stack := .ref h.size :: rest }) target → Steps p.tables e below (T.setTop g) target := by
  obtain ⟨cl, A1, A2, A3⟩ := A
  have FC : FitC Z cl := fitC_of A1 fun i hi v hv => by
    rw [A3 i (by omega)] at hv
    cases hv
    exact hfit i (by omega)
  obtain ⟨T', h', X', e', ex, A', E', st⟩ := cloneA X hx hZ hown w1 w2 w3 w4 w5 w6 eT A1 E FC hg hsize hs hd hf hW hl (Nat.le_of_eq A2) hc hsl
  exact ⟨T', h', X', e', ex, ⟨cloneOf cl, A', A2, A3⟩, E', st⟩
theorem own_len (X : Stand p l e R s m args below meth c T locs cells slots) (hx : p.tables.exec = Jvm.exec) (hZ : Z.Warmed39 s.vm) (eT : T.heap = h) {a : Addr} {ty : FieldType} {n : Nat} {f : Nat → Value} (A : own_Arf Z h a ty n f) {g : JFrame} (hg : g.method = m) {rest : List Value} (hs : g.stack = .ref a :: rest) (hd : decode c.code g.pc = .ok (.arraylength, 1)) :
    ∀ t, Steps p.tables e below (T.setTop { g with pc := g.pc + 1, stack := .int n.toInt32 :: rest }) t → Steps p.tables e below (T.setTop g) t := by
  obtain ⟨cl, A1, A2, A3⟩ := A
  intro t k
  subst A2
  exact X.arraylength hx (by rw [eT]; exact A1.1) (State.isArrayOf_alike hZ.alike A1.2.1) hg hs hd _ k
theorem own_ldI (X : Stand p l e R s m args below meth c T locs cells slots) (hx : p.tables.exec = Jvm.exec) (hZ : Z.Warmed39 s.vm) (eT : T.heap = h) {a : Addr} {n : Nat} {f : Nat → Int32} (A : own_Arf Z h a .int n (fun k => .int (f k))) {j : Int32} (q : 0 ≤ j.toInt ∧ j.toInt < (n : Int)) {g : JFrame} (hg : g.method = m) {rest : List Value} (hs : g.stack = .int j :: .ref a :: rest) (hd : decode c.code g.pc = .ok (.iaload, 1)) :
    ∀ t, Steps p.tables e below (T.setTop { g with pc := g.pc + 1, stack := .int (f j.toNatClampNeg) :: rest }) t → Steps p.tables e below (T.setTop g) t := by
  obtain ⟨cl, A1, A2, A3⟩ := A
  exact fun t k => X.iaload hx (by rw [eT]; exact A1.1) (State.isArrayOf_alike hZ.alike A1.2.1) A1.2.2 (own_inb A2 q) (A3 _ (own_idx q)) hg hs hd _ k
theorem own_ldJ (X : Stand p l e R s m args below meth c T locs cells slots) (hx : p.tables.exec = Jvm.exec) (hZ : Z.Warmed39 s.vm) (eT : T.heap = h) {a : Addr} {n : Nat} {f : Nat → Int64} (A : own_Arf Z h a .long n (fun k => .long (f k))) {j : Int32} (q : 0 ≤ j.toInt ∧ j.toInt < (n : Int)) {g : JFrame} (hg : g.method = m) {rest : List Value} (hs : g.stack = .int j :: .ref a :: rest) (hd : decode c.code g.pc = .ok (.laload, 1)) :
    ∀ t, Steps p.tables e below (T.setTop { g with pc := g.pc + 1, stack := .long (f j.toNatClampNeg) :: rest }) t → Steps p.tables e below (T.setTop g) t := by
  obtain ⟨cl, A1, A2, A3⟩ := A
  exact fun t k => X.laload hx (by rw [eT]; exact A1.1) (State.isArrayOf_alike hZ.alike A1.2.1) A1.2.2 (own_inb A2 q) (A3 _ (own_idx q)) hg hs hd _ k
theorem own_ldC (X : Stand p l e R s m args below meth c T locs cells slots) (hx : p.tables.exec = Jvm.exec) (hZ : Z.Warmed39 s.vm) (eT : T.heap = h) {a : Addr} {n : Nat} {f : Nat → Int32} (A : own_Arf Z h a .char n (fun k => .int (f k))) {j : Int32} (q : 0 ≤ j.toInt ∧ j.toInt < (n : Int)) {g : JFrame} (hg : g.method = m) {rest : List Value} (hs : g.stack = .int j :: .ref a :: rest) (hd : decode c.code g.pc = .ok (.caload, 1)) :
    ∀ t, Steps p.tables e below (T.setTop { g with pc := g.pc + 1, stack := .int (f j.toNatClampNeg) :: rest }) t → Steps p.tables e below (T.setTop g) t := by
  obtain ⟨cl, A1, A2, A3⟩ := A
  exact fun t k => X.caload hx (by rw [eT]; exact A1.1) (State.isArrayOf_alike hZ.alike A1.2.1) A1.2.2 (own_inb A2 q) (A3 _ (own_idx q)) hg hs hd _ k
theorem own_ldS (X : Stand p l e R s m args below meth c T locs cells slots) (hx : p.tables.exec = Jvm.exec) (hZ : Z.Warmed39 s.vm) (eT : T.heap = h) {a : Addr} {n : Nat} {f : Nat → Int32} (A : own_Arf Z h a .short n (fun k => .int (f k))) {j : Int32} (q : 0 ≤ j.toInt ∧ j.toInt < (n : Int)) {g : JFrame} (hg : g.method = m) {rest : List Value} (hs : g.stack = .int j :: .ref a :: rest) (hd : decode c.code g.pc = .ok (.saload, 1)) :
    ∀ t, Steps p.tables e below (T.setTop { g with pc := g.pc + 1, stack := .int (f j.toNatClampNeg) :: rest }) t → Steps p.tables e below (T.setTop g) t := by
  obtain ⟨cl, A1, A2, A3⟩ := A
  exact fun t k => X.saload hx (by rw [eT]; exact A1.1) (State.isArrayOf_alike hZ.alike A1.2.1) A1.2.2 (own_inb A2 q) (A3 _ (own_idx q)) hg hs hd _ k
theorem own_ldB (X : Stand p l e R s m args below meth c T locs cells slots) (hx : p.tables.exec = Jvm.exec) (hZ : Z.Warmed39 s.vm) (eT : T.heap = h) {a : Addr} {n : Nat} {f : Nat → Int32} (A : own_Arf Z h a .byte n (fun k => .int (f k))) {j : Int32} (q : 0 ≤ j.toInt ∧ j.toInt < (n : Int)) {g : JFrame} (hg : g.method = m) {rest : List Value} (hs : g.stack = .int j :: .ref a :: rest) (hd : decode c.code g.pc = .ok (.baload, 1)) :
    ∀ t, Steps p.tables e below (T.setTop { g with pc := g.pc + 1, stack := .int (f j.toNatClampNeg) :: rest }) t → Steps p.tables e below (T.setTop g) t := by
  obtain ⟨cl, A1, A2, A3⟩ := A
  exact fun t k => X.baloadBytes hx (by rw [eT]; exact A1.1) (State.isArrayOf_alike hZ.alike A1.2.1) A1.2.2 (own_inb A2 q) (A3 _ (own_idx q)) hg hs hd _ k
theorem own_ldR (X : Stand p l e R s m args below meth c T locs cells slots) (hx : p.tables.exec = Jvm.exec) (hZ : Z.Warmed39 s.vm) (eT : T.heap = h) {a : Addr} {ty : FieldType} (hty : ty.isReference = true) {n : Nat} {f : Nat → Value} (A : own_Arf Z h a ty n f) {j : Int32} (q : 0 ≤ j.toInt ∧ j.toInt < (n : Int)) {g : JFrame} (hg : g.method = m) {rest : List Value} (hs : g.stack = .int j :: .ref a :: rest) (hd : decode c.code g.pc = .ok (.aaload, 1)) :
    ∀ t, Steps p.tables e below (T.setTop { g with pc := g.pc + 1, stack := f j.toNatClampNeg :: rest }) t → Steps p.tables e below (T.setTop g) t := by
  obtain ⟨cl, A1, A2, A3⟩ := A
  exact fun t k => X.aaload hx (by rw [eT]; exact A1.1) (State.isArrayOf_alike hZ.alike A1.2.1) hty A1.2.2 (own_inb A2 q) (A3 _ (own_idx q)) hg hs hd _ k
theorem own_stI (X : Stand p l e R s m args below meth c T locs cells slots) (hx : p.tables.exec = Jvm.exec) (hZ : Z.Warmed39 s.vm) (eT : T.heap = h) {a : Addr} {n : Nat} {f : Nat → Int32} (A : own_Arf Z h a .int n (fun k => .int (f k))) {j x : Int32} (q : 0 ≤ j.toInt ∧ j.toInt < (n : Int)) {g : JFrame} (hg : g.method = m) {rest : List Value} (hs : g.stack = .int x :: .int j :: .ref a :: rest) (hd : decode c.code g.pc = .ok (.iastore, 1)) :
    ∃ T' h', Stand p l e R s m args below meth c T' (locs ++ [⟨a, j.toNatClampNeg⟩]) cells slots ∧ T'.heap = h' ∧ Wr h h' a j.toNatClampNeg (.int x) ∧ own_Arf Z h' a .int n (fun k => .int (if k = j.toNatClampNeg then x else f k)) ∧ ∀ t, Steps p.tables e below (T'.setTop { g with pc := g.pc + 1, stack := rest }) t → Steps p.tables e below (T.setTop g) t := by
  obtain ⟨cl, A1, A2, A3⟩ := id A
  obtain ⟨T', h', X', e', W, st⟩ := stI X hx hZ eT A1 (own_inb A2 q) hg hs hd
  exact ⟨T', h', X', e', W, own_Arf.setI A W, st⟩
theorem own_stJ (X : Stand p l e R s m args below meth c T locs cells slots) (hx : p.tables.exec = Jvm.exec) (hZ : Z.Warmed39 s.vm) (eT : T.heap = h) {a : Addr} {n : Nat} {f : Nat → Int64} (A : own_Arf Z h a .long n (fun k => .long (f k))) {j : Int32} {x : Int64} (q : 0 ≤ j.toInt ∧ j.toInt < (n : Int)) {g : JFrame} (hg : g.method = m) {rest : List Value} (hs : g.stack = .long x :: .int j :: .ref a :: rest) (hd : decode c.code g.pc = .ok (.lastore, 1)) :
    ∃ T' h', Stand p l e R s m args below meth c T' (locs ++ [⟨a, j.toNatClampNeg⟩]) cells slots ∧ T'.heap = h' ∧ Wr h h' a j.toNatClampNeg (.long x) ∧ own_Arf Z h' a .long n (fun k => .long (if k = j.toNatClampNeg then x else f k)) ∧ ∀ t, Steps p.tables e below (T'.setTop { g with pc := g.pc + 1, stack := rest }) t → Steps p.tables e below (T.setTop g) t := by
  obtain ⟨cl, A1, A2, A3⟩ := id A
  obtain ⟨T', h', X', e', W, st⟩ := stJ X hx hZ eT A1 (own_inb A2 q) hg hs hd
  exact ⟨T', h', X', e', W, own_Arf.setJ A W, st⟩
theorem own_stC (X : Stand p l e R s m args below meth c T locs cells slots) (hx : p.tables.exec = Jvm.exec) (hZ : Z.Warmed39 s.vm) (eT : T.heap = h) {a : Addr} {n : Nat} {f : Nat → Int32} (A : own_Arf Z h a .char n (fun k => .int (f k))) {j x : Int32} (q : 0 ≤ j.toInt ∧ j.toInt < (n : Int)) {g : JFrame} (hg : g.method = m) {rest : List Value} (hs : g.stack = .int x :: .int j :: .ref a :: rest) (hd : decode c.code g.pc = .ok (.castore, 1)) :
    ∃ T' h', Stand p l e R s m args below meth c T' (locs ++ [⟨a, j.toNatClampNeg⟩]) cells slots ∧ T'.heap = h' ∧ Wr h h' a j.toNatClampNeg (.int (nar .char x)) ∧ own_Arf Z h' a .char n (fun k => .int (if k = j.toNatClampNeg then nar .char x else f k)) ∧ ∀ t, Steps p.tables e below (T'.setTop { g with pc := g.pc + 1, stack := rest }) t → Steps p.tables e below (T.setTop g) t := by
  obtain ⟨cl, A1, A2, A3⟩ := id A
  obtain ⟨T', h', X', e', W, st⟩ := stC X hx hZ eT A1 (own_inb A2 q) hg hs hd
  exact ⟨T', h', X', e', W, own_Arf.setI A W, st⟩
theorem own_stS (X : Stand p l e R s m args below meth c T locs cells slots) (hx : p.tables.exec = Jvm.exec) (hZ : Z.Warmed39 s.vm) (eT : T.heap = h) {a : Addr} {n : Nat} {f : Nat → Int32} (A : own_Arf Z h a .short n (fun k => .int (f k))) {j x : Int32} (q : 0 ≤ j.toInt ∧ j.toInt < (n : Int)) {g : JFrame} (hg : g.method = m) {rest : List Value} (hs : g.stack = .int x :: .int j :: .ref a :: rest) (hd : decode c.code g.pc = .ok (.sastore, 1)) :
    ∃ T' h', Stand p l e R s m args below meth c T' (locs ++ [⟨a, j.toNatClampNeg⟩]) cells slots ∧ T'.heap = h' ∧ Wr h h' a j.toNatClampNeg (.int (nar .short x)) ∧ own_Arf Z h' a .short n (fun k => .int (if k = j.toNatClampNeg then nar .short x else f k)) ∧ ∀ t, Steps p.tables e below (T'.setTop { g with pc := g.pc + 1, stack := rest }) t → Steps p.tables e below (T.setTop g) t := by
  obtain ⟨cl, A1, A2, A3⟩ := id A
  obtain ⟨T', h', X', e', W, st⟩ := stS X hx hZ eT A1 (own_inb A2 q) hg hs hd
  exact ⟨T', h', X', e', W, own_Arf.setI A W, st⟩
theorem own_stB (X : Stand p l e R s m args below meth c T locs cells slots) (hx : p.tables.exec = Jvm.exec) (hZ : Z.Warmed39 s.vm) (eT : T.heap = h) {a : Addr} {n : Nat} {f : Nat → Int32} (A : own_Arf Z h a .byte n (fun k => .int (f k))) {j x : Int32} (q : 0 ≤ j.toInt ∧ j.toInt < (n : Int)) {g : JFrame} (hg : g.method = m) {rest : List Value} (hs : g.stack = .int x :: .int j :: .ref a :: rest) (hd : decode c.code g.pc = .ok (.bastore, 1)) :
    ∃ T' h', Stand p l e R s m args below meth c T' (locs ++ [⟨a, j.toNatClampNeg⟩]) cells slots ∧ T'.heap = h' ∧ Wr h h' a j.toNatClampNeg (.int (nar .byte x)) ∧ own_Arf Z h' a .byte n (fun k => .int (if k = j.toNatClampNeg then nar .byte x else f k)) ∧ ∀ t, Steps p.tables e below (T'.setTop { g with pc := g.pc + 1, stack := rest }) t → Steps p.tables e below (T.setTop g) t := by
  obtain ⟨cl, A1, A2, A3⟩ := id A
  obtain ⟨T', h', X', e', W, st⟩ := stB X hx hZ eT A1 (own_inb A2 q) hg hs hd
  exact ⟨T', h', X', e', W, own_Arf.setI A W, st⟩
theorem own_newR (X : Stand p l e R s m args below meth c T locs cells slots) (hx : p.tables.exec = Jvm.exec) (hZ : Z.Warmed39 s.vm) {own C : String} {index : Nat} (hown : s.vm.findClass own = some m.cls) (w1 : (Jvm.Cond.classLink own index C).before a0 Z = true) (w2 : (Jvm.Cond.arrayOver (.object C)).before a0 Z = true)
    (eT : T.heap = h) {g : JFrame} (hg : g.method = m) (hd : decode c.code g.pc = .ok (.anewarray index, 3)) {n : Int32} {rest : List Value} (hs : g.stack = .int n :: rest) (hn : ¬ n < 0) {cap : Nat} (hcap : n.toNatClampNeg ≤ cap) (hb : cap * 8 ≤ 536870912) (hc : cells + 1 ≤ R.cells) (hl : slots + cap ≤ R.slots) :
    ∃ T' h', Stand p l e R s m args below meth c T' locs (cells + 1) (slots + cap) ∧ T'.heap = h' ∧ Ext h h' ∧ (∃ cl : Cell, h'[h.size]? = some cl ∧ Ovr Z cl.cls C) ∧ own_Arf Z h' h.size (.object C) n.toNatClampNeg (fun _ => .null) ∧
      ∀ target, Steps p.tables e below (T'.setTop { g with pc := g.pc + 3, stack := .ref h.size :: rest }) target → Steps p.tables e below (T.setTop g) target := by
  obtain ⟨T', h', cA, X', e', E', A', O', st⟩ := newR X hx hZ hown w1 w2 eT hg hd hs hn hcap hb hc hl
  refine ⟨T', h', X', e', E', ⟨_, A'.1, O'⟩, ⟨_, A', sz_new _ _ _, fun j hj => ?_⟩, st⟩
  simp [newA, hj, defaultValue]
/-- an array of objects of C: the class of the array is C's -/
def own_Ovr (Z : State) (h : Heap) (a : Addr) (C : String) : Prop := ∃ cl : Cell, h[a]? = some cl ∧ Ovr Z cl.cls C
theorem own_Ovr.ext {a : Addr} {C : String} (F : own_Ovr Z h a C) (E : Ext h h') : own_Ovr Z h' a C := by obtain ⟨cl, h1, h2⟩ := F; exact ⟨cl, E.2 _ _ h1, h2⟩
theorem own_Ovr.wr {a b : Addr} {C : String} {sl : Nat} {v : Value} (F : own_Ovr Z h a C) (W : Wr h h' b sl v) : own_Ovr Z h' a C := by
  obtain ⟨cl, h1, h2⟩ := F
  obtain ⟨c', e1, e2, -⟩ := wr_at W h1
  exact ⟨c', e1, by rw [e2]; exact h2⟩
theorem own_Ovr.keep {a : Addr} {C : String} {ws : List Addr} (F : own_Ovr Z h a C) (K : Keep h h' ws) : own_Ovr Z h' a C := by
  obtain ⟨cl, h1, h2⟩ := F
  obtain ⟨c', e1, e2, -⟩ := K.2.2 _ _ h1
  exact ⟨c', e1, by rw [e2]; exact h2⟩
theorem own_stR (X : Stand p l e R s m args below meth c T locs cells slots) (hx : p.tables.exec = Jvm.exec) (hZ : Z.Warmed39 s.vm) (eT : T.heap = h) {a : Addr} {C : String} {n : Nat} {f : Nat → Value} (A : own_Arf Z h a (.object C) n f) (O : own_Ovr Z h a C) {j : Int32} {v : Value} (I : v = .null ∨ ∃ y, v = .ref y ∧ Ins Z h y C true) (q : 0 ≤ j.toInt ∧ j.toInt < (n : Int)) {g : JFrame} (hg : g.method = m) {rest : List Value} (hs : g.stack = v :: .int j :: .ref a :: rest) (hd : decode c.code g.pc = .ok (.aastore, 1)) :
    ∃ T' h', Stand p l e R s m args below meth c T' (locs ++ [⟨a, j.toNatClampNeg⟩]) cells slots ∧ T'.heap = h' ∧ Wr h h' a j.toNatClampNeg v ∧ own_Arf Z h' a (.object C) n (fun k => if k = j.toNatClampNeg then v else f k) ∧ own_Ovr Z h' a C ∧ ∀ t, Steps p.tables e below (T'.setTop { g with pc := g.pc + 1, stack := rest }) t → Steps p.tables e below (T.setTop g) t := by
  obtain ⟨cl, A1, A2, A3⟩ := id A
  obtain ⟨cl2, o1, o2⟩ := id O
  cases A1.1.symm.trans o1
  have F : Sto Z h a v := by
    rcases I with rfl | ⟨y, rfl, I⟩
    · exact Or.inl rfl
    · exact Sto.of A1 o2 I
  obtain ⟨T', h', X', e', W, st⟩ := stR X hx hZ eT A1 (own_inb A2 q) rfl F hg hs hd
  exact ⟨T', h', X', e', W, own_Arf.set A W, O.wr W, st⟩
end OwnKit
section OwnKitW
variable {p : Program} {l : Launch} {e : Env} {R : Room} {s : State} {m : MethodId} {args : Array Value} {below : List Frame} {meth : Method} {c : Code} {T : State} {locs : List Loc} {cells slots : Nat} {Z : State} {a0 : Array Value} {h h' : Heap} {vm0 vm1 : Vm} {k0 : Nat} {Q : Option Value → Heap → Vm → List Loc → Prop}
/-- own_Goes for a walk that may load a String constant: the tables may have grown too -/
def own_GoesW (p : Program) (e : Env) (below : List Frame) (s : State) (R : Room) (Q : Option Value → Heap → Vm → List Loc → Prop) (U : State) : Prop :=
  ∃ s₂ o, Steps p.tables e below U s₂ ∧ s₂.status = .running ∧ Ended s₂ below o ∧ ∃ v L, o = .returned v ∧ Q v s₂.heap s₂.vm L ∧ ReturnedEndW s o s₂ L R.cells R.slots
theorem own_stW {U U' : State} (k : ∀ t, Steps p.tables e below U' t → Steps p.tables e below U t) (g : own_GoesW p e below s R Q U') : own_GoesW p e below s R Q U := by
  obtain ⟨s₂, o, h1, h2⟩ := g
  exact ⟨s₂, o, k _ h1, h2⟩
theorem own_finW (X : Stand p l e R (s.setVm vm0) m args below meth c T locs cells slots) (hS : s.Since vm0 k0) (hk0 : k0 ≤ T.heap.size) (hk : meth.locks = false) {v : Option Value} (hv : meth.sig.returnType = none → v = none) {U : State}
    (hs : ∀ fs, (∀ (f : JFrame) (acts : List Action), f.method = m → f.locked = none → f.entered = [] → (doReturn e (T.setTop f) acts v).1 = T.setFrames fs) → Steps p.tables e below U (T.setFrames fs))
    (hc : cells ≤ R.cells) (hl : slots ≤ R.slots) (q : Q v T.heap T.vm locs) : own_GoesW p e below s R Q U := by
  obtain ⟨fs, hr, hrun, hended, hE1, hE2, hE3, hE4⟩ := X.leaveW hS hk0 hv hk
  exact ⟨_, _, hs fs hr, hrun, hended, v, locs, rfl, q, hE1, hE2, hE3, hE4.mono hc hl⟩
theorem own_retRW (X : Stand p l e R (s.setVm vm0) m args below meth c T locs cells slots) (hx : p.tables.exec = Jvm.exec) (hS : s.Since vm0 k0) (hk0 : k0 ≤ T.heap.size) (hk : meth.locks = false) {pc : Nat} {Ls : Array Slot} {w : Value} {t : FieldType} {rest : List Value} (hret : meth.sig.returnType = some t) (ht : t.isReference = true) (hw : w.isRef = true)
    (hd : decode c.code pc = .ok (.areturn, 1)) (hc : cells ≤ R.cells) (hl : slots ≤ R.slots) (q : Q (some w) T.heap T.vm locs) : own_GoesW p e below s R Q (T.setTop (mkF m pc Ls (w :: rest))) :=
  own_finW X hS hk0 hk (fun h => by rw [hret] at h; cases h) (fun fs hr => retOut X hx hret (own_narR ht hw) (Or.inr (Or.inr (Or.inr (Or.inr ⟨rfl, ht, hw⟩)))) hd hr) hc hl q
theorem own_retNW (X : Stand p l e R (s.setVm vm0) m args below meth c T locs cells slots) (hx : p.tables.exec = Jvm.exec) (hS : s.Since vm0 k0) (hk0 : k0 ≤ T.heap.size) (hk : meth.locks = false) {pc : Nat} {Ls : Array Slot} {z : Int32} (z' : Int32) {t : FieldType} {rest : List Value} (hret : meth.sig.returnType = some t) (ht : t = .boolean ∨ t = .byte ∨ t = .char ∨ t = .short) (hz : nar t z = z')
    (hd : decode c.code pc = .ok (.ireturn, 1)) (hc : cells ≤ R.cells) (hl : slots ≤ R.slots) (q : Q (some (.int z')) T.heap T.vm locs) : own_GoesW p e below s R Q (T.setTop (mkF m pc Ls (.int z :: rest))) := by
  subst hz
  exact own_finW X hS hk0 hk (fun h => by rw [hret] at h; cases h) (fun fs hr => retN X hx hret ht hd hr) hc hl q
theorem own_ret0W (X : Stand p l e R (s.setVm vm0) m args below meth c T locs cells slots) (hx : p.tables.exec = Jvm.exec) (hS : s.Since vm0 k0) (hk0 : k0 ≤ T.heap.size) (hk : meth.locks = false) {pc : Nat} {Ls : Array Slot} (hret : meth.sig.returnType = none)
    (hd : decode c.code pc = .ok (.return_, 1)) (hc : cells ≤ R.cells) (hl : slots ≤ R.slots) (q : Q none T.heap T.vm locs) : own_GoesW p e below s R Q (T.setTop (mkF m pc Ls [])) :=
  own_finW X hS hk0 hk (fun _ => rfl) (fun fs hr => X.returnOut hx hret hd hr) hc hl q
theorem own_enterW {y : MethodName} {bytes : ByteArray} {maxL : Nat} {ret : Option FieldType} {ws : List Jvm.Cond} {as' : Array Value} {h0 : Heap} {F : MethodId → JFrame} {Pv : Vm → Prop}
    (hp : plainFor y = true) (hf : ∀ m, entryFrame m as' maxL = F m)
    (body : ∀ (p : Program) (e : Env) (s : State) (vm0 : Vm) (m : MethodId) (below : List Frame) (meth : Method) (c : Code) (T : State), Stand p l e R (s.setVm vm0) m as' below meth c T [] 0 0 → s.Since vm0 0 → p.tables.exec = Jvm.exec → c.code = bytes → c.maxLocals = maxL → meth.sig.returnType = ret → meth.locks = false → meth.name = y.name → vm0.findClass y.cls = some m.cls → Z.Warmed39 vm0 → T.heap = h0 → s.heap = h0 → Pv vm0 → own_GoesW p e below s R Q (T.setTop (F m))) :
    MetFree l y (head1 (Jvm.Cond.code y bytes maxL ret :: ws) R) (fun a U => a = as' ∧ Z.Warmed39 U.vm ∧ U.heap = h0 ∧ Pv U.vm) (fun _ _ _ _ _ => True) (fun _ U o U' => ∃ v L, o = .returned v ∧ Q v U'.heap U'.vm L ∧ ReturnedEndW U o U' L R.cells R.slots) := by
  refine MetFree.of_bodySF hp hisR ?_
  intro p e s m args below meth c s₁ Bd hml0 hP hK
  obtain ⟨rfl, hZ, hh, hv⟩ := hP
  have e0 : s₁.heap = h0 := by rw [← hh, Bd.state]; rfl
  have X0 : Stand p l e R (s.setVm s.vm) m args below meth c s₁ [] 0 0 := Stand.of_body Bd
  have g := body p e s s.vm m below meth c s₁ X0 ((State.WarmedH.refl s).since 0) Bd.exec Bd.bytes hml0 Bd.returns Bd.notSynchronized (name_of_methodNamed Bd.named Bd.method).1 (findClass_of_methodNamed Bd.named) hZ e0 hh hv
  rw [hf]
  exact g
theorem own_backW {y : MethodName} {bytes : ByteArray} {maxL : Nat} {ret : Option FieldType} {rm : Room} {len W : Nat} {as' : Array Value} {Pv : Vm → Prop}
    (hM : MetFree l y (head1 [Jvm.Cond.code y bytes maxL ret] rm) (fun a U => a = as' ∧ Z.Warmed39 U.vm ∧ U.heap = h ∧ Pv U.vm) (fun _ _ _ _ _ => True) (fun _ U o U' => ∃ v L, o = .returned v ∧ Q v U'.heap U'.vm L ∧ ReturnedEndW U o U' L rm.cells rm.slots))
    (hZ : Z.Warmed39 s.vm) (hPv : ∀ vm', s.WarmedH vm' → Pv vm') (wc : (Jvm.Cond.code y bytes maxL ret).before a0 Z = true) (wz : (Jvm.Cond.initialized y.cls).before a0 Z = true) (hf : rm.frames + 1 ≤ R.frames) (hl : W + (maxL + 11) + rm.locals ≤ R.locals) :
    BackS l R p e below s args y len W (fun A a => a = as' ∧ A.U.heap = h ∧ A.cells + rm.cells ≤ R.cells ∧ A.slots + rm.slots ≤ R.slots)
      (fun A _ v B => ∃ L, Q v B.U.heap B.U.vm L ∧ B.locs = A.locs ++ L ∧ B.cells = A.cells + rm.cells ∧ B.slots = A.slots + rm.slots) :=
  BackS.of_freeW (bytes := bytes) (maxL := maxL) (ret := ret) (E := fun _ _ o t L k n => k = rm.cells ∧ n = rm.slots ∧ ∃ v, o = .returned v ∧ Q v t.heap t.vm L) hM hf hl
    (fun m meth c A a Y hp => have hU : Z.Warmed39 A.U.vm := wtrans hZ Y.warmed
      ⟨by show (Jvm.Cond.and _ .tt).before a A.U = true; rw [Cond.before_and, mv hU wc]; rfl, mv hU wc, mv hU wz, hp.2.2.1, hp.2.2.2⟩)
    (fun m meth c A a g mk Y hp => ⟨hp.1, wtrans hZ Y.warmed, hp.2.1, hPv _ Y.warmed⟩) (fun _ _ _ _ _ _ _ _ _ => trivial)
    (fun _ _ _ _ ⟨v, L, h1, h2, h3⟩ => ⟨L, _, _, h3, rfl, rfl, v, h1, h2⟩)
    (fun m meth c A a g mk v t L k n Y hp _ _ ⟨e1, e2, v', e3, e4⟩ => by cases e3; subst e1 e2; exact ⟨L, e4, rfl, rfl, rfl⟩)
theorem own_callSW (X : Stand p l e R (s.setVm vm0) m args below meth c T locs cells slots) (hS : s.Since vm0 k0) (hk0 : k0 ≤ T.heap.size) (hx : p.tables.exec = Jvm.exec) (hZ : Z.Warmed39 vm0) {own : String} {index : Nat} {y : MethodName} {bytes : ByteArray} {maxL : Nat} {ret : Option FieldType}
    (hown : vm0.findClass own = some m.cls) (w1 : (Jvm.Cond.methodLink own index y).before a0 Z = true) (w2 : (Jvm.Cond.static y).before a0 Z = true) (w3 : (Jvm.Cond.initialized y.cls).before a0 Z = true) (w4 : (Jvm.Cond.code y bytes maxL ret).before a0 Z = true)
    (hy : y.cls ≠ "java/lang/invoke/MethodHandle" ∧ y.cls ≠ "java/lang/invoke/VarHandle") {W : Nat} {rm : Room} {argsL rest : List Value} {Pv : Vm → Prop}
    (hM : MetFree l y (head1 [Jvm.Cond.code y bytes maxL ret] rm) (fun a U => a = argsL.toArray ∧ Z.Warmed39 U.vm ∧ U.heap = h ∧ Pv U.vm) (fun _ _ _ _ _ => True) (fun _ U o U' => ∃ v L, o = .returned v ∧ Q v U'.heap U'.vm L ∧ ReturnedEndW U o U' L rm.cells rm.slots)) (hPv : ∀ vm', (s.setVm vm0).WarmedH vm' → Pv vm')
    (hf : rm.frames + 1 ≤ R.frames) (hl : W + (maxL + 11) + rm.locals ≤ R.locals) (hc : cells + rm.cells ≤ R.cells) (hs : slots + rm.slots ≤ R.slots) (eT : T.heap = h)
    {ps : List FieldType} {r : Option FieldType} (hd : parseMethodDescriptor y.desc = some ⟨ps, r⟩) (hlen : argsL.length = ps.length)
    {g : JFrame} (hg : g.method = m) (hsize : g.locals.size = c.maxLocals) (hstack : g.stack = argsL.reverse ++ rest) (hW : 2 * g.monitorRoom + (rest.map fun v => v.category).sum ≤ W) (hdg : decode c.code g.pc = .ok (.invokestatic index, 3)) :
    ∃ (v : Option Value) (T' : State) (L : List Loc) (vm1 : Vm) (k1 : Nat), Stand p l e R (s.setVm vm1) m args below meth c T' (locs ++ L) (cells + rm.cells) (slots + rm.slots) ∧ s.Since vm1 k1 ∧ k1 ≤ T'.heap.size ∧ Z.Warmed39 vm1 ∧ vm1.findClass own = some m.cls ∧ Q v T'.heap vm1 L ∧ ∀ t, Steps p.tables e below (T'.setTop { g with pc := g.pc + 3, stack := v.toList ++ rest }) t → Steps p.tables e below (T.setTop g) t := by
  obtain ⟨v, vm₁, ⟨T', L', k', n'⟩, -, X', hS', hgr, ⟨Lc, hQ, l', y', z'⟩, st⟩ := callSS X hx (y := y) hown (mvT (s := s.setVm vm0) hZ w1) (mvT (s := s.setVm vm0) hZ w2) (mvT (s := s.setVm vm0) hZ w3) (mvT (s := s.setVm vm0) hZ w4) hy (own_backW (W := W) (s := s.setVm vm0) hM hZ hPv w4 w3 hf hl) hg hsize (argsL := argsL) (rest := rest) (lenOf hd hlen) hstack hW hdg (fun _ _ => ⟨rfl, eT, hc, hs⟩)
  dsimp only [Pt.U, Pt.locs, Pt.cells, Pt.slots] at X' l' y' z' st hQ hS' hgr
  subst l' y' z'
  obtain ⟨X2, hS2, hZ2, ho2⟩ := rebS hS hk0 X' hS' hgr hZ hown
  exact ⟨v, T', Lc, T'.vm, _, X2, hS2, Nat.le_refl _, hZ2, ho2, hQ, fun t k => st.trans k⟩
theorem own_callIW (X : Stand p l e R (s.setVm vm0) m args below meth c T locs cells slots) (hS : s.Since vm0 k0) (hk0 : k0 ≤ T.heap.size) (hx : p.tables.exec = Jvm.exec) (hZ : Z.Warmed39 vm0) {own : String} {index : Nat} {y : MethodName} {bytes : ByteArray} {maxL : Nat}
    (hown : vm0.findClass own = some m.cls) (w1 : (Jvm.Cond.methodLink own index y).before a0 Z = true) (w2 : (Jvm.Cond.instanceMethod y).before a0 Z = true) (w3 : (Jvm.Cond.initialized y.cls).before a0 Z = true) (w4 : (Jvm.Cond.code y bytes maxL none).before a0 Z = true) (hy1 : y.name = "<init>")
    (hy : y.cls ≠ "java/lang/invoke/MethodHandle" ∧ y.cls ≠ "java/lang/invoke/VarHandle") {W : Nat} {rm : Room} {a : Addr} {argsL rest : List Value} {Pv : Vm → Prop}
    (hM : MetFree l y (head1 [Jvm.Cond.code y bytes maxL none] rm) (fun b U => b = (Value.ref a :: argsL).toArray ∧ Z.Warmed39 U.vm ∧ U.heap = h ∧ Pv U.vm) (fun _ _ _ _ _ => True) (fun _ U o U' => ∃ v L, o = .returned v ∧ Q v U'.heap U'.vm L ∧ ReturnedEndW U o U' L rm.cells rm.slots)) (hPv : ∀ vm', (s.setVm vm0).WarmedH vm' → Pv vm')
    (hf : rm.frames + 1 ≤ R.frames) (hl : W + (maxL + 11) + rm.locals ≤ R.locals) (hc : cells + rm.cells ≤ R.cells) (hs : slots + rm.slots ≤ R.slots) (eT : T.heap = h)
    {ps : List FieldType} {r : Option FieldType} (hd : parseMethodDescriptor y.desc = some ⟨ps, r⟩) (hlen : argsL.length = ps.length)
    {g : JFrame} (hg : g.method = m) (hsize : g.locals.size = c.maxLocals) (hstack : g.stack = argsL.reverse ++ .ref a :: rest) (hW : 2 * g.monitorRoom + (rest.map fun v => v.category).sum ≤ W) (hdg : decode c.code g.pc = .ok (.invokespecial index, 3)) :
    ∃ (v : Option Value) (T' : State) (L : List Loc) (vm1 : Vm) (k1 : Nat), Stand p l e R (s.setVm vm1) m args below meth c T' (locs ++ L) (cells + rm.cells) (slots + rm.slots) ∧ s.Since vm1 k1 ∧ k1 ≤ T'.heap.size ∧ Z.Warmed39 vm1 ∧ vm1.findClass own = some m.cls ∧ Q v T'.heap vm1 L ∧ ∀ t, Steps p.tables e below (T'.setTop { g with pc := g.pc + 3, stack := v.toList ++ rest }) t → Steps p.tables e below (T.setTop g) t := by
  obtain ⟨v, vm₁, ⟨T', L', k', n'⟩, -, X', hS', hgr, ⟨Lc, hQ, l', y', z'⟩, st⟩ := X.specialBackS hx (y := y) hy1 hown (mvT (s := s.setVm vm0) hZ w1) (mvT (s := s.setVm vm0) hZ w2) (mvT (s := s.setVm vm0) hZ w4) hy (own_backW (W := W) (s := s.setVm vm0) hM hZ hPv w4 w3 hf hl) hg hsize (Steps.refl _) (a := a) (argsL := argsL) (rest := rest) (lenOf hd hlen) hstack hW hdg (fun _ _ => ⟨rfl, eT, hc, hs⟩)
  dsimp only [Pt.U, Pt.locs, Pt.cells, Pt.slots] at X' l' y' z' st hQ hS' hgr
  subst l' y' z'
  obtain ⟨X2, hS2, hZ2, ho2⟩ := rebS hS hk0 X' hS' hgr hZ hown
  exact ⟨v, T', Lc, T'.vm, _, X2, hS2, Nat.le_refl _, hZ2, ho2, hQ, fun t k => st.trans k⟩
/-- the constant "" of String (its entry 7): not met by this run so far, or known -/
def own_E (Z : State) (h : Heap) (vm : Vm) : Prop := IB Z vm [] ∨ ∃ a b : Addr, Lit (Z.setVm vm) "java/lang/String" 7 a ∧ Exa Z h a "java/lang/String" ∧ Fld Z h a "java/lang/String" "coder" "B" (.int (0 : Int32)) ∧ Fld Z h a "java/lang/String" "value" "[B" (.ref b) ∧ own_Arf Z h b .byte 0 (fun k => .int ((fun _ => (0 : Int32)) k))
/-- what is written there is neither such a String nor such an array -/
def own_P (Z : State) (h : Heap) (x : Addr) : Prop := (∀ a b : Addr, Exa Z h a "java/lang/String" → Fld Z h a "java/lang/String" "value" "[B" (.ref b) → a ≠ x) ∧ ∀ (b : Addr) (c : Cell), Arr Z h b c .byte → b ≠ x
theorem own_E.ext (F : own_E Z h vm0) (E : Ext h h') : own_E Z h' vm0 := F.imp id fun ⟨a, b, h1, h2, h3, h4, h5⟩ => ⟨a, b, h1, h2.ext E, h3.ext E, h4.ext E, h5.ext E⟩
theorem own_E.keep {ws : List Addr} (F : own_E Z h vm0) (K : Keep h h' ws) (q : ∀ x ∈ ws, own_P Z h x) : own_E Z h' vm0 := F.imp id fun ⟨a, b, h1, h2, h3, h4, h5⟩ => by
  have n1 : a ∉ ws := fun hm => (q a hm).1 a b h2 h4 rfl
  have n2 : b ∉ ws := fun hm => by obtain ⟨cl, A, -⟩ := h5; exact (q b hm).2 b cl A rfl
  exact ⟨a, b, h1, h2.keep K, h3.keep K n1, h4.keep K n1, h5.keep K n2⟩
theorem own_E.wr {x : Addr} {sl : Nat} {v : Value} (F : own_E Z h vm0) (W : Wr h h' x sl v) (q : own_P Z h x) : own_E Z h' vm0 := F.keep (Keep.of_wr W) fun y hy => by cases List.mem_singleton.mp hy; exact q
theorem own_P_obj {x : Addr} {C : String} {k : Nat} (E : Exa Z h x C) (wi : (Jvm.Cond.instantiable C k).before a0 Z = true) (hn : C ≠ "java/lang/String") : own_P Z h x :=
  ⟨fun a b Ea _ => ne_exa Ea E (fun q => hn q.symm), fun b c A => (ne_arr E wi A).symm⟩
theorem own_P_new {x : Addr} {k : Nat} (E : Exa Z h x "java/lang/String") (F : Fld Z h x "java/lang/String" "value" "[B" .null) (wi : (Jvm.Cond.instantiable "java/lang/String" k).before a0 Z = true) : own_P Z h x :=
  ⟨fun a b _ Fa => Fld.ne Fa F (by simp), fun b c A => (ne_arr E wi A).symm⟩
theorem own_P_arr {x : Addr} {ty : FieldType} {n k : Nat} {f : Nat → Value} (A : own_Arf Z h x ty n f) (ht : ty ≠ .byte) (wi : (Jvm.Cond.instantiable "java/lang/String" k).before a0 Z = true) : own_P Z h x := by
  obtain ⟨cl, A1, -⟩ := A
  refine ⟨fun a b Ea _ => ne_arr Ea wi A1, fun b c B q => ?_⟩
  subst q
  cases A1.1.symm.trans B.1
  obtain ⟨-, k1, h1, c1, e1⟩ := A1.2.1
  obtain ⟨-, k2, h2, c2, e2⟩ := B.2.1
  cases h1.symm.trans h2
  rw [e1] at e2
  injection e2 with e3 e4
  exact ht e4
theorem own_E.top (F : own_E Z h vm0) (hW : (s.setVm vm0).WarmedH vm1) : own_E Z h vm1 := F.imp (fun ⟨more, h1, h2⟩ => ⟨more, by rw [show vm1.interned = vm0.interned from hW.interned_eq]; exact h1, h2⟩) fun ⟨a, b, h1, r⟩ => ⟨a, b, Lit.stays (s := s) (vm0 := vm0) h1 hW.wide, r⟩
theorem own_ldcE (X : Stand p l e R (s.setVm vm0) m args below meth c T locs cells slots) (hx : p.tables.exec = Jvm.exec) (hZ : Z.Warmed39 vm0) (hown : vm0.findClass "java/lang/String" = some m.cls) (w : (Jvm.Cond.stringLink "java/lang/String" 7 "").before a0 Z = true) (wS : ∀ a ∈ Bundle.stringAtoms, a.before a0 Z = true)
    (eT : T.heap = h) (hS : s.Since vm0 k0) (hk : k0 ≤ h.size) (N : Fr s.heap.size locs) (hkeep : ∀ (b : Addr) (cl : Cell), Z.heap[b]? = some cl → s.heap[b]? = some cl) (F : own_E Z h vm0) (hh : Jvm.Lit.constHeld Z "java/lang/String" 7) (hcw : Jvm.Lit.compactW.before a0 Z = true)
    {g : JFrame} (hg : g.method = m) (hd : decode c.code g.pc = .ok (.ldc 7, 2)) (hc : cells + 2 ≤ R.cells) (hl : slots + 4 ≤ R.slots) :
    ∃ (a b : Addr) (T' : State) (h' : Heap) (vm1 : Vm) (k1 : Nat), Stand p l e R (s.setVm vm1) m args below meth c T' locs (cells + 2) (slots + 4) ∧ T'.heap = h' ∧ Ext h h' ∧ s.Since vm1 k1 ∧ k1 ≤ h'.size ∧ Z.Warmed39 vm1 ∧ vm1.findClass "java/lang/String" = some m.cls ∧ Lit (Z.setVm vm1) "java/lang/String" 7 a ∧
      Exa Z h' a "java/lang/String" ∧ Fld Z h' a "java/lang/String" "coder" "B" (.int (0 : Int32)) ∧ Fld Z h' a "java/lang/String" "value" "[B" (.ref b) ∧ own_Arf Z h' b .byte 0 (fun k => .int ((fun _ => (0 : Int32)) k)) ∧
      ∀ t, Steps p.tables e below (T'.setTop { g with pc := g.pc + 2, stack := .ref a :: g.stack }) t → Steps p.tables e below (T.setTop g) t := by
  rcases F with I | ⟨a, b, h1, h2, h3, h4, h5⟩
  · obtain ⟨a, T', h', k1, b, k, r1, r2, r3, r4, r5, r6, r7, r8, r9, r10, r11, r12, r13, r14, r15, r16⟩ := ldcSVL X hx hZ hown w wS eT hS hk N hkeep I (by simp) hh hcw (vs := []) (z := (0 : Int32)) ⟨by simp, rfl⟩ (by decide) rfl hg hd (n := 0) (by simp) (by decide) hc hl
    refine ⟨a, b, T', h', T'.vm, k1, r1, r2, r3, r4, r5, r6, r7, r15, r8, r9, r10, ?_, r16⟩
    obtain ⟨cl, A, -, S, -⟩ := r11
    exact ⟨cl, A, S, fun j hj => absurd hj (Nat.not_lt_zero j)⟩
  · exact ⟨a, b, T, h, vm0, k0, X.more (by omega) (by omega), eT, ⟨Nat.le_refl _, fun _ _ q => q⟩, hS, hk, hZ, hown, h1, h2, h3, h4, h5, ldcAgain X hx hZ hown w h1 hg hd⟩
end OwnKitW
theorem own_pl1 {Z : State} {h : Heap} {a : Addr} {C : String} (E : Exa Z h a C) : ∀ x ∈ [a], ∀ c : Cell, h[x]? = some c → c.vm.isStatics = false := fun x hx c hc => by
  cases List.mem_singleton.mp hx
  obtain ⟨c', k, h1, -, -, h4, -⟩ := E
  cases h1.symm.trans hc
  exact h4
theorem own_pl0 {h : Heap} : ∀ x ∈ ([] : List Addr), ∀ c : Cell, h[x]? = some c → c.vm.isStatics = false := fun x hx => nomatch hx
theorem own_nb (x : Int32) (h : -128 ≤ x.toInt ∧ x.toInt < 128) : (nar .byte x).toInt = x.toInt := by
  have h2 := c_i2b x
  show x.toInt8.toInt32.toInt = x.toInt
  omega
theorem own_ch (x : Int32) (h : 0 ≤ x.toInt ∧ x.toInt ≤ 255) : 0 ≤ (nar .char (x.toUInt32.toUInt16.toUInt32.toInt32)).toInt ∧ (nar .char (x.toUInt32.toUInt16.toUInt32.toInt32)).toInt ≤ 255 := by
  have h1 := c_i2c x
  have h2 := c_i2c (x.toUInt32.toUInt16.toUInt32.toInt32)
  show 0 ≤ ((x.toUInt32.toUInt16.toUInt32.toInt32).toUInt32.toUInt16.toUInt32.toInt32).toInt ∧ ((x.toUInt32.toUInt16.toUInt32.toInt32).toUInt32.toUInt16.toUInt32.toInt32).toInt ≤ 255
  omega
theorem own_m255 (x : Int32) : 0 ≤ (x &&& (255 : Int32)).toInt ∧ (x &&& (255 : Int32)).toInt ≤ 255 := by
  have h3 : (x &&& (255 : Int32)).toInt = x.toInt % 256 := c_mask x 255 8 (by decide) (by decide)
  omega
theorem own_ch0 (x : Int32) : 0 ≤ (nar .char ((x &&& (255 : Int32)).toUInt32.toUInt16.toUInt32.toInt32)).toInt ∧ (nar .char ((x &&& (255 : Int32)).toUInt32.toUInt16.toUInt32.toInt32)).toInt ≤ 255 := own_ch _ (own_m255 x)
theorem own_ch1 (x : Int32) : 0 ≤ (nar .char ((((x.toUInt32 >>> ((8 : Int32) &&& 31).toUInt32).toInt32) &&& (255 : Int32)).toUInt32.toUInt16.toUInt32.toInt32)).toInt ∧ (nar .char ((((x.toUInt32 >>> ((8 : Int32) &&& 31).toUInt32).toInt32) &&& (255 : Int32)).toUInt32.toUInt16.toUInt32.toInt32)).toInt ≤ 255 := own_ch _ (own_m255 _)
theorem own_chB (x : Int32) : 0 ≤ ((x &&& (255 : Int32)).toUInt32.toUInt16.toUInt32.toInt32).toInt ∧ ((x &&& (255 : Int32)).toUInt32.toUInt16.toUInt32.toInt32).toInt ≤ 255 := by
  have h0 := own_m255 x
  have h1 := c_i2c (x &&& (255 : Int32))
  omega
theorem own_compact {s : State} {args : Array Value} {C n d : String} (h1 : (Jvm.Cond.isInt (Jvm.Term.static C n d)).value args s none s [] = some true) (h2 : (Jvm.Cond.not (Jvm.Cond.eq (Jvm.Term.static C n d) (Jvm.Term.int (0 : Int32)))).value args s none s [] = some true) (w : (Jvm.Cond.initializedFor C n d).before args s = true) : ∃ cs : Int32, Sta s s.heap C n d (.int cs) ∧ ¬ cs = (0 : Int32) := by
  obtain ⟨cs, ev⟩ := is_v h1
  refine ⟨cs, Sta.start ev (Or.inl w), fun q => ?_⟩
  subst q
  have h3 := not_v h2
  have h4 := eq_i ev (Term.int_eval (0 : Int32)) rfl
  rw [h4] at h3
  cases h3
theorem own_k4 (x : Int32) : (x &&& (3 : Int32)) = (0 : Int32) ∨ (x &&& (3 : Int32)) = (1 : Int32) ∨ (x &&& (3 : Int32)) = (2 : Int32) ∨ (x &&& (3 : Int32)) = (3 : Int32) := by
  have h : (x &&& (3 : Int32)).toInt = x.toInt % 4 := c_mask x 3 2 (by decide) (by decide)
  have e0 : (0 : Int32).toInt = 0 := by decide
  have e1 : (1 : Int32).toInt = 1 := by decide
  have e2 : (2 : Int32).toInt = 2 := by decide
  have e3 : (3 : Int32).toInt = 3 := by decide
  have q : x.toInt % 4 = 0 ∨ x.toInt % 4 = 1 ∨ x.toInt % 4 = 2 ∨ x.toInt % 4 = 3 := by omega
  rcases q with q | q | q | q
  · exact Or.inl (Int32.toInt_inj.mp (by rw [h, q, e0]))
  · exact Or.inr (Or.inl (Int32.toInt_inj.mp (by rw [h, q, e1])))
  · exact Or.inr (Or.inr (Or.inl (Int32.toInt_inj.mp (by rw [h, q, e2]))))
  · exact Or.inr (Or.inr (Or.inr (Int32.toInt_inj.mp (by rw [h, q, e3]))))
def own_Str (Z : State) (h : Heap) (a : Addr) (n : Nat) (g : Nat → Int32) : Prop := Exa Z h a "java/lang/String" ∧ Fld Z h a "java/lang/String" "coder" "B" (.int (0 : Int32)) ∧ ∃ b : Addr, Fld Z h a "java/lang/String" "value" "[B" (.ref b) ∧ own_Arf Z h b .byte n (fun k => .int (g k))
theorem own_Str.ext {Z : State} {h h' : Heap} {a : Addr} {n : Nat} {g : Nat → Int32} (Y : own_Str Z h a n g) (E : Ext h h') : own_Str Z h' a n g := by
  obtain ⟨h1, h2, b, h3, h4⟩ := Y
  exact ⟨h1.ext E, h2.ext E, b, h3.ext E, h4.ext E⟩
theorem own_Str.keep {Z : State} {h h' : Heap} {a : Addr} {n : Nat} {g : Nat → Int32} {ws : List Addr} (Y : own_Str Z h a n g) (K : Keep h h' ws) (q : ∀ x ∈ ws, own_P Z h x) : own_Str Z h' a n g := by
  obtain ⟨h1, h2, b, h3, h4⟩ := Y
  have n1 : a ∉ ws := fun hm => (q a hm).1 a b h1 h3 rfl
  have n2 : b ∉ ws := fun hm => by obtain ⟨cl, A, -⟩ := h4; exact (q b hm).2 b cl A rfl
  exact ⟨h1.keep K, h2.keep K n1, b, h3.keep K n1, h4.keep K n2⟩
theorem own_Pl1 {Z : State} {h : Heap} {a0 : Array Value} {x : Addr} {C : String} {k : Nat} (E : Exa Z h x C) (wi : (Jvm.Cond.instantiable C k).before a0 Z = true) (hn : C ≠ "java/lang/String") : ∀ y ∈ [x], own_P Z h y := fun y hy => by
  cases List.mem_singleton.mp hy
  exact own_P_obj E wi hn
def own_same (n1 n2 : Nat) (g1 g2 : Nat → Int32) : Prop := n1 = n2 ∧ ∀ j, j < n1 → (g1 j).toInt = (g2 j).toInt
theorem own_same_refl (n : Nat) (g : Nat → Int32) : own_same n n g g := ⟨rfl, fun _ _ => rfl⟩
theorem own_Str.uniq {Z : State} {h : Heap} {a a' : Addr} {n1 n2 : Nat} {g1 g2 : Nat → Int32} (Y1 : own_Str Z h a n1 g1) (Y2 : own_Str Z h a' n2 g2) (e : a = a') : own_same n1 n2 g1 g2 := by
  subst e
  obtain ⟨-, -, b1, F1, c1, A1, s1, v1⟩ := Y1
  obtain ⟨-, -, b2, F2, c2, A2, s2, v2⟩ := Y2
  have e : b1 = b2 := Classical.byContradiction fun q => Fld.ne F1 F2 (fun r => q (Value.ref.inj r)) rfl
  subst e
  cases A1.1.symm.trans A2.1
  refine ⟨s1.symm.trans s2, fun j hj => ?_⟩
  have := (v1 j hj).symm.trans (v2 j (by omega))
  simp only [Option.some.injEq, Value.int.injEq] at this
  rw [this]
theorem own_iff {r : Int32} {P : Prop} (h : (r.toInt = 1 ∧ P) ∨ (r.toInt = 0 ∧ ¬ P)) : r.toInt = 1 ↔ P := by
  rcases h with h | h
  · exact ⟨fun _ => h.2, fun _ => h.1⟩
  · exact ⟨fun q => by omega, fun q => absurd q h.2⟩
theorem own_01 {r : Int32} {P : Prop} (h : (r.toInt = 1 ∧ P) ∨ (r.toInt = 0 ∧ ¬ P)) : r.toInt = 1 ∨ r.toInt = 0 := by
  rcases h with h | h
  · exact Or.inl h.1
  · exact Or.inr h.1
def own_U (p : Int32) : Int := p.toInt % 4294967296
theorem own_cv (x : Int32) : (nar .char ((x &&& (255 : Int32)).toUInt32.toUInt16.toUInt32.toInt32)).toInt = x.toInt % 256 := by
  have h3 : (x &&& (255 : Int32)).toInt = x.toInt % 256 := c_mask x 255 8 (by decide) (by decide)
  have h1 := c_i2c (x &&& (255 : Int32))
  have h2 := c_i2c ((x &&& (255 : Int32)).toUInt32.toUInt16.toUInt32.toInt32)
  show (((x &&& (255 : Int32)).toUInt32.toUInt16.toUInt32.toInt32).toUInt32.toUInt16.toUInt32.toInt32).toInt = _
  omega
theorem own_gb {x : Int32} (h : 0 ≤ x.toInt ∧ x.toInt ≤ 255) : -128 ≤ (nar .byte (x.toInt8.toInt32)).toInt ∧ (nar .byte (x.toInt8.toInt32)).toInt ≤ 127 ∧ (nar .byte (x.toInt8.toInt32)).toInt % 256 = x.toInt := by
  have h1 := c_i2b x
  have h2 := c_i2b x.toInt8.toInt32
  show -128 ≤ (x.toInt8.toInt32).toInt8.toInt32.toInt ∧ (x.toInt8.toInt32).toInt8.toInt32.toInt ≤ 127 ∧ (x.toInt8.toInt32).toInt8.toInt32.toInt % 256 = x.toInt
  omega
theorem own_no {Z : State} {a0 : Array Value} {C K : String} {n : Nat} (w : (Jvm.Cond.superclass C "java/lang/Object").before a0 Z = true) (wo : (Jvm.Cond.noSuperclass "java/lang/Object").before a0 Z = true) (wi : (Jvm.Cond.instantiable K n).before a0 Z = true) (hn : C ≠ K) (ho : "java/lang/Object" ≠ K) : ∃ c t, Z.vm.findClass C = some c ∧ Z.vm.findClass K = some t ∧ Z.vm.assignable c t = false := by
  obtain ⟨t, kt, g0, g2, g5, g7, -⟩ := Cond.instantiable_spec wi
  obtain ⟨co, ko, o1, o2, o3, -, -⟩ := Cond.noSuperclass_spec wo
  obtain ⟨c, h0⟩ := found_sup w
  obtain ⟨p, k, kp, h1, h2, h3, h4, h5, -, h7⟩ := Cond.superclass_spec h0 w
  cases o1.symm.trans h1
  have ne := ids_ne h0 g0 hn
  have ne2 := ids_ne o1 g0 ho
  have g8 : kt.isInterface = false := by simp at g7; exact g7.1
  refine ⟨c, t, h0, g0, ?_⟩
  show Z.vm.assignableAux (255 + 1) c t = false
  have n3 : ∀ fuel, Z.vm.isSubclassAux fuel co t = false := fun fuel => by
    cases fuel with
    | zero => rfl
    | succ f => simp [Vm.isSubclassAux, ne2, o2, o3]
  have n4 : ∀ fuel, Z.vm.isSubclassAux fuel c t = false := fun fuel => by
    cases fuel with
    | zero => rfl
    | succ f => simp [Vm.isSubclassAux, ne, h2, h4, n3]
  simp [Vm.assignableAux, ne, h2, g2, h5, g5, g8, Vm.isSubclass, n4]
def own_G (p : Int32) (n : Nat) (g : Nat → Int32) : Prop := (n : Int) = own_U p % 4 ∧ (∀ j, j < n → -128 ≤ (g j).toInt ∧ (g j).toInt ≤ 127) ∧ (0 < n → (g 0).toInt % 256 = own_U p / 4 % 256) ∧ (1 < n → (g 1).toInt % 256 = own_U p / 1024 % 256) ∧ (2 < n → (g 2).toInt % 256 = own_U p / 262144 % 256)
def own_SAME (p q : Int32) : Prop := own_U p % 4 = own_U q % 4 ∧ (own_U p % 4 < 1 ∨ own_U p / 4 % 256 = own_U q / 4 % 256) ∧ (own_U p % 4 < 2 ∨ own_U p / 1024 % 256 = own_U q / 1024 % 256) ∧ (own_U p % 4 < 3 ∨ own_U p / 262144 % 256 = own_U q / 262144 % 256)
theorem own_SAME_comm {p q : Int32} : own_SAME p q ↔ own_SAME q p := by unfold own_SAME; constructor <;> intro h <;> omega
theorem own_G.n4 {p : Int32} {n : Nat} {g : Nat → Int32} (h : own_G p n g) : n = 0 ∨ n = 1 ∨ n = 2 ∨ n = 3 := by
  have := h.1
  omega
theorem own_same_iff {p q : Int32} {n1 n2 : Nat} {g1 g2 : Nat → Int32} (h1 : own_G p n1 g1) (h2 : own_G q n2 g2) : own_same n1 n2 g1 g2 ↔ own_SAME p q := by
  obtain ⟨a1, a2, a3, a4, a5⟩ := h1
  obtain ⟨b1, b2, b3, b4, b5⟩ := h2
  constructor
  · intro ⟨e, hj⟩
    subst e
    refine ⟨by omega, ?_, ?_, ?_⟩
    · by_cases c : 0 < n1
      · have x := hj 0 c
        have y := a3 c
        have z := b3 c
        rw [x] at y
        omega
      · omega
    · by_cases c : 1 < n1
      · have x := hj 1 c
        have y := a4 c
        have z := b4 c
        rw [x] at y
        omega
      · omega
    · by_cases c : 2 < n1
      · have x := hj 2 c
        have y := a5 c
        have z := b5 c
        rw [x] at y
        omega
      · omega
  · intro ⟨c1, c2, c3, c4⟩
    obtain rfl : n1 = n2 := by omega
    refine ⟨rfl, fun j hj => ?_⟩
    have q : j = 0 ∨ j = 1 ∨ j = 2 := by omega
    have r1 := a2 j hj
    have r2 := b2 j hj
    rcases q with rfl | rfl | rfl
    · have y := a3 hj
      have z := b3 hj
      omega
    · have y := a4 hj
      have z := b4 hj
      omega
    · have y := a5 hj
      have z := b5 hj
      omega
theorem own_mkG {p : Int32} {k : Nat} {fc : Nat → Int32} (hk : (k : Int) = own_U p % 4) (hc : ∀ j, j < k → 0 ≤ (fc j).toInt ∧ (fc j).toInt ≤ 255) (h0 : 0 < k → (fc 0).toInt = own_U p / 4 % 256) (h1 : 1 < k → (fc 1).toInt = own_U p / 1024 % 256) (h2 : 2 < k → (fc 2).toInt = own_U p / 262144 % 256) : own_G p k (fun j => nar .byte ((fc j).toInt8.toInt32)) :=
  ⟨hk, fun j hj => ⟨(own_gb (hc j hj)).1, (own_gb (hc j hj)).2.1⟩, fun q => (own_gb (hc 0 q)).2.2.trans (h0 q), fun q => (own_gb (hc 1 q)).2.2.trans (h1 q), fun q => (own_gb (hc 2 q)).2.2.trans (h2 q)⟩
theorem own_G0 {p : Int32} (hk : ((0 : Nat) : Int) = own_U p % 4) (g : Nat → Int32) : own_G p 0 g := ⟨hk, fun j hj => absurd hj (Nat.not_lt_zero j), fun q => absurd q (by decide), fun q => absurd q (by decide), fun q => absurd q (by decide)⟩
theorem own_m3 (p : Int32) : (p &&& (3 : Int32)).toInt = own_U p % 4 := by
  have h : (p &&& (3 : Int32)).toInt = p.toInt % 4 := c_mask p 3 2 (by decide) (by decide)
  rw [h]
  show _ = p.toInt % 4294967296 % 4
  omega
theorem own_s0 (p : Int32) : ((p.toUInt32 >>> ((2 : Int32) &&& 31).toUInt32).toInt32).toInt = own_U p / 4 := c_iushr p 2 2 (by decide) (by decide)
theorem own_c0 (p : Int32) : (nar .char ((((p.toUInt32 >>> ((2 : Int32) &&& 31).toUInt32).toInt32) &&& (255 : Int32)).toUInt32.toUInt16.toUInt32.toInt32)).toInt = own_U p / 4 % 256 := by rw [own_cv, own_s0]
theorem own_d0 (p : Int32) : (((p.toUInt32 >>> ((2 : Int32) &&& 31).toUInt32).toInt32) &&& (255 : Int32)).toInt = own_U p / 4 % 256 := by
  have h : (((p.toUInt32 >>> ((2 : Int32) &&& 31).toUInt32).toInt32) &&& (255 : Int32)).toInt = ((p.toUInt32 >>> ((2 : Int32) &&& 31).toUInt32).toInt32).toInt % 256 := c_mask _ 255 8 (by decide) (by decide)
  rw [h, own_s0]
theorem own_s1 (p : Int32) : ((p.toUInt32 >>> ((10 : Int32) &&& 31).toUInt32).toInt32).toInt = own_U p / 1024 := c_iushr p 10 10 (by decide) (by decide)
theorem own_c1 (p : Int32) : (nar .char ((((p.toUInt32 >>> ((10 : Int32) &&& 31).toUInt32).toInt32) &&& (255 : Int32)).toUInt32.toUInt16.toUInt32.toInt32)).toInt = own_U p / 1024 % 256 := by rw [own_cv, own_s1]
theorem own_d1 (p : Int32) : (((p.toUInt32 >>> ((10 : Int32) &&& 31).toUInt32).toInt32) &&& (255 : Int32)).toInt = own_U p / 1024 % 256 := by
  have h : (((p.toUInt32 >>> ((10 : Int32) &&& 31).toUInt32).toInt32) &&& (255 : Int32)).toInt = ((p.toUInt32 >>> ((10 : Int32) &&& 31).toUInt32).toInt32).toInt % 256 := c_mask _ 255 8 (by decide) (by decide)
  rw [h, own_s1]
theorem own_s2 (p : Int32) : ((p.toUInt32 >>> ((18 : Int32) &&& 31).toUInt32).toInt32).toInt = own_U p / 262144 := c_iushr p 18 18 (by decide) (by decide)
theorem own_c2 (p : Int32) : (nar .char ((((p.toUInt32 >>> ((18 : Int32) &&& 31).toUInt32).toInt32) &&& (255 : Int32)).toUInt32.toUInt16.toUInt32.toInt32)).toInt = own_U p / 262144 % 256 := by rw [own_cv, own_s2]
theorem own_d2 (p : Int32) : (((p.toUInt32 >>> ((18 : Int32) &&& 31).toUInt32).toInt32) &&& (255 : Int32)).toInt = own_U p / 262144 % 256 := by
  have h : (((p.toUInt32 >>> ((18 : Int32) &&& 31).toUInt32).toInt32) &&& (255 : Int32)).toInt = ((p.toUInt32 >>> ((18 : Int32) &&& 31).toUInt32).toInt32).toInt % 256 := c_mask _ 255 8 (by decide) (by decide)
  rw [h, own_s2]
theorem own_wS {Z : State} {a0 : Array Value} (hw : ∀ d ∈ tables_1, d.before a0 Z = true) : ∀ a ∈ Bundle.stringAtoms, a.before a0 Z = true := by
  intro a ha
  simp only [Bundle.stringAtoms, List.mem_cons, List.not_mem_nil, or_false] at ha
  rcases ha with rfl | rfl | rfl | rfl | rfl | rfl | rfl
  · exact (hw _ (List.mem_of_getElem? (i := 9) rfl))
  · exact (hw _ (List.mem_of_getElem? (i := 8) rfl))
  · exact (hw _ (List.mem_of_getElem? (i := 22) rfl))
  · exact (hw _ (List.mem_of_getElem? (i := 23) rfl))
  · exact (hw _ (List.mem_of_getElem? (i := 24) rfl))
  · exact (hw _ (List.mem_of_getElem? (i := 25) rfl))
  · exact (hw _ (List.mem_of_getElem? (i := 26) rfl))
theorem own_HK {Z : State} {h0 h : Heap} (HK : ∀ (b : Addr) (cl : Cell), Z.heap[b]? = some cl → h0[b]? = some cl) (K : Keep h0 h []) : ∀ (b : Addr) (cl : Cell), Z.heap[b]? = some cl → h[b]? = some cl := fun b cl q => K.2.1 b cl (HK b cl q) (by simp)
theorem own_pn0 : plainFor (⟨"java/lang/StringUTF16", "compress", "([CI[BII)I"⟩ : MethodName) = true := by first | exact plainFor_of_name (by simp [plainName, overriddenIn]; done) | decide +kernel
theorem own_d6_0 : decode jdk_52_method_21_code 0 = .ok (.iconst 0, 1) := by decide +kernel
theorem own_d6_1 : decode jdk_52_method_21_code 1 = .ok (.istore 5, 2) := by decide +kernel
theorem own_d6_3 : decode jdk_52_method_21_code 3 = .ok (.iload 5, 2) := by decide +kernel
theorem own_d6_5 : decode jdk_52_method_21_code 5 = .ok (.iload 4, 2) := by decide +kernel
theorem own_d6_7 : decode jdk_52_method_21_code 7 = .ok (.if_icmp .ge 37, 3) := by decide +kernel
theorem own_d6_10 : decode jdk_52_method_21_code 10 = .ok (.aload_n 0, 1) := by decide +kernel
theorem own_d6_11 : decode jdk_52_method_21_code 11 = .ok (.iload_n 1, 1) := by decide +kernel
theorem own_d6_12 : decode jdk_52_method_21_code 12 = .ok (.caload, 1) := by decide +kernel
theorem own_d6_13 : decode jdk_52_method_21_code 13 = .ok (.istore 6, 2) := by decide +kernel
theorem own_d6_15 : decode jdk_52_method_21_code 15 = .ok (.iload 6, 2) := by decide +kernel
theorem own_d6_17 : decode jdk_52_method_21_code 17 = .ok (.sipush 255, 3) := by decide +kernel
theorem own_d6_20 : decode jdk_52_method_21_code 20 = .ok (.if_icmp .le 6, 3) := by decide +kernel
theorem own_d6_26 : decode jdk_52_method_21_code 26 = .ok (.aload_n 2, 1) := by decide +kernel
theorem own_d6_27 : decode jdk_52_method_21_code 27 = .ok (.iload_n 3, 1) := by decide +kernel
theorem own_d6_28 : decode jdk_52_method_21_code 28 = .ok (.iload 6, 2) := by decide +kernel
theorem own_d6_30 : decode jdk_52_method_21_code 30 = .ok (.i2b, 1) := by decide +kernel
theorem own_d6_31 : decode jdk_52_method_21_code 31 = .ok (.bastore, 1) := by decide +kernel
theorem own_d6_32 : decode jdk_52_method_21_code 32 = .ok (.iinc 1 1, 3) := by decide +kernel
theorem own_d6_35 : decode jdk_52_method_21_code 35 = .ok (.iinc 3 1, 3) := by decide +kernel
theorem own_d6_38 : decode jdk_52_method_21_code 38 = .ok (.iinc 5 1, 3) := by decide +kernel
theorem own_d6_41 : decode jdk_52_method_21_code 41 = .ok (.goto (-38), 3) := by decide +kernel
theorem own_d6_44 : decode jdk_52_method_21_code 44 = .ok (.iload 4, 2) := by decide +kernel
theorem own_d6_46 : decode jdk_52_method_21_code 46 = .ok (.ireturn, 1) := by decide +kernel
theorem own_ef_rmCc1 (m : MethodId) (a1 : Nat) (a3 : Nat) : entryFrame m #[(.ref a1), (.int (0 : Int32)), (.ref a3), (.int (0 : Int32)), (.int (1 : Int32))] 7 = mkF m 0 #[rv a1, iv (0 : Int32), rv a3, iv (0 : Int32), iv (1 : Int32), .unset, .unset] [] := by first | (simp [entryFrame, mkF, argsToLocals, Value.category, maxLocals]; done) | rfl
abbrev own_Q_rmCc1 (Z : State) (a1 : Nat) (a3 : Nat) (f : Nat → Int32) (g : Nat → Int32) (h0 : Heap) (n0 : Nat) (v : Option Value) (h : Heap) (L : List Loc) : Prop := v = some (.int (1 : Int32)) ∧ Fr n0 L ∧ Keep h0 h [a3] ∧ own_Arf Z h a3 .byte 1 (fun k => .int ((fun j => nar .byte ((f j).toInt8.toInt32)) k))
set_option maxRecDepth 65536 in
set_option maxHeartbeats 40000000 in
theorem rmCc1 (l : Launch) (Z : State) (a0 : Array Value) (hw : ∀ d ∈ tables_1, d.before a0 Z = true) (ws : List Jvm.Cond) (a1 : Nat) (a3 : Nat) (f : Nat → Int32) (g : Nat → Int32) (h0 : Heap) (n0 : Nat) (Z0 : n0 ≤ h0.size) (V1 : own_Arf Z h0 a1 .char 1 (fun k => .int (f k))) (V3 : own_Arf Z h0 a3 .byte 1 (fun k => .int (g k))) (hc : ∀ j, j < 1 → 0 ≤ (f j).toInt ∧ (f j).toInt ≤ 255) (g3 : n0 ≤ a3) (x13 : a1 ≠ a3) :
    MetFree l (⟨"java/lang/StringUTF16", "compress", "([CI[BII)I"⟩ : MethodName) (head1 (Jvm.Cond.code (⟨"java/lang/StringUTF16", "compress", "([CI[BII)I"⟩ : MethodName) jdk_52_method_21_code 7 (some .int) :: ws) ({ frames := 0, cells := 0, slots := 0, locals := 0 } : Room)) (fun a U => a = #[(.ref a1), (.int (0 : Int32)), (.ref a3), (.int (0 : Int32)), (.int (1 : Int32))] ∧ Z.Warmed39 U.vm ∧ U.heap = h0) (fun _ _ _ _ _ => True) (fun _ U o U' => ∃ v L, o = .returned v ∧ own_Q_rmCc1 Z a1 a3 f g h0 n0 v U'.heap L ∧ FrameEnd U o U' L ({ frames := 0, cells := 0, slots := 0, locals := 0 } : Room).cells ({ frames := 0, cells := 0, slots := 0, locals := 0 } : Room).slots) := by
  refine own_enter (Q := fun v h L => own_Q_rmCc1 Z a1 a3 f g h0 n0 v h L) (F := fun m => mkF m 0 #[rv a1, iv (0 : Int32), rv a3, iv (0 : Int32), iv (1 : Int32), .unset, .unset] []) own_pn0 (fun m => own_ef_rmCc1 m a1 a3) ?_
  intro p e s m below meth c T X hx hby hml hret hlk hnm hown hZ e0
  show own_Goes p e below s _ _ (T.setTop (mkF m 0 #[rv a1, iv (0 : Int32), rv a3, iv (0 : Int32), iv (1 : Int32), .unset, .unset] []))
  have N0 := Fr.nil n0
  have hc0 := hc 0 (by decide)
  refine own_st (fun _ k => XS.iconst X.here hx rfl (hb hby own_d6_0) k) ?_
  show own_Goes p e below s _ _ (T.setTop (mkF m 1 #[rv a1, iv (0 : Int32), rv a3, iv (0 : Int32), iv (1 : Int32), .unset, .unset] [(.int (0 : Int32))]))
  refine own_st (fun _ k => XS.istore X.here hx rfl (hb hby own_d6_1) rfl (l' := #[rv a1, iv (0 : Int32), rv a3, iv (0 : Int32), iv (1 : Int32), iv (0 : Int32), .unset]) rfl k) ?_
  show own_Goes p e below s _ _ (T.setTop (mkF m 3 #[rv a1, iv (0 : Int32), rv a3, iv (0 : Int32), iv (1 : Int32), iv (0 : Int32), .unset] []))
  refine own_st (fun _ k => XS.iload X.here hx rfl (hb hby own_d6_3) rfl  k) ?_
  show own_Goes p e below s _ _ (T.setTop (mkF m 5 #[rv a1, iv (0 : Int32), rv a3, iv (0 : Int32), iv (1 : Int32), iv (0 : Int32), .unset] [(.int (0 : Int32))]))
  refine own_st (fun _ k => XS.iload X.here hx rfl (hb hby own_d6_5) rfl  k) ?_
  show own_Goes p e below s _ _ (T.setTop (mkF m 7 #[rv a1, iv (0 : Int32), rv a3, iv (0 : Int32), iv (1 : Int32), iv (0 : Int32), .unset] [(.int (1 : Int32)), (.int (0 : Int32))]))
  refine own_st (fun _ k => XS.icmpNo X.here hx rfl (hb hby own_d6_7) rfl (tlt (by decide : (0 : Int32) < (1 : Int32))).2.1 k) ?_
  show own_Goes p e below s _ _ (T.setTop (mkF m 10 #[rv a1, iv (0 : Int32), rv a3, iv (0 : Int32), iv (1 : Int32), iv (0 : Int32), .unset] []))
  refine own_st (fun _ k => XS.aloadN X.here hx rfl (hb hby own_d6_10) rfl rfl  k) ?_
  show own_Goes p e below s _ _ (T.setTop (mkF m 11 #[rv a1, iv (0 : Int32), rv a3, iv (0 : Int32), iv (1 : Int32), iv (0 : Int32), .unset] [(.ref a1)]))
  refine own_st (fun _ k => XS.iloadN X.here hx rfl (hb hby own_d6_11) rfl  k) ?_
  show own_Goes p e below s _ _ (T.setTop (mkF m 12 #[rv a1, iv (0 : Int32), rv a3, iv (0 : Int32), iv (1 : Int32), iv (0 : Int32), .unset] [(.int (0 : Int32)), (.ref a1)]))
  refine own_st (fun _ k => own_ldC X hx hZ e0 V1 (j := (0 : Int32)) (by decide) (g := (mkF m 12 #[rv a1, iv (0 : Int32), rv a3, iv (0 : Int32), iv (1 : Int32), iv (0 : Int32), .unset] [(.int (0 : Int32)), (.ref a1)])) rfl rfl (hb hby own_d6_12) _ k) ?_
  show own_Goes p e below s _ _ (T.setTop (mkF m 13 #[rv a1, iv (0 : Int32), rv a3, iv (0 : Int32), iv (1 : Int32), iv (0 : Int32), .unset] [(.int (f 0))]))
  refine own_st (fun _ k => XS.istore X.here hx rfl (hb hby own_d6_13) rfl (l' := #[rv a1, iv (0 : Int32), rv a3, iv (0 : Int32), iv (1 : Int32), iv (0 : Int32), iv (f 0)]) rfl k) ?_
  show own_Goes p e below s _ _ (T.setTop (mkF m 15 #[rv a1, iv (0 : Int32), rv a3, iv (0 : Int32), iv (1 : Int32), iv (0 : Int32), iv (f 0)] []))
  refine own_st (fun _ k => XS.iload X.here hx rfl (hb hby own_d6_15) rfl  k) ?_
  show own_Goes p e below s _ _ (T.setTop (mkF m 17 #[rv a1, iv (0 : Int32), rv a3, iv (0 : Int32), iv (1 : Int32), iv (0 : Int32), iv (f 0)] [(.int (f 0))]))
  refine own_st (fun _ k => XS.sipush X.here hx rfl (hb hby own_d6_17) k) ?_
  show own_Goes p e below s _ _ (T.setTop (mkF m 20 #[rv a1, iv (0 : Int32), rv a3, iv (0 : Int32), iv (1 : Int32), iv (0 : Int32), iv (f 0)] [(.int (255 : Int32)), (.int (f 0))]))
  by_cases c101 : (255 : Int32) < (f 0)
  · have c101i : 255 < (f 0).toInt := own_i_lt c101
    exfalso; omega
  · have c101i : (f 0).toInt ≤ 255 := own_i_nlt c101
    refine own_st (fun _ k => XS.icmpYes X.here hx rfl (pc0 := 20) (pc' := 26) rfl (hb hby own_d6_20) rfl (flt c101).2.2.2 (by decide) (by decide) k) ?_
    show own_Goes p e below s _ _ (T.setTop (mkF m 26 #[rv a1, iv (0 : Int32), rv a3, iv (0 : Int32), iv (1 : Int32), iv (0 : Int32), iv (f 0)] []))
    refine own_st (fun _ k => XS.aloadN X.here hx rfl (hb hby own_d6_26) rfl rfl  k) ?_
    show own_Goes p e below s _ _ (T.setTop (mkF m 27 #[rv a1, iv (0 : Int32), rv a3, iv (0 : Int32), iv (1 : Int32), iv (0 : Int32), iv (f 0)] [(.ref a3)]))
    refine own_st (fun _ k => XS.iloadN X.here hx rfl (hb hby own_d6_27) rfl  k) ?_
    show own_Goes p e below s _ _ (T.setTop (mkF m 28 #[rv a1, iv (0 : Int32), rv a3, iv (0 : Int32), iv (1 : Int32), iv (0 : Int32), iv (f 0)] [(.int (0 : Int32)), (.ref a3)]))
    refine own_st (fun _ k => XS.iload X.here hx rfl (hb hby own_d6_28) rfl  k) ?_
    show own_Goes p e below s _ _ (T.setTop (mkF m 30 #[rv a1, iv (0 : Int32), rv a3, iv (0 : Int32), iv (1 : Int32), iv (0 : Int32), iv (f 0)] [(.int (f 0)), (.int (0 : Int32)), (.ref a3)]))
    refine own_st (fun _ k => XS.i2b X.here hx rfl (hb hby own_d6_30) rfl k) ?_
    show own_Goes p e below s _ _ (T.setTop (mkF m 31 #[rv a1, iv (0 : Int32), rv a3, iv (0 : Int32), iv (1 : Int32), iv (0 : Int32), iv (f 0)] [(.int ((f 0).toInt8.toInt32)), (.int (0 : Int32)), (.ref a3)]))
    obtain ⟨T102, h102, X102, e102, W102, A102, st102⟩ := own_stB X hx hZ e0 V3 (j := (0 : Int32)) (by decide) (g := (mkF m 31 #[rv a1, iv (0 : Int32), rv a3, iv (0 : Int32), iv (1 : Int32), iv (0 : Int32), iv (f 0)] [(.int ((f 0).toInt8.toInt32)), (.int (0 : Int32)), (.ref a3)])) rfl rfl (hb hby own_d6_31)
    have V102 : own_Arf Z h102 a3 .byte 1 (fun k => .int ((fun k => if k = 0 then (nar .byte ((f 0).toInt8.toInt32)) else g k) k)) := A102
    have z102 := W102.size
    have N102 := Fr.snoc X102 N0 (by omega)
    refine own_st st102 ?_
    show own_Goes p e below s _ _ (T102.setTop (mkF m 32 #[rv a1, iv (0 : Int32), rv a3, iv (0 : Int32), iv (1 : Int32), iv (0 : Int32), iv (f 0)] []))
    refine own_st (fun _ k => XS.iinc X102.here hx rfl (hb hby own_d6_32) rfl (l' := #[rv a1, iv (1 : Int32), rv a3, iv (0 : Int32), iv (1 : Int32), iv (0 : Int32), iv (f 0)]) rfl k) ?_
    show own_Goes p e below s _ _ (T102.setTop (mkF m 35 #[rv a1, iv (1 : Int32), rv a3, iv (0 : Int32), iv (1 : Int32), iv (0 : Int32), iv (f 0)] []))
    refine own_st (fun _ k => XS.iinc X102.here hx rfl (hb hby own_d6_35) rfl (l' := #[rv a1, iv (1 : Int32), rv a3, iv (1 : Int32), iv (1 : Int32), iv (0 : Int32), iv (f 0)]) rfl k) ?_
    show own_Goes p e below s _ _ (T102.setTop (mkF m 38 #[rv a1, iv (1 : Int32), rv a3, iv (1 : Int32), iv (1 : Int32), iv (0 : Int32), iv (f 0)] []))
    refine own_st (fun _ k => XS.iinc X102.here hx rfl (hb hby own_d6_38) rfl (l' := #[rv a1, iv (1 : Int32), rv a3, iv (1 : Int32), iv (1 : Int32), iv (1 : Int32), iv (f 0)]) rfl k) ?_
    show own_Goes p e below s _ _ (T102.setTop (mkF m 41 #[rv a1, iv (1 : Int32), rv a3, iv (1 : Int32), iv (1 : Int32), iv (1 : Int32), iv (f 0)] []))
    refine own_st (fun _ k => XS.goto X102.here hx rfl (pc0 := 41) (pc' := 3) rfl (hb hby own_d6_41) (by decide) (by decide) k) ?_
    show own_Goes p e below s _ _ (T102.setTop (mkF m 3 #[rv a1, iv (1 : Int32), rv a3, iv (1 : Int32), iv (1 : Int32), iv (1 : Int32), iv (f 0)] []))
    refine own_st (fun _ k => XS.iload X102.here hx rfl (hb hby own_d6_3) rfl  k) ?_
    show own_Goes p e below s _ _ (T102.setTop (mkF m 5 #[rv a1, iv (1 : Int32), rv a3, iv (1 : Int32), iv (1 : Int32), iv (1 : Int32), iv (f 0)] [(.int (1 : Int32))]))
    refine own_st (fun _ k => XS.iload X102.here hx rfl (hb hby own_d6_5) rfl  k) ?_
    show own_Goes p e below s _ _ (T102.setTop (mkF m 7 #[rv a1, iv (1 : Int32), rv a3, iv (1 : Int32), iv (1 : Int32), iv (1 : Int32), iv (f 0)] [(.int (1 : Int32)), (.int (1 : Int32))]))
    refine own_st (fun _ k => XS.icmpYes X102.here hx rfl (pc0 := 7) (pc' := 44) rfl (hb hby own_d6_7) rfl (flt (by decide : ¬ ((1 : Int32) < (1 : Int32)))).2.1 (by decide) (by decide) k) ?_
    show own_Goes p e below s _ _ (T102.setTop (mkF m 44 #[rv a1, iv (1 : Int32), rv a3, iv (1 : Int32), iv (1 : Int32), iv (1 : Int32), iv (f 0)] []))
    refine own_st (fun _ k => XS.iload X102.here hx rfl (hb hby own_d6_44) rfl  k) ?_
    show own_Goes p e below s _ _ (T102.setTop (mkF m 46 #[rv a1, iv (1 : Int32), rv a3, iv (1 : Int32), iv (1 : Int32), iv (1 : Int32), iv (f 0)] [(.int (1 : Int32))]))
    exact own_retI X102 hx hlk hret (hb hby own_d6_46) (by decide) (by decide) ⟨rfl, N102, by rw [e102]; exact ((Keep.refl h0 [a3]).wr W102 (Or.inl (by simp))), by rw [e102]; exact (own_Arf.congr V102 (fun j hj => by have q : j = 0 := (by omega); subst q; rfl))⟩
theorem own_pn1 : plainFor (⟨"java/lang/StringUTF16", "compress", "([CII)[B"⟩ : MethodName) = true := by first | exact plainFor_of_name (by simp [plainName, overriddenIn]; done) | decide +kernel
theorem own_d5_0 : decode jdk_52_method_16_code 0 = .ok (.iload_n 2, 1) := by decide +kernel
theorem own_d5_1 : decode jdk_52_method_16_code 1 = .ok (.newarray .byte, 2) := by decide +kernel
theorem own_d5_3 : decode jdk_52_method_16_code 3 = .ok (.astore_n 3, 1) := by decide +kernel
theorem own_d5_4 : decode jdk_52_method_16_code 4 = .ok (.aload_n 0, 1) := by decide +kernel
theorem own_d5_5 : decode jdk_52_method_16_code 5 = .ok (.iload_n 1, 1) := by decide +kernel
theorem own_d5_6 : decode jdk_52_method_16_code 6 = .ok (.aload_n 3, 1) := by decide +kernel
theorem own_d5_7 : decode jdk_52_method_16_code 7 = .ok (.iconst 0, 1) := by decide +kernel
theorem own_d5_8 : decode jdk_52_method_16_code 8 = .ok (.iload_n 2, 1) := by decide +kernel
theorem own_d5_9 : decode jdk_52_method_16_code 9 = .ok (.invokestatic 115, 3) := by decide +kernel
theorem own_pd0 : parseMethodDescriptor "([CI[BII)I" = some ⟨[(.array .char), .int, (.array .byte), .int, .int], some .int⟩ := by decide +kernel
theorem own_d5_12 : decode jdk_52_method_16_code 12 = .ok (.istore 4, 2) := by decide +kernel
theorem own_d5_14 : decode jdk_52_method_16_code 14 = .ok (.iload 4, 2) := by decide +kernel
theorem own_d5_16 : decode jdk_52_method_16_code 16 = .ok (.iload_n 2, 1) := by decide +kernel
theorem own_d5_17 : decode jdk_52_method_16_code 17 = .ok (.if_icmp .eq 40, 3) := by decide +kernel
theorem own_d5_57 : decode jdk_52_method_16_code 57 = .ok (.aload_n 3, 1) := by decide +kernel
theorem own_d5_58 : decode jdk_52_method_16_code 58 = .ok (.areturn, 1) := by decide +kernel
theorem own_ef_rmCp1 (m : MethodId) (a1 : Nat) : entryFrame m #[(.ref a1), (.int (0 : Int32)), (.int (1 : Int32))] 6 = mkF m 0 #[rv a1, iv (0 : Int32), iv (1 : Int32), .unset, .unset, .unset] [] := by first | (simp [entryFrame, mkF, argsToLocals, Value.category, maxLocals]; done) | rfl
abbrev own_Q_rmCp1 (Z : State) (a1 : Nat) (f : Nat → Int32) (h0 : Heap) (n0 : Nat) (v : Option Value) (h : Heap) (L : List Loc) : Prop := ∃ b : Nat, v = some (.ref b) ∧ Fr n0 L ∧ Keep h0 h [] ∧ h0.size ≤ b ∧ b < h.size ∧ own_Arf Z h b .byte 1 (fun k => .int ((fun j => nar .byte ((f j).toInt8.toInt32)) k))
set_option maxRecDepth 65536 in
set_option maxHeartbeats 40000000 in
theorem rmCp1 (l : Launch) (Z : State) (a0 : Array Value) (hw : ∀ d ∈ tables_1, d.before a0 Z = true) (ws : List Jvm.Cond) (a1 : Nat) (f : Nat → Int32) (h0 : Heap) (n0 : Nat) (Z0 : n0 ≤ h0.size) (V1 : own_Arf Z h0 a1 .char 1 (fun k => .int (f k))) (hc : ∀ j, j < 1 → 0 ≤ (f j).toInt ∧ (f j).toInt ≤ 255) :
    MetFree l (⟨"java/lang/StringUTF16", "compress", "([CII)[B"⟩ : MethodName) (head1 (Jvm.Cond.code (⟨"java/lang/StringUTF16", "compress", "([CII)[B"⟩ : MethodName) jdk_52_method_16_code 6 (some (.array .byte)) :: ws) ({ frames := 1, cells := 1, slots := 1, locals := 18 } : Room)) (fun a U => a = #[(.ref a1), (.int (0 : Int32)), (.int (1 : Int32))] ∧ Z.Warmed39 U.vm ∧ U.heap = h0) (fun _ _ _ _ _ => True) (fun _ U o U' => ∃ v L, o = .returned v ∧ own_Q_rmCp1 Z a1 f h0 n0 v U'.heap L ∧ FrameEnd U o U' L ({ frames := 1, cells := 1, slots := 1, locals := 18 } : Room).cells ({ frames := 1, cells := 1, slots := 1, locals := 18 } : Room).slots) := by
  refine own_enter (Q := fun v h L => own_Q_rmCp1 Z a1 f h0 n0 v h L) (F := fun m => mkF m 0 #[rv a1, iv (0 : Int32), iv (1 : Int32), .unset, .unset, .unset] []) own_pn1 (fun m => own_ef_rmCp1 m a1) ?_
  intro p e s m below meth c T X hx hby hml hret hlk hnm hown hZ e0
  show own_Goes p e below s _ _ (T.setTop (mkF m 0 #[rv a1, iv (0 : Int32), iv (1 : Int32), .unset, .unset, .unset] []))
  have N0 := Fr.nil n0
  have y1 := own_lt V1.lt
  refine own_st (fun _ k => XS.iloadN X.here hx rfl (hb hby own_d5_0) rfl  k) ?_
  show own_Goes p e below s _ _ (T.setTop (mkF m 1 #[rv a1, iv (0 : Int32), iv (1 : Int32), .unset, .unset, .unset] [(.int (1 : Int32))]))
  obtain ⟨T101, h101, X101, e101, E101, A101, st101⟩ := own_newP X hx hZ (aty := .byte) (hw _ (List.mem_of_getElem? (i := 22) rfl)) e0 (g := (mkF m 1 #[rv a1, iv (0 : Int32), iv (1 : Int32), .unset, .unset, .unset] [(.int (1 : Int32))])) rfl (hb hby own_d5_1) rfl (by decide) (cap := 1) (by decide) (by decide) (by decide) (by decide)
  obtain ⟨b101, g101⟩ : ∃ z, z = h0.size := ⟨_, rfl⟩
  rw [← g101] at A101 st101
  have V101 : own_Arf Z h101 b101 .byte 1 (fun k => .int ((fun _ => (0 : Int32)) k)) := A101
  have y101 := own_lt V101.lt
  have z101 := E101.1
  refine own_st st101 ?_
  show own_Goes p e below s _ _ (T101.setTop (mkF m 3 #[rv a1, iv (0 : Int32), iv (1 : Int32), .unset, .unset, .unset] [(.ref b101)]))
  refine own_st (fun _ k => XS.astoreN X101.here hx rfl (hb hby own_d5_3) rfl rfl (l' := #[rv a1, iv (0 : Int32), iv (1 : Int32), rv b101, .unset, .unset]) rfl k) ?_
  show own_Goes p e below s _ _ (T101.setTop (mkF m 4 #[rv a1, iv (0 : Int32), iv (1 : Int32), rv b101, .unset, .unset] []))
  refine own_st (fun _ k => XS.aloadN X101.here hx rfl (hb hby own_d5_4) rfl rfl  k) ?_
  show own_Goes p e below s _ _ (T101.setTop (mkF m 5 #[rv a1, iv (0 : Int32), iv (1 : Int32), rv b101, .unset, .unset] [(.ref a1)]))
  refine own_st (fun _ k => XS.iloadN X101.here hx rfl (hb hby own_d5_5) rfl  k) ?_
  show own_Goes p e below s _ _ (T101.setTop (mkF m 6 #[rv a1, iv (0 : Int32), iv (1 : Int32), rv b101, .unset, .unset] [(.int (0 : Int32)), (.ref a1)]))
  refine own_st (fun _ k => XS.aloadN X101.here hx rfl (hb hby own_d5_6) rfl rfl  k) ?_
  show own_Goes p e below s _ _ (T101.setTop (mkF m 7 #[rv a1, iv (0 : Int32), iv (1 : Int32), rv b101, .unset, .unset] [(.ref b101), (.int (0 : Int32)), (.ref a1)]))
  refine own_st (fun _ k => XS.iconst X101.here hx rfl (hb hby own_d5_7) k) ?_
  show own_Goes p e below s _ _ (T101.setTop (mkF m 8 #[rv a1, iv (0 : Int32), iv (1 : Int32), rv b101, .unset, .unset] [(.int (0 : Int32)), (.ref b101), (.int (0 : Int32)), (.ref a1)]))
  refine own_st (fun _ k => XS.iloadN X101.here hx rfl (hb hby own_d5_8) rfl  k) ?_
  show own_Goes p e below s _ _ (T101.setTop (mkF m 9 #[rv a1, iv (0 : Int32), iv (1 : Int32), rv b101, .unset, .unset] [(.int (1 : Int32)), (.int (0 : Int32)), (.ref b101), (.int (0 : Int32)), (.ref a1)]))
  have f103 := (V1.ext E101)
  obtain ⟨v102, T102, L102, X102, Q102, st102⟩ := own_callS X101 hx hZ (y := (⟨"java/lang/StringUTF16", "compress", "([CI[BII)I"⟩ : MethodName)) hown (hw _ (List.mem_of_getElem? (i := 34) rfl)) (hw _ (List.mem_of_getElem? (i := 35) rfl)) (hw _ (List.mem_of_getElem? (i := 32) rfl)) (hw _ (List.mem_of_getElem? (i := 36) rfl)) (by decide) (W := 0) (rest := []) (argsL := [(.ref a1), (.int (0 : Int32)), (.ref b101), (.int (0 : Int32)), (.int (1 : Int32))]) (rmCc1 l Z a0 hw [] a1 b101 _ _ h101 n0 (by omega) f103 V101 hc (by omega) (by omega)) (by decide) (by decide) (by decide) (by decide) e101 own_pd0 rfl (g := (mkF m 9 #[rv a1, iv (0 : Int32), iv (1 : Int32), rv b101, .unset, .unset] [(.int (1 : Int32)), (.int (0 : Int32)), (.ref b101), (.int (0 : Int32)), (.ref a1)])) rfl (by rw [hml]; rfl) rfl (by show 2 * 0 + _ ≤ _; exact Nat.le_of_eq rfl) (hb hby own_d5_9)
  obtain ⟨rfl, N102q, K102, V102⟩ := Q102
  have z102 := K102.1
  have N102 := Fr.app N0 N102q
  refine own_st st102 ?_
  show own_Goes p e below s _ _ (T102.setTop (mkF m 12 #[rv a1, iv (0 : Int32), iv (1 : Int32), rv b101, .unset, .unset] [(.int (1 : Int32))]))
  refine own_st (fun _ k => XS.istore X102.here hx rfl (hb hby own_d5_12) rfl (l' := #[rv a1, iv (0 : Int32), iv (1 : Int32), rv b101, iv (1 : Int32), .unset]) rfl k) ?_
  show own_Goes p e below s _ _ (T102.setTop (mkF m 14 #[rv a1, iv (0 : Int32), iv (1 : Int32), rv b101, iv (1 : Int32), .unset] []))
  refine own_st (fun _ k => XS.iload X102.here hx rfl (hb hby own_d5_14) rfl  k) ?_
  show own_Goes p e below s _ _ (T102.setTop (mkF m 16 #[rv a1, iv (0 : Int32), iv (1 : Int32), rv b101, iv (1 : Int32), .unset] [(.int (1 : Int32))]))
  refine own_st (fun _ k => XS.iloadN X102.here hx rfl (hb hby own_d5_16) rfl  k) ?_
  show own_Goes p e below s _ _ (T102.setTop (mkF m 17 #[rv a1, iv (0 : Int32), iv (1 : Int32), rv b101, iv (1 : Int32), .unset] [(.int (1 : Int32)), (.int (1 : Int32))]))
  refine own_st (fun _ k => XS.icmpYes X102.here hx rfl (pc0 := 17) (pc' := 57) rfl (hb hby own_d5_17) rfl (teq (by decide : (1 : Int32) = (1 : Int32))).1 (by decide) (by decide) k) ?_
  show own_Goes p e below s _ _ (T102.setTop (mkF m 57 #[rv a1, iv (0 : Int32), iv (1 : Int32), rv b101, iv (1 : Int32), .unset] []))
  refine own_st (fun _ k => XS.aloadN X102.here hx rfl (hb hby own_d5_57) rfl rfl  k) ?_
  show own_Goes p e below s _ _ (T102.setTop (mkF m 58 #[rv a1, iv (0 : Int32), iv (1 : Int32), rv b101, iv (1 : Int32), .unset] [(.ref b101)]))
  exact own_retR X102 hx hlk hret rfl rfl (hb hby own_d5_58) (by decide) (by decide) ⟨b101, rfl, N102, (((Keep.refl h0 []).ext E101).trans K102 (allS (Or.inr (by omega)) all0)), by omega, by omega, V102⟩
theorem own_pn2 : plainFor (⟨"java/lang/StringUTF16", "coderFromArrayLen", "([BI)B"⟩ : MethodName) = true := by first | exact plainFor_of_name (by simp [plainName, overriddenIn]; done) | decide +kernel
theorem own_d7_0 : decode jdk_52_method_15_code 0 = .ok (.iload_n 1, 1) := by decide +kernel
theorem own_d7_1 : decode jdk_52_method_15_code 1 = .ok (.aload_n 0, 1) := by decide +kernel
theorem own_d7_2 : decode jdk_52_method_15_code 2 = .ok (.arraylength, 1) := by decide +kernel
theorem own_d7_3 : decode jdk_52_method_15_code 3 = .ok (.isub, 1) := by decide +kernel
theorem own_d7_4 : decode jdk_52_method_15_code 4 = .ok (.bipush 31, 2) := by decide +kernel
theorem own_d7_6 : decode jdk_52_method_15_code 6 = .ok (.iushr, 1) := by decide +kernel
theorem own_d7_7 : decode jdk_52_method_15_code 7 = .ok (.i2b, 1) := by decide +kernel
theorem own_d7_8 : decode jdk_52_method_15_code 8 = .ok (.ireturn, 1) := by decide +kernel
theorem own_ef_rmCo1 (m : MethodId) (a1 : Nat) : entryFrame m #[(.ref a1), (.int (1 : Int32))] 2 = mkF m 0 #[rv a1, iv (1 : Int32)] [] := by first | (simp [entryFrame, mkF, argsToLocals, Value.category, maxLocals]; done) | rfl
abbrev own_Q_rmCo1 (Z : State) (a1 : Nat) (g : Nat → Int32) (h0 : Heap) (n0 : Nat) (v : Option Value) (h : Heap) (L : List Loc) : Prop := v = some (.int (0 : Int32)) ∧ Fr n0 L ∧ h = h0
set_option maxRecDepth 65536 in
set_option maxHeartbeats 40000000 in
theorem rmCo1 (l : Launch) (Z : State) (a0 : Array Value) (hw : ∀ d ∈ tables_1, d.before a0 Z = true) (ws : List Jvm.Cond) (a1 : Nat) (g : Nat → Int32) (h0 : Heap) (n0 : Nat) (Z0 : n0 ≤ h0.size) (V1 : own_Arf Z h0 a1 .byte 1 (fun k => .int (g k))) :
    MetFree l (⟨"java/lang/StringUTF16", "coderFromArrayLen", "([BI)B"⟩ : MethodName) (head1 (Jvm.Cond.code (⟨"java/lang/StringUTF16", "coderFromArrayLen", "([BI)B"⟩ : MethodName) jdk_52_method_15_code 2 (some .byte) :: ws) ({ frames := 0, cells := 0, slots := 0, locals := 0 } : Room)) (fun a U => a = #[(.ref a1), (.int (1 : Int32))] ∧ Z.Warmed39 U.vm ∧ U.heap = h0) (fun _ _ _ _ _ => True) (fun _ U o U' => ∃ v L, o = .returned v ∧ own_Q_rmCo1 Z a1 g h0 n0 v U'.heap L ∧ FrameEnd U o U' L ({ frames := 0, cells := 0, slots := 0, locals := 0 } : Room).cells ({ frames := 0, cells := 0, slots := 0, locals := 0 } : Room).slots) := by
  refine own_enter (Q := fun v h L => own_Q_rmCo1 Z a1 g h0 n0 v h L) (F := fun m => mkF m 0 #[rv a1, iv (1 : Int32)] []) own_pn2 (fun m => own_ef_rmCo1 m a1) ?_
  intro p e s m below meth c T X hx hby hml hret hlk hnm hown hZ e0
  show own_Goes p e below s _ _ (T.setTop (mkF m 0 #[rv a1, iv (1 : Int32)] []))
  have N0 := Fr.nil n0
  refine own_st (fun _ k => XS.iloadN X.here hx rfl (hb hby own_d7_0) rfl  k) ?_
  show own_Goes p e below s _ _ (T.setTop (mkF m 1 #[rv a1, iv (1 : Int32)] [(.int (1 : Int32))]))
  refine own_st (fun _ k => XS.aloadN X.here hx rfl (hb hby own_d7_1) rfl rfl  k) ?_
  show own_Goes p e below s _ _ (T.setTop (mkF m 2 #[rv a1, iv (1 : Int32)] [(.ref a1), (.int (1 : Int32))]))
  refine own_st (fun _ k => own_len X hx hZ e0 V1 (g := (mkF m 2 #[rv a1, iv (1 : Int32)] [(.ref a1), (.int (1 : Int32))])) rfl rfl (hb hby own_d7_2) _ k) ?_
  show own_Goes p e below s _ _ (T.setTop (mkF m 3 #[rv a1, iv (1 : Int32)] [(.int (1 : Int32)), (.int (1 : Int32))]))
  refine own_st (fun _ k => XS.isub X.here hx rfl (hb hby own_d7_3) rfl k) ?_
  show own_Goes p e below s _ _ (T.setTop (mkF m 4 #[rv a1, iv (1 : Int32)] [(.int (0 : Int32))]))
  refine own_st (fun _ k => XS.bipush X.here hx rfl (hb hby own_d7_4) k) ?_
  show own_Goes p e below s _ _ (T.setTop (mkF m 6 #[rv a1, iv (1 : Int32)] [(.int (31 : Int32)), (.int (0 : Int32))]))
  refine own_st (fun _ k => XS.iushr X.here hx rfl (hb hby own_d7_6) rfl k) ?_
  show own_Goes p e below s _ _ (T.setTop (mkF m 7 #[rv a1, iv (1 : Int32)] [(.int (((0 : Int32).toUInt32 >>> ((31 : Int32) &&& 31).toUInt32).toInt32))]))
  refine own_st (fun _ k => XS.i2b X.here hx rfl (hb hby own_d7_7) rfl k) ?_
  show own_Goes p e below s _ _ (T.setTop (mkF m 8 #[rv a1, iv (1 : Int32)] [(.int ((((0 : Int32).toUInt32 >>> ((31 : Int32) &&& 31).toUInt32).toInt32).toInt8.toInt32))]))
  exact own_retN X hx hlk (nar .byte ((((0 : Int32).toUInt32 >>> ((31 : Int32) &&& 31).toUInt32).toInt32).toInt8.toInt32)) hret (Or.inr (Or.inl rfl)) rfl (hb hby own_d7_8) (by decide) (by decide) ⟨by decide, N0, e0⟩
theorem own_pn3 : plainFor (⟨"java/lang/String", "<init>", "([CIILjava/lang/Void;)V"⟩ : MethodName) = true := by first | exact plainFor_of_name (by simp [plainName, overriddenIn]; done) | decide +kernel
theorem own_d3_0 : decode jdk_42_method_149_code 0 = .ok (.aload_n 0, 1) := by decide +kernel
theorem own_d3_1 : decode jdk_42_method_149_code 1 = .ok (.invokespecial 1, 3) := by decide +kernel
theorem own_d3_4 : decode jdk_42_method_149_code 4 = .ok (.iload_n 3, 1) := by decide +kernel
theorem own_d3_5 : decode jdk_42_method_149_code 5 = .ok (.ifCond .ne 22, 3) := by decide +kernel
theorem own_d3_27 : decode jdk_42_method_149_code 27 = .ok (.getstatic 38, 3) := by decide +kernel
theorem own_d3_30 : decode jdk_42_method_149_code 30 = .ok (.ifCond .eq 28, 3) := by decide +kernel
theorem own_d3_33 : decode jdk_42_method_149_code 33 = .ok (.aload_n 1, 1) := by decide +kernel
theorem own_d3_34 : decode jdk_42_method_149_code 34 = .ok (.iload_n 2, 1) := by decide +kernel
theorem own_d3_35 : decode jdk_42_method_149_code 35 = .ok (.iload_n 3, 1) := by decide +kernel
theorem own_d3_36 : decode jdk_42_method_149_code 36 = .ok (.invokestatic 177, 3) := by decide +kernel
theorem own_pd1 : parseMethodDescriptor "([CII)[B" = some ⟨[(.array .char), .int, .int], some (.array .byte)⟩ := by decide +kernel
theorem own_d3_39 : decode jdk_42_method_149_code 39 = .ok (.astore 5, 2) := by decide +kernel
theorem own_d3_41 : decode jdk_42_method_149_code 41 = .ok (.aload_n 0, 1) := by decide +kernel
theorem own_d3_42 : decode jdk_42_method_149_code 42 = .ok (.aload 5, 2) := by decide +kernel
theorem own_d3_44 : decode jdk_42_method_149_code 44 = .ok (.iload_n 3, 1) := by decide +kernel
theorem own_d3_45 : decode jdk_42_method_149_code 45 = .ok (.invokestatic 47, 3) := by decide +kernel
theorem own_pd2 : parseMethodDescriptor "([BI)B" = some ⟨[(.array .byte), .int], some .byte⟩ := by decide +kernel
theorem own_d3_48 : decode jdk_42_method_149_code 48 = .ok (.putfield 15, 3) := by decide +kernel
theorem own_d3_51 : decode jdk_42_method_149_code 51 = .ok (.aload_n 0, 1) := by decide +kernel
theorem own_d3_52 : decode jdk_42_method_149_code 52 = .ok (.aload 5, 2) := by decide +kernel
theorem own_d3_54 : decode jdk_42_method_149_code 54 = .ok (.putfield 9, 3) := by decide +kernel
theorem own_d3_57 : decode jdk_42_method_149_code 57 = .ok (.return_, 1) := by decide +kernel
theorem own_ef_rmSI1 (m : MethodId) (a1 : Nat) (a2 : Nat) : entryFrame m #[(.ref a1), (.ref a2), (.int (0 : Int32)), (.int (1 : Int32)), .null] 6 = mkF m 0 #[rv a1, rv a2, iv (0 : Int32), iv (1 : Int32), .val .null, .unset] [] := by first | (simp [entryFrame, mkF, argsToLocals, Value.category, maxLocals]; done) | rfl
abbrev own_Q_rmSI1 (Z : State) (a1 : Nat) (a2 : Nat) (f : Nat → Int32) (cs : Int32) (u1 : Value) (u2 : Value) (h0 : Heap) (n0 : Nat) (v : Option Value) (h : Heap) (L : List Loc) : Prop := v = none ∧ Fr n0 L ∧ Keep h0 h [a1] ∧ ∃ b : Nat, h0.size ≤ b ∧ b < h.size ∧ Exa Z h a1 "java/lang/String" ∧ Fld Z h a1 "java/lang/String" "value" "[B" (.ref b) ∧ Fld Z h a1 "java/lang/String" "coder" "B" (.int (0 : Int32)) ∧ own_Arf Z h b .byte 1 (fun k => .int ((fun j => nar .byte ((f j).toInt8.toInt32)) k))
set_option maxRecDepth 65536 in
set_option maxHeartbeats 40000000 in
theorem rmSI1 (l : Launch) (Z : State) (a0 : Array Value) (hw : ∀ d ∈ tables_1, d.before a0 Z = true) (ws : List Jvm.Cond) (a1 : Nat) (a2 : Nat) (f : Nat → Int32) (cs : Int32) (u1 : Value) (u2 : Value) (h0 : Heap) (n0 : Nat) (Z0 : n0 ≤ h0.size) (E1 : Exa Z h0 a1 "java/lang/String") (F_value : Fld Z h0 a1 "java/lang/String" "value" "[B" u1) (F_coder : Fld Z h0 a1 "java/lang/String" "coder" "B" u2) (V2 : own_Arf Z h0 a2 .char 1 (fun k => .int (f k))) (hc : ∀ j, j < 1 → 0 ≤ (f j).toInt ∧ (f j).toInt ≤ 255) (S1 : Sta Z h0 "java/lang/String" "COMPACT_STRINGS" "Z" (.int cs)) (hcs : ¬ cs = (0 : Int32)) (g1 : n0 ≤ a1) (x12 : a1 ≠ a2) :
    MetFree l (⟨"java/lang/String", "<init>", "([CIILjava/lang/Void;)V"⟩ : MethodName) (head1 (Jvm.Cond.code (⟨"java/lang/String", "<init>", "([CIILjava/lang/Void;)V"⟩ : MethodName) jdk_42_method_149_code 6 none :: ws) ({ frames := 2, cells := 1, slots := 1, locals := 35 } : Room)) (fun a U => a = #[(.ref a1), (.ref a2), (.int (0 : Int32)), (.int (1 : Int32)), .null] ∧ Z.Warmed39 U.vm ∧ U.heap = h0) (fun _ _ _ _ _ => True) (fun _ U o U' => ∃ v L, o = .returned v ∧ own_Q_rmSI1 Z a1 a2 f cs u1 u2 h0 n0 v U'.heap L ∧ FrameEnd U o U' L ({ frames := 2, cells := 1, slots := 1, locals := 35 } : Room).cells ({ frames := 2, cells := 1, slots := 1, locals := 35 } : Room).slots) := by
  refine own_enter (Q := fun v h L => own_Q_rmSI1 Z a1 a2 f cs u1 u2 h0 n0 v h L) (F := fun m => mkF m 0 #[rv a1, rv a2, iv (0 : Int32), iv (1 : Int32), .val .null, .unset] []) own_pn3 (fun m => own_ef_rmSI1 m a1 a2) ?_
  intro p e s m below meth c T X hx hby hml hret hlk hnm hown hZ e0
  show own_Goes p e below s _ _ (T.setTop (mkF m 0 #[rv a1, rv a2, iv (0 : Int32), iv (1 : Int32), .val .null, .unset] []))
  have N0 := Fr.nil n0
  have yE := own_lt E1.lt
  have yV := own_lt V2.lt
  refine own_st (fun _ k => XS.aloadN X.here hx rfl (hb hby own_d3_0) rfl rfl  k) ?_
  show own_Goes p e below s _ _ (T.setTop (mkF m 1 #[rv a1, rv a2, iv (0 : Int32), iv (1 : Int32), .val .null, .unset] [(.ref a1)]))
  obtain ⟨T101, X101, e101, st101⟩ := initO X hx hZ hown (hw _ (List.mem_of_getElem? (i := 18) rfl)) (hw _ (List.mem_of_getElem? (i := 19) rfl)) (hw _ (List.mem_of_getElem? (i := 20) rfl)) e0 (g := (mkF m 1 #[rv a1, rv a2, iv (0 : Int32), iv (1 : Int32), .val .null, .unset] [(.ref a1)])) rfl (by rw [hml]; rfl) rfl (hb hby own_d3_1) (by decide) (W := 0) (by show 2 * 0 + _ ≤ _; exact Nat.le_of_eq rfl) (by decide)
  refine own_st st101 ?_
  show own_Goes p e below s _ _ (T101.setTop (mkF m 4 #[rv a1, rv a2, iv (0 : Int32), iv (1 : Int32), .val .null, .unset] []))
  refine own_st (fun _ k => XS.iloadN X101.here hx rfl (hb hby own_d3_4) rfl  k) ?_
  show own_Goes p e below s _ _ (T101.setTop (mkF m 5 #[rv a1, rv a2, iv (0 : Int32), iv (1 : Int32), .val .null, .unset] [(.int (1 : Int32))]))
  refine own_st (fun _ k => XS.ifYes X101.here hx rfl (pc0 := 5) (pc' := 27) rfl (hb hby own_d3_5) rfl ((if0 _ _).trans (feq (by decide : ¬ ((1 : Int32) = (0 : Int32)))).2) (by decide) (by decide) k) ?_
  show own_Goes p e below s _ _ (T101.setTop (mkF m 27 #[rv a1, rv a2, iv (0 : Int32), iv (1 : Int32), .val .null, .unset] []))
  obtain ⟨T102, X102, e102, st102⟩ := getS2 X101 hx hZ hown (host := "") (Or.inl (hw _ (List.mem_of_getElem? (i := 29) rfl))) Via.refl e101 S1 (g := (mkF m 27 #[rv a1, rv a2, iv (0 : Int32), iv (1 : Int32), .val .null, .unset] [])) rfl (hb hby own_d3_27)
  refine own_st st102 ?_
  show own_Goes p e below s _ _ (T102.setTop (mkF m 30 #[rv a1, rv a2, iv (0 : Int32), iv (1 : Int32), .val .null, .unset] [(.int cs)]))
  refine own_st (fun _ k => XS.ifNo X102.here hx rfl (hb hby own_d3_30) rfl ((if0 _ _).trans (feq hcs).1) k) ?_
  show own_Goes p e below s _ _ (T102.setTop (mkF m 33 #[rv a1, rv a2, iv (0 : Int32), iv (1 : Int32), .val .null, .unset] []))
  refine own_st (fun _ k => XS.aloadN X102.here hx rfl (hb hby own_d3_33) rfl rfl  k) ?_
  show own_Goes p e below s _ _ (T102.setTop (mkF m 34 #[rv a1, rv a2, iv (0 : Int32), iv (1 : Int32), .val .null, .unset] [(.ref a2)]))
  refine own_st (fun _ k => XS.iloadN X102.here hx rfl (hb hby own_d3_34) rfl  k) ?_
  show own_Goes p e below s _ _ (T102.setTop (mkF m 35 #[rv a1, rv a2, iv (0 : Int32), iv (1 : Int32), .val .null, .unset] [(.int (0 : Int32)), (.ref a2)]))
  refine own_st (fun _ k => XS.iloadN X102.here hx rfl (hb hby own_d3_35) rfl  k) ?_
  show own_Goes p e below s _ _ (T102.setTop (mkF m 36 #[rv a1, rv a2, iv (0 : Int32), iv (1 : Int32), .val .null, .unset] [(.int (1 : Int32)), (.int (0 : Int32)), (.ref a2)]))
  obtain ⟨v103, T103, L103, X103, Q103, st103⟩ := own_callS X102 hx hZ (y := (⟨"java/lang/StringUTF16", "compress", "([CII)[B"⟩ : MethodName)) hown (hw _ (List.mem_of_getElem? (i := 30) rfl)) (hw _ (List.mem_of_getElem? (i := 31) rfl)) (hw _ (List.mem_of_getElem? (i := 32) rfl)) (hw _ (List.mem_of_getElem? (i := 33) rfl)) (by decide) (W := 0) (rest := []) (argsL := [(.ref a2), (.int (0 : Int32)), (.int (1 : Int32))]) (rmCp1 l Z a0 hw [] a2 _ h0 n0 (by omega) V2 hc) (by decide) (by decide) (by decide) (by decide) e102 own_pd1 rfl (g := (mkF m 36 #[rv a1, rv a2, iv (0 : Int32), iv (1 : Int32), .val .null, .unset] [(.int (1 : Int32)), (.int (0 : Int32)), (.ref a2)])) rfl (by rw [hml]; rfl) rfl (by show 2 * 0 + _ ≤ _; exact Nat.le_of_eq rfl) (hb hby own_d3_36)
  obtain ⟨b103, rfl, N103q, K103, g103, y103, V103⟩ := Q103
  have z103 := K103.1
  have N103 := Fr.app N0 N103q
  refine own_st st103 ?_
  show own_Goes p e below s _ _ (T103.setTop (mkF m 39 #[rv a1, rv a2, iv (0 : Int32), iv (1 : Int32), .val .null, .unset] [(.ref b103)]))
  refine own_st (fun _ k => XS.astore X103.here hx rfl (hb hby own_d3_39) rfl rfl (l' := #[rv a1, rv a2, iv (0 : Int32), iv (1 : Int32), .val .null, rv b103]) rfl k) ?_
  show own_Goes p e below s _ _ (T103.setTop (mkF m 41 #[rv a1, rv a2, iv (0 : Int32), iv (1 : Int32), .val .null, rv b103] []))
  refine own_st (fun _ k => XS.aloadN X103.here hx rfl (hb hby own_d3_41) rfl rfl  k) ?_
  show own_Goes p e below s _ _ (T103.setTop (mkF m 42 #[rv a1, rv a2, iv (0 : Int32), iv (1 : Int32), .val .null, rv b103] [(.ref a1)]))
  refine own_st (fun _ k => XS.aload X103.here hx rfl (hb hby own_d3_42) rfl rfl  k) ?_
  show own_Goes p e below s _ _ (T103.setTop (mkF m 44 #[rv a1, rv a2, iv (0 : Int32), iv (1 : Int32), .val .null, rv b103] [(.ref b103), (.ref a1)]))
  refine own_st (fun _ k => XS.iloadN X103.here hx rfl (hb hby own_d3_44) rfl  k) ?_
  show own_Goes p e below s _ _ (T103.setTop (mkF m 45 #[rv a1, rv a2, iv (0 : Int32), iv (1 : Int32), .val .null, rv b103] [(.int (1 : Int32)), (.ref b103), (.ref a1)]))
  obtain ⟨v104, T104, L104, X104, Q104, st104⟩ := own_callS X103 hx hZ (y := (⟨"java/lang/StringUTF16", "coderFromArrayLen", "([BI)B"⟩ : MethodName)) hown (hw _ (List.mem_of_getElem? (i := 37) rfl)) (hw _ (List.mem_of_getElem? (i := 38) rfl)) (hw _ (List.mem_of_getElem? (i := 32) rfl)) (hw _ (List.mem_of_getElem? (i := 39) rfl)) (by decide) (W := 1) (rest := [(.ref a1)]) (argsL := [(.ref b103), (.int (1 : Int32))]) (rmCo1 l Z a0 hw [] b103 _ T103.heap n0 (by omega) V103) (by decide) (by decide) (by decide) (by decide) rfl own_pd2 rfl (g := (mkF m 45 #[rv a1, rv a2, iv (0 : Int32), iv (1 : Int32), .val .null, rv b103] [(.int (1 : Int32)), (.ref b103), (.ref a1)])) rfl (by rw [hml]; rfl) rfl (by show 2 * 0 + _ ≤ _; exact Nat.le_of_eq rfl) (hb hby own_d3_45)
  obtain ⟨rfl, N104q, e104⟩ := Q104
  have N104 := Fr.app N103 N104q
  refine own_st st104 ?_
  show own_Goes p e below s _ _ (T104.setTop (mkF m 48 #[rv a1, rv a2, iv (0 : Int32), iv (1 : Int32), .val .null, rv b103] [(.int (0 : Int32)), (.ref a1)]))
  have f105 := (F_coder.keep K103 nin0)
  have f106 := (E1.keep K103)
  obtain ⟨T107, h107, X107, e107, W107, st107⟩ := putFN X104 hx hZ hown (hw _ (List.mem_of_getElem? (i := 28) rfl)) Via.refl e104 f105 f106 (Or.inr ⟨(hw _ (List.mem_of_getElem? (i := 24) rfl)), rfl, hnm⟩) (hw _ (List.mem_of_getElem? (i := 8) rfl)) (ty := .byte) (v' := (.int (nar .byte (0 : Int32)))) (by decide) rfl (fits_nar_byte _) (g := (mkF m 48 #[rv a1, rv a2, iv (0 : Int32), iv (1 : Int32), .val .null, rv b103] [(.int (0 : Int32)), (.ref a1)])) rfl rfl (hb hby own_d3_48)
  have z107 := W107.size
  have N107 := Fr.snoc X107 N104 (by omega)
  have F107 := f105.same W107
  refine own_st st107 ?_
  show own_Goes p e below s _ _ (T107.setTop (mkF m 51 #[rv a1, rv a2, iv (0 : Int32), iv (1 : Int32), .val .null, rv b103] []))
  refine own_st (fun _ k => XS.aloadN X107.here hx rfl (hb hby own_d3_51) rfl rfl  k) ?_
  show own_Goes p e below s _ _ (T107.setTop (mkF m 52 #[rv a1, rv a2, iv (0 : Int32), iv (1 : Int32), .val .null, rv b103] [(.ref a1)]))
  refine own_st (fun _ k => XS.aload X107.here hx rfl (hb hby own_d3_52) rfl rfl  k) ?_
  show own_Goes p e below s _ _ (T107.setTop (mkF m 54 #[rv a1, rv a2, iv (0 : Int32), iv (1 : Int32), .val .null, rv b103] [(.ref b103), (.ref a1)]))
  have f108 := ((F_value.keep K103 nin0).other W107 (Or.inr (slot_ne (Or.inr (hw _ (List.mem_of_getElem? (i := 23) rfl))) (Or.inr (hw _ (List.mem_of_getElem? (i := 24) rfl))) (by decide) (t := (.array .byte)) (t' := .byte) (by decide) (by decide))))
  have f109 := (f106.wr W107)
  obtain ⟨T110, h110, X110, e110, W110, st110⟩ := putF X107 hx hZ hown (host := "") (Or.inl (hw _ (List.mem_of_getElem? (i := 27) rfl))) Via.refl e107 f108 f109 (Or.inr ⟨(hw _ (List.mem_of_getElem? (i := 23) rfl)), rfl, hnm⟩) (hw _ (List.mem_of_getElem? (i := 8) rfl)) (ty := (.array .byte)) (by decide) rfl rfl (g := (mkF m 54 #[rv a1, rv a2, iv (0 : Int32), iv (1 : Int32), .val .null, rv b103] [(.ref b103), (.ref a1)])) rfl rfl (hb hby own_d3_54)
  have z110 := W110.size
  have N110 := Fr.snoc X110 N107 (by omega)
  have F110 := f108.same W110
  refine own_st st110 ?_
  show own_Goes p e below s _ _ (T110.setTop (mkF m 57 #[rv a1, rv a2, iv (0 : Int32), iv (1 : Int32), .val .null, rv b103] []))
  have f111 := (f109.wr W110)
  have f112 := (F107.other W110 (Or.inr (slot_ne (Or.inr (hw _ (List.mem_of_getElem? (i := 24) rfl))) (Or.inr (hw _ (List.mem_of_getElem? (i := 23) rfl))) (by decide) (t := .byte) (t' := (.array .byte)) (by decide) (by decide))))
  have f113 := ((V103.other W107 (own_ne (by omega))).other W110 (own_ne (by omega)))
  exact own_ret0 X110 hx hlk hret (hb hby own_d3_57) (by decide) (by decide) ⟨rfl, N110, by rw [e110]; exact ((((Keep.refl h0 [a1]).trans K103 all0).wr W107 (Or.inl (by simp))).wr W110 (Or.inl (by simp))), b103, by omega, by rw [e110]; omega, by rw [e110]; exact f111, by rw [e110]; exact F110, by rw [e110]; exact f112, by rw [e110]; exact f113⟩
theorem own_pn4 : plainFor (⟨"java/lang/String", "<init>", "([C)V"⟩ : MethodName) = true := by first | exact plainFor_of_name (by simp [plainName, overriddenIn]; done) | decide +kernel
theorem own_d2_0 : decode jdk_42_method_3_code 0 = .ok (.aload_n 0, 1) := by decide +kernel
theorem own_d2_1 : decode jdk_42_method_3_code 1 = .ok (.aload_n 1, 1) := by decide +kernel
theorem own_d2_2 : decode jdk_42_method_3_code 2 = .ok (.iconst 0, 1) := by decide +kernel
theorem own_d2_3 : decode jdk_42_method_3_code 3 = .ok (.aload_n 1, 1) := by decide +kernel
theorem own_d2_4 : decode jdk_42_method_3_code 4 = .ok (.arraylength, 1) := by decide +kernel
theorem own_d2_5 : decode jdk_42_method_3_code 5 = .ok (.aconst_null, 1) := by decide +kernel
theorem own_d2_6 : decode jdk_42_method_3_code 6 = .ok (.invokespecial 27, 3) := by decide +kernel
theorem own_pd3 : parseMethodDescriptor "([CIILjava/lang/Void;)V" = some ⟨[(.array .char), .int, .int, (.object "java/lang/Void")], none⟩ := by decide +kernel
theorem own_d2_9 : decode jdk_42_method_3_code 9 = .ok (.return_, 1) := by decide +kernel
theorem own_ef_rmS1 (m : MethodId) (a1 : Nat) (a2 : Nat) : entryFrame m #[(.ref a1), (.ref a2)] 2 = mkF m 0 #[rv a1, rv a2] [] := by first | (simp [entryFrame, mkF, argsToLocals, Value.category, maxLocals]; done) | rfl
abbrev own_Q_rmS1 (Z : State) (a1 : Nat) (a2 : Nat) (f : Nat → Int32) (cs : Int32) (u1 : Value) (u2 : Value) (h0 : Heap) (n0 : Nat) (v : Option Value) (h : Heap) (L : List Loc) : Prop := v = none ∧ Fr n0 L ∧ Keep h0 h [a1] ∧ ∃ b : Nat, h0.size ≤ b ∧ b < h.size ∧ Exa Z h a1 "java/lang/String" ∧ Fld Z h a1 "java/lang/String" "value" "[B" (.ref b) ∧ Fld Z h a1 "java/lang/String" "coder" "B" (.int (0 : Int32)) ∧ own_Arf Z h b .byte 1 (fun k => .int ((fun j => nar .byte ((f j).toInt8.toInt32)) k))
set_option maxRecDepth 65536 in
set_option maxHeartbeats 40000000 in
theorem rmS1 (l : Launch) (Z : State) (a0 : Array Value) (hw : ∀ d ∈ tables_1, d.before a0 Z = true) (ws : List Jvm.Cond) (a1 : Nat) (a2 : Nat) (f : Nat → Int32) (cs : Int32) (u1 : Value) (u2 : Value) (h0 : Heap) (n0 : Nat) (Z0 : n0 ≤ h0.size) (E1 : Exa Z h0 a1 "java/lang/String") (F_value : Fld Z h0 a1 "java/lang/String" "value" "[B" u1) (F_coder : Fld Z h0 a1 "java/lang/String" "coder" "B" u2) (V2 : own_Arf Z h0 a2 .char 1 (fun k => .int (f k))) (hc : ∀ j, j < 1 → 0 ≤ (f j).toInt ∧ (f j).toInt ≤ 255) (S1 : Sta Z h0 "java/lang/String" "COMPACT_STRINGS" "Z" (.int cs)) (hcs : ¬ cs = (0 : Int32)) (g1 : n0 ≤ a1) (x12 : a1 ≠ a2) :
    MetFree l (⟨"java/lang/String", "<init>", "([C)V"⟩ : MethodName) (head1 (Jvm.Cond.code (⟨"java/lang/String", "<init>", "([C)V"⟩ : MethodName) jdk_42_method_3_code 2 none :: ws) ({ frames := 3, cells := 1, slots := 1, locals := 52 } : Room)) (fun a U => a = #[(.ref a1), (.ref a2)] ∧ Z.Warmed39 U.vm ∧ U.heap = h0) (fun _ _ _ _ _ => True) (fun _ U o U' => ∃ v L, o = .returned v ∧ own_Q_rmS1 Z a1 a2 f cs u1 u2 h0 n0 v U'.heap L ∧ FrameEnd U o U' L ({ frames := 3, cells := 1, slots := 1, locals := 52 } : Room).cells ({ frames := 3, cells := 1, slots := 1, locals := 52 } : Room).slots) := by
  refine own_enter (Q := fun v h L => own_Q_rmS1 Z a1 a2 f cs u1 u2 h0 n0 v h L) (F := fun m => mkF m 0 #[rv a1, rv a2] []) own_pn4 (fun m => own_ef_rmS1 m a1 a2) ?_
  intro p e s m below meth c T X hx hby hml hret hlk hnm hown hZ e0
  show own_Goes p e below s _ _ (T.setTop (mkF m 0 #[rv a1, rv a2] []))
  have N0 := Fr.nil n0
  have yE := own_lt E1.lt
  have yV := own_lt V2.lt
  refine own_st (fun _ k => XS.aloadN X.here hx rfl (hb hby own_d2_0) rfl rfl  k) ?_
  show own_Goes p e below s _ _ (T.setTop (mkF m 1 #[rv a1, rv a2] [(.ref a1)]))
  refine own_st (fun _ k => XS.aloadN X.here hx rfl (hb hby own_d2_1) rfl rfl  k) ?_
  show own_Goes p e below s _ _ (T.setTop (mkF m 2 #[rv a1, rv a2] [(.ref a2), (.ref a1)]))
  refine own_st (fun _ k => XS.iconst X.here hx rfl (hb hby own_d2_2) k) ?_
  show own_Goes p e below s _ _ (T.setTop (mkF m 3 #[rv a1, rv a2] [(.int (0 : Int32)), (.ref a2), (.ref a1)]))
  refine own_st (fun _ k => XS.aloadN X.here hx rfl (hb hby own_d2_3) rfl rfl  k) ?_
  show own_Goes p e below s _ _ (T.setTop (mkF m 4 #[rv a1, rv a2] [(.ref a2), (.int (0 : Int32)), (.ref a2), (.ref a1)]))
  refine own_st (fun _ k => own_len X hx hZ e0 V2 (g := (mkF m 4 #[rv a1, rv a2] [(.ref a2), (.int (0 : Int32)), (.ref a2), (.ref a1)])) rfl rfl (hb hby own_d2_4) _ k) ?_
  show own_Goes p e below s _ _ (T.setTop (mkF m 5 #[rv a1, rv a2] [(.int (1 : Int32)), (.int (0 : Int32)), (.ref a2), (.ref a1)]))
  refine own_st (fun _ k => XS.aconstNull X.here hx rfl (hb hby own_d2_5) k) ?_
  show own_Goes p e below s _ _ (T.setTop (mkF m 6 #[rv a1, rv a2] [.null, (.int (1 : Int32)), (.int (0 : Int32)), (.ref a2), (.ref a1)]))
  obtain ⟨v101, T101, L101, X101, Q101, st101⟩ := own_callI X hx hZ (y := (⟨"java/lang/String", "<init>", "([CIILjava/lang/Void;)V"⟩ : MethodName)) hown (hw _ (List.mem_of_getElem? (i := 14) rfl)) (hw _ (List.mem_of_getElem? (i := 15) rfl)) (hw _ (List.mem_of_getElem? (i := 9) rfl)) (hw _ (List.mem_of_getElem? (i := 17) rfl)) rfl (by decide) (W := 0) (rest := []) (argsL := [(.ref a2), (.int (0 : Int32)), (.int (1 : Int32)), .null]) (a := a1) (rmSI1 l Z a0 hw [] a1 a2 _ cs _ _  h0 n0 (by omega) E1 F_value F_coder V2 hc S1 hcs (by omega) (by omega)) (by decide) (by decide) (by decide) (by decide) e0 own_pd3 rfl (g := (mkF m 6 #[rv a1, rv a2] [.null, (.int (1 : Int32)), (.int (0 : Int32)), (.ref a2), (.ref a1)])) rfl (by rw [hml]; rfl) rfl (by show 2 * 0 + _ ≤ _; exact Nat.le_of_eq rfl) (hb hby own_d2_6)
  obtain ⟨rfl, N101q, K101, b101, g101, y101, A101, F101_value, F101_coder, V101⟩ := Q101
  have z101 := K101.1
  have N101 := Fr.app N0 N101q
  refine own_st st101 ?_
  show own_Goes p e below s _ _ (T101.setTop (mkF m 9 #[rv a1, rv a2] []))
  exact own_ret0 X101 hx hlk hret (hb hby own_d2_9) (by decide) (by decide) ⟨rfl, N101, ((Keep.refl h0 [a1]).trans K101 (allS (Or.inl (by simp)) all0)), b101, by omega, by omega, A101, F101_value, F101_coder, V101⟩
theorem own_ef_rmCc2 (m : MethodId) (a1 : Nat) (a3 : Nat) : entryFrame m #[(.ref a1), (.int (0 : Int32)), (.ref a3), (.int (0 : Int32)), (.int (2 : Int32))] 7 = mkF m 0 #[rv a1, iv (0 : Int32), rv a3, iv (0 : Int32), iv (2 : Int32), .unset, .unset] [] := by first | (simp [entryFrame, mkF, argsToLocals, Value.category, maxLocals]; done) | rfl
abbrev own_Q_rmCc2 (Z : State) (a1 : Nat) (a3 : Nat) (f : Nat → Int32) (g : Nat → Int32) (h0 : Heap) (n0 : Nat) (v : Option Value) (h : Heap) (L : List Loc) : Prop := v = some (.int (2 : Int32)) ∧ Fr n0 L ∧ Keep h0 h [a3] ∧ own_Arf Z h a3 .byte 2 (fun k => .int ((fun j => nar .byte ((f j).toInt8.toInt32)) k))
set_option maxRecDepth 65536 in
set_option maxHeartbeats 40000000 in
theorem rmCc2 (l : Launch) (Z : State) (a0 : Array Value) (hw : ∀ d ∈ tables_1, d.before a0 Z = true) (ws : List Jvm.Cond) (a1 : Nat) (a3 : Nat) (f : Nat → Int32) (g : Nat → Int32) (h0 : Heap) (n0 : Nat) (Z0 : n0 ≤ h0.size) (V1 : own_Arf Z h0 a1 .char 2 (fun k => .int (f k))) (V3 : own_Arf Z h0 a3 .byte 2 (fun k => .int (g k))) (hc : ∀ j, j < 2 → 0 ≤ (f j).toInt ∧ (f j).toInt ≤ 255) (g3 : n0 ≤ a3) (x13 : a1 ≠ a3) :
    MetFree l (⟨"java/lang/StringUTF16", "compress", "([CI[BII)I"⟩ : MethodName) (head1 (Jvm.Cond.code (⟨"java/lang/StringUTF16", "compress", "([CI[BII)I"⟩ : MethodName) jdk_52_method_21_code 7 (some .int) :: ws) ({ frames := 0, cells := 0, slots := 0, locals := 0 } : Room)) (fun a U => a = #[(.ref a1), (.int (0 : Int32)), (.ref a3), (.int (0 : Int32)), (.int (2 : Int32))] ∧ Z.Warmed39 U.vm ∧ U.heap = h0) (fun _ _ _ _ _ => True) (fun _ U o U' => ∃ v L, o = .returned v ∧ own_Q_rmCc2 Z a1 a3 f g h0 n0 v U'.heap L ∧ FrameEnd U o U' L ({ frames := 0, cells := 0, slots := 0, locals := 0 } : Room).cells ({ frames := 0, cells := 0, slots := 0, locals := 0 } : Room).slots) := by
  refine own_enter (Q := fun v h L => own_Q_rmCc2 Z a1 a3 f g h0 n0 v h L) (F := fun m => mkF m 0 #[rv a1, iv (0 : Int32), rv a3, iv (0 : Int32), iv (2 : Int32), .unset, .unset] []) own_pn0 (fun m => own_ef_rmCc2 m a1 a3) ?_
  intro p e s m below meth c T X hx hby hml hret hlk hnm hown hZ e0
  show own_Goes p e below s _ _ (T.setTop (mkF m 0 #[rv a1, iv (0 : Int32), rv a3, iv (0 : Int32), iv (2 : Int32), .unset, .unset] []))
  have N0 := Fr.nil n0
  have hc0 := hc 0 (by decide)
  have hc1 := hc 1 (by decide)
  refine own_st (fun _ k => XS.iconst X.here hx rfl (hb hby own_d6_0) k) ?_
  show own_Goes p e below s _ _ (T.setTop (mkF m 1 #[rv a1, iv (0 : Int32), rv a3, iv (0 : Int32), iv (2 : Int32), .unset, .unset] [(.int (0 : Int32))]))
  refine own_st (fun _ k => XS.istore X.here hx rfl (hb hby own_d6_1) rfl (l' := #[rv a1, iv (0 : Int32), rv a3, iv (0 : Int32), iv (2 : Int32), iv (0 : Int32), .unset]) rfl k) ?_
  show own_Goes p e below s _ _ (T.setTop (mkF m 3 #[rv a1, iv (0 : Int32), rv a3, iv (0 : Int32), iv (2 : Int32), iv (0 : Int32), .unset] []))
  refine own_st (fun _ k => XS.iload X.here hx rfl (hb hby own_d6_3) rfl  k) ?_
  show own_Goes p e below s _ _ (T.setTop (mkF m 5 #[rv a1, iv (0 : Int32), rv a3, iv (0 : Int32), iv (2 : Int32), iv (0 : Int32), .unset] [(.int (0 : Int32))]))
  refine own_st (fun _ k => XS.iload X.here hx rfl (hb hby own_d6_5) rfl  k) ?_
  show own_Goes p e below s _ _ (T.setTop (mkF m 7 #[rv a1, iv (0 : Int32), rv a3, iv (0 : Int32), iv (2 : Int32), iv (0 : Int32), .unset] [(.int (2 : Int32)), (.int (0 : Int32))]))
  refine own_st (fun _ k => XS.icmpNo X.here hx rfl (hb hby own_d6_7) rfl (tlt (by decide : (0 : Int32) < (2 : Int32))).2.1 k) ?_
  show own_Goes p e below s _ _ (T.setTop (mkF m 10 #[rv a1, iv (0 : Int32), rv a3, iv (0 : Int32), iv (2 : Int32), iv (0 : Int32), .unset] []))
  refine own_st (fun _ k => XS.aloadN X.here hx rfl (hb hby own_d6_10) rfl rfl  k) ?_
  show own_Goes p e below s _ _ (T.setTop (mkF m 11 #[rv a1, iv (0 : Int32), rv a3, iv (0 : Int32), iv (2 : Int32), iv (0 : Int32), .unset] [(.ref a1)]))
  refine own_st (fun _ k => XS.iloadN X.here hx rfl (hb hby own_d6_11) rfl  k) ?_
  show own_Goes p e below s _ _ (T.setTop (mkF m 12 #[rv a1, iv (0 : Int32), rv a3, iv (0 : Int32), iv (2 : Int32), iv (0 : Int32), .unset] [(.int (0 : Int32)), (.ref a1)]))
  refine own_st (fun _ k => own_ldC X hx hZ e0 V1 (j := (0 : Int32)) (by decide) (g := (mkF m 12 #[rv a1, iv (0 : Int32), rv a3, iv (0 : Int32), iv (2 : Int32), iv (0 : Int32), .unset] [(.int (0 : Int32)), (.ref a1)])) rfl rfl (hb hby own_d6_12) _ k) ?_
  show own_Goes p e below s _ _ (T.setTop (mkF m 13 #[rv a1, iv (0 : Int32), rv a3, iv (0 : Int32), iv (2 : Int32), iv (0 : Int32), .unset] [(.int (f 0))]))
  refine own_st (fun _ k => XS.istore X.here hx rfl (hb hby own_d6_13) rfl (l' := #[rv a1, iv (0 : Int32), rv a3, iv (0 : Int32), iv (2 : Int32), iv (0 : Int32), iv (f 0)]) rfl k) ?_
  show own_Goes p e below s _ _ (T.setTop (mkF m 15 #[rv a1, iv (0 : Int32), rv a3, iv (0 : Int32), iv (2 : Int32), iv (0 : Int32), iv (f 0)] []))
  refine own_st (fun _ k => XS.iload X.here hx rfl (hb hby own_d6_15) rfl  k) ?_
  show own_Goes p e below s _ _ (T.setTop (mkF m 17 #[rv a1, iv (0 : Int32), rv a3, iv (0 : Int32), iv (2 : Int32), iv (0 : Int32), iv (f 0)] [(.int (f 0))]))
  refine own_st (fun _ k => XS.sipush X.here hx rfl (hb hby own_d6_17) k) ?_
  show own_Goes p e below s _ _ (T.setTop (mkF m 20 #[rv a1, iv (0 : Int32), rv a3, iv (0 : Int32), iv (2 : Int32), iv (0 : Int32), iv (f 0)] [(.int (255 : Int32)), (.int (f 0))]))
  by_cases c101 : (255 : Int32) < (f 0)
  · have c101i : 255 < (f 0).toInt := own_i_lt c101
    exfalso; omega
  · have c101i : (f 0).toInt ≤ 255 := own_i_nlt c101
    refine own_st (fun _ k => XS.icmpYes X.here hx rfl (pc0 := 20) (pc' := 26) rfl (hb hby own_d6_20) rfl (flt c101).2.2.2 (by decide) (by decide) k) ?_
    show own_Goes p e below s _ _ (T.setTop (mkF m 26 #[rv a1, iv (0 : Int32), rv a3, iv (0 : Int32), iv (2 : Int32), iv (0 : Int32), iv (f 0)] []))
    refine own_st (fun _ k => XS.aloadN X.here hx rfl (hb hby own_d6_26) rfl rfl  k) ?_
    show own_Goes p e below s _ _ (T.setTop (mkF m 27 #[rv a1, iv (0 : Int32), rv a3, iv (0 : Int32), iv (2 : Int32), iv (0 : Int32), iv (f 0)] [(.ref a3)]))
    refine own_st (fun _ k => XS.iloadN X.here hx rfl (hb hby own_d6_27) rfl  k) ?_
    show own_Goes p e below s _ _ (T.setTop (mkF m 28 #[rv a1, iv (0 : Int32), rv a3, iv (0 : Int32), iv (2 : Int32), iv (0 : Int32), iv (f 0)] [(.int (0 : Int32)), (.ref a3)]))
    refine own_st (fun _ k => XS.iload X.here hx rfl (hb hby own_d6_28) rfl  k) ?_
    show own_Goes p e below s _ _ (T.setTop (mkF m 30 #[rv a1, iv (0 : Int32), rv a3, iv (0 : Int32), iv (2 : Int32), iv (0 : Int32), iv (f 0)] [(.int (f 0)), (.int (0 : Int32)), (.ref a3)]))
    refine own_st (fun _ k => XS.i2b X.here hx rfl (hb hby own_d6_30) rfl k) ?_
    show own_Goes p e below s _ _ (T.setTop (mkF m 31 #[rv a1, iv (0 : Int32), rv a3, iv (0 : Int32), iv (2 : Int32), iv (0 : Int32), iv (f 0)] [(.int ((f 0).toInt8.toInt32)), (.int (0 : Int32)), (.ref a3)]))
    obtain ⟨T102, h102, X102, e102, W102, A102, st102⟩ := own_stB X hx hZ e0 V3 (j := (0 : Int32)) (by decide) (g := (mkF m 31 #[rv a1, iv (0 : Int32), rv a3, iv (0 : Int32), iv (2 : Int32), iv (0 : Int32), iv (f 0)] [(.int ((f 0).toInt8.toInt32)), (.int (0 : Int32)), (.ref a3)])) rfl rfl (hb hby own_d6_31)
    have V102 : own_Arf Z h102 a3 .byte 2 (fun k => .int ((fun k => if k = 0 then (nar .byte ((f 0).toInt8.toInt32)) else g k) k)) := A102
    have z102 := W102.size
    have N102 := Fr.snoc X102 N0 (by omega)
    refine own_st st102 ?_
    show own_Goes p e below s _ _ (T102.setTop (mkF m 32 #[rv a1, iv (0 : Int32), rv a3, iv (0 : Int32), iv (2 : Int32), iv (0 : Int32), iv (f 0)] []))
    refine own_st (fun _ k => XS.iinc X102.here hx rfl (hb hby own_d6_32) rfl (l' := #[rv a1, iv (1 : Int32), rv a3, iv (0 : Int32), iv (2 : Int32), iv (0 : Int32), iv (f 0)]) rfl k) ?_
    show own_Goes p e below s _ _ (T102.setTop (mkF m 35 #[rv a1, iv (1 : Int32), rv a3, iv (0 : Int32), iv (2 : Int32), iv (0 : Int32), iv (f 0)] []))
    refine own_st (fun _ k => XS.iinc X102.here hx rfl (hb hby own_d6_35) rfl (l' := #[rv a1, iv (1 : Int32), rv a3, iv (1 : Int32), iv (2 : Int32), iv (0 : Int32), iv (f 0)]) rfl k) ?_
    show own_Goes p e below s _ _ (T102.setTop (mkF m 38 #[rv a1, iv (1 : Int32), rv a3, iv (1 : Int32), iv (2 : Int32), iv (0 : Int32), iv (f 0)] []))
    refine own_st (fun _ k => XS.iinc X102.here hx rfl (hb hby own_d6_38) rfl (l' := #[rv a1, iv (1 : Int32), rv a3, iv (1 : Int32), iv (2 : Int32), iv (1 : Int32), iv (f 0)]) rfl k) ?_
    show own_Goes p e below s _ _ (T102.setTop (mkF m 41 #[rv a1, iv (1 : Int32), rv a3, iv (1 : Int32), iv (2 : Int32), iv (1 : Int32), iv (f 0)] []))
    refine own_st (fun _ k => XS.goto X102.here hx rfl (pc0 := 41) (pc' := 3) rfl (hb hby own_d6_41) (by decide) (by decide) k) ?_
    show own_Goes p e below s _ _ (T102.setTop (mkF m 3 #[rv a1, iv (1 : Int32), rv a3, iv (1 : Int32), iv (2 : Int32), iv (1 : Int32), iv (f 0)] []))
    refine own_st (fun _ k => XS.iload X102.here hx rfl (hb hby own_d6_3) rfl  k) ?_
    show own_Goes p e below s _ _ (T102.setTop (mkF m 5 #[rv a1, iv (1 : Int32), rv a3, iv (1 : Int32), iv (2 : Int32), iv (1 : Int32), iv (f 0)] [(.int (1 : Int32))]))
    refine own_st (fun _ k => XS.iload X102.here hx rfl (hb hby own_d6_5) rfl  k) ?_
    show own_Goes p e below s _ _ (T102.setTop (mkF m 7 #[rv a1, iv (1 : Int32), rv a3, iv (1 : Int32), iv (2 : Int32), iv (1 : Int32), iv (f 0)] [(.int (2 : Int32)), (.int (1 : Int32))]))
    refine own_st (fun _ k => XS.icmpNo X102.here hx rfl (hb hby own_d6_7) rfl (tlt (by decide : (1 : Int32) < (2 : Int32))).2.1 k) ?_
    show own_Goes p e below s _ _ (T102.setTop (mkF m 10 #[rv a1, iv (1 : Int32), rv a3, iv (1 : Int32), iv (2 : Int32), iv (1 : Int32), iv (f 0)] []))
    refine own_st (fun _ k => XS.aloadN X102.here hx rfl (hb hby own_d6_10) rfl rfl  k) ?_
    show own_Goes p e below s _ _ (T102.setTop (mkF m 11 #[rv a1, iv (1 : Int32), rv a3, iv (1 : Int32), iv (2 : Int32), iv (1 : Int32), iv (f 0)] [(.ref a1)]))
    refine own_st (fun _ k => XS.iloadN X102.here hx rfl (hb hby own_d6_11) rfl  k) ?_
    show own_Goes p e below s _ _ (T102.setTop (mkF m 12 #[rv a1, iv (1 : Int32), rv a3, iv (1 : Int32), iv (2 : Int32), iv (1 : Int32), iv (f 0)] [(.int (1 : Int32)), (.ref a1)]))
    have f103 := (V1.other W102 (own_ne (by omega)))
    refine own_st (fun _ k => own_ldC X102 hx hZ e102 f103 (j := (1 : Int32)) (by decide) (g := (mkF m 12 #[rv a1, iv (1 : Int32), rv a3, iv (1 : Int32), iv (2 : Int32), iv (1 : Int32), iv (f 0)] [(.int (1 : Int32)), (.ref a1)])) rfl rfl (hb hby own_d6_12) _ k) ?_
    show own_Goes p e below s _ _ (T102.setTop (mkF m 13 #[rv a1, iv (1 : Int32), rv a3, iv (1 : Int32), iv (2 : Int32), iv (1 : Int32), iv (f 0)] [(.int (f 1))]))
    refine own_st (fun _ k => XS.istore X102.here hx rfl (hb hby own_d6_13) rfl (l' := #[rv a1, iv (1 : Int32), rv a3, iv (1 : Int32), iv (2 : Int32), iv (1 : Int32), iv (f 1)]) rfl k) ?_
    show own_Goes p e below s _ _ (T102.setTop (mkF m 15 #[rv a1, iv (1 : Int32), rv a3, iv (1 : Int32), iv (2 : Int32), iv (1 : Int32), iv (f 1)] []))
    refine own_st (fun _ k => XS.iload X102.here hx rfl (hb hby own_d6_15) rfl  k) ?_
    show own_Goes p e below s _ _ (T102.setTop (mkF m 17 #[rv a1, iv (1 : Int32), rv a3, iv (1 : Int32), iv (2 : Int32), iv (1 : Int32), iv (f 1)] [(.int (f 1))]))
    refine own_st (fun _ k => XS.sipush X102.here hx rfl (hb hby own_d6_17) k) ?_
    show own_Goes p e below s _ _ (T102.setTop (mkF m 20 #[rv a1, iv (1 : Int32), rv a3, iv (1 : Int32), iv (2 : Int32), iv (1 : Int32), iv (f 1)] [(.int (255 : Int32)), (.int (f 1))]))
    by_cases c104 : (255 : Int32) < (f 1)
    · have c104i : 255 < (f 1).toInt := own_i_lt c104
      exfalso; omega
    · have c104i : (f 1).toInt ≤ 255 := own_i_nlt c104
      refine own_st (fun _ k => XS.icmpYes X102.here hx rfl (pc0 := 20) (pc' := 26) rfl (hb hby own_d6_20) rfl (flt c104).2.2.2 (by decide) (by decide) k) ?_
      show own_Goes p e below s _ _ (T102.setTop (mkF m 26 #[rv a1, iv (1 : Int32), rv a3, iv (1 : Int32), iv (2 : Int32), iv (1 : Int32), iv (f 1)] []))
      refine own_st (fun _ k => XS.aloadN X102.here hx rfl (hb hby own_d6_26) rfl rfl  k) ?_
      show own_Goes p e below s _ _ (T102.setTop (mkF m 27 #[rv a1, iv (1 : Int32), rv a3, iv (1 : Int32), iv (2 : Int32), iv (1 : Int32), iv (f 1)] [(.ref a3)]))
      refine own_st (fun _ k => XS.iloadN X102.here hx rfl (hb hby own_d6_27) rfl  k) ?_
      show own_Goes p e below s _ _ (T102.setTop (mkF m 28 #[rv a1, iv (1 : Int32), rv a3, iv (1 : Int32), iv (2 : Int32), iv (1 : Int32), iv (f 1)] [(.int (1 : Int32)), (.ref a3)]))
      refine own_st (fun _ k => XS.iload X102.here hx rfl (hb hby own_d6_28) rfl  k) ?_
      show own_Goes p e below s _ _ (T102.setTop (mkF m 30 #[rv a1, iv (1 : Int32), rv a3, iv (1 : Int32), iv (2 : Int32), iv (1 : Int32), iv (f 1)] [(.int (f 1)), (.int (1 : Int32)), (.ref a3)]))
      refine own_st (fun _ k => XS.i2b X102.here hx rfl (hb hby own_d6_30) rfl k) ?_
      show own_Goes p e below s _ _ (T102.setTop (mkF m 31 #[rv a1, iv (1 : Int32), rv a3, iv (1 : Int32), iv (2 : Int32), iv (1 : Int32), iv (f 1)] [(.int ((f 1).toInt8.toInt32)), (.int (1 : Int32)), (.ref a3)]))
      obtain ⟨T105, h105, X105, e105, W105, A105, st105⟩ := own_stB X102 hx hZ e102 V102 (j := (1 : Int32)) (by decide) (g := (mkF m 31 #[rv a1, iv (1 : Int32), rv a3, iv (1 : Int32), iv (2 : Int32), iv (1 : Int32), iv (f 1)] [(.int ((f 1).toInt8.toInt32)), (.int (1 : Int32)), (.ref a3)])) rfl rfl (hb hby own_d6_31)
      have V105 : own_Arf Z h105 a3 .byte 2 (fun k => .int ((fun k => if k = 1 then (nar .byte ((f 1).toInt8.toInt32)) else (fun k => if k = 0 then (nar .byte ((f 0).toInt8.toInt32)) else g k) k) k)) := A105
      have z105 := W105.size
      have N105 := Fr.snoc X105 N102 (by omega)
      refine own_st st105 ?_
      show own_Goes p e below s _ _ (T105.setTop (mkF m 32 #[rv a1, iv (1 : Int32), rv a3, iv (1 : Int32), iv (2 : Int32), iv (1 : Int32), iv (f 1)] []))
      refine own_st (fun _ k => XS.iinc X105.here hx rfl (hb hby own_d6_32) rfl (l' := #[rv a1, iv (2 : Int32), rv a3, iv (1 : Int32), iv (2 : Int32), iv (1 : Int32), iv (f 1)]) rfl k) ?_
      show own_Goes p e below s _ _ (T105.setTop (mkF m 35 #[rv a1, iv (2 : Int32), rv a3, iv (1 : Int32), iv (2 : Int32), iv (1 : Int32), iv (f 1)] []))
      refine own_st (fun _ k => XS.iinc X105.here hx rfl (hb hby own_d6_35) rfl (l' := #[rv a1, iv (2 : Int32), rv a3, iv (2 : Int32), iv (2 : Int32), iv (1 : Int32), iv (f 1)]) rfl k) ?_
      show own_Goes p e below s _ _ (T105.setTop (mkF m 38 #[rv a1, iv (2 : Int32), rv a3, iv (2 : Int32), iv (2 : Int32), iv (1 : Int32), iv (f 1)] []))
      refine own_st (fun _ k => XS.iinc X105.here hx rfl (hb hby own_d6_38) rfl (l' := #[rv a1, iv (2 : Int32), rv a3, iv (2 : Int32), iv (2 : Int32), iv (2 : Int32), iv (f 1)]) rfl k) ?_
      show own_Goes p e below s _ _ (T105.setTop (mkF m 41 #[rv a1, iv (2 : Int32), rv a3, iv (2 : Int32), iv (2 : Int32), iv (2 : Int32), iv (f 1)] []))
      refine own_st (fun _ k => XS.goto X105.here hx rfl (pc0 := 41) (pc' := 3) rfl (hb hby own_d6_41) (by decide) (by decide) k) ?_
      show own_Goes p e below s _ _ (T105.setTop (mkF m 3 #[rv a1, iv (2 : Int32), rv a3, iv (2 : Int32), iv (2 : Int32), iv (2 : Int32), iv (f 1)] []))
      refine own_st (fun _ k => XS.iload X105.here hx rfl (hb hby own_d6_3) rfl  k) ?_
      show own_Goes p e below s _ _ (T105.setTop (mkF m 5 #[rv a1, iv (2 : Int32), rv a3, iv (2 : Int32), iv (2 : Int32), iv (2 : Int32), iv (f 1)] [(.int (2 : Int32))]))
      refine own_st (fun _ k => XS.iload X105.here hx rfl (hb hby own_d6_5) rfl  k) ?_
      show own_Goes p e below s _ _ (T105.setTop (mkF m 7 #[rv a1, iv (2 : Int32), rv a3, iv (2 : Int32), iv (2 : Int32), iv (2 : Int32), iv (f 1)] [(.int (2 : Int32)), (.int (2 : Int32))]))
      refine own_st (fun _ k => XS.icmpYes X105.here hx rfl (pc0 := 7) (pc' := 44) rfl (hb hby own_d6_7) rfl (flt (by decide : ¬ ((2 : Int32) < (2 : Int32)))).2.1 (by decide) (by decide) k) ?_
      show own_Goes p e below s _ _ (T105.setTop (mkF m 44 #[rv a1, iv (2 : Int32), rv a3, iv (2 : Int32), iv (2 : Int32), iv (2 : Int32), iv (f 1)] []))
      refine own_st (fun _ k => XS.iload X105.here hx rfl (hb hby own_d6_44) rfl  k) ?_
      show own_Goes p e below s _ _ (T105.setTop (mkF m 46 #[rv a1, iv (2 : Int32), rv a3, iv (2 : Int32), iv (2 : Int32), iv (2 : Int32), iv (f 1)] [(.int (2 : Int32))]))
      exact own_retI X105 hx hlk hret (hb hby own_d6_46) (by decide) (by decide) ⟨rfl, N105, by rw [e105]; exact (((Keep.refl h0 [a3]).wr W102 (Or.inl (by simp))).wr W105 (Or.inl (by simp))), by rw [e105]; exact (own_Arf.congr V105 (fun j hj => by have q : j = 0 ∨ j = 1 := (by omega); rcases q with rfl | rfl <;> rfl))⟩
theorem own_ef_rmCp2 (m : MethodId) (a1 : Nat) : entryFrame m #[(.ref a1), (.int (0 : Int32)), (.int (2 : Int32))] 6 = mkF m 0 #[rv a1, iv (0 : Int32), iv (2 : Int32), .unset, .unset, .unset] [] := by first | (simp [entryFrame, mkF, argsToLocals, Value.category, maxLocals]; done) | rfl
abbrev own_Q_rmCp2 (Z : State) (a1 : Nat) (f : Nat → Int32) (h0 : Heap) (n0 : Nat) (v : Option Value) (h : Heap) (L : List Loc) : Prop := ∃ b : Nat, v = some (.ref b) ∧ Fr n0 L ∧ Keep h0 h [] ∧ h0.size ≤ b ∧ b < h.size ∧ own_Arf Z h b .byte 2 (fun k => .int ((fun j => nar .byte ((f j).toInt8.toInt32)) k))
set_option maxRecDepth 65536 in
set_option maxHeartbeats 40000000 in
theorem rmCp2 (l : Launch) (Z : State) (a0 : Array Value) (hw : ∀ d ∈ tables_1, d.before a0 Z = true) (ws : List Jvm.Cond) (a1 : Nat) (f : Nat → Int32) (h0 : Heap) (n0 : Nat) (Z0 : n0 ≤ h0.size) (V1 : own_Arf Z h0 a1 .char 2 (fun k => .int (f k))) (hc : ∀ j, j < 2 → 0 ≤ (f j).toInt ∧ (f j).toInt ≤ 255) :
    MetFree l (⟨"java/lang/StringUTF16", "compress", "([CII)[B"⟩ : MethodName) (head1 (Jvm.Cond.code (⟨"java/lang/StringUTF16", "compress", "([CII)[B"⟩ : MethodName) jdk_52_method_16_code 6 (some (.array .byte)) :: ws) ({ frames := 1, cells := 1, slots := 2, locals := 18 } : Room)) (fun a U => a = #[(.ref a1), (.int (0 : Int32)), (.int (2 : Int32))] ∧ Z.Warmed39 U.vm ∧ U.heap = h0) (fun _ _ _ _ _ => True) (fun _ U o U' => ∃ v L, o = .returned v ∧ own_Q_rmCp2 Z a1 f h0 n0 v U'.heap L ∧ FrameEnd U o U' L ({ frames := 1, cells := 1, slots := 2, locals := 18 } : Room).cells ({ frames := 1, cells := 1, slots := 2, locals := 18 } : Room).slots) := by
  refine own_enter (Q := fun v h L => own_Q_rmCp2 Z a1 f h0 n0 v h L) (F := fun m => mkF m 0 #[rv a1, iv (0 : Int32), iv (2 : Int32), .unset, .unset, .unset] []) own_pn1 (fun m => own_ef_rmCp2 m a1) ?_
  intro p e s m below meth c T X hx hby hml hret hlk hnm hown hZ e0
  show own_Goes p e below s _ _ (T.setTop (mkF m 0 #[rv a1, iv (0 : Int32), iv (2 : Int32), .unset, .unset, .unset] []))
  have N0 := Fr.nil n0
  have y1 := own_lt V1.lt
  refine own_st (fun _ k => XS.iloadN X.here hx rfl (hb hby own_d5_0) rfl  k) ?_
  show own_Goes p e below s _ _ (T.setTop (mkF m 1 #[rv a1, iv (0 : Int32), iv (2 : Int32), .unset, .unset, .unset] [(.int (2 : Int32))]))
  obtain ⟨T101, h101, X101, e101, E101, A101, st101⟩ := own_newP X hx hZ (aty := .byte) (hw _ (List.mem_of_getElem? (i := 22) rfl)) e0 (g := (mkF m 1 #[rv a1, iv (0 : Int32), iv (2 : Int32), .unset, .unset, .unset] [(.int (2 : Int32))])) rfl (hb hby own_d5_1) rfl (by decide) (cap := 2) (by decide) (by decide) (by decide) (by decide)
  obtain ⟨b101, g101⟩ : ∃ z, z = h0.size := ⟨_, rfl⟩
  rw [← g101] at A101 st101
  have V101 : own_Arf Z h101 b101 .byte 2 (fun k => .int ((fun _ => (0 : Int32)) k)) := A101
  have y101 := own_lt V101.lt
  have z101 := E101.1
  refine own_st st101 ?_
  show own_Goes p e below s _ _ (T101.setTop (mkF m 3 #[rv a1, iv (0 : Int32), iv (2 : Int32), .unset, .unset, .unset] [(.ref b101)]))
  refine own_st (fun _ k => XS.astoreN X101.here hx rfl (hb hby own_d5_3) rfl rfl (l' := #[rv a1, iv (0 : Int32), iv (2 : Int32), rv b101, .unset, .unset]) rfl k) ?_
  show own_Goes p e below s _ _ (T101.setTop (mkF m 4 #[rv a1, iv (0 : Int32), iv (2 : Int32), rv b101, .unset, .unset] []))
  refine own_st (fun _ k => XS.aloadN X101.here hx rfl (hb hby own_d5_4) rfl rfl  k) ?_
  show own_Goes p e below s _ _ (T101.setTop (mkF m 5 #[rv a1, iv (0 : Int32), iv (2 : Int32), rv b101, .unset, .unset] [(.ref a1)]))
  refine own_st (fun _ k => XS.iloadN X101.here hx rfl (hb hby own_d5_5) rfl  k) ?_
  show own_Goes p e below s _ _ (T101.setTop (mkF m 6 #[rv a1, iv (0 : Int32), iv (2 : Int32), rv b101, .unset, .unset] [(.int (0 : Int32)), (.ref a1)]))
  refine own_st (fun _ k => XS.aloadN X101.here hx rfl (hb hby own_d5_6) rfl rfl  k) ?_
  show own_Goes p e below s _ _ (T101.setTop (mkF m 7 #[rv a1, iv (0 : Int32), iv (2 : Int32), rv b101, .unset, .unset] [(.ref b101), (.int (0 : Int32)), (.ref a1)]))
  refine own_st (fun _ k => XS.iconst X101.here hx rfl (hb hby own_d5_7) k) ?_
  show own_Goes p e below s _ _ (T101.setTop (mkF m 8 #[rv a1, iv (0 : Int32), iv (2 : Int32), rv b101, .unset, .unset] [(.int (0 : Int32)), (.ref b101), (.int (0 : Int32)), (.ref a1)]))
  refine own_st (fun _ k => XS.iloadN X101.here hx rfl (hb hby own_d5_8) rfl  k) ?_
  show own_Goes p e below s _ _ (T101.setTop (mkF m 9 #[rv a1, iv (0 : Int32), iv (2 : Int32), rv b101, .unset, .unset] [(.int (2 : Int32)), (.int (0 : Int32)), (.ref b101), (.int (0 : Int32)), (.ref a1)]))
  have f103 := (V1.ext E101)
  obtain ⟨v102, T102, L102, X102, Q102, st102⟩ := own_callS X101 hx hZ (y := (⟨"java/lang/StringUTF16", "compress", "([CI[BII)I"⟩ : MethodName)) hown (hw _ (List.mem_of_getElem? (i := 34) rfl)) (hw _ (List.mem_of_getElem? (i := 35) rfl)) (hw _ (List.mem_of_getElem? (i := 32) rfl)) (hw _ (List.mem_of_getElem? (i := 36) rfl)) (by decide) (W := 0) (rest := []) (argsL := [(.ref a1), (.int (0 : Int32)), (.ref b101), (.int (0 : Int32)), (.int (2 : Int32))]) (rmCc2 l Z a0 hw [] a1 b101 _ _ h101 n0 (by omega) f103 V101 hc (by omega) (by omega)) (by decide) (by decide) (by decide) (by decide) e101 own_pd0 rfl (g := (mkF m 9 #[rv a1, iv (0 : Int32), iv (2 : Int32), rv b101, .unset, .unset] [(.int (2 : Int32)), (.int (0 : Int32)), (.ref b101), (.int (0 : Int32)), (.ref a1)])) rfl (by rw [hml]; rfl) rfl (by show 2 * 0 + _ ≤ _; exact Nat.le_of_eq rfl) (hb hby own_d5_9)
  obtain ⟨rfl, N102q, K102, V102⟩ := Q102
  have z102 := K102.1
  have N102 := Fr.app N0 N102q
  refine own_st st102 ?_
  show own_Goes p e below s _ _ (T102.setTop (mkF m 12 #[rv a1, iv (0 : Int32), iv (2 : Int32), rv b101, .unset, .unset] [(.int (2 : Int32))]))
  refine own_st (fun _ k => XS.istore X102.here hx rfl (hb hby own_d5_12) rfl (l' := #[rv a1, iv (0 : Int32), iv (2 : Int32), rv b101, iv (2 : Int32), .unset]) rfl k) ?_
  show own_Goes p e below s _ _ (T102.setTop (mkF m 14 #[rv a1, iv (0 : Int32), iv (2 : Int32), rv b101, iv (2 : Int32), .unset] []))
  refine own_st (fun _ k => XS.iload X102.here hx rfl (hb hby own_d5_14) rfl  k) ?_
  show own_Goes p e below s _ _ (T102.setTop (mkF m 16 #[rv a1, iv (0 : Int32), iv (2 : Int32), rv b101, iv (2 : Int32), .unset] [(.int (2 : Int32))]))
  refine own_st (fun _ k => XS.iloadN X102.here hx rfl (hb hby own_d5_16) rfl  k) ?_
  show own_Goes p e below s _ _ (T102.setTop (mkF m 17 #[rv a1, iv (0 : Int32), iv (2 : Int32), rv b101, iv (2 : Int32), .unset] [(.int (2 : Int32)), (.int (2 : Int32))]))
  refine own_st (fun _ k => XS.icmpYes X102.here hx rfl (pc0 := 17) (pc' := 57) rfl (hb hby own_d5_17) rfl (teq (by decide : (2 : Int32) = (2 : Int32))).1 (by decide) (by decide) k) ?_
  show own_Goes p e below s _ _ (T102.setTop (mkF m 57 #[rv a1, iv (0 : Int32), iv (2 : Int32), rv b101, iv (2 : Int32), .unset] []))
  refine own_st (fun _ k => XS.aloadN X102.here hx rfl (hb hby own_d5_57) rfl rfl  k) ?_
  show own_Goes p e below s _ _ (T102.setTop (mkF m 58 #[rv a1, iv (0 : Int32), iv (2 : Int32), rv b101, iv (2 : Int32), .unset] [(.ref b101)]))
  exact own_retR X102 hx hlk hret rfl rfl (hb hby own_d5_58) (by decide) (by decide) ⟨b101, rfl, N102, (((Keep.refl h0 []).ext E101).trans K102 (allS (Or.inr (by omega)) all0)), by omega, by omega, V102⟩
theorem own_ef_rmCo2 (m : MethodId) (a1 : Nat) : entryFrame m #[(.ref a1), (.int (2 : Int32))] 2 = mkF m 0 #[rv a1, iv (2 : Int32)] [] := by first | (simp [entryFrame, mkF, argsToLocals, Value.category, maxLocals]; done) | rfl
abbrev own_Q_rmCo2 (Z : State) (a1 : Nat) (g : Nat → Int32) (h0 : Heap) (n0 : Nat) (v : Option Value) (h : Heap) (L : List Loc) : Prop := v = some (.int (0 : Int32)) ∧ Fr n0 L ∧ h = h0
set_option maxRecDepth 65536 in
set_option maxHeartbeats 40000000 in
theorem rmCo2 (l : Launch) (Z : State) (a0 : Array Value) (hw : ∀ d ∈ tables_1, d.before a0 Z = true) (ws : List Jvm.Cond) (a1 : Nat) (g : Nat → Int32) (h0 : Heap) (n0 : Nat) (Z0 : n0 ≤ h0.size) (V1 : own_Arf Z h0 a1 .byte 2 (fun k => .int (g k))) :
    MetFree l (⟨"java/lang/StringUTF16", "coderFromArrayLen", "([BI)B"⟩ : MethodName) (head1 (Jvm.Cond.code (⟨"java/lang/StringUTF16", "coderFromArrayLen", "([BI)B"⟩ : MethodName) jdk_52_method_15_code 2 (some .byte) :: ws) ({ frames := 0, cells := 0, slots := 0, locals := 0 } : Room)) (fun a U => a = #[(.ref a1), (.int (2 : Int32))] ∧ Z.Warmed39 U.vm ∧ U.heap = h0) (fun _ _ _ _ _ => True) (fun _ U o U' => ∃ v L, o = .returned v ∧ own_Q_rmCo2 Z a1 g h0 n0 v U'.heap L ∧ FrameEnd U o U' L ({ frames := 0, cells := 0, slots := 0, locals := 0 } : Room).cells ({ frames := 0, cells := 0, slots := 0, locals := 0 } : Room).slots) := by
  refine own_enter (Q := fun v h L => own_Q_rmCo2 Z a1 g h0 n0 v h L) (F := fun m => mkF m 0 #[rv a1, iv (2 : Int32)] []) own_pn2 (fun m => own_ef_rmCo2 m a1) ?_
  intro p e s m below meth c T X hx hby hml hret hlk hnm hown hZ e0
  show own_Goes p e below s _ _ (T.setTop (mkF m 0 #[rv a1, iv (2 : Int32)] []))
  have N0 := Fr.nil n0
  refine own_st (fun _ k => XS.iloadN X.here hx rfl (hb hby own_d7_0) rfl  k) ?_
  show own_Goes p e below s _ _ (T.setTop (mkF m 1 #[rv a1, iv (2 : Int32)] [(.int (2 : Int32))]))
  refine own_st (fun _ k => XS.aloadN X.here hx rfl (hb hby own_d7_1) rfl rfl  k) ?_
  show own_Goes p e below s _ _ (T.setTop (mkF m 2 #[rv a1, iv (2 : Int32)] [(.ref a1), (.int (2 : Int32))]))
  refine own_st (fun _ k => own_len X hx hZ e0 V1 (g := (mkF m 2 #[rv a1, iv (2 : Int32)] [(.ref a1), (.int (2 : Int32))])) rfl rfl (hb hby own_d7_2) _ k) ?_
  show own_Goes p e below s _ _ (T.setTop (mkF m 3 #[rv a1, iv (2 : Int32)] [(.int (2 : Int32)), (.int (2 : Int32))]))
  refine own_st (fun _ k => XS.isub X.here hx rfl (hb hby own_d7_3) rfl k) ?_
  show own_Goes p e below s _ _ (T.setTop (mkF m 4 #[rv a1, iv (2 : Int32)] [(.int (0 : Int32))]))
  refine own_st (fun _ k => XS.bipush X.here hx rfl (hb hby own_d7_4) k) ?_
  show own_Goes p e below s _ _ (T.setTop (mkF m 6 #[rv a1, iv (2 : Int32)] [(.int (31 : Int32)), (.int (0 : Int32))]))
  refine own_st (fun _ k => XS.iushr X.here hx rfl (hb hby own_d7_6) rfl k) ?_
  show own_Goes p e below s _ _ (T.setTop (mkF m 7 #[rv a1, iv (2 : Int32)] [(.int (((0 : Int32).toUInt32 >>> ((31 : Int32) &&& 31).toUInt32).toInt32))]))
  refine own_st (fun _ k => XS.i2b X.here hx rfl (hb hby own_d7_7) rfl k) ?_
  show own_Goes p e below s _ _ (T.setTop (mkF m 8 #[rv a1, iv (2 : Int32)] [(.int ((((0 : Int32).toUInt32 >>> ((31 : Int32) &&& 31).toUInt32).toInt32).toInt8.toInt32))]))
  exact own_retN X hx hlk (nar .byte ((((0 : Int32).toUInt32 >>> ((31 : Int32) &&& 31).toUInt32).toInt32).toInt8.toInt32)) hret (Or.inr (Or.inl rfl)) rfl (hb hby own_d7_8) (by decide) (by decide) ⟨by decide, N0, e0⟩
theorem own_ef_rmSI2 (m : MethodId) (a1 : Nat) (a2 : Nat) : entryFrame m #[(.ref a1), (.ref a2), (.int (0 : Int32)), (.int (2 : Int32)), .null] 6 = mkF m 0 #[rv a1, rv a2, iv (0 : Int32), iv (2 : Int32), .val .null, .unset] [] := by first | (simp [entryFrame, mkF, argsToLocals, Value.category, maxLocals]; done) | rfl
abbrev own_Q_rmSI2 (Z : State) (a1 : Nat) (a2 : Nat) (f : Nat → Int32) (cs : Int32) (u1 : Value) (u2 : Value) (h0 : Heap) (n0 : Nat) (v : Option Value) (h : Heap) (L : List Loc) : Prop := v = none ∧ Fr n0 L ∧ Keep h0 h [a1] ∧ ∃ b : Nat, h0.size ≤ b ∧ b < h.size ∧ Exa Z h a1 "java/lang/String" ∧ Fld Z h a1 "java/lang/String" "value" "[B" (.ref b) ∧ Fld Z h a1 "java/lang/String" "coder" "B" (.int (0 : Int32)) ∧ own_Arf Z h b .byte 2 (fun k => .int ((fun j => nar .byte ((f j).toInt8.toInt32)) k))
set_option maxRecDepth 65536 in
set_option maxHeartbeats 40000000 in
theorem rmSI2 (l : Launch) (Z : State) (a0 : Array Value) (hw : ∀ d ∈ tables_1, d.before a0 Z = true) (ws : List Jvm.Cond) (a1 : Nat) (a2 : Nat) (f : Nat → Int32) (cs : Int32) (u1 : Value) (u2 : Value) (h0 : Heap) (n0 : Nat) (Z0 : n0 ≤ h0.size) (E1 : Exa Z h0 a1 "java/lang/String") (F_value : Fld Z h0 a1 "java/lang/String" "value" "[B" u1) (F_coder : Fld Z h0 a1 "java/lang/String" "coder" "B" u2) (V2 : own_Arf Z h0 a2 .char 2 (fun k => .int (f k))) (hc : ∀ j, j < 2 → 0 ≤ (f j).toInt ∧ (f j).toInt ≤ 255) (S1 : Sta Z h0 "java/lang/String" "COMPACT_STRINGS" "Z" (.int cs)) (hcs : ¬ cs = (0 : Int32)) (g1 : n0 ≤ a1) (x12 : a1 ≠ a2) :
    MetFree l (⟨"java/lang/String", "<init>", "([CIILjava/lang/Void;)V"⟩ : MethodName) (head1 (Jvm.Cond.code (⟨"java/lang/String", "<init>", "([CIILjava/lang/Void;)V"⟩ : MethodName) jdk_42_method_149_code 6 none :: ws) ({ frames := 2, cells := 1, slots := 2, locals := 35 } : Room)) (fun a U => a = #[(.ref a1), (.ref a2), (.int (0 : Int32)), (.int (2 : Int32)), .null] ∧ Z.Warmed39 U.vm ∧ U.heap = h0) (fun _ _ _ _ _ => True) (fun _ U o U' => ∃ v L, o = .returned v ∧ own_Q_rmSI2 Z a1 a2 f cs u1 u2 h0 n0 v U'.heap L ∧ FrameEnd U o U' L ({ frames := 2, cells := 1, slots := 2, locals := 35 } : Room).cells ({ frames := 2, cells := 1, slots := 2, locals := 35 } : Room).slots) := by
  refine own_enter (Q := fun v h L => own_Q_rmSI2 Z a1 a2 f cs u1 u2 h0 n0 v h L) (F := fun m => mkF m 0 #[rv a1, rv a2, iv (0 : Int32), iv (2 : Int32), .val .null, .unset] []) own_pn3 (fun m => own_ef_rmSI2 m a1 a2) ?_
  intro p e s m below meth c T X hx hby hml hret hlk hnm hown hZ e0
  show own_Goes p e below s _ _ (T.setTop (mkF m 0 #[rv a1, rv a2, iv (0 : Int32), iv (2 : Int32), .val .null, .unset] []))
  have N0 := Fr.nil n0
  have yE := own_lt E1.lt
  have yV := own_lt V2.lt
  refine own_st (fun _ k => XS.aloadN X.here hx rfl (hb hby own_d3_0) rfl rfl  k) ?_
  show own_Goes p e below s _ _ (T.setTop (mkF m 1 #[rv a1, rv a2, iv (0 : Int32), iv (2 : Int32), .val .null, .unset] [(.ref a1)]))
  obtain ⟨T101, X101, e101, st101⟩ := initO X hx hZ hown (hw _ (List.mem_of_getElem? (i := 18) rfl)) (hw _ (List.mem_of_getElem? (i := 19) rfl)) (hw _ (List.mem_of_getElem? (i := 20) rfl)) e0 (g := (mkF m 1 #[rv a1, rv a2, iv (0 : Int32), iv (2 : Int32), .val .null, .unset] [(.ref a1)])) rfl (by rw [hml]; rfl) rfl (hb hby own_d3_1) (by decide) (W := 0) (by show 2 * 0 + _ ≤ _; exact Nat.le_of_eq rfl) (by decide)
  refine own_st st101 ?_
  show own_Goes p e below s _ _ (T101.setTop (mkF m 4 #[rv a1, rv a2, iv (0 : Int32), iv (2 : Int32), .val .null, .unset] []))
  refine own_st (fun _ k => XS.iloadN X101.here hx rfl (hb hby own_d3_4) rfl  k) ?_
  show own_Goes p e below s _ _ (T101.setTop (mkF m 5 #[rv a1, rv a2, iv (0 : Int32), iv (2 : Int32), .val .null, .unset] [(.int (2 : Int32))]))
  refine own_st (fun _ k => XS.ifYes X101.here hx rfl (pc0 := 5) (pc' := 27) rfl (hb hby own_d3_5) rfl ((if0 _ _).trans (feq (by decide : ¬ ((2 : Int32) = (0 : Int32)))).2) (by decide) (by decide) k) ?_
  show own_Goes p e below s _ _ (T101.setTop (mkF m 27 #[rv a1, rv a2, iv (0 : Int32), iv (2 : Int32), .val .null, .unset] []))
  obtain ⟨T102, X102, e102, st102⟩ := getS2 X101 hx hZ hown (host := "") (Or.inl (hw _ (List.mem_of_getElem? (i := 29) rfl))) Via.refl e101 S1 (g := (mkF m 27 #[rv a1, rv a2, iv (0 : Int32), iv (2 : Int32), .val .null, .unset] [])) rfl (hb hby own_d3_27)
  refine own_st st102 ?_
  show own_Goes p e below s _ _ (T102.setTop (mkF m 30 #[rv a1, rv a2, iv (0 : Int32), iv (2 : Int32), .val .null, .unset] [(.int cs)]))
  refine own_st (fun _ k => XS.ifNo X102.here hx rfl (hb hby own_d3_30) rfl ((if0 _ _).trans (feq hcs).1) k) ?_
  show own_Goes p e below s _ _ (T102.setTop (mkF m 33 #[rv a1, rv a2, iv (0 : Int32), iv (2 : Int32), .val .null, .unset] []))
  refine own_st (fun _ k => XS.aloadN X102.here hx rfl (hb hby own_d3_33) rfl rfl  k) ?_
  show own_Goes p e below s _ _ (T102.setTop (mkF m 34 #[rv a1, rv a2, iv (0 : Int32), iv (2 : Int32), .val .null, .unset] [(.ref a2)]))
  refine own_st (fun _ k => XS.iloadN X102.here hx rfl (hb hby own_d3_34) rfl  k) ?_
  show own_Goes p e below s _ _ (T102.setTop (mkF m 35 #[rv a1, rv a2, iv (0 : Int32), iv (2 : Int32), .val .null, .unset] [(.int (0 : Int32)), (.ref a2)]))
  refine own_st (fun _ k => XS.iloadN X102.here hx rfl (hb hby own_d3_35) rfl  k) ?_
  show own_Goes p e below s _ _ (T102.setTop (mkF m 36 #[rv a1, rv a2, iv (0 : Int32), iv (2 : Int32), .val .null, .unset] [(.int (2 : Int32)), (.int (0 : Int32)), (.ref a2)]))
  obtain ⟨v103, T103, L103, X103, Q103, st103⟩ := own_callS X102 hx hZ (y := (⟨"java/lang/StringUTF16", "compress", "([CII)[B"⟩ : MethodName)) hown (hw _ (List.mem_of_getElem? (i := 30) rfl)) (hw _ (List.mem_of_getElem? (i := 31) rfl)) (hw _ (List.mem_of_getElem? (i := 32) rfl)) (hw _ (List.mem_of_getElem? (i := 33) rfl)) (by decide) (W := 0) (rest := []) (argsL := [(.ref a2), (.int (0 : Int32)), (.int (2 : Int32))]) (rmCp2 l Z a0 hw [] a2 _ h0 n0 (by omega) V2 hc) (by decide) (by decide) (by decide) (by decide) e102 own_pd1 rfl (g := (mkF m 36 #[rv a1, rv a2, iv (0 : Int32), iv (2 : Int32), .val .null, .unset] [(.int (2 : Int32)), (.int (0 : Int32)), (.ref a2)])) rfl (by rw [hml]; rfl) rfl (by show 2 * 0 + _ ≤ _; exact Nat.le_of_eq rfl) (hb hby own_d3_36)
  obtain ⟨b103, rfl, N103q, K103, g103, y103, V103⟩ := Q103
  have z103 := K103.1
  have N103 := Fr.app N0 N103q
  refine own_st st103 ?_
  show own_Goes p e below s _ _ (T103.setTop (mkF m 39 #[rv a1, rv a2, iv (0 : Int32), iv (2 : Int32), .val .null, .unset] [(.ref b103)]))
  refine own_st (fun _ k => XS.astore X103.here hx rfl (hb hby own_d3_39) rfl rfl (l' := #[rv a1, rv a2, iv (0 : Int32), iv (2 : Int32), .val .null, rv b103]) rfl k) ?_
  show own_Goes p e below s _ _ (T103.setTop (mkF m 41 #[rv a1, rv a2, iv (0 : Int32), iv (2 : Int32), .val .null, rv b103] []))
  refine own_st (fun _ k => XS.aloadN X103.here hx rfl (hb hby own_d3_41) rfl rfl  k) ?_
  show own_Goes p e below s _ _ (T103.setTop (mkF m 42 #[rv a1, rv a2, iv (0 : Int32), iv (2 : Int32), .val .null, rv b103] [(.ref a1)]))
  refine own_st (fun _ k => XS.aload X103.here hx rfl (hb hby own_d3_42) rfl rfl  k) ?_
  show own_Goes p e below s _ _ (T103.setTop (mkF m 44 #[rv a1, rv a2, iv (0 : Int32), iv (2 : Int32), .val .null, rv b103] [(.ref b103), (.ref a1)]))
  refine own_st (fun _ k => XS.iloadN X103.here hx rfl (hb hby own_d3_44) rfl  k) ?_
  show own_Goes p e below s _ _ (T103.setTop (mkF m 45 #[rv a1, rv a2, iv (0 : Int32), iv (2 : Int32), .val .null, rv b103] [(.int (2 : Int32)), (.ref b103), (.ref a1)]))
  obtain ⟨v104, T104, L104, X104, Q104, st104⟩ := own_callS X103 hx hZ (y := (⟨"java/lang/StringUTF16", "coderFromArrayLen", "([BI)B"⟩ : MethodName)) hown (hw _ (List.mem_of_getElem? (i := 37) rfl)) (hw _ (List.mem_of_getElem? (i := 38) rfl)) (hw _ (List.mem_of_getElem? (i := 32) rfl)) (hw _ (List.mem_of_getElem? (i := 39) rfl)) (by decide) (W := 1) (rest := [(.ref a1)]) (argsL := [(.ref b103), (.int (2 : Int32))]) (rmCo2 l Z a0 hw [] b103 _ T103.heap n0 (by omega) V103) (by decide) (by decide) (by decide) (by decide) rfl own_pd2 rfl (g := (mkF m 45 #[rv a1, rv a2, iv (0 : Int32), iv (2 : Int32), .val .null, rv b103] [(.int (2 : Int32)), (.ref b103), (.ref a1)])) rfl (by rw [hml]; rfl) rfl (by show 2 * 0 + _ ≤ _; exact Nat.le_of_eq rfl) (hb hby own_d3_45)
  obtain ⟨rfl, N104q, e104⟩ := Q104
  have N104 := Fr.app N103 N104q
  refine own_st st104 ?_
  show own_Goes p e below s _ _ (T104.setTop (mkF m 48 #[rv a1, rv a2, iv (0 : Int32), iv (2 : Int32), .val .null, rv b103] [(.int (0 : Int32)), (.ref a1)]))
  have f105 := (F_coder.keep K103 nin0)
  have f106 := (E1.keep K103)
  obtain ⟨T107, h107, X107, e107, W107, st107⟩ := putFN X104 hx hZ hown (hw _ (List.mem_of_getElem? (i := 28) rfl)) Via.refl e104 f105 f106 (Or.inr ⟨(hw _ (List.mem_of_getElem? (i := 24) rfl)), rfl, hnm⟩) (hw _ (List.mem_of_getElem? (i := 8) rfl)) (ty := .byte) (v' := (.int (nar .byte (0 : Int32)))) (by decide) rfl (fits_nar_byte _) (g := (mkF m 48 #[rv a1, rv a2, iv (0 : Int32), iv (2 : Int32), .val .null, rv b103] [(.int (0 : Int32)), (.ref a1)])) rfl rfl (hb hby own_d3_48)
  have z107 := W107.size
  have N107 := Fr.snoc X107 N104 (by omega)
  have F107 := f105.same W107
  refine own_st st107 ?_
  show own_Goes p e below s _ _ (T107.setTop (mkF m 51 #[rv a1, rv a2, iv (0 : Int32), iv (2 : Int32), .val .null, rv b103] []))
  refine own_st (fun _ k => XS.aloadN X107.here hx rfl (hb hby own_d3_51) rfl rfl  k) ?_
  show own_Goes p e below s _ _ (T107.setTop (mkF m 52 #[rv a1, rv a2, iv (0 : Int32), iv (2 : Int32), .val .null, rv b103] [(.ref a1)]))
  refine own_st (fun _ k => XS.aload X107.here hx rfl (hb hby own_d3_52) rfl rfl  k) ?_
  show own_Goes p e below s _ _ (T107.setTop (mkF m 54 #[rv a1, rv a2, iv (0 : Int32), iv (2 : Int32), .val .null, rv b103] [(.ref b103), (.ref a1)]))
  have f108 := ((F_value.keep K103 nin0).other W107 (Or.inr (slot_ne (Or.inr (hw _ (List.mem_of_getElem? (i := 23) rfl))) (Or.inr (hw _ (List.mem_of_getElem? (i := 24) rfl))) (by decide) (t := (.array .byte)) (t' := .byte) (by decide) (by decide))))
  have f109 := (f106.wr W107)
  obtain ⟨T110, h110, X110, e110, W110, st110⟩ := putF X107 hx hZ hown (host := "") (Or.inl (hw _ (List.mem_of_getElem? (i := 27) rfl))) Via.refl e107 f108 f109 (Or.inr ⟨(hw _ (List.mem_of_getElem? (i := 23) rfl)), rfl, hnm⟩) (hw _ (List.mem_of_getElem? (i := 8) rfl)) (ty := (.array .byte)) (by decide) rfl rfl (g := (mkF m 54 #[rv a1, rv a2, iv (0 : Int32), iv (2 : Int32), .val .null, rv b103] [(.ref b103), (.ref a1)])) rfl rfl (hb hby own_d3_54)
  have z110 := W110.size
  have N110 := Fr.snoc X110 N107 (by omega)
  have F110 := f108.same W110
  refine own_st st110 ?_
  show own_Goes p e below s _ _ (T110.setTop (mkF m 57 #[rv a1, rv a2, iv (0 : Int32), iv (2 : Int32), .val .null, rv b103] []))
  have f111 := (f109.wr W110)
  have f112 := (F107.other W110 (Or.inr (slot_ne (Or.inr (hw _ (List.mem_of_getElem? (i := 24) rfl))) (Or.inr (hw _ (List.mem_of_getElem? (i := 23) rfl))) (by decide) (t := .byte) (t' := (.array .byte)) (by decide) (by decide))))
  have f113 := ((V103.other W107 (own_ne (by omega))).other W110 (own_ne (by omega)))
  exact own_ret0 X110 hx hlk hret (hb hby own_d3_57) (by decide) (by decide) ⟨rfl, N110, by rw [e110]; exact ((((Keep.refl h0 [a1]).trans K103 all0).wr W107 (Or.inl (by simp))).wr W110 (Or.inl (by simp))), b103, by omega, by rw [e110]; omega, by rw [e110]; exact f111, by rw [e110]; exact F110, by rw [e110]; exact f112, by rw [e110]; exact f113⟩
theorem own_ef_rmS2 (m : MethodId) (a1 : Nat) (a2 : Nat) : entryFrame m #[(.ref a1), (.ref a2)] 2 = mkF m 0 #[rv a1, rv a2] [] := by first | (simp [entryFrame, mkF, argsToLocals, Value.category, maxLocals]; done) | rfl
abbrev own_Q_rmS2 (Z : State) (a1 : Nat) (a2 : Nat) (f : Nat → Int32) (cs : Int32) (u1 : Value) (u2 : Value) (h0 : Heap) (n0 : Nat) (v : Option Value) (h : Heap) (L : List Loc) : Prop := v = none ∧ Fr n0 L ∧ Keep h0 h [a1] ∧ ∃ b : Nat, h0.size ≤ b ∧ b < h.size ∧ Exa Z h a1 "java/lang/String" ∧ Fld Z h a1 "java/lang/String" "value" "[B" (.ref b) ∧ Fld Z h a1 "java/lang/String" "coder" "B" (.int (0 : Int32)) ∧ own_Arf Z h b .byte 2 (fun k => .int ((fun j => nar .byte ((f j).toInt8.toInt32)) k))
set_option maxRecDepth 65536 in
set_option maxHeartbeats 40000000 in
theorem rmS2 (l : Launch) (Z : State) (a0 : Array Value) (hw : ∀ d ∈ tables_1, d.before a0 Z = true) (ws : List Jvm.Cond) (a1 : Nat) (a2 : Nat) (f : Nat → Int32) (cs : Int32) (u1 : Value) (u2 : Value) (h0 : Heap) (n0 : Nat) (Z0 : n0 ≤ h0.size) (E1 : Exa Z h0 a1 "java/lang/String") (F_value : Fld Z h0 a1 "java/lang/String" "value" "[B" u1) (F_coder : Fld Z h0 a1 "java/lang/String" "coder" "B" u2) (V2 : own_Arf Z h0 a2 .char 2 (fun k => .int (f k))) (hc : ∀ j, j < 2 → 0 ≤ (f j).toInt ∧ (f j).toInt ≤ 255) (S1 : Sta Z h0 "java/lang/String" "COMPACT_STRINGS" "Z" (.int cs)) (hcs : ¬ cs = (0 : Int32)) (g1 : n0 ≤ a1) (x12 : a1 ≠ a2) :
    MetFree l (⟨"java/lang/String", "<init>", "([C)V"⟩ : MethodName) (head1 (Jvm.Cond.code (⟨"java/lang/String", "<init>", "([C)V"⟩ : MethodName) jdk_42_method_3_code 2 none :: ws) ({ frames := 3, cells := 1, slots := 2, locals := 52 } : Room)) (fun a U => a = #[(.ref a1), (.ref a2)] ∧ Z.Warmed39 U.vm ∧ U.heap = h0) (fun _ _ _ _ _ => True) (fun _ U o U' => ∃ v L, o = .returned v ∧ own_Q_rmS2 Z a1 a2 f cs u1 u2 h0 n0 v U'.heap L ∧ FrameEnd U o U' L ({ frames := 3, cells := 1, slots := 2, locals := 52 } : Room).cells ({ frames := 3, cells := 1, slots := 2, locals := 52 } : Room).slots) := by
  refine own_enter (Q := fun v h L => own_Q_rmS2 Z a1 a2 f cs u1 u2 h0 n0 v h L) (F := fun m => mkF m 0 #[rv a1, rv a2] []) own_pn4 (fun m => own_ef_rmS2 m a1 a2) ?_
  intro p e s m below meth c T X hx hby hml hret hlk hnm hown hZ e0
  show own_Goes p e below s _ _ (T.setTop (mkF m 0 #[rv a1, rv a2] []))
  have N0 := Fr.nil n0
  have yE := own_lt E1.lt
  have yV := own_lt V2.lt
  refine own_st (fun _ k => XS.aloadN X.here hx rfl (hb hby own_d2_0) rfl rfl  k) ?_
  show own_Goes p e below s _ _ (T.setTop (mkF m 1 #[rv a1, rv a2] [(.ref a1)]))
  refine own_st (fun _ k => XS.aloadN X.here hx rfl (hb hby own_d2_1) rfl rfl  k) ?_
  show own_Goes p e below s _ _ (T.setTop (mkF m 2 #[rv a1, rv a2] [(.ref a2), (.ref a1)]))
  refine own_st (fun _ k => XS.iconst X.here hx rfl (hb hby own_d2_2) k) ?_
  show own_Goes p e below s _ _ (T.setTop (mkF m 3 #[rv a1, rv a2] [(.int (0 : Int32)), (.ref a2), (.ref a1)]))
  refine own_st (fun _ k => XS.aloadN X.here hx rfl (hb hby own_d2_3) rfl rfl  k) ?_
  show own_Goes p e below s _ _ (T.setTop (mkF m 4 #[rv a1, rv a2] [(.ref a2), (.int (0 : Int32)), (.ref a2), (.ref a1)]))
  refine own_st (fun _ k => own_len X hx hZ e0 V2 (g := (mkF m 4 #[rv a1, rv a2] [(.ref a2), (.int (0 : Int32)), (.ref a2), (.ref a1)])) rfl rfl (hb hby own_d2_4) _ k) ?_
  show own_Goes p e below s _ _ (T.setTop (mkF m 5 #[rv a1, rv a2] [(.int (2 : Int32)), (.int (0 : Int32)), (.ref a2), (.ref a1)]))
  refine own_st (fun _ k => XS.aconstNull X.here hx rfl (hb hby own_d2_5) k) ?_
  show own_Goes p e below s _ _ (T.setTop (mkF m 6 #[rv a1, rv a2] [.null, (.int (2 : Int32)), (.int (0 : Int32)), (.ref a2), (.ref a1)]))
  obtain ⟨v101, T101, L101, X101, Q101, st101⟩ := own_callI X hx hZ (y := (⟨"java/lang/String", "<init>", "([CIILjava/lang/Void;)V"⟩ : MethodName)) hown (hw _ (List.mem_of_getElem? (i := 14) rfl)) (hw _ (List.mem_of_getElem? (i := 15) rfl)) (hw _ (List.mem_of_getElem? (i := 9) rfl)) (hw _ (List.mem_of_getElem? (i := 17) rfl)) rfl (by decide) (W := 0) (rest := []) (argsL := [(.ref a2), (.int (0 : Int32)), (.int (2 : Int32)), .null]) (a := a1) (rmSI2 l Z a0 hw [] a1 a2 _ cs _ _  h0 n0 (by omega) E1 F_value F_coder V2 hc S1 hcs (by omega) (by omega)) (by decide) (by decide) (by decide) (by decide) e0 own_pd3 rfl (g := (mkF m 6 #[rv a1, rv a2] [.null, (.int (2 : Int32)), (.int (0 : Int32)), (.ref a2), (.ref a1)])) rfl (by rw [hml]; rfl) rfl (by show 2 * 0 + _ ≤ _; exact Nat.le_of_eq rfl) (hb hby own_d2_6)
  obtain ⟨rfl, N101q, K101, b101, g101, y101, A101, F101_value, F101_coder, V101⟩ := Q101
  have z101 := K101.1
  have N101 := Fr.app N0 N101q
  refine own_st st101 ?_
  show own_Goes p e below s _ _ (T101.setTop (mkF m 9 #[rv a1, rv a2] []))
  exact own_ret0 X101 hx hlk hret (hb hby own_d2_9) (by decide) (by decide) ⟨rfl, N101, ((Keep.refl h0 [a1]).trans K101 (allS (Or.inl (by simp)) all0)), b101, by omega, by omega, A101, F101_value, F101_coder, V101⟩
theorem own_ef_rmCc3 (m : MethodId) (a1 : Nat) (a3 : Nat) : entryFrame m #[(.ref a1), (.int (0 : Int32)), (.ref a3), (.int (0 : Int32)), (.int (3 : Int32))] 7 = mkF m 0 #[rv a1, iv (0 : Int32), rv a3, iv (0 : Int32), iv (3 : Int32), .unset, .unset] [] := by first | (simp [entryFrame, mkF, argsToLocals, Value.category, maxLocals]; done) | rfl
abbrev own_Q_rmCc3 (Z : State) (a1 : Nat) (a3 : Nat) (f : Nat → Int32) (g : Nat → Int32) (h0 : Heap) (n0 : Nat) (v : Option Value) (h : Heap) (L : List Loc) : Prop := v = some (.int (3 : Int32)) ∧ Fr n0 L ∧ Keep h0 h [a3] ∧ own_Arf Z h a3 .byte 3 (fun k => .int ((fun j => nar .byte ((f j).toInt8.toInt32)) k))
set_option maxRecDepth 65536 in
set_option maxHeartbeats 40000000 in
theorem rmCc3 (l : Launch) (Z : State) (a0 : Array Value) (hw : ∀ d ∈ tables_1, d.before a0 Z = true) (ws : List Jvm.Cond) (a1 : Nat) (a3 : Nat) (f : Nat → Int32) (g : Nat → Int32) (h0 : Heap) (n0 : Nat) (Z0 : n0 ≤ h0.size) (V1 : own_Arf Z h0 a1 .char 3 (fun k => .int (f k))) (V3 : own_Arf Z h0 a3 .byte 3 (fun k => .int (g k))) (hc : ∀ j, j < 3 → 0 ≤ (f j).toInt ∧ (f j).toInt ≤ 255) (g3 : n0 ≤ a3) (x13 : a1 ≠ a3) :
    MetFree l (⟨"java/lang/StringUTF16", "compress", "([CI[BII)I"⟩ : MethodName) (head1 (Jvm.Cond.code (⟨"java/lang/StringUTF16", "compress", "([CI[BII)I"⟩ : MethodName) jdk_52_method_21_code 7 (some .int) :: ws) ({ frames := 0, cells := 0, slots := 0, locals := 0 } : Room)) (fun a U => a = #[(.ref a1), (.int (0 : Int32)), (.ref a3), (.int (0 : Int32)), (.int (3 : Int32))] ∧ Z.Warmed39 U.vm ∧ U.heap = h0) (fun _ _ _ _ _ => True) (fun _ U o U' => ∃ v L, o = .returned v ∧ own_Q_rmCc3 Z a1 a3 f g h0 n0 v U'.heap L ∧ FrameEnd U o U' L ({ frames := 0, cells := 0, slots := 0, locals := 0 } : Room).cells ({ frames := 0, cells := 0, slots := 0, locals := 0 } : Room).slots) := by
  refine own_enter (Q := fun v h L => own_Q_rmCc3 Z a1 a3 f g h0 n0 v h L) (F := fun m => mkF m 0 #[rv a1, iv (0 : Int32), rv a3, iv (0 : Int32), iv (3 : Int32), .unset, .unset] []) own_pn0 (fun m => own_ef_rmCc3 m a1 a3) ?_
  intro p e s m below meth c T X hx hby hml hret hlk hnm hown hZ e0
  show own_Goes p e below s _ _ (T.setTop (mkF m 0 #[rv a1, iv (0 : Int32), rv a3, iv (0 : Int32), iv (3 : Int32), .unset, .unset] []))
  have N0 := Fr.nil n0
  have hc0 := hc 0 (by decide)
  have hc1 := hc 1 (by decide)
  have hc2 := hc 2 (by decide)
  refine own_st (fun _ k => XS.iconst X.here hx rfl (hb hby own_d6_0) k) ?_
  show own_Goes p e below s _ _ (T.setTop (mkF m 1 #[rv a1, iv (0 : Int32), rv a3, iv (0 : Int32), iv (3 : Int32), .unset, .unset] [(.int (0 : Int32))]))
  refine own_st (fun _ k => XS.istore X.here hx rfl (hb hby own_d6_1) rfl (l' := #[rv a1, iv (0 : Int32), rv a3, iv (0 : Int32), iv (3 : Int32), iv (0 : Int32), .unset]) rfl k) ?_
  show own_Goes p e below s _ _ (T.setTop (mkF m 3 #[rv a1, iv (0 : Int32), rv a3, iv (0 : Int32), iv (3 : Int32), iv (0 : Int32), .unset] []))
  refine own_st (fun _ k => XS.iload X.here hx rfl (hb hby own_d6_3) rfl  k) ?_
  show own_Goes p e below s _ _ (T.setTop (mkF m 5 #[rv a1, iv (0 : Int32), rv a3, iv (0 : Int32), iv (3 : Int32), iv (0 : Int32), .unset] [(.int (0 : Int32))]))
  refine own_st (fun _ k => XS.iload X.here hx rfl (hb hby own_d6_5) rfl  k) ?_
  show own_Goes p e below s _ _ (T.setTop (mkF m 7 #[rv a1, iv (0 : Int32), rv a3, iv (0 : Int32), iv (3 : Int32), iv (0 : Int32), .unset] [(.int (3 : Int32)), (.int (0 : Int32))]))
  refine own_st (fun _ k => XS.icmpNo X.here hx rfl (hb hby own_d6_7) rfl (tlt (by decide : (0 : Int32) < (3 : Int32))).2.1 k) ?_
  show own_Goes p e below s _ _ (T.setTop (mkF m 10 #[rv a1, iv (0 : Int32), rv a3, iv (0 : Int32), iv (3 : Int32), iv (0 : Int32), .unset] []))
  refine own_st (fun _ k => XS.aloadN X.here hx rfl (hb hby own_d6_10) rfl rfl  k) ?_
  show own_Goes p e below s _ _ (T.setTop (mkF m 11 #[rv a1, iv (0 : Int32), rv a3, iv (0 : Int32), iv (3 : Int32), iv (0 : Int32), .unset] [(.ref a1)]))
  refine own_st (fun _ k => XS.iloadN X.here hx rfl (hb hby own_d6_11) rfl  k) ?_
  show own_Goes p e below s _ _ (T.setTop (mkF m 12 #[rv a1, iv (0 : Int32), rv a3, iv (0 : Int32), iv (3 : Int32), iv (0 : Int32), .unset] [(.int (0 : Int32)), (.ref a1)]))
  refine own_st (fun _ k => own_ldC X hx hZ e0 V1 (j := (0 : Int32)) (by decide) (g := (mkF m 12 #[rv a1, iv (0 : Int32), rv a3, iv (0 : Int32), iv (3 : Int32), iv (0 : Int32), .unset] [(.int (0 : Int32)), (.ref a1)])) rfl rfl (hb hby own_d6_12) _ k) ?_
  show own_Goes p e below s _ _ (T.setTop (mkF m 13 #[rv a1, iv (0 : Int32), rv a3, iv (0 : Int32), iv (3 : Int32), iv (0 : Int32), .unset] [(.int (f 0))]))
  refine own_st (fun _ k => XS.istore X.here hx rfl (hb hby own_d6_13) rfl (l' := #[rv a1, iv (0 : Int32), rv a3, iv (0 : Int32), iv (3 : Int32), iv (0 : Int32), iv (f 0)]) rfl k) ?_
  show own_Goes p e below s _ _ (T.setTop (mkF m 15 #[rv a1, iv (0 : Int32), rv a3, iv (0 : Int32), iv (3 : Int32), iv (0 : Int32), iv (f 0)] []))
  refine own_st (fun _ k => XS.iload X.here hx rfl (hb hby own_d6_15) rfl  k) ?_
  show own_Goes p e below s _ _ (T.setTop (mkF m 17 #[rv a1, iv (0 : Int32), rv a3, iv (0 : Int32), iv (3 : Int32), iv (0 : Int32), iv (f 0)] [(.int (f 0))]))
  refine own_st (fun _ k => XS.sipush X.here hx rfl (hb hby own_d6_17) k) ?_
  show own_Goes p e below s _ _ (T.setTop (mkF m 20 #[rv a1, iv (0 : Int32), rv a3, iv (0 : Int32), iv (3 : Int32), iv (0 : Int32), iv (f 0)] [(.int (255 : Int32)), (.int (f 0))]))
  by_cases c101 : (255 : Int32) < (f 0)
  · have c101i : 255 < (f 0).toInt := own_i_lt c101
    exfalso; omega
  · have c101i : (f 0).toInt ≤ 255 := own_i_nlt c101
    refine own_st (fun _ k => XS.icmpYes X.here hx rfl (pc0 := 20) (pc' := 26) rfl (hb hby own_d6_20) rfl (flt c101).2.2.2 (by decide) (by decide) k) ?_
    show own_Goes p e below s _ _ (T.setTop (mkF m 26 #[rv a1, iv (0 : Int32), rv a3, iv (0 : Int32), iv (3 : Int32), iv (0 : Int32), iv (f 0)] []))
    refine own_st (fun _ k => XS.aloadN X.here hx rfl (hb hby own_d6_26) rfl rfl  k) ?_
    show own_Goes p e below s _ _ (T.setTop (mkF m 27 #[rv a1, iv (0 : Int32), rv a3, iv (0 : Int32), iv (3 : Int32), iv (0 : Int32), iv (f 0)] [(.ref a3)]))
    refine own_st (fun _ k => XS.iloadN X.here hx rfl (hb hby own_d6_27) rfl  k) ?_
    show own_Goes p e below s _ _ (T.setTop (mkF m 28 #[rv a1, iv (0 : Int32), rv a3, iv (0 : Int32), iv (3 : Int32), iv (0 : Int32), iv (f 0)] [(.int (0 : Int32)), (.ref a3)]))
    refine own_st (fun _ k => XS.iload X.here hx rfl (hb hby own_d6_28) rfl  k) ?_
    show own_Goes p e below s _ _ (T.setTop (mkF m 30 #[rv a1, iv (0 : Int32), rv a3, iv (0 : Int32), iv (3 : Int32), iv (0 : Int32), iv (f 0)] [(.int (f 0)), (.int (0 : Int32)), (.ref a3)]))
    refine own_st (fun _ k => XS.i2b X.here hx rfl (hb hby own_d6_30) rfl k) ?_
    show own_Goes p e below s _ _ (T.setTop (mkF m 31 #[rv a1, iv (0 : Int32), rv a3, iv (0 : Int32), iv (3 : Int32), iv (0 : Int32), iv (f 0)] [(.int ((f 0).toInt8.toInt32)), (.int (0 : Int32)), (.ref a3)]))
    obtain ⟨T102, h102, X102, e102, W102, A102, st102⟩ := own_stB X hx hZ e0 V3 (j := (0 : Int32)) (by decide) (g := (mkF m 31 #[rv a1, iv (0 : Int32), rv a3, iv (0 : Int32), iv (3 : Int32), iv (0 : Int32), iv (f 0)] [(.int ((f 0).toInt8.toInt32)), (.int (0 : Int32)), (.ref a3)])) rfl rfl (hb hby own_d6_31)
    have V102 : own_Arf Z h102 a3 .byte 3 (fun k => .int ((fun k => if k = 0 then (nar .byte ((f 0).toInt8.toInt32)) else g k) k)) := A102
    have z102 := W102.size
    have N102 := Fr.snoc X102 N0 (by omega)
    refine own_st st102 ?_
    show own_Goes p e below s _ _ (T102.setTop (mkF m 32 #[rv a1, iv (0 : Int32), rv a3, iv (0 : Int32), iv (3 : Int32), iv (0 : Int32), iv (f 0)] []))
    refine own_st (fun _ k => XS.iinc X102.here hx rfl (hb hby own_d6_32) rfl (l' := #[rv a1, iv (1 : Int32), rv a3, iv (0 : Int32), iv (3 : Int32), iv (0 : Int32), iv (f 0)]) rfl k) ?_
    show own_Goes p e below s _ _ (T102.setTop (mkF m 35 #[rv a1, iv (1 : Int32), rv a3, iv (0 : Int32), iv (3 : Int32), iv (0 : Int32), iv (f 0)] []))
    refine own_st (fun _ k => XS.iinc X102.here hx rfl (hb hby own_d6_35) rfl (l' := #[rv a1, iv (1 : Int32), rv a3, iv (1 : Int32), iv (3 : Int32), iv (0 : Int32), iv (f 0)]) rfl k) ?_
    show own_Goes p e below s _ _ (T102.setTop (mkF m 38 #[rv a1, iv (1 : Int32), rv a3, iv (1 : Int32), iv (3 : Int32), iv (0 : Int32), iv (f 0)] []))
    refine own_st (fun _ k => XS.iinc X102.here hx rfl (hb hby own_d6_38) rfl (l' := #[rv a1, iv (1 : Int32), rv a3, iv (1 : Int32), iv (3 : Int32), iv (1 : Int32), iv (f 0)]) rfl k) ?_
    show own_Goes p e below s _ _ (T102.setTop (mkF m 41 #[rv a1, iv (1 : Int32), rv a3, iv (1 : Int32), iv (3 : Int32), iv (1 : Int32), iv (f 0)] []))
    refine own_st (fun _ k => XS.goto X102.here hx rfl (pc0 := 41) (pc' := 3) rfl (hb hby own_d6_41) (by decide) (by decide) k) ?_
    show own_Goes p e below s _ _ (T102.setTop (mkF m 3 #[rv a1, iv (1 : Int32), rv a3, iv (1 : Int32), iv (3 : Int32), iv (1 : Int32), iv (f 0)] []))
    refine own_st (fun _ k => XS.iload X102.here hx rfl (hb hby own_d6_3) rfl  k) ?_
    show own_Goes p e below s _ _ (T102.setTop (mkF m 5 #[rv a1, iv (1 : Int32), rv a3, iv (1 : Int32), iv (3 : Int32), iv (1 : Int32), iv (f 0)] [(.int (1 : Int32))]))
    refine own_st (fun _ k => XS.iload X102.here hx rfl (hb hby own_d6_5) rfl  k) ?_
    show own_Goes p e below s _ _ (T102.setTop (mkF m 7 #[rv a1, iv (1 : Int32), rv a3, iv (1 : Int32), iv (3 : Int32), iv (1 : Int32), iv (f 0)] [(.int (3 : Int32)), (.int (1 : Int32))]))
    refine own_st (fun _ k => XS.icmpNo X102.here hx rfl (hb hby own_d6_7) rfl (tlt (by decide : (1 : Int32) < (3 : Int32))).2.1 k) ?_
    show own_Goes p e below s _ _ (T102.setTop (mkF m 10 #[rv a1, iv (1 : Int32), rv a3, iv (1 : Int32), iv (3 : Int32), iv (1 : Int32), iv (f 0)] []))
    refine own_st (fun _ k => XS.aloadN X102.here hx rfl (hb hby own_d6_10) rfl rfl  k) ?_
    show own_Goes p e below s _ _ (T102.setTop (mkF m 11 #[rv a1, iv (1 : Int32), rv a3, iv (1 : Int32), iv (3 : Int32), iv (1 : Int32), iv (f 0)] [(.ref a1)]))
    refine own_st (fun _ k => XS.iloadN X102.here hx rfl (hb hby own_d6_11) rfl  k) ?_
    show own_Goes p e below s _ _ (T102.setTop (mkF m 12 #[rv a1, iv (1 : Int32), rv a3, iv (1 : Int32), iv (3 : Int32), iv (1 : Int32), iv (f 0)] [(.int (1 : Int32)), (.ref a1)]))
    have f103 := (V1.other W102 (own_ne (by omega)))
    refine own_st (fun _ k => own_ldC X102 hx hZ e102 f103 (j := (1 : Int32)) (by decide) (g := (mkF m 12 #[rv a1, iv (1 : Int32), rv a3, iv (1 : Int32), iv (3 : Int32), iv (1 : Int32), iv (f 0)] [(.int (1 : Int32)), (.ref a1)])) rfl rfl (hb hby own_d6_12) _ k) ?_
    show own_Goes p e below s _ _ (T102.setTop (mkF m 13 #[rv a1, iv (1 : Int32), rv a3, iv (1 : Int32), iv (3 : Int32), iv (1 : Int32), iv (f 0)] [(.int (f 1))]))
    refine own_st (fun _ k => XS.istore X102.here hx rfl (hb hby own_d6_13) rfl (l' := #[rv a1, iv (1 : Int32), rv a3, iv (1 : Int32), iv (3 : Int32), iv (1 : Int32), iv (f 1)]) rfl k) ?_
    show own_Goes p e below s _ _ (T102.setTop (mkF m 15 #[rv a1, iv (1 : Int32), rv a3, iv (1 : Int32), iv (3 : Int32), iv (1 : Int32), iv (f 1)] []))
    refine own_st (fun _ k => XS.iload X102.here hx rfl (hb hby own_d6_15) rfl  k) ?_
    show own_Goes p e below s _ _ (T102.setTop (mkF m 17 #[rv a1, iv (1 : Int32), rv a3, iv (1 : Int32), iv (3 : Int32), iv (1 : Int32), iv (f 1)] [(.int (f 1))]))
    refine own_st (fun _ k => XS.sipush X102.here hx rfl (hb hby own_d6_17) k) ?_
    show own_Goes p e below s _ _ (T102.setTop (mkF m 20 #[rv a1, iv (1 : Int32), rv a3, iv (1 : Int32), iv (3 : Int32), iv (1 : Int32), iv (f 1)] [(.int (255 : Int32)), (.int (f 1))]))
    by_cases c104 : (255 : Int32) < (f 1)
    · have c104i : 255 < (f 1).toInt := own_i_lt c104
      exfalso; omega
    · have c104i : (f 1).toInt ≤ 255 := own_i_nlt c104
      refine own_st (fun _ k => XS.icmpYes X102.here hx rfl (pc0 := 20) (pc' := 26) rfl (hb hby own_d6_20) rfl (flt c104).2.2.2 (by decide) (by decide) k) ?_
      show own_Goes p e below s _ _ (T102.setTop (mkF m 26 #[rv a1, iv (1 : Int32), rv a3, iv (1 : Int32), iv (3 : Int32), iv (1 : Int32), iv (f 1)] []))
      refine own_st (fun _ k => XS.aloadN X102.here hx rfl (hb hby own_d6_26) rfl rfl  k) ?_
      show own_Goes p e below s _ _ (T102.setTop (mkF m 27 #[rv a1, iv (1 : Int32), rv a3, iv (1 : Int32), iv (3 : Int32), iv (1 : Int32), iv (f 1)] [(.ref a3)]))
      refine own_st (fun _ k => XS.iloadN X102.here hx rfl (hb hby own_d6_27) rfl  k) ?_
      show own_Goes p e below s _ _ (T102.setTop (mkF m 28 #[rv a1, iv (1 : Int32), rv a3, iv (1 : Int32), iv (3 : Int32), iv (1 : Int32), iv (f 1)] [(.int (1 : Int32)), (.ref a3)]))
      refine own_st (fun _ k => XS.iload X102.here hx rfl (hb hby own_d6_28) rfl  k) ?_
      show own_Goes p e below s _ _ (T102.setTop (mkF m 30 #[rv a1, iv (1 : Int32), rv a3, iv (1 : Int32), iv (3 : Int32), iv (1 : Int32), iv (f 1)] [(.int (f 1)), (.int (1 : Int32)), (.ref a3)]))
      refine own_st (fun _ k => XS.i2b X102.here hx rfl (hb hby own_d6_30) rfl k) ?_
      show own_Goes p e below s _ _ (T102.setTop (mkF m 31 #[rv a1, iv (1 : Int32), rv a3, iv (1 : Int32), iv (3 : Int32), iv (1 : Int32), iv (f 1)] [(.int ((f 1).toInt8.toInt32)), (.int (1 : Int32)), (.ref a3)]))
      obtain ⟨T105, h105, X105, e105, W105, A105, st105⟩ := own_stB X102 hx hZ e102 V102 (j := (1 : Int32)) (by decide) (g := (mkF m 31 #[rv a1, iv (1 : Int32), rv a3, iv (1 : Int32), iv (3 : Int32), iv (1 : Int32), iv (f 1)] [(.int ((f 1).toInt8.toInt32)), (.int (1 : Int32)), (.ref a3)])) rfl rfl (hb hby own_d6_31)
      have V105 : own_Arf Z h105 a3 .byte 3 (fun k => .int ((fun k => if k = 1 then (nar .byte ((f 1).toInt8.toInt32)) else (fun k => if k = 0 then (nar .byte ((f 0).toInt8.toInt32)) else g k) k) k)) := A105
      have z105 := W105.size
      have N105 := Fr.snoc X105 N102 (by omega)
      refine own_st st105 ?_
      show own_Goes p e below s _ _ (T105.setTop (mkF m 32 #[rv a1, iv (1 : Int32), rv a3, iv (1 : Int32), iv (3 : Int32), iv (1 : Int32), iv (f 1)] []))
      refine own_st (fun _ k => XS.iinc X105.here hx rfl (hb hby own_d6_32) rfl (l' := #[rv a1, iv (2 : Int32), rv a3, iv (1 : Int32), iv (3 : Int32), iv (1 : Int32), iv (f 1)]) rfl k) ?_
      show own_Goes p e below s _ _ (T105.setTop (mkF m 35 #[rv a1, iv (2 : Int32), rv a3, iv (1 : Int32), iv (3 : Int32), iv (1 : Int32), iv (f 1)] []))
      refine own_st (fun _ k => XS.iinc X105.here hx rfl (hb hby own_d6_35) rfl (l' := #[rv a1, iv (2 : Int32), rv a3, iv (2 : Int32), iv (3 : Int32), iv (1 : Int32), iv (f 1)]) rfl k) ?_
      show own_Goes p e below s _ _ (T105.setTop (mkF m 38 #[rv a1, iv (2 : Int32), rv a3, iv (2 : Int32), iv (3 : Int32), iv (1 : Int32), iv (f 1)] []))
      refine own_st (fun _ k => XS.iinc X105.here hx rfl (hb hby own_d6_38) rfl (l' := #[rv a1, iv (2 : Int32), rv a3, iv (2 : Int32), iv (3 : Int32), iv (2 : Int32), iv (f 1)]) rfl k) ?_
      show own_Goes p e below s _ _ (T105.setTop (mkF m 41 #[rv a1, iv (2 : Int32), rv a3, iv (2 : Int32), iv (3 : Int32), iv (2 : Int32), iv (f 1)] []))
      refine own_st (fun _ k => XS.goto X105.here hx rfl (pc0 := 41) (pc' := 3) rfl (hb hby own_d6_41) (by decide) (by decide) k) ?_
      show own_Goes p e below s _ _ (T105.setTop (mkF m 3 #[rv a1, iv (2 : Int32), rv a3, iv (2 : Int32), iv (3 : Int32), iv (2 : Int32), iv (f 1)] []))
      refine own_st (fun _ k => XS.iload X105.here hx rfl (hb hby own_d6_3) rfl  k) ?_
      show own_Goes p e below s _ _ (T105.setTop (mkF m 5 #[rv a1, iv (2 : Int32), rv a3, iv (2 : Int32), iv (3 : Int32), iv (2 : Int32), iv (f 1)] [(.int (2 : Int32))]))
      refine own_st (fun _ k => XS.iload X105.here hx rfl (hb hby own_d6_5) rfl  k) ?_
      show own_Goes p e below s _ _ (T105.setTop (mkF m 7 #[rv a1, iv (2 : Int32), rv a3, iv (2 : Int32), iv (3 : Int32), iv (2 : Int32), iv (f 1)] [(.int (3 : Int32)), (.int (2 : Int32))]))
      refine own_st (fun _ k => XS.icmpNo X105.here hx rfl (hb hby own_d6_7) rfl (tlt (by decide : (2 : Int32) < (3 : Int32))).2.1 k) ?_
      show own_Goes p e below s _ _ (T105.setTop (mkF m 10 #[rv a1, iv (2 : Int32), rv a3, iv (2 : Int32), iv (3 : Int32), iv (2 : Int32), iv (f 1)] []))
      refine own_st (fun _ k => XS.aloadN X105.here hx rfl (hb hby own_d6_10) rfl rfl  k) ?_
      show own_Goes p e below s _ _ (T105.setTop (mkF m 11 #[rv a1, iv (2 : Int32), rv a3, iv (2 : Int32), iv (3 : Int32), iv (2 : Int32), iv (f 1)] [(.ref a1)]))
      refine own_st (fun _ k => XS.iloadN X105.here hx rfl (hb hby own_d6_11) rfl  k) ?_
      show own_Goes p e below s _ _ (T105.setTop (mkF m 12 #[rv a1, iv (2 : Int32), rv a3, iv (2 : Int32), iv (3 : Int32), iv (2 : Int32), iv (f 1)] [(.int (2 : Int32)), (.ref a1)]))
      have f106 := (f103.other W105 (own_ne (by omega)))
      refine own_st (fun _ k => own_ldC X105 hx hZ e105 f106 (j := (2 : Int32)) (by decide) (g := (mkF m 12 #[rv a1, iv (2 : Int32), rv a3, iv (2 : Int32), iv (3 : Int32), iv (2 : Int32), iv (f 1)] [(.int (2 : Int32)), (.ref a1)])) rfl rfl (hb hby own_d6_12) _ k) ?_
      show own_Goes p e below s _ _ (T105.setTop (mkF m 13 #[rv a1, iv (2 : Int32), rv a3, iv (2 : Int32), iv (3 : Int32), iv (2 : Int32), iv (f 1)] [(.int (f 2))]))
      refine own_st (fun _ k => XS.istore X105.here hx rfl (hb hby own_d6_13) rfl (l' := #[rv a1, iv (2 : Int32), rv a3, iv (2 : Int32), iv (3 : Int32), iv (2 : Int32), iv (f 2)]) rfl k) ?_
      show own_Goes p e below s _ _ (T105.setTop (mkF m 15 #[rv a1, iv (2 : Int32), rv a3, iv (2 : Int32), iv (3 : Int32), iv (2 : Int32), iv (f 2)] []))
      refine own_st (fun _ k => XS.iload X105.here hx rfl (hb hby own_d6_15) rfl  k) ?_
      show own_Goes p e below s _ _ (T105.setTop (mkF m 17 #[rv a1, iv (2 : Int32), rv a3, iv (2 : Int32), iv (3 : Int32), iv (2 : Int32), iv (f 2)] [(.int (f 2))]))
      refine own_st (fun _ k => XS.sipush X105.here hx rfl (hb hby own_d6_17) k) ?_
      show own_Goes p e below s _ _ (T105.setTop (mkF m 20 #[rv a1, iv (2 : Int32), rv a3, iv (2 : Int32), iv (3 : Int32), iv (2 : Int32), iv (f 2)] [(.int (255 : Int32)), (.int (f 2))]))
      by_cases c107 : (255 : Int32) < (f 2)
      · have c107i : 255 < (f 2).toInt := own_i_lt c107
        exfalso; omega
      · have c107i : (f 2).toInt ≤ 255 := own_i_nlt c107
        refine own_st (fun _ k => XS.icmpYes X105.here hx rfl (pc0 := 20) (pc' := 26) rfl (hb hby own_d6_20) rfl (flt c107).2.2.2 (by decide) (by decide) k) ?_
        show own_Goes p e below s _ _ (T105.setTop (mkF m 26 #[rv a1, iv (2 : Int32), rv a3, iv (2 : Int32), iv (3 : Int32), iv (2 : Int32), iv (f 2)] []))
        refine own_st (fun _ k => XS.aloadN X105.here hx rfl (hb hby own_d6_26) rfl rfl  k) ?_
        show own_Goes p e below s _ _ (T105.setTop (mkF m 27 #[rv a1, iv (2 : Int32), rv a3, iv (2 : Int32), iv (3 : Int32), iv (2 : Int32), iv (f 2)] [(.ref a3)]))
        refine own_st (fun _ k => XS.iloadN X105.here hx rfl (hb hby own_d6_27) rfl  k) ?_
        show own_Goes p e below s _ _ (T105.setTop (mkF m 28 #[rv a1, iv (2 : Int32), rv a3, iv (2 : Int32), iv (3 : Int32), iv (2 : Int32), iv (f 2)] [(.int (2 : Int32)), (.ref a3)]))
        refine own_st (fun _ k => XS.iload X105.here hx rfl (hb hby own_d6_28) rfl  k) ?_
        show own_Goes p e below s _ _ (T105.setTop (mkF m 30 #[rv a1, iv (2 : Int32), rv a3, iv (2 : Int32), iv (3 : Int32), iv (2 : Int32), iv (f 2)] [(.int (f 2)), (.int (2 : Int32)), (.ref a3)]))
        refine own_st (fun _ k => XS.i2b X105.here hx rfl (hb hby own_d6_30) rfl k) ?_
        show own_Goes p e below s _ _ (T105.setTop (mkF m 31 #[rv a1, iv (2 : Int32), rv a3, iv (2 : Int32), iv (3 : Int32), iv (2 : Int32), iv (f 2)] [(.int ((f 2).toInt8.toInt32)), (.int (2 : Int32)), (.ref a3)]))
        obtain ⟨T108, h108, X108, e108, W108, A108, st108⟩ := own_stB X105 hx hZ e105 V105 (j := (2 : Int32)) (by decide) (g := (mkF m 31 #[rv a1, iv (2 : Int32), rv a3, iv (2 : Int32), iv (3 : Int32), iv (2 : Int32), iv (f 2)] [(.int ((f 2).toInt8.toInt32)), (.int (2 : Int32)), (.ref a3)])) rfl rfl (hb hby own_d6_31)
        have V108 : own_Arf Z h108 a3 .byte 3 (fun k => .int ((fun k => if k = 2 then (nar .byte ((f 2).toInt8.toInt32)) else (fun k => if k = 1 then (nar .byte ((f 1).toInt8.toInt32)) else (fun k => if k = 0 then (nar .byte ((f 0).toInt8.toInt32)) else g k) k) k) k)) := A108
        have z108 := W108.size
        have N108 := Fr.snoc X108 N105 (by omega)
        refine own_st st108 ?_
        show own_Goes p e below s _ _ (T108.setTop (mkF m 32 #[rv a1, iv (2 : Int32), rv a3, iv (2 : Int32), iv (3 : Int32), iv (2 : Int32), iv (f 2)] []))
        refine own_st (fun _ k => XS.iinc X108.here hx rfl (hb hby own_d6_32) rfl (l' := #[rv a1, iv (3 : Int32), rv a3, iv (2 : Int32), iv (3 : Int32), iv (2 : Int32), iv (f 2)]) rfl k) ?_
        show own_Goes p e below s _ _ (T108.setTop (mkF m 35 #[rv a1, iv (3 : Int32), rv a3, iv (2 : Int32), iv (3 : Int32), iv (2 : Int32), iv (f 2)] []))
        refine own_st (fun _ k => XS.iinc X108.here hx rfl (hb hby own_d6_35) rfl (l' := #[rv a1, iv (3 : Int32), rv a3, iv (3 : Int32), iv (3 : Int32), iv (2 : Int32), iv (f 2)]) rfl k) ?_
        show own_Goes p e below s _ _ (T108.setTop (mkF m 38 #[rv a1, iv (3 : Int32), rv a3, iv (3 : Int32), iv (3 : Int32), iv (2 : Int32), iv (f 2)] []))
        refine own_st (fun _ k => XS.iinc X108.here hx rfl (hb hby own_d6_38) rfl (l' := #[rv a1, iv (3 : Int32), rv a3, iv (3 : Int32), iv (3 : Int32), iv (3 : Int32), iv (f 2)]) rfl k) ?_
        show own_Goes p e below s _ _ (T108.setTop (mkF m 41 #[rv a1, iv (3 : Int32), rv a3, iv (3 : Int32), iv (3 : Int32), iv (3 : Int32), iv (f 2)] []))
        refine own_st (fun _ k => XS.goto X108.here hx rfl (pc0 := 41) (pc' := 3) rfl (hb hby own_d6_41) (by decide) (by decide) k) ?_
        show own_Goes p e below s _ _ (T108.setTop (mkF m 3 #[rv a1, iv (3 : Int32), rv a3, iv (3 : Int32), iv (3 : Int32), iv (3 : Int32), iv (f 2)] []))
        refine own_st (fun _ k => XS.iload X108.here hx rfl (hb hby own_d6_3) rfl  k) ?_
        show own_Goes p e below s _ _ (T108.setTop (mkF m 5 #[rv a1, iv (3 : Int32), rv a3, iv (3 : Int32), iv (3 : Int32), iv (3 : Int32), iv (f 2)] [(.int (3 : Int32))]))
        refine own_st (fun _ k => XS.iload X108.here hx rfl (hb hby own_d6_5) rfl  k) ?_
        show own_Goes p e below s _ _ (T108.setTop (mkF m 7 #[rv a1, iv (3 : Int32), rv a3, iv (3 : Int32), iv (3 : Int32), iv (3 : Int32), iv (f 2)] [(.int (3 : Int32)), (.int (3 : Int32))]))
        refine own_st (fun _ k => XS.icmpYes X108.here hx rfl (pc0 := 7) (pc' := 44) rfl (hb hby own_d6_7) rfl (flt (by decide : ¬ ((3 : Int32) < (3 : Int32)))).2.1 (by decide) (by decide) k) ?_
        show own_Goes p e below s _ _ (T108.setTop (mkF m 44 #[rv a1, iv (3 : Int32), rv a3, iv (3 : Int32), iv (3 : Int32), iv (3 : Int32), iv (f 2)] []))
        refine own_st (fun _ k => XS.iload X108.here hx rfl (hb hby own_d6_44) rfl  k) ?_
        show own_Goes p e below s _ _ (T108.setTop (mkF m 46 #[rv a1, iv (3 : Int32), rv a3, iv (3 : Int32), iv (3 : Int32), iv (3 : Int32), iv (f 2)] [(.int (3 : Int32))]))
        exact own_retI X108 hx hlk hret (hb hby own_d6_46) (by decide) (by decide) ⟨rfl, N108, by rw [e108]; exact ((((Keep.refl h0 [a3]).wr W102 (Or.inl (by simp))).wr W105 (Or.inl (by simp))).wr W108 (Or.inl (by simp))), by rw [e108]; exact (own_Arf.congr V108 (fun j hj => by have q : j = 0 ∨ j = 1 ∨ j = 2 := (by omega); rcases q with rfl | rfl | rfl <;> rfl))⟩
theorem own_ef_rmCp3 (m : MethodId) (a1 : Nat) : entryFrame m #[(.ref a1), (.int (0 : Int32)), (.int (3 : Int32))] 6 = mkF m 0 #[rv a1, iv (0 : Int32), iv (3 : Int32), .unset, .unset, .unset] [] := by first | (simp [entryFrame, mkF, argsToLocals, Value.category, maxLocals]; done) | rfl
abbrev own_Q_rmCp3 (Z : State) (a1 : Nat) (f : Nat → Int32) (h0 : Heap) (n0 : Nat) (v : Option Value) (h : Heap) (L : List Loc) : Prop := ∃ b : Nat, v = some (.ref b) ∧ Fr n0 L ∧ Keep h0 h [] ∧ h0.size ≤ b ∧ b < h.size ∧ own_Arf Z h b .byte 3 (fun k => .int ((fun j => nar .byte ((f j).toInt8.toInt32)) k))
set_option maxRecDepth 65536 in
set_option maxHeartbeats 40000000 in
theorem rmCp3 (l : Launch) (Z : State) (a0 : Array Value) (hw : ∀ d ∈ tables_1, d.before a0 Z = true) (ws : List Jvm.Cond) (a1 : Nat) (f : Nat → Int32) (h0 : Heap) (n0 : Nat) (Z0 : n0 ≤ h0.size) (V1 : own_Arf Z h0 a1 .char 3 (fun k => .int (f k))) (hc : ∀ j, j < 3 → 0 ≤ (f j).toInt ∧ (f j).toInt ≤ 255) :
    MetFree l (⟨"java/lang/StringUTF16", "compress", "([CII)[B"⟩ : MethodName) (head1 (Jvm.Cond.code (⟨"java/lang/StringUTF16", "compress", "([CII)[B"⟩ : MethodName) jdk_52_method_16_code 6 (some (.array .byte)) :: ws) ({ frames := 1, cells := 1, slots := 3, locals := 18 } : Room)) (fun a U => a = #[(.ref a1), (.int (0 : Int32)), (.int (3 : Int32))] ∧ Z.Warmed39 U.vm ∧ U.heap = h0) (fun _ _ _ _ _ => True) (fun _ U o U' => ∃ v L, o = .returned v ∧ own_Q_rmCp3 Z a1 f h0 n0 v U'.heap L ∧ FrameEnd U o U' L ({ frames := 1, cells := 1, slots := 3, locals := 18 } : Room).cells ({ frames := 1, cells := 1, slots := 3, locals := 18 } : Room).slots) := by
  refine own_enter (Q := fun v h L => own_Q_rmCp3 Z a1 f h0 n0 v h L) (F := fun m => mkF m 0 #[rv a1, iv (0 : Int32), iv (3 : Int32), .unset, .unset, .unset] []) own_pn1 (fun m => own_ef_rmCp3 m a1) ?_
  intro p e s m below meth c T X hx hby hml hret hlk hnm hown hZ e0
  show own_Goes p e below s _ _ (T.setTop (mkF m 0 #[rv a1, iv (0 : Int32), iv (3 : Int32), .unset, .unset, .unset] []))
  have N0 := Fr.nil n0
  have y1 := own_lt V1.lt
  refine own_st (fun _ k => XS.iloadN X.here hx rfl (hb hby own_d5_0) rfl  k) ?_
  show own_Goes p e below s _ _ (T.setTop (mkF m 1 #[rv a1, iv (0 : Int32), iv (3 : Int32), .unset, .unset, .unset] [(.int (3 : Int32))]))
  obtain ⟨T101, h101, X101, e101, E101, A101, st101⟩ := own_newP X hx hZ (aty := .byte) (hw _ (List.mem_of_getElem? (i := 22) rfl)) e0 (g := (mkF m 1 #[rv a1, iv (0 : Int32), iv (3 : Int32), .unset, .unset, .unset] [(.int (3 : Int32))])) rfl (hb hby own_d5_1) rfl (by decide) (cap := 3) (by decide) (by decide) (by decide) (by decide)
  obtain ⟨b101, g101⟩ : ∃ z, z = h0.size := ⟨_, rfl⟩
  rw [← g101] at A101 st101
  have V101 : own_Arf Z h101 b101 .byte 3 (fun k => .int ((fun _ => (0 : Int32)) k)) := A101
  have y101 := own_lt V101.lt
  have z101 := E101.1
  refine own_st st101 ?_
  show own_Goes p e below s _ _ (T101.setTop (mkF m 3 #[rv a1, iv (0 : Int32), iv (3 : Int32), .unset, .unset, .unset] [(.ref b101)]))
  refine own_st (fun _ k => XS.astoreN X101.here hx rfl (hb hby own_d5_3) rfl rfl (l' := #[rv a1, iv (0 : Int32), iv (3 : Int32), rv b101, .unset, .unset]) rfl k) ?_
  show own_Goes p e below s _ _ (T101.setTop (mkF m 4 #[rv a1, iv (0 : Int32), iv (3 : Int32), rv b101, .unset, .unset] []))
  refine own_st (fun _ k => XS.aloadN X101.here hx rfl (hb hby own_d5_4) rfl rfl  k) ?_
  show own_Goes p e below s _ _ (T101.setTop (mkF m 5 #[rv a1, iv (0 : Int32), iv (3 : Int32), rv b101, .unset, .unset] [(.ref a1)]))
  refine own_st (fun _ k => XS.iloadN X101.here hx rfl (hb hby own_d5_5) rfl  k) ?_
  show own_Goes p e below s _ _ (T101.setTop (mkF m 6 #[rv a1, iv (0 : Int32), iv (3 : Int32), rv b101, .unset, .unset] [(.int (0 : Int32)), (.ref a1)]))
  refine own_st (fun _ k => XS.aloadN X101.here hx rfl (hb hby own_d5_6) rfl rfl  k) ?_
  show own_Goes p e below s _ _ (T101.setTop (mkF m 7 #[rv a1, iv (0 : Int32), iv (3 : Int32), rv b101, .unset, .unset] [(.ref b101), (.int (0 : Int32)), (.ref a1)]))
  refine own_st (fun _ k => XS.iconst X101.here hx rfl (hb hby own_d5_7) k) ?_
  show own_Goes p e below s _ _ (T101.setTop (mkF m 8 #[rv a1, iv (0 : Int32), iv (3 : Int32), rv b101, .unset, .unset] [(.int (0 : Int32)), (.ref b101), (.int (0 : Int32)), (.ref a1)]))
  refine own_st (fun _ k => XS.iloadN X101.here hx rfl (hb hby own_d5_8) rfl  k) ?_
  show own_Goes p e below s _ _ (T101.setTop (mkF m 9 #[rv a1, iv (0 : Int32), iv (3 : Int32), rv b101, .unset, .unset] [(.int (3 : Int32)), (.int (0 : Int32)), (.ref b101), (.int (0 : Int32)), (.ref a1)]))
  have f103 := (V1.ext E101)
  obtain ⟨v102, T102, L102, X102, Q102, st102⟩ := own_callS X101 hx hZ (y := (⟨"java/lang/StringUTF16", "compress", "([CI[BII)I"⟩ : MethodName)) hown (hw _ (List.mem_of_getElem? (i := 34) rfl)) (hw _ (List.mem_of_getElem? (i := 35) rfl)) (hw _ (List.mem_of_getElem? (i := 32) rfl)) (hw _ (List.mem_of_getElem? (i := 36) rfl)) (by decide) (W := 0) (rest := []) (argsL := [(.ref a1), (.int (0 : Int32)), (.ref b101), (.int (0 : Int32)), (.int (3 : Int32))]) (rmCc3 l Z a0 hw [] a1 b101 _ _ h101 n0 (by omega) f103 V101 hc (by omega) (by omega)) (by decide) (by decide) (by decide) (by decide) e101 own_pd0 rfl (g := (mkF m 9 #[rv a1, iv (0 : Int32), iv (3 : Int32), rv b101, .unset, .unset] [(.int (3 : Int32)), (.int (0 : Int32)), (.ref b101), (.int (0 : Int32)), (.ref a1)])) rfl (by rw [hml]; rfl) rfl (by show 2 * 0 + _ ≤ _; exact Nat.le_of_eq rfl) (hb hby own_d5_9)
  obtain ⟨rfl, N102q, K102, V102⟩ := Q102
  have z102 := K102.1
  have N102 := Fr.app N0 N102q
  refine own_st st102 ?_
  show own_Goes p e below s _ _ (T102.setTop (mkF m 12 #[rv a1, iv (0 : Int32), iv (3 : Int32), rv b101, .unset, .unset] [(.int (3 : Int32))]))
  refine own_st (fun _ k => XS.istore X102.here hx rfl (hb hby own_d5_12) rfl (l' := #[rv a1, iv (0 : Int32), iv (3 : Int32), rv b101, iv (3 : Int32), .unset]) rfl k) ?_
  show own_Goes p e below s _ _ (T102.setTop (mkF m 14 #[rv a1, iv (0 : Int32), iv (3 : Int32), rv b101, iv (3 : Int32), .unset] []))
  refine own_st (fun _ k => XS.iload X102.here hx rfl (hb hby own_d5_14) rfl  k) ?_
  show own_Goes p e below s _ _ (T102.setTop (mkF m 16 #[rv a1, iv (0 : Int32), iv (3 : Int32), rv b101, iv (3 : Int32), .unset] [(.int (3 : Int32))]))
  refine own_st (fun _ k => XS.iloadN X102.here hx rfl (hb hby own_d5_16) rfl  k) ?_
  show own_Goes p e below s _ _ (T102.setTop (mkF m 17 #[rv a1, iv (0 : Int32), iv (3 : Int32), rv b101, iv (3 : Int32), .unset] [(.int (3 : Int32)), (.int (3 : Int32))]))
  refine own_st (fun _ k => XS.icmpYes X102.here hx rfl (pc0 := 17) (pc' := 57) rfl (hb hby own_d5_17) rfl (teq (by decide : (3 : Int32) = (3 : Int32))).1 (by decide) (by decide) k) ?_
  show own_Goes p e below s _ _ (T102.setTop (mkF m 57 #[rv a1, iv (0 : Int32), iv (3 : Int32), rv b101, iv (3 : Int32), .unset] []))
  refine own_st (fun _ k => XS.aloadN X102.here hx rfl (hb hby own_d5_57) rfl rfl  k) ?_
  show own_Goes p e below s _ _ (T102.setTop (mkF m 58 #[rv a1, iv (0 : Int32), iv (3 : Int32), rv b101, iv (3 : Int32), .unset] [(.ref b101)]))
  exact own_retR X102 hx hlk hret rfl rfl (hb hby own_d5_58) (by decide) (by decide) ⟨b101, rfl, N102, (((Keep.refl h0 []).ext E101).trans K102 (allS (Or.inr (by omega)) all0)), by omega, by omega, V102⟩
theorem own_ef_rmCo3 (m : MethodId) (a1 : Nat) : entryFrame m #[(.ref a1), (.int (3 : Int32))] 2 = mkF m 0 #[rv a1, iv (3 : Int32)] [] := by first | (simp [entryFrame, mkF, argsToLocals, Value.category, maxLocals]; done) | rfl
abbrev own_Q_rmCo3 (Z : State) (a1 : Nat) (g : Nat → Int32) (h0 : Heap) (n0 : Nat) (v : Option Value) (h : Heap) (L : List Loc) : Prop := v = some (.int (0 : Int32)) ∧ Fr n0 L ∧ h = h0
set_option maxRecDepth 65536 in
set_option maxHeartbeats 40000000 in
theorem rmCo3 (l : Launch) (Z : State) (a0 : Array Value) (hw : ∀ d ∈ tables_1, d.before a0 Z = true) (ws : List Jvm.Cond) (a1 : Nat) (g : Nat → Int32) (h0 : Heap) (n0 : Nat) (Z0 : n0 ≤ h0.size) (V1 : own_Arf Z h0 a1 .byte 3 (fun k => .int (g k))) :
    MetFree l (⟨"java/lang/StringUTF16", "coderFromArrayLen", "([BI)B"⟩ : MethodName) (head1 (Jvm.Cond.code (⟨"java/lang/StringUTF16", "coderFromArrayLen", "([BI)B"⟩ : MethodName) jdk_52_method_15_code 2 (some .byte) :: ws) ({ frames := 0, cells := 0, slots := 0, locals := 0 } : Room)) (fun a U => a = #[(.ref a1), (.int (3 : Int32))] ∧ Z.Warmed39 U.vm ∧ U.heap = h0) (fun _ _ _ _ _ => True) (fun _ U o U' => ∃ v L, o = .returned v ∧ own_Q_rmCo3 Z a1 g h0 n0 v U'.heap L ∧ FrameEnd U o U' L ({ frames := 0, cells := 0, slots := 0, locals := 0 } : Room).cells ({ frames := 0, cells := 0, slots := 0, locals := 0 } : Room).slots) := by
  refine own_enter (Q := fun v h L => own_Q_rmCo3 Z a1 g h0 n0 v h L) (F := fun m => mkF m 0 #[rv a1, iv (3 : Int32)] []) own_pn2 (fun m => own_ef_rmCo3 m a1) ?_
  intro p e s m below meth c T X hx hby hml hret hlk hnm hown hZ e0
  show own_Goes p e below s _ _ (T.setTop (mkF m 0 #[rv a1, iv (3 : Int32)] []))
  have N0 := Fr.nil n0
  refine own_st (fun _ k => XS.iloadN X.here hx rfl (hb hby own_d7_0) rfl  k) ?_
  show own_Goes p e below s _ _ (T.setTop (mkF m 1 #[rv a1, iv (3 : Int32)] [(.int (3 : Int32))]))
  refine own_st (fun _ k => XS.aloadN X.here hx rfl (hb hby own_d7_1) rfl rfl  k) ?_
  show own_Goes p e below s _ _ (T.setTop (mkF m 2 #[rv a1, iv (3 : Int32)] [(.ref a1), (.int (3 : Int32))]))
  refine own_st (fun _ k => own_len X hx hZ e0 V1 (g := (mkF m 2 #[rv a1, iv (3 : Int32)] [(.ref a1), (.int (3 : Int32))])) rfl rfl (hb hby own_d7_2) _ k) ?_
  show own_Goes p e below s _ _ (T.setTop (mkF m 3 #[rv a1, iv (3 : Int32)] [(.int (3 : Int32)), (.int (3 : Int32))]))
  refine own_st (fun _ k => XS.isub X.here hx rfl (hb hby own_d7_3) rfl k) ?_
  show own_Goes p e below s _ _ (T.setTop (mkF m 4 #[rv a1, iv (3 : Int32)] [(.int (0 : Int32))]))
  refine own_st (fun _ k => XS.bipush X.here hx rfl (hb hby own_d7_4) k) ?_
  show own_Goes p e below s _ _ (T.setTop (mkF m 6 #[rv a1, iv (3 : Int32)] [(.int (31 : Int32)), (.int (0 : Int32))]))
  refine own_st (fun _ k => XS.iushr X.here hx rfl (hb hby own_d7_6) rfl k) ?_
  show own_Goes p e below s _ _ (T.setTop (mkF m 7 #[rv a1, iv (3 : Int32)] [(.int (((0 : Int32).toUInt32 >>> ((31 : Int32) &&& 31).toUInt32).toInt32))]))
  refine own_st (fun _ k => XS.i2b X.here hx rfl (hb hby own_d7_7) rfl k) ?_
  show own_Goes p e below s _ _ (T.setTop (mkF m 8 #[rv a1, iv (3 : Int32)] [(.int ((((0 : Int32).toUInt32 >>> ((31 : Int32) &&& 31).toUInt32).toInt32).toInt8.toInt32))]))
  exact own_retN X hx hlk (nar .byte ((((0 : Int32).toUInt32 >>> ((31 : Int32) &&& 31).toUInt32).toInt32).toInt8.toInt32)) hret (Or.inr (Or.inl rfl)) rfl (hb hby own_d7_8) (by decide) (by decide) ⟨by decide, N0, e0⟩
theorem own_ef_rmSI3 (m : MethodId) (a1 : Nat) (a2 : Nat) : entryFrame m #[(.ref a1), (.ref a2), (.int (0 : Int32)), (.int (3 : Int32)), .null] 6 = mkF m 0 #[rv a1, rv a2, iv (0 : Int32), iv (3 : Int32), .val .null, .unset] [] := by first | (simp [entryFrame, mkF, argsToLocals, Value.category, maxLocals]; done) | rfl
abbrev own_Q_rmSI3 (Z : State) (a1 : Nat) (a2 : Nat) (f : Nat → Int32) (cs : Int32) (u1 : Value) (u2 : Value) (h0 : Heap) (n0 : Nat) (v : Option Value) (h : Heap) (L : List Loc) : Prop := v = none ∧ Fr n0 L ∧ Keep h0 h [a1] ∧ ∃ b : Nat, h0.size ≤ b ∧ b < h.size ∧ Exa Z h a1 "java/lang/String" ∧ Fld Z h a1 "java/lang/String" "value" "[B" (.ref b) ∧ Fld Z h a1 "java/lang/String" "coder" "B" (.int (0 : Int32)) ∧ own_Arf Z h b .byte 3 (fun k => .int ((fun j => nar .byte ((f j).toInt8.toInt32)) k))
set_option maxRecDepth 65536 in
set_option maxHeartbeats 40000000 in
theorem rmSI3 (l : Launch) (Z : State) (a0 : Array Value) (hw : ∀ d ∈ tables_1, d.before a0 Z = true) (ws : List Jvm.Cond) (a1 : Nat) (a2 : Nat) (f : Nat → Int32) (cs : Int32) (u1 : Value) (u2 : Value) (h0 : Heap) (n0 : Nat) (Z0 : n0 ≤ h0.size) (E1 : Exa Z h0 a1 "java/lang/String") (F_value : Fld Z h0 a1 "java/lang/String" "value" "[B" u1) (F_coder : Fld Z h0 a1 "java/lang/String" "coder" "B" u2) (V2 : own_Arf Z h0 a2 .char 3 (fun k => .int (f k))) (hc : ∀ j, j < 3 → 0 ≤ (f j).toInt ∧ (f j).toInt ≤ 255) (S1 : Sta Z h0 "java/lang/String" "COMPACT_STRINGS" "Z" (.int cs)) (hcs : ¬ cs = (0 : Int32)) (g1 : n0 ≤ a1) (x12 : a1 ≠ a2) :
    MetFree l (⟨"java/lang/String", "<init>", "([CIILjava/lang/Void;)V"⟩ : MethodName) (head1 (Jvm.Cond.code (⟨"java/lang/String", "<init>", "([CIILjava/lang/Void;)V"⟩ : MethodName) jdk_42_method_149_code 6 none :: ws) ({ frames := 2, cells := 1, slots := 3, locals := 35 } : Room)) (fun a U => a = #[(.ref a1), (.ref a2), (.int (0 : Int32)), (.int (3 : Int32)), .null] ∧ Z.Warmed39 U.vm ∧ U.heap = h0) (fun _ _ _ _ _ => True) (fun _ U o U' => ∃ v L, o = .returned v ∧ own_Q_rmSI3 Z a1 a2 f cs u1 u2 h0 n0 v U'.heap L ∧ FrameEnd U o U' L ({ frames := 2, cells := 1, slots := 3, locals := 35 } : Room).cells ({ frames := 2, cells := 1, slots := 3, locals := 35 } : Room).slots) := by
  refine own_enter (Q := fun v h L => own_Q_rmSI3 Z a1 a2 f cs u1 u2 h0 n0 v h L) (F := fun m => mkF m 0 #[rv a1, rv a2, iv (0 : Int32), iv (3 : Int32), .val .null, .unset] []) own_pn3 (fun m => own_ef_rmSI3 m a1 a2) ?_
  intro p e s m below meth c T X hx hby hml hret hlk hnm hown hZ e0
  show own_Goes p e below s _ _ (T.setTop (mkF m 0 #[rv a1, rv a2, iv (0 : Int32), iv (3 : Int32), .val .null, .unset] []))
  have N0 := Fr.nil n0
  have yE := own_lt E1.lt
  have yV := own_lt V2.lt
  refine own_st (fun _ k => XS.aloadN X.here hx rfl (hb hby own_d3_0) rfl rfl  k) ?_
  show own_Goes p e below s _ _ (T.setTop (mkF m 1 #[rv a1, rv a2, iv (0 : Int32), iv (3 : Int32), .val .null, .unset] [(.ref a1)]))
  obtain ⟨T101, X101, e101, st101⟩ := initO X hx hZ hown (hw _ (List.mem_of_getElem? (i := 18) rfl)) (hw _ (List.mem_of_getElem? (i := 19) rfl)) (hw _ (List.mem_of_getElem? (i := 20) rfl)) e0 (g := (mkF m 1 #[rv a1, rv a2, iv (0 : Int32), iv (3 : Int32), .val .null, .unset] [(.ref a1)])) rfl (by rw [hml]; rfl) rfl (hb hby own_d3_1) (by decide) (W := 0) (by show 2 * 0 + _ ≤ _; exact Nat.le_of_eq rfl) (by decide)
  refine own_st st101 ?_
  show own_Goes p e below s _ _ (T101.setTop (mkF m 4 #[rv a1, rv a2, iv (0 : Int32), iv (3 : Int32), .val .null, .unset] []))
  refine own_st (fun _ k => XS.iloadN X101.here hx rfl (hb hby own_d3_4) rfl  k) ?_
  show own_Goes p e below s _ _ (T101.setTop (mkF m 5 #[rv a1, rv a2, iv (0 : Int32), iv (3 : Int32), .val .null, .unset] [(.int (3 : Int32))]))
  refine own_st (fun _ k => XS.ifYes X101.here hx rfl (pc0 := 5) (pc' := 27) rfl (hb hby own_d3_5) rfl ((if0 _ _).trans (feq (by decide : ¬ ((3 : Int32) = (0 : Int32)))).2) (by decide) (by decide) k) ?_
  show own_Goes p e below s _ _ (T101.setTop (mkF m 27 #[rv a1, rv a2, iv (0 : Int32), iv (3 : Int32), .val .null, .unset] []))
  obtain ⟨T102, X102, e102, st102⟩ := getS2 X101 hx hZ hown (host := "") (Or.inl (hw _ (List.mem_of_getElem? (i := 29) rfl))) Via.refl e101 S1 (g := (mkF m 27 #[rv a1, rv a2, iv (0 : Int32), iv (3 : Int32), .val .null, .unset] [])) rfl (hb hby own_d3_27)
  refine own_st st102 ?_
  show own_Goes p e below s _ _ (T102.setTop (mkF m 30 #[rv a1, rv a2, iv (0 : Int32), iv (3 : Int32), .val .null, .unset] [(.int cs)]))
  refine own_st (fun _ k => XS.ifNo X102.here hx rfl (hb hby own_d3_30) rfl ((if0 _ _).trans (feq hcs).1) k) ?_
  show own_Goes p e below s _ _ (T102.setTop (mkF m 33 #[rv a1, rv a2, iv (0 : Int32), iv (3 : Int32), .val .null, .unset] []))
  refine own_st (fun _ k => XS.aloadN X102.here hx rfl (hb hby own_d3_33) rfl rfl  k) ?_
  show own_Goes p e below s _ _ (T102.setTop (mkF m 34 #[rv a1, rv a2, iv (0 : Int32), iv (3 : Int32), .val .null, .unset] [(.ref a2)]))
  refine own_st (fun _ k => XS.iloadN X102.here hx rfl (hb hby own_d3_34) rfl  k) ?_
  show own_Goes p e below s _ _ (T102.setTop (mkF m 35 #[rv a1, rv a2, iv (0 : Int32), iv (3 : Int32), .val .null, .unset] [(.int (0 : Int32)), (.ref a2)]))
  refine own_st (fun _ k => XS.iloadN X102.here hx rfl (hb hby own_d3_35) rfl  k) ?_
  show own_Goes p e below s _ _ (T102.setTop (mkF m 36 #[rv a1, rv a2, iv (0 : Int32), iv (3 : Int32), .val .null, .unset] [(.int (3 : Int32)), (.int (0 : Int32)), (.ref a2)]))
  obtain ⟨v103, T103, L103, X103, Q103, st103⟩ := own_callS X102 hx hZ (y := (⟨"java/lang/StringUTF16", "compress", "([CII)[B"⟩ : MethodName)) hown (hw _ (List.mem_of_getElem? (i := 30) rfl)) (hw _ (List.mem_of_getElem? (i := 31) rfl)) (hw _ (List.mem_of_getElem? (i := 32) rfl)) (hw _ (List.mem_of_getElem? (i := 33) rfl)) (by decide) (W := 0) (rest := []) (argsL := [(.ref a2), (.int (0 : Int32)), (.int (3 : Int32))]) (rmCp3 l Z a0 hw [] a2 _ h0 n0 (by omega) V2 hc) (by decide) (by decide) (by decide) (by decide) e102 own_pd1 rfl (g := (mkF m 36 #[rv a1, rv a2, iv (0 : Int32), iv (3 : Int32), .val .null, .unset] [(.int (3 : Int32)), (.int (0 : Int32)), (.ref a2)])) rfl (by rw [hml]; rfl) rfl (by show 2 * 0 + _ ≤ _; exact Nat.le_of_eq rfl) (hb hby own_d3_36)
  obtain ⟨b103, rfl, N103q, K103, g103, y103, V103⟩ := Q103
  have z103 := K103.1
  have N103 := Fr.app N0 N103q
  refine own_st st103 ?_
  show own_Goes p e below s _ _ (T103.setTop (mkF m 39 #[rv a1, rv a2, iv (0 : Int32), iv (3 : Int32), .val .null, .unset] [(.ref b103)]))
  refine own_st (fun _ k => XS.astore X103.here hx rfl (hb hby own_d3_39) rfl rfl (l' := #[rv a1, rv a2, iv (0 : Int32), iv (3 : Int32), .val .null, rv b103]) rfl k) ?_
  show own_Goes p e below s _ _ (T103.setTop (mkF m 41 #[rv a1, rv a2, iv (0 : Int32), iv (3 : Int32), .val .null, rv b103] []))
  refine own_st (fun _ k => XS.aloadN X103.here hx rfl (hb hby own_d3_41) rfl rfl  k) ?_
  show own_Goes p e below s _ _ (T103.setTop (mkF m 42 #[rv a1, rv a2, iv (0 : Int32), iv (3 : Int32), .val .null, rv b103] [(.ref a1)]))
  refine own_st (fun _ k => XS.aload X103.here hx rfl (hb hby own_d3_42) rfl rfl  k) ?_
  show own_Goes p e below s _ _ (T103.setTop (mkF m 44 #[rv a1, rv a2, iv (0 : Int32), iv (3 : Int32), .val .null, rv b103] [(.ref b103), (.ref a1)]))
  refine own_st (fun _ k => XS.iloadN X103.here hx rfl (hb hby own_d3_44) rfl  k) ?_
  show own_Goes p e below s _ _ (T103.setTop (mkF m 45 #[rv a1, rv a2, iv (0 : Int32), iv (3 : Int32), .val .null, rv b103] [(.int (3 : Int32)), (.ref b103), (.ref a1)]))
  obtain ⟨v104, T104, L104, X104, Q104, st104⟩ := own_callS X103 hx hZ (y := (⟨"java/lang/StringUTF16", "coderFromArrayLen", "([BI)B"⟩ : MethodName)) hown (hw _ (List.mem_of_getElem? (i := 37) rfl)) (hw _ (List.mem_of_getElem? (i := 38) rfl)) (hw _ (List.mem_of_getElem? (i := 32) rfl)) (hw _ (List.mem_of_getElem? (i := 39) rfl)) (by decide) (W := 1) (rest := [(.ref a1)]) (argsL := [(.ref b103), (.int (3 : Int32))]) (rmCo3 l Z a0 hw [] b103 _ T103.heap n0 (by omega) V103) (by decide) (by decide) (by decide) (by decide) rfl own_pd2 rfl (g := (mkF m 45 #[rv a1, rv a2, iv (0 : Int32), iv (3 : Int32), .val .null, rv b103] [(.int (3 : Int32)), (.ref b103), (.ref a1)])) rfl (by rw [hml]; rfl) rfl (by show 2 * 0 + _ ≤ _; exact Nat.le_of_eq rfl) (hb hby own_d3_45)
  obtain ⟨rfl, N104q, e104⟩ := Q104
  have N104 := Fr.app N103 N104q
  refine own_st st104 ?_
  show own_Goes p e below s _ _ (T104.setTop (mkF m 48 #[rv a1, rv a2, iv (0 : Int32), iv (3 : Int32), .val .null, rv b103] [(.int (0 : Int32)), (.ref a1)]))
  have f105 := (F_coder.keep K103 nin0)
  have f106 := (E1.keep K103)
  obtain ⟨T107, h107, X107, e107, W107, st107⟩ := putFN X104 hx hZ hown (hw _ (List.mem_of_getElem? (i := 28) rfl)) Via.refl e104 f105 f106 (Or.inr ⟨(hw _ (List.mem_of_getElem? (i := 24) rfl)), rfl, hnm⟩) (hw _ (List.mem_of_getElem? (i := 8) rfl)) (ty := .byte) (v' := (.int (nar .byte (0 : Int32)))) (by decide) rfl (fits_nar_byte _) (g := (mkF m 48 #[rv a1, rv a2, iv (0 : Int32), iv (3 : Int32), .val .null, rv b103] [(.int (0 : Int32)), (.ref a1)])) rfl rfl (hb hby own_d3_48)
  have z107 := W107.size
  have N107 := Fr.snoc X107 N104 (by omega)
  have F107 := f105.same W107
  refine own_st st107 ?_
  show own_Goes p e below s _ _ (T107.setTop (mkF m 51 #[rv a1, rv a2, iv (0 : Int32), iv (3 : Int32), .val .null, rv b103] []))
  refine own_st (fun _ k => XS.aloadN X107.here hx rfl (hb hby own_d3_51) rfl rfl  k) ?_
  show own_Goes p e below s _ _ (T107.setTop (mkF m 52 #[rv a1, rv a2, iv (0 : Int32), iv (3 : Int32), .val .null, rv b103] [(.ref a1)]))
  refine own_st (fun _ k => XS.aload X107.here hx rfl (hb hby own_d3_52) rfl rfl  k) ?_
  show own_Goes p e below s _ _ (T107.setTop (mkF m 54 #[rv a1, rv a2, iv (0 : Int32), iv (3 : Int32), .val .null, rv b103] [(.ref b103), (.ref a1)]))
  have f108 := ((F_value.keep K103 nin0).other W107 (Or.inr (slot_ne (Or.inr (hw _ (List.mem_of_getElem? (i := 23) rfl))) (Or.inr (hw _ (List.mem_of_getElem? (i := 24) rfl))) (by decide) (t := (.array .byte)) (t' := .byte) (by decide) (by decide))))
  have f109 := (f106.wr W107)
  obtain ⟨T110, h110, X110, e110, W110, st110⟩ := putF X107 hx hZ hown (host := "") (Or.inl (hw _ (List.mem_of_getElem? (i := 27) rfl))) Via.refl e107 f108 f109 (Or.inr ⟨(hw _ (List.mem_of_getElem? (i := 23) rfl)), rfl, hnm⟩) (hw _ (List.mem_of_getElem? (i := 8) rfl)) (ty := (.array .byte)) (by decide) rfl rfl (g := (mkF m 54 #[rv a1, rv a2, iv (0 : Int32), iv (3 : Int32), .val .null, rv b103] [(.ref b103), (.ref a1)])) rfl rfl (hb hby own_d3_54)
  have z110 := W110.size
  have N110 := Fr.snoc X110 N107 (by omega)
  have F110 := f108.same W110
  refine own_st st110 ?_
  show own_Goes p e below s _ _ (T110.setTop (mkF m 57 #[rv a1, rv a2, iv (0 : Int32), iv (3 : Int32), .val .null, rv b103] []))
  have f111 := (f109.wr W110)
  have f112 := (F107.other W110 (Or.inr (slot_ne (Or.inr (hw _ (List.mem_of_getElem? (i := 24) rfl))) (Or.inr (hw _ (List.mem_of_getElem? (i := 23) rfl))) (by decide) (t := .byte) (t' := (.array .byte)) (by decide) (by decide))))
  have f113 := ((V103.other W107 (own_ne (by omega))).other W110 (own_ne (by omega)))
  exact own_ret0 X110 hx hlk hret (hb hby own_d3_57) (by decide) (by decide) ⟨rfl, N110, by rw [e110]; exact ((((Keep.refl h0 [a1]).trans K103 all0).wr W107 (Or.inl (by simp))).wr W110 (Or.inl (by simp))), b103, by omega, by rw [e110]; omega, by rw [e110]; exact f111, by rw [e110]; exact F110, by rw [e110]; exact f112, by rw [e110]; exact f113⟩
theorem own_ef_rmS3 (m : MethodId) (a1 : Nat) (a2 : Nat) : entryFrame m #[(.ref a1), (.ref a2)] 2 = mkF m 0 #[rv a1, rv a2] [] := by first | (simp [entryFrame, mkF, argsToLocals, Value.category, maxLocals]; done) | rfl
abbrev own_Q_rmS3 (Z : State) (a1 : Nat) (a2 : Nat) (f : Nat → Int32) (cs : Int32) (u1 : Value) (u2 : Value) (h0 : Heap) (n0 : Nat) (v : Option Value) (h : Heap) (L : List Loc) : Prop := v = none ∧ Fr n0 L ∧ Keep h0 h [a1] ∧ ∃ b : Nat, h0.size ≤ b ∧ b < h.size ∧ Exa Z h a1 "java/lang/String" ∧ Fld Z h a1 "java/lang/String" "value" "[B" (.ref b) ∧ Fld Z h a1 "java/lang/String" "coder" "B" (.int (0 : Int32)) ∧ own_Arf Z h b .byte 3 (fun k => .int ((fun j => nar .byte ((f j).toInt8.toInt32)) k))
set_option maxRecDepth 65536 in
set_option maxHeartbeats 40000000 in
theorem rmS3 (l : Launch) (Z : State) (a0 : Array Value) (hw : ∀ d ∈ tables_1, d.before a0 Z = true) (ws : List Jvm.Cond) (a1 : Nat) (a2 : Nat) (f : Nat → Int32) (cs : Int32) (u1 : Value) (u2 : Value) (h0 : Heap) (n0 : Nat) (Z0 : n0 ≤ h0.size) (E1 : Exa Z h0 a1 "java/lang/String") (F_value : Fld Z h0 a1 "java/lang/String" "value" "[B" u1) (F_coder : Fld Z h0 a1 "java/lang/String" "coder" "B" u2) (V2 : own_Arf Z h0 a2 .char 3 (fun k => .int (f k))) (hc : ∀ j, j < 3 → 0 ≤ (f j).toInt ∧ (f j).toInt ≤ 255) (S1 : Sta Z h0 "java/lang/String" "COMPACT_STRINGS" "Z" (.int cs)) (hcs : ¬ cs = (0 : Int32)) (g1 : n0 ≤ a1) (x12 : a1 ≠ a2) :
    MetFree l (⟨"java/lang/String", "<init>", "([C)V"⟩ : MethodName) (head1 (Jvm.Cond.code (⟨"java/lang/String", "<init>", "([C)V"⟩ : MethodName) jdk_42_method_3_code 2 none :: ws) ({ frames := 3, cells := 1, slots := 3, locals := 52 } : Room)) (fun a U => a = #[(.ref a1), (.ref a2)] ∧ Z.Warmed39 U.vm ∧ U.heap = h0) (fun _ _ _ _ _ => True) (fun _ U o U' => ∃ v L, o = .returned v ∧ own_Q_rmS3 Z a1 a2 f cs u1 u2 h0 n0 v U'.heap L ∧ FrameEnd U o U' L ({ frames := 3, cells := 1, slots := 3, locals := 52 } : Room).cells ({ frames := 3, cells := 1, slots := 3, locals := 52 } : Room).slots) := by
  refine own_enter (Q := fun v h L => own_Q_rmS3 Z a1 a2 f cs u1 u2 h0 n0 v h L) (F := fun m => mkF m 0 #[rv a1, rv a2] []) own_pn4 (fun m => own_ef_rmS3 m a1 a2) ?_
  intro p e s m below meth c T X hx hby hml hret hlk hnm hown hZ e0
  show own_Goes p e below s _ _ (T.setTop (mkF m 0 #[rv a1, rv a2] []))
  have N0 := Fr.nil n0
  have yE := own_lt E1.lt
  have yV := own_lt V2.lt
  refine own_st (fun _ k => XS.aloadN X.here hx rfl (hb hby own_d2_0) rfl rfl  k) ?_
  show own_Goes p e below s _ _ (T.setTop (mkF m 1 #[rv a1, rv a2] [(.ref a1)]))
  refine own_st (fun _ k => XS.aloadN X.here hx rfl (hb hby own_d2_1) rfl rfl  k) ?_
  show own_Goes p e below s _ _ (T.setTop (mkF m 2 #[rv a1, rv a2] [(.ref a2), (.ref a1)]))
  refine own_st (fun _ k => XS.iconst X.here hx rfl (hb hby own_d2_2) k) ?_
  show own_Goes p e below s _ _ (T.setTop (mkF m 3 #[rv a1, rv a2] [(.int (0 : Int32)), (.ref a2), (.ref a1)]))
  refine own_st (fun _ k => XS.aloadN X.here hx rfl (hb hby own_d2_3) rfl rfl  k) ?_
  show own_Goes p e below s _ _ (T.setTop (mkF m 4 #[rv a1, rv a2] [(.ref a2), (.int (0 : Int32)), (.ref a2), (.ref a1)]))
  refine own_st (fun _ k => own_len X hx hZ e0 V2 (g := (mkF m 4 #[rv a1, rv a2] [(.ref a2), (.int (0 : Int32)), (.ref a2), (.ref a1)])) rfl rfl (hb hby own_d2_4) _ k) ?_
  show own_Goes p e below s _ _ (T.setTop (mkF m 5 #[rv a1, rv a2] [(.int (3 : Int32)), (.int (0 : Int32)), (.ref a2), (.ref a1)]))
  refine own_st (fun _ k => XS.aconstNull X.here hx rfl (hb hby own_d2_5) k) ?_
  show own_Goes p e below s _ _ (T.setTop (mkF m 6 #[rv a1, rv a2] [.null, (.int (3 : Int32)), (.int (0 : Int32)), (.ref a2), (.ref a1)]))
  obtain ⟨v101, T101, L101, X101, Q101, st101⟩ := own_callI X hx hZ (y := (⟨"java/lang/String", "<init>", "([CIILjava/lang/Void;)V"⟩ : MethodName)) hown (hw _ (List.mem_of_getElem? (i := 14) rfl)) (hw _ (List.mem_of_getElem? (i := 15) rfl)) (hw _ (List.mem_of_getElem? (i := 9) rfl)) (hw _ (List.mem_of_getElem? (i := 17) rfl)) rfl (by decide) (W := 0) (rest := []) (argsL := [(.ref a2), (.int (0 : Int32)), (.int (3 : Int32)), .null]) (a := a1) (rmSI3 l Z a0 hw [] a1 a2 _ cs _ _  h0 n0 (by omega) E1 F_value F_coder V2 hc S1 hcs (by omega) (by omega)) (by decide) (by decide) (by decide) (by decide) e0 own_pd3 rfl (g := (mkF m 6 #[rv a1, rv a2] [.null, (.int (3 : Int32)), (.int (0 : Int32)), (.ref a2), (.ref a1)])) rfl (by rw [hml]; rfl) rfl (by show 2 * 0 + _ ≤ _; exact Nat.le_of_eq rfl) (hb hby own_d2_6)
  obtain ⟨rfl, N101q, K101, b101, g101, y101, A101, F101_value, F101_coder, V101⟩ := Q101
  have z101 := K101.1
  have N101 := Fr.app N0 N101q
  refine own_st st101 ?_
  show own_Goes p e below s _ _ (T101.setTop (mkF m 9 #[rv a1, rv a2] []))
  exact own_ret0 X101 hx hlk hret (hb hby own_d2_9) (by decide) (by decide) ⟨rfl, N101, ((Keep.refl h0 [a1]).trans K101 (allS (Or.inl (by simp)) all0)), b101, by omega, by omega, A101, F101_value, F101_coder, V101⟩
theorem own_d3_8 : decode jdk_42_method_149_code 8 = .ok (.aload_n 0, 1) := by decide +kernel
theorem own_d3_9 : decode jdk_42_method_149_code 9 = .ok (.ldc 7, 2) := by decide +kernel
theorem own_d3_11 : decode jdk_42_method_149_code 11 = .ok (.getfield 9, 3) := by decide +kernel
theorem own_d3_14 : decode jdk_42_method_149_code 14 = .ok (.putfield 9, 3) := by decide +kernel
theorem own_d3_17 : decode jdk_42_method_149_code 17 = .ok (.aload_n 0, 1) := by decide +kernel
theorem own_d3_18 : decode jdk_42_method_149_code 18 = .ok (.ldc 7, 2) := by decide +kernel
theorem own_d3_20 : decode jdk_42_method_149_code 20 = .ok (.getfield 15, 3) := by decide +kernel
theorem own_d3_23 : decode jdk_42_method_149_code 23 = .ok (.putfield 15, 3) := by decide +kernel
theorem own_d3_26 : decode jdk_42_method_149_code 26 = .ok (.return_, 1) := by decide +kernel
theorem own_ef_rmSI0 (m : MethodId) (a1 : Nat) (a2 : Nat) : entryFrame m #[(.ref a1), (.ref a2), (.int (0 : Int32)), (.int (0 : Int32)), .null] 6 = mkF m 0 #[rv a1, rv a2, iv (0 : Int32), iv (0 : Int32), .val .null, .unset] [] := by first | (simp [entryFrame, mkF, argsToLocals, Value.category, maxLocals]; done) | rfl
abbrev own_Q_rmSI0 (Z : State) (a1 : Nat) (a2 : Nat) (u2 : Value) (h0 : Heap) (n0 : Nat) (v : Option Value) (h : Heap) (vm : Vm) (L : List Loc) : Prop := v = none ∧ Fr n0 L ∧ Keep h0 h [a1] ∧ own_E Z h vm ∧ ∃ b : Nat, b < h.size ∧ ¬ b = a1 ∧ Exa Z h a1 "java/lang/String" ∧ Fld Z h a1 "java/lang/String" "value" "[B" (.ref b) ∧ Fld Z h a1 "java/lang/String" "coder" "B" (.int (0 : Int32)) ∧ own_Arf Z h b .byte 0 (fun k => .int ((fun _ => (0 : Int32)) k))
set_option maxRecDepth 65536 in
set_option maxHeartbeats 40000000 in
theorem rmSI0 (l : Launch) (Z : State) (a0 : Array Value) (hw : ∀ d ∈ tables_1, d.before a0 Z = true) (ws : List Jvm.Cond) (a1 : Nat) (a2 : Nat) (u2 : Value) (h0 : Heap) (n0 : Nat) (Z0 : n0 ≤ h0.size) (E1 : Exa Z h0 a1 "java/lang/String") (F_value : Fld Z h0 a1 "java/lang/String" "value" "[B" .null) (F_coder : Fld Z h0 a1 "java/lang/String" "coder" "B" u2) (g1 : n0 ≤ a1) (HK : ∀ (b : Addr) (cl : Cell), Z.heap[b]? = some cl → h0[b]? = some cl) (CH : Jvm.Lit.constHeld Z "java/lang/String" 7) (CW : Jvm.Lit.compactW.before a0 Z = true) :
    MetFree l (⟨"java/lang/String", "<init>", "([CIILjava/lang/Void;)V"⟩ : MethodName) (head1 (Jvm.Cond.code (⟨"java/lang/String", "<init>", "([CIILjava/lang/Void;)V"⟩ : MethodName) jdk_42_method_149_code 6 none :: ws) ({ frames := 1, cells := 2, slots := 4, locals := 13 } : Room)) (fun a U => a = #[(.ref a1), (.ref a2), (.int (0 : Int32)), (.int (0 : Int32)), .null] ∧ Z.Warmed39 U.vm ∧ U.heap = h0 ∧ own_E Z h0 U.vm) (fun _ _ _ _ _ => True) (fun _ U o U' => ∃ v L, o = .returned v ∧ own_Q_rmSI0 Z a1 a2 u2 h0 n0 v U'.heap U'.vm L ∧ ReturnedEndW U o U' L ({ frames := 1, cells := 2, slots := 4, locals := 13 } : Room).cells ({ frames := 1, cells := 2, slots := 4, locals := 13 } : Room).slots) := by
  refine own_enterW (Q := fun v h vm L => own_Q_rmSI0 Z a1 a2 u2 h0 n0 v h vm L) (F := fun m => mkF m 0 #[rv a1, rv a2, iv (0 : Int32), iv (0 : Int32), .val .null, .unset] []) (Pv := fun vm => own_E Z h0 vm) own_pn3 (fun m => own_ef_rmSI0 m a1 a2) ?_
  intro p e s vm0 m below meth c T X hS hx hby hml hret hlk hnm hown hZ e0 hh0 F0
  show own_GoesW p e below s _ _ (T.setTop (mkF m 0 #[rv a1, rv a2, iv (0 : Int32), iv (0 : Int32), .val .null, .unset] []))
  have N0 := Fr.nil n0
  refine own_stW (fun _ k => XS.aloadN X.here hx rfl (hb hby own_d3_0) rfl rfl  k) ?_
  show own_GoesW p e below s _ _ (T.setTop (mkF m 1 #[rv a1, rv a2, iv (0 : Int32), iv (0 : Int32), .val .null, .unset] [(.ref a1)]))
  obtain ⟨T101, X101, e101, st101⟩ := initO X hx hZ hown (hw _ (List.mem_of_getElem? (i := 18) rfl)) (hw _ (List.mem_of_getElem? (i := 19) rfl)) (hw _ (List.mem_of_getElem? (i := 20) rfl)) e0 (g := (mkF m 1 #[rv a1, rv a2, iv (0 : Int32), iv (0 : Int32), .val .null, .unset] [(.ref a1)])) rfl (by rw [hml]; rfl) rfl (hb hby own_d3_1) (by decide) (W := 0) (by show 2 * 0 + _ ≤ _; exact Nat.le_of_eq rfl) (by decide)
  refine own_stW st101 ?_
  show own_GoesW p e below s _ _ (T101.setTop (mkF m 4 #[rv a1, rv a2, iv (0 : Int32), iv (0 : Int32), .val .null, .unset] []))
  refine own_stW (fun _ k => XS.iloadN X101.here hx rfl (hb hby own_d3_4) rfl  k) ?_
  show own_GoesW p e below s _ _ (T101.setTop (mkF m 5 #[rv a1, rv a2, iv (0 : Int32), iv (0 : Int32), .val .null, .unset] [(.int (0 : Int32))]))
  refine own_stW (fun _ k => XS.ifNo X101.here hx rfl (hb hby own_d3_5) rfl ((if0 _ _).trans (teq (by decide : (0 : Int32) = (0 : Int32))).2) k) ?_
  show own_GoesW p e below s _ _ (T101.setTop (mkF m 8 #[rv a1, rv a2, iv (0 : Int32), iv (0 : Int32), .val .null, .unset] []))
  refine own_stW (fun _ k => XS.aloadN X101.here hx rfl (hb hby own_d3_8) rfl rfl  k) ?_
  show own_GoesW p e below s _ _ (T101.setTop (mkF m 9 #[rv a1, rv a2, iv (0 : Int32), iv (0 : Int32), .val .null, .unset] [(.ref a1)]))
  obtain ⟨ca, cb, T102, h102, vm102, k102, X102, e102, E102, hS, hk102, hZ, hown, hL, A102, Fc102, Fv102, V102, st102⟩ := own_ldcE X101 hx hZ hown (hw _ (List.mem_of_getElem? (i := 21) rfl)) (own_wS hw) e101 hS (Nat.zero_le _) (Fr.nil _) (by rw [hh0]; exact HK) F0 CH CW (g := (mkF m 9 #[rv a1, rv a2, iv (0 : Int32), iv (0 : Int32), .val .null, .unset] [(.ref a1)])) rfl (hb hby own_d3_9) (by decide) (by decide)
  have z102 := E102.1
  have P102 := own_P_new (E1.ext E102) (F_value.ext E102) (hw _ (List.mem_of_getElem? (i := 8) rfl))
  have y102 := own_lt A102.lt
  have yb102 := own_lt V102.lt
  have hne1 : ¬ @Eq Nat ca a1 := P102.1 ca cb A102 Fv102
  have hne2 : ¬ @Eq Nat cb a1 := by obtain ⟨cl, Ac, -⟩ := id V102; exact P102.2 cb cl Ac
  refine own_stW st102 ?_
  show own_GoesW p e below s _ _ (T102.setTop (mkF m 11 #[rv a1, rv a2, iv (0 : Int32), iv (0 : Int32), .val .null, .unset] [(.ref ca), (.ref a1)]))
  obtain ⟨T103, X103, e103, st103⟩ := getF X102 hx hZ hown (host := "") (Or.inl (hw _ (List.mem_of_getElem? (i := 27) rfl))) Via.refl e102 Fv102 (g := (mkF m 11 #[rv a1, rv a2, iv (0 : Int32), iv (0 : Int32), .val .null, .unset] [(.ref ca), (.ref a1)])) rfl rfl (hb hby own_d3_11)
  refine own_stW st103 ?_
  show own_GoesW p e below s _ _ (T103.setTop (mkF m 14 #[rv a1, rv a2, iv (0 : Int32), iv (0 : Int32), .val .null, .unset] [(.ref cb), (.ref a1)]))
  have f104 := (F_value.ext E102)
  have f105 := (E1.ext E102)
  obtain ⟨T106, h106, X106, e106, W106, st106⟩ := putF X103 hx hZ hown (host := "") (Or.inl (hw _ (List.mem_of_getElem? (i := 27) rfl))) Via.refl e103 f104 f105 (Or.inr ⟨(hw _ (List.mem_of_getElem? (i := 23) rfl)), rfl, hnm⟩) (hw _ (List.mem_of_getElem? (i := 8) rfl)) (ty := (.array .byte)) (by decide) rfl rfl (g := (mkF m 14 #[rv a1, rv a2, iv (0 : Int32), iv (0 : Int32), .val .null, .unset] [(.ref cb), (.ref a1)])) rfl rfl (hb hby own_d3_14)
  have z106 := W106.size
  have N106 := Fr.snoc X106 N0 (by omega)
  have F106 := f104.same W106
  refine own_stW st106 ?_
  show own_GoesW p e below s _ _ (T106.setTop (mkF m 17 #[rv a1, rv a2, iv (0 : Int32), iv (0 : Int32), .val .null, .unset] []))
  refine own_stW (fun _ k => XS.aloadN X106.here hx rfl (hb hby own_d3_17) rfl rfl  k) ?_
  show own_GoesW p e below s _ _ (T106.setTop (mkF m 18 #[rv a1, rv a2, iv (0 : Int32), iv (0 : Int32), .val .null, .unset] [(.ref a1)]))
  refine own_stW (ldcAgain X106 hx hZ hown (hw _ (List.mem_of_getElem? (i := 21) rfl)) hL (g := (mkF m 18 #[rv a1, rv a2, iv (0 : Int32), iv (0 : Int32), .val .null, .unset] [(.ref a1)])) rfl (hb hby own_d3_18)) ?_
  show own_GoesW p e below s _ _ (T106.setTop (mkF m 20 #[rv a1, rv a2, iv (0 : Int32), iv (0 : Int32), .val .null, .unset] [(.ref ca), (.ref a1)]))
  have f107 := (Fc102.other W106 (Or.inl (own_ne (by omega))))
  obtain ⟨T108, X108, e108, st108⟩ := getF X106 hx hZ hown (host := "") (Or.inl (hw _ (List.mem_of_getElem? (i := 28) rfl))) Via.refl e106 f107 (g := (mkF m 20 #[rv a1, rv a2, iv (0 : Int32), iv (0 : Int32), .val .null, .unset] [(.ref ca), (.ref a1)])) rfl rfl (hb hby own_d3_20)
  refine own_stW st108 ?_
  show own_GoesW p e below s _ _ (T108.setTop (mkF m 23 #[rv a1, rv a2, iv (0 : Int32), iv (0 : Int32), .val .null, .unset] [(.int (0 : Int32)), (.ref a1)]))
  have f109 := ((F_coder.ext E102).other W106 (Or.inr (slot_ne (Or.inr (hw _ (List.mem_of_getElem? (i := 24) rfl))) (Or.inr (hw _ (List.mem_of_getElem? (i := 23) rfl))) (by decide) (t := .byte) (t' := (.array .byte)) (by decide) (by decide))))
  have f110 := (f105.wr W106)
  obtain ⟨T111, h111, X111, e111, W111, st111⟩ := putFN X108 hx hZ hown (hw _ (List.mem_of_getElem? (i := 28) rfl)) Via.refl e108 f109 f110 (Or.inr ⟨(hw _ (List.mem_of_getElem? (i := 24) rfl)), rfl, hnm⟩) (hw _ (List.mem_of_getElem? (i := 8) rfl)) (ty := .byte) (v' := (.int (nar .byte (0 : Int32)))) (by decide) rfl (fits_nar_byte _) (g := (mkF m 23 #[rv a1, rv a2, iv (0 : Int32), iv (0 : Int32), .val .null, .unset] [(.int (0 : Int32)), (.ref a1)])) rfl rfl (hb hby own_d3_23)
  have z111 := W111.size
  have N111 := Fr.snoc X111 N106 (by omega)
  have F111 := f109.same W111
  refine own_stW st111 ?_
  show own_GoesW p e below s _ _ (T111.setTop (mkF m 26 #[rv a1, rv a2, iv (0 : Int32), iv (0 : Int32), .val .null, .unset] []))
  have f112 := ((A102.wr W106).wr W111)
  have f113 := (f107.other W111 (Or.inl (own_ne (by omega))))
  have f114 := ((Fv102.other W106 (Or.inl (own_ne (by omega)))).other W111 (Or.inl (own_ne (by omega))))
  have f115 := ((V102.other W106 (own_ne (by omega))).other W111 (own_ne (by omega)))
  have f116 := (f110.wr W111)
  have f117 := (F106.other W111 (Or.inr (slot_ne (Or.inr (hw _ (List.mem_of_getElem? (i := 23) rfl))) (Or.inr (hw _ (List.mem_of_getElem? (i := 24) rfl))) (by decide) (t := (.array .byte)) (t' := .byte) (by decide) (by decide))))
  exact own_ret0W X111 hx hS (by rw [e111]; omega) hlk hret (hb hby own_d3_26) (by decide) (by decide) ⟨rfl, N111, by rw [e111]; exact ((((Keep.refl h0 [a1]).ext E102).wr W106 (Or.inl (by simp))).wr W111 (Or.inl (by simp))), by rw [e111]; exact own_E.top (Or.inr ⟨ca, cb, hL, f112, f113, f114, f115⟩) X111.warmed, cb, by rw [e111]; omega, hne2, by rw [e111]; exact f116, by rw [e111]; exact f117, by rw [e111]; exact F111, by rw [e111]; exact f115⟩
theorem own_ef_rmS0 (m : MethodId) (a1 : Nat) (a2 : Nat) : entryFrame m #[(.ref a1), (.ref a2)] 2 = mkF m 0 #[rv a1, rv a2] [] := by first | (simp [entryFrame, mkF, argsToLocals, Value.category, maxLocals]; done) | rfl
abbrev own_Q_rmS0 (Z : State) (a1 : Nat) (a2 : Nat) (u2 : Value) (h0 : Heap) (n0 : Nat) (v : Option Value) (h : Heap) (vm : Vm) (L : List Loc) : Prop := v = none ∧ Fr n0 L ∧ Keep h0 h [a1] ∧ own_E Z h vm ∧ ∃ b : Nat, b < h.size ∧ ¬ b = a1 ∧ Exa Z h a1 "java/lang/String" ∧ Fld Z h a1 "java/lang/String" "value" "[B" (.ref b) ∧ Fld Z h a1 "java/lang/String" "coder" "B" (.int (0 : Int32)) ∧ own_Arf Z h b .byte 0 (fun k => .int ((fun _ => (0 : Int32)) k))
set_option maxRecDepth 65536 in
set_option maxHeartbeats 40000000 in
theorem rmS0 (l : Launch) (Z : State) (a0 : Array Value) (hw : ∀ d ∈ tables_1, d.before a0 Z = true) (ws : List Jvm.Cond) (a1 : Nat) (a2 : Nat) (u2 : Value) (h0 : Heap) (n0 : Nat) (Z0 : n0 ≤ h0.size) (E1 : Exa Z h0 a1 "java/lang/String") (F_value : Fld Z h0 a1 "java/lang/String" "value" "[B" .null) (F_coder : Fld Z h0 a1 "java/lang/String" "coder" "B" u2) (V2 : own_Arf Z h0 a2 .char 0 (fun k => .int ((fun _ => (0 : Int32)) k))) (g1 : n0 ≤ a1) (HK : ∀ (b : Addr) (cl : Cell), Z.heap[b]? = some cl → h0[b]? = some cl) (CH : Jvm.Lit.constHeld Z "java/lang/String" 7) (CW : Jvm.Lit.compactW.before a0 Z = true) :
    MetFree l (⟨"java/lang/String", "<init>", "([C)V"⟩ : MethodName) (head1 (Jvm.Cond.code (⟨"java/lang/String", "<init>", "([C)V"⟩ : MethodName) jdk_42_method_3_code 2 none :: ws) ({ frames := 2, cells := 2, slots := 4, locals := 31 } : Room)) (fun a U => a = #[(.ref a1), (.ref a2)] ∧ Z.Warmed39 U.vm ∧ U.heap = h0 ∧ own_E Z h0 U.vm) (fun _ _ _ _ _ => True) (fun _ U o U' => ∃ v L, o = .returned v ∧ own_Q_rmS0 Z a1 a2 u2 h0 n0 v U'.heap U'.vm L ∧ ReturnedEndW U o U' L ({ frames := 2, cells := 2, slots := 4, locals := 31 } : Room).cells ({ frames := 2, cells := 2, slots := 4, locals := 31 } : Room).slots) := by
  refine own_enterW (Q := fun v h vm L => own_Q_rmS0 Z a1 a2 u2 h0 n0 v h vm L) (F := fun m => mkF m 0 #[rv a1, rv a2] []) (Pv := fun vm => own_E Z h0 vm) own_pn4 (fun m => own_ef_rmS0 m a1 a2) ?_
  intro p e s vm0 m below meth c T X hS hx hby hml hret hlk hnm hown hZ e0 hh0 F0
  show own_GoesW p e below s _ _ (T.setTop (mkF m 0 #[rv a1, rv a2] []))
  have N0 := Fr.nil n0
  refine own_stW (fun _ k => XS.aloadN X.here hx rfl (hb hby own_d2_0) rfl rfl  k) ?_
  show own_GoesW p e below s _ _ (T.setTop (mkF m 1 #[rv a1, rv a2] [(.ref a1)]))
  refine own_stW (fun _ k => XS.aloadN X.here hx rfl (hb hby own_d2_1) rfl rfl  k) ?_
  show own_GoesW p e below s _ _ (T.setTop (mkF m 2 #[rv a1, rv a2] [(.ref a2), (.ref a1)]))
  refine own_stW (fun _ k => XS.iconst X.here hx rfl (hb hby own_d2_2) k) ?_
  show own_GoesW p e below s _ _ (T.setTop (mkF m 3 #[rv a1, rv a2] [(.int (0 : Int32)), (.ref a2), (.ref a1)]))
  refine own_stW (fun _ k => XS.aloadN X.here hx rfl (hb hby own_d2_3) rfl rfl  k) ?_
  show own_GoesW p e below s _ _ (T.setTop (mkF m 4 #[rv a1, rv a2] [(.ref a2), (.int (0 : Int32)), (.ref a2), (.ref a1)]))
  refine own_stW (fun _ k => own_len X hx hZ e0 V2 (g := (mkF m 4 #[rv a1, rv a2] [(.ref a2), (.int (0 : Int32)), (.ref a2), (.ref a1)])) rfl rfl (hb hby own_d2_4) _ k) ?_
  show own_GoesW p e below s _ _ (T.setTop (mkF m 5 #[rv a1, rv a2] [(.int (0 : Int32)), (.int (0 : Int32)), (.ref a2), (.ref a1)]))
  refine own_stW (fun _ k => XS.aconstNull X.here hx rfl (hb hby own_d2_5) k) ?_
  show own_GoesW p e below s _ _ (T.setTop (mkF m 6 #[rv a1, rv a2] [.null, (.int (0 : Int32)), (.int (0 : Int32)), (.ref a2), (.ref a1)]))
  obtain ⟨v101, T101, L101, vm101, k101, X101, hS, hk101, hZ, hown, Q101, st101⟩ := own_callIW X hS (by rw [e0]; omega) hx hZ (y := (⟨"java/lang/String", "<init>", "([CIILjava/lang/Void;)V"⟩ : MethodName)) hown (hw _ (List.mem_of_getElem? (i := 14) rfl)) (hw _ (List.mem_of_getElem? (i := 15) rfl)) (hw _ (List.mem_of_getElem? (i := 9) rfl)) (hw _ (List.mem_of_getElem? (i := 17) rfl)) rfl (by decide) (W := 0) (rest := []) (argsL := [(.ref a2), (.int (0 : Int32)), (.int (0 : Int32)), .null]) (a := a1) (Pv := fun vm => own_E Z h0 vm) (rmSI0 l Z a0 hw [] a1 a2 _  h0 n0 (by omega) E1 F_value F_coder (by omega) HK CH CW) (fun _ q => own_E.top F0 q) (by decide) (by decide) (by decide) (by decide) e0 own_pd3 rfl (g := (mkF m 6 #[rv a1, rv a2] [.null, (.int (0 : Int32)), (.int (0 : Int32)), (.ref a2), (.ref a1)])) rfl (by rw [hml]; rfl) rfl (by show 2 * 0 + _ ≤ _; exact Nat.le_of_eq rfl) (hb hby own_d2_6)
  obtain ⟨rfl, N101q, K101, F101E, b101, y101, ne101, A101, F101_value, F101_coder, V101⟩ := Q101
  have z101 := K101.1
  have N101 := Fr.app N0 N101q
  refine own_stW st101 ?_
  show own_GoesW p e below s _ _ (T101.setTop (mkF m 9 #[rv a1, rv a2] []))
  exact own_ret0W X101 hx hS (by omega) hlk hret (hb hby own_d2_9) (by decide) (by decide) ⟨rfl, N101, ((Keep.refl h0 [a1]).trans K101 (allS (Or.inl (by simp)) all0)), own_E.top F101E X101.warmed, b101, by omega, ne101, A101, F101_value, F101_coder, V101⟩
theorem own_pn5 : plainFor (⟨"com/example/brigid/brigid/trustcenter/Identifier", "<init>", "(Ljava/lang/String;Ljava/lang/String;)V"⟩ : MethodName) = true := by first | exact plainFor_of_name (by simp [plainName, overriddenIn]; done) | decide +kernel
theorem own_d8_0 : decode prog_13_method_1_code 0 = .ok (.aload_n 0, 1) := by decide +kernel
theorem own_d8_1 : decode prog_13_method_1_code 1 = .ok (.invokespecial 1, 3) := by decide +kernel
theorem own_d8_4 : decode prog_13_method_1_code 4 = .ok (.aload_n 0, 1) := by decide +kernel
theorem own_d8_5 : decode prog_13_method_1_code 5 = .ok (.aload_n 1, 1) := by decide +kernel
theorem own_d8_6 : decode prog_13_method_1_code 6 = .ok (.putfield 7, 3) := by decide +kernel
theorem own_d8_9 : decode prog_13_method_1_code 9 = .ok (.aload_n 0, 1) := by decide +kernel
theorem own_d8_10 : decode prog_13_method_1_code 10 = .ok (.aload_n 2, 1) := by decide +kernel
theorem own_d8_11 : decode prog_13_method_1_code 11 = .ok (.putfield 13, 3) := by decide +kernel
theorem own_d8_14 : decode prog_13_method_1_code 14 = .ok (.return_, 1) := by decide +kernel
theorem own_ef_rmId (m : MethodId) (a1 : Nat) (a2 : Nat) (a3 : Nat) : entryFrame m #[(.ref a1), (.ref a2), (.ref a3)] 3 = mkF m 0 #[rv a1, rv a2, rv a3] [] := by first | (simp [entryFrame, mkF, argsToLocals, Value.category, maxLocals]; done) | rfl
abbrev own_Q_rmId (Z : State) (a1 : Nat) (a2 : Nat) (a3 : Nat) (u_domain : Value) (u_id : Value) (h0 : Heap) (n0 : Nat) (v : Option Value) (h : Heap) (L : List Loc) : Prop := v = none ∧ Fr n0 L ∧ Keep h0 h [a1] ∧ Exa Z h a1 "com/example/brigid/brigid/trustcenter/Identifier" ∧ Fld Z h a1 "com/example/brigid/brigid/trustcenter/Identifier" "domain" "Ljava/lang/String;" (.ref a2) ∧ Fld Z h a1 "com/example/brigid/brigid/trustcenter/Identifier" "id" "Ljava/lang/String;" (.ref a3)
set_option maxRecDepth 65536 in
set_option maxHeartbeats 40000000 in
theorem rmId (l : Launch) (Z : State) (a0 : Array Value) (hw : ∀ d ∈ tables_1, d.before a0 Z = true) (ws : List Jvm.Cond) (a1 : Nat) (a2 : Nat) (a3 : Nat) (u_domain : Value) (u_id : Value) (h0 : Heap) (n0 : Nat) (Z0 : n0 ≤ h0.size) (E1 : Exa Z h0 a1 "com/example/brigid/brigid/trustcenter/Identifier") (F_domain : Fld Z h0 a1 "com/example/brigid/brigid/trustcenter/Identifier" "domain" "Ljava/lang/String;" u_domain) (F_id : Fld Z h0 a1 "com/example/brigid/brigid/trustcenter/Identifier" "id" "Ljava/lang/String;" u_id) (g1 : n0 ≤ a1) :
    MetFree l (⟨"com/example/brigid/brigid/trustcenter/Identifier", "<init>", "(Ljava/lang/String;Ljava/lang/String;)V"⟩ : MethodName) (head1 (Jvm.Cond.code (⟨"com/example/brigid/brigid/trustcenter/Identifier", "<init>", "(Ljava/lang/String;Ljava/lang/String;)V"⟩ : MethodName) prog_13_method_1_code 3 none :: ws) ({ frames := 1, cells := 0, slots := 0, locals := 12 } : Room)) (fun a U => a = #[(.ref a1), (.ref a2), (.ref a3)] ∧ Z.Warmed39 U.vm ∧ U.heap = h0) (fun _ _ _ _ _ => True) (fun _ U o U' => ∃ v L, o = .returned v ∧ own_Q_rmId Z a1 a2 a3 u_domain u_id h0 n0 v U'.heap L ∧ FrameEnd U o U' L ({ frames := 1, cells := 0, slots := 0, locals := 12 } : Room).cells ({ frames := 1, cells := 0, slots := 0, locals := 12 } : Room).slots) := by
  refine own_enter (Q := fun v h L => own_Q_rmId Z a1 a2 a3 u_domain u_id h0 n0 v h L) (F := fun m => mkF m 0 #[rv a1, rv a2, rv a3] []) own_pn5 (fun m => own_ef_rmId m a1 a2 a3) ?_
  intro p e s m below meth c T X hx hby hml hret hlk hnm hown hZ e0
  show own_Goes p e below s _ _ (T.setTop (mkF m 0 #[rv a1, rv a2, rv a3] []))
  have N0 := Fr.nil n0
  refine own_st (fun _ k => XS.aloadN X.here hx rfl (hb hby own_d8_0) rfl rfl  k) ?_
  show own_Goes p e below s _ _ (T.setTop (mkF m 1 #[rv a1, rv a2, rv a3] [(.ref a1)]))
  obtain ⟨T101, X101, e101, st101⟩ := initO X hx hZ hown (hw _ (List.mem_of_getElem? (i := 43) rfl)) (hw _ (List.mem_of_getElem? (i := 19) rfl)) (hw _ (List.mem_of_getElem? (i := 20) rfl)) e0 (g := (mkF m 1 #[rv a1, rv a2, rv a3] [(.ref a1)])) rfl (by rw [hml]; rfl) rfl (hb hby own_d8_1) (by decide) (W := 0) (by show 2 * 0 + _ ≤ _; exact Nat.le_of_eq rfl) (by decide)
  refine own_st st101 ?_
  show own_Goes p e below s _ _ (T101.setTop (mkF m 4 #[rv a1, rv a2, rv a3] []))
  refine own_st (fun _ k => XS.aloadN X101.here hx rfl (hb hby own_d8_4) rfl rfl  k) ?_
  show own_Goes p e below s _ _ (T101.setTop (mkF m 5 #[rv a1, rv a2, rv a3] [(.ref a1)]))
  refine own_st (fun _ k => XS.aloadN X101.here hx rfl (hb hby own_d8_5) rfl rfl  k) ?_
  show own_Goes p e below s _ _ (T101.setTop (mkF m 6 #[rv a1, rv a2, rv a3] [(.ref a2), (.ref a1)]))
  obtain ⟨T102, h102, X102, e102, W102, st102⟩ := putF X101 hx hZ hown (host := "") (Or.inl (hw _ (List.mem_of_getElem? (i := 44) rfl))) Via.refl e101 F_domain E1 (Or.inr ⟨(hw _ (List.mem_of_getElem? (i := 45) rfl)), rfl, hnm⟩) (hw _ (List.mem_of_getElem? (i := 1) rfl)) (ty := (.object "java/lang/String")) (by decide) rfl rfl (g := (mkF m 6 #[rv a1, rv a2, rv a3] [(.ref a2), (.ref a1)])) rfl rfl (hb hby own_d8_6)
  have z102 := W102.size
  have N102 := Fr.snoc X102 N0 (by omega)
  have F102 := F_domain.same W102
  refine own_st st102 ?_
  show own_Goes p e below s _ _ (T102.setTop (mkF m 9 #[rv a1, rv a2, rv a3] []))
  refine own_st (fun _ k => XS.aloadN X102.here hx rfl (hb hby own_d8_9) rfl rfl  k) ?_
  show own_Goes p e below s _ _ (T102.setTop (mkF m 10 #[rv a1, rv a2, rv a3] [(.ref a1)]))
  refine own_st (fun _ k => XS.aloadN X102.here hx rfl (hb hby own_d8_10) rfl rfl  k) ?_
  show own_Goes p e below s _ _ (T102.setTop (mkF m 11 #[rv a1, rv a2, rv a3] [(.ref a3), (.ref a1)]))
  have f103 := (F_id.other W102 (Or.inr (slot_ne (Or.inr (hw _ (List.mem_of_getElem? (i := 47) rfl))) (Or.inr (hw _ (List.mem_of_getElem? (i := 45) rfl))) (by decide) (t := (.object "java/lang/String")) (t' := (.object "java/lang/String")) (by decide) (by decide))))
  have f104 := (E1.wr W102)
  obtain ⟨T105, h105, X105, e105, W105, st105⟩ := putF X102 hx hZ hown (host := "") (Or.inl (hw _ (List.mem_of_getElem? (i := 46) rfl))) Via.refl e102 f103 f104 (Or.inr ⟨(hw _ (List.mem_of_getElem? (i := 47) rfl)), rfl, hnm⟩) (hw _ (List.mem_of_getElem? (i := 1) rfl)) (ty := (.object "java/lang/String")) (by decide) rfl rfl (g := (mkF m 11 #[rv a1, rv a2, rv a3] [(.ref a3), (.ref a1)])) rfl rfl (hb hby own_d8_11)
  have z105 := W105.size
  have N105 := Fr.snoc X105 N102 (by omega)
  have F105 := f103.same W105
  refine own_st st105 ?_
  show own_Goes p e below s _ _ (T105.setTop (mkF m 14 #[rv a1, rv a2, rv a3] []))
  have f106 := (f104.wr W105)
  have f107 := (F102.other W105 (Or.inr (slot_ne (Or.inr (hw _ (List.mem_of_getElem? (i := 45) rfl))) (Or.inr (hw _ (List.mem_of_getElem? (i := 47) rfl))) (by decide) (t := (.object "java/lang/String")) (t' := (.object "java/lang/String")) (by decide) (by decide))))
  exact own_ret0 X105 hx hlk hret (hb hby own_d8_14) (by decide) (by decide) ⟨rfl, N105, by rw [e105]; exact (((Keep.refl h0 [a1]).wr W102 (Or.inl (by simp))).wr W105 (Or.inl (by simp))), by rw [e105]; exact f106, by rw [e105]; exact f107, by rw [e105]; exact F105⟩
theorem own_pn6 : plainFor (⟨"com/example/brigid/brigid/trustcenter/IdentifierEqualsPinLaw", "str", "(I)Ljava/lang/String;"⟩ : MethodName) = true := by first | exact plainFor_of_name (by simp [plainName, overriddenIn]; done) | decide +kernel
theorem own_d1_0 : decode method_3_code 0 = .ok (.iload_n 0, 1) := by decide +kernel
theorem own_d1_1 : decode method_3_code 1 = .ok (.iconst 3, 1) := by decide +kernel
theorem own_d1_2 : decode method_3_code 2 = .ok (.iand, 1) := by decide +kernel
theorem own_d1_3 : decode method_3_code 3 = .ok (.istore_n 1, 1) := by decide +kernel
theorem own_d1_4 : decode method_3_code 4 = .ok (.iload_n 0, 1) := by decide +kernel
theorem own_d1_5 : decode method_3_code 5 = .ok (.iconst 2, 1) := by decide +kernel
theorem own_d1_6 : decode method_3_code 6 = .ok (.iushr, 1) := by decide +kernel
theorem own_d1_7 : decode method_3_code 7 = .ok (.sipush 255, 3) := by decide +kernel
theorem own_d1_10 : decode method_3_code 10 = .ok (.iand, 1) := by decide +kernel
theorem own_d1_11 : decode method_3_code 11 = .ok (.i2c, 1) := by decide +kernel
theorem own_d1_12 : decode method_3_code 12 = .ok (.istore_n 2, 1) := by decide +kernel
theorem own_d1_13 : decode method_3_code 13 = .ok (.iload_n 0, 1) := by decide +kernel
theorem own_d1_14 : decode method_3_code 14 = .ok (.bipush 10, 2) := by decide +kernel
theorem own_d1_16 : decode method_3_code 16 = .ok (.iushr, 1) := by decide +kernel
theorem own_d1_17 : decode method_3_code 17 = .ok (.sipush 255, 3) := by decide +kernel
theorem own_d1_20 : decode method_3_code 20 = .ok (.iand, 1) := by decide +kernel
theorem own_d1_21 : decode method_3_code 21 = .ok (.i2c, 1) := by decide +kernel
theorem own_d1_22 : decode method_3_code 22 = .ok (.istore_n 3, 1) := by decide +kernel
theorem own_d1_23 : decode method_3_code 23 = .ok (.iload_n 0, 1) := by decide +kernel
theorem own_d1_24 : decode method_3_code 24 = .ok (.bipush 18, 2) := by decide +kernel
theorem own_d1_26 : decode method_3_code 26 = .ok (.iushr, 1) := by decide +kernel
theorem own_d1_27 : decode method_3_code 27 = .ok (.sipush 255, 3) := by decide +kernel
theorem own_d1_30 : decode method_3_code 30 = .ok (.iand, 1) := by decide +kernel
theorem own_d1_31 : decode method_3_code 31 = .ok (.i2c, 1) := by decide +kernel
theorem own_d1_32 : decode method_3_code 32 = .ok (.istore 4, 2) := by decide +kernel
theorem own_d1_34 : decode method_3_code 34 = .ok (.iload_n 1, 1) := by decide +kernel
theorem own_d1_35 : decode method_3_code 35 = .ok (.ifCond .ne 14, 3) := by decide +kernel
theorem own_d1_38 : decode method_3_code 38 = .ok (.new 26, 3) := by decide +kernel
theorem own_d1_41 : decode method_3_code 41 = .ok (.dup, 1) := by decide +kernel
theorem own_d1_42 : decode method_3_code 42 = .ok (.iconst 0, 1) := by decide +kernel
theorem own_d1_43 : decode method_3_code 43 = .ok (.newarray .char, 2) := by decide +kernel
theorem own_d1_45 : decode method_3_code 45 = .ok (.invokespecial 28, 3) := by decide +kernel
theorem own_pd4 : parseMethodDescriptor "([C)V" = some ⟨[(.array .char)], none⟩ := by decide +kernel
theorem own_d1_48 : decode method_3_code 48 = .ok (.areturn, 1) := by decide +kernel
theorem own_d1_49 : decode method_3_code 49 = .ok (.iload_n 1, 1) := by decide +kernel
theorem own_d1_50 : decode method_3_code 50 = .ok (.iconst 1, 1) := by decide +kernel
theorem own_d1_51 : decode method_3_code 51 = .ok (.if_icmp .ne 18, 3) := by decide +kernel
theorem own_d1_54 : decode method_3_code 54 = .ok (.new 26, 3) := by decide +kernel
theorem own_d1_57 : decode method_3_code 57 = .ok (.dup, 1) := by decide +kernel
theorem own_d1_58 : decode method_3_code 58 = .ok (.iconst 1, 1) := by decide +kernel
theorem own_d1_59 : decode method_3_code 59 = .ok (.newarray .char, 2) := by decide +kernel
theorem own_d1_61 : decode method_3_code 61 = .ok (.dup, 1) := by decide +kernel
theorem own_d1_62 : decode method_3_code 62 = .ok (.iconst 0, 1) := by decide +kernel
theorem own_d1_63 : decode method_3_code 63 = .ok (.iload_n 2, 1) := by decide +kernel
theorem own_d1_64 : decode method_3_code 64 = .ok (.castore, 1) := by decide +kernel
theorem own_d1_65 : decode method_3_code 65 = .ok (.invokespecial 28, 3) := by decide +kernel
theorem own_d1_68 : decode method_3_code 68 = .ok (.areturn, 1) := by decide +kernel
theorem own_d1_69 : decode method_3_code 69 = .ok (.iload_n 1, 1) := by decide +kernel
theorem own_d1_70 : decode method_3_code 70 = .ok (.iconst 2, 1) := by decide +kernel
theorem own_d1_71 : decode method_3_code 71 = .ok (.if_icmp .ne 22, 3) := by decide +kernel
theorem own_d1_74 : decode method_3_code 74 = .ok (.new 26, 3) := by decide +kernel
theorem own_d1_77 : decode method_3_code 77 = .ok (.dup, 1) := by decide +kernel
theorem own_d1_78 : decode method_3_code 78 = .ok (.iconst 2, 1) := by decide +kernel
theorem own_d1_79 : decode method_3_code 79 = .ok (.newarray .char, 2) := by decide +kernel
theorem own_d1_81 : decode method_3_code 81 = .ok (.dup, 1) := by decide +kernel
theorem own_d1_82 : decode method_3_code 82 = .ok (.iconst 0, 1) := by decide +kernel
theorem own_d1_83 : decode method_3_code 83 = .ok (.iload_n 2, 1) := by decide +kernel
theorem own_d1_84 : decode method_3_code 84 = .ok (.castore, 1) := by decide +kernel
theorem own_d1_85 : decode method_3_code 85 = .ok (.dup, 1) := by decide +kernel
theorem own_d1_86 : decode method_3_code 86 = .ok (.iconst 1, 1) := by decide +kernel
theorem own_d1_87 : decode method_3_code 87 = .ok (.iload_n 3, 1) := by decide +kernel
theorem own_d1_88 : decode method_3_code 88 = .ok (.castore, 1) := by decide +kernel
theorem own_d1_89 : decode method_3_code 89 = .ok (.invokespecial 28, 3) := by decide +kernel
theorem own_d1_92 : decode method_3_code 92 = .ok (.areturn, 1) := by decide +kernel
theorem own_d1_93 : decode method_3_code 93 = .ok (.new 26, 3) := by decide +kernel
theorem own_d1_96 : decode method_3_code 96 = .ok (.dup, 1) := by decide +kernel
theorem own_d1_97 : decode method_3_code 97 = .ok (.iconst 3, 1) := by decide +kernel
theorem own_d1_98 : decode method_3_code 98 = .ok (.newarray .char, 2) := by decide +kernel
theorem own_d1_100 : decode method_3_code 100 = .ok (.dup, 1) := by decide +kernel
theorem own_d1_101 : decode method_3_code 101 = .ok (.iconst 0, 1) := by decide +kernel
theorem own_d1_102 : decode method_3_code 102 = .ok (.iload_n 2, 1) := by decide +kernel
theorem own_d1_103 : decode method_3_code 103 = .ok (.castore, 1) := by decide +kernel
theorem own_d1_104 : decode method_3_code 104 = .ok (.dup, 1) := by decide +kernel
theorem own_d1_105 : decode method_3_code 105 = .ok (.iconst 1, 1) := by decide +kernel
theorem own_d1_106 : decode method_3_code 106 = .ok (.iload_n 3, 1) := by decide +kernel
theorem own_d1_107 : decode method_3_code 107 = .ok (.castore, 1) := by decide +kernel
theorem own_d1_108 : decode method_3_code 108 = .ok (.dup, 1) := by decide +kernel
theorem own_d1_109 : decode method_3_code 109 = .ok (.iconst 2, 1) := by decide +kernel
theorem own_d1_110 : decode method_3_code 110 = .ok (.iload 4, 2) := by decide +kernel
theorem own_d1_112 : decode method_3_code 112 = .ok (.castore, 1) := by decide +kernel
theorem own_d1_113 : decode method_3_code 113 = .ok (.invokespecial 28, 3) := by decide +kernel
theorem own_d1_116 : decode method_3_code 116 = .ok (.areturn, 1) := by decide +kernel
theorem own_ef_rmStr (m : MethodId) (p0 : Int32) : entryFrame m #[(.int p0)] 5 = mkF m 0 #[iv p0, .unset, .unset, .unset, .unset] [] := by first | (simp [entryFrame, mkF, argsToLocals, Value.category, maxLocals]; done) | rfl
abbrev own_Q_rmStr (Z : State) (p0 : Int32) (cs : Int32) (h0 : Heap) (n0 : Nat) (v : Option Value) (h : Heap) (vm : Vm) (L : List Loc) : Prop := ∃ (a : Nat) (n : Nat) (g : Nat → Int32), v = some (.ref a) ∧ own_Str Z h a n g ∧ own_G p0 n g ∧ Fr n0 L ∧ Keep h0 h [] ∧ own_E Z h vm
set_option maxRecDepth 65536 in
set_option maxHeartbeats 40000000 in
theorem rmStr (l : Launch) (Z : State) (a0 : Array Value) (hw : ∀ d ∈ tables_1, d.before a0 Z = true) (ws : List Jvm.Cond) (p0 : Int32) (cs : Int32) (h0 : Heap) (n0 : Nat) (Z0 : n0 ≤ h0.size) (S1 : Sta Z h0 "java/lang/String" "COMPACT_STRINGS" "Z" (.int cs)) (hcs : ¬ cs = (0 : Int32)) (HK : ∀ (b : Addr) (cl : Cell), Z.heap[b]? = some cl → h0[b]? = some cl) (CH : Jvm.Lit.constHeld Z "java/lang/String" 7) (CW : Jvm.Lit.compactW.before a0 Z = true) :
    MetFree l (⟨"com/example/brigid/brigid/trustcenter/IdentifierEqualsPinLaw", "str", "(I)Ljava/lang/String;"⟩ : MethodName) (head1 (Jvm.Cond.code (⟨"com/example/brigid/brigid/trustcenter/IdentifierEqualsPinLaw", "str", "(I)Ljava/lang/String;"⟩ : MethodName) method_3_code 5 (some (.object "java/lang/String")) :: ws) ({ frames := 4, cells := 4, slots := 10, locals := 70 } : Room)) (fun a U => a = #[(.int p0)] ∧ Z.Warmed39 U.vm ∧ U.heap = h0 ∧ own_E Z h0 U.vm) (fun _ _ _ _ _ => True) (fun _ U o U' => ∃ v L, o = .returned v ∧ own_Q_rmStr Z p0 cs h0 n0 v U'.heap U'.vm L ∧ ReturnedEndW U o U' L ({ frames := 4, cells := 4, slots := 10, locals := 70 } : Room).cells ({ frames := 4, cells := 4, slots := 10, locals := 70 } : Room).slots) := by
  refine own_enterW (Q := fun v h vm L => own_Q_rmStr Z p0 cs h0 n0 v h vm L) (F := fun m => mkF m 0 #[iv p0, .unset, .unset, .unset, .unset] []) (Pv := fun vm => own_E Z h0 vm) own_pn6 (fun m => own_ef_rmStr m p0) ?_
  intro p e s vm0 m below meth c T X hS hx hby hml hret hlk hnm hown hZ e0 hh0 F0
  show own_GoesW p e below s _ _ (T.setTop (mkF m 0 #[iv p0, .unset, .unset, .unset, .unset] []))
  have N0 := Fr.nil n0
  refine own_stW (fun _ k => XS.iloadN X.here hx rfl (hb hby own_d1_0) rfl  k) ?_
  show own_GoesW p e below s _ _ (T.setTop (mkF m 1 #[iv p0, .unset, .unset, .unset, .unset] [(.int p0)]))
  refine own_stW (fun _ k => XS.iconst X.here hx rfl (hb hby own_d1_1) k) ?_
  show own_GoesW p e below s _ _ (T.setTop (mkF m 2 #[iv p0, .unset, .unset, .unset, .unset] [(.int (3 : Int32)), (.int p0)]))
  refine own_stW (fun _ k => XS.iand X.here hx rfl (hb hby own_d1_2) rfl k) ?_
  show own_GoesW p e below s _ _ (T.setTop (mkF m 3 #[iv p0, .unset, .unset, .unset, .unset] [(.int (p0 &&& (3 : Int32)))]))
  refine own_stW (fun _ k => XS.istoreN X.here hx rfl (hb hby own_d1_3) rfl (l' := #[iv p0, iv (p0 &&& (3 : Int32)), .unset, .unset, .unset]) rfl k) ?_
  show own_GoesW p e below s _ _ (T.setTop (mkF m 4 #[iv p0, iv (p0 &&& (3 : Int32)), .unset, .unset, .unset] []))
  have hk4n : (p0 &&& (3 : Int32)).toInt = own_U p0 % 4 := own_m3 p0
  have hk4 : (p0 &&& (3 : Int32)) = (0 : Int32) ∨ (p0 &&& (3 : Int32)) = (1 : Int32) ∨ (p0 &&& (3 : Int32)) = (2 : Int32) ∨ (p0 &&& (3 : Int32)) = (3 : Int32) := own_k4 p0
  generalize (p0 &&& (3 : Int32)) = k4 at hk4n hk4 ⊢
  rcases hk4 with rfl | rfl | rfl | rfl
  · show own_GoesW p e below s _ _ (T.setTop (mkF m 4 #[iv p0, iv (0 : Int32), .unset, .unset, .unset] []))
    refine own_stW (fun _ k => XS.iloadN X.here hx rfl (hb hby own_d1_4) rfl  k) ?_
    show own_GoesW p e below s _ _ (T.setTop (mkF m 5 #[iv p0, iv (0 : Int32), .unset, .unset, .unset] [(.int p0)]))
    refine own_stW (fun _ k => XS.iconst X.here hx rfl (hb hby own_d1_5) k) ?_
    show own_GoesW p e below s _ _ (T.setTop (mkF m 6 #[iv p0, iv (0 : Int32), .unset, .unset, .unset] [(.int (2 : Int32)), (.int p0)]))
    refine own_stW (fun _ k => XS.iushr X.here hx rfl (hb hby own_d1_6) rfl k) ?_
    show own_GoesW p e below s _ _ (T.setTop (mkF m 7 #[iv p0, iv (0 : Int32), .unset, .unset, .unset] [(.int ((p0.toUInt32 >>> ((2 : Int32) &&& 31).toUInt32).toInt32))]))
    refine own_stW (fun _ k => XS.sipush X.here hx rfl (hb hby own_d1_7) k) ?_
    show own_GoesW p e below s _ _ (T.setTop (mkF m 10 #[iv p0, iv (0 : Int32), .unset, .unset, .unset] [(.int (255 : Int32)), (.int ((p0.toUInt32 >>> ((2 : Int32) &&& 31).toUInt32).toInt32))]))
    refine own_stW (fun _ k => XS.iand X.here hx rfl (hb hby own_d1_10) rfl k) ?_
    show own_GoesW p e below s _ _ (T.setTop (mkF m 11 #[iv p0, iv (0 : Int32), .unset, .unset, .unset] [(.int (((p0.toUInt32 >>> ((2 : Int32) &&& 31).toUInt32).toInt32) &&& (255 : Int32)))]))
    refine own_stW (fun _ k => XS.i2c X.here hx rfl (hb hby own_d1_11) rfl k) ?_
    show own_GoesW p e below s _ _ (T.setTop (mkF m 12 #[iv p0, iv (0 : Int32), .unset, .unset, .unset] [(.int ((((p0.toUInt32 >>> ((2 : Int32) &&& 31).toUInt32).toInt32) &&& (255 : Int32)).toUInt32.toUInt16.toUInt32.toInt32))]))
    refine own_stW (fun _ k => XS.istoreN X.here hx rfl (hb hby own_d1_12) rfl (l' := #[iv p0, iv (0 : Int32), iv ((((p0.toUInt32 >>> ((2 : Int32) &&& 31).toUInt32).toInt32) &&& (255 : Int32)).toUInt32.toUInt16.toUInt32.toInt32), .unset, .unset]) rfl k) ?_
    show own_GoesW p e below s _ _ (T.setTop (mkF m 13 #[iv p0, iv (0 : Int32), iv ((((p0.toUInt32 >>> ((2 : Int32) &&& 31).toUInt32).toInt32) &&& (255 : Int32)).toUInt32.toUInt16.toUInt32.toInt32), .unset, .unset] []))
    refine own_stW (fun _ k => XS.iloadN X.here hx rfl (hb hby own_d1_13) rfl  k) ?_
    show own_GoesW p e below s _ _ (T.setTop (mkF m 14 #[iv p0, iv (0 : Int32), iv ((((p0.toUInt32 >>> ((2 : Int32) &&& 31).toUInt32).toInt32) &&& (255 : Int32)).toUInt32.toUInt16.toUInt32.toInt32), .unset, .unset] [(.int p0)]))
    refine own_stW (fun _ k => XS.bipush X.here hx rfl (hb hby own_d1_14) k) ?_
    show own_GoesW p e below s _ _ (T.setTop (mkF m 16 #[iv p0, iv (0 : Int32), iv ((((p0.toUInt32 >>> ((2 : Int32) &&& 31).toUInt32).toInt32) &&& (255 : Int32)).toUInt32.toUInt16.toUInt32.toInt32), .unset, .unset] [(.int (10 : Int32)), (.int p0)]))
    refine own_stW (fun _ k => XS.iushr X.here hx rfl (hb hby own_d1_16) rfl k) ?_
    show own_GoesW p e below s _ _ (T.setTop (mkF m 17 #[iv p0, iv (0 : Int32), iv ((((p0.toUInt32 >>> ((2 : Int32) &&& 31).toUInt32).toInt32) &&& (255 : Int32)).toUInt32.toUInt16.toUInt32.toInt32), .unset, .unset] [(.int ((p0.toUInt32 >>> ((10 : Int32) &&& 31).toUInt32).toInt32))]))
    refine own_stW (fun _ k => XS.sipush X.here hx rfl (hb hby own_d1_17) k) ?_
    show own_GoesW p e below s _ _ (T.setTop (mkF m 20 #[iv p0, iv (0 : Int32), iv ((((p0.toUInt32 >>> ((2 : Int32) &&& 31).toUInt32).toInt32) &&& (255 : Int32)).toUInt32.toUInt16.toUInt32.toInt32), .unset, .unset] [(.int (255 : Int32)), (.int ((p0.toUInt32 >>> ((10 : Int32) &&& 31).toUInt32).toInt32))]))
    refine own_stW (fun _ k => XS.iand X.here hx rfl (hb hby own_d1_20) rfl k) ?_
    show own_GoesW p e below s _ _ (T.setTop (mkF m 21 #[iv p0, iv (0 : Int32), iv ((((p0.toUInt32 >>> ((2 : Int32) &&& 31).toUInt32).toInt32) &&& (255 : Int32)).toUInt32.toUInt16.toUInt32.toInt32), .unset, .unset] [(.int (((p0.toUInt32 >>> ((10 : Int32) &&& 31).toUInt32).toInt32) &&& (255 : Int32)))]))
    refine own_stW (fun _ k => XS.i2c X.here hx rfl (hb hby own_d1_21) rfl k) ?_
    show own_GoesW p e below s _ _ (T.setTop (mkF m 22 #[iv p0, iv (0 : Int32), iv ((((p0.toUInt32 >>> ((2 : Int32) &&& 31).toUInt32).toInt32) &&& (255 : Int32)).toUInt32.toUInt16.toUInt32.toInt32), .unset, .unset] [(.int ((((p0.toUInt32 >>> ((10 : Int32) &&& 31).toUInt32).toInt32) &&& (255 : Int32)).toUInt32.toUInt16.toUInt32.toInt32))]))
    refine own_stW (fun _ k => XS.istoreN X.here hx rfl (hb hby own_d1_22) rfl (l' := #[iv p0, iv (0 : Int32), iv ((((p0.toUInt32 >>> ((2 : Int32) &&& 31).toUInt32).toInt32) &&& (255 : Int32)).toUInt32.toUInt16.toUInt32.toInt32), iv ((((p0.toUInt32 >>> ((10 : Int32) &&& 31).toUInt32).toInt32) &&& (255 : Int32)).toUInt32.toUInt16.toUInt32.toInt32), .unset]) rfl k) ?_
    show own_GoesW p e below s _ _ (T.setTop (mkF m 23 #[iv p0, iv (0 : Int32), iv ((((p0.toUInt32 >>> ((2 : Int32) &&& 31).toUInt32).toInt32) &&& (255 : Int32)).toUInt32.toUInt16.toUInt32.toInt32), iv ((((p0.toUInt32 >>> ((10 : Int32) &&& 31).toUInt32).toInt32) &&& (255 : Int32)).toUInt32.toUInt16.toUInt32.toInt32), .unset] []))
    refine own_stW (fun _ k => XS.iloadN X.here hx rfl (hb hby own_d1_23) rfl  k) ?_
    show own_GoesW p e below s _ _ (T.setTop (mkF m 24 #[iv p0, iv (0 : Int32), iv ((((p0.toUInt32 >>> ((2 : Int32) &&& 31).toUInt32).toInt32) &&& (255 : Int32)).toUInt32.toUInt16.toUInt32.toInt32), iv ((((p0.toUInt32 >>> ((10 : Int32) &&& 31).toUInt32).toInt32) &&& (255 : Int32)).toUInt32.toUInt16.toUInt32.toInt32), .unset] [(.int p0)]))
    refine own_stW (fun _ k => XS.bipush X.here hx rfl (hb hby own_d1_24) k) ?_
    show own_GoesW p e below s _ _ (T.setTop (mkF m 26 #[iv p0, iv (0 : Int32), iv ((((p0.toUInt32 >>> ((2 : Int32) &&& 31).toUInt32).toInt32) &&& (255 : Int32)).toUInt32.toUInt16.toUInt32.toInt32), iv ((((p0.toUInt32 >>> ((10 : Int32) &&& 31).toUInt32).toInt32) &&& (255 : Int32)).toUInt32.toUInt16.toUInt32.toInt32), .unset] [(.int (18 : Int32)), (.int p0)]))
    refine own_stW (fun _ k => XS.iushr X.here hx rfl (hb hby own_d1_26) rfl k) ?_
    show own_GoesW p e below s _ _ (T.setTop (mkF m 27 #[iv p0, iv (0 : Int32), iv ((((p0.toUInt32 >>> ((2 : Int32) &&& 31).toUInt32).toInt32) &&& (255 : Int32)).toUInt32.toUInt16.toUInt32.toInt32), iv ((((p0.toUInt32 >>> ((10 : Int32) &&& 31).toUInt32).toInt32) &&& (255 : Int32)).toUInt32.toUInt16.toUInt32.toInt32), .unset] [(.int ((p0.toUInt32 >>> ((18 : Int32) &&& 31).toUInt32).toInt32))]))
    refine own_stW (fun _ k => XS.sipush X.here hx rfl (hb hby own_d1_27) k) ?_
    show own_GoesW p e below s _ _ (T.setTop (mkF m 30 #[iv p0, iv (0 : Int32), iv ((((p0.toUInt32 >>> ((2 : Int32) &&& 31).toUInt32).toInt32) &&& (255 : Int32)).toUInt32.toUInt16.toUInt32.toInt32), iv ((((p0.toUInt32 >>> ((10 : Int32) &&& 31).toUInt32).toInt32) &&& (255 : Int32)).toUInt32.toUInt16.toUInt32.toInt32), .unset] [(.int (255 : Int32)), (.int ((p0.toUInt32 >>> ((18 : Int32) &&& 31).toUInt32).toInt32))]))
    refine own_stW (fun _ k => XS.iand X.here hx rfl (hb hby own_d1_30) rfl k) ?_
    show own_GoesW p e below s _ _ (T.setTop (mkF m 31 #[iv p0, iv (0 : Int32), iv ((((p0.toUInt32 >>> ((2 : Int32) &&& 31).toUInt32).toInt32) &&& (255 : Int32)).toUInt32.toUInt16.toUInt32.toInt32), iv ((((p0.toUInt32 >>> ((10 : Int32) &&& 31).toUInt32).toInt32) &&& (255 : Int32)).toUInt32.toUInt16.toUInt32.toInt32), .unset] [(.int (((p0.toUInt32 >>> ((18 : Int32) &&& 31).toUInt32).toInt32) &&& (255 : Int32)))]))
    refine own_stW (fun _ k => XS.i2c X.here hx rfl (hb hby own_d1_31) rfl k) ?_
    show own_GoesW p e below s _ _ (T.setTop (mkF m 32 #[iv p0, iv (0 : Int32), iv ((((p0.toUInt32 >>> ((2 : Int32) &&& 31).toUInt32).toInt32) &&& (255 : Int32)).toUInt32.toUInt16.toUInt32.toInt32), iv ((((p0.toUInt32 >>> ((10 : Int32) &&& 31).toUInt32).toInt32) &&& (255 : Int32)).toUInt32.toUInt16.toUInt32.toInt32), .unset] [(.int ((((p0.toUInt32 >>> ((18 : Int32) &&& 31).toUInt32).toInt32) &&& (255 : Int32)).toUInt32.toUInt16.toUInt32.toInt32))]))
    refine own_stW (fun _ k => XS.istore X.here hx rfl (hb hby own_d1_32) rfl (l' := #[iv p0, iv (0 : Int32), iv ((((p0.toUInt32 >>> ((2 : Int32) &&& 31).toUInt32).toInt32) &&& (255 : Int32)).toUInt32.toUInt16.toUInt32.toInt32), iv ((((p0.toUInt32 >>> ((10 : Int32) &&& 31).toUInt32).toInt32) &&& (255 : Int32)).toUInt32.toUInt16.toUInt32.toInt32), iv ((((p0.toUInt32 >>> ((18 : Int32) &&& 31).toUInt32).toInt32) &&& (255 : Int32)).toUInt32.toUInt16.toUInt32.toInt32)]) rfl k) ?_
    show own_GoesW p e below s _ _ (T.setTop (mkF m 34 #[iv p0, iv (0 : Int32), iv ((((p0.toUInt32 >>> ((2 : Int32) &&& 31).toUInt32).toInt32) &&& (255 : Int32)).toUInt32.toUInt16.toUInt32.toInt32), iv ((((p0.toUInt32 >>> ((10 : Int32) &&& 31).toUInt32).toInt32) &&& (255 : Int32)).toUInt32.toUInt16.toUInt32.toInt32), iv ((((p0.toUInt32 >>> ((18 : Int32) &&& 31).toUInt32).toInt32) &&& (255 : Int32)).toUInt32.toUInt16.toUInt32.toInt32)] []))
    refine own_stW (fun _ k => XS.iloadN X.here hx rfl (hb hby own_d1_34) rfl  k) ?_
    show own_GoesW p e below s _ _ (T.setTop (mkF m 35 #[iv p0, iv (0 : Int32), iv ((((p0.toUInt32 >>> ((2 : Int32) &&& 31).toUInt32).toInt32) &&& (255 : Int32)).toUInt32.toUInt16.toUInt32.toInt32), iv ((((p0.toUInt32 >>> ((10 : Int32) &&& 31).toUInt32).toInt32) &&& (255 : Int32)).toUInt32.toUInt16.toUInt32.toInt32), iv ((((p0.toUInt32 >>> ((18 : Int32) &&& 31).toUInt32).toInt32) &&& (255 : Int32)).toUInt32.toUInt16.toUInt32.toInt32)] [(.int (0 : Int32))]))
    refine own_stW (fun _ k => XS.ifNo X.here hx rfl (hb hby own_d1_35) rfl ((if0 _ _).trans (teq (by decide : (0 : Int32) = (0 : Int32))).2) k) ?_
    show own_GoesW p e below s _ _ (T.setTop (mkF m 38 #[iv p0, iv (0 : Int32), iv ((((p0.toUInt32 >>> ((2 : Int32) &&& 31).toUInt32).toInt32) &&& (255 : Int32)).toUInt32.toUInt16.toUInt32.toInt32), iv ((((p0.toUInt32 >>> ((10 : Int32) &&& 31).toUInt32).toInt32) &&& (255 : Int32)).toUInt32.toUInt16.toUInt32.toInt32), iv ((((p0.toUInt32 >>> ((18 : Int32) &&& 31).toUInt32).toInt32) &&& (255 : Int32)).toUInt32.toUInt16.toUInt32.toInt32)] []))
    obtain ⟨T101, h101, X101, e101, E101, A101, D101, -, st101⟩ := newO X hx hZ hown (hw _ (List.mem_of_getElem? (i := 7) rfl)) (hw _ (List.mem_of_getElem? (i := 8) rfl)) (hw _ (List.mem_of_getElem? (i := 9) rfl)) e0 (g := (mkF m 38 #[iv p0, iv (0 : Int32), iv ((((p0.toUInt32 >>> ((2 : Int32) &&& 31).toUInt32).toInt32) &&& (255 : Int32)).toUInt32.toUInt16.toUInt32.toInt32), iv ((((p0.toUInt32 >>> ((10 : Int32) &&& 31).toUInt32).toInt32) &&& (255 : Int32)).toUInt32.toUInt16.toUInt32.toInt32), iv ((((p0.toUInt32 >>> ((18 : Int32) &&& 31).toUInt32).toInt32) &&& (255 : Int32)).toUInt32.toUInt16.toUInt32.toInt32)] [])) rfl (hb hby own_d1_38) (by decide) (by decide)
    obtain ⟨b101, g101⟩ : ∃ z, z = h0.size := ⟨_, rfl⟩
    rw [← g101] at A101 D101 st101
    have y101 := own_lt A101.lt
    have z101 := E101.1
    have F101_value : Fld Z h101 b101 "java/lang/String" "value" "[B" .null := D101 (Or.inr (hw _ (List.mem_of_getElem? (i := 23) rfl))) (ty := (.array .byte)) (by decide)
    have F101_coder : Fld Z h101 b101 "java/lang/String" "coder" "B" (.int (0 : Int32)) := D101 (Or.inr (hw _ (List.mem_of_getElem? (i := 24) rfl))) (ty := .byte) (by decide)
    refine own_stW st101 ?_
    show own_GoesW p e below s _ _ (T101.setTop (mkF m 41 #[iv p0, iv (0 : Int32), iv ((((p0.toUInt32 >>> ((2 : Int32) &&& 31).toUInt32).toInt32) &&& (255 : Int32)).toUInt32.toUInt16.toUInt32.toInt32), iv ((((p0.toUInt32 >>> ((10 : Int32) &&& 31).toUInt32).toInt32) &&& (255 : Int32)).toUInt32.toUInt16.toUInt32.toInt32), iv ((((p0.toUInt32 >>> ((18 : Int32) &&& 31).toUInt32).toInt32) &&& (255 : Int32)).toUInt32.toUInt16.toUInt32.toInt32)] [(.ref b101)]))
    refine own_stW (fun _ k => XS.dup X101.here hx rfl (hb hby own_d1_41) rfl rfl k) ?_
    show own_GoesW p e below s _ _ (T101.setTop (mkF m 42 #[iv p0, iv (0 : Int32), iv ((((p0.toUInt32 >>> ((2 : Int32) &&& 31).toUInt32).toInt32) &&& (255 : Int32)).toUInt32.toUInt16.toUInt32.toInt32), iv ((((p0.toUInt32 >>> ((10 : Int32) &&& 31).toUInt32).toInt32) &&& (255 : Int32)).toUInt32.toUInt16.toUInt32.toInt32), iv ((((p0.toUInt32 >>> ((18 : Int32) &&& 31).toUInt32).toInt32) &&& (255 : Int32)).toUInt32.toUInt16.toUInt32.toInt32)] [(.ref b101), (.ref b101)]))
    refine own_stW (fun _ k => XS.iconst X101.here hx rfl (hb hby own_d1_42) k) ?_
    show own_GoesW p e below s _ _ (T101.setTop (mkF m 43 #[iv p0, iv (0 : Int32), iv ((((p0.toUInt32 >>> ((2 : Int32) &&& 31).toUInt32).toInt32) &&& (255 : Int32)).toUInt32.toUInt16.toUInt32.toInt32), iv ((((p0.toUInt32 >>> ((10 : Int32) &&& 31).toUInt32).toInt32) &&& (255 : Int32)).toUInt32.toUInt16.toUInt32.toInt32), iv ((((p0.toUInt32 >>> ((18 : Int32) &&& 31).toUInt32).toInt32) &&& (255 : Int32)).toUInt32.toUInt16.toUInt32.toInt32)] [(.int (0 : Int32)), (.ref b101), (.ref b101)]))
    obtain ⟨T102, h102, X102, e102, E102, A102, st102⟩ := own_newP X101 hx hZ (aty := .char) (hw _ (List.mem_of_getElem? (i := 10) rfl)) e101 (g := (mkF m 43 #[iv p0, iv (0 : Int32), iv ((((p0.toUInt32 >>> ((2 : Int32) &&& 31).toUInt32).toInt32) &&& (255 : Int32)).toUInt32.toUInt16.toUInt32.toInt32), iv ((((p0.toUInt32 >>> ((10 : Int32) &&& 31).toUInt32).toInt32) &&& (255 : Int32)).toUInt32.toUInt16.toUInt32.toInt32), iv ((((p0.toUInt32 >>> ((18 : Int32) &&& 31).toUInt32).toInt32) &&& (255 : Int32)).toUInt32.toUInt16.toUInt32.toInt32)] [(.int (0 : Int32)), (.ref b101), (.ref b101)])) rfl (hb hby own_d1_43) rfl (by decide) (cap := 0) (by decide) (by decide) (by decide) (by decide)
    obtain ⟨b102, g102⟩ : ∃ z, z = h101.size := ⟨_, rfl⟩
    rw [← g102] at A102 st102
    have V102 : own_Arf Z h102 b102 .char 0 (fun k => .int ((fun _ => (0 : Int32)) k)) := A102
    have y102 := own_lt V102.lt
    have z102 := E102.1
    refine own_stW st102 ?_
    show own_GoesW p e below s _ _ (T102.setTop (mkF m 45 #[iv p0, iv (0 : Int32), iv ((((p0.toUInt32 >>> ((2 : Int32) &&& 31).toUInt32).toInt32) &&& (255 : Int32)).toUInt32.toUInt16.toUInt32.toInt32), iv ((((p0.toUInt32 >>> ((10 : Int32) &&& 31).toUInt32).toInt32) &&& (255 : Int32)).toUInt32.toUInt16.toUInt32.toInt32), iv ((((p0.toUInt32 >>> ((18 : Int32) &&& 31).toUInt32).toInt32) &&& (255 : Int32)).toUInt32.toUInt16.toUInt32.toInt32)] [(.ref b102), (.ref b101), (.ref b101)]))
    have hkn : (0 : Int) = own_U p0 % 4 := by have e : (0 : Int32).toInt = 0 := (by decide); omega
    have f104 := (A101.ext E102)
    have f105 := (F101_value.ext E102)
    have f106 := (F101_coder.ext E102)
    have f107 := ((F0.ext E101).ext E102)
    obtain ⟨v103, T103, L103, vm103, k103, X103, hS, hk103, hZ, hown, Q103, st103⟩ := own_callIW X102 hS (by rw [e102]; omega) hx hZ (y := (⟨"java/lang/String", "<init>", "([C)V"⟩ : MethodName)) hown (hw _ (List.mem_of_getElem? (i := 11) rfl)) (hw _ (List.mem_of_getElem? (i := 12) rfl)) (hw _ (List.mem_of_getElem? (i := 9) rfl)) (hw _ (List.mem_of_getElem? (i := 13) rfl)) rfl (by decide) (W := 1) (rest := [(.ref b101)]) (argsL := [(.ref b102)]) (a := b101) (Pv := fun vm => own_E Z h102 vm) (rmS0 l Z a0 hw [] b101 b102 _  h102 n0 (by omega) f104 f105 f106 V102 (by omega) (own_HK HK (((Keep.refl h0 []).ext E101).ext E102)) CH CW) (fun _ q => own_E.top f107 q) (by decide) (by decide) (by decide) (by decide) e102 own_pd4 rfl (g := (mkF m 45 #[iv p0, iv (0 : Int32), iv ((((p0.toUInt32 >>> ((2 : Int32) &&& 31).toUInt32).toInt32) &&& (255 : Int32)).toUInt32.toUInt16.toUInt32.toInt32), iv ((((p0.toUInt32 >>> ((10 : Int32) &&& 31).toUInt32).toInt32) &&& (255 : Int32)).toUInt32.toUInt16.toUInt32.toInt32), iv ((((p0.toUInt32 >>> ((18 : Int32) &&& 31).toUInt32).toInt32) &&& (255 : Int32)).toUInt32.toUInt16.toUInt32.toInt32)] [(.ref b102), (.ref b101), (.ref b101)])) rfl (by rw [hml]; rfl) rfl (by show 2 * 0 + _ ≤ _; exact Nat.le_of_eq rfl) (hb hby own_d1_45)
    obtain ⟨rfl, N103q, K103, F103E, b103, y103, ne103, A103, F103_value, F103_coder, V103⟩ := Q103
    have z103 := K103.1
    have N103 := Fr.app N0 N103q
    refine own_stW st103 ?_
    show own_GoesW p e below s _ _ (T103.setTop (mkF m 48 #[iv p0, iv (0 : Int32), iv ((((p0.toUInt32 >>> ((2 : Int32) &&& 31).toUInt32).toInt32) &&& (255 : Int32)).toUInt32.toUInt16.toUInt32.toInt32), iv ((((p0.toUInt32 >>> ((10 : Int32) &&& 31).toUInt32).toInt32) &&& (255 : Int32)).toUInt32.toUInt16.toUInt32.toInt32), iv ((((p0.toUInt32 >>> ((18 : Int32) &&& 31).toUInt32).toInt32) &&& (255 : Int32)).toUInt32.toUInt16.toUInt32.toInt32)] [(.ref b101)]))
    exact own_retRW X103 hx hS (by omega) hlk hret rfl rfl (hb hby own_d1_48) (by decide) (by decide) ⟨b101, 0, _, rfl, ⟨A103, F103_coder, b103, F103_value, V103⟩, own_G0 hkn _, N103, ((((Keep.refl h0 []).ext E101).ext E102).trans K103 (allS (Or.inr (by omega)) all0)), own_E.top F103E X103.warmed⟩
  · show own_GoesW p e below s _ _ (T.setTop (mkF m 4 #[iv p0, iv (1 : Int32), .unset, .unset, .unset] []))
    refine own_stW (fun _ k => XS.iloadN X.here hx rfl (hb hby own_d1_4) rfl  k) ?_
    show own_GoesW p e below s _ _ (T.setTop (mkF m 5 #[iv p0, iv (1 : Int32), .unset, .unset, .unset] [(.int p0)]))
    refine own_stW (fun _ k => XS.iconst X.here hx rfl (hb hby own_d1_5) k) ?_
    show own_GoesW p e below s _ _ (T.setTop (mkF m 6 #[iv p0, iv (1 : Int32), .unset, .unset, .unset] [(.int (2 : Int32)), (.int p0)]))
    refine own_stW (fun _ k => XS.iushr X.here hx rfl (hb hby own_d1_6) rfl k) ?_
    show own_GoesW p e below s _ _ (T.setTop (mkF m 7 #[iv p0, iv (1 : Int32), .unset, .unset, .unset] [(.int ((p0.toUInt32 >>> ((2 : Int32) &&& 31).toUInt32).toInt32))]))
    refine own_stW (fun _ k => XS.sipush X.here hx rfl (hb hby own_d1_7) k) ?_
    show own_GoesW p e below s _ _ (T.setTop (mkF m 10 #[iv p0, iv (1 : Int32), .unset, .unset, .unset] [(.int (255 : Int32)), (.int ((p0.toUInt32 >>> ((2 : Int32) &&& 31).toUInt32).toInt32))]))
    refine own_stW (fun _ k => XS.iand X.here hx rfl (hb hby own_d1_10) rfl k) ?_
    show own_GoesW p e below s _ _ (T.setTop (mkF m 11 #[iv p0, iv (1 : Int32), .unset, .unset, .unset] [(.int (((p0.toUInt32 >>> ((2 : Int32) &&& 31).toUInt32).toInt32) &&& (255 : Int32)))]))
    refine own_stW (fun _ k => XS.i2c X.here hx rfl (hb hby own_d1_11) rfl k) ?_
    show own_GoesW p e below s _ _ (T.setTop (mkF m 12 #[iv p0, iv (1 : Int32), .unset, .unset, .unset] [(.int ((((p0.toUInt32 >>> ((2 : Int32) &&& 31).toUInt32).toInt32) &&& (255 : Int32)).toUInt32.toUInt16.toUInt32.toInt32))]))
    refine own_stW (fun _ k => XS.istoreN X.here hx rfl (hb hby own_d1_12) rfl (l' := #[iv p0, iv (1 : Int32), iv ((((p0.toUInt32 >>> ((2 : Int32) &&& 31).toUInt32).toInt32) &&& (255 : Int32)).toUInt32.toUInt16.toUInt32.toInt32), .unset, .unset]) rfl k) ?_
    show own_GoesW p e below s _ _ (T.setTop (mkF m 13 #[iv p0, iv (1 : Int32), iv ((((p0.toUInt32 >>> ((2 : Int32) &&& 31).toUInt32).toInt32) &&& (255 : Int32)).toUInt32.toUInt16.toUInt32.toInt32), .unset, .unset] []))
    refine own_stW (fun _ k => XS.iloadN X.here hx rfl (hb hby own_d1_13) rfl  k) ?_
    show own_GoesW p e below s _ _ (T.setTop (mkF m 14 #[iv p0, iv (1 : Int32), iv ((((p0.toUInt32 >>> ((2 : Int32) &&& 31).toUInt32).toInt32) &&& (255 : Int32)).toUInt32.toUInt16.toUInt32.toInt32), .unset, .unset] [(.int p0)]))
    refine own_stW (fun _ k => XS.bipush X.here hx rfl (hb hby own_d1_14) k) ?_
    show own_GoesW p e below s _ _ (T.setTop (mkF m 16 #[iv p0, iv (1 : Int32), iv ((((p0.toUInt32 >>> ((2 : Int32) &&& 31).toUInt32).toInt32) &&& (255 : Int32)).toUInt32.toUInt16.toUInt32.toInt32), .unset, .unset] [(.int (10 : Int32)), (.int p0)]))
    refine own_stW (fun _ k => XS.iushr X.here hx rfl (hb hby own_d1_16) rfl k) ?_
    show own_GoesW p e below s _ _ (T.setTop (mkF m 17 #[iv p0, iv (1 : Int32), iv ((((p0.toUInt32 >>> ((2 : Int32) &&& 31).toUInt32).toInt32) &&& (255 : Int32)).toUInt32.toUInt16.toUInt32.toInt32), .unset, .unset] [(.int ((p0.toUInt32 >>> ((10 : Int32) &&& 31).toUInt32).toInt32))]))
    refine own_stW (fun _ k => XS.sipush X.here hx rfl (hb hby own_d1_17) k) ?_
    show own_GoesW p e below s _ _ (T.setTop (mkF m 20 #[iv p0, iv (1 : Int32), iv ((((p0.toUInt32 >>> ((2 : Int32) &&& 31).toUInt32).toInt32) &&& (255 : Int32)).toUInt32.toUInt16.toUInt32.toInt32), .unset, .unset] [(.int (255 : Int32)), (.int ((p0.toUInt32 >>> ((10 : Int32) &&& 31).toUInt32).toInt32))]))
    refine own_stW (fun _ k => XS.iand X.here hx rfl (hb hby own_d1_20) rfl k) ?_
    show own_GoesW p e below s _ _ (T.setTop (mkF m 21 #[iv p0, iv (1 : Int32), iv ((((p0.toUInt32 >>> ((2 : Int32) &&& 31).toUInt32).toInt32) &&& (255 : Int32)).toUInt32.toUInt16.toUInt32.toInt32), .unset, .unset] [(.int (((p0.toUInt32 >>> ((10 : Int32) &&& 31).toUInt32).toInt32) &&& (255 : Int32)))]))
    refine own_stW (fun _ k => XS.i2c X.here hx rfl (hb hby own_d1_21) rfl k) ?_
    show own_GoesW p e below s _ _ (T.setTop (mkF m 22 #[iv p0, iv (1 : Int32), iv ((((p0.toUInt32 >>> ((2 : Int32) &&& 31).toUInt32).toInt32) &&& (255 : Int32)).toUInt32.toUInt16.toUInt32.toInt32), .unset, .unset] [(.int ((((p0.toUInt32 >>> ((10 : Int32) &&& 31).toUInt32).toInt32) &&& (255 : Int32)).toUInt32.toUInt16.toUInt32.toInt32))]))
    refine own_stW (fun _ k => XS.istoreN X.here hx rfl (hb hby own_d1_22) rfl (l' := #[iv p0, iv (1 : Int32), iv ((((p0.toUInt32 >>> ((2 : Int32) &&& 31).toUInt32).toInt32) &&& (255 : Int32)).toUInt32.toUInt16.toUInt32.toInt32), iv ((((p0.toUInt32 >>> ((10 : Int32) &&& 31).toUInt32).toInt32) &&& (255 : Int32)).toUInt32.toUInt16.toUInt32.toInt32), .unset]) rfl k) ?_
    show own_GoesW p e below s _ _ (T.setTop (mkF m 23 #[iv p0, iv (1 : Int32), iv ((((p0.toUInt32 >>> ((2 : Int32) &&& 31).toUInt32).toInt32) &&& (255 : Int32)).toUInt32.toUInt16.toUInt32.toInt32), iv ((((p0.toUInt32 >>> ((10 : Int32) &&& 31).toUInt32).toInt32) &&& (255 : Int32)).toUInt32.toUInt16.toUInt32.toInt32), .unset] []))
    refine own_stW (fun _ k => XS.iloadN X.here hx rfl (hb hby own_d1_23) rfl  k) ?_
    show own_GoesW p e below s _ _ (T.setTop (mkF m 24 #[iv p0, iv (1 : Int32), iv ((((p0.toUInt32 >>> ((2 : Int32) &&& 31).toUInt32).toInt32) &&& (255 : Int32)).toUInt32.toUInt16.toUInt32.toInt32), iv ((((p0.toUInt32 >>> ((10 : Int32) &&& 31).toUInt32).toInt32) &&& (255 : Int32)).toUInt32.toUInt16.toUInt32.toInt32), .unset] [(.int p0)]))
    refine own_stW (fun _ k => XS.bipush X.here hx rfl (hb hby own_d1_24) k) ?_
    show own_GoesW p e below s _ _ (T.setTop (mkF m 26 #[iv p0, iv (1 : Int32), iv ((((p0.toUInt32 >>> ((2 : Int32) &&& 31).toUInt32).toInt32) &&& (255 : Int32)).toUInt32.toUInt16.toUInt32.toInt32), iv ((((p0.toUInt32 >>> ((10 : Int32) &&& 31).toUInt32).toInt32) &&& (255 : Int32)).toUInt32.toUInt16.toUInt32.toInt32), .unset] [(.int (18 : Int32)), (.int p0)]))
    refine own_stW (fun _ k => XS.iushr X.here hx rfl (hb hby own_d1_26) rfl k) ?_
    show own_GoesW p e below s _ _ (T.setTop (mkF m 27 #[iv p0, iv (1 : Int32), iv ((((p0.toUInt32 >>> ((2 : Int32) &&& 31).toUInt32).toInt32) &&& (255 : Int32)).toUInt32.toUInt16.toUInt32.toInt32), iv ((((p0.toUInt32 >>> ((10 : Int32) &&& 31).toUInt32).toInt32) &&& (255 : Int32)).toUInt32.toUInt16.toUInt32.toInt32), .unset] [(.int ((p0.toUInt32 >>> ((18 : Int32) &&& 31).toUInt32).toInt32))]))
    refine own_stW (fun _ k => XS.sipush X.here hx rfl (hb hby own_d1_27) k) ?_
    show own_GoesW p e below s _ _ (T.setTop (mkF m 30 #[iv p0, iv (1 : Int32), iv ((((p0.toUInt32 >>> ((2 : Int32) &&& 31).toUInt32).toInt32) &&& (255 : Int32)).toUInt32.toUInt16.toUInt32.toInt32), iv ((((p0.toUInt32 >>> ((10 : Int32) &&& 31).toUInt32).toInt32) &&& (255 : Int32)).toUInt32.toUInt16.toUInt32.toInt32), .unset] [(.int (255 : Int32)), (.int ((p0.toUInt32 >>> ((18 : Int32) &&& 31).toUInt32).toInt32))]))
    refine own_stW (fun _ k => XS.iand X.here hx rfl (hb hby own_d1_30) rfl k) ?_
    show own_GoesW p e below s _ _ (T.setTop (mkF m 31 #[iv p0, iv (1 : Int32), iv ((((p0.toUInt32 >>> ((2 : Int32) &&& 31).toUInt32).toInt32) &&& (255 : Int32)).toUInt32.toUInt16.toUInt32.toInt32), iv ((((p0.toUInt32 >>> ((10 : Int32) &&& 31).toUInt32).toInt32) &&& (255 : Int32)).toUInt32.toUInt16.toUInt32.toInt32), .unset] [(.int (((p0.toUInt32 >>> ((18 : Int32) &&& 31).toUInt32).toInt32) &&& (255 : Int32)))]))
    refine own_stW (fun _ k => XS.i2c X.here hx rfl (hb hby own_d1_31) rfl k) ?_
    show own_GoesW p e below s _ _ (T.setTop (mkF m 32 #[iv p0, iv (1 : Int32), iv ((((p0.toUInt32 >>> ((2 : Int32) &&& 31).toUInt32).toInt32) &&& (255 : Int32)).toUInt32.toUInt16.toUInt32.toInt32), iv ((((p0.toUInt32 >>> ((10 : Int32) &&& 31).toUInt32).toInt32) &&& (255 : Int32)).toUInt32.toUInt16.toUInt32.toInt32), .unset] [(.int ((((p0.toUInt32 >>> ((18 : Int32) &&& 31).toUInt32).toInt32) &&& (255 : Int32)).toUInt32.toUInt16.toUInt32.toInt32))]))
    refine own_stW (fun _ k => XS.istore X.here hx rfl (hb hby own_d1_32) rfl (l' := #[iv p0, iv (1 : Int32), iv ((((p0.toUInt32 >>> ((2 : Int32) &&& 31).toUInt32).toInt32) &&& (255 : Int32)).toUInt32.toUInt16.toUInt32.toInt32), iv ((((p0.toUInt32 >>> ((10 : Int32) &&& 31).toUInt32).toInt32) &&& (255 : Int32)).toUInt32.toUInt16.toUInt32.toInt32), iv ((((p0.toUInt32 >>> ((18 : Int32) &&& 31).toUInt32).toInt32) &&& (255 : Int32)).toUInt32.toUInt16.toUInt32.toInt32)]) rfl k) ?_
    show own_GoesW p e below s _ _ (T.setTop (mkF m 34 #[iv p0, iv (1 : Int32), iv ((((p0.toUInt32 >>> ((2 : Int32) &&& 31).toUInt32).toInt32) &&& (255 : Int32)).toUInt32.toUInt16.toUInt32.toInt32), iv ((((p0.toUInt32 >>> ((10 : Int32) &&& 31).toUInt32).toInt32) &&& (255 : Int32)).toUInt32.toUInt16.toUInt32.toInt32), iv ((((p0.toUInt32 >>> ((18 : Int32) &&& 31).toUInt32).toInt32) &&& (255 : Int32)).toUInt32.toUInt16.toUInt32.toInt32)] []))
    refine own_stW (fun _ k => XS.iloadN X.here hx rfl (hb hby own_d1_34) rfl  k) ?_
    show own_GoesW p e below s _ _ (T.setTop (mkF m 35 #[iv p0, iv (1 : Int32), iv ((((p0.toUInt32 >>> ((2 : Int32) &&& 31).toUInt32).toInt32) &&& (255 : Int32)).toUInt32.toUInt16.toUInt32.toInt32), iv ((((p0.toUInt32 >>> ((10 : Int32) &&& 31).toUInt32).toInt32) &&& (255 : Int32)).toUInt32.toUInt16.toUInt32.toInt32), iv ((((p0.toUInt32 >>> ((18 : Int32) &&& 31).toUInt32).toInt32) &&& (255 : Int32)).toUInt32.toUInt16.toUInt32.toInt32)] [(.int (1 : Int32))]))
    refine own_stW (fun _ k => XS.ifYes X.here hx rfl (pc0 := 35) (pc' := 49) rfl (hb hby own_d1_35) rfl ((if0 _ _).trans (feq (by decide : ¬ ((1 : Int32) = (0 : Int32)))).2) (by decide) (by decide) k) ?_
    show own_GoesW p e below s _ _ (T.setTop (mkF m 49 #[iv p0, iv (1 : Int32), iv ((((p0.toUInt32 >>> ((2 : Int32) &&& 31).toUInt32).toInt32) &&& (255 : Int32)).toUInt32.toUInt16.toUInt32.toInt32), iv ((((p0.toUInt32 >>> ((10 : Int32) &&& 31).toUInt32).toInt32) &&& (255 : Int32)).toUInt32.toUInt16.toUInt32.toInt32), iv ((((p0.toUInt32 >>> ((18 : Int32) &&& 31).toUInt32).toInt32) &&& (255 : Int32)).toUInt32.toUInt16.toUInt32.toInt32)] []))
    refine own_stW (fun _ k => XS.iloadN X.here hx rfl (hb hby own_d1_49) rfl  k) ?_
    show own_GoesW p e below s _ _ (T.setTop (mkF m 50 #[iv p0, iv (1 : Int32), iv ((((p0.toUInt32 >>> ((2 : Int32) &&& 31).toUInt32).toInt32) &&& (255 : Int32)).toUInt32.toUInt16.toUInt32.toInt32), iv ((((p0.toUInt32 >>> ((10 : Int32) &&& 31).toUInt32).toInt32) &&& (255 : Int32)).toUInt32.toUInt16.toUInt32.toInt32), iv ((((p0.toUInt32 >>> ((18 : Int32) &&& 31).toUInt32).toInt32) &&& (255 : Int32)).toUInt32.toUInt16.toUInt32.toInt32)] [(.int (1 : Int32))]))
    refine own_stW (fun _ k => XS.iconst X.here hx rfl (hb hby own_d1_50) k) ?_
    show own_GoesW p e below s _ _ (T.setTop (mkF m 51 #[iv p0, iv (1 : Int32), iv ((((p0.toUInt32 >>> ((2 : Int32) &&& 31).toUInt32).toInt32) &&& (255 : Int32)).toUInt32.toUInt16.toUInt32.toInt32), iv ((((p0.toUInt32 >>> ((10 : Int32) &&& 31).toUInt32).toInt32) &&& (255 : Int32)).toUInt32.toUInt16.toUInt32.toInt32), iv ((((p0.toUInt32 >>> ((18 : Int32) &&& 31).toUInt32).toInt32) &&& (255 : Int32)).toUInt32.toUInt16.toUInt32.toInt32)] [(.int (1 : Int32)), (.int (1 : Int32))]))
    refine own_stW (fun _ k => XS.icmpNo X.here hx rfl (hb hby own_d1_51) rfl (teq (by decide : (1 : Int32) = (1 : Int32))).2 k) ?_
    show own_GoesW p e below s _ _ (T.setTop (mkF m 54 #[iv p0, iv (1 : Int32), iv ((((p0.toUInt32 >>> ((2 : Int32) &&& 31).toUInt32).toInt32) &&& (255 : Int32)).toUInt32.toUInt16.toUInt32.toInt32), iv ((((p0.toUInt32 >>> ((10 : Int32) &&& 31).toUInt32).toInt32) &&& (255 : Int32)).toUInt32.toUInt16.toUInt32.toInt32), iv ((((p0.toUInt32 >>> ((18 : Int32) &&& 31).toUInt32).toInt32) &&& (255 : Int32)).toUInt32.toUInt16.toUInt32.toInt32)] []))
    obtain ⟨T108, h108, X108, e108, E108, A108, D108, -, st108⟩ := newO X hx hZ hown (hw _ (List.mem_of_getElem? (i := 7) rfl)) (hw _ (List.mem_of_getElem? (i := 8) rfl)) (hw _ (List.mem_of_getElem? (i := 9) rfl)) e0 (g := (mkF m 54 #[iv p0, iv (1 : Int32), iv ((((p0.toUInt32 >>> ((2 : Int32) &&& 31).toUInt32).toInt32) &&& (255 : Int32)).toUInt32.toUInt16.toUInt32.toInt32), iv ((((p0.toUInt32 >>> ((10 : Int32) &&& 31).toUInt32).toInt32) &&& (255 : Int32)).toUInt32.toUInt16.toUInt32.toInt32), iv ((((p0.toUInt32 >>> ((18 : Int32) &&& 31).toUInt32).toInt32) &&& (255 : Int32)).toUInt32.toUInt16.toUInt32.toInt32)] [])) rfl (hb hby own_d1_54) (by decide) (by decide)
    obtain ⟨b108, g108⟩ : ∃ z, z = h0.size := ⟨_, rfl⟩
    rw [← g108] at A108 D108 st108
    have y108 := own_lt A108.lt
    have z108 := E108.1
    have F108_value : Fld Z h108 b108 "java/lang/String" "value" "[B" .null := D108 (Or.inr (hw _ (List.mem_of_getElem? (i := 23) rfl))) (ty := (.array .byte)) (by decide)
    have F108_coder : Fld Z h108 b108 "java/lang/String" "coder" "B" (.int (0 : Int32)) := D108 (Or.inr (hw _ (List.mem_of_getElem? (i := 24) rfl))) (ty := .byte) (by decide)
    refine own_stW st108 ?_
    show own_GoesW p e below s _ _ (T108.setTop (mkF m 57 #[iv p0, iv (1 : Int32), iv ((((p0.toUInt32 >>> ((2 : Int32) &&& 31).toUInt32).toInt32) &&& (255 : Int32)).toUInt32.toUInt16.toUInt32.toInt32), iv ((((p0.toUInt32 >>> ((10 : Int32) &&& 31).toUInt32).toInt32) &&& (255 : Int32)).toUInt32.toUInt16.toUInt32.toInt32), iv ((((p0.toUInt32 >>> ((18 : Int32) &&& 31).toUInt32).toInt32) &&& (255 : Int32)).toUInt32.toUInt16.toUInt32.toInt32)] [(.ref b108)]))
    refine own_stW (fun _ k => XS.dup X108.here hx rfl (hb hby own_d1_57) rfl rfl k) ?_
    show own_GoesW p e below s _ _ (T108.setTop (mkF m 58 #[iv p0, iv (1 : Int32), iv ((((p0.toUInt32 >>> ((2 : Int32) &&& 31).toUInt32).toInt32) &&& (255 : Int32)).toUInt32.toUInt16.toUInt32.toInt32), iv ((((p0.toUInt32 >>> ((10 : Int32) &&& 31).toUInt32).toInt32) &&& (255 : Int32)).toUInt32.toUInt16.toUInt32.toInt32), iv ((((p0.toUInt32 >>> ((18 : Int32) &&& 31).toUInt32).toInt32) &&& (255 : Int32)).toUInt32.toUInt16.toUInt32.toInt32)] [(.ref b108), (.ref b108)]))
    refine own_stW (fun _ k => XS.iconst X108.here hx rfl (hb hby own_d1_58) k) ?_
    show own_GoesW p e below s _ _ (T108.setTop (mkF m 59 #[iv p0, iv (1 : Int32), iv ((((p0.toUInt32 >>> ((2 : Int32) &&& 31).toUInt32).toInt32) &&& (255 : Int32)).toUInt32.toUInt16.toUInt32.toInt32), iv ((((p0.toUInt32 >>> ((10 : Int32) &&& 31).toUInt32).toInt32) &&& (255 : Int32)).toUInt32.toUInt16.toUInt32.toInt32), iv ((((p0.toUInt32 >>> ((18 : Int32) &&& 31).toUInt32).toInt32) &&& (255 : Int32)).toUInt32.toUInt16.toUInt32.toInt32)] [(.int (1 : Int32)), (.ref b108), (.ref b108)]))
    obtain ⟨T109, h109, X109, e109, E109, A109, st109⟩ := own_newP X108 hx hZ (aty := .char) (hw _ (List.mem_of_getElem? (i := 10) rfl)) e108 (g := (mkF m 59 #[iv p0, iv (1 : Int32), iv ((((p0.toUInt32 >>> ((2 : Int32) &&& 31).toUInt32).toInt32) &&& (255 : Int32)).toUInt32.toUInt16.toUInt32.toInt32), iv ((((p0.toUInt32 >>> ((10 : Int32) &&& 31).toUInt32).toInt32) &&& (255 : Int32)).toUInt32.toUInt16.toUInt32.toInt32), iv ((((p0.toUInt32 >>> ((18 : Int32) &&& 31).toUInt32).toInt32) &&& (255 : Int32)).toUInt32.toUInt16.toUInt32.toInt32)] [(.int (1 : Int32)), (.ref b108), (.ref b108)])) rfl (hb hby own_d1_59) rfl (by decide) (cap := 1) (by decide) (by decide) (by decide) (by decide)
    obtain ⟨b109, g109⟩ : ∃ z, z = h108.size := ⟨_, rfl⟩
    rw [← g109] at A109 st109
    have V109 : own_Arf Z h109 b109 .char 1 (fun k => .int ((fun _ => (0 : Int32)) k)) := A109
    have y109 := own_lt V109.lt
    have z109 := E109.1
    refine own_stW st109 ?_
    show own_GoesW p e below s _ _ (T109.setTop (mkF m 61 #[iv p0, iv (1 : Int32), iv ((((p0.toUInt32 >>> ((2 : Int32) &&& 31).toUInt32).toInt32) &&& (255 : Int32)).toUInt32.toUInt16.toUInt32.toInt32), iv ((((p0.toUInt32 >>> ((10 : Int32) &&& 31).toUInt32).toInt32) &&& (255 : Int32)).toUInt32.toUInt16.toUInt32.toInt32), iv ((((p0.toUInt32 >>> ((18 : Int32) &&& 31).toUInt32).toInt32) &&& (255 : Int32)).toUInt32.toUInt16.toUInt32.toInt32)] [(.ref b109), (.ref b108), (.ref b108)]))
    refine own_stW (fun _ k => XS.dup X109.here hx rfl (hb hby own_d1_61) rfl rfl k) ?_
    show own_GoesW p e below s _ _ (T109.setTop (mkF m 62 #[iv p0, iv (1 : Int32), iv ((((p0.toUInt32 >>> ((2 : Int32) &&& 31).toUInt32).toInt32) &&& (255 : Int32)).toUInt32.toUInt16.toUInt32.toInt32), iv ((((p0.toUInt32 >>> ((10 : Int32) &&& 31).toUInt32).toInt32) &&& (255 : Int32)).toUInt32.toUInt16.toUInt32.toInt32), iv ((((p0.toUInt32 >>> ((18 : Int32) &&& 31).toUInt32).toInt32) &&& (255 : Int32)).toUInt32.toUInt16.toUInt32.toInt32)] [(.ref b109), (.ref b109), (.ref b108), (.ref b108)]))
    refine own_stW (fun _ k => XS.iconst X109.here hx rfl (hb hby own_d1_62) k) ?_
    show own_GoesW p e below s _ _ (T109.setTop (mkF m 63 #[iv p0, iv (1 : Int32), iv ((((p0.toUInt32 >>> ((2 : Int32) &&& 31).toUInt32).toInt32) &&& (255 : Int32)).toUInt32.toUInt16.toUInt32.toInt32), iv ((((p0.toUInt32 >>> ((10 : Int32) &&& 31).toUInt32).toInt32) &&& (255 : Int32)).toUInt32.toUInt16.toUInt32.toInt32), iv ((((p0.toUInt32 >>> ((18 : Int32) &&& 31).toUInt32).toInt32) &&& (255 : Int32)).toUInt32.toUInt16.toUInt32.toInt32)] [(.int (0 : Int32)), (.ref b109), (.ref b109), (.ref b108), (.ref b108)]))
    refine own_stW (fun _ k => XS.iloadN X109.here hx rfl (hb hby own_d1_63) rfl  k) ?_
    show own_GoesW p e below s _ _ (T109.setTop (mkF m 64 #[iv p0, iv (1 : Int32), iv ((((p0.toUInt32 >>> ((2 : Int32) &&& 31).toUInt32).toInt32) &&& (255 : Int32)).toUInt32.toUInt16.toUInt32.toInt32), iv ((((p0.toUInt32 >>> ((10 : Int32) &&& 31).toUInt32).toInt32) &&& (255 : Int32)).toUInt32.toUInt16.toUInt32.toInt32), iv ((((p0.toUInt32 >>> ((18 : Int32) &&& 31).toUInt32).toInt32) &&& (255 : Int32)).toUInt32.toUInt16.toUInt32.toInt32)] [(.int ((((p0.toUInt32 >>> ((2 : Int32) &&& 31).toUInt32).toInt32) &&& (255 : Int32)).toUInt32.toUInt16.toUInt32.toInt32)), (.int (0 : Int32)), (.ref b109), (.ref b109), (.ref b108), (.ref b108)]))
    obtain ⟨T110, h110, X110, e110, W110, A110, st110⟩ := own_stC X109 hx hZ e109 V109 (j := (0 : Int32)) (by decide) (g := (mkF m 64 #[iv p0, iv (1 : Int32), iv ((((p0.toUInt32 >>> ((2 : Int32) &&& 31).toUInt32).toInt32) &&& (255 : Int32)).toUInt32.toUInt16.toUInt32.toInt32), iv ((((p0.toUInt32 >>> ((10 : Int32) &&& 31).toUInt32).toInt32) &&& (255 : Int32)).toUInt32.toUInt16.toUInt32.toInt32), iv ((((p0.toUInt32 >>> ((18 : Int32) &&& 31).toUInt32).toInt32) &&& (255 : Int32)).toUInt32.toUInt16.toUInt32.toInt32)] [(.int ((((p0.toUInt32 >>> ((2 : Int32) &&& 31).toUInt32).toInt32) &&& (255 : Int32)).toUInt32.toUInt16.toUInt32.toInt32)), (.int (0 : Int32)), (.ref b109), (.ref b109), (.ref b108), (.ref b108)])) rfl rfl (hb hby own_d1_64)
    have V110 : own_Arf Z h110 b109 .char 1 (fun k => .int ((fun k => if k = 0 then (nar .char ((((p0.toUInt32 >>> ((2 : Int32) &&& 31).toUInt32).toInt32) &&& (255 : Int32)).toUInt32.toUInt16.toUInt32.toInt32)) else (fun _ => (0 : Int32)) k) k)) := A110
    have z110 := W110.size
    have N110 := Fr.snoc X110 N0 (by omega)
    refine own_stW st110 ?_
    show own_GoesW p e below s _ _ (T110.setTop (mkF m 65 #[iv p0, iv (1 : Int32), iv ((((p0.toUInt32 >>> ((2 : Int32) &&& 31).toUInt32).toInt32) &&& (255 : Int32)).toUInt32.toUInt16.toUInt32.toInt32), iv ((((p0.toUInt32 >>> ((10 : Int32) &&& 31).toUInt32).toInt32) &&& (255 : Int32)).toUInt32.toUInt16.toUInt32.toInt32), iv ((((p0.toUInt32 >>> ((18 : Int32) &&& 31).toUInt32).toInt32) &&& (255 : Int32)).toUInt32.toUInt16.toUInt32.toInt32)] [(.ref b109), (.ref b108), (.ref b108)]))
    have hkn : (1 : Int) = own_U p0 % 4 := by have e : (1 : Int32).toInt = 1 := (by decide); omega
    have hg0 : ((fun k => if k = 0 then (nar .char ((((p0.toUInt32 >>> ((2 : Int32) &&& 31).toUInt32).toInt32) &&& (255 : Int32)).toUInt32.toUInt16.toUInt32.toInt32)) else (fun _ => (0 : Int32)) k) 0).toInt = own_U p0 / 4 % 256 := own_c0 p0
    generalize (fun k => if k = 0 then (nar .char ((((p0.toUInt32 >>> ((2 : Int32) &&& 31).toUInt32).toInt32) &&& (255 : Int32)).toUInt32.toUInt16.toUInt32.toInt32)) else (fun _ => (0 : Int32)) k) = fc at V110 hg0
    have hch : ∀ j, j < 1 → 0 ≤ (fc j).toInt ∧ (fc j).toInt ≤ 255 := by
      intro j hj
      have q : j = 0 := by omega
      subst q; omega
    have f112 := ((A108.ext E109).wr W110)
    have f113 := ((F108_value.ext E109).other W110 (Or.inl (own_ne (by omega))))
    have f114 := ((F108_coder.ext E109).other W110 (Or.inl (own_ne (by omega))))
    have f115 := (((S1.ext E108).ext E109).wr W110)
    obtain ⟨v111, T111, L111, X111, Q111, st111⟩ := own_callI X110 hx hZ (y := (⟨"java/lang/String", "<init>", "([C)V"⟩ : MethodName)) hown (hw _ (List.mem_of_getElem? (i := 11) rfl)) (hw _ (List.mem_of_getElem? (i := 12) rfl)) (hw _ (List.mem_of_getElem? (i := 9) rfl)) (hw _ (List.mem_of_getElem? (i := 13) rfl)) rfl (by decide) (W := 1) (rest := [(.ref b108)]) (argsL := [(.ref b109)]) (a := b108) (rmS1 l Z a0 hw [] b108 b109 _ cs _ _  h110 n0 (by omega) f112 f113 f114 V110 hch f115 hcs (by omega) (by omega)) (by decide) (by decide) (by decide) (by decide) e110 own_pd4 rfl (g := (mkF m 65 #[iv p0, iv (1 : Int32), iv ((((p0.toUInt32 >>> ((2 : Int32) &&& 31).toUInt32).toInt32) &&& (255 : Int32)).toUInt32.toUInt16.toUInt32.toInt32), iv ((((p0.toUInt32 >>> ((10 : Int32) &&& 31).toUInt32).toInt32) &&& (255 : Int32)).toUInt32.toUInt16.toUInt32.toInt32), iv ((((p0.toUInt32 >>> ((18 : Int32) &&& 31).toUInt32).toInt32) &&& (255 : Int32)).toUInt32.toUInt16.toUInt32.toInt32)] [(.ref b109), (.ref b108), (.ref b108)])) rfl (by rw [hml]; rfl) rfl (by show 2 * 0 + _ ≤ _; exact Nat.le_of_eq rfl) (hb hby own_d1_65)
    obtain ⟨rfl, N111q, K111, b111, g111, y111, A111, F111_value, F111_coder, V111⟩ := Q111
    have z111 := K111.1
    have N111 := Fr.app N110 N111q
    refine own_stW st111 ?_
    show own_GoesW p e below s _ _ (T111.setTop (mkF m 68 #[iv p0, iv (1 : Int32), iv ((((p0.toUInt32 >>> ((2 : Int32) &&& 31).toUInt32).toInt32) &&& (255 : Int32)).toUInt32.toUInt16.toUInt32.toInt32), iv ((((p0.toUInt32 >>> ((10 : Int32) &&& 31).toUInt32).toInt32) &&& (255 : Int32)).toUInt32.toUInt16.toUInt32.toInt32), iv ((((p0.toUInt32 >>> ((18 : Int32) &&& 31).toUInt32).toInt32) &&& (255 : Int32)).toUInt32.toUInt16.toUInt32.toInt32)] [(.ref b108)]))
    exact own_retRW X111 hx hS (by omega) hlk hret rfl rfl (hb hby own_d1_68) (by decide) (by decide) ⟨b108, 1, _, rfl, ⟨A111, F111_coder, b111, F111_value, V111⟩, own_mkG hkn hch (fun _ => hg0) (fun q => absurd q (by decide)) (fun q => absurd q (by decide)), N111, (((((Keep.refl h0 []).ext E108).ext E109).wr W110 (Or.inr (by omega))).trans K111 (allS (Or.inr (by omega)) all0)), own_E.top (F0.keep (((((Keep.refl h0 []).ext E108).ext E109).wr W110 (Or.inr (by omega))).trans K111 (allS (Or.inr (by omega)) all0)) (fun _ q => nomatch q)) X111.warmed⟩
  · show own_GoesW p e below s _ _ (T.setTop (mkF m 4 #[iv p0, iv (2 : Int32), .unset, .unset, .unset] []))
    refine own_stW (fun _ k => XS.iloadN X.here hx rfl (hb hby own_d1_4) rfl  k) ?_
    show own_GoesW p e below s _ _ (T.setTop (mkF m 5 #[iv p0, iv (2 : Int32), .unset, .unset, .unset] [(.int p0)]))
    refine own_stW (fun _ k => XS.iconst X.here hx rfl (hb hby own_d1_5) k) ?_
    show own_GoesW p e below s _ _ (T.setTop (mkF m 6 #[iv p0, iv (2 : Int32), .unset, .unset, .unset] [(.int (2 : Int32)), (.int p0)]))
    refine own_stW (fun _ k => XS.iushr X.here hx rfl (hb hby own_d1_6) rfl k) ?_
    show own_GoesW p e below s _ _ (T.setTop (mkF m 7 #[iv p0, iv (2 : Int32), .unset, .unset, .unset] [(.int ((p0.toUInt32 >>> ((2 : Int32) &&& 31).toUInt32).toInt32))]))
    refine own_stW (fun _ k => XS.sipush X.here hx rfl (hb hby own_d1_7) k) ?_
    show own_GoesW p e below s _ _ (T.setTop (mkF m 10 #[iv p0, iv (2 : Int32), .unset, .unset, .unset] [(.int (255 : Int32)), (.int ((p0.toUInt32 >>> ((2 : Int32) &&& 31).toUInt32).toInt32))]))
    refine own_stW (fun _ k => XS.iand X.here hx rfl (hb hby own_d1_10) rfl k) ?_
    show own_GoesW p e below s _ _ (T.setTop (mkF m 11 #[iv p0, iv (2 : Int32), .unset, .unset, .unset] [(.int (((p0.toUInt32 >>> ((2 : Int32) &&& 31).toUInt32).toInt32) &&& (255 : Int32)))]))
    refine own_stW (fun _ k => XS.i2c X.here hx rfl (hb hby own_d1_11) rfl k) ?_
    show own_GoesW p e below s _ _ (T.setTop (mkF m 12 #[iv p0, iv (2 : Int32), .unset, .unset, .unset] [(.int ((((p0.toUInt32 >>> ((2 : Int32) &&& 31).toUInt32).toInt32) &&& (255 : Int32)).toUInt32.toUInt16.toUInt32.toInt32))]))
    refine own_stW (fun _ k => XS.istoreN X.here hx rfl (hb hby own_d1_12) rfl (l' := #[iv p0, iv (2 : Int32), iv ((((p0.toUInt32 >>> ((2 : Int32) &&& 31).toUInt32).toInt32) &&& (255 : Int32)).toUInt32.toUInt16.toUInt32.toInt32), .unset, .unset]) rfl k) ?_
    show own_GoesW p e below s _ _ (T.setTop (mkF m 13 #[iv p0, iv (2 : Int32), iv ((((p0.toUInt32 >>> ((2 : Int32) &&& 31).toUInt32).toInt32) &&& (255 : Int32)).toUInt32.toUInt16.toUInt32.toInt32), .unset, .unset] []))
    refine own_stW (fun _ k => XS.iloadN X.here hx rfl (hb hby own_d1_13) rfl  k) ?_
    show own_GoesW p e below s _ _ (T.setTop (mkF m 14 #[iv p0, iv (2 : Int32), iv ((((p0.toUInt32 >>> ((2 : Int32) &&& 31).toUInt32).toInt32) &&& (255 : Int32)).toUInt32.toUInt16.toUInt32.toInt32), .unset, .unset] [(.int p0)]))
    refine own_stW (fun _ k => XS.bipush X.here hx rfl (hb hby own_d1_14) k) ?_
    show own_GoesW p e below s _ _ (T.setTop (mkF m 16 #[iv p0, iv (2 : Int32), iv ((((p0.toUInt32 >>> ((2 : Int32) &&& 31).toUInt32).toInt32) &&& (255 : Int32)).toUInt32.toUInt16.toUInt32.toInt32), .unset, .unset] [(.int (10 : Int32)), (.int p0)]))
    refine own_stW (fun _ k => XS.iushr X.here hx rfl (hb hby own_d1_16) rfl k) ?_
    show own_GoesW p e below s _ _ (T.setTop (mkF m 17 #[iv p0, iv (2 : Int32), iv ((((p0.toUInt32 >>> ((2 : Int32) &&& 31).toUInt32).toInt32) &&& (255 : Int32)).toUInt32.toUInt16.toUInt32.toInt32), .unset, .unset] [(.int ((p0.toUInt32 >>> ((10 : Int32) &&& 31).toUInt32).toInt32))]))
    refine own_stW (fun _ k => XS.sipush X.here hx rfl (hb hby own_d1_17) k) ?_
    show own_GoesW p e below s _ _ (T.setTop (mkF m 20 #[iv p0, iv (2 : Int32), iv ((((p0.toUInt32 >>> ((2 : Int32) &&& 31).toUInt32).toInt32) &&& (255 : Int32)).toUInt32.toUInt16.toUInt32.toInt32), .unset, .unset] [(.int (255 : Int32)), (.int ((p0.toUInt32 >>> ((10 : Int32) &&& 31).toUInt32).toInt32))]))
    refine own_stW (fun _ k => XS.iand X.here hx rfl (hb hby own_d1_20) rfl k) ?_
    show own_GoesW p e below s _ _ (T.setTop (mkF m 21 #[iv p0, iv (2 : Int32), iv ((((p0.toUInt32 >>> ((2 : Int32) &&& 31).toUInt32).toInt32) &&& (255 : Int32)).toUInt32.toUInt16.toUInt32.toInt32), .unset, .unset] [(.int (((p0.toUInt32 >>> ((10 : Int32) &&& 31).toUInt32).toInt32) &&& (255 : Int32)))]))
    refine own_stW (fun _ k => XS.i2c X.here hx rfl (hb hby own_d1_21) rfl k) ?_
    show own_GoesW p e below s _ _ (T.setTop (mkF m 22 #[iv p0, iv (2 : Int32), iv ((((p0.toUInt32 >>> ((2 : Int32) &&& 31).toUInt32).toInt32) &&& (255 : Int32)).toUInt32.toUInt16.toUInt32.toInt32), .unset, .unset] [(.int ((((p0.toUInt32 >>> ((10 : Int32) &&& 31).toUInt32).toInt32) &&& (255 : Int32)).toUInt32.toUInt16.toUInt32.toInt32))]))
    refine own_stW (fun _ k => XS.istoreN X.here hx rfl (hb hby own_d1_22) rfl (l' := #[iv p0, iv (2 : Int32), iv ((((p0.toUInt32 >>> ((2 : Int32) &&& 31).toUInt32).toInt32) &&& (255 : Int32)).toUInt32.toUInt16.toUInt32.toInt32), iv ((((p0.toUInt32 >>> ((10 : Int32) &&& 31).toUInt32).toInt32) &&& (255 : Int32)).toUInt32.toUInt16.toUInt32.toInt32), .unset]) rfl k) ?_
    show own_GoesW p e below s _ _ (T.setTop (mkF m 23 #[iv p0, iv (2 : Int32), iv ((((p0.toUInt32 >>> ((2 : Int32) &&& 31).toUInt32).toInt32) &&& (255 : Int32)).toUInt32.toUInt16.toUInt32.toInt32), iv ((((p0.toUInt32 >>> ((10 : Int32) &&& 31).toUInt32).toInt32) &&& (255 : Int32)).toUInt32.toUInt16.toUInt32.toInt32), .unset] []))
    refine own_stW (fun _ k => XS.iloadN X.here hx rfl (hb hby own_d1_23) rfl  k) ?_
    show own_GoesW p e below s _ _ (T.setTop (mkF m 24 #[iv p0, iv (2 : Int32), iv ((((p0.toUInt32 >>> ((2 : Int32) &&& 31).toUInt32).toInt32) &&& (255 : Int32)).toUInt32.toUInt16.toUInt32.toInt32), iv ((((p0.toUInt32 >>> ((10 : Int32) &&& 31).toUInt32).toInt32) &&& (255 : Int32)).toUInt32.toUInt16.toUInt32.toInt32), .unset] [(.int p0)]))
    refine own_stW (fun _ k => XS.bipush X.here hx rfl (hb hby own_d1_24) k) ?_
    show own_GoesW p e below s _ _ (T.setTop (mkF m 26 #[iv p0, iv (2 : Int32), iv ((((p0.toUInt32 >>> ((2 : Int32) &&& 31).toUInt32).toInt32) &&& (255 : Int32)).toUInt32.toUInt16.toUInt32.toInt32), iv ((((p0.toUInt32 >>> ((10 : Int32) &&& 31).toUInt32).toInt32) &&& (255 : Int32)).toUInt32.toUInt16.toUInt32.toInt32), .unset] [(.int (18 : Int32)), (.int p0)]))
    refine own_stW (fun _ k => XS.iushr X.here hx rfl (hb hby own_d1_26) rfl k) ?_
    show own_GoesW p e below s _ _ (T.setTop (mkF m 27 #[iv p0, iv (2 : Int32), iv ((((p0.toUInt32 >>> ((2 : Int32) &&& 31).toUInt32).toInt32) &&& (255 : Int32)).toUInt32.toUInt16.toUInt32.toInt32), iv ((((p0.toUInt32 >>> ((10 : Int32) &&& 31).toUInt32).toInt32) &&& (255 : Int32)).toUInt32.toUInt16.toUInt32.toInt32), .unset] [(.int ((p0.toUInt32 >>> ((18 : Int32) &&& 31).toUInt32).toInt32))]))
    refine own_stW (fun _ k => XS.sipush X.here hx rfl (hb hby own_d1_27) k) ?_
    show own_GoesW p e below s _ _ (T.setTop (mkF m 30 #[iv p0, iv (2 : Int32), iv ((((p0.toUInt32 >>> ((2 : Int32) &&& 31).toUInt32).toInt32) &&& (255 : Int32)).toUInt32.toUInt16.toUInt32.toInt32), iv ((((p0.toUInt32 >>> ((10 : Int32) &&& 31).toUInt32).toInt32) &&& (255 : Int32)).toUInt32.toUInt16.toUInt32.toInt32), .unset] [(.int (255 : Int32)), (.int ((p0.toUInt32 >>> ((18 : Int32) &&& 31).toUInt32).toInt32))]))
    refine own_stW (fun _ k => XS.iand X.here hx rfl (hb hby own_d1_30) rfl k) ?_
    show own_GoesW p e below s _ _ (T.setTop (mkF m 31 #[iv p0, iv (2 : Int32), iv ((((p0.toUInt32 >>> ((2 : Int32) &&& 31).toUInt32).toInt32) &&& (255 : Int32)).toUInt32.toUInt16.toUInt32.toInt32), iv ((((p0.toUInt32 >>> ((10 : Int32) &&& 31).toUInt32).toInt32) &&& (255 : Int32)).toUInt32.toUInt16.toUInt32.toInt32), .unset] [(.int (((p0.toUInt32 >>> ((18 : Int32) &&& 31).toUInt32).toInt32) &&& (255 : Int32)))]))
    refine own_stW (fun _ k => XS.i2c X.here hx rfl (hb hby own_d1_31) rfl k) ?_
    show own_GoesW p e below s _ _ (T.setTop (mkF m 32 #[iv p0, iv (2 : Int32), iv ((((p0.toUInt32 >>> ((2 : Int32) &&& 31).toUInt32).toInt32) &&& (255 : Int32)).toUInt32.toUInt16.toUInt32.toInt32), iv ((((p0.toUInt32 >>> ((10 : Int32) &&& 31).toUInt32).toInt32) &&& (255 : Int32)).toUInt32.toUInt16.toUInt32.toInt32), .unset] [(.int ((((p0.toUInt32 >>> ((18 : Int32) &&& 31).toUInt32).toInt32) &&& (255 : Int32)).toUInt32.toUInt16.toUInt32.toInt32))]))
    refine own_stW (fun _ k => XS.istore X.here hx rfl (hb hby own_d1_32) rfl (l' := #[iv p0, iv (2 : Int32), iv ((((p0.toUInt32 >>> ((2 : Int32) &&& 31).toUInt32).toInt32) &&& (255 : Int32)).toUInt32.toUInt16.toUInt32.toInt32), iv ((((p0.toUInt32 >>> ((10 : Int32) &&& 31).toUInt32).toInt32) &&& (255 : Int32)).toUInt32.toUInt16.toUInt32.toInt32), iv ((((p0.toUInt32 >>> ((18 : Int32) &&& 31).toUInt32).toInt32) &&& (255 : Int32)).toUInt32.toUInt16.toUInt32.toInt32)]) rfl k) ?_
    show own_GoesW p e below s _ _ (T.setTop (mkF m 34 #[iv p0, iv (2 : Int32), iv ((((p0.toUInt32 >>> ((2 : Int32) &&& 31).toUInt32).toInt32) &&& (255 : Int32)).toUInt32.toUInt16.toUInt32.toInt32), iv ((((p0.toUInt32 >>> ((10 : Int32) &&& 31).toUInt32).toInt32) &&& (255 : Int32)).toUInt32.toUInt16.toUInt32.toInt32), iv ((((p0.toUInt32 >>> ((18 : Int32) &&& 31).toUInt32).toInt32) &&& (255 : Int32)).toUInt32.toUInt16.toUInt32.toInt32)] []))
    refine own_stW (fun _ k => XS.iloadN X.here hx rfl (hb hby own_d1_34) rfl  k) ?_
    show own_GoesW p e below s _ _ (T.setTop (mkF m 35 #[iv p0, iv (2 : Int32), iv ((((p0.toUInt32 >>> ((2 : Int32) &&& 31).toUInt32).toInt32) &&& (255 : Int32)).toUInt32.toUInt16.toUInt32.toInt32), iv ((((p0.toUInt32 >>> ((10 : Int32) &&& 31).toUInt32).toInt32) &&& (255 : Int32)).toUInt32.toUInt16.toUInt32.toInt32), iv ((((p0.toUInt32 >>> ((18 : Int32) &&& 31).toUInt32).toInt32) &&& (255 : Int32)).toUInt32.toUInt16.toUInt32.toInt32)] [(.int (2 : Int32))]))
    refine own_stW (fun _ k => XS.ifYes X.here hx rfl (pc0 := 35) (pc' := 49) rfl (hb hby own_d1_35) rfl ((if0 _ _).trans (feq (by decide : ¬ ((2 : Int32) = (0 : Int32)))).2) (by decide) (by decide) k) ?_
    show own_GoesW p e below s _ _ (T.setTop (mkF m 49 #[iv p0, iv (2 : Int32), iv ((((p0.toUInt32 >>> ((2 : Int32) &&& 31).toUInt32).toInt32) &&& (255 : Int32)).toUInt32.toUInt16.toUInt32.toInt32), iv ((((p0.toUInt32 >>> ((10 : Int32) &&& 31).toUInt32).toInt32) &&& (255 : Int32)).toUInt32.toUInt16.toUInt32.toInt32), iv ((((p0.toUInt32 >>> ((18 : Int32) &&& 31).toUInt32).toInt32) &&& (255 : Int32)).toUInt32.toUInt16.toUInt32.toInt32)] []))
    refine own_stW (fun _ k => XS.iloadN X.here hx rfl (hb hby own_d1_49) rfl  k) ?_
    show own_GoesW p e below s _ _ (T.setTop (mkF m 50 #[iv p0, iv (2 : Int32), iv ((((p0.toUInt32 >>> ((2 : Int32) &&& 31).toUInt32).toInt32) &&& (255 : Int32)).toUInt32.toUInt16.toUInt32.toInt32), iv ((((p0.toUInt32 >>> ((10 : Int32) &&& 31).toUInt32).toInt32) &&& (255 : Int32)).toUInt32.toUInt16.toUInt32.toInt32), iv ((((p0.toUInt32 >>> ((18 : Int32) &&& 31).toUInt32).toInt32) &&& (255 : Int32)).toUInt32.toUInt16.toUInt32.toInt32)] [(.int (2 : Int32))]))
    refine own_stW (fun _ k => XS.iconst X.here hx rfl (hb hby own_d1_50) k) ?_
    show own_GoesW p e below s _ _ (T.setTop (mkF m 51 #[iv p0, iv (2 : Int32), iv ((((p0.toUInt32 >>> ((2 : Int32) &&& 31).toUInt32).toInt32) &&& (255 : Int32)).toUInt32.toUInt16.toUInt32.toInt32), iv ((((p0.toUInt32 >>> ((10 : Int32) &&& 31).toUInt32).toInt32) &&& (255 : Int32)).toUInt32.toUInt16.toUInt32.toInt32), iv ((((p0.toUInt32 >>> ((18 : Int32) &&& 31).toUInt32).toInt32) &&& (255 : Int32)).toUInt32.toUInt16.toUInt32.toInt32)] [(.int (1 : Int32)), (.int (2 : Int32))]))
    refine own_stW (fun _ k => XS.icmpYes X.here hx rfl (pc0 := 51) (pc' := 69) rfl (hb hby own_d1_51) rfl (feq (by decide : ¬ ((2 : Int32) = (1 : Int32)))).2 (by decide) (by decide) k) ?_
    show own_GoesW p e below s _ _ (T.setTop (mkF m 69 #[iv p0, iv (2 : Int32), iv ((((p0.toUInt32 >>> ((2 : Int32) &&& 31).toUInt32).toInt32) &&& (255 : Int32)).toUInt32.toUInt16.toUInt32.toInt32), iv ((((p0.toUInt32 >>> ((10 : Int32) &&& 31).toUInt32).toInt32) &&& (255 : Int32)).toUInt32.toUInt16.toUInt32.toInt32), iv ((((p0.toUInt32 >>> ((18 : Int32) &&& 31).toUInt32).toInt32) &&& (255 : Int32)).toUInt32.toUInt16.toUInt32.toInt32)] []))
    refine own_stW (fun _ k => XS.iloadN X.here hx rfl (hb hby own_d1_69) rfl  k) ?_
    show own_GoesW p e below s _ _ (T.setTop (mkF m 70 #[iv p0, iv (2 : Int32), iv ((((p0.toUInt32 >>> ((2 : Int32) &&& 31).toUInt32).toInt32) &&& (255 : Int32)).toUInt32.toUInt16.toUInt32.toInt32), iv ((((p0.toUInt32 >>> ((10 : Int32) &&& 31).toUInt32).toInt32) &&& (255 : Int32)).toUInt32.toUInt16.toUInt32.toInt32), iv ((((p0.toUInt32 >>> ((18 : Int32) &&& 31).toUInt32).toInt32) &&& (255 : Int32)).toUInt32.toUInt16.toUInt32.toInt32)] [(.int (2 : Int32))]))
    refine own_stW (fun _ k => XS.iconst X.here hx rfl (hb hby own_d1_70) k) ?_
    show own_GoesW p e below s _ _ (T.setTop (mkF m 71 #[iv p0, iv (2 : Int32), iv ((((p0.toUInt32 >>> ((2 : Int32) &&& 31).toUInt32).toInt32) &&& (255 : Int32)).toUInt32.toUInt16.toUInt32.toInt32), iv ((((p0.toUInt32 >>> ((10 : Int32) &&& 31).toUInt32).toInt32) &&& (255 : Int32)).toUInt32.toUInt16.toUInt32.toInt32), iv ((((p0.toUInt32 >>> ((18 : Int32) &&& 31).toUInt32).toInt32) &&& (255 : Int32)).toUInt32.toUInt16.toUInt32.toInt32)] [(.int (2 : Int32)), (.int (2 : Int32))]))
    refine own_stW (fun _ k => XS.icmpNo X.here hx rfl (hb hby own_d1_71) rfl (teq (by decide : (2 : Int32) = (2 : Int32))).2 k) ?_
    show own_GoesW p e below s _ _ (T.setTop (mkF m 74 #[iv p0, iv (2 : Int32), iv ((((p0.toUInt32 >>> ((2 : Int32) &&& 31).toUInt32).toInt32) &&& (255 : Int32)).toUInt32.toUInt16.toUInt32.toInt32), iv ((((p0.toUInt32 >>> ((10 : Int32) &&& 31).toUInt32).toInt32) &&& (255 : Int32)).toUInt32.toUInt16.toUInt32.toInt32), iv ((((p0.toUInt32 >>> ((18 : Int32) &&& 31).toUInt32).toInt32) &&& (255 : Int32)).toUInt32.toUInt16.toUInt32.toInt32)] []))
    obtain ⟨T116, h116, X116, e116, E116, A116, D116, -, st116⟩ := newO X hx hZ hown (hw _ (List.mem_of_getElem? (i := 7) rfl)) (hw _ (List.mem_of_getElem? (i := 8) rfl)) (hw _ (List.mem_of_getElem? (i := 9) rfl)) e0 (g := (mkF m 74 #[iv p0, iv (2 : Int32), iv ((((p0.toUInt32 >>> ((2 : Int32) &&& 31).toUInt32).toInt32) &&& (255 : Int32)).toUInt32.toUInt16.toUInt32.toInt32), iv ((((p0.toUInt32 >>> ((10 : Int32) &&& 31).toUInt32).toInt32) &&& (255 : Int32)).toUInt32.toUInt16.toUInt32.toInt32), iv ((((p0.toUInt32 >>> ((18 : Int32) &&& 31).toUInt32).toInt32) &&& (255 : Int32)).toUInt32.toUInt16.toUInt32.toInt32)] [])) rfl (hb hby own_d1_74) (by decide) (by decide)
    obtain ⟨b116, g116⟩ : ∃ z, z = h0.size := ⟨_, rfl⟩
    rw [← g116] at A116 D116 st116
    have y116 := own_lt A116.lt
    have z116 := E116.1
    have F116_value : Fld Z h116 b116 "java/lang/String" "value" "[B" .null := D116 (Or.inr (hw _ (List.mem_of_getElem? (i := 23) rfl))) (ty := (.array .byte)) (by decide)
    have F116_coder : Fld Z h116 b116 "java/lang/String" "coder" "B" (.int (0 : Int32)) := D116 (Or.inr (hw _ (List.mem_of_getElem? (i := 24) rfl))) (ty := .byte) (by decide)
    refine own_stW st116 ?_
    show own_GoesW p e below s _ _ (T116.setTop (mkF m 77 #[iv p0, iv (2 : Int32), iv ((((p0.toUInt32 >>> ((2 : Int32) &&& 31).toUInt32).toInt32) &&& (255 : Int32)).toUInt32.toUInt16.toUInt32.toInt32), iv ((((p0.toUInt32 >>> ((10 : Int32) &&& 31).toUInt32).toInt32) &&& (255 : Int32)).toUInt32.toUInt16.toUInt32.toInt32), iv ((((p0.toUInt32 >>> ((18 : Int32) &&& 31).toUInt32).toInt32) &&& (255 : Int32)).toUInt32.toUInt16.toUInt32.toInt32)] [(.ref b116)]))
    refine own_stW (fun _ k => XS.dup X116.here hx rfl (hb hby own_d1_77) rfl rfl k) ?_
    show own_GoesW p e below s _ _ (T116.setTop (mkF m 78 #[iv p0, iv (2 : Int32), iv ((((p0.toUInt32 >>> ((2 : Int32) &&& 31).toUInt32).toInt32) &&& (255 : Int32)).toUInt32.toUInt16.toUInt32.toInt32), iv ((((p0.toUInt32 >>> ((10 : Int32) &&& 31).toUInt32).toInt32) &&& (255 : Int32)).toUInt32.toUInt16.toUInt32.toInt32), iv ((((p0.toUInt32 >>> ((18 : Int32) &&& 31).toUInt32).toInt32) &&& (255 : Int32)).toUInt32.toUInt16.toUInt32.toInt32)] [(.ref b116), (.ref b116)]))
    refine own_stW (fun _ k => XS.iconst X116.here hx rfl (hb hby own_d1_78) k) ?_
    show own_GoesW p e below s _ _ (T116.setTop (mkF m 79 #[iv p0, iv (2 : Int32), iv ((((p0.toUInt32 >>> ((2 : Int32) &&& 31).toUInt32).toInt32) &&& (255 : Int32)).toUInt32.toUInt16.toUInt32.toInt32), iv ((((p0.toUInt32 >>> ((10 : Int32) &&& 31).toUInt32).toInt32) &&& (255 : Int32)).toUInt32.toUInt16.toUInt32.toInt32), iv ((((p0.toUInt32 >>> ((18 : Int32) &&& 31).toUInt32).toInt32) &&& (255 : Int32)).toUInt32.toUInt16.toUInt32.toInt32)] [(.int (2 : Int32)), (.ref b116), (.ref b116)]))
    obtain ⟨T117, h117, X117, e117, E117, A117, st117⟩ := own_newP X116 hx hZ (aty := .char) (hw _ (List.mem_of_getElem? (i := 10) rfl)) e116 (g := (mkF m 79 #[iv p0, iv (2 : Int32), iv ((((p0.toUInt32 >>> ((2 : Int32) &&& 31).toUInt32).toInt32) &&& (255 : Int32)).toUInt32.toUInt16.toUInt32.toInt32), iv ((((p0.toUInt32 >>> ((10 : Int32) &&& 31).toUInt32).toInt32) &&& (255 : Int32)).toUInt32.toUInt16.toUInt32.toInt32), iv ((((p0.toUInt32 >>> ((18 : Int32) &&& 31).toUInt32).toInt32) &&& (255 : Int32)).toUInt32.toUInt16.toUInt32.toInt32)] [(.int (2 : Int32)), (.ref b116), (.ref b116)])) rfl (hb hby own_d1_79) rfl (by decide) (cap := 2) (by decide) (by decide) (by decide) (by decide)
    obtain ⟨b117, g117⟩ : ∃ z, z = h116.size := ⟨_, rfl⟩
    rw [← g117] at A117 st117
    have V117 : own_Arf Z h117 b117 .char 2 (fun k => .int ((fun _ => (0 : Int32)) k)) := A117
    have y117 := own_lt V117.lt
    have z117 := E117.1
    refine own_stW st117 ?_
    show own_GoesW p e below s _ _ (T117.setTop (mkF m 81 #[iv p0, iv (2 : Int32), iv ((((p0.toUInt32 >>> ((2 : Int32) &&& 31).toUInt32).toInt32) &&& (255 : Int32)).toUInt32.toUInt16.toUInt32.toInt32), iv ((((p0.toUInt32 >>> ((10 : Int32) &&& 31).toUInt32).toInt32) &&& (255 : Int32)).toUInt32.toUInt16.toUInt32.toInt32), iv ((((p0.toUInt32 >>> ((18 : Int32) &&& 31).toUInt32).toInt32) &&& (255 : Int32)).toUInt32.toUInt16.toUInt32.toInt32)] [(.ref b117), (.ref b116), (.ref b116)]))
    refine own_stW (fun _ k => XS.dup X117.here hx rfl (hb hby own_d1_81) rfl rfl k) ?_
    show own_GoesW p e below s _ _ (T117.setTop (mkF m 82 #[iv p0, iv (2 : Int32), iv ((((p0.toUInt32 >>> ((2 : Int32) &&& 31).toUInt32).toInt32) &&& (255 : Int32)).toUInt32.toUInt16.toUInt32.toInt32), iv ((((p0.toUInt32 >>> ((10 : Int32) &&& 31).toUInt32).toInt32) &&& (255 : Int32)).toUInt32.toUInt16.toUInt32.toInt32), iv ((((p0.toUInt32 >>> ((18 : Int32) &&& 31).toUInt32).toInt32) &&& (255 : Int32)).toUInt32.toUInt16.toUInt32.toInt32)] [(.ref b117), (.ref b117), (.ref b116), (.ref b116)]))
    refine own_stW (fun _ k => XS.iconst X117.here hx rfl (hb hby own_d1_82) k) ?_
    show own_GoesW p e below s _ _ (T117.setTop (mkF m 83 #[iv p0, iv (2 : Int32), iv ((((p0.toUInt32 >>> ((2 : Int32) &&& 31).toUInt32).toInt32) &&& (255 : Int32)).toUInt32.toUInt16.toUInt32.toInt32), iv ((((p0.toUInt32 >>> ((10 : Int32) &&& 31).toUInt32).toInt32) &&& (255 : Int32)).toUInt32.toUInt16.toUInt32.toInt32), iv ((((p0.toUInt32 >>> ((18 : Int32) &&& 31).toUInt32).toInt32) &&& (255 : Int32)).toUInt32.toUInt16.toUInt32.toInt32)] [(.int (0 : Int32)), (.ref b117), (.ref b117), (.ref b116), (.ref b116)]))
    refine own_stW (fun _ k => XS.iloadN X117.here hx rfl (hb hby own_d1_83) rfl  k) ?_
    show own_GoesW p e below s _ _ (T117.setTop (mkF m 84 #[iv p0, iv (2 : Int32), iv ((((p0.toUInt32 >>> ((2 : Int32) &&& 31).toUInt32).toInt32) &&& (255 : Int32)).toUInt32.toUInt16.toUInt32.toInt32), iv ((((p0.toUInt32 >>> ((10 : Int32) &&& 31).toUInt32).toInt32) &&& (255 : Int32)).toUInt32.toUInt16.toUInt32.toInt32), iv ((((p0.toUInt32 >>> ((18 : Int32) &&& 31).toUInt32).toInt32) &&& (255 : Int32)).toUInt32.toUInt16.toUInt32.toInt32)] [(.int ((((p0.toUInt32 >>> ((2 : Int32) &&& 31).toUInt32).toInt32) &&& (255 : Int32)).toUInt32.toUInt16.toUInt32.toInt32)), (.int (0 : Int32)), (.ref b117), (.ref b117), (.ref b116), (.ref b116)]))
    obtain ⟨T118, h118, X118, e118, W118, A118, st118⟩ := own_stC X117 hx hZ e117 V117 (j := (0 : Int32)) (by decide) (g := (mkF m 84 #[iv p0, iv (2 : Int32), iv ((((p0.toUInt32 >>> ((2 : Int32) &&& 31).toUInt32).toInt32) &&& (255 : Int32)).toUInt32.toUInt16.toUInt32.toInt32), iv ((((p0.toUInt32 >>> ((10 : Int32) &&& 31).toUInt32).toInt32) &&& (255 : Int32)).toUInt32.toUInt16.toUInt32.toInt32), iv ((((p0.toUInt32 >>> ((18 : Int32) &&& 31).toUInt32).toInt32) &&& (255 : Int32)).toUInt32.toUInt16.toUInt32.toInt32)] [(.int ((((p0.toUInt32 >>> ((2 : Int32) &&& 31).toUInt32).toInt32) &&& (255 : Int32)).toUInt32.toUInt16.toUInt32.toInt32)), (.int (0 : Int32)), (.ref b117), (.ref b117), (.ref b116), (.ref b116)])) rfl rfl (hb hby own_d1_84)
    have V118 : own_Arf Z h118 b117 .char 2 (fun k => .int ((fun k => if k = 0 then (nar .char ((((p0.toUInt32 >>> ((2 : Int32) &&& 31).toUInt32).toInt32) &&& (255 : Int32)).toUInt32.toUInt16.toUInt32.toInt32)) else (fun _ => (0 : Int32)) k) k)) := A118
    have z118 := W118.size
    have N118 := Fr.snoc X118 N0 (by omega)
    refine own_stW st118 ?_
    show own_GoesW p e below s _ _ (T118.setTop (mkF m 85 #[iv p0, iv (2 : Int32), iv ((((p0.toUInt32 >>> ((2 : Int32) &&& 31).toUInt32).toInt32) &&& (255 : Int32)).toUInt32.toUInt16.toUInt32.toInt32), iv ((((p0.toUInt32 >>> ((10 : Int32) &&& 31).toUInt32).toInt32) &&& (255 : Int32)).toUInt32.toUInt16.toUInt32.toInt32), iv ((((p0.toUInt32 >>> ((18 : Int32) &&& 31).toUInt32).toInt32) &&& (255 : Int32)).toUInt32.toUInt16.toUInt32.toInt32)] [(.ref b117), (.ref b116), (.ref b116)]))
    refine own_stW (fun _ k => XS.dup X118.here hx rfl (hb hby own_d1_85) rfl rfl k) ?_
    show own_GoesW p e below s _ _ (T118.setTop (mkF m 86 #[iv p0, iv (2 : Int32), iv ((((p0.toUInt32 >>> ((2 : Int32) &&& 31).toUInt32).toInt32) &&& (255 : Int32)).toUInt32.toUInt16.toUInt32.toInt32), iv ((((p0.toUInt32 >>> ((10 : Int32) &&& 31).toUInt32).toInt32) &&& (255 : Int32)).toUInt32.toUInt16.toUInt32.toInt32), iv ((((p0.toUInt32 >>> ((18 : Int32) &&& 31).toUInt32).toInt32) &&& (255 : Int32)).toUInt32.toUInt16.toUInt32.toInt32)] [(.ref b117), (.ref b117), (.ref b116), (.ref b116)]))
    refine own_stW (fun _ k => XS.iconst X118.here hx rfl (hb hby own_d1_86) k) ?_
    show own_GoesW p e below s _ _ (T118.setTop (mkF m 87 #[iv p0, iv (2 : Int32), iv ((((p0.toUInt32 >>> ((2 : Int32) &&& 31).toUInt32).toInt32) &&& (255 : Int32)).toUInt32.toUInt16.toUInt32.toInt32), iv ((((p0.toUInt32 >>> ((10 : Int32) &&& 31).toUInt32).toInt32) &&& (255 : Int32)).toUInt32.toUInt16.toUInt32.toInt32), iv ((((p0.toUInt32 >>> ((18 : Int32) &&& 31).toUInt32).toInt32) &&& (255 : Int32)).toUInt32.toUInt16.toUInt32.toInt32)] [(.int (1 : Int32)), (.ref b117), (.ref b117), (.ref b116), (.ref b116)]))
    refine own_stW (fun _ k => XS.iloadN X118.here hx rfl (hb hby own_d1_87) rfl  k) ?_
    show own_GoesW p e below s _ _ (T118.setTop (mkF m 88 #[iv p0, iv (2 : Int32), iv ((((p0.toUInt32 >>> ((2 : Int32) &&& 31).toUInt32).toInt32) &&& (255 : Int32)).toUInt32.toUInt16.toUInt32.toInt32), iv ((((p0.toUInt32 >>> ((10 : Int32) &&& 31).toUInt32).toInt32) &&& (255 : Int32)).toUInt32.toUInt16.toUInt32.toInt32), iv ((((p0.toUInt32 >>> ((18 : Int32) &&& 31).toUInt32).toInt32) &&& (255 : Int32)).toUInt32.toUInt16.toUInt32.toInt32)] [(.int ((((p0.toUInt32 >>> ((10 : Int32) &&& 31).toUInt32).toInt32) &&& (255 : Int32)).toUInt32.toUInt16.toUInt32.toInt32)), (.int (1 : Int32)), (.ref b117), (.ref b117), (.ref b116), (.ref b116)]))
    obtain ⟨T119, h119, X119, e119, W119, A119, st119⟩ := own_stC X118 hx hZ e118 V118 (j := (1 : Int32)) (by decide) (g := (mkF m 88 #[iv p0, iv (2 : Int32), iv ((((p0.toUInt32 >>> ((2 : Int32) &&& 31).toUInt32).toInt32) &&& (255 : Int32)).toUInt32.toUInt16.toUInt32.toInt32), iv ((((p0.toUInt32 >>> ((10 : Int32) &&& 31).toUInt32).toInt32) &&& (255 : Int32)).toUInt32.toUInt16.toUInt32.toInt32), iv ((((p0.toUInt32 >>> ((18 : Int32) &&& 31).toUInt32).toInt32) &&& (255 : Int32)).toUInt32.toUInt16.toUInt32.toInt32)] [(.int ((((p0.toUInt32 >>> ((10 : Int32) &&& 31).toUInt32).toInt32) &&& (255 : Int32)).toUInt32.toUInt16.toUInt32.toInt32)), (.int (1 : Int32)), (.ref b117), (.ref b117), (.ref b116), (.ref b116)])) rfl rfl (hb hby own_d1_88)
    have V119 : own_Arf Z h119 b117 .char 2 (fun k => .int ((fun k => if k = 1 then (nar .char ((((p0.toUInt32 >>> ((10 : Int32) &&& 31).toUInt32).toInt32) &&& (255 : Int32)).toUInt32.toUInt16.toUInt32.toInt32)) else (fun k => if k = 0 then (nar .char ((((p0.toUInt32 >>> ((2 : Int32) &&& 31).toUInt32).toInt32) &&& (255 : Int32)).toUInt32.toUInt16.toUInt32.toInt32)) else (fun _ => (0 : Int32)) k) k) k)) := A119
    have z119 := W119.size
    have N119 := Fr.snoc X119 N118 (by omega)
    refine own_stW st119 ?_
    show own_GoesW p e below s _ _ (T119.setTop (mkF m 89 #[iv p0, iv (2 : Int32), iv ((((p0.toUInt32 >>> ((2 : Int32) &&& 31).toUInt32).toInt32) &&& (255 : Int32)).toUInt32.toUInt16.toUInt32.toInt32), iv ((((p0.toUInt32 >>> ((10 : Int32) &&& 31).toUInt32).toInt32) &&& (255 : Int32)).toUInt32.toUInt16.toUInt32.toInt32), iv ((((p0.toUInt32 >>> ((18 : Int32) &&& 31).toUInt32).toInt32) &&& (255 : Int32)).toUInt32.toUInt16.toUInt32.toInt32)] [(.ref b117), (.ref b116), (.ref b116)]))
    have hkn : (2 : Int) = own_U p0 % 4 := by have e : (2 : Int32).toInt = 2 := (by decide); omega
    have hg0 : ((fun k => if k = 1 then (nar .char ((((p0.toUInt32 >>> ((10 : Int32) &&& 31).toUInt32).toInt32) &&& (255 : Int32)).toUInt32.toUInt16.toUInt32.toInt32)) else (fun k => if k = 0 then (nar .char ((((p0.toUInt32 >>> ((2 : Int32) &&& 31).toUInt32).toInt32) &&& (255 : Int32)).toUInt32.toUInt16.toUInt32.toInt32)) else (fun _ => (0 : Int32)) k) k) 0).toInt = own_U p0 / 4 % 256 := own_c0 p0
    have hg1 : ((fun k => if k = 1 then (nar .char ((((p0.toUInt32 >>> ((10 : Int32) &&& 31).toUInt32).toInt32) &&& (255 : Int32)).toUInt32.toUInt16.toUInt32.toInt32)) else (fun k => if k = 0 then (nar .char ((((p0.toUInt32 >>> ((2 : Int32) &&& 31).toUInt32).toInt32) &&& (255 : Int32)).toUInt32.toUInt16.toUInt32.toInt32)) else (fun _ => (0 : Int32)) k) k) 1).toInt = own_U p0 / 1024 % 256 := own_c1 p0
    generalize (fun k => if k = 1 then (nar .char ((((p0.toUInt32 >>> ((10 : Int32) &&& 31).toUInt32).toInt32) &&& (255 : Int32)).toUInt32.toUInt16.toUInt32.toInt32)) else (fun k => if k = 0 then (nar .char ((((p0.toUInt32 >>> ((2 : Int32) &&& 31).toUInt32).toInt32) &&& (255 : Int32)).toUInt32.toUInt16.toUInt32.toInt32)) else (fun _ => (0 : Int32)) k) k) = fc at V119 hg0 hg1
    have hch : ∀ j, j < 2 → 0 ≤ (fc j).toInt ∧ (fc j).toInt ≤ 255 := by
      intro j hj
      have q : j = 0 ∨ j = 1 := by omega
      rcases q with rfl | rfl <;> omega
    have f121 := (((A116.ext E117).wr W118).wr W119)
    have f122 := (((F116_value.ext E117).other W118 (Or.inl (own_ne (by omega)))).other W119 (Or.inl (own_ne (by omega))))
    have f123 := (((F116_coder.ext E117).other W118 (Or.inl (own_ne (by omega)))).other W119 (Or.inl (own_ne (by omega))))
    have f124 := ((((S1.ext E116).ext E117).wr W118).wr W119)
    obtain ⟨v120, T120, L120, X120, Q120, st120⟩ := own_callI X119 hx hZ (y := (⟨"java/lang/String", "<init>", "([C)V"⟩ : MethodName)) hown (hw _ (List.mem_of_getElem? (i := 11) rfl)) (hw _ (List.mem_of_getElem? (i := 12) rfl)) (hw _ (List.mem_of_getElem? (i := 9) rfl)) (hw _ (List.mem_of_getElem? (i := 13) rfl)) rfl (by decide) (W := 1) (rest := [(.ref b116)]) (argsL := [(.ref b117)]) (a := b116) (rmS2 l Z a0 hw [] b116 b117 _ cs _ _  h119 n0 (by omega) f121 f122 f123 V119 hch f124 hcs (by omega) (by omega)) (by decide) (by decide) (by decide) (by decide) e119 own_pd4 rfl (g := (mkF m 89 #[iv p0, iv (2 : Int32), iv ((((p0.toUInt32 >>> ((2 : Int32) &&& 31).toUInt32).toInt32) &&& (255 : Int32)).toUInt32.toUInt16.toUInt32.toInt32), iv ((((p0.toUInt32 >>> ((10 : Int32) &&& 31).toUInt32).toInt32) &&& (255 : Int32)).toUInt32.toUInt16.toUInt32.toInt32), iv ((((p0.toUInt32 >>> ((18 : Int32) &&& 31).toUInt32).toInt32) &&& (255 : Int32)).toUInt32.toUInt16.toUInt32.toInt32)] [(.ref b117), (.ref b116), (.ref b116)])) rfl (by rw [hml]; rfl) rfl (by show 2 * 0 + _ ≤ _; exact Nat.le_of_eq rfl) (hb hby own_d1_89)
    obtain ⟨rfl, N120q, K120, b120, g120, y120, A120, F120_value, F120_coder, V120⟩ := Q120
    have z120 := K120.1
    have N120 := Fr.app N119 N120q
    refine own_stW st120 ?_
    show own_GoesW p e below s _ _ (T120.setTop (mkF m 92 #[iv p0, iv (2 : Int32), iv ((((p0.toUInt32 >>> ((2 : Int32) &&& 31).toUInt32).toInt32) &&& (255 : Int32)).toUInt32.toUInt16.toUInt32.toInt32), iv ((((p0.toUInt32 >>> ((10 : Int32) &&& 31).toUInt32).toInt32) &&& (255 : Int32)).toUInt32.toUInt16.toUInt32.toInt32), iv ((((p0.toUInt32 >>> ((18 : Int32) &&& 31).toUInt32).toInt32) &&& (255 : Int32)).toUInt32.toUInt16.toUInt32.toInt32)] [(.ref b116)]))
    exact own_retRW X120 hx hS (by omega) hlk hret rfl rfl (hb hby own_d1_92) (by decide) (by decide) ⟨b116, 2, _, rfl, ⟨A120, F120_coder, b120, F120_value, V120⟩, own_mkG hkn hch (fun _ => hg0) (fun _ => hg1) (fun q => absurd q (by decide)), N120, ((((((Keep.refl h0 []).ext E116).ext E117).wr W118 (Or.inr (by omega))).wr W119 (Or.inr (by omega))).trans K120 (allS (Or.inr (by omega)) all0)), own_E.top (F0.keep ((((((Keep.refl h0 []).ext E116).ext E117).wr W118 (Or.inr (by omega))).wr W119 (Or.inr (by omega))).trans K120 (allS (Or.inr (by omega)) all0)) (fun _ q => nomatch q)) X120.warmed⟩
  · show own_GoesW p e below s _ _ (T.setTop (mkF m 4 #[iv p0, iv (3 : Int32), .unset, .unset, .unset] []))
    refine own_stW (fun _ k => XS.iloadN X.here hx rfl (hb hby own_d1_4) rfl  k) ?_
    show own_GoesW p e below s _ _ (T.setTop (mkF m 5 #[iv p0, iv (3 : Int32), .unset, .unset, .unset] [(.int p0)]))
    refine own_stW (fun _ k => XS.iconst X.here hx rfl (hb hby own_d1_5) k) ?_
    show own_GoesW p e below s _ _ (T.setTop (mkF m 6 #[iv p0, iv (3 : Int32), .unset, .unset, .unset] [(.int (2 : Int32)), (.int p0)]))
    refine own_stW (fun _ k => XS.iushr X.here hx rfl (hb hby own_d1_6) rfl k) ?_
    show own_GoesW p e below s _ _ (T.setTop (mkF m 7 #[iv p0, iv (3 : Int32), .unset, .unset, .unset] [(.int ((p0.toUInt32 >>> ((2 : Int32) &&& 31).toUInt32).toInt32))]))
    refine own_stW (fun _ k => XS.sipush X.here hx rfl (hb hby own_d1_7) k) ?_
    show own_GoesW p e below s _ _ (T.setTop (mkF m 10 #[iv p0, iv (3 : Int32), .unset, .unset, .unset] [(.int (255 : Int32)), (.int ((p0.toUInt32 >>> ((2 : Int32) &&& 31).toUInt32).toInt32))]))
    refine own_stW (fun _ k => XS.iand X.here hx rfl (hb hby own_d1_10) rfl k) ?_
    show own_GoesW p e below s _ _ (T.setTop (mkF m 11 #[iv p0, iv (3 : Int32), .unset, .unset, .unset] [(.int (((p0.toUInt32 >>> ((2 : Int32) &&& 31).toUInt32).toInt32) &&& (255 : Int32)))]))
    refine own_stW (fun _ k => XS.i2c X.here hx rfl (hb hby own_d1_11) rfl k) ?_
    show own_GoesW p e below s _ _ (T.setTop (mkF m 12 #[iv p0, iv (3 : Int32), .unset, .unset, .unset] [(.int ((((p0.toUInt32 >>> ((2 : Int32) &&& 31).toUInt32).toInt32) &&& (255 : Int32)).toUInt32.toUInt16.toUInt32.toInt32))]))
    refine own_stW (fun _ k => XS.istoreN X.here hx rfl (hb hby own_d1_12) rfl (l' := #[iv p0, iv (3 : Int32), iv ((((p0.toUInt32 >>> ((2 : Int32) &&& 31).toUInt32).toInt32) &&& (255 : Int32)).toUInt32.toUInt16.toUInt32.toInt32), .unset, .unset]) rfl k) ?_
    show own_GoesW p e below s _ _ (T.setTop (mkF m 13 #[iv p0, iv (3 : Int32), iv ((((p0.toUInt32 >>> ((2 : Int32) &&& 31).toUInt32).toInt32) &&& (255 : Int32)).toUInt32.toUInt16.toUInt32.toInt32), .unset, .unset] []))
    refine own_stW (fun _ k => XS.iloadN X.here hx rfl (hb hby own_d1_13) rfl  k) ?_
    show own_GoesW p e below s _ _ (T.setTop (mkF m 14 #[iv p0, iv (3 : Int32), iv ((((p0.toUInt32 >>> ((2 : Int32) &&& 31).toUInt32).toInt32) &&& (255 : Int32)).toUInt32.toUInt16.toUInt32.toInt32), .unset, .unset] [(.int p0)]))
    refine own_stW (fun _ k => XS.bipush X.here hx rfl (hb hby own_d1_14) k) ?_
    show own_GoesW p e below s _ _ (T.setTop (mkF m 16 #[iv p0, iv (3 : Int32), iv ((((p0.toUInt32 >>> ((2 : Int32) &&& 31).toUInt32).toInt32) &&& (255 : Int32)).toUInt32.toUInt16.toUInt32.toInt32), .unset, .unset] [(.int (10 : Int32)), (.int p0)]))
    refine own_stW (fun _ k => XS.iushr X.here hx rfl (hb hby own_d1_16) rfl k) ?_
    show own_GoesW p e below s _ _ (T.setTop (mkF m 17 #[iv p0, iv (3 : Int32), iv ((((p0.toUInt32 >>> ((2 : Int32) &&& 31).toUInt32).toInt32) &&& (255 : Int32)).toUInt32.toUInt16.toUInt32.toInt32), .unset, .unset] [(.int ((p0.toUInt32 >>> ((10 : Int32) &&& 31).toUInt32).toInt32))]))
    refine own_stW (fun _ k => XS.sipush X.here hx rfl (hb hby own_d1_17) k) ?_
    show own_GoesW p e below s _ _ (T.setTop (mkF m 20 #[iv p0, iv (3 : Int32), iv ((((p0.toUInt32 >>> ((2 : Int32) &&& 31).toUInt32).toInt32) &&& (255 : Int32)).toUInt32.toUInt16.toUInt32.toInt32), .unset, .unset] [(.int (255 : Int32)), (.int ((p0.toUInt32 >>> ((10 : Int32) &&& 31).toUInt32).toInt32))]))
    refine own_stW (fun _ k => XS.iand X.here hx rfl (hb hby own_d1_20) rfl k) ?_
    show own_GoesW p e below s _ _ (T.setTop (mkF m 21 #[iv p0, iv (3 : Int32), iv ((((p0.toUInt32 >>> ((2 : Int32) &&& 31).toUInt32).toInt32) &&& (255 : Int32)).toUInt32.toUInt16.toUInt32.toInt32), .unset, .unset] [(.int (((p0.toUInt32 >>> ((10 : Int32) &&& 31).toUInt32).toInt32) &&& (255 : Int32)))]))
    refine own_stW (fun _ k => XS.i2c X.here hx rfl (hb hby own_d1_21) rfl k) ?_
    show own_GoesW p e below s _ _ (T.setTop (mkF m 22 #[iv p0, iv (3 : Int32), iv ((((p0.toUInt32 >>> ((2 : Int32) &&& 31).toUInt32).toInt32) &&& (255 : Int32)).toUInt32.toUInt16.toUInt32.toInt32), .unset, .unset] [(.int ((((p0.toUInt32 >>> ((10 : Int32) &&& 31).toUInt32).toInt32) &&& (255 : Int32)).toUInt32.toUInt16.toUInt32.toInt32))]))
    refine own_stW (fun _ k => XS.istoreN X.here hx rfl (hb hby own_d1_22) rfl (l' := #[iv p0, iv (3 : Int32), iv ((((p0.toUInt32 >>> ((2 : Int32) &&& 31).toUInt32).toInt32) &&& (255 : Int32)).toUInt32.toUInt16.toUInt32.toInt32), iv ((((p0.toUInt32 >>> ((10 : Int32) &&& 31).toUInt32).toInt32) &&& (255 : Int32)).toUInt32.toUInt16.toUInt32.toInt32), .unset]) rfl k) ?_
    show own_GoesW p e below s _ _ (T.setTop (mkF m 23 #[iv p0, iv (3 : Int32), iv ((((p0.toUInt32 >>> ((2 : Int32) &&& 31).toUInt32).toInt32) &&& (255 : Int32)).toUInt32.toUInt16.toUInt32.toInt32), iv ((((p0.toUInt32 >>> ((10 : Int32) &&& 31).toUInt32).toInt32) &&& (255 : Int32)).toUInt32.toUInt16.toUInt32.toInt32), .unset] []))
    refine own_stW (fun _ k => XS.iloadN X.here hx rfl (hb hby own_d1_23) rfl  k) ?_
    show own_GoesW p e below s _ _ (T.setTop (mkF m 24 #[iv p0, iv (3 : Int32), iv ((((p0.toUInt32 >>> ((2 : Int32) &&& 31).toUInt32).toInt32) &&& (255 : Int32)).toUInt32.toUInt16.toUInt32.toInt32), iv ((((p0.toUInt32 >>> ((10 : Int32) &&& 31).toUInt32).toInt32) &&& (255 : Int32)).toUInt32.toUInt16.toUInt32.toInt32), .unset] [(.int p0)]))
    refine own_stW (fun _ k => XS.bipush X.here hx rfl (hb hby own_d1_24) k) ?_
    show own_GoesW p e below s _ _ (T.setTop (mkF m 26 #[iv p0, iv (3 : Int32), iv ((((p0.toUInt32 >>> ((2 : Int32) &&& 31).toUInt32).toInt32) &&& (255 : Int32)).toUInt32.toUInt16.toUInt32.toInt32), iv ((((p0.toUInt32 >>> ((10 : Int32) &&& 31).toUInt32).toInt32) &&& (255 : Int32)).toUInt32.toUInt16.toUInt32.toInt32), .unset] [(.int (18 : Int32)), (.int p0)]))
    refine own_stW (fun _ k => XS.iushr X.here hx rfl (hb hby own_d1_26) rfl k) ?_
    show own_GoesW p e below s _ _ (T.setTop (mkF m 27 #[iv p0, iv (3 : Int32), iv ((((p0.toUInt32 >>> ((2 : Int32) &&& 31).toUInt32).toInt32) &&& (255 : Int32)).toUInt32.toUInt16.toUInt32.toInt32), iv ((((p0.toUInt32 >>> ((10 : Int32) &&& 31).toUInt32).toInt32) &&& (255 : Int32)).toUInt32.toUInt16.toUInt32.toInt32), .unset] [(.int ((p0.toUInt32 >>> ((18 : Int32) &&& 31).toUInt32).toInt32))]))
    refine own_stW (fun _ k => XS.sipush X.here hx rfl (hb hby own_d1_27) k) ?_
    show own_GoesW p e below s _ _ (T.setTop (mkF m 30 #[iv p0, iv (3 : Int32), iv ((((p0.toUInt32 >>> ((2 : Int32) &&& 31).toUInt32).toInt32) &&& (255 : Int32)).toUInt32.toUInt16.toUInt32.toInt32), iv ((((p0.toUInt32 >>> ((10 : Int32) &&& 31).toUInt32).toInt32) &&& (255 : Int32)).toUInt32.toUInt16.toUInt32.toInt32), .unset] [(.int (255 : Int32)), (.int ((p0.toUInt32 >>> ((18 : Int32) &&& 31).toUInt32).toInt32))]))
    refine own_stW (fun _ k => XS.iand X.here hx rfl (hb hby own_d1_30) rfl k) ?_
    show own_GoesW p e below s _ _ (T.setTop (mkF m 31 #[iv p0, iv (3 : Int32), iv ((((p0.toUInt32 >>> ((2 : Int32) &&& 31).toUInt32).toInt32) &&& (255 : Int32)).toUInt32.toUInt16.toUInt32.toInt32), iv ((((p0.toUInt32 >>> ((10 : Int32) &&& 31).toUInt32).toInt32) &&& (255 : Int32)).toUInt32.toUInt16.toUInt32.toInt32), .unset] [(.int (((p0.toUInt32 >>> ((18 : Int32) &&& 31).toUInt32).toInt32) &&& (255 : Int32)))]))
    refine own_stW (fun _ k => XS.i2c X.here hx rfl (hb hby own_d1_31) rfl k) ?_
    show own_GoesW p e below s _ _ (T.setTop (mkF m 32 #[iv p0, iv (3 : Int32), iv ((((p0.toUInt32 >>> ((2 : Int32) &&& 31).toUInt32).toInt32) &&& (255 : Int32)).toUInt32.toUInt16.toUInt32.toInt32), iv ((((p0.toUInt32 >>> ((10 : Int32) &&& 31).toUInt32).toInt32) &&& (255 : Int32)).toUInt32.toUInt16.toUInt32.toInt32), .unset] [(.int ((((p0.toUInt32 >>> ((18 : Int32) &&& 31).toUInt32).toInt32) &&& (255 : Int32)).toUInt32.toUInt16.toUInt32.toInt32))]))
    refine own_stW (fun _ k => XS.istore X.here hx rfl (hb hby own_d1_32) rfl (l' := #[iv p0, iv (3 : Int32), iv ((((p0.toUInt32 >>> ((2 : Int32) &&& 31).toUInt32).toInt32) &&& (255 : Int32)).toUInt32.toUInt16.toUInt32.toInt32), iv ((((p0.toUInt32 >>> ((10 : Int32) &&& 31).toUInt32).toInt32) &&& (255 : Int32)).toUInt32.toUInt16.toUInt32.toInt32), iv ((((p0.toUInt32 >>> ((18 : Int32) &&& 31).toUInt32).toInt32) &&& (255 : Int32)).toUInt32.toUInt16.toUInt32.toInt32)]) rfl k) ?_
    show own_GoesW p e below s _ _ (T.setTop (mkF m 34 #[iv p0, iv (3 : Int32), iv ((((p0.toUInt32 >>> ((2 : Int32) &&& 31).toUInt32).toInt32) &&& (255 : Int32)).toUInt32.toUInt16.toUInt32.toInt32), iv ((((p0.toUInt32 >>> ((10 : Int32) &&& 31).toUInt32).toInt32) &&& (255 : Int32)).toUInt32.toUInt16.toUInt32.toInt32), iv ((((p0.toUInt32 >>> ((18 : Int32) &&& 31).toUInt32).toInt32) &&& (255 : Int32)).toUInt32.toUInt16.toUInt32.toInt32)] []))
    refine own_stW (fun _ k => XS.iloadN X.here hx rfl (hb hby own_d1_34) rfl  k) ?_
    show own_GoesW p e below s _ _ (T.setTop (mkF m 35 #[iv p0, iv (3 : Int32), iv ((((p0.toUInt32 >>> ((2 : Int32) &&& 31).toUInt32).toInt32) &&& (255 : Int32)).toUInt32.toUInt16.toUInt32.toInt32), iv ((((p0.toUInt32 >>> ((10 : Int32) &&& 31).toUInt32).toInt32) &&& (255 : Int32)).toUInt32.toUInt16.toUInt32.toInt32), iv ((((p0.toUInt32 >>> ((18 : Int32) &&& 31).toUInt32).toInt32) &&& (255 : Int32)).toUInt32.toUInt16.toUInt32.toInt32)] [(.int (3 : Int32))]))
    refine own_stW (fun _ k => XS.ifYes X.here hx rfl (pc0 := 35) (pc' := 49) rfl (hb hby own_d1_35) rfl ((if0 _ _).trans (feq (by decide : ¬ ((3 : Int32) = (0 : Int32)))).2) (by decide) (by decide) k) ?_
    show own_GoesW p e below s _ _ (T.setTop (mkF m 49 #[iv p0, iv (3 : Int32), iv ((((p0.toUInt32 >>> ((2 : Int32) &&& 31).toUInt32).toInt32) &&& (255 : Int32)).toUInt32.toUInt16.toUInt32.toInt32), iv ((((p0.toUInt32 >>> ((10 : Int32) &&& 31).toUInt32).toInt32) &&& (255 : Int32)).toUInt32.toUInt16.toUInt32.toInt32), iv ((((p0.toUInt32 >>> ((18 : Int32) &&& 31).toUInt32).toInt32) &&& (255 : Int32)).toUInt32.toUInt16.toUInt32.toInt32)] []))
    refine own_stW (fun _ k => XS.iloadN X.here hx rfl (hb hby own_d1_49) rfl  k) ?_
    show own_GoesW p e below s _ _ (T.setTop (mkF m 50 #[iv p0, iv (3 : Int32), iv ((((p0.toUInt32 >>> ((2 : Int32) &&& 31).toUInt32).toInt32) &&& (255 : Int32)).toUInt32.toUInt16.toUInt32.toInt32), iv ((((p0.toUInt32 >>> ((10 : Int32) &&& 31).toUInt32).toInt32) &&& (255 : Int32)).toUInt32.toUInt16.toUInt32.toInt32), iv ((((p0.toUInt32 >>> ((18 : Int32) &&& 31).toUInt32).toInt32) &&& (255 : Int32)).toUInt32.toUInt16.toUInt32.toInt32)] [(.int (3 : Int32))]))
    refine own_stW (fun _ k => XS.iconst X.here hx rfl (hb hby own_d1_50) k) ?_
    show own_GoesW p e below s _ _ (T.setTop (mkF m 51 #[iv p0, iv (3 : Int32), iv ((((p0.toUInt32 >>> ((2 : Int32) &&& 31).toUInt32).toInt32) &&& (255 : Int32)).toUInt32.toUInt16.toUInt32.toInt32), iv ((((p0.toUInt32 >>> ((10 : Int32) &&& 31).toUInt32).toInt32) &&& (255 : Int32)).toUInt32.toUInt16.toUInt32.toInt32), iv ((((p0.toUInt32 >>> ((18 : Int32) &&& 31).toUInt32).toInt32) &&& (255 : Int32)).toUInt32.toUInt16.toUInt32.toInt32)] [(.int (1 : Int32)), (.int (3 : Int32))]))
    refine own_stW (fun _ k => XS.icmpYes X.here hx rfl (pc0 := 51) (pc' := 69) rfl (hb hby own_d1_51) rfl (feq (by decide : ¬ ((3 : Int32) = (1 : Int32)))).2 (by decide) (by decide) k) ?_
    show own_GoesW p e below s _ _ (T.setTop (mkF m 69 #[iv p0, iv (3 : Int32), iv ((((p0.toUInt32 >>> ((2 : Int32) &&& 31).toUInt32).toInt32) &&& (255 : Int32)).toUInt32.toUInt16.toUInt32.toInt32), iv ((((p0.toUInt32 >>> ((10 : Int32) &&& 31).toUInt32).toInt32) &&& (255 : Int32)).toUInt32.toUInt16.toUInt32.toInt32), iv ((((p0.toUInt32 >>> ((18 : Int32) &&& 31).toUInt32).toInt32) &&& (255 : Int32)).toUInt32.toUInt16.toUInt32.toInt32)] []))
    refine own_stW (fun _ k => XS.iloadN X.here hx rfl (hb hby own_d1_69) rfl  k) ?_
    show own_GoesW p e below s _ _ (T.setTop (mkF m 70 #[iv p0, iv (3 : Int32), iv ((((p0.toUInt32 >>> ((2 : Int32) &&& 31).toUInt32).toInt32) &&& (255 : Int32)).toUInt32.toUInt16.toUInt32.toInt32), iv ((((p0.toUInt32 >>> ((10 : Int32) &&& 31).toUInt32).toInt32) &&& (255 : Int32)).toUInt32.toUInt16.toUInt32.toInt32), iv ((((p0.toUInt32 >>> ((18 : Int32) &&& 31).toUInt32).toInt32) &&& (255 : Int32)).toUInt32.toUInt16.toUInt32.toInt32)] [(.int (3 : Int32))]))
    refine own_stW (fun _ k => XS.iconst X.here hx rfl (hb hby own_d1_70) k) ?_
    show own_GoesW p e below s _ _ (T.setTop (mkF m 71 #[iv p0, iv (3 : Int32), iv ((((p0.toUInt32 >>> ((2 : Int32) &&& 31).toUInt32).toInt32) &&& (255 : Int32)).toUInt32.toUInt16.toUInt32.toInt32), iv ((((p0.toUInt32 >>> ((10 : Int32) &&& 31).toUInt32).toInt32) &&& (255 : Int32)).toUInt32.toUInt16.toUInt32.toInt32), iv ((((p0.toUInt32 >>> ((18 : Int32) &&& 31).toUInt32).toInt32) &&& (255 : Int32)).toUInt32.toUInt16.toUInt32.toInt32)] [(.int (2 : Int32)), (.int (3 : Int32))]))
    refine own_stW (fun _ k => XS.icmpYes X.here hx rfl (pc0 := 71) (pc' := 93) rfl (hb hby own_d1_71) rfl (feq (by decide : ¬ ((3 : Int32) = (2 : Int32)))).2 (by decide) (by decide) k) ?_
    show own_GoesW p e below s _ _ (T.setTop (mkF m 93 #[iv p0, iv (3 : Int32), iv ((((p0.toUInt32 >>> ((2 : Int32) &&& 31).toUInt32).toInt32) &&& (255 : Int32)).toUInt32.toUInt16.toUInt32.toInt32), iv ((((p0.toUInt32 >>> ((10 : Int32) &&& 31).toUInt32).toInt32) &&& (255 : Int32)).toUInt32.toUInt16.toUInt32.toInt32), iv ((((p0.toUInt32 >>> ((18 : Int32) &&& 31).toUInt32).toInt32) &&& (255 : Int32)).toUInt32.toUInt16.toUInt32.toInt32)] []))
    obtain ⟨T125, h125, X125, e125, E125, A125, D125, -, st125⟩ := newO X hx hZ hown (hw _ (List.mem_of_getElem? (i := 7) rfl)) (hw _ (List.mem_of_getElem? (i := 8) rfl)) (hw _ (List.mem_of_getElem? (i := 9) rfl)) e0 (g := (mkF m 93 #[iv p0, iv (3 : Int32), iv ((((p0.toUInt32 >>> ((2 : Int32) &&& 31).toUInt32).toInt32) &&& (255 : Int32)).toUInt32.toUInt16.toUInt32.toInt32), iv ((((p0.toUInt32 >>> ((10 : Int32) &&& 31).toUInt32).toInt32) &&& (255 : Int32)).toUInt32.toUInt16.toUInt32.toInt32), iv ((((p0.toUInt32 >>> ((18 : Int32) &&& 31).toUInt32).toInt32) &&& (255 : Int32)).toUInt32.toUInt16.toUInt32.toInt32)] [])) rfl (hb hby own_d1_93) (by decide) (by decide)
    obtain ⟨b125, g125⟩ : ∃ z, z = h0.size := ⟨_, rfl⟩
    rw [← g125] at A125 D125 st125
    have y125 := own_lt A125.lt
    have z125 := E125.1
    have F125_value : Fld Z h125 b125 "java/lang/String" "value" "[B" .null := D125 (Or.inr (hw _ (List.mem_of_getElem? (i := 23) rfl))) (ty := (.array .byte)) (by decide)
    have F125_coder : Fld Z h125 b125 "java/lang/String" "coder" "B" (.int (0 : Int32)) := D125 (Or.inr (hw _ (List.mem_of_getElem? (i := 24) rfl))) (ty := .byte) (by decide)
    refine own_stW st125 ?_
    show own_GoesW p e below s _ _ (T125.setTop (mkF m 96 #[iv p0, iv (3 : Int32), iv ((((p0.toUInt32 >>> ((2 : Int32) &&& 31).toUInt32).toInt32) &&& (255 : Int32)).toUInt32.toUInt16.toUInt32.toInt32), iv ((((p0.toUInt32 >>> ((10 : Int32) &&& 31).toUInt32).toInt32) &&& (255 : Int32)).toUInt32.toUInt16.toUInt32.toInt32), iv ((((p0.toUInt32 >>> ((18 : Int32) &&& 31).toUInt32).toInt32) &&& (255 : Int32)).toUInt32.toUInt16.toUInt32.toInt32)] [(.ref b125)]))
    refine own_stW (fun _ k => XS.dup X125.here hx rfl (hb hby own_d1_96) rfl rfl k) ?_
    show own_GoesW p e below s _ _ (T125.setTop (mkF m 97 #[iv p0, iv (3 : Int32), iv ((((p0.toUInt32 >>> ((2 : Int32) &&& 31).toUInt32).toInt32) &&& (255 : Int32)).toUInt32.toUInt16.toUInt32.toInt32), iv ((((p0.toUInt32 >>> ((10 : Int32) &&& 31).toUInt32).toInt32) &&& (255 : Int32)).toUInt32.toUInt16.toUInt32.toInt32), iv ((((p0.toUInt32 >>> ((18 : Int32) &&& 31).toUInt32).toInt32) &&& (255 : Int32)).toUInt32.toUInt16.toUInt32.toInt32)] [(.ref b125), (.ref b125)]))
    refine own_stW (fun _ k => XS.iconst X125.here hx rfl (hb hby own_d1_97) k) ?_
    show own_GoesW p e below s _ _ (T125.setTop (mkF m 98 #[iv p0, iv (3 : Int32), iv ((((p0.toUInt32 >>> ((2 : Int32) &&& 31).toUInt32).toInt32) &&& (255 : Int32)).toUInt32.toUInt16.toUInt32.toInt32), iv ((((p0.toUInt32 >>> ((10 : Int32) &&& 31).toUInt32).toInt32) &&& (255 : Int32)).toUInt32.toUInt16.toUInt32.toInt32), iv ((((p0.toUInt32 >>> ((18 : Int32) &&& 31).toUInt32).toInt32) &&& (255 : Int32)).toUInt32.toUInt16.toUInt32.toInt32)] [(.int (3 : Int32)), (.ref b125), (.ref b125)]))
    obtain ⟨T126, h126, X126, e126, E126, A126, st126⟩ := own_newP X125 hx hZ (aty := .char) (hw _ (List.mem_of_getElem? (i := 10) rfl)) e125 (g := (mkF m 98 #[iv p0, iv (3 : Int32), iv ((((p0.toUInt32 >>> ((2 : Int32) &&& 31).toUInt32).toInt32) &&& (255 : Int32)).toUInt32.toUInt16.toUInt32.toInt32), iv ((((p0.toUInt32 >>> ((10 : Int32) &&& 31).toUInt32).toInt32) &&& (255 : Int32)).toUInt32.toUInt16.toUInt32.toInt32), iv ((((p0.toUInt32 >>> ((18 : Int32) &&& 31).toUInt32).toInt32) &&& (255 : Int32)).toUInt32.toUInt16.toUInt32.toInt32)] [(.int (3 : Int32)), (.ref b125), (.ref b125)])) rfl (hb hby own_d1_98) rfl (by decide) (cap := 3) (by decide) (by decide) (by decide) (by decide)
    obtain ⟨b126, g126⟩ : ∃ z, z = h125.size := ⟨_, rfl⟩
    rw [← g126] at A126 st126
    have V126 : own_Arf Z h126 b126 .char 3 (fun k => .int ((fun _ => (0 : Int32)) k)) := A126
    have y126 := own_lt V126.lt
    have z126 := E126.1
    refine own_stW st126 ?_
    show own_GoesW p e below s _ _ (T126.setTop (mkF m 100 #[iv p0, iv (3 : Int32), iv ((((p0.toUInt32 >>> ((2 : Int32) &&& 31).toUInt32).toInt32) &&& (255 : Int32)).toUInt32.toUInt16.toUInt32.toInt32), iv ((((p0.toUInt32 >>> ((10 : Int32) &&& 31).toUInt32).toInt32) &&& (255 : Int32)).toUInt32.toUInt16.toUInt32.toInt32), iv ((((p0.toUInt32 >>> ((18 : Int32) &&& 31).toUInt32).toInt32) &&& (255 : Int32)).toUInt32.toUInt16.toUInt32.toInt32)] [(.ref b126), (.ref b125), (.ref b125)]))
    refine own_stW (fun _ k => XS.dup X126.here hx rfl (hb hby own_d1_100) rfl rfl k) ?_
    show own_GoesW p e below s _ _ (T126.setTop (mkF m 101 #[iv p0, iv (3 : Int32), iv ((((p0.toUInt32 >>> ((2 : Int32) &&& 31).toUInt32).toInt32) &&& (255 : Int32)).toUInt32.toUInt16.toUInt32.toInt32), iv ((((p0.toUInt32 >>> ((10 : Int32) &&& 31).toUInt32).toInt32) &&& (255 : Int32)).toUInt32.toUInt16.toUInt32.toInt32), iv ((((p0.toUInt32 >>> ((18 : Int32) &&& 31).toUInt32).toInt32) &&& (255 : Int32)).toUInt32.toUInt16.toUInt32.toInt32)] [(.ref b126), (.ref b126), (.ref b125), (.ref b125)]))
    refine own_stW (fun _ k => XS.iconst X126.here hx rfl (hb hby own_d1_101) k) ?_
    show own_GoesW p e below s _ _ (T126.setTop (mkF m 102 #[iv p0, iv (3 : Int32), iv ((((p0.toUInt32 >>> ((2 : Int32) &&& 31).toUInt32).toInt32) &&& (255 : Int32)).toUInt32.toUInt16.toUInt32.toInt32), iv ((((p0.toUInt32 >>> ((10 : Int32) &&& 31).toUInt32).toInt32) &&& (255 : Int32)).toUInt32.toUInt16.toUInt32.toInt32), iv ((((p0.toUInt32 >>> ((18 : Int32) &&& 31).toUInt32).toInt32) &&& (255 : Int32)).toUInt32.toUInt16.toUInt32.toInt32)] [(.int (0 : Int32)), (.ref b126), (.ref b126), (.ref b125), (.ref b125)]))
    refine own_stW (fun _ k => XS.iloadN X126.here hx rfl (hb hby own_d1_102) rfl  k) ?_
    show own_GoesW p e below s _ _ (T126.setTop (mkF m 103 #[iv p0, iv (3 : Int32), iv ((((p0.toUInt32 >>> ((2 : Int32) &&& 31).toUInt32).toInt32) &&& (255 : Int32)).toUInt32.toUInt16.toUInt32.toInt32), iv ((((p0.toUInt32 >>> ((10 : Int32) &&& 31).toUInt32).toInt32) &&& (255 : Int32)).toUInt32.toUInt16.toUInt32.toInt32), iv ((((p0.toUInt32 >>> ((18 : Int32) &&& 31).toUInt32).toInt32) &&& (255 : Int32)).toUInt32.toUInt16.toUInt32.toInt32)] [(.int ((((p0.toUInt32 >>> ((2 : Int32) &&& 31).toUInt32).toInt32) &&& (255 : Int32)).toUInt32.toUInt16.toUInt32.toInt32)), (.int (0 : Int32)), (.ref b126), (.ref b126), (.ref b125), (.ref b125)]))
    obtain ⟨T127, h127, X127, e127, W127, A127, st127⟩ := own_stC X126 hx hZ e126 V126 (j := (0 : Int32)) (by decide) (g := (mkF m 103 #[iv p0, iv (3 : Int32), iv ((((p0.toUInt32 >>> ((2 : Int32) &&& 31).toUInt32).toInt32) &&& (255 : Int32)).toUInt32.toUInt16.toUInt32.toInt32), iv ((((p0.toUInt32 >>> ((10 : Int32) &&& 31).toUInt32).toInt32) &&& (255 : Int32)).toUInt32.toUInt16.toUInt32.toInt32), iv ((((p0.toUInt32 >>> ((18 : Int32) &&& 31).toUInt32).toInt32) &&& (255 : Int32)).toUInt32.toUInt16.toUInt32.toInt32)] [(.int ((((p0.toUInt32 >>> ((2 : Int32) &&& 31).toUInt32).toInt32) &&& (255 : Int32)).toUInt32.toUInt16.toUInt32.toInt32)), (.int (0 : Int32)), (.ref b126), (.ref b126), (.ref b125), (.ref b125)])) rfl rfl (hb hby own_d1_103)
    have V127 : own_Arf Z h127 b126 .char 3 (fun k => .int ((fun k => if k = 0 then (nar .char ((((p0.toUInt32 >>> ((2 : Int32) &&& 31).toUInt32).toInt32) &&& (255 : Int32)).toUInt32.toUInt16.toUInt32.toInt32)) else (fun _ => (0 : Int32)) k) k)) := A127
    have z127 := W127.size
    have N127 := Fr.snoc X127 N0 (by omega)
    refine own_stW st127 ?_
    show own_GoesW p e below s _ _ (T127.setTop (mkF m 104 #[iv p0, iv (3 : Int32), iv ((((p0.toUInt32 >>> ((2 : Int32) &&& 31).toUInt32).toInt32) &&& (255 : Int32)).toUInt32.toUInt16.toUInt32.toInt32), iv ((((p0.toUInt32 >>> ((10 : Int32) &&& 31).toUInt32).toInt32) &&& (255 : Int32)).toUInt32.toUInt16.toUInt32.toInt32), iv ((((p0.toUInt32 >>> ((18 : Int32) &&& 31).toUInt32).toInt32) &&& (255 : Int32)).toUInt32.toUInt16.toUInt32.toInt32)] [(.ref b126), (.ref b125), (.ref b125)]))
    refine own_stW (fun _ k => XS.dup X127.here hx rfl (hb hby own_d1_104) rfl rfl k) ?_
    show own_GoesW p e below s _ _ (T127.setTop (mkF m 105 #[iv p0, iv (3 : Int32), iv ((((p0.toUInt32 >>> ((2 : Int32) &&& 31).toUInt32).toInt32) &&& (255 : Int32)).toUInt32.toUInt16.toUInt32.toInt32), iv ((((p0.toUInt32 >>> ((10 : Int32) &&& 31).toUInt32).toInt32) &&& (255 : Int32)).toUInt32.toUInt16.toUInt32.toInt32), iv ((((p0.toUInt32 >>> ((18 : Int32) &&& 31).toUInt32).toInt32) &&& (255 : Int32)).toUInt32.toUInt16.toUInt32.toInt32)] [(.ref b126), (.ref b126), (.ref b125), (.ref b125)]))
    refine own_stW (fun _ k => XS.iconst X127.here hx rfl (hb hby own_d1_105) k) ?_
    show own_GoesW p e below s _ _ (T127.setTop (mkF m 106 #[iv p0, iv (3 : Int32), iv ((((p0.toUInt32 >>> ((2 : Int32) &&& 31).toUInt32).toInt32) &&& (255 : Int32)).toUInt32.toUInt16.toUInt32.toInt32), iv ((((p0.toUInt32 >>> ((10 : Int32) &&& 31).toUInt32).toInt32) &&& (255 : Int32)).toUInt32.toUInt16.toUInt32.toInt32), iv ((((p0.toUInt32 >>> ((18 : Int32) &&& 31).toUInt32).toInt32) &&& (255 : Int32)).toUInt32.toUInt16.toUInt32.toInt32)] [(.int (1 : Int32)), (.ref b126), (.ref b126), (.ref b125), (.ref b125)]))
    refine own_stW (fun _ k => XS.iloadN X127.here hx rfl (hb hby own_d1_106) rfl  k) ?_
    show own_GoesW p e below s _ _ (T127.setTop (mkF m 107 #[iv p0, iv (3 : Int32), iv ((((p0.toUInt32 >>> ((2 : Int32) &&& 31).toUInt32).toInt32) &&& (255 : Int32)).toUInt32.toUInt16.toUInt32.toInt32), iv ((((p0.toUInt32 >>> ((10 : Int32) &&& 31).toUInt32).toInt32) &&& (255 : Int32)).toUInt32.toUInt16.toUInt32.toInt32), iv ((((p0.toUInt32 >>> ((18 : Int32) &&& 31).toUInt32).toInt32) &&& (255 : Int32)).toUInt32.toUInt16.toUInt32.toInt32)] [(.int ((((p0.toUInt32 >>> ((10 : Int32) &&& 31).toUInt32).toInt32) &&& (255 : Int32)).toUInt32.toUInt16.toUInt32.toInt32)), (.int (1 : Int32)), (.ref b126), (.ref b126), (.ref b125), (.ref b125)]))
    obtain ⟨T128, h128, X128, e128, W128, A128, st128⟩ := own_stC X127 hx hZ e127 V127 (j := (1 : Int32)) (by decide) (g := (mkF m 107 #[iv p0, iv (3 : Int32), iv ((((p0.toUInt32 >>> ((2 : Int32) &&& 31).toUInt32).toInt32) &&& (255 : Int32)).toUInt32.toUInt16.toUInt32.toInt32), iv ((((p0.toUInt32 >>> ((10 : Int32) &&& 31).toUInt32).toInt32) &&& (255 : Int32)).toUInt32.toUInt16.toUInt32.toInt32), iv ((((p0.toUInt32 >>> ((18 : Int32) &&& 31).toUInt32).toInt32) &&& (255 : Int32)).toUInt32.toUInt16.toUInt32.toInt32)] [(.int ((((p0.toUInt32 >>> ((10 : Int32) &&& 31).toUInt32).toInt32) &&& (255 : Int32)).toUInt32.toUInt16.toUInt32.toInt32)), (.int (1 : Int32)), (.ref b126), (.ref b126), (.ref b125), (.ref b125)])) rfl rfl (hb hby own_d1_107)
    have V128 : own_Arf Z h128 b126 .char 3 (fun k => .int ((fun k => if k = 1 then (nar .char ((((p0.toUInt32 >>> ((10 : Int32) &&& 31).toUInt32).toInt32) &&& (255 : Int32)).toUInt32.toUInt16.toUInt32.toInt32)) else (fun k => if k = 0 then (nar .char ((((p0.toUInt32 >>> ((2 : Int32) &&& 31).toUInt32).toInt32) &&& (255 : Int32)).toUInt32.toUInt16.toUInt32.toInt32)) else (fun _ => (0 : Int32)) k) k) k)) := A128
    have z128 := W128.size
    have N128 := Fr.snoc X128 N127 (by omega)
    refine own_stW st128 ?_
    show own_GoesW p e below s _ _ (T128.setTop (mkF m 108 #[iv p0, iv (3 : Int32), iv ((((p0.toUInt32 >>> ((2 : Int32) &&& 31).toUInt32).toInt32) &&& (255 : Int32)).toUInt32.toUInt16.toUInt32.toInt32), iv ((((p0.toUInt32 >>> ((10 : Int32) &&& 31).toUInt32).toInt32) &&& (255 : Int32)).toUInt32.toUInt16.toUInt32.toInt32), iv ((((p0.toUInt32 >>> ((18 : Int32) &&& 31).toUInt32).toInt32) &&& (255 : Int32)).toUInt32.toUInt16.toUInt32.toInt32)] [(.ref b126), (.ref b125), (.ref b125)]))
    refine own_stW (fun _ k => XS.dup X128.here hx rfl (hb hby own_d1_108) rfl rfl k) ?_
    show own_GoesW p e below s _ _ (T128.setTop (mkF m 109 #[iv p0, iv (3 : Int32), iv ((((p0.toUInt32 >>> ((2 : Int32) &&& 31).toUInt32).toInt32) &&& (255 : Int32)).toUInt32.toUInt16.toUInt32.toInt32), iv ((((p0.toUInt32 >>> ((10 : Int32) &&& 31).toUInt32).toInt32) &&& (255 : Int32)).toUInt32.toUInt16.toUInt32.toInt32), iv ((((p0.toUInt32 >>> ((18 : Int32) &&& 31).toUInt32).toInt32) &&& (255 : Int32)).toUInt32.toUInt16.toUInt32.toInt32)] [(.ref b126), (.ref b126), (.ref b125), (.ref b125)]))
    refine own_stW (fun _ k => XS.iconst X128.here hx rfl (hb hby own_d1_109) k) ?_
    show own_GoesW p e below s _ _ (T128.setTop (mkF m 110 #[iv p0, iv (3 : Int32), iv ((((p0.toUInt32 >>> ((2 : Int32) &&& 31).toUInt32).toInt32) &&& (255 : Int32)).toUInt32.toUInt16.toUInt32.toInt32), iv ((((p0.toUInt32 >>> ((10 : Int32) &&& 31).toUInt32).toInt32) &&& (255 : Int32)).toUInt32.toUInt16.toUInt32.toInt32), iv ((((p0.toUInt32 >>> ((18 : Int32) &&& 31).toUInt32).toInt32) &&& (255 : Int32)).toUInt32.toUInt16.toUInt32.toInt32)] [(.int (2 : Int32)), (.ref b126), (.ref b126), (.ref b125), (.ref b125)]))
    refine own_stW (fun _ k => XS.iload X128.here hx rfl (hb hby own_d1_110) rfl  k) ?_
    show own_GoesW p e below s _ _ (T128.setTop (mkF m 112 #[iv p0, iv (3 : Int32), iv ((((p0.toUInt32 >>> ((2 : Int32) &&& 31).toUInt32).toInt32) &&& (255 : Int32)).toUInt32.toUInt16.toUInt32.toInt32), iv ((((p0.toUInt32 >>> ((10 : Int32) &&& 31).toUInt32).toInt32) &&& (255 : Int32)).toUInt32.toUInt16.toUInt32.toInt32), iv ((((p0.toUInt32 >>> ((18 : Int32) &&& 31).toUInt32).toInt32) &&& (255 : Int32)).toUInt32.toUInt16.toUInt32.toInt32)] [(.int ((((p0.toUInt32 >>> ((18 : Int32) &&& 31).toUInt32).toInt32) &&& (255 : Int32)).toUInt32.toUInt16.toUInt32.toInt32)), (.int (2 : Int32)), (.ref b126), (.ref b126), (.ref b125), (.ref b125)]))
    obtain ⟨T129, h129, X129, e129, W129, A129, st129⟩ := own_stC X128 hx hZ e128 V128 (j := (2 : Int32)) (by decide) (g := (mkF m 112 #[iv p0, iv (3 : Int32), iv ((((p0.toUInt32 >>> ((2 : Int32) &&& 31).toUInt32).toInt32) &&& (255 : Int32)).toUInt32.toUInt16.toUInt32.toInt32), iv ((((p0.toUInt32 >>> ((10 : Int32) &&& 31).toUInt32).toInt32) &&& (255 : Int32)).toUInt32.toUInt16.toUInt32.toInt32), iv ((((p0.toUInt32 >>> ((18 : Int32) &&& 31).toUInt32).toInt32) &&& (255 : Int32)).toUInt32.toUInt16.toUInt32.toInt32)] [(.int ((((p0.toUInt32 >>> ((18 : Int32) &&& 31).toUInt32).toInt32) &&& (255 : Int32)).toUInt32.toUInt16.toUInt32.toInt32)), (.int (2 : Int32)), (.ref b126), (.ref b126), (.ref b125), (.ref b125)])) rfl rfl (hb hby own_d1_112)
    have V129 : own_Arf Z h129 b126 .char 3 (fun k => .int ((fun k => if k = 2 then (nar .char ((((p0.toUInt32 >>> ((18 : Int32) &&& 31).toUInt32).toInt32) &&& (255 : Int32)).toUInt32.toUInt16.toUInt32.toInt32)) else (fun k => if k = 1 then (nar .char ((((p0.toUInt32 >>> ((10 : Int32) &&& 31).toUInt32).toInt32) &&& (255 : Int32)).toUInt32.toUInt16.toUInt32.toInt32)) else (fun k => if k = 0 then (nar .char ((((p0.toUInt32 >>> ((2 : Int32) &&& 31).toUInt32).toInt32) &&& (255 : Int32)).toUInt32.toUInt16.toUInt32.toInt32)) else (fun _ => (0 : Int32)) k) k) k) k)) := A129
    have z129 := W129.size
    have N129 := Fr.snoc X129 N128 (by omega)
    refine own_stW st129 ?_
    show own_GoesW p e below s _ _ (T129.setTop (mkF m 113 #[iv p0, iv (3 : Int32), iv ((((p0.toUInt32 >>> ((2 : Int32) &&& 31).toUInt32).toInt32) &&& (255 : Int32)).toUInt32.toUInt16.toUInt32.toInt32), iv ((((p0.toUInt32 >>> ((10 : Int32) &&& 31).toUInt32).toInt32) &&& (255 : Int32)).toUInt32.toUInt16.toUInt32.toInt32), iv ((((p0.toUInt32 >>> ((18 : Int32) &&& 31).toUInt32).toInt32) &&& (255 : Int32)).toUInt32.toUInt16.toUInt32.toInt32)] [(.ref b126), (.ref b125), (.ref b125)]))
    have hkn : (3 : Int) = own_U p0 % 4 := by have e : (3 : Int32).toInt = 3 := (by decide); omega
    have hg0 : ((fun k => if k = 2 then (nar .char ((((p0.toUInt32 >>> ((18 : Int32) &&& 31).toUInt32).toInt32) &&& (255 : Int32)).toUInt32.toUInt16.toUInt32.toInt32)) else (fun k => if k = 1 then (nar .char ((((p0.toUInt32 >>> ((10 : Int32) &&& 31).toUInt32).toInt32) &&& (255 : Int32)).toUInt32.toUInt16.toUInt32.toInt32)) else (fun k => if k = 0 then (nar .char ((((p0.toUInt32 >>> ((2 : Int32) &&& 31).toUInt32).toInt32) &&& (255 : Int32)).toUInt32.toUInt16.toUInt32.toInt32)) else (fun _ => (0 : Int32)) k) k) k) 0).toInt = own_U p0 / 4 % 256 := own_c0 p0
    have hg1 : ((fun k => if k = 2 then (nar .char ((((p0.toUInt32 >>> ((18 : Int32) &&& 31).toUInt32).toInt32) &&& (255 : Int32)).toUInt32.toUInt16.toUInt32.toInt32)) else (fun k => if k = 1 then (nar .char ((((p0.toUInt32 >>> ((10 : Int32) &&& 31).toUInt32).toInt32) &&& (255 : Int32)).toUInt32.toUInt16.toUInt32.toInt32)) else (fun k => if k = 0 then (nar .char ((((p0.toUInt32 >>> ((2 : Int32) &&& 31).toUInt32).toInt32) &&& (255 : Int32)).toUInt32.toUInt16.toUInt32.toInt32)) else (fun _ => (0 : Int32)) k) k) k) 1).toInt = own_U p0 / 1024 % 256 := own_c1 p0
    have hg2 : ((fun k => if k = 2 then (nar .char ((((p0.toUInt32 >>> ((18 : Int32) &&& 31).toUInt32).toInt32) &&& (255 : Int32)).toUInt32.toUInt16.toUInt32.toInt32)) else (fun k => if k = 1 then (nar .char ((((p0.toUInt32 >>> ((10 : Int32) &&& 31).toUInt32).toInt32) &&& (255 : Int32)).toUInt32.toUInt16.toUInt32.toInt32)) else (fun k => if k = 0 then (nar .char ((((p0.toUInt32 >>> ((2 : Int32) &&& 31).toUInt32).toInt32) &&& (255 : Int32)).toUInt32.toUInt16.toUInt32.toInt32)) else (fun _ => (0 : Int32)) k) k) k) 2).toInt = own_U p0 / 262144 % 256 := own_c2 p0
    generalize (fun k => if k = 2 then (nar .char ((((p0.toUInt32 >>> ((18 : Int32) &&& 31).toUInt32).toInt32) &&& (255 : Int32)).toUInt32.toUInt16.toUInt32.toInt32)) else (fun k => if k = 1 then (nar .char ((((p0.toUInt32 >>> ((10 : Int32) &&& 31).toUInt32).toInt32) &&& (255 : Int32)).toUInt32.toUInt16.toUInt32.toInt32)) else (fun k => if k = 0 then (nar .char ((((p0.toUInt32 >>> ((2 : Int32) &&& 31).toUInt32).toInt32) &&& (255 : Int32)).toUInt32.toUInt16.toUInt32.toInt32)) else (fun _ => (0 : Int32)) k) k) k) = fc at V129 hg0 hg1 hg2
    have hch : ∀ j, j < 3 → 0 ≤ (fc j).toInt ∧ (fc j).toInt ≤ 255 := by
      intro j hj
      have q : j = 0 ∨ j = 1 ∨ j = 2 := by omega
      rcases q with rfl | rfl | rfl <;> omega
    have f131 := ((((A125.ext E126).wr W127).wr W128).wr W129)
    have f132 := ((((F125_value.ext E126).other W127 (Or.inl (own_ne (by omega)))).other W128 (Or.inl (own_ne (by omega)))).other W129 (Or.inl (own_ne (by omega))))
    have f133 := ((((F125_coder.ext E126).other W127 (Or.inl (own_ne (by omega)))).other W128 (Or.inl (own_ne (by omega)))).other W129 (Or.inl (own_ne (by omega))))
    have f134 := (((((S1.ext E125).ext E126).wr W127).wr W128).wr W129)
    obtain ⟨v130, T130, L130, X130, Q130, st130⟩ := own_callI X129 hx hZ (y := (⟨"java/lang/String", "<init>", "([C)V"⟩ : MethodName)) hown (hw _ (List.mem_of_getElem? (i := 11) rfl)) (hw _ (List.mem_of_getElem? (i := 12) rfl)) (hw _ (List.mem_of_getElem? (i := 9) rfl)) (hw _ (List.mem_of_getElem? (i := 13) rfl)) rfl (by decide) (W := 1) (rest := [(.ref b125)]) (argsL := [(.ref b126)]) (a := b125) (rmS3 l Z a0 hw [] b125 b126 _ cs _ _  h129 n0 (by omega) f131 f132 f133 V129 hch f134 hcs (by omega) (by omega)) (by decide) (by decide) (by decide) (by decide) e129 own_pd4 rfl (g := (mkF m 113 #[iv p0, iv (3 : Int32), iv ((((p0.toUInt32 >>> ((2 : Int32) &&& 31).toUInt32).toInt32) &&& (255 : Int32)).toUInt32.toUInt16.toUInt32.toInt32), iv ((((p0.toUInt32 >>> ((10 : Int32) &&& 31).toUInt32).toInt32) &&& (255 : Int32)).toUInt32.toUInt16.toUInt32.toInt32), iv ((((p0.toUInt32 >>> ((18 : Int32) &&& 31).toUInt32).toInt32) &&& (255 : Int32)).toUInt32.toUInt16.toUInt32.toInt32)] [(.ref b126), (.ref b125), (.ref b125)])) rfl (by rw [hml]; rfl) rfl (by show 2 * 0 + _ ≤ _; exact Nat.le_of_eq rfl) (hb hby own_d1_113)
    obtain ⟨rfl, N130q, K130, b130, g130, y130, A130, F130_value, F130_coder, V130⟩ := Q130
    have z130 := K130.1
    have N130 := Fr.app N129 N130q
    refine own_stW st130 ?_
    show own_GoesW p e below s _ _ (T130.setTop (mkF m 116 #[iv p0, iv (3 : Int32), iv ((((p0.toUInt32 >>> ((2 : Int32) &&& 31).toUInt32).toInt32) &&& (255 : Int32)).toUInt32.toUInt16.toUInt32.toInt32), iv ((((p0.toUInt32 >>> ((10 : Int32) &&& 31).toUInt32).toInt32) &&& (255 : Int32)).toUInt32.toUInt16.toUInt32.toInt32), iv ((((p0.toUInt32 >>> ((18 : Int32) &&& 31).toUInt32).toInt32) &&& (255 : Int32)).toUInt32.toUInt16.toUInt32.toInt32)] [(.ref b125)]))
    exact own_retRW X130 hx hS (by omega) hlk hret rfl rfl (hb hby own_d1_116) (by decide) (by decide) ⟨b125, 3, _, rfl, ⟨A130, F130_coder, b130, F130_value, V130⟩, own_mkG hkn hch (fun _ => hg0) (fun _ => hg1) (fun _ => hg2), N130, (((((((Keep.refl h0 []).ext E125).ext E126).wr W127 (Or.inr (by omega))).wr W128 (Or.inr (by omega))).wr W129 (Or.inr (by omega))).trans K130 (allS (Or.inr (by omega)) all0)), own_E.top (F0.keep (((((((Keep.refl h0 []).ext E125).ext E126).wr W127 (Or.inr (by omega))).wr W128 (Or.inr (by omega))).wr W129 (Or.inr (by omega))).trans K130 (allS (Or.inr (by omega)) all0)) (fun _ q => nomatch q)) X130.warmed⟩
theorem own_pn7 : plainFor (⟨"com/example/brigid/brigid/trustcenter/IdentifierEqualsPinLaw", "same", "(II)Z"⟩ : MethodName) = true := by first | exact plainFor_of_name (by simp [plainName, overriddenIn]; done) | decide +kernel
theorem own_d9_0 : decode method_4_code 0 = .ok (.iload_n 0, 1) := by decide +kernel
theorem own_d9_1 : decode method_4_code 1 = .ok (.iconst 3, 1) := by decide +kernel
theorem own_d9_2 : decode method_4_code 2 = .ok (.iand, 1) := by decide +kernel
theorem own_d9_3 : decode method_4_code 3 = .ok (.istore_n 2, 1) := by decide +kernel
theorem own_d9_4 : decode method_4_code 4 = .ok (.iload_n 1, 1) := by decide +kernel
theorem own_d9_5 : decode method_4_code 5 = .ok (.iconst 3, 1) := by decide +kernel
theorem own_d9_6 : decode method_4_code 6 = .ok (.iand, 1) := by decide +kernel
theorem own_d9_7 : decode method_4_code 7 = .ok (.istore_n 3, 1) := by decide +kernel
theorem own_d9_8 : decode method_4_code 8 = .ok (.iload_n 2, 1) := by decide +kernel
theorem own_d9_9 : decode method_4_code 9 = .ok (.iload_n 3, 1) := by decide +kernel
theorem own_d9_10 : decode method_4_code 10 = .ok (.if_icmp .eq 5, 3) := by decide +kernel
theorem own_d9_15 : decode method_4_code 15 = .ok (.iload_n 2, 1) := by decide +kernel
theorem own_d9_16 : decode method_4_code 16 = .ok (.iconst 1, 1) := by decide +kernel
theorem own_d9_17 : decode method_4_code 17 = .ok (.if_icmp .lt 22, 3) := by decide +kernel
theorem own_d9_39 : decode method_4_code 39 = .ok (.iload_n 2, 1) := by decide +kernel
theorem own_d9_40 : decode method_4_code 40 = .ok (.iconst 2, 1) := by decide +kernel
theorem own_d9_41 : decode method_4_code 41 = .ok (.if_icmp .lt 24, 3) := by decide +kernel
theorem own_d9_65 : decode method_4_code 65 = .ok (.iload_n 2, 1) := by decide +kernel
theorem own_d9_66 : decode method_4_code 66 = .ok (.iconst 3, 1) := by decide +kernel
theorem own_d9_67 : decode method_4_code 67 = .ok (.if_icmp .lt 24, 3) := by decide +kernel
theorem own_d9_91 : decode method_4_code 91 = .ok (.iconst 1, 1) := by decide +kernel
theorem own_d9_92 : decode method_4_code 92 = .ok (.ireturn, 1) := by decide +kernel
theorem own_d9_70 : decode method_4_code 70 = .ok (.iload_n 0, 1) := by decide +kernel
theorem own_d9_71 : decode method_4_code 71 = .ok (.bipush 18, 2) := by decide +kernel
theorem own_d9_73 : decode method_4_code 73 = .ok (.iushr, 1) := by decide +kernel
theorem own_d9_74 : decode method_4_code 74 = .ok (.sipush 255, 3) := by decide +kernel
theorem own_d9_77 : decode method_4_code 77 = .ok (.iand, 1) := by decide +kernel
theorem own_d9_78 : decode method_4_code 78 = .ok (.iload_n 1, 1) := by decide +kernel
theorem own_d9_79 : decode method_4_code 79 = .ok (.bipush 18, 2) := by decide +kernel
theorem own_d9_81 : decode method_4_code 81 = .ok (.iushr, 1) := by decide +kernel
theorem own_d9_82 : decode method_4_code 82 = .ok (.sipush 255, 3) := by decide +kernel
theorem own_d9_85 : decode method_4_code 85 = .ok (.iand, 1) := by decide +kernel
theorem own_d9_86 : decode method_4_code 86 = .ok (.if_icmp .eq 5, 3) := by decide +kernel
theorem own_d9_89 : decode method_4_code 89 = .ok (.iconst 0, 1) := by decide +kernel
theorem own_d9_90 : decode method_4_code 90 = .ok (.ireturn, 1) := by decide +kernel
theorem own_d9_44 : decode method_4_code 44 = .ok (.iload_n 0, 1) := by decide +kernel
theorem own_d9_45 : decode method_4_code 45 = .ok (.bipush 10, 2) := by decide +kernel
theorem own_d9_47 : decode method_4_code 47 = .ok (.iushr, 1) := by decide +kernel
theorem own_d9_48 : decode method_4_code 48 = .ok (.sipush 255, 3) := by decide +kernel
theorem own_d9_51 : decode method_4_code 51 = .ok (.iand, 1) := by decide +kernel
theorem own_d9_52 : decode method_4_code 52 = .ok (.iload_n 1, 1) := by decide +kernel
theorem own_d9_53 : decode method_4_code 53 = .ok (.bipush 10, 2) := by decide +kernel
theorem own_d9_55 : decode method_4_code 55 = .ok (.iushr, 1) := by decide +kernel
theorem own_d9_56 : decode method_4_code 56 = .ok (.sipush 255, 3) := by decide +kernel
theorem own_d9_59 : decode method_4_code 59 = .ok (.iand, 1) := by decide +kernel
theorem own_d9_60 : decode method_4_code 60 = .ok (.if_icmp .eq 5, 3) := by decide +kernel
theorem own_d9_63 : decode method_4_code 63 = .ok (.iconst 0, 1) := by decide +kernel
theorem own_d9_64 : decode method_4_code 64 = .ok (.ireturn, 1) := by decide +kernel
theorem own_d9_20 : decode method_4_code 20 = .ok (.iload_n 0, 1) := by decide +kernel
theorem own_d9_21 : decode method_4_code 21 = .ok (.iconst 2, 1) := by decide +kernel
theorem own_d9_22 : decode method_4_code 22 = .ok (.iushr, 1) := by decide +kernel
theorem own_d9_23 : decode method_4_code 23 = .ok (.sipush 255, 3) := by decide +kernel
theorem own_d9_26 : decode method_4_code 26 = .ok (.iand, 1) := by decide +kernel
theorem own_d9_27 : decode method_4_code 27 = .ok (.iload_n 1, 1) := by decide +kernel
theorem own_d9_28 : decode method_4_code 28 = .ok (.iconst 2, 1) := by decide +kernel
theorem own_d9_29 : decode method_4_code 29 = .ok (.iushr, 1) := by decide +kernel
theorem own_d9_30 : decode method_4_code 30 = .ok (.sipush 255, 3) := by decide +kernel
theorem own_d9_33 : decode method_4_code 33 = .ok (.iand, 1) := by decide +kernel
theorem own_d9_34 : decode method_4_code 34 = .ok (.if_icmp .eq 5, 3) := by decide +kernel
theorem own_d9_37 : decode method_4_code 37 = .ok (.iconst 0, 1) := by decide +kernel
theorem own_d9_38 : decode method_4_code 38 = .ok (.ireturn, 1) := by decide +kernel
theorem own_d9_13 : decode method_4_code 13 = .ok (.iconst 0, 1) := by decide +kernel
theorem own_d9_14 : decode method_4_code 14 = .ok (.ireturn, 1) := by decide +kernel
theorem own_ef_rmSame (m : MethodId) (p0 : Int32) (p1 : Int32) : entryFrame m #[(.int p0), (.int p1)] 4 = mkF m 0 #[iv p0, iv p1, .unset, .unset] [] := by first | (simp [entryFrame, mkF, argsToLocals, Value.category, maxLocals]; done) | rfl
abbrev own_Q_rmSame (Z : State) (p0 : Int32) (p1 : Int32) (h0 : Heap) (n0 : Nat) (v : Option Value) (h : Heap) (L : List Loc) : Prop := ∃ r : Int32, v = some (.int r) ∧ ((r.toInt = 1 ∧ (own_SAME p0 p1)) ∨ (r.toInt = 0 ∧ ¬ (own_SAME p0 p1))) ∧ Fr n0 L ∧ h = h0
set_option maxRecDepth 65536 in
set_option maxHeartbeats 40000000 in
theorem rmSame (l : Launch) (Z : State) (a0 : Array Value) (hw : ∀ d ∈ tables_1, d.before a0 Z = true) (ws : List Jvm.Cond) (p0 : Int32) (p1 : Int32) (h0 : Heap) (n0 : Nat) (Z0 : n0 ≤ h0.size) :
    MetFree l (⟨"com/example/brigid/brigid/trustcenter/IdentifierEqualsPinLaw", "same", "(II)Z"⟩ : MethodName) (head1 (Jvm.Cond.code (⟨"com/example/brigid/brigid/trustcenter/IdentifierEqualsPinLaw", "same", "(II)Z"⟩ : MethodName) method_4_code 4 (some .boolean) :: ws) ({ frames := 0, cells := 0, slots := 0, locals := 0 } : Room)) (fun a U => a = #[(.int p0), (.int p1)] ∧ Z.Warmed39 U.vm ∧ U.heap = h0) (fun _ _ _ _ _ => True) (fun _ U o U' => ∃ v L, o = .returned v ∧ own_Q_rmSame Z p0 p1 h0 n0 v U'.heap L ∧ FrameEnd U o U' L ({ frames := 0, cells := 0, slots := 0, locals := 0 } : Room).cells ({ frames := 0, cells := 0, slots := 0, locals := 0 } : Room).slots) := by
  refine own_enter (Q := fun v h L => own_Q_rmSame Z p0 p1 h0 n0 v h L) (F := fun m => mkF m 0 #[iv p0, iv p1, .unset, .unset] []) own_pn7 (fun m => own_ef_rmSame m p0 p1) ?_
  intro p e s m below meth c T X hx hby hml hret hlk hnm hown hZ e0
  show own_Goes p e below s _ _ (T.setTop (mkF m 0 #[iv p0, iv p1, .unset, .unset] []))
  have N0 := Fr.nil n0
  have mp0 := own_m3 p0
  have d0p0 := own_d0 p0
  have d1p0 := own_d1 p0
  have d2p0 := own_d2 p0
  have mp1 := own_m3 p1
  have d0p1 := own_d0 p1
  have d1p1 := own_d1 p1
  have d2p1 := own_d2 p1
  refine own_st (fun _ k => XS.iloadN X.here hx rfl (hb hby own_d9_0) rfl  k) ?_
  show own_Goes p e below s _ _ (T.setTop (mkF m 1 #[iv p0, iv p1, .unset, .unset] [(.int p0)]))
  refine own_st (fun _ k => XS.iconst X.here hx rfl (hb hby own_d9_1) k) ?_
  show own_Goes p e below s _ _ (T.setTop (mkF m 2 #[iv p0, iv p1, .unset, .unset] [(.int (3 : Int32)), (.int p0)]))
  refine own_st (fun _ k => XS.iand X.here hx rfl (hb hby own_d9_2) rfl k) ?_
  show own_Goes p e below s _ _ (T.setTop (mkF m 3 #[iv p0, iv p1, .unset, .unset] [(.int (p0 &&& (3 : Int32)))]))
  refine own_st (fun _ k => XS.istoreN X.here hx rfl (hb hby own_d9_3) rfl (l' := #[iv p0, iv p1, iv (p0 &&& (3 : Int32)), .unset]) rfl k) ?_
  show own_Goes p e below s _ _ (T.setTop (mkF m 4 #[iv p0, iv p1, iv (p0 &&& (3 : Int32)), .unset] []))
  refine own_st (fun _ k => XS.iloadN X.here hx rfl (hb hby own_d9_4) rfl  k) ?_
  show own_Goes p e below s _ _ (T.setTop (mkF m 5 #[iv p0, iv p1, iv (p0 &&& (3 : Int32)), .unset] [(.int p1)]))
  refine own_st (fun _ k => XS.iconst X.here hx rfl (hb hby own_d9_5) k) ?_
  show own_Goes p e below s _ _ (T.setTop (mkF m 6 #[iv p0, iv p1, iv (p0 &&& (3 : Int32)), .unset] [(.int (3 : Int32)), (.int p1)]))
  refine own_st (fun _ k => XS.iand X.here hx rfl (hb hby own_d9_6) rfl k) ?_
  show own_Goes p e below s _ _ (T.setTop (mkF m 7 #[iv p0, iv p1, iv (p0 &&& (3 : Int32)), .unset] [(.int (p1 &&& (3 : Int32)))]))
  refine own_st (fun _ k => XS.istoreN X.here hx rfl (hb hby own_d9_7) rfl (l' := #[iv p0, iv p1, iv (p0 &&& (3 : Int32)), iv (p1 &&& (3 : Int32))]) rfl k) ?_
  show own_Goes p e below s _ _ (T.setTop (mkF m 8 #[iv p0, iv p1, iv (p0 &&& (3 : Int32)), iv (p1 &&& (3 : Int32))] []))
  refine own_st (fun _ k => XS.iloadN X.here hx rfl (hb hby own_d9_8) rfl  k) ?_
  show own_Goes p e below s _ _ (T.setTop (mkF m 9 #[iv p0, iv p1, iv (p0 &&& (3 : Int32)), iv (p1 &&& (3 : Int32))] [(.int (p0 &&& (3 : Int32)))]))
  refine own_st (fun _ k => XS.iloadN X.here hx rfl (hb hby own_d9_9) rfl  k) ?_
  show own_Goes p e below s _ _ (T.setTop (mkF m 10 #[iv p0, iv p1, iv (p0 &&& (3 : Int32)), iv (p1 &&& (3 : Int32))] [(.int (p1 &&& (3 : Int32))), (.int (p0 &&& (3 : Int32)))]))
  by_cases c101 : (p0 &&& (3 : Int32)) = (p1 &&& (3 : Int32))
  · have c101i : (p0 &&& (3 : Int32)).toInt = (p1 &&& (3 : Int32)).toInt := own_i_eq c101
    refine own_st (fun _ k => XS.icmpYes X.here hx rfl (pc0 := 10) (pc' := 15) rfl (hb hby own_d9_10) rfl (teq c101).1 (by decide) (by decide) k) ?_
    show own_Goes p e below s _ _ (T.setTop (mkF m 15 #[iv p0, iv p1, iv (p0 &&& (3 : Int32)), iv (p1 &&& (3 : Int32))] []))
    refine own_st (fun _ k => XS.iloadN X.here hx rfl (hb hby own_d9_15) rfl  k) ?_
    show own_Goes p e below s _ _ (T.setTop (mkF m 16 #[iv p0, iv p1, iv (p0 &&& (3 : Int32)), iv (p1 &&& (3 : Int32))] [(.int (p0 &&& (3 : Int32)))]))
    refine own_st (fun _ k => XS.iconst X.here hx rfl (hb hby own_d9_16) k) ?_
    show own_Goes p e below s _ _ (T.setTop (mkF m 17 #[iv p0, iv p1, iv (p0 &&& (3 : Int32)), iv (p1 &&& (3 : Int32))] [(.int (1 : Int32)), (.int (p0 &&& (3 : Int32)))]))
    by_cases c102 : (p0 &&& (3 : Int32)) < (1 : Int32)
    · have c102i : (p0 &&& (3 : Int32)).toInt < 1 := own_i_lt c102
      refine own_st (fun _ k => XS.icmpYes X.here hx rfl (pc0 := 17) (pc' := 39) rfl (hb hby own_d9_17) rfl (tlt c102).1 (by decide) (by decide) k) ?_
      show own_Goes p e below s _ _ (T.setTop (mkF m 39 #[iv p0, iv p1, iv (p0 &&& (3 : Int32)), iv (p1 &&& (3 : Int32))] []))
      refine own_st (fun _ k => XS.iloadN X.here hx rfl (hb hby own_d9_39) rfl  k) ?_
      show own_Goes p e below s _ _ (T.setTop (mkF m 40 #[iv p0, iv p1, iv (p0 &&& (3 : Int32)), iv (p1 &&& (3 : Int32))] [(.int (p0 &&& (3 : Int32)))]))
      refine own_st (fun _ k => XS.iconst X.here hx rfl (hb hby own_d9_40) k) ?_
      show own_Goes p e below s _ _ (T.setTop (mkF m 41 #[iv p0, iv p1, iv (p0 &&& (3 : Int32)), iv (p1 &&& (3 : Int32))] [(.int (2 : Int32)), (.int (p0 &&& (3 : Int32)))]))
      by_cases c103 : (p0 &&& (3 : Int32)) < (2 : Int32)
      · have c103i : (p0 &&& (3 : Int32)).toInt < 2 := own_i_lt c103
        refine own_st (fun _ k => XS.icmpYes X.here hx rfl (pc0 := 41) (pc' := 65) rfl (hb hby own_d9_41) rfl (tlt c103).1 (by decide) (by decide) k) ?_
        show own_Goes p e below s _ _ (T.setTop (mkF m 65 #[iv p0, iv p1, iv (p0 &&& (3 : Int32)), iv (p1 &&& (3 : Int32))] []))
        refine own_st (fun _ k => XS.iloadN X.here hx rfl (hb hby own_d9_65) rfl  k) ?_
        show own_Goes p e below s _ _ (T.setTop (mkF m 66 #[iv p0, iv p1, iv (p0 &&& (3 : Int32)), iv (p1 &&& (3 : Int32))] [(.int (p0 &&& (3 : Int32)))]))
        refine own_st (fun _ k => XS.iconst X.here hx rfl (hb hby own_d9_66) k) ?_
        show own_Goes p e below s _ _ (T.setTop (mkF m 67 #[iv p0, iv p1, iv (p0 &&& (3 : Int32)), iv (p1 &&& (3 : Int32))] [(.int (3 : Int32)), (.int (p0 &&& (3 : Int32)))]))
        by_cases c104 : (p0 &&& (3 : Int32)) < (3 : Int32)
        · have c104i : (p0 &&& (3 : Int32)).toInt < 3 := own_i_lt c104
          refine own_st (fun _ k => XS.icmpYes X.here hx rfl (pc0 := 67) (pc' := 91) rfl (hb hby own_d9_67) rfl (tlt c104).1 (by decide) (by decide) k) ?_
          show own_Goes p e below s _ _ (T.setTop (mkF m 91 #[iv p0, iv p1, iv (p0 &&& (3 : Int32)), iv (p1 &&& (3 : Int32))] []))
          refine own_st (fun _ k => XS.iconst X.here hx rfl (hb hby own_d9_91) k) ?_
          show own_Goes p e below s _ _ (T.setTop (mkF m 92 #[iv p0, iv p1, iv (p0 &&& (3 : Int32)), iv (p1 &&& (3 : Int32))] [(.int (1 : Int32))]))
          exact own_retN X hx hlk (1 : Int32) hret (Or.inl rfl) rfl (hb hby own_d9_92) (by decide) (by decide) ⟨(1 : Int32), rfl, own_b1 (by unfold own_SAME; omega), N0, e0⟩
        · have c104i : 3 ≤ (p0 &&& (3 : Int32)).toInt := own_i_nlt c104
          refine own_st (fun _ k => XS.icmpNo X.here hx rfl (hb hby own_d9_67) rfl (flt c104).1 k) ?_
          show own_Goes p e below s _ _ (T.setTop (mkF m 70 #[iv p0, iv p1, iv (p0 &&& (3 : Int32)), iv (p1 &&& (3 : Int32))] []))
          refine own_st (fun _ k => XS.iloadN X.here hx rfl (hb hby own_d9_70) rfl  k) ?_
          show own_Goes p e below s _ _ (T.setTop (mkF m 71 #[iv p0, iv p1, iv (p0 &&& (3 : Int32)), iv (p1 &&& (3 : Int32))] [(.int p0)]))
          refine own_st (fun _ k => XS.bipush X.here hx rfl (hb hby own_d9_71) k) ?_
          show own_Goes p e below s _ _ (T.setTop (mkF m 73 #[iv p0, iv p1, iv (p0 &&& (3 : Int32)), iv (p1 &&& (3 : Int32))] [(.int (18 : Int32)), (.int p0)]))
          refine own_st (fun _ k => XS.iushr X.here hx rfl (hb hby own_d9_73) rfl k) ?_
          show own_Goes p e below s _ _ (T.setTop (mkF m 74 #[iv p0, iv p1, iv (p0 &&& (3 : Int32)), iv (p1 &&& (3 : Int32))] [(.int ((p0.toUInt32 >>> ((18 : Int32) &&& 31).toUInt32).toInt32))]))
          refine own_st (fun _ k => XS.sipush X.here hx rfl (hb hby own_d9_74) k) ?_
          show own_Goes p e below s _ _ (T.setTop (mkF m 77 #[iv p0, iv p1, iv (p0 &&& (3 : Int32)), iv (p1 &&& (3 : Int32))] [(.int (255 : Int32)), (.int ((p0.toUInt32 >>> ((18 : Int32) &&& 31).toUInt32).toInt32))]))
          refine own_st (fun _ k => XS.iand X.here hx rfl (hb hby own_d9_77) rfl k) ?_
          show own_Goes p e below s _ _ (T.setTop (mkF m 78 #[iv p0, iv p1, iv (p0 &&& (3 : Int32)), iv (p1 &&& (3 : Int32))] [(.int (((p0.toUInt32 >>> ((18 : Int32) &&& 31).toUInt32).toInt32) &&& (255 : Int32)))]))
          refine own_st (fun _ k => XS.iloadN X.here hx rfl (hb hby own_d9_78) rfl  k) ?_
          show own_Goes p e below s _ _ (T.setTop (mkF m 79 #[iv p0, iv p1, iv (p0 &&& (3 : Int32)), iv (p1 &&& (3 : Int32))] [(.int p1), (.int (((p0.toUInt32 >>> ((18 : Int32) &&& 31).toUInt32).toInt32) &&& (255 : Int32)))]))
          refine own_st (fun _ k => XS.bipush X.here hx rfl (hb hby own_d9_79) k) ?_
          show own_Goes p e below s _ _ (T.setTop (mkF m 81 #[iv p0, iv p1, iv (p0 &&& (3 : Int32)), iv (p1 &&& (3 : Int32))] [(.int (18 : Int32)), (.int p1), (.int (((p0.toUInt32 >>> ((18 : Int32) &&& 31).toUInt32).toInt32) &&& (255 : Int32)))]))
          refine own_st (fun _ k => XS.iushr X.here hx rfl (hb hby own_d9_81) rfl k) ?_
          show own_Goes p e below s _ _ (T.setTop (mkF m 82 #[iv p0, iv p1, iv (p0 &&& (3 : Int32)), iv (p1 &&& (3 : Int32))] [(.int ((p1.toUInt32 >>> ((18 : Int32) &&& 31).toUInt32).toInt32)), (.int (((p0.toUInt32 >>> ((18 : Int32) &&& 31).toUInt32).toInt32) &&& (255 : Int32)))]))
          refine own_st (fun _ k => XS.sipush X.here hx rfl (hb hby own_d9_82) k) ?_
          show own_Goes p e below s _ _ (T.setTop (mkF m 85 #[iv p0, iv p1, iv (p0 &&& (3 : Int32)), iv (p1 &&& (3 : Int32))] [(.int (255 : Int32)), (.int ((p1.toUInt32 >>> ((18 : Int32) &&& 31).toUInt32).toInt32)), (.int (((p0.toUInt32 >>> ((18 : Int32) &&& 31).toUInt32).toInt32) &&& (255 : Int32)))]))
          refine own_st (fun _ k => XS.iand X.here hx rfl (hb hby own_d9_85) rfl k) ?_
          show own_Goes p e below s _ _ (T.setTop (mkF m 86 #[iv p0, iv p1, iv (p0 &&& (3 : Int32)), iv (p1 &&& (3 : Int32))] [(.int (((p1.toUInt32 >>> ((18 : Int32) &&& 31).toUInt32).toInt32) &&& (255 : Int32))), (.int (((p0.toUInt32 >>> ((18 : Int32) &&& 31).toUInt32).toInt32) &&& (255 : Int32)))]))
          by_cases c105 : (((p0.toUInt32 >>> ((18 : Int32) &&& 31).toUInt32).toInt32) &&& (255 : Int32)) = (((p1.toUInt32 >>> ((18 : Int32) &&& 31).toUInt32).toInt32) &&& (255 : Int32))
          · have c105i : (((p0.toUInt32 >>> ((18 : Int32) &&& 31).toUInt32).toInt32) &&& (255 : Int32)).toInt = (((p1.toUInt32 >>> ((18 : Int32) &&& 31).toUInt32).toInt32) &&& (255 : Int32)).toInt := own_i_eq c105
            refine own_st (fun _ k => XS.icmpYes X.here hx rfl (pc0 := 86) (pc' := 91) rfl (hb hby own_d9_86) rfl (teq c105).1 (by decide) (by decide) k) ?_
            show own_Goes p e below s _ _ (T.setTop (mkF m 91 #[iv p0, iv p1, iv (p0 &&& (3 : Int32)), iv (p1 &&& (3 : Int32))] []))
            refine own_st (fun _ k => XS.iconst X.here hx rfl (hb hby own_d9_91) k) ?_
            show own_Goes p e below s _ _ (T.setTop (mkF m 92 #[iv p0, iv p1, iv (p0 &&& (3 : Int32)), iv (p1 &&& (3 : Int32))] [(.int (1 : Int32))]))
            exact own_retN X hx hlk (1 : Int32) hret (Or.inl rfl) rfl (hb hby own_d9_92) (by decide) (by decide) ⟨(1 : Int32), rfl, own_b1 (by unfold own_SAME; omega), N0, e0⟩
          · have c105i : ¬ (((p0.toUInt32 >>> ((18 : Int32) &&& 31).toUInt32).toInt32) &&& (255 : Int32)).toInt = (((p1.toUInt32 >>> ((18 : Int32) &&& 31).toUInt32).toInt32) &&& (255 : Int32)).toInt := own_i_ne c105
            refine own_st (fun _ k => XS.icmpNo X.here hx rfl (hb hby own_d9_86) rfl (feq c105).1 k) ?_
            show own_Goes p e below s _ _ (T.setTop (mkF m 89 #[iv p0, iv p1, iv (p0 &&& (3 : Int32)), iv (p1 &&& (3 : Int32))] []))
            refine own_st (fun _ k => XS.iconst X.here hx rfl (hb hby own_d9_89) k) ?_
            show own_Goes p e below s _ _ (T.setTop (mkF m 90 #[iv p0, iv p1, iv (p0 &&& (3 : Int32)), iv (p1 &&& (3 : Int32))] [(.int (0 : Int32))]))
            exact own_retN X hx hlk (0 : Int32) hret (Or.inl rfl) rfl (hb hby own_d9_90) (by decide) (by decide) ⟨(0 : Int32), rfl, own_b0 (by unfold own_SAME; omega), N0, e0⟩
      · have c103i : 2 ≤ (p0 &&& (3 : Int32)).toInt := own_i_nlt c103
        refine own_st (fun _ k => XS.icmpNo X.here hx rfl (hb hby own_d9_41) rfl (flt c103).1 k) ?_
        show own_Goes p e below s _ _ (T.setTop (mkF m 44 #[iv p0, iv p1, iv (p0 &&& (3 : Int32)), iv (p1 &&& (3 : Int32))] []))
        refine own_st (fun _ k => XS.iloadN X.here hx rfl (hb hby own_d9_44) rfl  k) ?_
        show own_Goes p e below s _ _ (T.setTop (mkF m 45 #[iv p0, iv p1, iv (p0 &&& (3 : Int32)), iv (p1 &&& (3 : Int32))] [(.int p0)]))
        refine own_st (fun _ k => XS.bipush X.here hx rfl (hb hby own_d9_45) k) ?_
        show own_Goes p e below s _ _ (T.setTop (mkF m 47 #[iv p0, iv p1, iv (p0 &&& (3 : Int32)), iv (p1 &&& (3 : Int32))] [(.int (10 : Int32)), (.int p0)]))
        refine own_st (fun _ k => XS.iushr X.here hx rfl (hb hby own_d9_47) rfl k) ?_
        show own_Goes p e below s _ _ (T.setTop (mkF m 48 #[iv p0, iv p1, iv (p0 &&& (3 : Int32)), iv (p1 &&& (3 : Int32))] [(.int ((p0.toUInt32 >>> ((10 : Int32) &&& 31).toUInt32).toInt32))]))
        refine own_st (fun _ k => XS.sipush X.here hx rfl (hb hby own_d9_48) k) ?_
        show own_Goes p e below s _ _ (T.setTop (mkF m 51 #[iv p0, iv p1, iv (p0 &&& (3 : Int32)), iv (p1 &&& (3 : Int32))] [(.int (255 : Int32)), (.int ((p0.toUInt32 >>> ((10 : Int32) &&& 31).toUInt32).toInt32))]))
        refine own_st (fun _ k => XS.iand X.here hx rfl (hb hby own_d9_51) rfl k) ?_
        show own_Goes p e below s _ _ (T.setTop (mkF m 52 #[iv p0, iv p1, iv (p0 &&& (3 : Int32)), iv (p1 &&& (3 : Int32))] [(.int (((p0.toUInt32 >>> ((10 : Int32) &&& 31).toUInt32).toInt32) &&& (255 : Int32)))]))
        refine own_st (fun _ k => XS.iloadN X.here hx rfl (hb hby own_d9_52) rfl  k) ?_
        show own_Goes p e below s _ _ (T.setTop (mkF m 53 #[iv p0, iv p1, iv (p0 &&& (3 : Int32)), iv (p1 &&& (3 : Int32))] [(.int p1), (.int (((p0.toUInt32 >>> ((10 : Int32) &&& 31).toUInt32).toInt32) &&& (255 : Int32)))]))
        refine own_st (fun _ k => XS.bipush X.here hx rfl (hb hby own_d9_53) k) ?_
        show own_Goes p e below s _ _ (T.setTop (mkF m 55 #[iv p0, iv p1, iv (p0 &&& (3 : Int32)), iv (p1 &&& (3 : Int32))] [(.int (10 : Int32)), (.int p1), (.int (((p0.toUInt32 >>> ((10 : Int32) &&& 31).toUInt32).toInt32) &&& (255 : Int32)))]))
        refine own_st (fun _ k => XS.iushr X.here hx rfl (hb hby own_d9_55) rfl k) ?_
        show own_Goes p e below s _ _ (T.setTop (mkF m 56 #[iv p0, iv p1, iv (p0 &&& (3 : Int32)), iv (p1 &&& (3 : Int32))] [(.int ((p1.toUInt32 >>> ((10 : Int32) &&& 31).toUInt32).toInt32)), (.int (((p0.toUInt32 >>> ((10 : Int32) &&& 31).toUInt32).toInt32) &&& (255 : Int32)))]))
        refine own_st (fun _ k => XS.sipush X.here hx rfl (hb hby own_d9_56) k) ?_
        show own_Goes p e below s _ _ (T.setTop (mkF m 59 #[iv p0, iv p1, iv (p0 &&& (3 : Int32)), iv (p1 &&& (3 : Int32))] [(.int (255 : Int32)), (.int ((p1.toUInt32 >>> ((10 : Int32) &&& 31).toUInt32).toInt32)), (.int (((p0.toUInt32 >>> ((10 : Int32) &&& 31).toUInt32).toInt32) &&& (255 : Int32)))]))
        refine own_st (fun _ k => XS.iand X.here hx rfl (hb hby own_d9_59) rfl k) ?_
        show own_Goes p e below s _ _ (T.setTop (mkF m 60 #[iv p0, iv p1, iv (p0 &&& (3 : Int32)), iv (p1 &&& (3 : Int32))] [(.int (((p1.toUInt32 >>> ((10 : Int32) &&& 31).toUInt32).toInt32) &&& (255 : Int32))), (.int (((p0.toUInt32 >>> ((10 : Int32) &&& 31).toUInt32).toInt32) &&& (255 : Int32)))]))
        by_cases c106 : (((p0.toUInt32 >>> ((10 : Int32) &&& 31).toUInt32).toInt32) &&& (255 : Int32)) = (((p1.toUInt32 >>> ((10 : Int32) &&& 31).toUInt32).toInt32) &&& (255 : Int32))
        · have c106i : (((p0.toUInt32 >>> ((10 : Int32) &&& 31).toUInt32).toInt32) &&& (255 : Int32)).toInt = (((p1.toUInt32 >>> ((10 : Int32) &&& 31).toUInt32).toInt32) &&& (255 : Int32)).toInt := own_i_eq c106
          refine own_st (fun _ k => XS.icmpYes X.here hx rfl (pc0 := 60) (pc' := 65) rfl (hb hby own_d9_60) rfl (teq c106).1 (by decide) (by decide) k) ?_
          show own_Goes p e below s _ _ (T.setTop (mkF m 65 #[iv p0, iv p1, iv (p0 &&& (3 : Int32)), iv (p1 &&& (3 : Int32))] []))
          refine own_st (fun _ k => XS.iloadN X.here hx rfl (hb hby own_d9_65) rfl  k) ?_
          show own_Goes p e below s _ _ (T.setTop (mkF m 66 #[iv p0, iv p1, iv (p0 &&& (3 : Int32)), iv (p1 &&& (3 : Int32))] [(.int (p0 &&& (3 : Int32)))]))
          refine own_st (fun _ k => XS.iconst X.here hx rfl (hb hby own_d9_66) k) ?_
          show own_Goes p e below s _ _ (T.setTop (mkF m 67 #[iv p0, iv p1, iv (p0 &&& (3 : Int32)), iv (p1 &&& (3 : Int32))] [(.int (3 : Int32)), (.int (p0 &&& (3 : Int32)))]))
          by_cases c107 : (p0 &&& (3 : Int32)) < (3 : Int32)
          · have c107i : (p0 &&& (3 : Int32)).toInt < 3 := own_i_lt c107
            refine own_st (fun _ k => XS.icmpYes X.here hx rfl (pc0 := 67) (pc' := 91) rfl (hb hby own_d9_67) rfl (tlt c107).1 (by decide) (by decide) k) ?_
            show own_Goes p e below s _ _ (T.setTop (mkF m 91 #[iv p0, iv p1, iv (p0 &&& (3 : Int32)), iv (p1 &&& (3 : Int32))] []))
            refine own_st (fun _ k => XS.iconst X.here hx rfl (hb hby own_d9_91) k) ?_
            show own_Goes p e below s _ _ (T.setTop (mkF m 92 #[iv p0, iv p1, iv (p0 &&& (3 : Int32)), iv (p1 &&& (3 : Int32))] [(.int (1 : Int32))]))
            exact own_retN X hx hlk (1 : Int32) hret (Or.inl rfl) rfl (hb hby own_d9_92) (by decide) (by decide) ⟨(1 : Int32), rfl, own_b1 (by unfold own_SAME; omega), N0, e0⟩
          · have c107i : 3 ≤ (p0 &&& (3 : Int32)).toInt := own_i_nlt c107
            refine own_st (fun _ k => XS.icmpNo X.here hx rfl (hb hby own_d9_67) rfl (flt c107).1 k) ?_
            show own_Goes p e below s _ _ (T.setTop (mkF m 70 #[iv p0, iv p1, iv (p0 &&& (3 : Int32)), iv (p1 &&& (3 : Int32))] []))
            refine own_st (fun _ k => XS.iloadN X.here hx rfl (hb hby own_d9_70) rfl  k) ?_
            show own_Goes p e below s _ _ (T.setTop (mkF m 71 #[iv p0, iv p1, iv (p0 &&& (3 : Int32)), iv (p1 &&& (3 : Int32))] [(.int p0)]))
            refine own_st (fun _ k => XS.bipush X.here hx rfl (hb hby own_d9_71) k) ?_
            show own_Goes p e below s _ _ (T.setTop (mkF m 73 #[iv p0, iv p1, iv (p0 &&& (3 : Int32)), iv (p1 &&& (3 : Int32))] [(.int (18 : Int32)), (.int p0)]))
            refine own_st (fun _ k => XS.iushr X.here hx rfl (hb hby own_d9_73) rfl k) ?_
            show own_Goes p e below s _ _ (T.setTop (mkF m 74 #[iv p0, iv p1, iv (p0 &&& (3 : Int32)), iv (p1 &&& (3 : Int32))] [(.int ((p0.toUInt32 >>> ((18 : Int32) &&& 31).toUInt32).toInt32))]))
            refine own_st (fun _ k => XS.sipush X.here hx rfl (hb hby own_d9_74) k) ?_
            show own_Goes p e below s _ _ (T.setTop (mkF m 77 #[iv p0, iv p1, iv (p0 &&& (3 : Int32)), iv (p1 &&& (3 : Int32))] [(.int (255 : Int32)), (.int ((p0.toUInt32 >>> ((18 : Int32) &&& 31).toUInt32).toInt32))]))
            refine own_st (fun _ k => XS.iand X.here hx rfl (hb hby own_d9_77) rfl k) ?_
            show own_Goes p e below s _ _ (T.setTop (mkF m 78 #[iv p0, iv p1, iv (p0 &&& (3 : Int32)), iv (p1 &&& (3 : Int32))] [(.int (((p0.toUInt32 >>> ((18 : Int32) &&& 31).toUInt32).toInt32) &&& (255 : Int32)))]))
            refine own_st (fun _ k => XS.iloadN X.here hx rfl (hb hby own_d9_78) rfl  k) ?_
            show own_Goes p e below s _ _ (T.setTop (mkF m 79 #[iv p0, iv p1, iv (p0 &&& (3 : Int32)), iv (p1 &&& (3 : Int32))] [(.int p1), (.int (((p0.toUInt32 >>> ((18 : Int32) &&& 31).toUInt32).toInt32) &&& (255 : Int32)))]))
            refine own_st (fun _ k => XS.bipush X.here hx rfl (hb hby own_d9_79) k) ?_
            show own_Goes p e below s _ _ (T.setTop (mkF m 81 #[iv p0, iv p1, iv (p0 &&& (3 : Int32)), iv (p1 &&& (3 : Int32))] [(.int (18 : Int32)), (.int p1), (.int (((p0.toUInt32 >>> ((18 : Int32) &&& 31).toUInt32).toInt32) &&& (255 : Int32)))]))
            refine own_st (fun _ k => XS.iushr X.here hx rfl (hb hby own_d9_81) rfl k) ?_
            show own_Goes p e below s _ _ (T.setTop (mkF m 82 #[iv p0, iv p1, iv (p0 &&& (3 : Int32)), iv (p1 &&& (3 : Int32))] [(.int ((p1.toUInt32 >>> ((18 : Int32) &&& 31).toUInt32).toInt32)), (.int (((p0.toUInt32 >>> ((18 : Int32) &&& 31).toUInt32).toInt32) &&& (255 : Int32)))]))
            refine own_st (fun _ k => XS.sipush X.here hx rfl (hb hby own_d9_82) k) ?_
            show own_Goes p e below s _ _ (T.setTop (mkF m 85 #[iv p0, iv p1, iv (p0 &&& (3 : Int32)), iv (p1 &&& (3 : Int32))] [(.int (255 : Int32)), (.int ((p1.toUInt32 >>> ((18 : Int32) &&& 31).toUInt32).toInt32)), (.int (((p0.toUInt32 >>> ((18 : Int32) &&& 31).toUInt32).toInt32) &&& (255 : Int32)))]))
            refine own_st (fun _ k => XS.iand X.here hx rfl (hb hby own_d9_85) rfl k) ?_
            show own_Goes p e below s _ _ (T.setTop (mkF m 86 #[iv p0, iv p1, iv (p0 &&& (3 : Int32)), iv (p1 &&& (3 : Int32))] [(.int (((p1.toUInt32 >>> ((18 : Int32) &&& 31).toUInt32).toInt32) &&& (255 : Int32))), (.int (((p0.toUInt32 >>> ((18 : Int32) &&& 31).toUInt32).toInt32) &&& (255 : Int32)))]))
            by_cases c108 : (((p0.toUInt32 >>> ((18 : Int32) &&& 31).toUInt32).toInt32) &&& (255 : Int32)) = (((p1.toUInt32 >>> ((18 : Int32) &&& 31).toUInt32).toInt32) &&& (255 : Int32))
            · have c108i : (((p0.toUInt32 >>> ((18 : Int32) &&& 31).toUInt32).toInt32) &&& (255 : Int32)).toInt = (((p1.toUInt32 >>> ((18 : Int32) &&& 31).toUInt32).toInt32) &&& (255 : Int32)).toInt := own_i_eq c108
              refine own_st (fun _ k => XS.icmpYes X.here hx rfl (pc0 := 86) (pc' := 91) rfl (hb hby own_d9_86) rfl (teq c108).1 (by decide) (by decide) k) ?_
              show own_Goes p e below s _ _ (T.setTop (mkF m 91 #[iv p0, iv p1, iv (p0 &&& (3 : Int32)), iv (p1 &&& (3 : Int32))] []))
              refine own_st (fun _ k => XS.iconst X.here hx rfl (hb hby own_d9_91) k) ?_
              show own_Goes p e below s _ _ (T.setTop (mkF m 92 #[iv p0, iv p1, iv (p0 &&& (3 : Int32)), iv (p1 &&& (3 : Int32))] [(.int (1 : Int32))]))
              exact own_retN X hx hlk (1 : Int32) hret (Or.inl rfl) rfl (hb hby own_d9_92) (by decide) (by decide) ⟨(1 : Int32), rfl, own_b1 (by unfold own_SAME; omega), N0, e0⟩
            · have c108i : ¬ (((p0.toUInt32 >>> ((18 : Int32) &&& 31).toUInt32).toInt32) &&& (255 : Int32)).toInt = (((p1.toUInt32 >>> ((18 : Int32) &&& 31).toUInt32).toInt32) &&& (255 : Int32)).toInt := own_i_ne c108
              refine own_st (fun _ k => XS.icmpNo X.here hx rfl (hb hby own_d9_86) rfl (feq c108).1 k) ?_
              show own_Goes p e below s _ _ (T.setTop (mkF m 89 #[iv p0, iv p1, iv (p0 &&& (3 : Int32)), iv (p1 &&& (3 : Int32))] []))
              refine own_st (fun _ k => XS.iconst X.here hx rfl (hb hby own_d9_89) k) ?_
              show own_Goes p e below s _ _ (T.setTop (mkF m 90 #[iv p0, iv p1, iv (p0 &&& (3 : Int32)), iv (p1 &&& (3 : Int32))] [(.int (0 : Int32))]))
              exact own_retN X hx hlk (0 : Int32) hret (Or.inl rfl) rfl (hb hby own_d9_90) (by decide) (by decide) ⟨(0 : Int32), rfl, own_b0 (by unfold own_SAME; omega), N0, e0⟩
        · have c106i : ¬ (((p0.toUInt32 >>> ((10 : Int32) &&& 31).toUInt32).toInt32) &&& (255 : Int32)).toInt = (((p1.toUInt32 >>> ((10 : Int32) &&& 31).toUInt32).toInt32) &&& (255 : Int32)).toInt := own_i_ne c106
          refine own_st (fun _ k => XS.icmpNo X.here hx rfl (hb hby own_d9_60) rfl (feq c106).1 k) ?_
          show own_Goes p e below s _ _ (T.setTop (mkF m 63 #[iv p0, iv p1, iv (p0 &&& (3 : Int32)), iv (p1 &&& (3 : Int32))] []))
          refine own_st (fun _ k => XS.iconst X.here hx rfl (hb hby own_d9_63) k) ?_
          show own_Goes p e below s _ _ (T.setTop (mkF m 64 #[iv p0, iv p1, iv (p0 &&& (3 : Int32)), iv (p1 &&& (3 : Int32))] [(.int (0 : Int32))]))
          exact own_retN X hx hlk (0 : Int32) hret (Or.inl rfl) rfl (hb hby own_d9_64) (by decide) (by decide) ⟨(0 : Int32), rfl, own_b0 (by unfold own_SAME; omega), N0, e0⟩
    · have c102i : 1 ≤ (p0 &&& (3 : Int32)).toInt := own_i_nlt c102
      refine own_st (fun _ k => XS.icmpNo X.here hx rfl (hb hby own_d9_17) rfl (flt c102).1 k) ?_
      show own_Goes p e below s _ _ (T.setTop (mkF m 20 #[iv p0, iv p1, iv (p0 &&& (3 : Int32)), iv (p1 &&& (3 : Int32))] []))
      refine own_st (fun _ k => XS.iloadN X.here hx rfl (hb hby own_d9_20) rfl  k) ?_
      show own_Goes p e below s _ _ (T.setTop (mkF m 21 #[iv p0, iv p1, iv (p0 &&& (3 : Int32)), iv (p1 &&& (3 : Int32))] [(.int p0)]))
      refine own_st (fun _ k => XS.iconst X.here hx rfl (hb hby own_d9_21) k) ?_
      show own_Goes p e below s _ _ (T.setTop (mkF m 22 #[iv p0, iv p1, iv (p0 &&& (3 : Int32)), iv (p1 &&& (3 : Int32))] [(.int (2 : Int32)), (.int p0)]))
      refine own_st (fun _ k => XS.iushr X.here hx rfl (hb hby own_d9_22) rfl k) ?_
      show own_Goes p e below s _ _ (T.setTop (mkF m 23 #[iv p0, iv p1, iv (p0 &&& (3 : Int32)), iv (p1 &&& (3 : Int32))] [(.int ((p0.toUInt32 >>> ((2 : Int32) &&& 31).toUInt32).toInt32))]))
      refine own_st (fun _ k => XS.sipush X.here hx rfl (hb hby own_d9_23) k) ?_
      show own_Goes p e below s _ _ (T.setTop (mkF m 26 #[iv p0, iv p1, iv (p0 &&& (3 : Int32)), iv (p1 &&& (3 : Int32))] [(.int (255 : Int32)), (.int ((p0.toUInt32 >>> ((2 : Int32) &&& 31).toUInt32).toInt32))]))
      refine own_st (fun _ k => XS.iand X.here hx rfl (hb hby own_d9_26) rfl k) ?_
      show own_Goes p e below s _ _ (T.setTop (mkF m 27 #[iv p0, iv p1, iv (p0 &&& (3 : Int32)), iv (p1 &&& (3 : Int32))] [(.int (((p0.toUInt32 >>> ((2 : Int32) &&& 31).toUInt32).toInt32) &&& (255 : Int32)))]))
      refine own_st (fun _ k => XS.iloadN X.here hx rfl (hb hby own_d9_27) rfl  k) ?_
      show own_Goes p e below s _ _ (T.setTop (mkF m 28 #[iv p0, iv p1, iv (p0 &&& (3 : Int32)), iv (p1 &&& (3 : Int32))] [(.int p1), (.int (((p0.toUInt32 >>> ((2 : Int32) &&& 31).toUInt32).toInt32) &&& (255 : Int32)))]))
      refine own_st (fun _ k => XS.iconst X.here hx rfl (hb hby own_d9_28) k) ?_
      show own_Goes p e below s _ _ (T.setTop (mkF m 29 #[iv p0, iv p1, iv (p0 &&& (3 : Int32)), iv (p1 &&& (3 : Int32))] [(.int (2 : Int32)), (.int p1), (.int (((p0.toUInt32 >>> ((2 : Int32) &&& 31).toUInt32).toInt32) &&& (255 : Int32)))]))
      refine own_st (fun _ k => XS.iushr X.here hx rfl (hb hby own_d9_29) rfl k) ?_
      show own_Goes p e below s _ _ (T.setTop (mkF m 30 #[iv p0, iv p1, iv (p0 &&& (3 : Int32)), iv (p1 &&& (3 : Int32))] [(.int ((p1.toUInt32 >>> ((2 : Int32) &&& 31).toUInt32).toInt32)), (.int (((p0.toUInt32 >>> ((2 : Int32) &&& 31).toUInt32).toInt32) &&& (255 : Int32)))]))
      refine own_st (fun _ k => XS.sipush X.here hx rfl (hb hby own_d9_30) k) ?_
      show own_Goes p e below s _ _ (T.setTop (mkF m 33 #[iv p0, iv p1, iv (p0 &&& (3 : Int32)), iv (p1 &&& (3 : Int32))] [(.int (255 : Int32)), (.int ((p1.toUInt32 >>> ((2 : Int32) &&& 31).toUInt32).toInt32)), (.int (((p0.toUInt32 >>> ((2 : Int32) &&& 31).toUInt32).toInt32) &&& (255 : Int32)))]))
      refine own_st (fun _ k => XS.iand X.here hx rfl (hb hby own_d9_33) rfl k) ?_
      show own_Goes p e below s _ _ (T.setTop (mkF m 34 #[iv p0, iv p1, iv (p0 &&& (3 : Int32)), iv (p1 &&& (3 : Int32))] [(.int (((p1.toUInt32 >>> ((2 : Int32) &&& 31).toUInt32).toInt32) &&& (255 : Int32))), (.int (((p0.toUInt32 >>> ((2 : Int32) &&& 31).toUInt32).toInt32) &&& (255 : Int32)))]))
      by_cases c109 : (((p0.toUInt32 >>> ((2 : Int32) &&& 31).toUInt32).toInt32) &&& (255 : Int32)) = (((p1.toUInt32 >>> ((2 : Int32) &&& 31).toUInt32).toInt32) &&& (255 : Int32))
      · have c109i : (((p0.toUInt32 >>> ((2 : Int32) &&& 31).toUInt32).toInt32) &&& (255 : Int32)).toInt = (((p1.toUInt32 >>> ((2 : Int32) &&& 31).toUInt32).toInt32) &&& (255 : Int32)).toInt := own_i_eq c109
        refine own_st (fun _ k => XS.icmpYes X.here hx rfl (pc0 := 34) (pc' := 39) rfl (hb hby own_d9_34) rfl (teq c109).1 (by decide) (by decide) k) ?_
        show own_Goes p e below s _ _ (T.setTop (mkF m 39 #[iv p0, iv p1, iv (p0 &&& (3 : Int32)), iv (p1 &&& (3 : Int32))] []))
        refine own_st (fun _ k => XS.iloadN X.here hx rfl (hb hby own_d9_39) rfl  k) ?_
        show own_Goes p e below s _ _ (T.setTop (mkF m 40 #[iv p0, iv p1, iv (p0 &&& (3 : Int32)), iv (p1 &&& (3 : Int32))] [(.int (p0 &&& (3 : Int32)))]))
        refine own_st (fun _ k => XS.iconst X.here hx rfl (hb hby own_d9_40) k) ?_
        show own_Goes p e below s _ _ (T.setTop (mkF m 41 #[iv p0, iv p1, iv (p0 &&& (3 : Int32)), iv (p1 &&& (3 : Int32))] [(.int (2 : Int32)), (.int (p0 &&& (3 : Int32)))]))
        by_cases c110 : (p0 &&& (3 : Int32)) < (2 : Int32)
        · have c110i : (p0 &&& (3 : Int32)).toInt < 2 := own_i_lt c110
          refine own_st (fun _ k => XS.icmpYes X.here hx rfl (pc0 := 41) (pc' := 65) rfl (hb hby own_d9_41) rfl (tlt c110).1 (by decide) (by decide) k) ?_
          show own_Goes p e below s _ _ (T.setTop (mkF m 65 #[iv p0, iv p1, iv (p0 &&& (3 : Int32)), iv (p1 &&& (3 : Int32))] []))
          refine own_st (fun _ k => XS.iloadN X.here hx rfl (hb hby own_d9_65) rfl  k) ?_
          show own_Goes p e below s _ _ (T.setTop (mkF m 66 #[iv p0, iv p1, iv (p0 &&& (3 : Int32)), iv (p1 &&& (3 : Int32))] [(.int (p0 &&& (3 : Int32)))]))
          refine own_st (fun _ k => XS.iconst X.here hx rfl (hb hby own_d9_66) k) ?_
          show own_Goes p e below s _ _ (T.setTop (mkF m 67 #[iv p0, iv p1, iv (p0 &&& (3 : Int32)), iv (p1 &&& (3 : Int32))] [(.int (3 : Int32)), (.int (p0 &&& (3 : Int32)))]))
          by_cases c111 : (p0 &&& (3 : Int32)) < (3 : Int32)
          · have c111i : (p0 &&& (3 : Int32)).toInt < 3 := own_i_lt c111
            refine own_st (fun _ k => XS.icmpYes X.here hx rfl (pc0 := 67) (pc' := 91) rfl (hb hby own_d9_67) rfl (tlt c111).1 (by decide) (by decide) k) ?_
            show own_Goes p e below s _ _ (T.setTop (mkF m 91 #[iv p0, iv p1, iv (p0 &&& (3 : Int32)), iv (p1 &&& (3 : Int32))] []))
            refine own_st (fun _ k => XS.iconst X.here hx rfl (hb hby own_d9_91) k) ?_
            show own_Goes p e below s _ _ (T.setTop (mkF m 92 #[iv p0, iv p1, iv (p0 &&& (3 : Int32)), iv (p1 &&& (3 : Int32))] [(.int (1 : Int32))]))
            exact own_retN X hx hlk (1 : Int32) hret (Or.inl rfl) rfl (hb hby own_d9_92) (by decide) (by decide) ⟨(1 : Int32), rfl, own_b1 (by unfold own_SAME; omega), N0, e0⟩
          · have c111i : 3 ≤ (p0 &&& (3 : Int32)).toInt := own_i_nlt c111
            refine own_st (fun _ k => XS.icmpNo X.here hx rfl (hb hby own_d9_67) rfl (flt c111).1 k) ?_
            show own_Goes p e below s _ _ (T.setTop (mkF m 70 #[iv p0, iv p1, iv (p0 &&& (3 : Int32)), iv (p1 &&& (3 : Int32))] []))
            refine own_st (fun _ k => XS.iloadN X.here hx rfl (hb hby own_d9_70) rfl  k) ?_
            show own_Goes p e below s _ _ (T.setTop (mkF m 71 #[iv p0, iv p1, iv (p0 &&& (3 : Int32)), iv (p1 &&& (3 : Int32))] [(.int p0)]))
            refine own_st (fun _ k => XS.bipush X.here hx rfl (hb hby own_d9_71) k) ?_
            show own_Goes p e below s _ _ (T.setTop (mkF m 73 #[iv p0, iv p1, iv (p0 &&& (3 : Int32)), iv (p1 &&& (3 : Int32))] [(.int (18 : Int32)), (.int p0)]))
            refine own_st (fun _ k => XS.iushr X.here hx rfl (hb hby own_d9_73) rfl k) ?_
            show own_Goes p e below s _ _ (T.setTop (mkF m 74 #[iv p0, iv p1, iv (p0 &&& (3 : Int32)), iv (p1 &&& (3 : Int32))] [(.int ((p0.toUInt32 >>> ((18 : Int32) &&& 31).toUInt32).toInt32))]))
            refine own_st (fun _ k => XS.sipush X.here hx rfl (hb hby own_d9_74) k) ?_
            show own_Goes p e below s _ _ (T.setTop (mkF m 77 #[iv p0, iv p1, iv (p0 &&& (3 : Int32)), iv (p1 &&& (3 : Int32))] [(.int (255 : Int32)), (.int ((p0.toUInt32 >>> ((18 : Int32) &&& 31).toUInt32).toInt32))]))
            refine own_st (fun _ k => XS.iand X.here hx rfl (hb hby own_d9_77) rfl k) ?_
            show own_Goes p e below s _ _ (T.setTop (mkF m 78 #[iv p0, iv p1, iv (p0 &&& (3 : Int32)), iv (p1 &&& (3 : Int32))] [(.int (((p0.toUInt32 >>> ((18 : Int32) &&& 31).toUInt32).toInt32) &&& (255 : Int32)))]))
            refine own_st (fun _ k => XS.iloadN X.here hx rfl (hb hby own_d9_78) rfl  k) ?_
            show own_Goes p e below s _ _ (T.setTop (mkF m 79 #[iv p0, iv p1, iv (p0 &&& (3 : Int32)), iv (p1 &&& (3 : Int32))] [(.int p1), (.int (((p0.toUInt32 >>> ((18 : Int32) &&& 31).toUInt32).toInt32) &&& (255 : Int32)))]))
            refine own_st (fun _ k => XS.bipush X.here hx rfl (hb hby own_d9_79) k) ?_
            show own_Goes p e below s _ _ (T.setTop (mkF m 81 #[iv p0, iv p1, iv (p0 &&& (3 : Int32)), iv (p1 &&& (3 : Int32))] [(.int (18 : Int32)), (.int p1), (.int (((p0.toUInt32 >>> ((18 : Int32) &&& 31).toUInt32).toInt32) &&& (255 : Int32)))]))
            refine own_st (fun _ k => XS.iushr X.here hx rfl (hb hby own_d9_81) rfl k) ?_
            show own_Goes p e below s _ _ (T.setTop (mkF m 82 #[iv p0, iv p1, iv (p0 &&& (3 : Int32)), iv (p1 &&& (3 : Int32))] [(.int ((p1.toUInt32 >>> ((18 : Int32) &&& 31).toUInt32).toInt32)), (.int (((p0.toUInt32 >>> ((18 : Int32) &&& 31).toUInt32).toInt32) &&& (255 : Int32)))]))
            refine own_st (fun _ k => XS.sipush X.here hx rfl (hb hby own_d9_82) k) ?_
            show own_Goes p e below s _ _ (T.setTop (mkF m 85 #[iv p0, iv p1, iv (p0 &&& (3 : Int32)), iv (p1 &&& (3 : Int32))] [(.int (255 : Int32)), (.int ((p1.toUInt32 >>> ((18 : Int32) &&& 31).toUInt32).toInt32)), (.int (((p0.toUInt32 >>> ((18 : Int32) &&& 31).toUInt32).toInt32) &&& (255 : Int32)))]))
            refine own_st (fun _ k => XS.iand X.here hx rfl (hb hby own_d9_85) rfl k) ?_
            show own_Goes p e below s _ _ (T.setTop (mkF m 86 #[iv p0, iv p1, iv (p0 &&& (3 : Int32)), iv (p1 &&& (3 : Int32))] [(.int (((p1.toUInt32 >>> ((18 : Int32) &&& 31).toUInt32).toInt32) &&& (255 : Int32))), (.int (((p0.toUInt32 >>> ((18 : Int32) &&& 31).toUInt32).toInt32) &&& (255 : Int32)))]))
            by_cases c112 : (((p0.toUInt32 >>> ((18 : Int32) &&& 31).toUInt32).toInt32) &&& (255 : Int32)) = (((p1.toUInt32 >>> ((18 : Int32) &&& 31).toUInt32).toInt32) &&& (255 : Int32))
            · have c112i : (((p0.toUInt32 >>> ((18 : Int32) &&& 31).toUInt32).toInt32) &&& (255 : Int32)).toInt = (((p1.toUInt32 >>> ((18 : Int32) &&& 31).toUInt32).toInt32) &&& (255 : Int32)).toInt := own_i_eq c112
              refine own_st (fun _ k => XS.icmpYes X.here hx rfl (pc0 := 86) (pc' := 91) rfl (hb hby own_d9_86) rfl (teq c112).1 (by decide) (by decide) k) ?_
              show own_Goes p e below s _ _ (T.setTop (mkF m 91 #[iv p0, iv p1, iv (p0 &&& (3 : Int32)), iv (p1 &&& (3 : Int32))] []))
              refine own_st (fun _ k => XS.iconst X.here hx rfl (hb hby own_d9_91) k) ?_
              show own_Goes p e below s _ _ (T.setTop (mkF m 92 #[iv p0, iv p1, iv (p0 &&& (3 : Int32)), iv (p1 &&& (3 : Int32))] [(.int (1 : Int32))]))
              exact own_retN X hx hlk (1 : Int32) hret (Or.inl rfl) rfl (hb hby own_d9_92) (by decide) (by decide) ⟨(1 : Int32), rfl, own_b1 (by unfold own_SAME; omega), N0, e0⟩
            · have c112i : ¬ (((p0.toUInt32 >>> ((18 : Int32) &&& 31).toUInt32).toInt32) &&& (255 : Int32)).toInt = (((p1.toUInt32 >>> ((18 : Int32) &&& 31).toUInt32).toInt32) &&& (255 : Int32)).toInt := own_i_ne c112
              refine own_st (fun _ k => XS.icmpNo X.here hx rfl (hb hby own_d9_86) rfl (feq c112).1 k) ?_
              show own_Goes p e below s _ _ (T.setTop (mkF m 89 #[iv p0, iv p1, iv (p0 &&& (3 : Int32)), iv (p1 &&& (3 : Int32))] []))
              refine own_st (fun _ k => XS.iconst X.here hx rfl (hb hby own_d9_89) k) ?_
              show own_Goes p e below s _ _ (T.setTop (mkF m 90 #[iv p0, iv p1, iv (p0 &&& (3 : Int32)), iv (p1 &&& (3 : Int32))] [(.int (0 : Int32))]))
              exact own_retN X hx hlk (0 : Int32) hret (Or.inl rfl) rfl (hb hby own_d9_90) (by decide) (by decide) ⟨(0 : Int32), rfl, own_b0 (by unfold own_SAME; omega), N0, e0⟩
        · have c110i : 2 ≤ (p0 &&& (3 : Int32)).toInt := own_i_nlt c110
          refine own_st (fun _ k => XS.icmpNo X.here hx rfl (hb hby own_d9_41) rfl (flt c110).1 k) ?_
          show own_Goes p e below s _ _ (T.setTop (mkF m 44 #[iv p0, iv p1, iv (p0 &&& (3 : Int32)), iv (p1 &&& (3 : Int32))] []))
          refine own_st (fun _ k => XS.iloadN X.here hx rfl (hb hby own_d9_44) rfl  k) ?_
          show own_Goes p e below s _ _ (T.setTop (mkF m 45 #[iv p0, iv p1, iv (p0 &&& (3 : Int32)), iv (p1 &&& (3 : Int32))] [(.int p0)]))
          refine own_st (fun _ k => XS.bipush X.here hx rfl (hb hby own_d9_45) k) ?_
          show own_Goes p e below s _ _ (T.setTop (mkF m 47 #[iv p0, iv p1, iv (p0 &&& (3 : Int32)), iv (p1 &&& (3 : Int32))] [(.int (10 : Int32)), (.int p0)]))
          refine own_st (fun _ k => XS.iushr X.here hx rfl (hb hby own_d9_47) rfl k) ?_
          show own_Goes p e below s _ _ (T.setTop (mkF m 48 #[iv p0, iv p1, iv (p0 &&& (3 : Int32)), iv (p1 &&& (3 : Int32))] [(.int ((p0.toUInt32 >>> ((10 : Int32) &&& 31).toUInt32).toInt32))]))
          refine own_st (fun _ k => XS.sipush X.here hx rfl (hb hby own_d9_48) k) ?_
          show own_Goes p e below s _ _ (T.setTop (mkF m 51 #[iv p0, iv p1, iv (p0 &&& (3 : Int32)), iv (p1 &&& (3 : Int32))] [(.int (255 : Int32)), (.int ((p0.toUInt32 >>> ((10 : Int32) &&& 31).toUInt32).toInt32))]))
          refine own_st (fun _ k => XS.iand X.here hx rfl (hb hby own_d9_51) rfl k) ?_
          show own_Goes p e below s _ _ (T.setTop (mkF m 52 #[iv p0, iv p1, iv (p0 &&& (3 : Int32)), iv (p1 &&& (3 : Int32))] [(.int (((p0.toUInt32 >>> ((10 : Int32) &&& 31).toUInt32).toInt32) &&& (255 : Int32)))]))
          refine own_st (fun _ k => XS.iloadN X.here hx rfl (hb hby own_d9_52) rfl  k) ?_
          show own_Goes p e below s _ _ (T.setTop (mkF m 53 #[iv p0, iv p1, iv (p0 &&& (3 : Int32)), iv (p1 &&& (3 : Int32))] [(.int p1), (.int (((p0.toUInt32 >>> ((10 : Int32) &&& 31).toUInt32).toInt32) &&& (255 : Int32)))]))
          refine own_st (fun _ k => XS.bipush X.here hx rfl (hb hby own_d9_53) k) ?_
          show own_Goes p e below s _ _ (T.setTop (mkF m 55 #[iv p0, iv p1, iv (p0 &&& (3 : Int32)), iv (p1 &&& (3 : Int32))] [(.int (10 : Int32)), (.int p1), (.int (((p0.toUInt32 >>> ((10 : Int32) &&& 31).toUInt32).toInt32) &&& (255 : Int32)))]))
          refine own_st (fun _ k => XS.iushr X.here hx rfl (hb hby own_d9_55) rfl k) ?_
          show own_Goes p e below s _ _ (T.setTop (mkF m 56 #[iv p0, iv p1, iv (p0 &&& (3 : Int32)), iv (p1 &&& (3 : Int32))] [(.int ((p1.toUInt32 >>> ((10 : Int32) &&& 31).toUInt32).toInt32)), (.int (((p0.toUInt32 >>> ((10 : Int32) &&& 31).toUInt32).toInt32) &&& (255 : Int32)))]))
          refine own_st (fun _ k => XS.sipush X.here hx rfl (hb hby own_d9_56) k) ?_
          show own_Goes p e below s _ _ (T.setTop (mkF m 59 #[iv p0, iv p1, iv (p0 &&& (3 : Int32)), iv (p1 &&& (3 : Int32))] [(.int (255 : Int32)), (.int ((p1.toUInt32 >>> ((10 : Int32) &&& 31).toUInt32).toInt32)), (.int (((p0.toUInt32 >>> ((10 : Int32) &&& 31).toUInt32).toInt32) &&& (255 : Int32)))]))
          refine own_st (fun _ k => XS.iand X.here hx rfl (hb hby own_d9_59) rfl k) ?_
          show own_Goes p e below s _ _ (T.setTop (mkF m 60 #[iv p0, iv p1, iv (p0 &&& (3 : Int32)), iv (p1 &&& (3 : Int32))] [(.int (((p1.toUInt32 >>> ((10 : Int32) &&& 31).toUInt32).toInt32) &&& (255 : Int32))), (.int (((p0.toUInt32 >>> ((10 : Int32) &&& 31).toUInt32).toInt32) &&& (255 : Int32)))]))
          by_cases c113 : (((p0.toUInt32 >>> ((10 : Int32) &&& 31).toUInt32).toInt32) &&& (255 : Int32)) = (((p1.toUInt32 >>> ((10 : Int32) &&& 31).toUInt32).toInt32) &&& (255 : Int32))
          · have c113i : (((p0.toUInt32 >>> ((10 : Int32) &&& 31).toUInt32).toInt32) &&& (255 : Int32)).toInt = (((p1.toUInt32 >>> ((10 : Int32) &&& 31).toUInt32).toInt32) &&& (255 : Int32)).toInt := own_i_eq c113
            refine own_st (fun _ k => XS.icmpYes X.here hx rfl (pc0 := 60) (pc' := 65) rfl (hb hby own_d9_60) rfl (teq c113).1 (by decide) (by decide) k) ?_
            show own_Goes p e below s _ _ (T.setTop (mkF m 65 #[iv p0, iv p1, iv (p0 &&& (3 : Int32)), iv (p1 &&& (3 : Int32))] []))
            refine own_st (fun _ k => XS.iloadN X.here hx rfl (hb hby own_d9_65) rfl  k) ?_
            show own_Goes p e below s _ _ (T.setTop (mkF m 66 #[iv p0, iv p1, iv (p0 &&& (3 : Int32)), iv (p1 &&& (3 : Int32))] [(.int (p0 &&& (3 : Int32)))]))
            refine own_st (fun _ k => XS.iconst X.here hx rfl (hb hby own_d9_66) k) ?_
            show own_Goes p e below s _ _ (T.setTop (mkF m 67 #[iv p0, iv p1, iv (p0 &&& (3 : Int32)), iv (p1 &&& (3 : Int32))] [(.int (3 : Int32)), (.int (p0 &&& (3 : Int32)))]))
            by_cases c114 : (p0 &&& (3 : Int32)) < (3 : Int32)
            · have c114i : (p0 &&& (3 : Int32)).toInt < 3 := own_i_lt c114
              refine own_st (fun _ k => XS.icmpYes X.here hx rfl (pc0 := 67) (pc' := 91) rfl (hb hby own_d9_67) rfl (tlt c114).1 (by decide) (by decide) k) ?_
              show own_Goes p e below s _ _ (T.setTop (mkF m 91 #[iv p0, iv p1, iv (p0 &&& (3 : Int32)), iv (p1 &&& (3 : Int32))] []))
              refine own_st (fun _ k => XS.iconst X.here hx rfl (hb hby own_d9_91) k) ?_
              show own_Goes p e below s _ _ (T.setTop (mkF m 92 #[iv p0, iv p1, iv (p0 &&& (3 : Int32)), iv (p1 &&& (3 : Int32))] [(.int (1 : Int32))]))
              exact own_retN X hx hlk (1 : Int32) hret (Or.inl rfl) rfl (hb hby own_d9_92) (by decide) (by decide) ⟨(1 : Int32), rfl, own_b1 (by unfold own_SAME; omega), N0, e0⟩
            · have c114i : 3 ≤ (p0 &&& (3 : Int32)).toInt := own_i_nlt c114
              refine own_st (fun _ k => XS.icmpNo X.here hx rfl (hb hby own_d9_67) rfl (flt c114).1 k) ?_
              show own_Goes p e below s _ _ (T.setTop (mkF m 70 #[iv p0, iv p1, iv (p0 &&& (3 : Int32)), iv (p1 &&& (3 : Int32))] []))
              refine own_st (fun _ k => XS.iloadN X.here hx rfl (hb hby own_d9_70) rfl  k) ?_
              show own_Goes p e below s _ _ (T.setTop (mkF m 71 #[iv p0, iv p1, iv (p0 &&& (3 : Int32)), iv (p1 &&& (3 : Int32))] [(.int p0)]))
              refine own_st (fun _ k => XS.bipush X.here hx rfl (hb hby own_d9_71) k) ?_
              show own_Goes p e below s _ _ (T.setTop (mkF m 73 #[iv p0, iv p1, iv (p0 &&& (3 : Int32)), iv (p1 &&& (3 : Int32))] [(.int (18 : Int32)), (.int p0)]))
              refine own_st (fun _ k => XS.iushr X.here hx rfl (hb hby own_d9_73) rfl k) ?_
              show own_Goes p e below s _ _ (T.setTop (mkF m 74 #[iv p0, iv p1, iv (p0 &&& (3 : Int32)), iv (p1 &&& (3 : Int32))] [(.int ((p0.toUInt32 >>> ((18 : Int32) &&& 31).toUInt32).toInt32))]))
              refine own_st (fun _ k => XS.sipush X.here hx rfl (hb hby own_d9_74) k) ?_
              show own_Goes p e below s _ _ (T.setTop (mkF m 77 #[iv p0, iv p1, iv (p0 &&& (3 : Int32)), iv (p1 &&& (3 : Int32))] [(.int (255 : Int32)), (.int ((p0.toUInt32 >>> ((18 : Int32) &&& 31).toUInt32).toInt32))]))
              refine own_st (fun _ k => XS.iand X.here hx rfl (hb hby own_d9_77) rfl k) ?_
              show own_Goes p e below s _ _ (T.setTop (mkF m 78 #[iv p0, iv p1, iv (p0 &&& (3 : Int32)), iv (p1 &&& (3 : Int32))] [(.int (((p0.toUInt32 >>> ((18 : Int32) &&& 31).toUInt32).toInt32) &&& (255 : Int32)))]))
              refine own_st (fun _ k => XS.iloadN X.here hx rfl (hb hby own_d9_78) rfl  k) ?_
              show own_Goes p e below s _ _ (T.setTop (mkF m 79 #[iv p0, iv p1, iv (p0 &&& (3 : Int32)), iv (p1 &&& (3 : Int32))] [(.int p1), (.int (((p0.toUInt32 >>> ((18 : Int32) &&& 31).toUInt32).toInt32) &&& (255 : Int32)))]))
              refine own_st (fun _ k => XS.bipush X.here hx rfl (hb hby own_d9_79) k) ?_
              show own_Goes p e below s _ _ (T.setTop (mkF m 81 #[iv p0, iv p1, iv (p0 &&& (3 : Int32)), iv (p1 &&& (3 : Int32))] [(.int (18 : Int32)), (.int p1), (.int (((p0.toUInt32 >>> ((18 : Int32) &&& 31).toUInt32).toInt32) &&& (255 : Int32)))]))
              refine own_st (fun _ k => XS.iushr X.here hx rfl (hb hby own_d9_81) rfl k) ?_
              show own_Goes p e below s _ _ (T.setTop (mkF m 82 #[iv p0, iv p1, iv (p0 &&& (3 : Int32)), iv (p1 &&& (3 : Int32))] [(.int ((p1.toUInt32 >>> ((18 : Int32) &&& 31).toUInt32).toInt32)), (.int (((p0.toUInt32 >>> ((18 : Int32) &&& 31).toUInt32).toInt32) &&& (255 : Int32)))]))
              refine own_st (fun _ k => XS.sipush X.here hx rfl (hb hby own_d9_82) k) ?_
              show own_Goes p e below s _ _ (T.setTop (mkF m 85 #[iv p0, iv p1, iv (p0 &&& (3 : Int32)), iv (p1 &&& (3 : Int32))] [(.int (255 : Int32)), (.int ((p1.toUInt32 >>> ((18 : Int32) &&& 31).toUInt32).toInt32)), (.int (((p0.toUInt32 >>> ((18 : Int32) &&& 31).toUInt32).toInt32) &&& (255 : Int32)))]))
              refine own_st (fun _ k => XS.iand X.here hx rfl (hb hby own_d9_85) rfl k) ?_
              show own_Goes p e below s _ _ (T.setTop (mkF m 86 #[iv p0, iv p1, iv (p0 &&& (3 : Int32)), iv (p1 &&& (3 : Int32))] [(.int (((p1.toUInt32 >>> ((18 : Int32) &&& 31).toUInt32).toInt32) &&& (255 : Int32))), (.int (((p0.toUInt32 >>> ((18 : Int32) &&& 31).toUInt32).toInt32) &&& (255 : Int32)))]))
              by_cases c115 : (((p0.toUInt32 >>> ((18 : Int32) &&& 31).toUInt32).toInt32) &&& (255 : Int32)) = (((p1.toUInt32 >>> ((18 : Int32) &&& 31).toUInt32).toInt32) &&& (255 : Int32))
              · have c115i : (((p0.toUInt32 >>> ((18 : Int32) &&& 31).toUInt32).toInt32) &&& (255 : Int32)).toInt = (((p1.toUInt32 >>> ((18 : Int32) &&& 31).toUInt32).toInt32) &&& (255 : Int32)).toInt := own_i_eq c115
                refine own_st (fun _ k => XS.icmpYes X.here hx rfl (pc0 := 86) (pc' := 91) rfl (hb hby own_d9_86) rfl (teq c115).1 (by decide) (by decide) k) ?_
                show own_Goes p e below s _ _ (T.setTop (mkF m 91 #[iv p0, iv p1, iv (p0 &&& (3 : Int32)), iv (p1 &&& (3 : Int32))] []))
                refine own_st (fun _ k => XS.iconst X.here hx rfl (hb hby own_d9_91) k) ?_
                show own_Goes p e below s _ _ (T.setTop (mkF m 92 #[iv p0, iv p1, iv (p0 &&& (3 : Int32)), iv (p1 &&& (3 : Int32))] [(.int (1 : Int32))]))
                exact own_retN X hx hlk (1 : Int32) hret (Or.inl rfl) rfl (hb hby own_d9_92) (by decide) (by decide) ⟨(1 : Int32), rfl, own_b1 (by unfold own_SAME; omega), N0, e0⟩
              · have c115i : ¬ (((p0.toUInt32 >>> ((18 : Int32) &&& 31).toUInt32).toInt32) &&& (255 : Int32)).toInt = (((p1.toUInt32 >>> ((18 : Int32) &&& 31).toUInt32).toInt32) &&& (255 : Int32)).toInt := own_i_ne c115
                refine own_st (fun _ k => XS.icmpNo X.here hx rfl (hb hby own_d9_86) rfl (feq c115).1 k) ?_
                show own_Goes p e below s _ _ (T.setTop (mkF m 89 #[iv p0, iv p1, iv (p0 &&& (3 : Int32)), iv (p1 &&& (3 : Int32))] []))
                refine own_st (fun _ k => XS.iconst X.here hx rfl (hb hby own_d9_89) k) ?_
                show own_Goes p e below s _ _ (T.setTop (mkF m 90 #[iv p0, iv p1, iv (p0 &&& (3 : Int32)), iv (p1 &&& (3 : Int32))] [(.int (0 : Int32))]))
                exact own_retN X hx hlk (0 : Int32) hret (Or.inl rfl) rfl (hb hby own_d9_90) (by decide) (by decide) ⟨(0 : Int32), rfl, own_b0 (by unfold own_SAME; omega), N0, e0⟩
          · have c113i : ¬ (((p0.toUInt32 >>> ((10 : Int32) &&& 31).toUInt32).toInt32) &&& (255 : Int32)).toInt = (((p1.toUInt32 >>> ((10 : Int32) &&& 31).toUInt32).toInt32) &&& (255 : Int32)).toInt := own_i_ne c113
            refine own_st (fun _ k => XS.icmpNo X.here hx rfl (hb hby own_d9_60) rfl (feq c113).1 k) ?_
            show own_Goes p e below s _ _ (T.setTop (mkF m 63 #[iv p0, iv p1, iv (p0 &&& (3 : Int32)), iv (p1 &&& (3 : Int32))] []))
            refine own_st (fun _ k => XS.iconst X.here hx rfl (hb hby own_d9_63) k) ?_
            show own_Goes p e below s _ _ (T.setTop (mkF m 64 #[iv p0, iv p1, iv (p0 &&& (3 : Int32)), iv (p1 &&& (3 : Int32))] [(.int (0 : Int32))]))
            exact own_retN X hx hlk (0 : Int32) hret (Or.inl rfl) rfl (hb hby own_d9_64) (by decide) (by decide) ⟨(0 : Int32), rfl, own_b0 (by unfold own_SAME; omega), N0, e0⟩
      · have c109i : ¬ (((p0.toUInt32 >>> ((2 : Int32) &&& 31).toUInt32).toInt32) &&& (255 : Int32)).toInt = (((p1.toUInt32 >>> ((2 : Int32) &&& 31).toUInt32).toInt32) &&& (255 : Int32)).toInt := own_i_ne c109
        refine own_st (fun _ k => XS.icmpNo X.here hx rfl (hb hby own_d9_34) rfl (feq c109).1 k) ?_
        show own_Goes p e below s _ _ (T.setTop (mkF m 37 #[iv p0, iv p1, iv (p0 &&& (3 : Int32)), iv (p1 &&& (3 : Int32))] []))
        refine own_st (fun _ k => XS.iconst X.here hx rfl (hb hby own_d9_37) k) ?_
        show own_Goes p e below s _ _ (T.setTop (mkF m 38 #[iv p0, iv p1, iv (p0 &&& (3 : Int32)), iv (p1 &&& (3 : Int32))] [(.int (0 : Int32))]))
        exact own_retN X hx hlk (0 : Int32) hret (Or.inl rfl) rfl (hb hby own_d9_38) (by decide) (by decide) ⟨(0 : Int32), rfl, own_b0 (by unfold own_SAME; omega), N0, e0⟩
  · have c101i : ¬ (p0 &&& (3 : Int32)).toInt = (p1 &&& (3 : Int32)).toInt := own_i_ne c101
    refine own_st (fun _ k => XS.icmpNo X.here hx rfl (hb hby own_d9_10) rfl (feq c101).1 k) ?_
    show own_Goes p e below s _ _ (T.setTop (mkF m 13 #[iv p0, iv p1, iv (p0 &&& (3 : Int32)), iv (p1 &&& (3 : Int32))] []))
    refine own_st (fun _ k => XS.iconst X.here hx rfl (hb hby own_d9_13) k) ?_
    show own_Goes p e below s _ _ (T.setTop (mkF m 14 #[iv p0, iv p1, iv (p0 &&& (3 : Int32)), iv (p1 &&& (3 : Int32))] [(.int (0 : Int32))]))
    exact own_retN X hx hlk (0 : Int32) hret (Or.inl rfl) rfl (hb hby own_d9_14) (by decide) (by decide) ⟨(0 : Int32), rfl, own_b0 (by unfold own_SAME; omega), N0, e0⟩
theorem own_pn8 : plainFor (⟨"java/lang/StringLatin1", "equals", "([B[B)Z"⟩ : MethodName) = true := by first | exact plainFor_of_name (by simp [plainName, overriddenIn]; done) | decide +kernel
theorem own_d12_0 : decode jdk_43_method_13_code 0 = .ok (.aload_n 0, 1) := by decide +kernel
theorem own_d12_1 : decode jdk_43_method_13_code 1 = .ok (.arraylength, 1) := by decide +kernel
theorem own_d12_2 : decode jdk_43_method_13_code 2 = .ok (.aload_n 1, 1) := by decide +kernel
theorem own_d12_3 : decode jdk_43_method_13_code 3 = .ok (.arraylength, 1) := by decide +kernel
theorem own_d12_4 : decode jdk_43_method_13_code 4 = .ok (.if_icmp .ne 30, 3) := by decide +kernel
theorem own_d12_7 : decode jdk_43_method_13_code 7 = .ok (.iconst 0, 1) := by decide +kernel
theorem own_d12_8 : decode jdk_43_method_13_code 8 = .ok (.istore_n 2, 1) := by decide +kernel
theorem own_d12_9 : decode jdk_43_method_13_code 9 = .ok (.iload_n 2, 1) := by decide +kernel
theorem own_d12_10 : decode jdk_43_method_13_code 10 = .ok (.aload_n 0, 1) := by decide +kernel
theorem own_d12_11 : decode jdk_43_method_13_code 11 = .ok (.arraylength, 1) := by decide +kernel
theorem own_d12_12 : decode jdk_43_method_13_code 12 = .ok (.if_icmp .ge 20, 3) := by decide +kernel
theorem own_d12_32 : decode jdk_43_method_13_code 32 = .ok (.iconst 1, 1) := by decide +kernel
theorem own_d12_33 : decode jdk_43_method_13_code 33 = .ok (.ireturn, 1) := by decide +kernel
theorem own_d12_34 : decode jdk_43_method_13_code 34 = .ok (.iconst 0, 1) := by decide +kernel
theorem own_d12_35 : decode jdk_43_method_13_code 35 = .ok (.ireturn, 1) := by decide +kernel
theorem own_d12_15 : decode jdk_43_method_13_code 15 = .ok (.aload_n 0, 1) := by decide +kernel
theorem own_d12_16 : decode jdk_43_method_13_code 16 = .ok (.iload_n 2, 1) := by decide +kernel
theorem own_d12_17 : decode jdk_43_method_13_code 17 = .ok (.baload, 1) := by decide +kernel
theorem own_d12_18 : decode jdk_43_method_13_code 18 = .ok (.aload_n 1, 1) := by decide +kernel
theorem own_d12_19 : decode jdk_43_method_13_code 19 = .ok (.iload_n 2, 1) := by decide +kernel
theorem own_d12_20 : decode jdk_43_method_13_code 20 = .ok (.baload, 1) := by decide +kernel
theorem own_d12_21 : decode jdk_43_method_13_code 21 = .ok (.if_icmp .eq 5, 3) := by decide +kernel
theorem own_d12_26 : decode jdk_43_method_13_code 26 = .ok (.iinc 2 1, 3) := by decide +kernel
theorem own_d12_29 : decode jdk_43_method_13_code 29 = .ok (.goto (-20), 3) := by decide +kernel
theorem own_d12_24 : decode jdk_43_method_13_code 24 = .ok (.iconst 0, 1) := by decide +kernel
theorem own_d12_25 : decode jdk_43_method_13_code 25 = .ok (.ireturn, 1) := by decide +kernel
theorem own_ef_rmLE (m : MethodId) (a1 : Nat) (a2 : Nat) : entryFrame m #[(.ref a1), (.ref a2)] 3 = mkF m 0 #[rv a1, rv a2, .unset] [] := by first | (simp [entryFrame, mkF, argsToLocals, Value.category, maxLocals]; done) | rfl
abbrev own_Q_rmLE (Z : State) (a1 : Nat) (a2 : Nat) (n1 : Nat) (n2 : Nat) (g1 : Nat → Int32) (g2 : Nat → Int32) (h0 : Heap) (n0 : Nat) (v : Option Value) (h : Heap) (L : List Loc) : Prop := ∃ r : Int32, v = some (.int r) ∧ ((r.toInt = 1 ∧ (own_same n1 n2 g1 g2)) ∨ (r.toInt = 0 ∧ ¬ (own_same n1 n2 g1 g2))) ∧ Fr n0 L ∧ h = h0
set_option maxRecDepth 65536 in
set_option maxHeartbeats 40000000 in
theorem rmLE (l : Launch) (Z : State) (a0 : Array Value) (hw : ∀ d ∈ tables_1, d.before a0 Z = true) (ws : List Jvm.Cond) (a1 : Nat) (a2 : Nat) (n1 : Nat) (n2 : Nat) (g1 : Nat → Int32) (g2 : Nat → Int32) (h0 : Heap) (n0 : Nat) (Z0 : n0 ≤ h0.size) (V1 : own_Arf Z h0 a1 .byte n1 (fun k => .int (g1 k))) (V2 : own_Arf Z h0 a2 .byte n2 (fun k => .int (g2 k))) (hn1 : n1 = 0 ∨ n1 = 1 ∨ n1 = 2 ∨ n1 = 3) (hn2 : n2 = 0 ∨ n2 = 1 ∨ n2 = 2 ∨ n2 = 3) :
    MetFree l (⟨"java/lang/StringLatin1", "equals", "([B[B)Z"⟩ : MethodName) (head1 (Jvm.Cond.code (⟨"java/lang/StringLatin1", "equals", "([B[B)Z"⟩ : MethodName) jdk_43_method_13_code 3 (some .boolean) :: ws) ({ frames := 0, cells := 0, slots := 0, locals := 0 } : Room)) (fun a U => a = #[(.ref a1), (.ref a2)] ∧ Z.Warmed39 U.vm ∧ U.heap = h0) (fun _ _ _ _ _ => True) (fun _ U o U' => ∃ v L, o = .returned v ∧ own_Q_rmLE Z a1 a2 n1 n2 g1 g2 h0 n0 v U'.heap L ∧ FrameEnd U o U' L ({ frames := 0, cells := 0, slots := 0, locals := 0 } : Room).cells ({ frames := 0, cells := 0, slots := 0, locals := 0 } : Room).slots) := by
  refine own_enter (Q := fun v h L => own_Q_rmLE Z a1 a2 n1 n2 g1 g2 h0 n0 v h L) (F := fun m => mkF m 0 #[rv a1, rv a2, .unset] []) own_pn8 (fun m => own_ef_rmLE m a1 a2) ?_
  intro p e s m below meth c T X hx hby hml hret hlk hnm hown hZ e0
  show own_Goes p e below s _ _ (T.setTop (mkF m 0 #[rv a1, rv a2, .unset] []))
  have N0 := Fr.nil n0
  rcases hn1 with rfl | rfl | rfl | rfl
  · show own_Goes p e below s _ _ (T.setTop (mkF m 0 #[rv a1, rv a2, .unset] []))
    rcases hn2 with rfl | rfl | rfl | rfl
    · show own_Goes p e below s _ _ (T.setTop (mkF m 0 #[rv a1, rv a2, .unset] []))
      refine own_st (fun _ k => XS.aloadN X.here hx rfl (hb hby own_d12_0) rfl rfl  k) ?_
      show own_Goes p e below s _ _ (T.setTop (mkF m 1 #[rv a1, rv a2, .unset] [(.ref a1)]))
      refine own_st (fun _ k => own_len X hx hZ e0 V1 (g := (mkF m 1 #[rv a1, rv a2, .unset] [(.ref a1)])) rfl rfl (hb hby own_d12_1) _ k) ?_
      show own_Goes p e below s _ _ (T.setTop (mkF m 2 #[rv a1, rv a2, .unset] [(.int (0 : Int32))]))
      refine own_st (fun _ k => XS.aloadN X.here hx rfl (hb hby own_d12_2) rfl rfl  k) ?_
      show own_Goes p e below s _ _ (T.setTop (mkF m 3 #[rv a1, rv a2, .unset] [(.ref a2), (.int (0 : Int32))]))
      refine own_st (fun _ k => own_len X hx hZ e0 V2 (g := (mkF m 3 #[rv a1, rv a2, .unset] [(.ref a2), (.int (0 : Int32))])) rfl rfl (hb hby own_d12_3) _ k) ?_
      show own_Goes p e below s _ _ (T.setTop (mkF m 4 #[rv a1, rv a2, .unset] [(.int (0 : Int32)), (.int (0 : Int32))]))
      refine own_st (fun _ k => XS.icmpNo X.here hx rfl (hb hby own_d12_4) rfl (teq (by decide : (0 : Int32) = (0 : Int32))).2 k) ?_
      show own_Goes p e below s _ _ (T.setTop (mkF m 7 #[rv a1, rv a2, .unset] []))
      refine own_st (fun _ k => XS.iconst X.here hx rfl (hb hby own_d12_7) k) ?_
      show own_Goes p e below s _ _ (T.setTop (mkF m 8 #[rv a1, rv a2, .unset] [(.int (0 : Int32))]))
      refine own_st (fun _ k => XS.istoreN X.here hx rfl (hb hby own_d12_8) rfl (l' := #[rv a1, rv a2, iv (0 : Int32)]) rfl k) ?_
      show own_Goes p e below s _ _ (T.setTop (mkF m 9 #[rv a1, rv a2, iv (0 : Int32)] []))
      refine own_st (fun _ k => XS.iloadN X.here hx rfl (hb hby own_d12_9) rfl  k) ?_
      show own_Goes p e below s _ _ (T.setTop (mkF m 10 #[rv a1, rv a2, iv (0 : Int32)] [(.int (0 : Int32))]))
      refine own_st (fun _ k => XS.aloadN X.here hx rfl (hb hby own_d12_10) rfl rfl  k) ?_
      show own_Goes p e below s _ _ (T.setTop (mkF m 11 #[rv a1, rv a2, iv (0 : Int32)] [(.ref a1), (.int (0 : Int32))]))
      refine own_st (fun _ k => own_len X hx hZ e0 V1 (g := (mkF m 11 #[rv a1, rv a2, iv (0 : Int32)] [(.ref a1), (.int (0 : Int32))])) rfl rfl (hb hby own_d12_11) _ k) ?_
      show own_Goes p e below s _ _ (T.setTop (mkF m 12 #[rv a1, rv a2, iv (0 : Int32)] [(.int (0 : Int32)), (.int (0 : Int32))]))
      refine own_st (fun _ k => XS.icmpYes X.here hx rfl (pc0 := 12) (pc' := 32) rfl (hb hby own_d12_12) rfl (flt (by decide : ¬ ((0 : Int32) < (0 : Int32)))).2.1 (by decide) (by decide) k) ?_
      show own_Goes p e below s _ _ (T.setTop (mkF m 32 #[rv a1, rv a2, iv (0 : Int32)] []))
      refine own_st (fun _ k => XS.iconst X.here hx rfl (hb hby own_d12_32) k) ?_
      show own_Goes p e below s _ _ (T.setTop (mkF m 33 #[rv a1, rv a2, iv (0 : Int32)] [(.int (1 : Int32))]))
      exact own_retN X hx hlk (1 : Int32) hret (Or.inl rfl) rfl (hb hby own_d12_33) (by decide) (by decide) ⟨(1 : Int32), rfl, own_b1 ⟨rfl, fun j hj => absurd hj (Nat.not_lt_zero j)⟩, N0, e0⟩
    · show own_Goes p e below s _ _ (T.setTop (mkF m 0 #[rv a1, rv a2, .unset] []))
      refine own_st (fun _ k => XS.aloadN X.here hx rfl (hb hby own_d12_0) rfl rfl  k) ?_
      show own_Goes p e below s _ _ (T.setTop (mkF m 1 #[rv a1, rv a2, .unset] [(.ref a1)]))
      refine own_st (fun _ k => own_len X hx hZ e0 V1 (g := (mkF m 1 #[rv a1, rv a2, .unset] [(.ref a1)])) rfl rfl (hb hby own_d12_1) _ k) ?_
      show own_Goes p e below s _ _ (T.setTop (mkF m 2 #[rv a1, rv a2, .unset] [(.int (0 : Int32))]))
      refine own_st (fun _ k => XS.aloadN X.here hx rfl (hb hby own_d12_2) rfl rfl  k) ?_
      show own_Goes p e below s _ _ (T.setTop (mkF m 3 #[rv a1, rv a2, .unset] [(.ref a2), (.int (0 : Int32))]))
      refine own_st (fun _ k => own_len X hx hZ e0 V2 (g := (mkF m 3 #[rv a1, rv a2, .unset] [(.ref a2), (.int (0 : Int32))])) rfl rfl (hb hby own_d12_3) _ k) ?_
      show own_Goes p e below s _ _ (T.setTop (mkF m 4 #[rv a1, rv a2, .unset] [(.int (1 : Int32)), (.int (0 : Int32))]))
      refine own_st (fun _ k => XS.icmpYes X.here hx rfl (pc0 := 4) (pc' := 34) rfl (hb hby own_d12_4) rfl (feq (by decide : ¬ ((0 : Int32) = (1 : Int32)))).2 (by decide) (by decide) k) ?_
      show own_Goes p e below s _ _ (T.setTop (mkF m 34 #[rv a1, rv a2, .unset] []))
      refine own_st (fun _ k => XS.iconst X.here hx rfl (hb hby own_d12_34) k) ?_
      show own_Goes p e below s _ _ (T.setTop (mkF m 35 #[rv a1, rv a2, .unset] [(.int (0 : Int32))]))
      exact own_retN X hx hlk (0 : Int32) hret (Or.inl rfl) rfl (hb hby own_d12_35) (by decide) (by decide) ⟨(0 : Int32), rfl, own_b0 (fun q => absurd q.1 (by decide)), N0, e0⟩
    · show own_Goes p e below s _ _ (T.setTop (mkF m 0 #[rv a1, rv a2, .unset] []))
      refine own_st (fun _ k => XS.aloadN X.here hx rfl (hb hby own_d12_0) rfl rfl  k) ?_
      show own_Goes p e below s _ _ (T.setTop (mkF m 1 #[rv a1, rv a2, .unset] [(.ref a1)]))
      refine own_st (fun _ k => own_len X hx hZ e0 V1 (g := (mkF m 1 #[rv a1, rv a2, .unset] [(.ref a1)])) rfl rfl (hb hby own_d12_1) _ k) ?_
      show own_Goes p e below s _ _ (T.setTop (mkF m 2 #[rv a1, rv a2, .unset] [(.int (0 : Int32))]))
      refine own_st (fun _ k => XS.aloadN X.here hx rfl (hb hby own_d12_2) rfl rfl  k) ?_
      show own_Goes p e below s _ _ (T.setTop (mkF m 3 #[rv a1, rv a2, .unset] [(.ref a2), (.int (0 : Int32))]))
      refine own_st (fun _ k => own_len X hx hZ e0 V2 (g := (mkF m 3 #[rv a1, rv a2, .unset] [(.ref a2), (.int (0 : Int32))])) rfl rfl (hb hby own_d12_3) _ k) ?_
      show own_Goes p e below s _ _ (T.setTop (mkF m 4 #[rv a1, rv a2, .unset] [(.int (2 : Int32)), (.int (0 : Int32))]))
      refine own_st (fun _ k => XS.icmpYes X.here hx rfl (pc0 := 4) (pc' := 34) rfl (hb hby own_d12_4) rfl (feq (by decide : ¬ ((0 : Int32) = (2 : Int32)))).2 (by decide) (by decide) k) ?_
      show own_Goes p e below s _ _ (T.setTop (mkF m 34 #[rv a1, rv a2, .unset] []))
      refine own_st (fun _ k => XS.iconst X.here hx rfl (hb hby own_d12_34) k) ?_
      show own_Goes p e below s _ _ (T.setTop (mkF m 35 #[rv a1, rv a2, .unset] [(.int (0 : Int32))]))
      exact own_retN X hx hlk (0 : Int32) hret (Or.inl rfl) rfl (hb hby own_d12_35) (by decide) (by decide) ⟨(0 : Int32), rfl, own_b0 (fun q => absurd q.1 (by decide)), N0, e0⟩
    · show own_Goes p e below s _ _ (T.setTop (mkF m 0 #[rv a1, rv a2, .unset] []))
      refine own_st (fun _ k => XS.aloadN X.here hx rfl (hb hby own_d12_0) rfl rfl  k) ?_
      show own_Goes p e below s _ _ (T.setTop (mkF m 1 #[rv a1, rv a2, .unset] [(.ref a1)]))
      refine own_st (fun _ k => own_len X hx hZ e0 V1 (g := (mkF m 1 #[rv a1, rv a2, .unset] [(.ref a1)])) rfl rfl (hb hby own_d12_1) _ k) ?_
      show own_Goes p e below s _ _ (T.setTop (mkF m 2 #[rv a1, rv a2, .unset] [(.int (0 : Int32))]))
      refine own_st (fun _ k => XS.aloadN X.here hx rfl (hb hby own_d12_2) rfl rfl  k) ?_
      show own_Goes p e below s _ _ (T.setTop (mkF m 3 #[rv a1, rv a2, .unset] [(.ref a2), (.int (0 : Int32))]))
      refine own_st (fun _ k => own_len X hx hZ e0 V2 (g := (mkF m 3 #[rv a1, rv a2, .unset] [(.ref a2), (.int (0 : Int32))])) rfl rfl (hb hby own_d12_3) _ k) ?_
      show own_Goes p e below s _ _ (T.setTop (mkF m 4 #[rv a1, rv a2, .unset] [(.int (3 : Int32)), (.int (0 : Int32))]))
      refine own_st (fun _ k => XS.icmpYes X.here hx rfl (pc0 := 4) (pc' := 34) rfl (hb hby own_d12_4) rfl (feq (by decide : ¬ ((0 : Int32) = (3 : Int32)))).2 (by decide) (by decide) k) ?_
      show own_Goes p e below s _ _ (T.setTop (mkF m 34 #[rv a1, rv a2, .unset] []))
      refine own_st (fun _ k => XS.iconst X.here hx rfl (hb hby own_d12_34) k) ?_
      show own_Goes p e below s _ _ (T.setTop (mkF m 35 #[rv a1, rv a2, .unset] [(.int (0 : Int32))]))
      exact own_retN X hx hlk (0 : Int32) hret (Or.inl rfl) rfl (hb hby own_d12_35) (by decide) (by decide) ⟨(0 : Int32), rfl, own_b0 (fun q => absurd q.1 (by decide)), N0, e0⟩
  · show own_Goes p e below s _ _ (T.setTop (mkF m 0 #[rv a1, rv a2, .unset] []))
    rcases hn2 with rfl | rfl | rfl | rfl
    · show own_Goes p e below s _ _ (T.setTop (mkF m 0 #[rv a1, rv a2, .unset] []))
      refine own_st (fun _ k => XS.aloadN X.here hx rfl (hb hby own_d12_0) rfl rfl  k) ?_
      show own_Goes p e below s _ _ (T.setTop (mkF m 1 #[rv a1, rv a2, .unset] [(.ref a1)]))
      refine own_st (fun _ k => own_len X hx hZ e0 V1 (g := (mkF m 1 #[rv a1, rv a2, .unset] [(.ref a1)])) rfl rfl (hb hby own_d12_1) _ k) ?_
      show own_Goes p e below s _ _ (T.setTop (mkF m 2 #[rv a1, rv a2, .unset] [(.int (1 : Int32))]))
      refine own_st (fun _ k => XS.aloadN X.here hx rfl (hb hby own_d12_2) rfl rfl  k) ?_
      show own_Goes p e below s _ _ (T.setTop (mkF m 3 #[rv a1, rv a2, .unset] [(.ref a2), (.int (1 : Int32))]))
      refine own_st (fun _ k => own_len X hx hZ e0 V2 (g := (mkF m 3 #[rv a1, rv a2, .unset] [(.ref a2), (.int (1 : Int32))])) rfl rfl (hb hby own_d12_3) _ k) ?_
      show own_Goes p e below s _ _ (T.setTop (mkF m 4 #[rv a1, rv a2, .unset] [(.int (0 : Int32)), (.int (1 : Int32))]))
      refine own_st (fun _ k => XS.icmpYes X.here hx rfl (pc0 := 4) (pc' := 34) rfl (hb hby own_d12_4) rfl (feq (by decide : ¬ ((1 : Int32) = (0 : Int32)))).2 (by decide) (by decide) k) ?_
      show own_Goes p e below s _ _ (T.setTop (mkF m 34 #[rv a1, rv a2, .unset] []))
      refine own_st (fun _ k => XS.iconst X.here hx rfl (hb hby own_d12_34) k) ?_
      show own_Goes p e below s _ _ (T.setTop (mkF m 35 #[rv a1, rv a2, .unset] [(.int (0 : Int32))]))
      exact own_retN X hx hlk (0 : Int32) hret (Or.inl rfl) rfl (hb hby own_d12_35) (by decide) (by decide) ⟨(0 : Int32), rfl, own_b0 (fun q => absurd q.1 (by decide)), N0, e0⟩
    · show own_Goes p e below s _ _ (T.setTop (mkF m 0 #[rv a1, rv a2, .unset] []))
      refine own_st (fun _ k => XS.aloadN X.here hx rfl (hb hby own_d12_0) rfl rfl  k) ?_
      show own_Goes p e below s _ _ (T.setTop (mkF m 1 #[rv a1, rv a2, .unset] [(.ref a1)]))
      refine own_st (fun _ k => own_len X hx hZ e0 V1 (g := (mkF m 1 #[rv a1, rv a2, .unset] [(.ref a1)])) rfl rfl (hb hby own_d12_1) _ k) ?_
      show own_Goes p e below s _ _ (T.setTop (mkF m 2 #[rv a1, rv a2, .unset] [(.int (1 : Int32))]))
      refine own_st (fun _ k => XS.aloadN X.here hx rfl (hb hby own_d12_2) rfl rfl  k) ?_
      show own_Goes p e below s _ _ (T.setTop (mkF m 3 #[rv a1, rv a2, .unset] [(.ref a2), (.int (1 : Int32))]))
      refine own_st (fun _ k => own_len X hx hZ e0 V2 (g := (mkF m 3 #[rv a1, rv a2, .unset] [(.ref a2), (.int (1 : Int32))])) rfl rfl (hb hby own_d12_3) _ k) ?_
      show own_Goes p e below s _ _ (T.setTop (mkF m 4 #[rv a1, rv a2, .unset] [(.int (1 : Int32)), (.int (1 : Int32))]))
      refine own_st (fun _ k => XS.icmpNo X.here hx rfl (hb hby own_d12_4) rfl (teq (by decide : (1 : Int32) = (1 : Int32))).2 k) ?_
      show own_Goes p e below s _ _ (T.setTop (mkF m 7 #[rv a1, rv a2, .unset] []))
      refine own_st (fun _ k => XS.iconst X.here hx rfl (hb hby own_d12_7) k) ?_
      show own_Goes p e below s _ _ (T.setTop (mkF m 8 #[rv a1, rv a2, .unset] [(.int (0 : Int32))]))
      refine own_st (fun _ k => XS.istoreN X.here hx rfl (hb hby own_d12_8) rfl (l' := #[rv a1, rv a2, iv (0 : Int32)]) rfl k) ?_
      show own_Goes p e below s _ _ (T.setTop (mkF m 9 #[rv a1, rv a2, iv (0 : Int32)] []))
      refine own_st (fun _ k => XS.iloadN X.here hx rfl (hb hby own_d12_9) rfl  k) ?_
      show own_Goes p e below s _ _ (T.setTop (mkF m 10 #[rv a1, rv a2, iv (0 : Int32)] [(.int (0 : Int32))]))
      refine own_st (fun _ k => XS.aloadN X.here hx rfl (hb hby own_d12_10) rfl rfl  k) ?_
      show own_Goes p e below s _ _ (T.setTop (mkF m 11 #[rv a1, rv a2, iv (0 : Int32)] [(.ref a1), (.int (0 : Int32))]))
      refine own_st (fun _ k => own_len X hx hZ e0 V1 (g := (mkF m 11 #[rv a1, rv a2, iv (0 : Int32)] [(.ref a1), (.int (0 : Int32))])) rfl rfl (hb hby own_d12_11) _ k) ?_
      show own_Goes p e below s _ _ (T.setTop (mkF m 12 #[rv a1, rv a2, iv (0 : Int32)] [(.int (1 : Int32)), (.int (0 : Int32))]))
      refine own_st (fun _ k => XS.icmpNo X.here hx rfl (hb hby own_d12_12) rfl (tlt (by decide : (0 : Int32) < (1 : Int32))).2.1 k) ?_
      show own_Goes p e below s _ _ (T.setTop (mkF m 15 #[rv a1, rv a2, iv (0 : Int32)] []))
      refine own_st (fun _ k => XS.aloadN X.here hx rfl (hb hby own_d12_15) rfl rfl  k) ?_
      show own_Goes p e below s _ _ (T.setTop (mkF m 16 #[rv a1, rv a2, iv (0 : Int32)] [(.ref a1)]))
      refine own_st (fun _ k => XS.iloadN X.here hx rfl (hb hby own_d12_16) rfl  k) ?_
      show own_Goes p e below s _ _ (T.setTop (mkF m 17 #[rv a1, rv a2, iv (0 : Int32)] [(.int (0 : Int32)), (.ref a1)]))
      refine own_st (fun _ k => own_ldB X hx hZ e0 V1 (j := (0 : Int32)) (by decide) (g := (mkF m 17 #[rv a1, rv a2, iv (0 : Int32)] [(.int (0 : Int32)), (.ref a1)])) rfl rfl (hb hby own_d12_17) _ k) ?_
      show own_Goes p e below s _ _ (T.setTop (mkF m 18 #[rv a1, rv a2, iv (0 : Int32)] [(.int (g1 0))]))
      refine own_st (fun _ k => XS.aloadN X.here hx rfl (hb hby own_d12_18) rfl rfl  k) ?_
      show own_Goes p e below s _ _ (T.setTop (mkF m 19 #[rv a1, rv a2, iv (0 : Int32)] [(.ref a2), (.int (g1 0))]))
      refine own_st (fun _ k => XS.iloadN X.here hx rfl (hb hby own_d12_19) rfl  k) ?_
      show own_Goes p e below s _ _ (T.setTop (mkF m 20 #[rv a1, rv a2, iv (0 : Int32)] [(.int (0 : Int32)), (.ref a2), (.int (g1 0))]))
      refine own_st (fun _ k => own_ldB X hx hZ e0 V2 (j := (0 : Int32)) (by decide) (g := (mkF m 20 #[rv a1, rv a2, iv (0 : Int32)] [(.int (0 : Int32)), (.ref a2), (.int (g1 0))])) rfl rfl (hb hby own_d12_20) _ k) ?_
      show own_Goes p e below s _ _ (T.setTop (mkF m 21 #[rv a1, rv a2, iv (0 : Int32)] [(.int (g2 0)), (.int (g1 0))]))
      by_cases c101 : (g1 0) = (g2 0)
      · have c101i : (g1 0).toInt = (g2 0).toInt := own_i_eq c101
        refine own_st (fun _ k => XS.icmpYes X.here hx rfl (pc0 := 21) (pc' := 26) rfl (hb hby own_d12_21) rfl (teq c101).1 (by decide) (by decide) k) ?_
        show own_Goes p e below s _ _ (T.setTop (mkF m 26 #[rv a1, rv a2, iv (0 : Int32)] []))
        refine own_st (fun _ k => XS.iinc X.here hx rfl (hb hby own_d12_26) rfl (l' := #[rv a1, rv a2, iv (1 : Int32)]) rfl k) ?_
        show own_Goes p e below s _ _ (T.setTop (mkF m 29 #[rv a1, rv a2, iv (1 : Int32)] []))
        refine own_st (fun _ k => XS.goto X.here hx rfl (pc0 := 29) (pc' := 9) rfl (hb hby own_d12_29) (by decide) (by decide) k) ?_
        show own_Goes p e below s _ _ (T.setTop (mkF m 9 #[rv a1, rv a2, iv (1 : Int32)] []))
        refine own_st (fun _ k => XS.iloadN X.here hx rfl (hb hby own_d12_9) rfl  k) ?_
        show own_Goes p e below s _ _ (T.setTop (mkF m 10 #[rv a1, rv a2, iv (1 : Int32)] [(.int (1 : Int32))]))
        refine own_st (fun _ k => XS.aloadN X.here hx rfl (hb hby own_d12_10) rfl rfl  k) ?_
        show own_Goes p e below s _ _ (T.setTop (mkF m 11 #[rv a1, rv a2, iv (1 : Int32)] [(.ref a1), (.int (1 : Int32))]))
        refine own_st (fun _ k => own_len X hx hZ e0 V1 (g := (mkF m 11 #[rv a1, rv a2, iv (1 : Int32)] [(.ref a1), (.int (1 : Int32))])) rfl rfl (hb hby own_d12_11) _ k) ?_
        show own_Goes p e below s _ _ (T.setTop (mkF m 12 #[rv a1, rv a2, iv (1 : Int32)] [(.int (1 : Int32)), (.int (1 : Int32))]))
        refine own_st (fun _ k => XS.icmpYes X.here hx rfl (pc0 := 12) (pc' := 32) rfl (hb hby own_d12_12) rfl (flt (by decide : ¬ ((1 : Int32) < (1 : Int32)))).2.1 (by decide) (by decide) k) ?_
        show own_Goes p e below s _ _ (T.setTop (mkF m 32 #[rv a1, rv a2, iv (1 : Int32)] []))
        refine own_st (fun _ k => XS.iconst X.here hx rfl (hb hby own_d12_32) k) ?_
        show own_Goes p e below s _ _ (T.setTop (mkF m 33 #[rv a1, rv a2, iv (1 : Int32)] [(.int (1 : Int32))]))
        exact own_retN X hx hlk (1 : Int32) hret (Or.inl rfl) rfl (hb hby own_d12_33) (by decide) (by decide) ⟨(1 : Int32), rfl, own_b1 ⟨rfl, fun j hj => by have q : j = 0 := (by omega); subst q; assumption⟩, N0, e0⟩
      · have c101i : ¬ (g1 0).toInt = (g2 0).toInt := own_i_ne c101
        refine own_st (fun _ k => XS.icmpNo X.here hx rfl (hb hby own_d12_21) rfl (feq c101).1 k) ?_
        show own_Goes p e below s _ _ (T.setTop (mkF m 24 #[rv a1, rv a2, iv (0 : Int32)] []))
        refine own_st (fun _ k => XS.iconst X.here hx rfl (hb hby own_d12_24) k) ?_
        show own_Goes p e below s _ _ (T.setTop (mkF m 25 #[rv a1, rv a2, iv (0 : Int32)] [(.int (0 : Int32))]))
        exact own_retN X hx hlk (0 : Int32) hret (Or.inl rfl) rfl (hb hby own_d12_25) (by decide) (by decide) ⟨(0 : Int32), rfl, own_b0 (fun q => c101i (q.2 0 (by decide))), N0, e0⟩
    · show own_Goes p e below s _ _ (T.setTop (mkF m 0 #[rv a1, rv a2, .unset] []))
      refine own_st (fun _ k => XS.aloadN X.here hx rfl (hb hby own_d12_0) rfl rfl  k) ?_
      show own_Goes p e below s _ _ (T.setTop (mkF m 1 #[rv a1, rv a2, .unset] [(.ref a1)]))
      refine own_st (fun _ k => own_len X hx hZ e0 V1 (g := (mkF m 1 #[rv a1, rv a2, .unset] [(.ref a1)])) rfl rfl (hb hby own_d12_1) _ k) ?_
      show own_Goes p e below s _ _ (T.setTop (mkF m 2 #[rv a1, rv a2, .unset] [(.int (1 : Int32))]))
      refine own_st (fun _ k => XS.aloadN X.here hx rfl (hb hby own_d12_2) rfl rfl  k) ?_
      show own_Goes p e below s _ _ (T.setTop (mkF m 3 #[rv a1, rv a2, .unset] [(.ref a2), (.int (1 : Int32))]))
      refine own_st (fun _ k => own_len X hx hZ e0 V2 (g := (mkF m 3 #[rv a1, rv a2, .unset] [(.ref a2), (.int (1 : Int32))])) rfl rfl (hb hby own_d12_3) _ k) ?_
      show own_Goes p e below s _ _ (T.setTop (mkF m 4 #[rv a1, rv a2, .unset] [(.int (2 : Int32)), (.int (1 : Int32))]))
      refine own_st (fun _ k => XS.icmpYes X.here hx rfl (pc0 := 4) (pc' := 34) rfl (hb hby own_d12_4) rfl (feq (by decide : ¬ ((1 : Int32) = (2 : Int32)))).2 (by decide) (by decide) k) ?_
      show own_Goes p e below s _ _ (T.setTop (mkF m 34 #[rv a1, rv a2, .unset] []))
      refine own_st (fun _ k => XS.iconst X.here hx rfl (hb hby own_d12_34) k) ?_
      show own_Goes p e below s _ _ (T.setTop (mkF m 35 #[rv a1, rv a2, .unset] [(.int (0 : Int32))]))
      exact own_retN X hx hlk (0 : Int32) hret (Or.inl rfl) rfl (hb hby own_d12_35) (by decide) (by decide) ⟨(0 : Int32), rfl, own_b0 (fun q => absurd q.1 (by decide)), N0, e0⟩
    · show own_Goes p e below s _ _ (T.setTop (mkF m 0 #[rv a1, rv a2, .unset] []))
      refine own_st (fun _ k => XS.aloadN X.here hx rfl (hb hby own_d12_0) rfl rfl  k) ?_
      show own_Goes p e below s _ _ (T.setTop (mkF m 1 #[rv a1, rv a2, .unset] [(.ref a1)]))
      refine own_st (fun _ k => own_len X hx hZ e0 V1 (g := (mkF m 1 #[rv a1, rv a2, .unset] [(.ref a1)])) rfl rfl (hb hby own_d12_1) _ k) ?_
      show own_Goes p e below s _ _ (T.setTop (mkF m 2 #[rv a1, rv a2, .unset] [(.int (1 : Int32))]))
      refine own_st (fun _ k => XS.aloadN X.here hx rfl (hb hby own_d12_2) rfl rfl  k) ?_
      show own_Goes p e below s _ _ (T.setTop (mkF m 3 #[rv a1, rv a2, .unset] [(.ref a2), (.int (1 : Int32))]))
      refine own_st (fun _ k => own_len X hx hZ e0 V2 (g := (mkF m 3 #[rv a1, rv a2, .unset] [(.ref a2), (.int (1 : Int32))])) rfl rfl (hb hby own_d12_3) _ k) ?_
      show own_Goes p e below s _ _ (T.setTop (mkF m 4 #[rv a1, rv a2, .unset] [(.int (3 : Int32)), (.int (1 : Int32))]))
      refine own_st (fun _ k => XS.icmpYes X.here hx rfl (pc0 := 4) (pc' := 34) rfl (hb hby own_d12_4) rfl (feq (by decide : ¬ ((1 : Int32) = (3 : Int32)))).2 (by decide) (by decide) k) ?_
      show own_Goes p e below s _ _ (T.setTop (mkF m 34 #[rv a1, rv a2, .unset] []))
      refine own_st (fun _ k => XS.iconst X.here hx rfl (hb hby own_d12_34) k) ?_
      show own_Goes p e below s _ _ (T.setTop (mkF m 35 #[rv a1, rv a2, .unset] [(.int (0 : Int32))]))
      exact own_retN X hx hlk (0 : Int32) hret (Or.inl rfl) rfl (hb hby own_d12_35) (by decide) (by decide) ⟨(0 : Int32), rfl, own_b0 (fun q => absurd q.1 (by decide)), N0, e0⟩
  · show own_Goes p e below s _ _ (T.setTop (mkF m 0 #[rv a1, rv a2, .unset] []))
    rcases hn2 with rfl | rfl | rfl | rfl
    · show own_Goes p e below s _ _ (T.setTop (mkF m 0 #[rv a1, rv a2, .unset] []))
      refine own_st (fun _ k => XS.aloadN X.here hx rfl (hb hby own_d12_0) rfl rfl  k) ?_
      show own_Goes p e below s _ _ (T.setTop (mkF m 1 #[rv a1, rv a2, .unset] [(.ref a1)]))
      refine own_st (fun _ k => own_len X hx hZ e0 V1 (g := (mkF m 1 #[rv a1, rv a2, .unset] [(.ref a1)])) rfl rfl (hb hby own_d12_1) _ k) ?_
      show own_Goes p e below s _ _ (T.setTop (mkF m 2 #[rv a1, rv a2, .unset] [(.int (2 : Int32))]))
      refine own_st (fun _ k => XS.aloadN X.here hx rfl (hb hby own_d12_2) rfl rfl  k) ?_
      show own_Goes p e below s _ _ (T.setTop (mkF m 3 #[rv a1, rv a2, .unset] [(.ref a2), (.int (2 : Int32))]))
      refine own_st (fun _ k => own_len X hx hZ e0 V2 (g := (mkF m 3 #[rv a1, rv a2, .unset] [(.ref a2), (.int (2 : Int32))])) rfl rfl (hb hby own_d12_3) _ k) ?_
      show own_Goes p e below s _ _ (T.setTop (mkF m 4 #[rv a1, rv a2, .unset] [(.int (0 : Int32)), (.int (2 : Int32))]))
      refine own_st (fun _ k => XS.icmpYes X.here hx rfl (pc0 := 4) (pc' := 34) rfl (hb hby own_d12_4) rfl (feq (by decide : ¬ ((2 : Int32) = (0 : Int32)))).2 (by decide) (by decide) k) ?_
      show own_Goes p e below s _ _ (T.setTop (mkF m 34 #[rv a1, rv a2, .unset] []))
      refine own_st (fun _ k => XS.iconst X.here hx rfl (hb hby own_d12_34) k) ?_
      show own_Goes p e below s _ _ (T.setTop (mkF m 35 #[rv a1, rv a2, .unset] [(.int (0 : Int32))]))
      exact own_retN X hx hlk (0 : Int32) hret (Or.inl rfl) rfl (hb hby own_d12_35) (by decide) (by decide) ⟨(0 : Int32), rfl, own_b0 (fun q => absurd q.1 (by decide)), N0, e0⟩
    · show own_Goes p e below s _ _ (T.setTop (mkF m 0 #[rv a1, rv a2, .unset] []))
      refine own_st (fun _ k => XS.aloadN X.here hx rfl (hb hby own_d12_0) rfl rfl  k) ?_
      show own_Goes p e below s _ _ (T.setTop (mkF m 1 #[rv a1, rv a2, .unset] [(.ref a1)]))
      refine own_st (fun _ k => own_len X hx hZ e0 V1 (g := (mkF m 1 #[rv a1, rv a2, .unset] [(.ref a1)])) rfl rfl (hb hby own_d12_1) _ k) ?_
      show own_Goes p e below s _ _ (T.setTop (mkF m 2 #[rv a1, rv a2, .unset] [(.int (2 : Int32))]))
      refine own_st (fun _ k => XS.aloadN X.here hx rfl (hb hby own_d12_2) rfl rfl  k) ?_
      show own_Goes p e below s _ _ (T.setTop (mkF m 3 #[rv a1, rv a2, .unset] [(.ref a2), (.int (2 : Int32))]))
      refine own_st (fun _ k => own_len X hx hZ e0 V2 (g := (mkF m 3 #[rv a1, rv a2, .unset] [(.ref a2), (.int (2 : Int32))])) rfl rfl (hb hby own_d12_3) _ k) ?_
      show own_Goes p e below s _ _ (T.setTop (mkF m 4 #[rv a1, rv a2, .unset] [(.int (1 : Int32)), (.int (2 : Int32))]))
      refine own_st (fun _ k => XS.icmpYes X.here hx rfl (pc0 := 4) (pc' := 34) rfl (hb hby own_d12_4) rfl (feq (by decide : ¬ ((2 : Int32) = (1 : Int32)))).2 (by decide) (by decide) k) ?_
      show own_Goes p e below s _ _ (T.setTop (mkF m 34 #[rv a1, rv a2, .unset] []))
      refine own_st (fun _ k => XS.iconst X.here hx rfl (hb hby own_d12_34) k) ?_
      show own_Goes p e below s _ _ (T.setTop (mkF m 35 #[rv a1, rv a2, .unset] [(.int (0 : Int32))]))
      exact own_retN X hx hlk (0 : Int32) hret (Or.inl rfl) rfl (hb hby own_d12_35) (by decide) (by decide) ⟨(0 : Int32), rfl, own_b0 (fun q => absurd q.1 (by decide)), N0, e0⟩
    · show own_Goes p e below s _ _ (T.setTop (mkF m 0 #[rv a1, rv a2, .unset] []))
      refine own_st (fun _ k => XS.aloadN X.here hx rfl (hb hby own_d12_0) rfl rfl  k) ?_
      show own_Goes p e below s _ _ (T.setTop (mkF m 1 #[rv a1, rv a2, .unset] [(.ref a1)]))
      refine own_st (fun _ k => own_len X hx hZ e0 V1 (g := (mkF m 1 #[rv a1, rv a2, .unset] [(.ref a1)])) rfl rfl (hb hby own_d12_1) _ k) ?_
      show own_Goes p e below s _ _ (T.setTop (mkF m 2 #[rv a1, rv a2, .unset] [(.int (2 : Int32))]))
      refine own_st (fun _ k => XS.aloadN X.here hx rfl (hb hby own_d12_2) rfl rfl  k) ?_
      show own_Goes p e below s _ _ (T.setTop (mkF m 3 #[rv a1, rv a2, .unset] [(.ref a2), (.int (2 : Int32))]))
      refine own_st (fun _ k => own_len X hx hZ e0 V2 (g := (mkF m 3 #[rv a1, rv a2, .unset] [(.ref a2), (.int (2 : Int32))])) rfl rfl (hb hby own_d12_3) _ k) ?_
      show own_Goes p e below s _ _ (T.setTop (mkF m 4 #[rv a1, rv a2, .unset] [(.int (2 : Int32)), (.int (2 : Int32))]))
      refine own_st (fun _ k => XS.icmpNo X.here hx rfl (hb hby own_d12_4) rfl (teq (by decide : (2 : Int32) = (2 : Int32))).2 k) ?_
      show own_Goes p e below s _ _ (T.setTop (mkF m 7 #[rv a1, rv a2, .unset] []))
      refine own_st (fun _ k => XS.iconst X.here hx rfl (hb hby own_d12_7) k) ?_
      show own_Goes p e below s _ _ (T.setTop (mkF m 8 #[rv a1, rv a2, .unset] [(.int (0 : Int32))]))
      refine own_st (fun _ k => XS.istoreN X.here hx rfl (hb hby own_d12_8) rfl (l' := #[rv a1, rv a2, iv (0 : Int32)]) rfl k) ?_
      show own_Goes p e below s _ _ (T.setTop (mkF m 9 #[rv a1, rv a2, iv (0 : Int32)] []))
      refine own_st (fun _ k => XS.iloadN X.here hx rfl (hb hby own_d12_9) rfl  k) ?_
      show own_Goes p e below s _ _ (T.setTop (mkF m 10 #[rv a1, rv a2, iv (0 : Int32)] [(.int (0 : Int32))]))
      refine own_st (fun _ k => XS.aloadN X.here hx rfl (hb hby own_d12_10) rfl rfl  k) ?_
      show own_Goes p e below s _ _ (T.setTop (mkF m 11 #[rv a1, rv a2, iv (0 : Int32)] [(.ref a1), (.int (0 : Int32))]))
      refine own_st (fun _ k => own_len X hx hZ e0 V1 (g := (mkF m 11 #[rv a1, rv a2, iv (0 : Int32)] [(.ref a1), (.int (0 : Int32))])) rfl rfl (hb hby own_d12_11) _ k) ?_
      show own_Goes p e below s _ _ (T.setTop (mkF m 12 #[rv a1, rv a2, iv (0 : Int32)] [(.int (2 : Int32)), (.int (0 : Int32))]))
      refine own_st (fun _ k => XS.icmpNo X.here hx rfl (hb hby own_d12_12) rfl (tlt (by decide : (0 : Int32) < (2 : Int32))).2.1 k) ?_
      show own_Goes p e below s _ _ (T.setTop (mkF m 15 #[rv a1, rv a2, iv (0 : Int32)] []))
      refine own_st (fun _ k => XS.aloadN X.here hx rfl (hb hby own_d12_15) rfl rfl  k) ?_
      show own_Goes p e below s _ _ (T.setTop (mkF m 16 #[rv a1, rv a2, iv (0 : Int32)] [(.ref a1)]))
      refine own_st (fun _ k => XS.iloadN X.here hx rfl (hb hby own_d12_16) rfl  k) ?_
      show own_Goes p e below s _ _ (T.setTop (mkF m 17 #[rv a1, rv a2, iv (0 : Int32)] [(.int (0 : Int32)), (.ref a1)]))
      refine own_st (fun _ k => own_ldB X hx hZ e0 V1 (j := (0 : Int32)) (by decide) (g := (mkF m 17 #[rv a1, rv a2, iv (0 : Int32)] [(.int (0 : Int32)), (.ref a1)])) rfl rfl (hb hby own_d12_17) _ k) ?_
      show own_Goes p e below s _ _ (T.setTop (mkF m 18 #[rv a1, rv a2, iv (0 : Int32)] [(.int (g1 0))]))
      refine own_st (fun _ k => XS.aloadN X.here hx rfl (hb hby own_d12_18) rfl rfl  k) ?_
      show own_Goes p e below s _ _ (T.setTop (mkF m 19 #[rv a1, rv a2, iv (0 : Int32)] [(.ref a2), (.int (g1 0))]))
      refine own_st (fun _ k => XS.iloadN X.here hx rfl (hb hby own_d12_19) rfl  k) ?_
      show own_Goes p e below s _ _ (T.setTop (mkF m 20 #[rv a1, rv a2, iv (0 : Int32)] [(.int (0 : Int32)), (.ref a2), (.int (g1 0))]))
      refine own_st (fun _ k => own_ldB X hx hZ e0 V2 (j := (0 : Int32)) (by decide) (g := (mkF m 20 #[rv a1, rv a2, iv (0 : Int32)] [(.int (0 : Int32)), (.ref a2), (.int (g1 0))])) rfl rfl (hb hby own_d12_20) _ k) ?_
      show own_Goes p e below s _ _ (T.setTop (mkF m 21 #[rv a1, rv a2, iv (0 : Int32)] [(.int (g2 0)), (.int (g1 0))]))
      by_cases c102 : (g1 0) = (g2 0)
      · have c102i : (g1 0).toInt = (g2 0).toInt := own_i_eq c102
        refine own_st (fun _ k => XS.icmpYes X.here hx rfl (pc0 := 21) (pc' := 26) rfl (hb hby own_d12_21) rfl (teq c102).1 (by decide) (by decide) k) ?_
        show own_Goes p e below s _ _ (T.setTop (mkF m 26 #[rv a1, rv a2, iv (0 : Int32)] []))
        refine own_st (fun _ k => XS.iinc X.here hx rfl (hb hby own_d12_26) rfl (l' := #[rv a1, rv a2, iv (1 : Int32)]) rfl k) ?_
        show own_Goes p e below s _ _ (T.setTop (mkF m 29 #[rv a1, rv a2, iv (1 : Int32)] []))
        refine own_st (fun _ k => XS.goto X.here hx rfl (pc0 := 29) (pc' := 9) rfl (hb hby own_d12_29) (by decide) (by decide) k) ?_
        show own_Goes p e below s _ _ (T.setTop (mkF m 9 #[rv a1, rv a2, iv (1 : Int32)] []))
        refine own_st (fun _ k => XS.iloadN X.here hx rfl (hb hby own_d12_9) rfl  k) ?_
        show own_Goes p e below s _ _ (T.setTop (mkF m 10 #[rv a1, rv a2, iv (1 : Int32)] [(.int (1 : Int32))]))
        refine own_st (fun _ k => XS.aloadN X.here hx rfl (hb hby own_d12_10) rfl rfl  k) ?_
        show own_Goes p e below s _ _ (T.setTop (mkF m 11 #[rv a1, rv a2, iv (1 : Int32)] [(.ref a1), (.int (1 : Int32))]))
        refine own_st (fun _ k => own_len X hx hZ e0 V1 (g := (mkF m 11 #[rv a1, rv a2, iv (1 : Int32)] [(.ref a1), (.int (1 : Int32))])) rfl rfl (hb hby own_d12_11) _ k) ?_
        show own_Goes p e below s _ _ (T.setTop (mkF m 12 #[rv a1, rv a2, iv (1 : Int32)] [(.int (2 : Int32)), (.int (1 : Int32))]))
        refine own_st (fun _ k => XS.icmpNo X.here hx rfl (hb hby own_d12_12) rfl (tlt (by decide : (1 : Int32) < (2 : Int32))).2.1 k) ?_
        show own_Goes p e below s _ _ (T.setTop (mkF m 15 #[rv a1, rv a2, iv (1 : Int32)] []))
        refine own_st (fun _ k => XS.aloadN X.here hx rfl (hb hby own_d12_15) rfl rfl  k) ?_
        show own_Goes p e below s _ _ (T.setTop (mkF m 16 #[rv a1, rv a2, iv (1 : Int32)] [(.ref a1)]))
        refine own_st (fun _ k => XS.iloadN X.here hx rfl (hb hby own_d12_16) rfl  k) ?_
        show own_Goes p e below s _ _ (T.setTop (mkF m 17 #[rv a1, rv a2, iv (1 : Int32)] [(.int (1 : Int32)), (.ref a1)]))
        refine own_st (fun _ k => own_ldB X hx hZ e0 V1 (j := (1 : Int32)) (by decide) (g := (mkF m 17 #[rv a1, rv a2, iv (1 : Int32)] [(.int (1 : Int32)), (.ref a1)])) rfl rfl (hb hby own_d12_17) _ k) ?_
        show own_Goes p e below s _ _ (T.setTop (mkF m 18 #[rv a1, rv a2, iv (1 : Int32)] [(.int (g1 1))]))
        refine own_st (fun _ k => XS.aloadN X.here hx rfl (hb hby own_d12_18) rfl rfl  k) ?_
        show own_Goes p e below s _ _ (T.setTop (mkF m 19 #[rv a1, rv a2, iv (1 : Int32)] [(.ref a2), (.int (g1 1))]))
        refine own_st (fun _ k => XS.iloadN X.here hx rfl (hb hby own_d12_19) rfl  k) ?_
        show own_Goes p e below s _ _ (T.setTop (mkF m 20 #[rv a1, rv a2, iv (1 : Int32)] [(.int (1 : Int32)), (.ref a2), (.int (g1 1))]))
        refine own_st (fun _ k => own_ldB X hx hZ e0 V2 (j := (1 : Int32)) (by decide) (g := (mkF m 20 #[rv a1, rv a2, iv (1 : Int32)] [(.int (1 : Int32)), (.ref a2), (.int (g1 1))])) rfl rfl (hb hby own_d12_20) _ k) ?_
        show own_Goes p e below s _ _ (T.setTop (mkF m 21 #[rv a1, rv a2, iv (1 : Int32)] [(.int (g2 1)), (.int (g1 1))]))
        by_cases c103 : (g1 1) = (g2 1)
        · have c103i : (g1 1).toInt = (g2 1).toInt := own_i_eq c103
          refine own_st (fun _ k => XS.icmpYes X.here hx rfl (pc0 := 21) (pc' := 26) rfl (hb hby own_d12_21) rfl (teq c103).1 (by decide) (by decide) k) ?_
          show own_Goes p e below s _ _ (T.setTop (mkF m 26 #[rv a1, rv a2, iv (1 : Int32)] []))
          refine own_st (fun _ k => XS.iinc X.here hx rfl (hb hby own_d12_26) rfl (l' := #[rv a1, rv a2, iv (2 : Int32)]) rfl k) ?_
          show own_Goes p e below s _ _ (T.setTop (mkF m 29 #[rv a1, rv a2, iv (2 : Int32)] []))
          refine own_st (fun _ k => XS.goto X.here hx rfl (pc0 := 29) (pc' := 9) rfl (hb hby own_d12_29) (by decide) (by decide) k) ?_
          show own_Goes p e below s _ _ (T.setTop (mkF m 9 #[rv a1, rv a2, iv (2 : Int32)] []))
          refine own_st (fun _ k => XS.iloadN X.here hx rfl (hb hby own_d12_9) rfl  k) ?_
          show own_Goes p e below s _ _ (T.setTop (mkF m 10 #[rv a1, rv a2, iv (2 : Int32)] [(.int (2 : Int32))]))
          refine own_st (fun _ k => XS.aloadN X.here hx rfl (hb hby own_d12_10) rfl rfl  k) ?_
          show own_Goes p e below s _ _ (T.setTop (mkF m 11 #[rv a1, rv a2, iv (2 : Int32)] [(.ref a1), (.int (2 : Int32))]))
          refine own_st (fun _ k => own_len X hx hZ e0 V1 (g := (mkF m 11 #[rv a1, rv a2, iv (2 : Int32)] [(.ref a1), (.int (2 : Int32))])) rfl rfl (hb hby own_d12_11) _ k) ?_
          show own_Goes p e below s _ _ (T.setTop (mkF m 12 #[rv a1, rv a2, iv (2 : Int32)] [(.int (2 : Int32)), (.int (2 : Int32))]))
          refine own_st (fun _ k => XS.icmpYes X.here hx rfl (pc0 := 12) (pc' := 32) rfl (hb hby own_d12_12) rfl (flt (by decide : ¬ ((2 : Int32) < (2 : Int32)))).2.1 (by decide) (by decide) k) ?_
          show own_Goes p e below s _ _ (T.setTop (mkF m 32 #[rv a1, rv a2, iv (2 : Int32)] []))
          refine own_st (fun _ k => XS.iconst X.here hx rfl (hb hby own_d12_32) k) ?_
          show own_Goes p e below s _ _ (T.setTop (mkF m 33 #[rv a1, rv a2, iv (2 : Int32)] [(.int (1 : Int32))]))
          exact own_retN X hx hlk (1 : Int32) hret (Or.inl rfl) rfl (hb hby own_d12_33) (by decide) (by decide) ⟨(1 : Int32), rfl, own_b1 ⟨rfl, fun j hj => by have q : j = 0 ∨ j = 1 := (by omega); rcases q with rfl | rfl <;> assumption⟩, N0, e0⟩
        · have c103i : ¬ (g1 1).toInt = (g2 1).toInt := own_i_ne c103
          refine own_st (fun _ k => XS.icmpNo X.here hx rfl (hb hby own_d12_21) rfl (feq c103).1 k) ?_
          show own_Goes p e below s _ _ (T.setTop (mkF m 24 #[rv a1, rv a2, iv (1 : Int32)] []))
          refine own_st (fun _ k => XS.iconst X.here hx rfl (hb hby own_d12_24) k) ?_
          show own_Goes p e below s _ _ (T.setTop (mkF m 25 #[rv a1, rv a2, iv (1 : Int32)] [(.int (0 : Int32))]))
          exact own_retN X hx hlk (0 : Int32) hret (Or.inl rfl) rfl (hb hby own_d12_25) (by decide) (by decide) ⟨(0 : Int32), rfl, own_b0 (fun q => c103i (q.2 1 (by decide))), N0, e0⟩
      · have c102i : ¬ (g1 0).toInt = (g2 0).toInt := own_i_ne c102
        refine own_st (fun _ k => XS.icmpNo X.here hx rfl (hb hby own_d12_21) rfl (feq c102).1 k) ?_
        show own_Goes p e below s _ _ (T.setTop (mkF m 24 #[rv a1, rv a2, iv (0 : Int32)] []))
        refine own_st (fun _ k => XS.iconst X.here hx rfl (hb hby own_d12_24) k) ?_
        show own_Goes p e below s _ _ (T.setTop (mkF m 25 #[rv a1, rv a2, iv (0 : Int32)] [(.int (0 : Int32))]))
        exact own_retN X hx hlk (0 : Int32) hret (Or.inl rfl) rfl (hb hby own_d12_25) (by decide) (by decide) ⟨(0 : Int32), rfl, own_b0 (fun q => c102i (q.2 0 (by decide))), N0, e0⟩
    · show own_Goes p e below s _ _ (T.setTop (mkF m 0 #[rv a1, rv a2, .unset] []))
      refine own_st (fun _ k => XS.aloadN X.here hx rfl (hb hby own_d12_0) rfl rfl  k) ?_
      show own_Goes p e below s _ _ (T.setTop (mkF m 1 #[rv a1, rv a2, .unset] [(.ref a1)]))
      refine own_st (fun _ k => own_len X hx hZ e0 V1 (g := (mkF m 1 #[rv a1, rv a2, .unset] [(.ref a1)])) rfl rfl (hb hby own_d12_1) _ k) ?_
      show own_Goes p e below s _ _ (T.setTop (mkF m 2 #[rv a1, rv a2, .unset] [(.int (2 : Int32))]))
      refine own_st (fun _ k => XS.aloadN X.here hx rfl (hb hby own_d12_2) rfl rfl  k) ?_
      show own_Goes p e below s _ _ (T.setTop (mkF m 3 #[rv a1, rv a2, .unset] [(.ref a2), (.int (2 : Int32))]))
      refine own_st (fun _ k => own_len X hx hZ e0 V2 (g := (mkF m 3 #[rv a1, rv a2, .unset] [(.ref a2), (.int (2 : Int32))])) rfl rfl (hb hby own_d12_3) _ k) ?_
      show own_Goes p e below s _ _ (T.setTop (mkF m 4 #[rv a1, rv a2, .unset] [(.int (3 : Int32)), (.int (2 : Int32))]))
      refine own_st (fun _ k => XS.icmpYes X.here hx rfl (pc0 := 4) (pc' := 34) rfl (hb hby own_d12_4) rfl (feq (by decide : ¬ ((2 : Int32) = (3 : Int32)))).2 (by decide) (by decide) k) ?_
      show own_Goes p e below s _ _ (T.setTop (mkF m 34 #[rv a1, rv a2, .unset] []))
      refine own_st (fun _ k => XS.iconst X.here hx rfl (hb hby own_d12_34) k) ?_
      show own_Goes p e below s _ _ (T.setTop (mkF m 35 #[rv a1, rv a2, .unset] [(.int (0 : Int32))]))
      exact own_retN X hx hlk (0 : Int32) hret (Or.inl rfl) rfl (hb hby own_d12_35) (by decide) (by decide) ⟨(0 : Int32), rfl, own_b0 (fun q => absurd q.1 (by decide)), N0, e0⟩
  · show own_Goes p e below s _ _ (T.setTop (mkF m 0 #[rv a1, rv a2, .unset] []))
    rcases hn2 with rfl | rfl | rfl | rfl
    · show own_Goes p e below s _ _ (T.setTop (mkF m 0 #[rv a1, rv a2, .unset] []))
      refine own_st (fun _ k => XS.aloadN X.here hx rfl (hb hby own_d12_0) rfl rfl  k) ?_
      show own_Goes p e below s _ _ (T.setTop (mkF m 1 #[rv a1, rv a2, .unset] [(.ref a1)]))
      refine own_st (fun _ k => own_len X hx hZ e0 V1 (g := (mkF m 1 #[rv a1, rv a2, .unset] [(.ref a1)])) rfl rfl (hb hby own_d12_1) _ k) ?_
      show own_Goes p e below s _ _ (T.setTop (mkF m 2 #[rv a1, rv a2, .unset] [(.int (3 : Int32))]))
      refine own_st (fun _ k => XS.aloadN X.here hx rfl (hb hby own_d12_2) rfl rfl  k) ?_
      show own_Goes p e below s _ _ (T.setTop (mkF m 3 #[rv a1, rv a2, .unset] [(.ref a2), (.int (3 : Int32))]))
      refine own_st (fun _ k => own_len X hx hZ e0 V2 (g := (mkF m 3 #[rv a1, rv a2, .unset] [(.ref a2), (.int (3 : Int32))])) rfl rfl (hb hby own_d12_3) _ k) ?_
      show own_Goes p e below s _ _ (T.setTop (mkF m 4 #[rv a1, rv a2, .unset] [(.int (0 : Int32)), (.int (3 : Int32))]))
      refine own_st (fun _ k => XS.icmpYes X.here hx rfl (pc0 := 4) (pc' := 34) rfl (hb hby own_d12_4) rfl (feq (by decide : ¬ ((3 : Int32) = (0 : Int32)))).2 (by decide) (by decide) k) ?_
      show own_Goes p e below s _ _ (T.setTop (mkF m 34 #[rv a1, rv a2, .unset] []))
      refine own_st (fun _ k => XS.iconst X.here hx rfl (hb hby own_d12_34) k) ?_
      show own_Goes p e below s _ _ (T.setTop (mkF m 35 #[rv a1, rv a2, .unset] [(.int (0 : Int32))]))
      exact own_retN X hx hlk (0 : Int32) hret (Or.inl rfl) rfl (hb hby own_d12_35) (by decide) (by decide) ⟨(0 : Int32), rfl, own_b0 (fun q => absurd q.1 (by decide)), N0, e0⟩
    · show own_Goes p e below s _ _ (T.setTop (mkF m 0 #[rv a1, rv a2, .unset] []))
      refine own_st (fun _ k => XS.aloadN X.here hx rfl (hb hby own_d12_0) rfl rfl  k) ?_
      show own_Goes p e below s _ _ (T.setTop (mkF m 1 #[rv a1, rv a2, .unset] [(.ref a1)]))
      refine own_st (fun _ k => own_len X hx hZ e0 V1 (g := (mkF m 1 #[rv a1, rv a2, .unset] [(.ref a1)])) rfl rfl (hb hby own_d12_1) _ k) ?_
      show own_Goes p e below s _ _ (T.setTop (mkF m 2 #[rv a1, rv a2, .unset] [(.int (3 : Int32))]))
      refine own_st (fun _ k => XS.aloadN X.here hx rfl (hb hby own_d12_2) rfl rfl  k) ?_
      show own_Goes p e below s _ _ (T.setTop (mkF m 3 #[rv a1, rv a2, .unset] [(.ref a2), (.int (3 : Int32))]))
      refine own_st (fun _ k => own_len X hx hZ e0 V2 (g := (mkF m 3 #[rv a1, rv a2, .unset] [(.ref a2), (.int (3 : Int32))])) rfl rfl (hb hby own_d12_3) _ k) ?_
      show own_Goes p e below s _ _ (T.setTop (mkF m 4 #[rv a1, rv a2, .unset] [(.int (1 : Int32)), (.int (3 : Int32))]))
      refine own_st (fun _ k => XS.icmpYes X.here hx rfl (pc0 := 4) (pc' := 34) rfl (hb hby own_d12_4) rfl (feq (by decide : ¬ ((3 : Int32) = (1 : Int32)))).2 (by decide) (by decide) k) ?_
      show own_Goes p e below s _ _ (T.setTop (mkF m 34 #[rv a1, rv a2, .unset] []))
      refine own_st (fun _ k => XS.iconst X.here hx rfl (hb hby own_d12_34) k) ?_
      show own_Goes p e below s _ _ (T.setTop (mkF m 35 #[rv a1, rv a2, .unset] [(.int (0 : Int32))]))
      exact own_retN X hx hlk (0 : Int32) hret (Or.inl rfl) rfl (hb hby own_d12_35) (by decide) (by decide) ⟨(0 : Int32), rfl, own_b0 (fun q => absurd q.1 (by decide)), N0, e0⟩
    · show own_Goes p e below s _ _ (T.setTop (mkF m 0 #[rv a1, rv a2, .unset] []))
      refine own_st (fun _ k => XS.aloadN X.here hx rfl (hb hby own_d12_0) rfl rfl  k) ?_
      show own_Goes p e below s _ _ (T.setTop (mkF m 1 #[rv a1, rv a2, .unset] [(.ref a1)]))
      refine own_st (fun _ k => own_len X hx hZ e0 V1 (g := (mkF m 1 #[rv a1, rv a2, .unset] [(.ref a1)])) rfl rfl (hb hby own_d12_1) _ k) ?_
      show own_Goes p e below s _ _ (T.setTop (mkF m 2 #[rv a1, rv a2, .unset] [(.int (3 : Int32))]))
      refine own_st (fun _ k => XS.aloadN X.here hx rfl (hb hby own_d12_2) rfl rfl  k) ?_
      show own_Goes p e below s _ _ (T.setTop (mkF m 3 #[rv a1, rv a2, .unset] [(.ref a2), (.int (3 : Int32))]))
      refine own_st (fun _ k => own_len X hx hZ e0 V2 (g := (mkF m 3 #[rv a1, rv a2, .unset] [(.ref a2), (.int (3 : Int32))])) rfl rfl (hb hby own_d12_3) _ k) ?_
      show own_Goes p e below s _ _ (T.setTop (mkF m 4 #[rv a1, rv a2, .unset] [(.int (2 : Int32)), (.int (3 : Int32))]))
      refine own_st (fun _ k => XS.icmpYes X.here hx rfl (pc0 := 4) (pc' := 34) rfl (hb hby own_d12_4) rfl (feq (by decide : ¬ ((3 : Int32) = (2 : Int32)))).2 (by decide) (by decide) k) ?_
      show own_Goes p e below s _ _ (T.setTop (mkF m 34 #[rv a1, rv a2, .unset] []))
      refine own_st (fun _ k => XS.iconst X.here hx rfl (hb hby own_d12_34) k) ?_
      show own_Goes p e below s _ _ (T.setTop (mkF m 35 #[rv a1, rv a2, .unset] [(.int (0 : Int32))]))
      exact own_retN X hx hlk (0 : Int32) hret (Or.inl rfl) rfl (hb hby own_d12_35) (by decide) (by decide) ⟨(0 : Int32), rfl, own_b0 (fun q => absurd q.1 (by decide)), N0, e0⟩
    · show own_Goes p e below s _ _ (T.setTop (mkF m 0 #[rv a1, rv a2, .unset] []))
      refine own_st (fun _ k => XS.aloadN X.here hx rfl (hb hby own_d12_0) rfl rfl  k) ?_
      show own_Goes p e below s _ _ (T.setTop (mkF m 1 #[rv a1, rv a2, .unset] [(.ref a1)]))
      refine own_st (fun _ k => own_len X hx hZ e0 V1 (g := (mkF m 1 #[rv a1, rv a2, .unset] [(.ref a1)])) rfl rfl (hb hby own_d12_1) _ k) ?_
      show own_Goes p e below s _ _ (T.setTop (mkF m 2 #[rv a1, rv a2, .unset] [(.int (3 : Int32))]))
      refine own_st (fun _ k => XS.aloadN X.here hx rfl (hb hby own_d12_2) rfl rfl  k) ?_
      show own_Goes p e below s _ _ (T.setTop (mkF m 3 #[rv a1, rv a2, .unset] [(.ref a2), (.int (3 : Int32))]))
      refine own_st (fun _ k => own_len X hx hZ e0 V2 (g := (mkF m 3 #[rv a1, rv a2, .unset] [(.ref a2), (.int (3 : Int32))])) rfl rfl (hb hby own_d12_3) _ k) ?_
      show own_Goes p e below s _ _ (T.setTop (mkF m 4 #[rv a1, rv a2, .unset] [(.int (3 : Int32)), (.int (3 : Int32))]))
      refine own_st (fun _ k => XS.icmpNo X.here hx rfl (hb hby own_d12_4) rfl (teq (by decide : (3 : Int32) = (3 : Int32))).2 k) ?_
      show own_Goes p e below s _ _ (T.setTop (mkF m 7 #[rv a1, rv a2, .unset] []))
      refine own_st (fun _ k => XS.iconst X.here hx rfl (hb hby own_d12_7) k) ?_
      show own_Goes p e below s _ _ (T.setTop (mkF m 8 #[rv a1, rv a2, .unset] [(.int (0 : Int32))]))
      refine own_st (fun _ k => XS.istoreN X.here hx rfl (hb hby own_d12_8) rfl (l' := #[rv a1, rv a2, iv (0 : Int32)]) rfl k) ?_
      show own_Goes p e below s _ _ (T.setTop (mkF m 9 #[rv a1, rv a2, iv (0 : Int32)] []))
      refine own_st (fun _ k => XS.iloadN X.here hx rfl (hb hby own_d12_9) rfl  k) ?_
      show own_Goes p e below s _ _ (T.setTop (mkF m 10 #[rv a1, rv a2, iv (0 : Int32)] [(.int (0 : Int32))]))
      refine own_st (fun _ k => XS.aloadN X.here hx rfl (hb hby own_d12_10) rfl rfl  k) ?_
      show own_Goes p e below s _ _ (T.setTop (mkF m 11 #[rv a1, rv a2, iv (0 : Int32)] [(.ref a1), (.int (0 : Int32))]))
      refine own_st (fun _ k => own_len X hx hZ e0 V1 (g := (mkF m 11 #[rv a1, rv a2, iv (0 : Int32)] [(.ref a1), (.int (0 : Int32))])) rfl rfl (hb hby own_d12_11) _ k) ?_
      show own_Goes p e below s _ _ (T.setTop (mkF m 12 #[rv a1, rv a2, iv (0 : Int32)] [(.int (3 : Int32)), (.int (0 : Int32))]))
      refine own_st (fun _ k => XS.icmpNo X.here hx rfl (hb hby own_d12_12) rfl (tlt (by decide : (0 : Int32) < (3 : Int32))).2.1 k) ?_
      show own_Goes p e below s _ _ (T.setTop (mkF m 15 #[rv a1, rv a2, iv (0 : Int32)] []))
      refine own_st (fun _ k => XS.aloadN X.here hx rfl (hb hby own_d12_15) rfl rfl  k) ?_
      show own_Goes p e below s _ _ (T.setTop (mkF m 16 #[rv a1, rv a2, iv (0 : Int32)] [(.ref a1)]))
      refine own_st (fun _ k => XS.iloadN X.here hx rfl (hb hby own_d12_16) rfl  k) ?_
      show own_Goes p e below s _ _ (T.setTop (mkF m 17 #[rv a1, rv a2, iv (0 : Int32)] [(.int (0 : Int32)), (.ref a1)]))
      refine own_st (fun _ k => own_ldB X hx hZ e0 V1 (j := (0 : Int32)) (by decide) (g := (mkF m 17 #[rv a1, rv a2, iv (0 : Int32)] [(.int (0 : Int32)), (.ref a1)])) rfl rfl (hb hby own_d12_17) _ k) ?_
      show own_Goes p e below s _ _ (T.setTop (mkF m 18 #[rv a1, rv a2, iv (0 : Int32)] [(.int (g1 0))]))
      refine own_st (fun _ k => XS.aloadN X.here hx rfl (hb hby own_d12_18) rfl rfl  k) ?_
      show own_Goes p e below s _ _ (T.setTop (mkF m 19 #[rv a1, rv a2, iv (0 : Int32)] [(.ref a2), (.int (g1 0))]))
      refine own_st (fun _ k => XS.iloadN X.here hx rfl (hb hby own_d12_19) rfl  k) ?_
      show own_Goes p e below s _ _ (T.setTop (mkF m 20 #[rv a1, rv a2, iv (0 : Int32)] [(.int (0 : Int32)), (.ref a2), (.int (g1 0))]))
      refine own_st (fun _ k => own_ldB X hx hZ e0 V2 (j := (0 : Int32)) (by decide) (g := (mkF m 20 #[rv a1, rv a2, iv (0 : Int32)] [(.int (0 : Int32)), (.ref a2), (.int (g1 0))])) rfl rfl (hb hby own_d12_20) _ k) ?_
      show own_Goes p e below s _ _ (T.setTop (mkF m 21 #[rv a1, rv a2, iv (0 : Int32)] [(.int (g2 0)), (.int (g1 0))]))
      by_cases c104 : (g1 0) = (g2 0)
      · have c104i : (g1 0).toInt = (g2 0).toInt := own_i_eq c104
        refine own_st (fun _ k => XS.icmpYes X.here hx rfl (pc0 := 21) (pc' := 26) rfl (hb hby own_d12_21) rfl (teq c104).1 (by decide) (by decide) k) ?_
        show own_Goes p e below s _ _ (T.setTop (mkF m 26 #[rv a1, rv a2, iv (0 : Int32)] []))
        refine own_st (fun _ k => XS.iinc X.here hx rfl (hb hby own_d12_26) rfl (l' := #[rv a1, rv a2, iv (1 : Int32)]) rfl k) ?_
        show own_Goes p e below s _ _ (T.setTop (mkF m 29 #[rv a1, rv a2, iv (1 : Int32)] []))
        refine own_st (fun _ k => XS.goto X.here hx rfl (pc0 := 29) (pc' := 9) rfl (hb hby own_d12_29) (by decide) (by decide) k) ?_
        show own_Goes p e below s _ _ (T.setTop (mkF m 9 #[rv a1, rv a2, iv (1 : Int32)] []))
        refine own_st (fun _ k => XS.iloadN X.here hx rfl (hb hby own_d12_9) rfl  k) ?_
        show own_Goes p e below s _ _ (T.setTop (mkF m 10 #[rv a1, rv a2, iv (1 : Int32)] [(.int (1 : Int32))]))
        refine own_st (fun _ k => XS.aloadN X.here hx rfl (hb hby own_d12_10) rfl rfl  k) ?_
        show own_Goes p e below s _ _ (T.setTop (mkF m 11 #[rv a1, rv a2, iv (1 : Int32)] [(.ref a1), (.int (1 : Int32))]))
        refine own_st (fun _ k => own_len X hx hZ e0 V1 (g := (mkF m 11 #[rv a1, rv a2, iv (1 : Int32)] [(.ref a1), (.int (1 : Int32))])) rfl rfl (hb hby own_d12_11) _ k) ?_
        show own_Goes p e below s _ _ (T.setTop (mkF m 12 #[rv a1, rv a2, iv (1 : Int32)] [(.int (3 : Int32)), (.int (1 : Int32))]))
        refine own_st (fun _ k => XS.icmpNo X.here hx rfl (hb hby own_d12_12) rfl (tlt (by decide : (1 : Int32) < (3 : Int32))).2.1 k) ?_
        show own_Goes p e below s _ _ (T.setTop (mkF m 15 #[rv a1, rv a2, iv (1 : Int32)] []))
        refine own_st (fun _ k => XS.aloadN X.here hx rfl (hb hby own_d12_15) rfl rfl  k) ?_
        show own_Goes p e below s _ _ (T.setTop (mkF m 16 #[rv a1, rv a2, iv (1 : Int32)] [(.ref a1)]))
        refine own_st (fun _ k => XS.iloadN X.here hx rfl (hb hby own_d12_16) rfl  k) ?_
        show own_Goes p e below s _ _ (T.setTop (mkF m 17 #[rv a1, rv a2, iv (1 : Int32)] [(.int (1 : Int32)), (.ref a1)]))
        refine own_st (fun _ k => own_ldB X hx hZ e0 V1 (j := (1 : Int32)) (by decide) (g := (mkF m 17 #[rv a1, rv a2, iv (1 : Int32)] [(.int (1 : Int32)), (.ref a1)])) rfl rfl (hb hby own_d12_17) _ k) ?_
        show own_Goes p e below s _ _ (T.setTop (mkF m 18 #[rv a1, rv a2, iv (1 : Int32)] [(.int (g1 1))]))
        refine own_st (fun _ k => XS.aloadN X.here hx rfl (hb hby own_d12_18) rfl rfl  k) ?_
        show own_Goes p e below s _ _ (T.setTop (mkF m 19 #[rv a1, rv a2, iv (1 : Int32)] [(.ref a2), (.int (g1 1))]))
        refine own_st (fun _ k => XS.iloadN X.here hx rfl (hb hby own_d12_19) rfl  k) ?_
        show own_Goes p e below s _ _ (T.setTop (mkF m 20 #[rv a1, rv a2, iv (1 : Int32)] [(.int (1 : Int32)), (.ref a2), (.int (g1 1))]))
        refine own_st (fun _ k => own_ldB X hx hZ e0 V2 (j := (1 : Int32)) (by decide) (g := (mkF m 20 #[rv a1, rv a2, iv (1 : Int32)] [(.int (1 : Int32)), (.ref a2), (.int (g1 1))])) rfl rfl (hb hby own_d12_20) _ k) ?_
        show own_Goes p e below s _ _ (T.setTop (mkF m 21 #[rv a1, rv a2, iv (1 : Int32)] [(.int (g2 1)), (.int (g1 1))]))
        by_cases c105 : (g1 1) = (g2 1)
        · have c105i : (g1 1).toInt = (g2 1).toInt := own_i_eq c105
          refine own_st (fun _ k => XS.icmpYes X.here hx rfl (pc0 := 21) (pc' := 26) rfl (hb hby own_d12_21) rfl (teq c105).1 (by decide) (by decide) k) ?_
          show own_Goes p e below s _ _ (T.setTop (mkF m 26 #[rv a1, rv a2, iv (1 : Int32)] []))
          refine own_st (fun _ k => XS.iinc X.here hx rfl (hb hby own_d12_26) rfl (l' := #[rv a1, rv a2, iv (2 : Int32)]) rfl k) ?_
          show own_Goes p e below s _ _ (T.setTop (mkF m 29 #[rv a1, rv a2, iv (2 : Int32)] []))
          refine own_st (fun _ k => XS.goto X.here hx rfl (pc0 := 29) (pc' := 9) rfl (hb hby own_d12_29) (by decide) (by decide) k) ?_
          show own_Goes p e below s _ _ (T.setTop (mkF m 9 #[rv a1, rv a2, iv (2 : Int32)] []))
          refine own_st (fun _ k => XS.iloadN X.here hx rfl (hb hby own_d12_9) rfl  k) ?_
          show own_Goes p e below s _ _ (T.setTop (mkF m 10 #[rv a1, rv a2, iv (2 : Int32)] [(.int (2 : Int32))]))
          refine own_st (fun _ k => XS.aloadN X.here hx rfl (hb hby own_d12_10) rfl rfl  k) ?_
          show own_Goes p e below s _ _ (T.setTop (mkF m 11 #[rv a1, rv a2, iv (2 : Int32)] [(.ref a1), (.int (2 : Int32))]))
          refine own_st (fun _ k => own_len X hx hZ e0 V1 (g := (mkF m 11 #[rv a1, rv a2, iv (2 : Int32)] [(.ref a1), (.int (2 : Int32))])) rfl rfl (hb hby own_d12_11) _ k) ?_
          show own_Goes p e below s _ _ (T.setTop (mkF m 12 #[rv a1, rv a2, iv (2 : Int32)] [(.int (3 : Int32)), (.int (2 : Int32))]))
          refine own_st (fun _ k => XS.icmpNo X.here hx rfl (hb hby own_d12_12) rfl (tlt (by decide : (2 : Int32) < (3 : Int32))).2.1 k) ?_
          show own_Goes p e below s _ _ (T.setTop (mkF m 15 #[rv a1, rv a2, iv (2 : Int32)] []))
          refine own_st (fun _ k => XS.aloadN X.here hx rfl (hb hby own_d12_15) rfl rfl  k) ?_
          show own_Goes p e below s _ _ (T.setTop (mkF m 16 #[rv a1, rv a2, iv (2 : Int32)] [(.ref a1)]))
          refine own_st (fun _ k => XS.iloadN X.here hx rfl (hb hby own_d12_16) rfl  k) ?_
          show own_Goes p e below s _ _ (T.setTop (mkF m 17 #[rv a1, rv a2, iv (2 : Int32)] [(.int (2 : Int32)), (.ref a1)]))
          refine own_st (fun _ k => own_ldB X hx hZ e0 V1 (j := (2 : Int32)) (by decide) (g := (mkF m 17 #[rv a1, rv a2, iv (2 : Int32)] [(.int (2 : Int32)), (.ref a1)])) rfl rfl (hb hby own_d12_17) _ k) ?_
          show own_Goes p e below s _ _ (T.setTop (mkF m 18 #[rv a1, rv a2, iv (2 : Int32)] [(.int (g1 2))]))
          refine own_st (fun _ k => XS.aloadN X.here hx rfl (hb hby own_d12_18) rfl rfl  k) ?_
          show own_Goes p e below s _ _ (T.setTop (mkF m 19 #[rv a1, rv a2, iv (2 : Int32)] [(.ref a2), (.int (g1 2))]))
          refine own_st (fun _ k => XS.iloadN X.here hx rfl (hb hby own_d12_19) rfl  k) ?_
          show own_Goes p e below s _ _ (T.setTop (mkF m 20 #[rv a1, rv a2, iv (2 : Int32)] [(.int (2 : Int32)), (.ref a2), (.int (g1 2))]))
          refine own_st (fun _ k => own_ldB X hx hZ e0 V2 (j := (2 : Int32)) (by decide) (g := (mkF m 20 #[rv a1, rv a2, iv (2 : Int32)] [(.int (2 : Int32)), (.ref a2), (.int (g1 2))])) rfl rfl (hb hby own_d12_20) _ k) ?_
          show own_Goes p e below s _ _ (T.setTop (mkF m 21 #[rv a1, rv a2, iv (2 : Int32)] [(.int (g2 2)), (.int (g1 2))]))
          by_cases c106 : (g1 2) = (g2 2)
          · have c106i : (g1 2).toInt = (g2 2).toInt := own_i_eq c106
            refine own_st (fun _ k => XS.icmpYes X.here hx rfl (pc0 := 21) (pc' := 26) rfl (hb hby own_d12_21) rfl (teq c106).1 (by decide) (by decide) k) ?_
            show own_Goes p e below s _ _ (T.setTop (mkF m 26 #[rv a1, rv a2, iv (2 : Int32)] []))
            refine own_st (fun _ k => XS.iinc X.here hx rfl (hb hby own_d12_26) rfl (l' := #[rv a1, rv a2, iv (3 : Int32)]) rfl k) ?_
            show own_Goes p e below s _ _ (T.setTop (mkF m 29 #[rv a1, rv a2, iv (3 : Int32)] []))
            refine own_st (fun _ k => XS.goto X.here hx rfl (pc0 := 29) (pc' := 9) rfl (hb hby own_d12_29) (by decide) (by decide) k) ?_
            show own_Goes p e below s _ _ (T.setTop (mkF m 9 #[rv a1, rv a2, iv (3 : Int32)] []))
            refine own_st (fun _ k => XS.iloadN X.here hx rfl (hb hby own_d12_9) rfl  k) ?_
            show own_Goes p e below s _ _ (T.setTop (mkF m 10 #[rv a1, rv a2, iv (3 : Int32)] [(.int (3 : Int32))]))
            refine own_st (fun _ k => XS.aloadN X.here hx rfl (hb hby own_d12_10) rfl rfl  k) ?_
            show own_Goes p e below s _ _ (T.setTop (mkF m 11 #[rv a1, rv a2, iv (3 : Int32)] [(.ref a1), (.int (3 : Int32))]))
            refine own_st (fun _ k => own_len X hx hZ e0 V1 (g := (mkF m 11 #[rv a1, rv a2, iv (3 : Int32)] [(.ref a1), (.int (3 : Int32))])) rfl rfl (hb hby own_d12_11) _ k) ?_
            show own_Goes p e below s _ _ (T.setTop (mkF m 12 #[rv a1, rv a2, iv (3 : Int32)] [(.int (3 : Int32)), (.int (3 : Int32))]))
            refine own_st (fun _ k => XS.icmpYes X.here hx rfl (pc0 := 12) (pc' := 32) rfl (hb hby own_d12_12) rfl (flt (by decide : ¬ ((3 : Int32) < (3 : Int32)))).2.1 (by decide) (by decide) k) ?_
            show own_Goes p e below s _ _ (T.setTop (mkF m 32 #[rv a1, rv a2, iv (3 : Int32)] []))
            refine own_st (fun _ k => XS.iconst X.here hx rfl (hb hby own_d12_32) k) ?_
            show own_Goes p e below s _ _ (T.setTop (mkF m 33 #[rv a1, rv a2, iv (3 : Int32)] [(.int (1 : Int32))]))
            exact own_retN X hx hlk (1 : Int32) hret (Or.inl rfl) rfl (hb hby own_d12_33) (by decide) (by decide) ⟨(1 : Int32), rfl, own_b1 ⟨rfl, fun j hj => by have q : j = 0 ∨ j = 1 ∨ j = 2 := (by omega); rcases q with rfl | rfl | rfl <;> assumption⟩, N0, e0⟩
          · have c106i : ¬ (g1 2).toInt = (g2 2).toInt := own_i_ne c106
            refine own_st (fun _ k => XS.icmpNo X.here hx rfl (hb hby own_d12_21) rfl (feq c106).1 k) ?_
            show own_Goes p e below s _ _ (T.setTop (mkF m 24 #[rv a1, rv a2, iv (2 : Int32)] []))
            refine own_st (fun _ k => XS.iconst X.here hx rfl (hb hby own_d12_24) k) ?_
            show own_Goes p e below s _ _ (T.setTop (mkF m 25 #[rv a1, rv a2, iv (2 : Int32)] [(.int (0 : Int32))]))
            exact own_retN X hx hlk (0 : Int32) hret (Or.inl rfl) rfl (hb hby own_d12_25) (by decide) (by decide) ⟨(0 : Int32), rfl, own_b0 (fun q => c106i (q.2 2 (by decide))), N0, e0⟩
        · have c105i : ¬ (g1 1).toInt = (g2 1).toInt := own_i_ne c105
          refine own_st (fun _ k => XS.icmpNo X.here hx rfl (hb hby own_d12_21) rfl (feq c105).1 k) ?_
          show own_Goes p e below s _ _ (T.setTop (mkF m 24 #[rv a1, rv a2, iv (1 : Int32)] []))
          refine own_st (fun _ k => XS.iconst X.here hx rfl (hb hby own_d12_24) k) ?_
          show own_Goes p e below s _ _ (T.setTop (mkF m 25 #[rv a1, rv a2, iv (1 : Int32)] [(.int (0 : Int32))]))
          exact own_retN X hx hlk (0 : Int32) hret (Or.inl rfl) rfl (hb hby own_d12_25) (by decide) (by decide) ⟨(0 : Int32), rfl, own_b0 (fun q => c105i (q.2 1 (by decide))), N0, e0⟩
      · have c104i : ¬ (g1 0).toInt = (g2 0).toInt := own_i_ne c104
        refine own_st (fun _ k => XS.icmpNo X.here hx rfl (hb hby own_d12_21) rfl (feq c104).1 k) ?_
        show own_Goes p e below s _ _ (T.setTop (mkF m 24 #[rv a1, rv a2, iv (0 : Int32)] []))
        refine own_st (fun _ k => XS.iconst X.here hx rfl (hb hby own_d12_24) k) ?_
        show own_Goes p e below s _ _ (T.setTop (mkF m 25 #[rv a1, rv a2, iv (0 : Int32)] [(.int (0 : Int32))]))
        exact own_retN X hx hlk (0 : Int32) hret (Or.inl rfl) rfl (hb hby own_d12_25) (by decide) (by decide) ⟨(0 : Int32), rfl, own_b0 (fun q => c104i (q.2 0 (by decide))), N0, e0⟩
theorem own_pn9 : plainFor (⟨"java/lang/String", "equals", "(Ljava/lang/Object;)Z"⟩ : MethodName) = true := by first | exact plainFor_of_name (by simp [plainName, overriddenIn]; done) | decide +kernel
theorem own_d11_0 : decode jdk_42_method_66_code 0 = .ok (.aload_n 0, 1) := by decide +kernel
theorem own_d11_1 : decode jdk_42_method_66_code 1 = .ok (.aload_n 1, 1) := by decide +kernel
theorem own_d11_2 : decode jdk_42_method_66_code 2 = .ok (.if_acmp .ne 5, 3) := by decide +kernel
theorem own_d11_5 : decode jdk_42_method_66_code 5 = .ok (.iconst 1, 1) := by decide +kernel
theorem own_d11_6 : decode jdk_42_method_66_code 6 = .ok (.ireturn, 1) := by decide +kernel
theorem own_d11_7 : decode jdk_42_method_66_code 7 = .ok (.aload_n 1, 1) := by decide +kernel
theorem own_d11_8 : decode jdk_42_method_66_code 8 = .ok (.instanceof 10, 3) := by decide +kernel
theorem own_d11_11 : decode jdk_42_method_66_code 11 = .ok (.ifCond .eq 43, 3) := by decide +kernel
theorem own_d11_14 : decode jdk_42_method_66_code 14 = .ok (.aload_n 1, 1) := by decide +kernel
theorem own_d11_15 : decode jdk_42_method_66_code 15 = .ok (.checkcast 10, 3) := by decide +kernel
theorem own_d11_18 : decode jdk_42_method_66_code 18 = .ok (.astore_n 2, 1) := by decide +kernel
theorem own_d11_19 : decode jdk_42_method_66_code 19 = .ok (.getstatic 38, 3) := by decide +kernel
theorem own_d11_22 : decode jdk_42_method_66_code 22 = .ok (.ifCond .eq 14, 3) := by decide +kernel
theorem own_d11_25 : decode jdk_42_method_66_code 25 = .ok (.aload_n 0, 1) := by decide +kernel
theorem own_d11_26 : decode jdk_42_method_66_code 26 = .ok (.getfield 15, 3) := by decide +kernel
theorem own_d11_29 : decode jdk_42_method_66_code 29 = .ok (.aload_n 2, 1) := by decide +kernel
theorem own_d11_30 : decode jdk_42_method_66_code 30 = .ok (.getfield 15, 3) := by decide +kernel
theorem own_d11_33 : decode jdk_42_method_66_code 33 = .ok (.if_icmp .ne 21, 3) := by decide +kernel
theorem own_d11_36 : decode jdk_42_method_66_code 36 = .ok (.aload_n 0, 1) := by decide +kernel
theorem own_d11_37 : decode jdk_42_method_66_code 37 = .ok (.getfield 9, 3) := by decide +kernel
theorem own_d11_40 : decode jdk_42_method_66_code 40 = .ok (.aload_n 2, 1) := by decide +kernel
theorem own_d11_41 : decode jdk_42_method_66_code 41 = .ok (.getfield 9, 3) := by decide +kernel
theorem own_d11_44 : decode jdk_42_method_66_code 44 = .ok (.invokestatic 541, 3) := by decide +kernel
theorem own_pd5 : parseMethodDescriptor "([B[B)Z" = some ⟨[(.array .byte), (.array .byte)], some .boolean⟩ := by decide +kernel
theorem own_d11_47 : decode jdk_42_method_66_code 47 = .ok (.ifCond .eq 7, 3) := by decide +kernel
theorem own_d11_54 : decode jdk_42_method_66_code 54 = .ok (.iconst 0, 1) := by decide +kernel
theorem own_d11_55 : decode jdk_42_method_66_code 55 = .ok (.ireturn, 1) := by decide +kernel
theorem own_d11_50 : decode jdk_42_method_66_code 50 = .ok (.iconst 1, 1) := by decide +kernel
theorem own_d11_51 : decode jdk_42_method_66_code 51 = .ok (.goto 4, 3) := by decide +kernel
theorem own_ef_rmEqS (m : MethodId) (a1 : Nat) (a2 : Nat) : entryFrame m #[(.ref a1), (.ref a2)] 3 = mkF m 0 #[rv a1, rv a2, .unset] [] := by first | (simp [entryFrame, mkF, argsToLocals, Value.category, maxLocals]; done) | rfl
abbrev own_Q_rmEqS (Z : State) (a1 : Nat) (a2 : Nat) (n1 : Nat) (n2 : Nat) (g1 : Nat → Int32) (g2 : Nat → Int32) (cs : Int32) (h0 : Heap) (n0 : Nat) (v : Option Value) (h : Heap) (L : List Loc) : Prop := ∃ r : Int32, v = some (.int r) ∧ ((r.toInt = 1 ∧ (own_same n1 n2 g1 g2)) ∨ (r.toInt = 0 ∧ ¬ (own_same n1 n2 g1 g2))) ∧ Fr n0 L ∧ h = h0
set_option maxRecDepth 65536 in
set_option maxHeartbeats 40000000 in
theorem rmEqS (l : Launch) (Z : State) (a0 : Array Value) (hw : ∀ d ∈ tables_1, d.before a0 Z = true) (ws : List Jvm.Cond) (a1 : Nat) (a2 : Nat) (n1 : Nat) (n2 : Nat) (g1 : Nat → Int32) (g2 : Nat → Int32) (cs : Int32) (h0 : Heap) (n0 : Nat) (Z0 : n0 ≤ h0.size) (Y1 : own_Str Z h0 a1 n1 g1) (Y2 : own_Str Z h0 a2 n2 g2) (S1 : Sta Z h0 "java/lang/String" "COMPACT_STRINGS" "Z" (.int cs)) (hcs : ¬ cs = (0 : Int32)) (hn1 : n1 = 0 ∨ n1 = 1 ∨ n1 = 2 ∨ n1 = 3) (hn2 : n2 = 0 ∨ n2 = 1 ∨ n2 = 2 ∨ n2 = 3) :
    MetFree l (⟨"java/lang/String", "equals", "(Ljava/lang/Object;)Z"⟩ : MethodName) (head1 (Jvm.Cond.code (⟨"java/lang/String", "equals", "(Ljava/lang/Object;)Z"⟩ : MethodName) jdk_42_method_66_code 3 (some .boolean) :: ws) ({ frames := 1, cells := 0, slots := 0, locals := 14 } : Room)) (fun a U => a = #[(.ref a1), (.ref a2)] ∧ Z.Warmed39 U.vm ∧ U.heap = h0) (fun _ _ _ _ _ => True) (fun _ U o U' => ∃ v L, o = .returned v ∧ own_Q_rmEqS Z a1 a2 n1 n2 g1 g2 cs h0 n0 v U'.heap L ∧ FrameEnd U o U' L ({ frames := 1, cells := 0, slots := 0, locals := 14 } : Room).cells ({ frames := 1, cells := 0, slots := 0, locals := 14 } : Room).slots) := by
  refine own_enter (Q := fun v h L => own_Q_rmEqS Z a1 a2 n1 n2 g1 g2 cs h0 n0 v h L) (F := fun m => mkF m 0 #[rv a1, rv a2, .unset] []) own_pn9 (fun m => own_ef_rmEqS m a1 a2) ?_
  intro p e s m below meth c T X hx hby hml hret hlk hnm hown hZ e0
  show own_Goes p e below s _ _ (T.setTop (mkF m 0 #[rv a1, rv a2, .unset] []))
  have N0 := Fr.nil n0
  obtain ⟨E1, C1, b1, F1, V1⟩ := id Y1
  obtain ⟨E2, C2, b2, F2, V2⟩ := id Y2
  refine own_st (fun _ k => XS.aloadN X.here hx rfl (hb hby own_d11_0) rfl rfl  k) ?_
  show own_Goes p e below s _ _ (T.setTop (mkF m 1 #[rv a1, rv a2, .unset] [(.ref a1)]))
  refine own_st (fun _ k => XS.aloadN X.here hx rfl (hb hby own_d11_1) rfl rfl  k) ?_
  show own_Goes p e below s _ _ (T.setTop (mkF m 2 #[rv a1, rv a2, .unset] [(.ref a2), (.ref a1)]))
  by_cases c101 : a1 = a2
  · refine own_st (fun _ k => Jvm.RoadKit.acmp (g := (mkF m 2 #[rv a1, rv a2, .unset] [(.ref a2), (.ref a1)])) X hx rfl rfl rfl (pc0 := 2) (pc' := 5) (same := true) rfl (hb hby own_d11_2) rfl (decide_eq_true (congrArg Value.ref c101)) (by decide) (by decide) k) ?_
    show own_Goes p e below s _ _ (T.setTop (mkF m 5 #[rv a1, rv a2, .unset] []))
    refine own_st (fun _ k => XS.iconst X.here hx rfl (hb hby own_d11_5) k) ?_
    show own_Goes p e below s _ _ (T.setTop (mkF m 6 #[rv a1, rv a2, .unset] [(.int (1 : Int32))]))
    exact own_retN X hx hlk (1 : Int32) hret (Or.inl rfl) rfl (hb hby own_d11_6) (by decide) (by decide) ⟨(1 : Int32), rfl, own_b1 (own_Str.uniq Y1 Y2 c101), N0, e0⟩
  · refine own_st (fun _ k => Jvm.RoadKit.acmp (g := (mkF m 2 #[rv a1, rv a2, .unset] [(.ref a2), (.ref a1)])) X hx rfl rfl rfl (pc0 := 2) (pc' := 7) (same := false) rfl (hb hby own_d11_2) rfl (decide_eq_false fun q => c101 (Value.ref.inj q)) (by decide) (by decide) k) ?_
    show own_Goes p e below s _ _ (T.setTop (mkF m 7 #[rv a1, rv a2, .unset] []))
    refine own_st (fun _ k => XS.aloadN X.here hx rfl (hb hby own_d11_7) rfl rfl  k) ?_
    show own_Goes p e below s _ _ (T.setTop (mkF m 8 #[rv a1, rv a2, .unset] [(.ref a2)]))
    obtain ⟨T102, X102, e102, st102⟩ := instY X hx hZ hown (hw _ (List.mem_of_getElem? (i := 63) rfl)) e0 (Ins.self E2) (g := (mkF m 8 #[rv a1, rv a2, .unset] [(.ref a2)])) rfl rfl (hb hby own_d11_8)
    refine own_st st102 ?_
    show own_Goes p e below s _ _ (T102.setTop (mkF m 11 #[rv a1, rv a2, .unset] [(.int (1 : Int32))]))
    refine own_st (fun _ k => XS.ifNo X102.here hx rfl (hb hby own_d11_11) rfl ((if0 _ _).trans (feq (by decide : ¬ ((1 : Int32) = (0 : Int32)))).1) k) ?_
    show own_Goes p e below s _ _ (T102.setTop (mkF m 14 #[rv a1, rv a2, .unset] []))
    refine own_st (fun _ k => XS.aloadN X102.here hx rfl (hb hby own_d11_14) rfl rfl  k) ?_
    show own_Goes p e below s _ _ (T102.setTop (mkF m 15 #[rv a1, rv a2, .unset] [(.ref a2)]))
    obtain ⟨T103, X103, e103, st103⟩ := castY X102 hx hZ hown (hw _ (List.mem_of_getElem? (i := 63) rfl)) e102 (Ins.self E2) (g := (mkF m 15 #[rv a1, rv a2, .unset] [(.ref a2)])) rfl rfl (hb hby own_d11_15)
    refine own_st st103 ?_
    show own_Goes p e below s _ _ (T103.setTop (mkF m 18 #[rv a1, rv a2, .unset] [(.ref a2)]))
    refine own_st (fun _ k => XS.astoreN X103.here hx rfl (hb hby own_d11_18) rfl rfl (l' := #[rv a1, rv a2, rv a2]) rfl k) ?_
    show own_Goes p e below s _ _ (T103.setTop (mkF m 19 #[rv a1, rv a2, rv a2] []))
    obtain ⟨T104, X104, e104, st104⟩ := getS2 X103 hx hZ hown (host := "") (Or.inl (hw _ (List.mem_of_getElem? (i := 29) rfl))) Via.refl e103 S1 (g := (mkF m 19 #[rv a1, rv a2, rv a2] [])) rfl (hb hby own_d11_19)
    refine own_st st104 ?_
    show own_Goes p e below s _ _ (T104.setTop (mkF m 22 #[rv a1, rv a2, rv a2] [(.int cs)]))
    refine own_st (fun _ k => XS.ifNo X104.here hx rfl (hb hby own_d11_22) rfl ((if0 _ _).trans (feq hcs).1) k) ?_
    show own_Goes p e below s _ _ (T104.setTop (mkF m 25 #[rv a1, rv a2, rv a2] []))
    refine own_st (fun _ k => XS.aloadN X104.here hx rfl (hb hby own_d11_25) rfl rfl  k) ?_
    show own_Goes p e below s _ _ (T104.setTop (mkF m 26 #[rv a1, rv a2, rv a2] [(.ref a1)]))
    obtain ⟨T105, X105, e105, st105⟩ := getF X104 hx hZ hown (host := "") (Or.inl (hw _ (List.mem_of_getElem? (i := 28) rfl))) Via.refl e104 C1 (g := (mkF m 26 #[rv a1, rv a2, rv a2] [(.ref a1)])) rfl rfl (hb hby own_d11_26)
    refine own_st st105 ?_
    show own_Goes p e below s _ _ (T105.setTop (mkF m 29 #[rv a1, rv a2, rv a2] [(.int (0 : Int32))]))
    refine own_st (fun _ k => XS.aloadN X105.here hx rfl (hb hby own_d11_29) rfl rfl  k) ?_
    show own_Goes p e below s _ _ (T105.setTop (mkF m 30 #[rv a1, rv a2, rv a2] [(.ref a2), (.int (0 : Int32))]))
    obtain ⟨T106, X106, e106, st106⟩ := getF X105 hx hZ hown (host := "") (Or.inl (hw _ (List.mem_of_getElem? (i := 28) rfl))) Via.refl e105 C2 (g := (mkF m 30 #[rv a1, rv a2, rv a2] [(.ref a2), (.int (0 : Int32))])) rfl rfl (hb hby own_d11_30)
    refine own_st st106 ?_
    show own_Goes p e below s _ _ (T106.setTop (mkF m 33 #[rv a1, rv a2, rv a2] [(.int (0 : Int32)), (.int (0 : Int32))]))
    refine own_st (fun _ k => XS.icmpNo X106.here hx rfl (hb hby own_d11_33) rfl (teq (by decide : (0 : Int32) = (0 : Int32))).2 k) ?_
    show own_Goes p e below s _ _ (T106.setTop (mkF m 36 #[rv a1, rv a2, rv a2] []))
    refine own_st (fun _ k => XS.aloadN X106.here hx rfl (hb hby own_d11_36) rfl rfl  k) ?_
    show own_Goes p e below s _ _ (T106.setTop (mkF m 37 #[rv a1, rv a2, rv a2] [(.ref a1)]))
    obtain ⟨T107, X107, e107, st107⟩ := getF X106 hx hZ hown (host := "") (Or.inl (hw _ (List.mem_of_getElem? (i := 27) rfl))) Via.refl e106 F1 (g := (mkF m 37 #[rv a1, rv a2, rv a2] [(.ref a1)])) rfl rfl (hb hby own_d11_37)
    refine own_st st107 ?_
    show own_Goes p e below s _ _ (T107.setTop (mkF m 40 #[rv a1, rv a2, rv a2] [(.ref b1)]))
    refine own_st (fun _ k => XS.aloadN X107.here hx rfl (hb hby own_d11_40) rfl rfl  k) ?_
    show own_Goes p e below s _ _ (T107.setTop (mkF m 41 #[rv a1, rv a2, rv a2] [(.ref a2), (.ref b1)]))
    obtain ⟨T108, X108, e108, st108⟩ := getF X107 hx hZ hown (host := "") (Or.inl (hw _ (List.mem_of_getElem? (i := 27) rfl))) Via.refl e107 F2 (g := (mkF m 41 #[rv a1, rv a2, rv a2] [(.ref a2), (.ref b1)])) rfl rfl (hb hby own_d11_41)
    refine own_st st108 ?_
    show own_Goes p e below s _ _ (T108.setTop (mkF m 44 #[rv a1, rv a2, rv a2] [(.ref b2), (.ref b1)]))
    obtain ⟨v109, T109, L109, X109, Q109, st109⟩ := own_callS X108 hx hZ (y := (⟨"java/lang/StringLatin1", "equals", "([B[B)Z"⟩ : MethodName)) hown (hw _ (List.mem_of_getElem? (i := 64) rfl)) (hw _ (List.mem_of_getElem? (i := 65) rfl)) (hw _ (List.mem_of_getElem? (i := 66) rfl)) (hw _ (List.mem_of_getElem? (i := 67) rfl)) (by decide) (W := 0) (rest := []) (argsL := [(.ref b1), (.ref b2)]) (rmLE l Z a0 hw [] b1 b2 n1 n2 g1 g2 h0 n0 (by omega) V1 V2 hn1 hn2) (by decide) (by decide) (by decide) (by decide) e108 own_pd5 rfl (g := (mkF m 44 #[rv a1, rv a2, rv a2] [(.ref b2), (.ref b1)])) rfl (by rw [hml]; rfl) rfl (by show 2 * 0 + _ ≤ _; exact Nat.le_of_eq rfl) (hb hby own_d11_44)
    obtain ⟨r109, rfl, hr109, N109q, e109⟩ := Q109
    have o109 := own_01 hr109
    have N109 := Fr.app N0 N109q
    refine own_st st109 ?_
    show own_Goes p e below s _ _ (T109.setTop (mkF m 47 #[rv a1, rv a2, rv a2] [(.int r109)]))
    by_cases c110 : r109 = (0 : Int32)
    · have c110i : r109.toInt = 0 := own_i_eq c110
      refine own_st (fun _ k => XS.ifYes X109.here hx rfl (pc0 := 47) (pc' := 54) rfl (hb hby own_d11_47) rfl ((if0 _ _).trans (teq c110).1) (by decide) (by decide) k) ?_
      show own_Goes p e below s _ _ (T109.setTop (mkF m 54 #[rv a1, rv a2, rv a2] []))
      refine own_st (fun _ k => XS.iconst X109.here hx rfl (hb hby own_d11_54) k) ?_
      show own_Goes p e below s _ _ (T109.setTop (mkF m 55 #[rv a1, rv a2, rv a2] [(.int (0 : Int32))]))
      exact own_retN X109 hx hlk (0 : Int32) hret (Or.inl rfl) rfl (hb hby own_d11_55) (by decide) (by decide) ⟨(0 : Int32), rfl, own_b0 (fun q => by have := (own_iff hr109).mpr q; omega), N109, e109⟩
    · have c110i : ¬ r109.toInt = 0 := own_i_ne c110
      refine own_st (fun _ k => XS.ifNo X109.here hx rfl (hb hby own_d11_47) rfl ((if0 _ _).trans (feq c110).1) k) ?_
      show own_Goes p e below s _ _ (T109.setTop (mkF m 50 #[rv a1, rv a2, rv a2] []))
      refine own_st (fun _ k => XS.iconst X109.here hx rfl (hb hby own_d11_50) k) ?_
      show own_Goes p e below s _ _ (T109.setTop (mkF m 51 #[rv a1, rv a2, rv a2] [(.int (1 : Int32))]))
      refine own_st (fun _ k => XS.goto X109.here hx rfl (pc0 := 51) (pc' := 55) rfl (hb hby own_d11_51) (by decide) (by decide) k) ?_
      show own_Goes p e below s _ _ (T109.setTop (mkF m 55 #[rv a1, rv a2, rv a2] [(.int (1 : Int32))]))
      exact own_retN X109 hx hlk (1 : Int32) hret (Or.inl rfl) rfl (hb hby own_d11_55) (by decide) (by decide) ⟨(1 : Int32), rfl, own_b1 ((own_iff hr109).mp (by omega)), N109, e109⟩
theorem own_pn10 : plainFor (⟨"com/example/brigid/brigid/trustcenter/Identifier", "equals", "(Ljava/lang/Object;)Z"⟩ : MethodName) = true := by first | exact plainFor_of_name (by simp [plainName, overriddenIn]; done) | decide +kernel
theorem own_d10_0 : decode prog_13_method_4_code 0 = .ok (.aload_n 1, 1) := by decide +kernel
theorem own_d10_1 : decode prog_13_method_4_code 1 = .ok (.instanceof 8, 3) := by decide +kernel
theorem own_d10_4 : decode prog_13_method_4_code 4 = .ok (.ifCond .eq 40, 3) := by decide +kernel
theorem own_d10_44 : decode prog_13_method_4_code 44 = .ok (.iconst 0, 1) := by decide +kernel
theorem own_d10_45 : decode prog_13_method_4_code 45 = .ok (.ireturn, 1) := by decide +kernel
theorem own_ef_rmEN (m : MethodId) (a1 : Nat) : entryFrame m #[(.ref a1), .null] 3 = mkF m 0 #[rv a1, .val .null, .unset] [] := by first | (simp [entryFrame, mkF, argsToLocals, Value.category, maxLocals]; done) | rfl
abbrev own_Q_rmEN (Z : State) (a1 : Nat) (h0 : Heap) (n0 : Nat) (v : Option Value) (h : Heap) (L : List Loc) : Prop := v = some (.int (0 : Int32)) ∧ Fr n0 L ∧ h = h0
set_option maxRecDepth 65536 in
set_option maxHeartbeats 40000000 in
theorem rmEN (l : Launch) (Z : State) (a0 : Array Value) (hw : ∀ d ∈ tables_1, d.before a0 Z = true) (ws : List Jvm.Cond) (a1 : Nat) (h0 : Heap) (n0 : Nat) (Z0 : n0 ≤ h0.size) :
    MetFree l (⟨"com/example/brigid/brigid/trustcenter/Identifier", "equals", "(Ljava/lang/Object;)Z"⟩ : MethodName) (head1 (Jvm.Cond.code (⟨"com/example/brigid/brigid/trustcenter/Identifier", "equals", "(Ljava/lang/Object;)Z"⟩ : MethodName) prog_13_method_4_code 3 (some .boolean) :: ws) ({ frames := 0, cells := 0, slots := 0, locals := 0 } : Room)) (fun a U => a = #[(.ref a1), .null] ∧ Z.Warmed39 U.vm ∧ U.heap = h0) (fun _ _ _ _ _ => True) (fun _ U o U' => ∃ v L, o = .returned v ∧ own_Q_rmEN Z a1 h0 n0 v U'.heap L ∧ FrameEnd U o U' L ({ frames := 0, cells := 0, slots := 0, locals := 0 } : Room).cells ({ frames := 0, cells := 0, slots := 0, locals := 0 } : Room).slots) := by
  refine own_enter (Q := fun v h L => own_Q_rmEN Z a1 h0 n0 v h L) (F := fun m => mkF m 0 #[rv a1, .val .null, .unset] []) own_pn10 (fun m => own_ef_rmEN m a1) ?_
  intro p e s m below meth c T X hx hby hml hret hlk hnm hown hZ e0
  show own_Goes p e below s _ _ (T.setTop (mkF m 0 #[rv a1, .val .null, .unset] []))
  have N0 := Fr.nil n0
  refine own_st (fun _ k => XS.aloadN X.here hx rfl (hb hby own_d10_0) rfl rfl  k) ?_
  show own_Goes p e below s _ _ (T.setTop (mkF m 1 #[rv a1, .val .null, .unset] [.null]))
  refine own_st (fun _ k => X.instanceofNull hx (g := (mkF m 1 #[rv a1, .val .null, .unset] [.null])) rfl rfl (hb hby own_d10_1) _ k) ?_
  show own_Goes p e below s _ _ (T.setTop (mkF m 4 #[rv a1, .val .null, .unset] [(.int (0 : Int32))]))
  refine own_st (fun _ k => XS.ifYes X.here hx rfl (pc0 := 4) (pc' := 44) rfl (hb hby own_d10_4) rfl ((if0 _ _).trans (teq (by decide : (0 : Int32) = (0 : Int32))).1) (by decide) (by decide) k) ?_
  show own_Goes p e below s _ _ (T.setTop (mkF m 44 #[rv a1, .val .null, .unset] []))
  refine own_st (fun _ k => XS.iconst X.here hx rfl (hb hby own_d10_44) k) ?_
  show own_Goes p e below s _ _ (T.setTop (mkF m 45 #[rv a1, .val .null, .unset] [(.int (0 : Int32))]))
  exact own_retN X hx hlk (0 : Int32) hret (Or.inl rfl) rfl (hb hby own_d10_45) (by decide) (by decide) ⟨rfl, N0, e0⟩
theorem own_ef_rmES (m : MethodId) (a1 : Nat) (a2 : Nat) : entryFrame m #[(.ref a1), (.ref a2)] 3 = mkF m 0 #[rv a1, rv a2, .unset] [] := by first | (simp [entryFrame, mkF, argsToLocals, Value.category, maxLocals]; done) | rfl
abbrev own_Q_rmES (Z : State) (a1 : Nat) (a2 : Nat) (h0 : Heap) (n0 : Nat) (v : Option Value) (h : Heap) (L : List Loc) : Prop := v = some (.int (0 : Int32)) ∧ Fr n0 L ∧ h = h0
set_option maxRecDepth 65536 in
set_option maxHeartbeats 40000000 in
theorem rmES (l : Launch) (Z : State) (a0 : Array Value) (hw : ∀ d ∈ tables_1, d.before a0 Z = true) (ws : List Jvm.Cond) (a1 : Nat) (a2 : Nat) (h0 : Heap) (n0 : Nat) (Z0 : n0 ≤ h0.size) (E2 : Exa Z h0 a2 "java/lang/String") :
    MetFree l (⟨"com/example/brigid/brigid/trustcenter/Identifier", "equals", "(Ljava/lang/Object;)Z"⟩ : MethodName) (head1 (Jvm.Cond.code (⟨"com/example/brigid/brigid/trustcenter/Identifier", "equals", "(Ljava/lang/Object;)Z"⟩ : MethodName) prog_13_method_4_code 3 (some .boolean) :: ws) ({ frames := 0, cells := 0, slots := 0, locals := 0 } : Room)) (fun a U => a = #[(.ref a1), (.ref a2)] ∧ Z.Warmed39 U.vm ∧ U.heap = h0) (fun _ _ _ _ _ => True) (fun _ U o U' => ∃ v L, o = .returned v ∧ own_Q_rmES Z a1 a2 h0 n0 v U'.heap L ∧ FrameEnd U o U' L ({ frames := 0, cells := 0, slots := 0, locals := 0 } : Room).cells ({ frames := 0, cells := 0, slots := 0, locals := 0 } : Room).slots) := by
  refine own_enter (Q := fun v h L => own_Q_rmES Z a1 a2 h0 n0 v h L) (F := fun m => mkF m 0 #[rv a1, rv a2, .unset] []) own_pn10 (fun m => own_ef_rmES m a1 a2) ?_
  intro p e s m below meth c T X hx hby hml hret hlk hnm hown hZ e0
  show own_Goes p e below s _ _ (T.setTop (mkF m 0 #[rv a1, rv a2, .unset] []))
  have N0 := Fr.nil n0
  refine own_st (fun _ k => XS.aloadN X.here hx rfl (hb hby own_d10_0) rfl rfl  k) ?_
  show own_Goes p e below s _ _ (T.setTop (mkF m 1 #[rv a1, rv a2, .unset] [(.ref a2)]))
  obtain ⟨T101, X101, e101, st101⟩ := instNo X hx hZ hown (hw _ (List.mem_of_getElem? (i := 56) rfl)) e0 E2 (own_no (hw _ (List.mem_of_getElem? (i := 68) rfl)) (hw _ (List.mem_of_getElem? (i := 69) rfl)) (hw _ (List.mem_of_getElem? (i := 1) rfl)) (by decide) (by decide)) (g := (mkF m 1 #[rv a1, rv a2, .unset] [(.ref a2)])) rfl rfl (hb hby own_d10_1)
  refine own_st st101 ?_
  show own_Goes p e below s _ _ (T101.setTop (mkF m 4 #[rv a1, rv a2, .unset] [(.int (0 : Int32))]))
  refine own_st (fun _ k => XS.ifYes X101.here hx rfl (pc0 := 4) (pc' := 44) rfl (hb hby own_d10_4) rfl ((if0 _ _).trans (teq (by decide : (0 : Int32) = (0 : Int32))).1) (by decide) (by decide) k) ?_
  show own_Goes p e below s _ _ (T101.setTop (mkF m 44 #[rv a1, rv a2, .unset] []))
  refine own_st (fun _ k => XS.iconst X101.here hx rfl (hb hby own_d10_44) k) ?_
  show own_Goes p e below s _ _ (T101.setTop (mkF m 45 #[rv a1, rv a2, .unset] [(.int (0 : Int32))]))
  exact own_retN X101 hx hlk (0 : Int32) hret (Or.inl rfl) rfl (hb hby own_d10_45) (by decide) (by decide) ⟨rfl, N0, e101⟩
theorem own_d10_7 : decode prog_13_method_4_code 7 = .ok (.aload_n 1, 1) := by decide +kernel
theorem own_d10_8 : decode prog_13_method_4_code 8 = .ok (.checkcast 8, 3) := by decide +kernel
theorem own_d10_11 : decode prog_13_method_4_code 11 = .ok (.astore_n 2, 1) := by decide +kernel
theorem own_d10_12 : decode prog_13_method_4_code 12 = .ok (.aload_n 0, 1) := by decide +kernel
theorem own_d10_13 : decode prog_13_method_4_code 13 = .ok (.getfield 7, 3) := by decide +kernel
theorem own_d10_16 : decode prog_13_method_4_code 16 = .ok (.aload_n 2, 1) := by decide +kernel
theorem own_d10_17 : decode prog_13_method_4_code 17 = .ok (.getfield 7, 3) := by decide +kernel
theorem own_d10_20 : decode prog_13_method_4_code 20 = .ok (.invokevirtual 16, 3) := by decide +kernel
theorem own_pd6 : parseMethodDescriptor "(Ljava/lang/Object;)Z" = some ⟨[(.object "java/lang/Object")], some .boolean⟩ := by decide +kernel
theorem own_d10_23 : decode prog_13_method_4_code 23 = .ok (.ifCond .eq 21, 3) := by decide +kernel
theorem own_d10_26 : decode prog_13_method_4_code 26 = .ok (.aload_n 0, 1) := by decide +kernel
theorem own_d10_27 : decode prog_13_method_4_code 27 = .ok (.getfield 13, 3) := by decide +kernel
theorem own_d10_30 : decode prog_13_method_4_code 30 = .ok (.aload_n 2, 1) := by decide +kernel
theorem own_d10_31 : decode prog_13_method_4_code 31 = .ok (.getfield 13, 3) := by decide +kernel
theorem own_d10_34 : decode prog_13_method_4_code 34 = .ok (.invokevirtual 16, 3) := by decide +kernel
theorem own_d10_37 : decode prog_13_method_4_code 37 = .ok (.ifCond .eq 7, 3) := by decide +kernel
theorem own_d10_40 : decode prog_13_method_4_code 40 = .ok (.iconst 1, 1) := by decide +kernel
theorem own_d10_41 : decode prog_13_method_4_code 41 = .ok (.goto 4, 3) := by decide +kernel
theorem own_ef_rmEI (m : MethodId) (a1 : Nat) (a2 : Nat) : entryFrame m #[(.ref a1), (.ref a2)] 3 = mkF m 0 #[rv a1, rv a2, .unset] [] := by first | (simp [entryFrame, mkF, argsToLocals, Value.category, maxLocals]; done) | rfl
abbrev own_Q_rmEI (Z : State) (a1 : Nat) (a2 : Nat) (s1 : Nat) (t1 : Nat) (s2 : Nat) (t2 : Nat) (ns1 : Nat) (nt1 : Nat) (ns2 : Nat) (nt2 : Nat) (gs1 : Nat → Int32) (gt1 : Nat → Int32) (gs2 : Nat → Int32) (gt2 : Nat → Int32) (cs : Int32) (h0 : Heap) (n0 : Nat) (v : Option Value) (h : Heap) (L : List Loc) : Prop := ∃ r : Int32, v = some (.int r) ∧ ((r.toInt = 1 ∧ (own_same ns1 ns2 gs1 gs2 ∧ own_same nt1 nt2 gt1 gt2)) ∨ (r.toInt = 0 ∧ ¬ (own_same ns1 ns2 gs1 gs2 ∧ own_same nt1 nt2 gt1 gt2))) ∧ Fr n0 L ∧ h = h0
set_option maxRecDepth 65536 in
set_option maxHeartbeats 40000000 in
theorem rmEI (l : Launch) (Z : State) (a0 : Array Value) (hw : ∀ d ∈ tables_1, d.before a0 Z = true) (ws : List Jvm.Cond) (a1 : Nat) (a2 : Nat) (s1 : Nat) (t1 : Nat) (s2 : Nat) (t2 : Nat) (ns1 : Nat) (nt1 : Nat) (ns2 : Nat) (nt2 : Nat) (gs1 : Nat → Int32) (gt1 : Nat → Int32) (gs2 : Nat → Int32) (gt2 : Nat → Int32) (cs : Int32) (h0 : Heap) (n0 : Nat) (Z0 : n0 ≤ h0.size) (E2 : Exa Z h0 a2 "com/example/brigid/brigid/trustcenter/Identifier") (Fs1 : Fld Z h0 a1 "com/example/brigid/brigid/trustcenter/Identifier" "domain" "Ljava/lang/String;" (.ref s1)) (Ft1 : Fld Z h0 a1 "com/example/brigid/brigid/trustcenter/Identifier" "id" "Ljava/lang/String;" (.ref t1)) (Fs2 : Fld Z h0 a2 "com/example/brigid/brigid/trustcenter/Identifier" "domain" "Ljava/lang/String;" (.ref s2)) (Ft2 : Fld Z h0 a2 "com/example/brigid/brigid/trustcenter/Identifier" "id" "Ljava/lang/String;" (.ref t2)) (Ys1 : own_Str Z h0 s1 ns1 gs1) (Yt1 : own_Str Z h0 t1 nt1 gt1) (Ys2 : own_Str Z h0 s2 ns2 gs2) (Yt2 : own_Str Z h0 t2 nt2 gt2) (hns1 : ns1 = 0 ∨ ns1 = 1 ∨ ns1 = 2 ∨ ns1 = 3) (hnt1 : nt1 = 0 ∨ nt1 = 1 ∨ nt1 = 2 ∨ nt1 = 3) (hns2 : ns2 = 0 ∨ ns2 = 1 ∨ ns2 = 2 ∨ ns2 = 3) (hnt2 : nt2 = 0 ∨ nt2 = 1 ∨ nt2 = 2 ∨ nt2 = 3) (S1 : Sta Z h0 "java/lang/String" "COMPACT_STRINGS" "Z" (.int cs)) (hcs : ¬ cs = (0 : Int32)) :
    MetFree l (⟨"com/example/brigid/brigid/trustcenter/Identifier", "equals", "(Ljava/lang/Object;)Z"⟩ : MethodName) (head1 (Jvm.Cond.code (⟨"com/example/brigid/brigid/trustcenter/Identifier", "equals", "(Ljava/lang/Object;)Z"⟩ : MethodName) prog_13_method_4_code 3 (some .boolean) :: ws) ({ frames := 2, cells := 0, slots := 0, locals := 29 } : Room)) (fun a U => a = #[(.ref a1), (.ref a2)] ∧ Z.Warmed39 U.vm ∧ U.heap = h0) (fun _ _ _ _ _ => True) (fun _ U o U' => ∃ v L, o = .returned v ∧ own_Q_rmEI Z a1 a2 s1 t1 s2 t2 ns1 nt1 ns2 nt2 gs1 gt1 gs2 gt2 cs h0 n0 v U'.heap L ∧ FrameEnd U o U' L ({ frames := 2, cells := 0, slots := 0, locals := 29 } : Room).cells ({ frames := 2, cells := 0, slots := 0, locals := 29 } : Room).slots) := by
  refine own_enter (Q := fun v h L => own_Q_rmEI Z a1 a2 s1 t1 s2 t2 ns1 nt1 ns2 nt2 gs1 gt1 gs2 gt2 cs h0 n0 v h L) (F := fun m => mkF m 0 #[rv a1, rv a2, .unset] []) own_pn10 (fun m => own_ef_rmEI m a1 a2) ?_
  intro p e s m below meth c T X hx hby hml hret hlk hnm hown hZ e0
  show own_Goes p e below s _ _ (T.setTop (mkF m 0 #[rv a1, rv a2, .unset] []))
  have N0 := Fr.nil n0
  refine own_st (fun _ k => XS.aloadN X.here hx rfl (hb hby own_d10_0) rfl rfl  k) ?_
  show own_Goes p e below s _ _ (T.setTop (mkF m 1 #[rv a1, rv a2, .unset] [(.ref a2)]))
  obtain ⟨T101, X101, e101, st101⟩ := instY X hx hZ hown (hw _ (List.mem_of_getElem? (i := 56) rfl)) e0 (Ins.self E2) (g := (mkF m 1 #[rv a1, rv a2, .unset] [(.ref a2)])) rfl rfl (hb hby own_d10_1)
  refine own_st st101 ?_
  show own_Goes p e below s _ _ (T101.setTop (mkF m 4 #[rv a1, rv a2, .unset] [(.int (1 : Int32))]))
  refine own_st (fun _ k => XS.ifNo X101.here hx rfl (hb hby own_d10_4) rfl ((if0 _ _).trans (feq (by decide : ¬ ((1 : Int32) = (0 : Int32)))).1) k) ?_
  show own_Goes p e below s _ _ (T101.setTop (mkF m 7 #[rv a1, rv a2, .unset] []))
  refine own_st (fun _ k => XS.aloadN X101.here hx rfl (hb hby own_d10_7) rfl rfl  k) ?_
  show own_Goes p e below s _ _ (T101.setTop (mkF m 8 #[rv a1, rv a2, .unset] [(.ref a2)]))
  obtain ⟨T102, X102, e102, st102⟩ := castY X101 hx hZ hown (hw _ (List.mem_of_getElem? (i := 56) rfl)) e101 (Ins.self E2) (g := (mkF m 8 #[rv a1, rv a2, .unset] [(.ref a2)])) rfl rfl (hb hby own_d10_8)
  refine own_st st102 ?_
  show own_Goes p e below s _ _ (T102.setTop (mkF m 11 #[rv a1, rv a2, .unset] [(.ref a2)]))
  refine own_st (fun _ k => XS.astoreN X102.here hx rfl (hb hby own_d10_11) rfl rfl (l' := #[rv a1, rv a2, rv a2]) rfl k) ?_
  show own_Goes p e below s _ _ (T102.setTop (mkF m 12 #[rv a1, rv a2, rv a2] []))
  refine own_st (fun _ k => XS.aloadN X102.here hx rfl (hb hby own_d10_12) rfl rfl  k) ?_
  show own_Goes p e below s _ _ (T102.setTop (mkF m 13 #[rv a1, rv a2, rv a2] [(.ref a1)]))
  obtain ⟨T103, X103, e103, st103⟩ := getF X102 hx hZ hown (host := "") (Or.inl (hw _ (List.mem_of_getElem? (i := 44) rfl))) Via.refl e102 Fs1 (g := (mkF m 13 #[rv a1, rv a2, rv a2] [(.ref a1)])) rfl rfl (hb hby own_d10_13)
  refine own_st st103 ?_
  show own_Goes p e below s _ _ (T103.setTop (mkF m 16 #[rv a1, rv a2, rv a2] [(.ref s1)]))
  refine own_st (fun _ k => XS.aloadN X103.here hx rfl (hb hby own_d10_16) rfl rfl  k) ?_
  show own_Goes p e below s _ _ (T103.setTop (mkF m 17 #[rv a1, rv a2, rv a2] [(.ref a2), (.ref s1)]))
  obtain ⟨T104, X104, e104, st104⟩ := getF X103 hx hZ hown (host := "") (Or.inl (hw _ (List.mem_of_getElem? (i := 44) rfl))) Via.refl e103 Fs2 (g := (mkF m 17 #[rv a1, rv a2, rv a2] [(.ref a2), (.ref s1)])) rfl rfl (hb hby own_d10_17)
  refine own_st st104 ?_
  show own_Goes p e below s _ _ (T104.setTop (mkF m 20 #[rv a1, rv a2, rv a2] [(.ref s2), (.ref s1)]))
  obtain ⟨v105, T105, L105, X105, Q105, st105⟩ := own_callV X104 hx hZ (C := "java/lang/String") (y := (⟨"java/lang/String", "equals", "(Ljava/lang/Object;)Z"⟩ : MethodName)) hown (hw _ (List.mem_of_getElem? (i := 58) rfl)) (hw _ (List.mem_of_getElem? (i := 59) rfl)) (hw _ (List.mem_of_getElem? (i := 61) rfl)) (hw _ (List.mem_of_getElem? (i := 60) rfl)) (hw _ (List.mem_of_getElem? (i := 9) rfl)) (hw _ (List.mem_of_getElem? (i := 62) rfl)) (by decide) (W := 0) (rest := []) (argsL := [(.ref s2)]) (a := s1) (rmEqS l Z a0 hw [] s1 s2 ns1 ns2 gs1 gs2 cs h0 n0 (by omega) Ys1 Ys2 S1 hcs hns1 hns2) (by decide) (by decide) (by decide) (by decide) e104 Ys1.1 own_pd6 rfl (g := (mkF m 20 #[rv a1, rv a2, rv a2] [(.ref s2), (.ref s1)])) rfl (by rw [hml]; rfl) rfl (by show 2 * 0 + _ ≤ _; exact Nat.le_of_eq rfl) (hb hby own_d10_20)
  obtain ⟨r105, rfl, hr105, N105q, e105⟩ := Q105
  have o105 := own_01 hr105
  have N105 := Fr.app N0 N105q
  refine own_st st105 ?_
  show own_Goes p e below s _ _ (T105.setTop (mkF m 23 #[rv a1, rv a2, rv a2] [(.int r105)]))
  by_cases c106 : r105 = (0 : Int32)
  · have c106i : r105.toInt = 0 := own_i_eq c106
    refine own_st (fun _ k => XS.ifYes X105.here hx rfl (pc0 := 23) (pc' := 44) rfl (hb hby own_d10_23) rfl ((if0 _ _).trans (teq c106).1) (by decide) (by decide) k) ?_
    show own_Goes p e below s _ _ (T105.setTop (mkF m 44 #[rv a1, rv a2, rv a2] []))
    refine own_st (fun _ k => XS.iconst X105.here hx rfl (hb hby own_d10_44) k) ?_
    show own_Goes p e below s _ _ (T105.setTop (mkF m 45 #[rv a1, rv a2, rv a2] [(.int (0 : Int32))]))
    exact own_retN X105 hx hlk (0 : Int32) hret (Or.inl rfl) rfl (hb hby own_d10_45) (by decide) (by decide) ⟨(0 : Int32), rfl, own_b0 (fun q => by have := (own_iff hr105).mpr q.1; omega), N105, e105⟩
  · have c106i : ¬ r105.toInt = 0 := own_i_ne c106
    refine own_st (fun _ k => XS.ifNo X105.here hx rfl (hb hby own_d10_23) rfl ((if0 _ _).trans (feq c106).1) k) ?_
    show own_Goes p e below s _ _ (T105.setTop (mkF m 26 #[rv a1, rv a2, rv a2] []))
    refine own_st (fun _ k => XS.aloadN X105.here hx rfl (hb hby own_d10_26) rfl rfl  k) ?_
    show own_Goes p e below s _ _ (T105.setTop (mkF m 27 #[rv a1, rv a2, rv a2] [(.ref a1)]))
    obtain ⟨T107, X107, e107, st107⟩ := getF X105 hx hZ hown (host := "") (Or.inl (hw _ (List.mem_of_getElem? (i := 46) rfl))) Via.refl e105 Ft1 (g := (mkF m 27 #[rv a1, rv a2, rv a2] [(.ref a1)])) rfl rfl (hb hby own_d10_27)
    refine own_st st107 ?_
    show own_Goes p e below s _ _ (T107.setTop (mkF m 30 #[rv a1, rv a2, rv a2] [(.ref t1)]))
    refine own_st (fun _ k => XS.aloadN X107.here hx rfl (hb hby own_d10_30) rfl rfl  k) ?_
    show own_Goes p e below s _ _ (T107.setTop (mkF m 31 #[rv a1, rv a2, rv a2] [(.ref a2), (.ref t1)]))
    obtain ⟨T108, X108, e108, st108⟩ := getF X107 hx hZ hown (host := "") (Or.inl (hw _ (List.mem_of_getElem? (i := 46) rfl))) Via.refl e107 Ft2 (g := (mkF m 31 #[rv a1, rv a2, rv a2] [(.ref a2), (.ref t1)])) rfl rfl (hb hby own_d10_31)
    refine own_st st108 ?_
    show own_Goes p e below s _ _ (T108.setTop (mkF m 34 #[rv a1, rv a2, rv a2] [(.ref t2), (.ref t1)]))
    obtain ⟨v109, T109, L109, X109, Q109, st109⟩ := own_callV X108 hx hZ (C := "java/lang/String") (y := (⟨"java/lang/String", "equals", "(Ljava/lang/Object;)Z"⟩ : MethodName)) hown (hw _ (List.mem_of_getElem? (i := 58) rfl)) (hw _ (List.mem_of_getElem? (i := 59) rfl)) (hw _ (List.mem_of_getElem? (i := 61) rfl)) (hw _ (List.mem_of_getElem? (i := 60) rfl)) (hw _ (List.mem_of_getElem? (i := 9) rfl)) (hw _ (List.mem_of_getElem? (i := 62) rfl)) (by decide) (W := 0) (rest := []) (argsL := [(.ref t2)]) (a := t1) (rmEqS l Z a0 hw [] t1 t2 nt1 nt2 gt1 gt2 cs h0 n0 (by omega) Yt1 Yt2 S1 hcs hnt1 hnt2) (by decide) (by decide) (by decide) (by decide) e108 Yt1.1 own_pd6 rfl (g := (mkF m 34 #[rv a1, rv a2, rv a2] [(.ref t2), (.ref t1)])) rfl (by rw [hml]; rfl) rfl (by show 2 * 0 + _ ≤ _; exact Nat.le_of_eq rfl) (hb hby own_d10_34)
    obtain ⟨r109, rfl, hr109, N109q, e109⟩ := Q109
    have o109 := own_01 hr109
    have N109 := Fr.app N105 N109q
    refine own_st st109 ?_
    show own_Goes p e below s _ _ (T109.setTop (mkF m 37 #[rv a1, rv a2, rv a2] [(.int r109)]))
    by_cases c110 : r109 = (0 : Int32)
    · have c110i : r109.toInt = 0 := own_i_eq c110
      refine own_st (fun _ k => XS.ifYes X109.here hx rfl (pc0 := 37) (pc' := 44) rfl (hb hby own_d10_37) rfl ((if0 _ _).trans (teq c110).1) (by decide) (by decide) k) ?_
      show own_Goes p e below s _ _ (T109.setTop (mkF m 44 #[rv a1, rv a2, rv a2] []))
      refine own_st (fun _ k => XS.iconst X109.here hx rfl (hb hby own_d10_44) k) ?_
      show own_Goes p e below s _ _ (T109.setTop (mkF m 45 #[rv a1, rv a2, rv a2] [(.int (0 : Int32))]))
      exact own_retN X109 hx hlk (0 : Int32) hret (Or.inl rfl) rfl (hb hby own_d10_45) (by decide) (by decide) ⟨(0 : Int32), rfl, own_b0 (fun q => by have := (own_iff hr109).mpr q.2; omega), N109, e109⟩
    · have c110i : ¬ r109.toInt = 0 := own_i_ne c110
      refine own_st (fun _ k => XS.ifNo X109.here hx rfl (hb hby own_d10_37) rfl ((if0 _ _).trans (feq c110).1) k) ?_
      show own_Goes p e below s _ _ (T109.setTop (mkF m 40 #[rv a1, rv a2, rv a2] []))
      refine own_st (fun _ k => XS.iconst X109.here hx rfl (hb hby own_d10_40) k) ?_
      show own_Goes p e below s _ _ (T109.setTop (mkF m 41 #[rv a1, rv a2, rv a2] [(.int (1 : Int32))]))
      refine own_st (fun _ k => XS.goto X109.here hx rfl (pc0 := 41) (pc' := 45) rfl (hb hby own_d10_41) (by decide) (by decide) k) ?_
      show own_Goes p e below s _ _ (T109.setTop (mkF m 45 #[rv a1, rv a2, rv a2] [(.int (1 : Int32))]))
      exact own_retN X109 hx hlk (1 : Int32) hret (Or.inl rfl) rfl (hb hby own_d10_45) (by decide) (by decide) ⟨(1 : Int32), rfl, own_b1 ⟨(own_iff hr105).mp (by omega), (own_iff hr109).mp (by omega)⟩, N109, e109⟩
theorem own_pn11 : plainFor (⟨"com/example/brigid/brigid/trustcenter/IdentifierEqualsPinLaw", "law", "(IIIII)Z"⟩ : MethodName) = true := by first | exact plainFor_of_name (by simp [plainName, overriddenIn]; done) | decide +kernel
theorem own_pd7 : parseMethodDescriptor "(I)Ljava/lang/String;" = some ⟨[.int], some (.object "java/lang/String")⟩ := by decide +kernel
theorem own_pd8 : parseMethodDescriptor "(Ljava/lang/String;Ljava/lang/String;)V" = some ⟨[(.object "java/lang/String"), (.object "java/lang/String")], none⟩ := by decide +kernel
theorem own_pd9 : parseMethodDescriptor "(II)Z" = some ⟨[.int, .int], some .boolean⟩ := by decide +kernel
theorem own_ef_rm0 (m : MethodId) (p0 : Int32) (p1 : Int32) (p2 : Int32) (p3 : Int32) (p4 : Int32) : entryFrame m #[(.int p0), (.int p1), (.int p2), (.int p3), (.int p4)] maxLocals = mkF m 0 #[iv p0, iv p1, iv p2, iv p3, iv p4, .unset, .unset, .unset, .unset, .unset, .unset] [] := by first | (simp [entryFrame, mkF, argsToLocals, Value.category, maxLocals]; done) | rfl
abbrev own_Q_rm0 (Z : State) (p0 : Int32) (p1 : Int32) (p2 : Int32) (p3 : Int32) (p4 : Int32) (cs : Int32) (h0 : Heap) (n0 : Nat) (v : Option Value) (h : Heap) (vm : Vm) (L : List Loc) : Prop := v = some (.int 1) ∧ Fr n0 L
set_option maxRecDepth 65536 in
set_option maxHeartbeats 40000000 in
theorem rm0 (l : Launch) (Z : State) (a0 : Array Value) (hw : ∀ d ∈ tables_1, d.before a0 Z = true) (ws : List Jvm.Cond) (p0 : Int32) (p1 : Int32) (p2 : Int32) (p3 : Int32) (p4 : Int32) (cs : Int32) (h0 : Heap) (n0 : Nat) (Z0 : n0 ≤ h0.size) (S1 : Sta Z h0 "java/lang/String" "COMPACT_STRINGS" "Z" (.int cs)) (hcs : ¬ cs = (0 : Int32)) (HK : ∀ (b : Addr) (cl : Cell), Z.heap[b]? = some cl → h0[b]? = some cl) (CH : Jvm.Lit.constHeld Z "java/lang/String" 7) (CW : Jvm.Lit.compactW.before a0 Z = true) :
    MetFree l x (head1 (Jvm.Cond.code x code maxLocals ret :: ws) room_1) (fun a U => a = #[(.int p0), (.int p1), (.int p2), (.int p3), (.int p4)] ∧ Z.Warmed39 U.vm ∧ U.heap = h0 ∧ own_E Z h0 U.vm) (fun _ _ _ _ _ => True) (fun _ U o U' => ∃ v L, o = .returned v ∧ own_Q_rm0 Z p0 p1 p2 p3 p4 cs h0 n0 v U'.heap U'.vm L ∧ ReturnedEndW U o U' L room_1.cells room_1.slots) := by
  refine own_enterW (Q := fun v h vm L => own_Q_rm0 Z p0 p1 p2 p3 p4 cs h0 n0 v h vm L) (F := fun m => mkF m 0 #[iv p0, iv p1, iv p2, iv p3, iv p4, .unset, .unset, .unset, .unset, .unset, .unset] []) (Pv := fun vm => own_E Z h0 vm) own_pn11 (fun m => own_ef_rm0 m p0 p1 p2 p3 p4) ?_
  intro p e s vm0 m below meth c T X hS hx hby hml hret hlk hnm hown hZ e0 hh0 F0
  show own_GoesW p e below s _ _ (T.setTop (mkF m 0 #[iv p0, iv p1, iv p2, iv p3, iv p4, .unset, .unset, .unset, .unset, .unset, .unset] []))
  have N0 := Fr.nil n0
  have J12 : ∀ (x5 : Int32), own_GoesW p e below s room_1 (fun v h vm L => own_Q_rm0 Z p0 p1 p2 p3 p4 cs h0 n0 v h vm L) (T.setTop (mkF m 12 #[iv p0, iv p1, iv p2, iv p3, iv p4, .unset, .unset, .unset, .unset, .unset, .unset] [(.int x5)])) := by
    intro x5
    refine own_stW (fun _ k => XS.istore X.here hx rfl (hb hby at_12) rfl (l' := #[iv p0, iv p1, iv p2, iv p3, iv p4, iv x5, .unset, .unset, .unset, .unset, .unset]) rfl k) ?_
    show own_GoesW p e below s _ _ (T.setTop (mkF m 14 #[iv p0, iv p1, iv p2, iv p3, iv p4, iv x5, .unset, .unset, .unset, .unset, .unset] []))
    have J27 : ∀ (x6 : Int32), own_GoesW p e below s room_1 (fun v h vm L => own_Q_rm0 Z p0 p1 p2 p3 p4 cs h0 n0 v h vm L) (T.setTop (mkF m 27 #[iv p0, iv p1, iv p2, iv p3, iv p4, iv x5, .unset, .unset, .unset, .unset, .unset] [(.int x6)])) := by
      intro x6
      refine own_stW (fun _ k => XS.istore X.here hx rfl (hb hby at_27) rfl (l' := #[iv p0, iv p1, iv p2, iv p3, iv p4, iv x5, iv x6, .unset, .unset, .unset, .unset]) rfl k) ?_
      show own_GoesW p e below s _ _ (T.setTop (mkF m 29 #[iv p0, iv p1, iv p2, iv p3, iv p4, iv x5, iv x6, .unset, .unset, .unset, .unset] []))
      obtain ⟨T101, h101, X101, e101, E101, A101, D101, -, st101⟩ := newO X hx hZ hown (hw _ (List.mem_of_getElem? (i := 0) rfl)) (hw _ (List.mem_of_getElem? (i := 1) rfl)) (hw _ (List.mem_of_getElem? (i := 2) rfl)) e0 (g := (mkF m 29 #[iv p0, iv p1, iv p2, iv p3, iv p4, iv x5, iv x6, .unset, .unset, .unset, .unset] [])) rfl (hb hby at_29) (by decide) (by decide)
      obtain ⟨b101, g101⟩ : ∃ z, z = h0.size := ⟨_, rfl⟩
      rw [← g101] at A101 D101 st101
      have y101 := own_lt A101.lt
      have z101 := E101.1
      have F101_domain : Fld Z h101 b101 "com/example/brigid/brigid/trustcenter/Identifier" "domain" "Ljava/lang/String;" .null := D101 (Or.inr (hw _ (List.mem_of_getElem? (i := 45) rfl))) (ty := (.object "java/lang/String")) (by decide)
      have F101_id : Fld Z h101 b101 "com/example/brigid/brigid/trustcenter/Identifier" "id" "Ljava/lang/String;" .null := D101 (Or.inr (hw _ (List.mem_of_getElem? (i := 47) rfl))) (ty := (.object "java/lang/String")) (by decide)
      refine own_stW st101 ?_
      show own_GoesW p e below s _ _ (T101.setTop (mkF m 32 #[iv p0, iv p1, iv p2, iv p3, iv p4, iv x5, iv x6, .unset, .unset, .unset, .unset] [(.ref b101)]))
      refine own_stW (fun _ k => XS.dup X101.here hx rfl (hb hby at_32) rfl rfl k) ?_
      show own_GoesW p e below s _ _ (T101.setTop (mkF m 33 #[iv p0, iv p1, iv p2, iv p3, iv p4, iv x5, iv x6, .unset, .unset, .unset, .unset] [(.ref b101), (.ref b101)]))
      refine own_stW (fun _ k => XS.iloadN X101.here hx rfl (hb hby at_33) rfl  k) ?_
      show own_GoesW p e below s _ _ (T101.setTop (mkF m 34 #[iv p0, iv p1, iv p2, iv p3, iv p4, iv x5, iv x6, .unset, .unset, .unset, .unset] [(.int p0), (.ref b101), (.ref b101)]))
      have f103 := (S1.ext E101)
      have f104 := (F0.ext E101)
      obtain ⟨v102, T102, L102, vm102, k102, X102, hS, hk102, hZ, hown, Q102, st102⟩ := own_callSW X101 hS (by rw [e101]; omega) hx hZ (y := (⟨"com/example/brigid/brigid/trustcenter/IdentifierEqualsPinLaw", "str", "(I)Ljava/lang/String;"⟩ : MethodName)) hown (hw _ (List.mem_of_getElem? (i := 3) rfl)) (hw _ (List.mem_of_getElem? (i := 4) rfl)) (hw _ (List.mem_of_getElem? (i := 5) rfl)) (hw _ (List.mem_of_getElem? (i := 6) rfl)) (by decide) (W := 2) (rest := [(.ref b101), (.ref b101)]) (argsL := [(.int p0)]) (Pv := fun vm => own_E Z h101 vm) (rmStr l Z a0 hw [] p0 cs h101 n0 (by omega) f103 hcs (own_HK HK ((Keep.refl h0 []).ext E101)) CH CW) (fun _ q => own_E.top f104 q) (by decide) (by decide) (by decide) (by decide) e101 own_pd7 rfl (g := (mkF m 34 #[iv p0, iv p1, iv p2, iv p3, iv p4, iv x5, iv x6, .unset, .unset, .unset, .unset] [(.int p0), (.ref b101), (.ref b101)])) rfl (by rw [hml]; rfl) rfl (by show 2 * 0 + _ ≤ _; exact Nat.le_of_eq rfl) (hb hby at_34)
      obtain ⟨a102, n102, g102, rfl, Y102, G102, N102q, K102, F102E⟩ := Q102
      have z102 := K102.1
      have N102 := Fr.app N0 N102q
      refine own_stW st102 ?_
      show own_GoesW p e below s _ _ (T102.setTop (mkF m 37 #[iv p0, iv p1, iv p2, iv p3, iv p4, iv x5, iv x6, .unset, .unset, .unset, .unset] [(.ref a102), (.ref b101), (.ref b101)]))
      refine own_stW (fun _ k => XS.iloadN X102.here hx rfl (hb hby at_37) rfl  k) ?_
      show own_GoesW p e below s _ _ (T102.setTop (mkF m 38 #[iv p0, iv p1, iv p2, iv p3, iv p4, iv x5, iv x6, .unset, .unset, .unset, .unset] [(.int p1), (.ref a102), (.ref b101), (.ref b101)]))
      have f106 := (own_sta_keep f103 K102 own_pl0)
      obtain ⟨v105, T105, L105, vm105, k105, X105, hS, hk105, hZ, hown, Q105, st105⟩ := own_callSW X102 hS (by omega) hx hZ (y := (⟨"com/example/brigid/brigid/trustcenter/IdentifierEqualsPinLaw", "str", "(I)Ljava/lang/String;"⟩ : MethodName)) hown (hw _ (List.mem_of_getElem? (i := 3) rfl)) (hw _ (List.mem_of_getElem? (i := 4) rfl)) (hw _ (List.mem_of_getElem? (i := 5) rfl)) (hw _ (List.mem_of_getElem? (i := 6) rfl)) (by decide) (W := 3) (rest := [(.ref a102), (.ref b101), (.ref b101)]) (argsL := [(.int p1)]) (Pv := fun vm => own_E Z T102.heap vm) (rmStr l Z a0 hw [] p1 cs T102.heap n0 (by omega) f106 hcs (own_HK HK (((Keep.refl h0 []).ext E101).trans K102 all0)) CH CW) (fun _ q => own_E.top F102E q) (by decide) (by decide) (by decide) (by decide) rfl own_pd7 rfl (g := (mkF m 38 #[iv p0, iv p1, iv p2, iv p3, iv p4, iv x5, iv x6, .unset, .unset, .unset, .unset] [(.int p1), (.ref a102), (.ref b101), (.ref b101)])) rfl (by rw [hml]; rfl) rfl (by show 2 * 0 + _ ≤ _; exact Nat.le_of_eq rfl) (hb hby at_38)
      obtain ⟨a105, n105, g105, rfl, Y105, G105, N105q, K105, F105E⟩ := Q105
      have z105 := K105.1
      have N105 := Fr.app N102 N105q
      refine own_stW st105 ?_
      show own_GoesW p e below s _ _ (T105.setTop (mkF m 41 #[iv p0, iv p1, iv p2, iv p3, iv p4, iv x5, iv x6, .unset, .unset, .unset, .unset] [(.ref a105), (.ref a102), (.ref b101), (.ref b101)]))
      have f108 := ((A101.keep K102).keep K105)
      have f109 := ((F101_domain.keep K102 nin0).keep K105 nin0)
      have f110 := ((F101_id.keep K102 nin0).keep K105 nin0)
      obtain ⟨v107, T107, L107, X107, Q107, st107⟩ := own_callI X105 hx hZ (y := (⟨"com/example/brigid/brigid/trustcenter/Identifier", "<init>", "(Ljava/lang/String;Ljava/lang/String;)V"⟩ : MethodName)) hown (hw _ (List.mem_of_getElem? (i := 40) rfl)) (hw _ (List.mem_of_getElem? (i := 41) rfl)) (hw _ (List.mem_of_getElem? (i := 2) rfl)) (hw _ (List.mem_of_getElem? (i := 42) rfl)) rfl (by decide) (W := 1) (rest := [(.ref b101)]) (argsL := [(.ref a102), (.ref a105)]) (a := b101) (rmId l Z a0 hw [] b101 a102 a105 _ _ T105.heap n0 (by omega) f108 f109 f110 (by omega)) (by decide) (by decide) (by decide) (by decide) rfl own_pd8 rfl (g := (mkF m 41 #[iv p0, iv p1, iv p2, iv p3, iv p4, iv x5, iv x6, .unset, .unset, .unset, .unset] [(.ref a105), (.ref a102), (.ref b101), (.ref b101)])) rfl (by rw [hml]; rfl) rfl (by show 2 * 0 + _ ≤ _; exact Nat.le_of_eq rfl) (hb hby at_41)
      obtain ⟨rfl, N107q, K107, A107, Fd107, Fi107⟩ := Q107
      have z107 := K107.1
      have N107 := Fr.app N105 N107q
      refine own_stW st107 ?_
      show own_GoesW p e below s _ _ (T107.setTop (mkF m 44 #[iv p0, iv p1, iv p2, iv p3, iv p4, iv x5, iv x6, .unset, .unset, .unset, .unset] [(.ref b101)]))
      refine own_stW (fun _ k => XS.astore X107.here hx rfl (hb hby at_44) rfl rfl (l' := #[iv p0, iv p1, iv p2, iv p3, iv p4, iv x5, iv x6, rv b101, .unset, .unset, .unset]) rfl k) ?_
      show own_GoesW p e below s _ _ (T107.setTop (mkF m 46 #[iv p0, iv p1, iv p2, iv p3, iv p4, iv x5, iv x6, rv b101, .unset, .unset, .unset] []))
      refine own_stW (fun _ k => XS.iload X107.here hx rfl (hb hby at_46) rfl  k) ?_
      show own_GoesW p e below s _ _ (T107.setTop (mkF m 48 #[iv p0, iv p1, iv p2, iv p3, iv p4, iv x5, iv x6, rv b101, .unset, .unset, .unset] [(.int p4)]))
      refine own_stW (fun _ k => XS.iconst X107.here hx rfl (hb hby at_48) k) ?_
      show own_GoesW p e below s _ _ (T107.setTop (mkF m 49 #[iv p0, iv p1, iv p2, iv p3, iv p4, iv x5, iv x6, rv b101, .unset, .unset, .unset] [(.int (3 : Int32)), (.int p4)]))
      refine own_stW (fun _ k => XS.iand X107.here hx rfl (hb hby at_49) rfl k) ?_
      show own_GoesW p e below s _ _ (T107.setTop (mkF m 50 #[iv p0, iv p1, iv p2, iv p3, iv p4, iv x5, iv x6, rv b101, .unset, .unset, .unset] [(.int (p4 &&& (3 : Int32)))]))
      refine own_stW (fun _ k => XS.istore X107.here hx rfl (hb hby at_50) rfl (l' := #[iv p0, iv p1, iv p2, iv p3, iv p4, iv x5, iv x6, rv b101, iv (p4 &&& (3 : Int32)), .unset, .unset]) rfl k) ?_
      show own_GoesW p e below s _ _ (T107.setTop (mkF m 52 #[iv p0, iv p1, iv p2, iv p3, iv p4, iv x5, iv x6, rv b101, iv (p4 &&& (3 : Int32)), .unset, .unset] []))
      refine own_stW (fun _ k => XS.iload X107.here hx rfl (hb hby at_52) rfl  k) ?_
      show own_GoesW p e below s _ _ (T107.setTop (mkF m 54 #[iv p0, iv p1, iv p2, iv p3, iv p4, iv x5, iv x6, rv b101, iv (p4 &&& (3 : Int32)), .unset, .unset] [(.int (p4 &&& (3 : Int32)))]))
      refine own_stW (fun _ k => XS.iconst X107.here hx rfl (hb hby at_54) k) ?_
      show own_GoesW p e below s _ _ (T107.setTop (mkF m 55 #[iv p0, iv p1, iv p2, iv p3, iv p4, iv x5, iv x6, rv b101, iv (p4 &&& (3 : Int32)), .unset, .unset] [(.int (1 : Int32)), (.int (p4 &&& (3 : Int32)))]))
      by_cases c111 : (p4 &&& (3 : Int32)) = (1 : Int32)
      · have c111i : (p4 &&& (3 : Int32)).toInt = 1 := own_i_eq c111
        refine own_stW (fun _ k => XS.icmpNo X107.here hx rfl (hb hby at_55) rfl (teq c111).2 k) ?_
        show own_GoesW p e below s _ _ (T107.setTop (mkF m 58 #[iv p0, iv p1, iv p2, iv p3, iv p4, iv x5, iv x6, rv b101, iv (p4 &&& (3 : Int32)), .unset, .unset] []))
        refine own_stW (fun _ k => XS.aload X107.here hx rfl (hb hby at_58) rfl rfl  k) ?_
        show own_GoesW p e below s _ _ (T107.setTop (mkF m 60 #[iv p0, iv p1, iv p2, iv p3, iv p4, iv x5, iv x6, rv b101, iv (p4 &&& (3 : Int32)), .unset, .unset] [(.ref b101)]))
        refine own_stW (fun _ k => XS.aload X107.here hx rfl (hb hby at_60) rfl rfl  k) ?_
        show own_GoesW p e below s _ _ (T107.setTop (mkF m 62 #[iv p0, iv p1, iv p2, iv p3, iv p4, iv x5, iv x6, rv b101, iv (p4 &&& (3 : Int32)), .unset, .unset] [(.ref b101), (.ref b101)]))
        have f113 := ((Y102.keep K105 (fun _ q => nomatch q)).keep K107 (own_Pl1 f108 (hw _ (List.mem_of_getElem? (i := 1) rfl)) (by decide)))
        have f114 := (Y105.keep K107 (own_Pl1 f108 (hw _ (List.mem_of_getElem? (i := 1) rfl)) (by decide)))
        have f115 := (own_sta_keep (own_sta_keep f106 K105 own_pl0) K107 (own_pl1 f108))
        obtain ⟨v112, T112, L112, X112, Q112, st112⟩ := own_callV X107 hx hZ (C := "com/example/brigid/brigid/trustcenter/Identifier") (y := (⟨"com/example/brigid/brigid/trustcenter/Identifier", "equals", "(Ljava/lang/Object;)Z"⟩ : MethodName)) hown (hw _ (List.mem_of_getElem? (i := 51) rfl)) (hw _ (List.mem_of_getElem? (i := 52) rfl)) (hw _ (List.mem_of_getElem? (i := 54) rfl)) (hw _ (List.mem_of_getElem? (i := 53) rfl)) (hw _ (List.mem_of_getElem? (i := 2) rfl)) (hw _ (List.mem_of_getElem? (i := 55) rfl)) (by decide) (W := 0) (rest := []) (argsL := [(.ref b101)]) (a := b101) (rmEI l Z a0 hw [] b101 b101 a102 a105 a102 a105 n102 n105 n102 n105 g102 g105 g102 g105 cs T107.heap n0 (by omega) A107 Fd107 Fi107 Fd107 Fi107 f113 f114 f113 f114 G102.n4 G105.n4 G102.n4 G105.n4 f115 hcs) (by decide) (by decide) (by decide) (by decide) rfl A107 own_pd6 rfl (g := (mkF m 62 #[iv p0, iv p1, iv p2, iv p3, iv p4, iv x5, iv x6, rv b101, iv (p4 &&& (3 : Int32)), .unset, .unset] [(.ref b101), (.ref b101)])) rfl (by rw [hml]; rfl) rfl (by show 2 * 0 + _ ≤ _; exact Nat.le_of_eq rfl) (hb hby at_62)
        obtain ⟨r112, rfl, hr112, N112q, e112⟩ := Q112
        obtain rfl : r112 = (1 : Int32) := Int32.toInt_inj.mp (((own_iff hr112).mpr ⟨own_same_refl _ _, own_same_refl _ _⟩).trans (by decide))
        have N112 := Fr.app N107 N112q
        refine own_stW st112 ?_
        show own_GoesW p e below s _ _ (T112.setTop (mkF m 65 #[iv p0, iv p1, iv p2, iv p3, iv p4, iv x5, iv x6, rv b101, iv (p4 &&& (3 : Int32)), .unset, .unset] [(.int (1 : Int32))]))
        exact own_retNW X112 hx hS (by rw [e112]; omega) hlk (1 : Int32) hret (Or.inl rfl) rfl (hb hby at_65) (by decide) (by decide) ⟨rfl, N112⟩
      · have c111i : ¬ (p4 &&& (3 : Int32)).toInt = 1 := own_i_ne c111
        refine own_stW (fun _ k => XS.icmpYes X107.here hx rfl (pc0 := 55) (pc' := 66) rfl (hb hby at_55) rfl (feq c111).2 (by decide) (by decide) k) ?_
        show own_GoesW p e below s _ _ (T107.setTop (mkF m 66 #[iv p0, iv p1, iv p2, iv p3, iv p4, iv x5, iv x6, rv b101, iv (p4 &&& (3 : Int32)), .unset, .unset] []))
        refine own_stW (fun _ k => XS.iload X107.here hx rfl (hb hby at_66) rfl  k) ?_
        show own_GoesW p e below s _ _ (T107.setTop (mkF m 68 #[iv p0, iv p1, iv p2, iv p3, iv p4, iv x5, iv x6, rv b101, iv (p4 &&& (3 : Int32)), .unset, .unset] [(.int (p4 &&& (3 : Int32)))]))
        refine own_stW (fun _ k => XS.iconst X107.here hx rfl (hb hby at_68) k) ?_
        show own_GoesW p e below s _ _ (T107.setTop (mkF m 69 #[iv p0, iv p1, iv p2, iv p3, iv p4, iv x5, iv x6, rv b101, iv (p4 &&& (3 : Int32)), .unset, .unset] [(.int (2 : Int32)), (.int (p4 &&& (3 : Int32)))]))
        by_cases c116 : (p4 &&& (3 : Int32)) = (2 : Int32)
        · have c116i : (p4 &&& (3 : Int32)).toInt = 2 := own_i_eq c116
          refine own_stW (fun _ k => XS.icmpNo X107.here hx rfl (hb hby at_69) rfl (teq c116).2 k) ?_
          show own_GoesW p e below s _ _ (T107.setTop (mkF m 72 #[iv p0, iv p1, iv p2, iv p3, iv p4, iv x5, iv x6, rv b101, iv (p4 &&& (3 : Int32)), .unset, .unset] []))
          refine own_stW (fun _ k => XS.aload X107.here hx rfl (hb hby at_72) rfl rfl  k) ?_
          show own_GoesW p e below s _ _ (T107.setTop (mkF m 74 #[iv p0, iv p1, iv p2, iv p3, iv p4, iv x5, iv x6, rv b101, iv (p4 &&& (3 : Int32)), .unset, .unset] [(.ref b101)]))
          refine own_stW (fun _ k => XS.aconstNull X107.here hx rfl (hb hby at_74) k) ?_
          show own_GoesW p e below s _ _ (T107.setTop (mkF m 75 #[iv p0, iv p1, iv p2, iv p3, iv p4, iv x5, iv x6, rv b101, iv (p4 &&& (3 : Int32)), .unset, .unset] [.null, (.ref b101)]))
          obtain ⟨v117, T117, L117, X117, Q117, st117⟩ := own_callV X107 hx hZ (C := "com/example/brigid/brigid/trustcenter/Identifier") (y := (⟨"com/example/brigid/brigid/trustcenter/Identifier", "equals", "(Ljava/lang/Object;)Z"⟩ : MethodName)) hown (hw _ (List.mem_of_getElem? (i := 51) rfl)) (hw _ (List.mem_of_getElem? (i := 52) rfl)) (hw _ (List.mem_of_getElem? (i := 54) rfl)) (hw _ (List.mem_of_getElem? (i := 53) rfl)) (hw _ (List.mem_of_getElem? (i := 2) rfl)) (hw _ (List.mem_of_getElem? (i := 55) rfl)) (by decide) (W := 0) (rest := []) (argsL := [.null]) (a := b101) (rmEN l Z a0 hw [] b101 T107.heap n0 (by omega)) (by decide) (by decide) (by decide) (by decide) rfl A107 own_pd6 rfl (g := (mkF m 75 #[iv p0, iv p1, iv p2, iv p3, iv p4, iv x5, iv x6, rv b101, iv (p4 &&& (3 : Int32)), .unset, .unset] [.null, (.ref b101)])) rfl (by rw [hml]; rfl) rfl (by show 2 * 0 + _ ≤ _; exact Nat.le_of_eq rfl) (hb hby at_75)
          obtain ⟨rfl, N117q, e117⟩ := Q117
          have N117 := Fr.app N107 N117q
          refine own_stW st117 ?_
          show own_GoesW p e below s _ _ (T117.setTop (mkF m 78 #[iv p0, iv p1, iv p2, iv p3, iv p4, iv x5, iv x6, rv b101, iv (p4 &&& (3 : Int32)), .unset, .unset] [(.int (0 : Int32))]))
          refine own_stW (fun _ k => XS.ifNo X117.here hx rfl (hb hby at_78) rfl ((if0 _ _).trans (teq (by decide : (0 : Int32) = (0 : Int32))).2) k) ?_
          show own_GoesW p e below s _ _ (T117.setTop (mkF m 81 #[iv p0, iv p1, iv p2, iv p3, iv p4, iv x5, iv x6, rv b101, iv (p4 &&& (3 : Int32)), .unset, .unset] []))
          refine own_stW (fun _ k => XS.iconst X117.here hx rfl (hb hby at_81) k) ?_
          show own_GoesW p e below s _ _ (T117.setTop (mkF m 82 #[iv p0, iv p1, iv p2, iv p3, iv p4, iv x5, iv x6, rv b101, iv (p4 &&& (3 : Int32)), .unset, .unset] [(.int (1 : Int32))]))
          refine own_stW (fun _ k => XS.goto X117.here hx rfl (pc0 := 82) (pc' := 86) rfl (hb hby at_82) (by decide) (by decide) k) ?_
          show own_GoesW p e below s _ _ (T117.setTop (mkF m 86 #[iv p0, iv p1, iv p2, iv p3, iv p4, iv x5, iv x6, rv b101, iv (p4 &&& (3 : Int32)), .unset, .unset] [(.int (1 : Int32))]))
          exact own_retNW X117 hx hS (by rw [e117]; omega) hlk (1 : Int32) hret (Or.inl rfl) rfl (hb hby at_86) (by decide) (by decide) ⟨rfl, N117⟩
        · have c116i : ¬ (p4 &&& (3 : Int32)).toInt = 2 := own_i_ne c116
          refine own_stW (fun _ k => XS.icmpYes X107.here hx rfl (pc0 := 69) (pc' := 87) rfl (hb hby at_69) rfl (feq c116).2 (by decide) (by decide) k) ?_
          show own_GoesW p e below s _ _ (T107.setTop (mkF m 87 #[iv p0, iv p1, iv p2, iv p3, iv p4, iv x5, iv x6, rv b101, iv (p4 &&& (3 : Int32)), .unset, .unset] []))
          refine own_stW (fun _ k => XS.iload X107.here hx rfl (hb hby at_87) rfl  k) ?_
          show own_GoesW p e below s _ _ (T107.setTop (mkF m 89 #[iv p0, iv p1, iv p2, iv p3, iv p4, iv x5, iv x6, rv b101, iv (p4 &&& (3 : Int32)), .unset, .unset] [(.int (p4 &&& (3 : Int32)))]))
          refine own_stW (fun _ k => XS.iconst X107.here hx rfl (hb hby at_89) k) ?_
          show own_GoesW p e below s _ _ (T107.setTop (mkF m 90 #[iv p0, iv p1, iv p2, iv p3, iv p4, iv x5, iv x6, rv b101, iv (p4 &&& (3 : Int32)), .unset, .unset] [(.int (3 : Int32)), (.int (p4 &&& (3 : Int32)))]))
          by_cases c118 : (p4 &&& (3 : Int32)) = (3 : Int32)
          · have c118i : (p4 &&& (3 : Int32)).toInt = 3 := own_i_eq c118
            refine own_stW (fun _ k => XS.icmpNo X107.here hx rfl (hb hby at_90) rfl (teq c118).2 k) ?_
            show own_GoesW p e below s _ _ (T107.setTop (mkF m 93 #[iv p0, iv p1, iv p2, iv p3, iv p4, iv x5, iv x6, rv b101, iv (p4 &&& (3 : Int32)), .unset, .unset] []))
            refine own_stW (fun _ k => XS.aload X107.here hx rfl (hb hby at_93) rfl rfl  k) ?_
            show own_GoesW p e below s _ _ (T107.setTop (mkF m 95 #[iv p0, iv p1, iv p2, iv p3, iv p4, iv x5, iv x6, rv b101, iv (p4 &&& (3 : Int32)), .unset, .unset] [(.ref b101)]))
            refine own_stW (fun _ k => XS.iloadN X107.here hx rfl (hb hby at_95) rfl  k) ?_
            show own_GoesW p e below s _ _ (T107.setTop (mkF m 96 #[iv p0, iv p1, iv p2, iv p3, iv p4, iv x5, iv x6, rv b101, iv (p4 &&& (3 : Int32)), .unset, .unset] [(.int p0), (.ref b101)]))
            have f120 := (own_sta_keep (own_sta_keep f106 K105 own_pl0) K107 (own_pl1 f108))
            have f121 := (F105E.keep K107 (own_Pl1 f108 (hw _ (List.mem_of_getElem? (i := 1) rfl)) (by decide)))
            obtain ⟨v119, T119, L119, vm119, k119, X119, hS, hk119, hZ, hown, Q119, st119⟩ := own_callSW X107 hS (by omega) hx hZ (y := (⟨"com/example/brigid/brigid/trustcenter/IdentifierEqualsPinLaw", "str", "(I)Ljava/lang/String;"⟩ : MethodName)) hown (hw _ (List.mem_of_getElem? (i := 3) rfl)) (hw _ (List.mem_of_getElem? (i := 4) rfl)) (hw _ (List.mem_of_getElem? (i := 5) rfl)) (hw _ (List.mem_of_getElem? (i := 6) rfl)) (by decide) (W := 1) (rest := [(.ref b101)]) (argsL := [(.int p0)]) (Pv := fun vm => own_E Z T107.heap vm) (rmStr l Z a0 hw [] p0 cs T107.heap n0 (by omega) f120 hcs (own_HK HK (((((Keep.refl h0 []).ext E101).trans K102 all0).trans K105 all0).trans K107 (allS (Or.inr (by omega)) all0))) CH CW) (fun _ q => own_E.top f121 q) (by decide) (by decide) (by decide) (by decide) rfl own_pd7 rfl (g := (mkF m 96 #[iv p0, iv p1, iv p2, iv p3, iv p4, iv x5, iv x6, rv b101, iv (p4 &&& (3 : Int32)), .unset, .unset] [(.int p0), (.ref b101)])) rfl (by rw [hml]; rfl) rfl (by show 2 * 0 + _ ≤ _; exact Nat.le_of_eq rfl) (hb hby at_96)
            obtain ⟨a119, n119, g119, rfl, Y119, G119, N119q, K119, F119E⟩ := Q119
            have z119 := K119.1
            have N119 := Fr.app N107 N119q
            refine own_stW st119 ?_
            show own_GoesW p e below s _ _ (T119.setTop (mkF m 99 #[iv p0, iv p1, iv p2, iv p3, iv p4, iv x5, iv x6, rv b101, iv (p4 &&& (3 : Int32)), .unset, .unset] [(.ref a119), (.ref b101)]))
            have f123 := (A107.keep K119)
            obtain ⟨v122, T122, L122, X122, Q122, st122⟩ := own_callV X119 hx hZ (C := "com/example/brigid/brigid/trustcenter/Identifier") (y := (⟨"com/example/brigid/brigid/trustcenter/Identifier", "equals", "(Ljava/lang/Object;)Z"⟩ : MethodName)) hown (hw _ (List.mem_of_getElem? (i := 51) rfl)) (hw _ (List.mem_of_getElem? (i := 52) rfl)) (hw _ (List.mem_of_getElem? (i := 54) rfl)) (hw _ (List.mem_of_getElem? (i := 53) rfl)) (hw _ (List.mem_of_getElem? (i := 2) rfl)) (hw _ (List.mem_of_getElem? (i := 55) rfl)) (by decide) (W := 0) (rest := []) (argsL := [(.ref a119)]) (a := b101) (rmES l Z a0 hw [] b101 a119 T119.heap n0 (by omega) Y119.1) (by decide) (by decide) (by decide) (by decide) rfl f123 own_pd6 rfl (g := (mkF m 99 #[iv p0, iv p1, iv p2, iv p3, iv p4, iv x5, iv x6, rv b101, iv (p4 &&& (3 : Int32)), .unset, .unset] [(.ref a119), (.ref b101)])) rfl (by rw [hml]; rfl) rfl (by show 2 * 0 + _ ≤ _; exact Nat.le_of_eq rfl) (hb hby at_99)
            obtain ⟨rfl, N122q, e122⟩ := Q122
            have N122 := Fr.app N119 N122q
            refine own_stW st122 ?_
            show own_GoesW p e below s _ _ (T122.setTop (mkF m 102 #[iv p0, iv p1, iv p2, iv p3, iv p4, iv x5, iv x6, rv b101, iv (p4 &&& (3 : Int32)), .unset, .unset] [(.int (0 : Int32))]))
            refine own_stW (fun _ k => XS.ifNo X122.here hx rfl (hb hby at_102) rfl ((if0 _ _).trans (teq (by decide : (0 : Int32) = (0 : Int32))).2) k) ?_
            show own_GoesW p e below s _ _ (T122.setTop (mkF m 105 #[iv p0, iv p1, iv p2, iv p3, iv p4, iv x5, iv x6, rv b101, iv (p4 &&& (3 : Int32)), .unset, .unset] []))
            refine own_stW (fun _ k => XS.iconst X122.here hx rfl (hb hby at_105) k) ?_
            show own_GoesW p e below s _ _ (T122.setTop (mkF m 106 #[iv p0, iv p1, iv p2, iv p3, iv p4, iv x5, iv x6, rv b101, iv (p4 &&& (3 : Int32)), .unset, .unset] [(.int (1 : Int32))]))
            refine own_stW (fun _ k => XS.goto X122.here hx rfl (pc0 := 106) (pc' := 110) rfl (hb hby at_106) (by decide) (by decide) k) ?_
            show own_GoesW p e below s _ _ (T122.setTop (mkF m 110 #[iv p0, iv p1, iv p2, iv p3, iv p4, iv x5, iv x6, rv b101, iv (p4 &&& (3 : Int32)), .unset, .unset] [(.int (1 : Int32))]))
            exact own_retNW X122 hx hS (by rw [e122]; omega) hlk (1 : Int32) hret (Or.inl rfl) rfl (hb hby at_110) (by decide) (by decide) ⟨rfl, N122⟩
          · have c118i : ¬ (p4 &&& (3 : Int32)).toInt = 3 := own_i_ne c118
            refine own_stW (fun _ k => XS.icmpYes X107.here hx rfl (pc0 := 90) (pc' := 111) rfl (hb hby at_90) rfl (feq c118).2 (by decide) (by decide) k) ?_
            show own_GoesW p e below s _ _ (T107.setTop (mkF m 111 #[iv p0, iv p1, iv p2, iv p3, iv p4, iv x5, iv x6, rv b101, iv (p4 &&& (3 : Int32)), .unset, .unset] []))
            obtain ⟨T124, h124, X124, e124, E124, A124, D124, -, st124⟩ := newO X107 hx hZ hown (hw _ (List.mem_of_getElem? (i := 0) rfl)) (hw _ (List.mem_of_getElem? (i := 1) rfl)) (hw _ (List.mem_of_getElem? (i := 2) rfl)) rfl (g := (mkF m 111 #[iv p0, iv p1, iv p2, iv p3, iv p4, iv x5, iv x6, rv b101, iv (p4 &&& (3 : Int32)), .unset, .unset] [])) rfl (hb hby at_111) (by decide) (by decide)
            obtain ⟨b124, g124⟩ : ∃ z, z = T107.heap.size := ⟨_, rfl⟩
            rw [← g124] at A124 D124 st124
            have y124 := own_lt A124.lt
            have z124 := E124.1
            have F124_domain : Fld Z h124 b124 "com/example/brigid/brigid/trustcenter/Identifier" "domain" "Ljava/lang/String;" .null := D124 (Or.inr (hw _ (List.mem_of_getElem? (i := 45) rfl))) (ty := (.object "java/lang/String")) (by decide)
            have F124_id : Fld Z h124 b124 "com/example/brigid/brigid/trustcenter/Identifier" "id" "Ljava/lang/String;" .null := D124 (Or.inr (hw _ (List.mem_of_getElem? (i := 47) rfl))) (ty := (.object "java/lang/String")) (by decide)
            refine own_stW st124 ?_
            show own_GoesW p e below s _ _ (T124.setTop (mkF m 114 #[iv p0, iv p1, iv p2, iv p3, iv p4, iv x5, iv x6, rv b101, iv (p4 &&& (3 : Int32)), .unset, .unset] [(.ref b124)]))
            refine own_stW (fun _ k => XS.dup X124.here hx rfl (hb hby at_114) rfl rfl k) ?_
            show own_GoesW p e below s _ _ (T124.setTop (mkF m 115 #[iv p0, iv p1, iv p2, iv p3, iv p4, iv x5, iv x6, rv b101, iv (p4 &&& (3 : Int32)), .unset, .unset] [(.ref b124), (.ref b124)]))
            refine own_stW (fun _ k => XS.iload X124.here hx rfl (hb hby at_115) rfl  k) ?_
            show own_GoesW p e below s _ _ (T124.setTop (mkF m 117 #[iv p0, iv p1, iv p2, iv p3, iv p4, iv x5, iv x6, rv b101, iv (p4 &&& (3 : Int32)), .unset, .unset] [(.int x5), (.ref b124), (.ref b124)]))
            have f126 := ((own_sta_keep (own_sta_keep f106 K105 own_pl0) K107 (own_pl1 f108)).ext E124)
            have f127 := ((F105E.keep K107 (own_Pl1 f108 (hw _ (List.mem_of_getElem? (i := 1) rfl)) (by decide))).ext E124)
            obtain ⟨v125, T125, L125, vm125, k125, X125, hS, hk125, hZ, hown, Q125, st125⟩ := own_callSW X124 hS (by rw [e124]; omega) hx hZ (y := (⟨"com/example/brigid/brigid/trustcenter/IdentifierEqualsPinLaw", "str", "(I)Ljava/lang/String;"⟩ : MethodName)) hown (hw _ (List.mem_of_getElem? (i := 3) rfl)) (hw _ (List.mem_of_getElem? (i := 4) rfl)) (hw _ (List.mem_of_getElem? (i := 5) rfl)) (hw _ (List.mem_of_getElem? (i := 6) rfl)) (by decide) (W := 2) (rest := [(.ref b124), (.ref b124)]) (argsL := [(.int x5)]) (Pv := fun vm => own_E Z h124 vm) (rmStr l Z a0 hw [] x5 cs h124 n0 (by omega) f126 hcs (own_HK HK ((((((Keep.refl h0 []).ext E101).trans K102 all0).trans K105 all0).trans K107 (allS (Or.inr (by omega)) all0)).ext E124)) CH CW) (fun _ q => own_E.top f127 q) (by decide) (by decide) (by decide) (by decide) e124 own_pd7 rfl (g := (mkF m 117 #[iv p0, iv p1, iv p2, iv p3, iv p4, iv x5, iv x6, rv b101, iv (p4 &&& (3 : Int32)), .unset, .unset] [(.int x5), (.ref b124), (.ref b124)])) rfl (by rw [hml]; rfl) rfl (by show 2 * 0 + _ ≤ _; exact Nat.le_of_eq rfl) (hb hby at_117)
            obtain ⟨a125, n125, g125, rfl, Y125, G125, N125q, K125, F125E⟩ := Q125
            have z125 := K125.1
            have N125 := Fr.app N107 N125q
            refine own_stW st125 ?_
            show own_GoesW p e below s _ _ (T125.setTop (mkF m 120 #[iv p0, iv p1, iv p2, iv p3, iv p4, iv x5, iv x6, rv b101, iv (p4 &&& (3 : Int32)), .unset, .unset] [(.ref a125), (.ref b124), (.ref b124)]))
            refine own_stW (fun _ k => XS.iload X125.here hx rfl (hb hby at_120) rfl  k) ?_
            show own_GoesW p e below s _ _ (T125.setTop (mkF m 122 #[iv p0, iv p1, iv p2, iv p3, iv p4, iv x5, iv x6, rv b101, iv (p4 &&& (3 : Int32)), .unset, .unset] [(.int x6), (.ref a125), (.ref b124), (.ref b124)]))
            have f129 := (own_sta_keep f126 K125 own_pl0)
            obtain ⟨v128, T128, L128, vm128, k128, X128, hS, hk128, hZ, hown, Q128, st128⟩ := own_callSW X125 hS (by omega) hx hZ (y := (⟨"com/example/brigid/brigid/trustcenter/IdentifierEqualsPinLaw", "str", "(I)Ljava/lang/String;"⟩ : MethodName)) hown (hw _ (List.mem_of_getElem? (i := 3) rfl)) (hw _ (List.mem_of_getElem? (i := 4) rfl)) (hw _ (List.mem_of_getElem? (i := 5) rfl)) (hw _ (List.mem_of_getElem? (i := 6) rfl)) (by decide) (W := 3) (rest := [(.ref a125), (.ref b124), (.ref b124)]) (argsL := [(.int x6)]) (Pv := fun vm => own_E Z T125.heap vm) (rmStr l Z a0 hw [] x6 cs T125.heap n0 (by omega) f129 hcs (own_HK HK (((((((Keep.refl h0 []).ext E101).trans K102 all0).trans K105 all0).trans K107 (allS (Or.inr (by omega)) all0)).ext E124).trans K125 all0)) CH CW) (fun _ q => own_E.top F125E q) (by decide) (by decide) (by decide) (by decide) rfl own_pd7 rfl (g := (mkF m 122 #[iv p0, iv p1, iv p2, iv p3, iv p4, iv x5, iv x6, rv b101, iv (p4 &&& (3 : Int32)), .unset, .unset] [(.int x6), (.ref a125), (.ref b124), (.ref b124)])) rfl (by rw [hml]; rfl) rfl (by show 2 * 0 + _ ≤ _; exact Nat.le_of_eq rfl) (hb hby at_122)
            obtain ⟨a128, n128, g128, rfl, Y128, G128, N128q, K128, F128E⟩ := Q128
            have z128 := K128.1
            have N128 := Fr.app N125 N128q
            refine own_stW st128 ?_
            show own_GoesW p e below s _ _ (T128.setTop (mkF m 125 #[iv p0, iv p1, iv p2, iv p3, iv p4, iv x5, iv x6, rv b101, iv (p4 &&& (3 : Int32)), .unset, .unset] [(.ref a128), (.ref a125), (.ref b124), (.ref b124)]))
            have f131 := ((A124.keep K125).keep K128)
            have f132 := ((F124_domain.keep K125 nin0).keep K128 nin0)
            have f133 := ((F124_id.keep K125 nin0).keep K128 nin0)
            obtain ⟨v130, T130, L130, X130, Q130, st130⟩ := own_callI X128 hx hZ (y := (⟨"com/example/brigid/brigid/trustcenter/Identifier", "<init>", "(Ljava/lang/String;Ljava/lang/String;)V"⟩ : MethodName)) hown (hw _ (List.mem_of_getElem? (i := 40) rfl)) (hw _ (List.mem_of_getElem? (i := 41) rfl)) (hw _ (List.mem_of_getElem? (i := 2) rfl)) (hw _ (List.mem_of_getElem? (i := 42) rfl)) rfl (by decide) (W := 1) (rest := [(.ref b124)]) (argsL := [(.ref a125), (.ref a128)]) (a := b124) (rmId l Z a0 hw [] b124 a125 a128 _ _ T128.heap n0 (by omega) f131 f132 f133 (by omega)) (by decide) (by decide) (by decide) (by decide) rfl own_pd8 rfl (g := (mkF m 125 #[iv p0, iv p1, iv p2, iv p3, iv p4, iv x5, iv x6, rv b101, iv (p4 &&& (3 : Int32)), .unset, .unset] [(.ref a128), (.ref a125), (.ref b124), (.ref b124)])) rfl (by rw [hml]; rfl) rfl (by show 2 * 0 + _ ≤ _; exact Nat.le_of_eq rfl) (hb hby at_125)
            obtain ⟨rfl, N130q, K130, A130, Fd130, Fi130⟩ := Q130
            have z130 := K130.1
            have N130 := Fr.app N128 N130q
            refine own_stW st130 ?_
            show own_GoesW p e below s _ _ (T130.setTop (mkF m 128 #[iv p0, iv p1, iv p2, iv p3, iv p4, iv x5, iv x6, rv b101, iv (p4 &&& (3 : Int32)), .unset, .unset] [(.ref b124)]))
            refine own_stW (fun _ k => XS.astore X130.here hx rfl (hb hby at_128) rfl rfl (l' := #[iv p0, iv p1, iv p2, iv p3, iv p4, iv x5, iv x6, rv b101, iv (p4 &&& (3 : Int32)), rv b124, .unset]) rfl k) ?_
            show own_GoesW p e below s _ _ (T130.setTop (mkF m 130 #[iv p0, iv p1, iv p2, iv p3, iv p4, iv x5, iv x6, rv b101, iv (p4 &&& (3 : Int32)), rv b124, .unset] []))
            refine own_stW (fun _ k => XS.iloadN X130.here hx rfl (hb hby at_130) rfl  k) ?_
            show own_GoesW p e below s _ _ (T130.setTop (mkF m 131 #[iv p0, iv p1, iv p2, iv p3, iv p4, iv x5, iv x6, rv b101, iv (p4 &&& (3 : Int32)), rv b124, .unset] [(.int p0)]))
            refine own_stW (fun _ k => XS.iload X130.here hx rfl (hb hby at_131) rfl  k) ?_
            show own_GoesW p e below s _ _ (T130.setTop (mkF m 133 #[iv p0, iv p1, iv p2, iv p3, iv p4, iv x5, iv x6, rv b101, iv (p4 &&& (3 : Int32)), rv b124, .unset] [(.int x5), (.int p0)]))
            obtain ⟨v134, T134, L134, X134, Q134, st134⟩ := own_callS X130 hx hZ (y := (⟨"com/example/brigid/brigid/trustcenter/IdentifierEqualsPinLaw", "same", "(II)Z"⟩ : MethodName)) hown (hw _ (List.mem_of_getElem? (i := 48) rfl)) (hw _ (List.mem_of_getElem? (i := 49) rfl)) (hw _ (List.mem_of_getElem? (i := 5) rfl)) (hw _ (List.mem_of_getElem? (i := 50) rfl)) (by decide) (W := 0) (rest := []) (argsL := [(.int p0), (.int x5)]) (rmSame l Z a0 hw [] p0 x5 T130.heap n0 (by omega)) (by decide) (by decide) (by decide) (by decide) rfl own_pd9 rfl (g := (mkF m 133 #[iv p0, iv p1, iv p2, iv p3, iv p4, iv x5, iv x6, rv b101, iv (p4 &&& (3 : Int32)), rv b124, .unset] [(.int x5), (.int p0)])) rfl (by rw [hml]; rfl) rfl (by show 2 * 0 + _ ≤ _; exact Nat.le_of_eq rfl) (hb hby at_133)
            obtain ⟨r134, rfl, hr134, N134q, e134⟩ := Q134
            have i134 := own_iff hr134
            have o134 := own_01 hr134
            have N134 := Fr.app N130 N134q
            refine own_stW st134 ?_
            show own_GoesW p e below s _ _ (T134.setTop (mkF m 136 #[iv p0, iv p1, iv p2, iv p3, iv p4, iv x5, iv x6, rv b101, iv (p4 &&& (3 : Int32)), rv b124, .unset] [(.int r134)]))
            by_cases c135 : r134 = (0 : Int32)
            · have c135i : r134.toInt = 0 := own_i_eq c135
              refine own_stW (fun _ k => XS.ifYes X134.here hx rfl (pc0 := 136) (pc' := 152) rfl (hb hby at_136) rfl ((if0 _ _).trans (teq c135).1) (by decide) (by decide) k) ?_
              show own_GoesW p e below s _ _ (T134.setTop (mkF m 152 #[iv p0, iv p1, iv p2, iv p3, iv p4, iv x5, iv x6, rv b101, iv (p4 &&& (3 : Int32)), rv b124, .unset] []))
              refine own_stW (fun _ k => XS.iconst X134.here hx rfl (hb hby at_152) k) ?_
              show own_GoesW p e below s _ _ (T134.setTop (mkF m 153 #[iv p0, iv p1, iv p2, iv p3, iv p4, iv x5, iv x6, rv b101, iv (p4 &&& (3 : Int32)), rv b124, .unset] [(.int (0 : Int32))]))
              refine own_stW (fun _ k => XS.istore X134.here hx rfl (hb hby at_153) rfl (l' := #[iv p0, iv p1, iv p2, iv p3, iv p4, iv x5, iv x6, rv b101, iv (p4 &&& (3 : Int32)), rv b124, iv (0 : Int32)]) rfl k) ?_
              show own_GoesW p e below s _ _ (T134.setTop (mkF m 155 #[iv p0, iv p1, iv p2, iv p3, iv p4, iv x5, iv x6, rv b101, iv (p4 &&& (3 : Int32)), rv b124, iv (0 : Int32)] []))
              refine own_stW (fun _ k => XS.aload X134.here hx rfl (hb hby at_155) rfl rfl  k) ?_
              show own_GoesW p e below s _ _ (T134.setTop (mkF m 157 #[iv p0, iv p1, iv p2, iv p3, iv p4, iv x5, iv x6, rv b101, iv (p4 &&& (3 : Int32)), rv b124, iv (0 : Int32)] [(.ref b101)]))
              refine own_stW (fun _ k => XS.aload X134.here hx rfl (hb hby at_157) rfl rfl  k) ?_
              show own_GoesW p e below s _ _ (T134.setTop (mkF m 159 #[iv p0, iv p1, iv p2, iv p3, iv p4, iv x5, iv x6, rv b101, iv (p4 &&& (3 : Int32)), rv b124, iv (0 : Int32)] [(.ref b124), (.ref b101)]))
              have f137 := ((((Fd107.ext E124).keep K125 nin0).keep K128 nin0).keep K130 (ninS (own_ne (by omega)) nin0))
              have f138 := ((((Fi107.ext E124).keep K125 nin0).keep K128 nin0).keep K130 (ninS (own_ne (by omega)) nin0))
              have f139 := ((((((Y102.keep K105 (fun _ q => nomatch q)).keep K107 (own_Pl1 f108 (hw _ (List.mem_of_getElem? (i := 1) rfl)) (by decide))).ext E124).keep K125 (fun _ q => nomatch q)).keep K128 (fun _ q => nomatch q)).keep K130 (own_Pl1 f131 (hw _ (List.mem_of_getElem? (i := 1) rfl)) (by decide)))
              have f140 := (((((Y105.keep K107 (own_Pl1 f108 (hw _ (List.mem_of_getElem? (i := 1) rfl)) (by decide))).ext E124).keep K125 (fun _ q => nomatch q)).keep K128 (fun _ q => nomatch q)).keep K130 (own_Pl1 f131 (hw _ (List.mem_of_getElem? (i := 1) rfl)) (by decide)))
              have f141 := ((Y125.keep K128 (fun _ q => nomatch q)).keep K130 (own_Pl1 f131 (hw _ (List.mem_of_getElem? (i := 1) rfl)) (by decide)))
              have f142 := (Y128.keep K130 (own_Pl1 f131 (hw _ (List.mem_of_getElem? (i := 1) rfl)) (by decide)))
              have f143 := (own_sta_keep (own_sta_keep f129 K128 own_pl0) K130 (own_pl1 f131))
              have f144 := ((((A107.ext E124).keep K125).keep K128).keep K130)
              obtain ⟨v136, T136, L136, X136, Q136, st136⟩ := own_callV X134 hx hZ (C := "com/example/brigid/brigid/trustcenter/Identifier") (y := (⟨"com/example/brigid/brigid/trustcenter/Identifier", "equals", "(Ljava/lang/Object;)Z"⟩ : MethodName)) hown (hw _ (List.mem_of_getElem? (i := 51) rfl)) (hw _ (List.mem_of_getElem? (i := 52) rfl)) (hw _ (List.mem_of_getElem? (i := 54) rfl)) (hw _ (List.mem_of_getElem? (i := 53) rfl)) (hw _ (List.mem_of_getElem? (i := 2) rfl)) (hw _ (List.mem_of_getElem? (i := 55) rfl)) (by decide) (W := 0) (rest := []) (argsL := [(.ref b124)]) (a := b101) (rmEI l Z a0 hw [] b101 b124 a102 a105 a125 a128 n102 n105 n125 n128 g102 g105 g125 g128 cs T130.heap n0 (by omega) A130 f137 f138 Fd130 Fi130 f139 f140 f141 f142 G102.n4 G105.n4 G125.n4 G128.n4 f143 hcs) (by decide) (by decide) (by decide) (by decide) e134 f144 own_pd6 rfl (g := (mkF m 159 #[iv p0, iv p1, iv p2, iv p3, iv p4, iv x5, iv x6, rv b101, iv (p4 &&& (3 : Int32)), rv b124, iv (0 : Int32)] [(.ref b124), (.ref b101)])) rfl (by rw [hml]; rfl) rfl (by show 2 * 0 + _ ≤ _; exact Nat.le_of_eq rfl) (hb hby at_159)
              obtain ⟨r136, rfl, hr136, N136q, e136⟩ := Q136
              have o136 := own_01 hr136
              have i136 := (own_iff hr136).trans (and_congr (own_same_iff G102 G125) (own_same_iff G105 G128))
              have j136 := fun q => i134.symm.mp ((i136.mp q).1)
              have N136 := Fr.app N134 N136q
              refine own_stW st136 ?_
              show own_GoesW p e below s _ _ (T136.setTop (mkF m 162 #[iv p0, iv p1, iv p2, iv p3, iv p4, iv x5, iv x6, rv b101, iv (p4 &&& (3 : Int32)), rv b124, iv (0 : Int32)] [(.int r136)]))
              refine own_stW (fun _ k => XS.iload X136.here hx rfl (hb hby at_162) rfl  k) ?_
              show own_GoesW p e below s _ _ (T136.setTop (mkF m 164 #[iv p0, iv p1, iv p2, iv p3, iv p4, iv x5, iv x6, rv b101, iv (p4 &&& (3 : Int32)), rv b124, iv (0 : Int32)] [(.int (0 : Int32)), (.int r136)]))
              by_cases c145 : r136 = (0 : Int32)
              · have c145i : r136.toInt = 0 := own_i_eq c145
                refine own_stW (fun _ k => XS.icmpNo X136.here hx rfl (hb hby at_164) rfl (teq c145).2 k) ?_
                show own_GoesW p e below s _ _ (T136.setTop (mkF m 167 #[iv p0, iv p1, iv p2, iv p3, iv p4, iv x5, iv x6, rv b101, iv (p4 &&& (3 : Int32)), rv b124, iv (0 : Int32)] []))
                refine own_stW (fun _ k => XS.aload X136.here hx rfl (hb hby at_167) rfl rfl  k) ?_
                show own_GoesW p e below s _ _ (T136.setTop (mkF m 169 #[iv p0, iv p1, iv p2, iv p3, iv p4, iv x5, iv x6, rv b101, iv (p4 &&& (3 : Int32)), rv b124, iv (0 : Int32)] [(.ref b124)]))
                refine own_stW (fun _ k => XS.aload X136.here hx rfl (hb hby at_169) rfl rfl  k) ?_
                show own_GoesW p e below s _ _ (T136.setTop (mkF m 171 #[iv p0, iv p1, iv p2, iv p3, iv p4, iv x5, iv x6, rv b101, iv (p4 &&& (3 : Int32)), rv b124, iv (0 : Int32)] [(.ref b101), (.ref b124)]))
                obtain ⟨v146, T146, L146, X146, Q146, st146⟩ := own_callV X136 hx hZ (C := "com/example/brigid/brigid/trustcenter/Identifier") (y := (⟨"com/example/brigid/brigid/trustcenter/Identifier", "equals", "(Ljava/lang/Object;)Z"⟩ : MethodName)) hown (hw _ (List.mem_of_getElem? (i := 51) rfl)) (hw _ (List.mem_of_getElem? (i := 52) rfl)) (hw _ (List.mem_of_getElem? (i := 54) rfl)) (hw _ (List.mem_of_getElem? (i := 53) rfl)) (hw _ (List.mem_of_getElem? (i := 2) rfl)) (hw _ (List.mem_of_getElem? (i := 55) rfl)) (by decide) (W := 0) (rest := []) (argsL := [(.ref b101)]) (a := b124) (rmEI l Z a0 hw [] b124 b101 a125 a128 a102 a105 n125 n128 n102 n105 g125 g128 g102 g105 cs T130.heap n0 (by omega) f144 Fd130 Fi130 f137 f138 f141 f142 f139 f140 G125.n4 G128.n4 G102.n4 G105.n4 f143 hcs) (by decide) (by decide) (by decide) (by decide) e136 A130 own_pd6 rfl (g := (mkF m 171 #[iv p0, iv p1, iv p2, iv p3, iv p4, iv x5, iv x6, rv b101, iv (p4 &&& (3 : Int32)), rv b124, iv (0 : Int32)] [(.ref b101), (.ref b124)])) rfl (by rw [hml]; rfl) rfl (by show 2 * 0 + _ ≤ _; exact Nat.le_of_eq rfl) (hb hby at_171)
                obtain ⟨r146, rfl, hr146, N146q, e146⟩ := Q146
                have o146 := own_01 hr146
                have i146 := (own_iff hr146).trans (and_congr (own_same_iff G125 G102) (own_same_iff G128 G105))
                have j146 := fun q => (own_SAME_comm.trans i134.symm).mp ((i146.mp q).1)
                have N146 := Fr.app N136 N146q
                refine own_stW st146 ?_
                show own_GoesW p e below s _ _ (T146.setTop (mkF m 174 #[iv p0, iv p1, iv p2, iv p3, iv p4, iv x5, iv x6, rv b101, iv (p4 &&& (3 : Int32)), rv b124, iv (0 : Int32)] [(.int r146)]))
                refine own_stW (fun _ k => XS.iload X146.here hx rfl (hb hby at_174) rfl  k) ?_
                show own_GoesW p e below s _ _ (T146.setTop (mkF m 176 #[iv p0, iv p1, iv p2, iv p3, iv p4, iv x5, iv x6, rv b101, iv (p4 &&& (3 : Int32)), rv b124, iv (0 : Int32)] [(.int (0 : Int32)), (.int r146)]))
                by_cases c147 : r146 = (0 : Int32)
                · have c147i : r146.toInt = 0 := own_i_eq c147
                  refine own_stW (fun _ k => XS.icmpNo X146.here hx rfl (hb hby at_176) rfl (teq c147).2 k) ?_
                  show own_GoesW p e below s _ _ (T146.setTop (mkF m 179 #[iv p0, iv p1, iv p2, iv p3, iv p4, iv x5, iv x6, rv b101, iv (p4 &&& (3 : Int32)), rv b124, iv (0 : Int32)] []))
                  refine own_stW (fun _ k => XS.iconst X146.here hx rfl (hb hby at_179) k) ?_
                  show own_GoesW p e below s _ _ (T146.setTop (mkF m 180 #[iv p0, iv p1, iv p2, iv p3, iv p4, iv x5, iv x6, rv b101, iv (p4 &&& (3 : Int32)), rv b124, iv (0 : Int32)] [(.int (1 : Int32))]))
                  refine own_stW (fun _ k => XS.goto X146.here hx rfl (pc0 := 180) (pc' := 184) rfl (hb hby at_180) (by decide) (by decide) k) ?_
                  show own_GoesW p e below s _ _ (T146.setTop (mkF m 184 #[iv p0, iv p1, iv p2, iv p3, iv p4, iv x5, iv x6, rv b101, iv (p4 &&& (3 : Int32)), rv b124, iv (0 : Int32)] [(.int (1 : Int32))]))
                  exact own_retNW X146 hx hS (by rw [e146]; omega) hlk (1 : Int32) hret (Or.inl rfl) rfl (hb hby at_184) (by decide) (by decide) ⟨rfl, N146⟩
                · have c147i : ¬ r146.toInt = 0 := own_i_ne c147
                  exfalso; omega
              · have c145i : ¬ r136.toInt = 0 := own_i_ne c145
                exfalso; omega
            · have c135i : ¬ r134.toInt = 0 := own_i_ne c135
              refine own_stW (fun _ k => XS.ifNo X134.here hx rfl (hb hby at_136) rfl ((if0 _ _).trans (feq c135).1) k) ?_
              show own_GoesW p e below s _ _ (T134.setTop (mkF m 139 #[iv p0, iv p1, iv p2, iv p3, iv p4, iv x5, iv x6, rv b101, iv (p4 &&& (3 : Int32)), rv b124, .unset] []))
              refine own_stW (fun _ k => XS.iloadN X134.here hx rfl (hb hby at_139) rfl  k) ?_
              show own_GoesW p e below s _ _ (T134.setTop (mkF m 140 #[iv p0, iv p1, iv p2, iv p3, iv p4, iv x5, iv x6, rv b101, iv (p4 &&& (3 : Int32)), rv b124, .unset] [(.int p1)]))
              refine own_stW (fun _ k => XS.iload X134.here hx rfl (hb hby at_140) rfl  k) ?_
              show own_GoesW p e below s _ _ (T134.setTop (mkF m 142 #[iv p0, iv p1, iv p2, iv p3, iv p4, iv x5, iv x6, rv b101, iv (p4 &&& (3 : Int32)), rv b124, .unset] [(.int x6), (.int p1)]))
              obtain ⟨v148, T148, L148, X148, Q148, st148⟩ := own_callS X134 hx hZ (y := (⟨"com/example/brigid/brigid/trustcenter/IdentifierEqualsPinLaw", "same", "(II)Z"⟩ : MethodName)) hown (hw _ (List.mem_of_getElem? (i := 48) rfl)) (hw _ (List.mem_of_getElem? (i := 49) rfl)) (hw _ (List.mem_of_getElem? (i := 5) rfl)) (hw _ (List.mem_of_getElem? (i := 50) rfl)) (by decide) (W := 0) (rest := []) (argsL := [(.int p1), (.int x6)]) (rmSame l Z a0 hw [] p1 x6 T130.heap n0 (by omega)) (by decide) (by decide) (by decide) (by decide) e134 own_pd9 rfl (g := (mkF m 142 #[iv p0, iv p1, iv p2, iv p3, iv p4, iv x5, iv x6, rv b101, iv (p4 &&& (3 : Int32)), rv b124, .unset] [(.int x6), (.int p1)])) rfl (by rw [hml]; rfl) rfl (by show 2 * 0 + _ ≤ _; exact Nat.le_of_eq rfl) (hb hby at_142)
              obtain ⟨r148, rfl, hr148, N148q, e148⟩ := Q148
              have i148 := own_iff hr148
              have o148 := own_01 hr148
              have N148 := Fr.app N134 N148q
              refine own_stW st148 ?_
              show own_GoesW p e below s _ _ (T148.setTop (mkF m 145 #[iv p0, iv p1, iv p2, iv p3, iv p4, iv x5, iv x6, rv b101, iv (p4 &&& (3 : Int32)), rv b124, .unset] [(.int r148)]))
              by_cases c149 : r148 = (0 : Int32)
              · have c149i : r148.toInt = 0 := own_i_eq c149
                refine own_stW (fun _ k => XS.ifYes X148.here hx rfl (pc0 := 145) (pc' := 152) rfl (hb hby at_145) rfl ((if0 _ _).trans (teq c149).1) (by decide) (by decide) k) ?_
                show own_GoesW p e below s _ _ (T148.setTop (mkF m 152 #[iv p0, iv p1, iv p2, iv p3, iv p4, iv x5, iv x6, rv b101, iv (p4 &&& (3 : Int32)), rv b124, .unset] []))
                refine own_stW (fun _ k => XS.iconst X148.here hx rfl (hb hby at_152) k) ?_
                show own_GoesW p e below s _ _ (T148.setTop (mkF m 153 #[iv p0, iv p1, iv p2, iv p3, iv p4, iv x5, iv x6, rv b101, iv (p4 &&& (3 : Int32)), rv b124, .unset] [(.int (0 : Int32))]))
                refine own_stW (fun _ k => XS.istore X148.here hx rfl (hb hby at_153) rfl (l' := #[iv p0, iv p1, iv p2, iv p3, iv p4, iv x5, iv x6, rv b101, iv (p4 &&& (3 : Int32)), rv b124, iv (0 : Int32)]) rfl k) ?_
                show own_GoesW p e below s _ _ (T148.setTop (mkF m 155 #[iv p0, iv p1, iv p2, iv p3, iv p4, iv x5, iv x6, rv b101, iv (p4 &&& (3 : Int32)), rv b124, iv (0 : Int32)] []))
                refine own_stW (fun _ k => XS.aload X148.here hx rfl (hb hby at_155) rfl rfl  k) ?_
                show own_GoesW p e below s _ _ (T148.setTop (mkF m 157 #[iv p0, iv p1, iv p2, iv p3, iv p4, iv x5, iv x6, rv b101, iv (p4 &&& (3 : Int32)), rv b124, iv (0 : Int32)] [(.ref b101)]))
                refine own_stW (fun _ k => XS.aload X148.here hx rfl (hb hby at_157) rfl rfl  k) ?_
                show own_GoesW p e below s _ _ (T148.setTop (mkF m 159 #[iv p0, iv p1, iv p2, iv p3, iv p4, iv x5, iv x6, rv b101, iv (p4 &&& (3 : Int32)), rv b124, iv (0 : Int32)] [(.ref b124), (.ref b101)]))
                have f151 := ((((Fd107.ext E124).keep K125 nin0).keep K128 nin0).keep K130 (ninS (own_ne (by omega)) nin0))
                have f152 := ((((Fi107.ext E124).keep K125 nin0).keep K128 nin0).keep K130 (ninS (own_ne (by omega)) nin0))
                have f153 := ((((((Y102.keep K105 (fun _ q => nomatch q)).keep K107 (own_Pl1 f108 (hw _ (List.mem_of_getElem? (i := 1) rfl)) (by decide))).ext E124).keep K125 (fun _ q => nomatch q)).keep K128 (fun _ q => nomatch q)).keep K130 (own_Pl1 f131 (hw _ (List.mem_of_getElem? (i := 1) rfl)) (by decide)))
                have f154 := (((((Y105.keep K107 (own_Pl1 f108 (hw _ (List.mem_of_getElem? (i := 1) rfl)) (by decide))).ext E124).keep K125 (fun _ q => nomatch q)).keep K128 (fun _ q => nomatch q)).keep K130 (own_Pl1 f131 (hw _ (List.mem_of_getElem? (i := 1) rfl)) (by decide)))
                have f155 := ((Y125.keep K128 (fun _ q => nomatch q)).keep K130 (own_Pl1 f131 (hw _ (List.mem_of_getElem? (i := 1) rfl)) (by decide)))
                have f156 := (Y128.keep K130 (own_Pl1 f131 (hw _ (List.mem_of_getElem? (i := 1) rfl)) (by decide)))
                have f157 := (own_sta_keep (own_sta_keep f129 K128 own_pl0) K130 (own_pl1 f131))
                have f158 := ((((A107.ext E124).keep K125).keep K128).keep K130)
                obtain ⟨v150, T150, L150, X150, Q150, st150⟩ := own_callV X148 hx hZ (C := "com/example/brigid/brigid/trustcenter/Identifier") (y := (⟨"com/example/brigid/brigid/trustcenter/Identifier", "equals", "(Ljava/lang/Object;)Z"⟩ : MethodName)) hown (hw _ (List.mem_of_getElem? (i := 51) rfl)) (hw _ (List.mem_of_getElem? (i := 52) rfl)) (hw _ (List.mem_of_getElem? (i := 54) rfl)) (hw _ (List.mem_of_getElem? (i := 53) rfl)) (hw _ (List.mem_of_getElem? (i := 2) rfl)) (hw _ (List.mem_of_getElem? (i := 55) rfl)) (by decide) (W := 0) (rest := []) (argsL := [(.ref b124)]) (a := b101) (rmEI l Z a0 hw [] b101 b124 a102 a105 a125 a128 n102 n105 n125 n128 g102 g105 g125 g128 cs T130.heap n0 (by omega) A130 f151 f152 Fd130 Fi130 f153 f154 f155 f156 G102.n4 G105.n4 G125.n4 G128.n4 f157 hcs) (by decide) (by decide) (by decide) (by decide) e148 f158 own_pd6 rfl (g := (mkF m 159 #[iv p0, iv p1, iv p2, iv p3, iv p4, iv x5, iv x6, rv b101, iv (p4 &&& (3 : Int32)), rv b124, iv (0 : Int32)] [(.ref b124), (.ref b101)])) rfl (by rw [hml]; rfl) rfl (by show 2 * 0 + _ ≤ _; exact Nat.le_of_eq rfl) (hb hby at_159)
                obtain ⟨r150, rfl, hr150, N150q, e150⟩ := Q150
                have o150 := own_01 hr150
                have i150 := (own_iff hr150).trans (and_congr (own_same_iff G102 G125) (own_same_iff G105 G128))
                have j150 := i150.trans (and_congr i134.symm i148.symm)
                have N150 := Fr.app N148 N150q
                refine own_stW st150 ?_
                show own_GoesW p e below s _ _ (T150.setTop (mkF m 162 #[iv p0, iv p1, iv p2, iv p3, iv p4, iv x5, iv x6, rv b101, iv (p4 &&& (3 : Int32)), rv b124, iv (0 : Int32)] [(.int r150)]))
                refine own_stW (fun _ k => XS.iload X150.here hx rfl (hb hby at_162) rfl  k) ?_
                show own_GoesW p e below s _ _ (T150.setTop (mkF m 164 #[iv p0, iv p1, iv p2, iv p3, iv p4, iv x5, iv x6, rv b101, iv (p4 &&& (3 : Int32)), rv b124, iv (0 : Int32)] [(.int (0 : Int32)), (.int r150)]))
                by_cases c159 : r150 = (0 : Int32)
                · have c159i : r150.toInt = 0 := own_i_eq c159
                  refine own_stW (fun _ k => XS.icmpNo X150.here hx rfl (hb hby at_164) rfl (teq c159).2 k) ?_
                  show own_GoesW p e below s _ _ (T150.setTop (mkF m 167 #[iv p0, iv p1, iv p2, iv p3, iv p4, iv x5, iv x6, rv b101, iv (p4 &&& (3 : Int32)), rv b124, iv (0 : Int32)] []))
                  refine own_stW (fun _ k => XS.aload X150.here hx rfl (hb hby at_167) rfl rfl  k) ?_
                  show own_GoesW p e below s _ _ (T150.setTop (mkF m 169 #[iv p0, iv p1, iv p2, iv p3, iv p4, iv x5, iv x6, rv b101, iv (p4 &&& (3 : Int32)), rv b124, iv (0 : Int32)] [(.ref b124)]))
                  refine own_stW (fun _ k => XS.aload X150.here hx rfl (hb hby at_169) rfl rfl  k) ?_
                  show own_GoesW p e below s _ _ (T150.setTop (mkF m 171 #[iv p0, iv p1, iv p2, iv p3, iv p4, iv x5, iv x6, rv b101, iv (p4 &&& (3 : Int32)), rv b124, iv (0 : Int32)] [(.ref b101), (.ref b124)]))
                  obtain ⟨v160, T160, L160, X160, Q160, st160⟩ := own_callV X150 hx hZ (C := "com/example/brigid/brigid/trustcenter/Identifier") (y := (⟨"com/example/brigid/brigid/trustcenter/Identifier", "equals", "(Ljava/lang/Object;)Z"⟩ : MethodName)) hown (hw _ (List.mem_of_getElem? (i := 51) rfl)) (hw _ (List.mem_of_getElem? (i := 52) rfl)) (hw _ (List.mem_of_getElem? (i := 54) rfl)) (hw _ (List.mem_of_getElem? (i := 53) rfl)) (hw _ (List.mem_of_getElem? (i := 2) rfl)) (hw _ (List.mem_of_getElem? (i := 55) rfl)) (by decide) (W := 0) (rest := []) (argsL := [(.ref b101)]) (a := b124) (rmEI l Z a0 hw [] b124 b101 a125 a128 a102 a105 n125 n128 n102 n105 g125 g128 g102 g105 cs T130.heap n0 (by omega) f158 Fd130 Fi130 f151 f152 f155 f156 f153 f154 G125.n4 G128.n4 G102.n4 G105.n4 f157 hcs) (by decide) (by decide) (by decide) (by decide) e150 A130 own_pd6 rfl (g := (mkF m 171 #[iv p0, iv p1, iv p2, iv p3, iv p4, iv x5, iv x6, rv b101, iv (p4 &&& (3 : Int32)), rv b124, iv (0 : Int32)] [(.ref b101), (.ref b124)])) rfl (by rw [hml]; rfl) rfl (by show 2 * 0 + _ ≤ _; exact Nat.le_of_eq rfl) (hb hby at_171)
                  obtain ⟨r160, rfl, hr160, N160q, e160⟩ := Q160
                  have o160 := own_01 hr160
                  have i160 := (own_iff hr160).trans (and_congr (own_same_iff G125 G102) (own_same_iff G128 G105))
                  have j160 := i160.trans (and_congr (own_SAME_comm.trans i134.symm) (own_SAME_comm.trans i148.symm))
                  have N160 := Fr.app N150 N160q
                  refine own_stW st160 ?_
                  show own_GoesW p e below s _ _ (T160.setTop (mkF m 174 #[iv p0, iv p1, iv p2, iv p3, iv p4, iv x5, iv x6, rv b101, iv (p4 &&& (3 : Int32)), rv b124, iv (0 : Int32)] [(.int r160)]))
                  refine own_stW (fun _ k => XS.iload X160.here hx rfl (hb hby at_174) rfl  k) ?_
                  show own_GoesW p e below s _ _ (T160.setTop (mkF m 176 #[iv p0, iv p1, iv p2, iv p3, iv p4, iv x5, iv x6, rv b101, iv (p4 &&& (3 : Int32)), rv b124, iv (0 : Int32)] [(.int (0 : Int32)), (.int r160)]))
                  by_cases c161 : r160 = (0 : Int32)
                  · have c161i : r160.toInt = 0 := own_i_eq c161
                    refine own_stW (fun _ k => XS.icmpNo X160.here hx rfl (hb hby at_176) rfl (teq c161).2 k) ?_
                    show own_GoesW p e below s _ _ (T160.setTop (mkF m 179 #[iv p0, iv p1, iv p2, iv p3, iv p4, iv x5, iv x6, rv b101, iv (p4 &&& (3 : Int32)), rv b124, iv (0 : Int32)] []))
                    refine own_stW (fun _ k => XS.iconst X160.here hx rfl (hb hby at_179) k) ?_
                    show own_GoesW p e below s _ _ (T160.setTop (mkF m 180 #[iv p0, iv p1, iv p2, iv p3, iv p4, iv x5, iv x6, rv b101, iv (p4 &&& (3 : Int32)), rv b124, iv (0 : Int32)] [(.int (1 : Int32))]))
                    refine own_stW (fun _ k => XS.goto X160.here hx rfl (pc0 := 180) (pc' := 184) rfl (hb hby at_180) (by decide) (by decide) k) ?_
                    show own_GoesW p e below s _ _ (T160.setTop (mkF m 184 #[iv p0, iv p1, iv p2, iv p3, iv p4, iv x5, iv x6, rv b101, iv (p4 &&& (3 : Int32)), rv b124, iv (0 : Int32)] [(.int (1 : Int32))]))
                    exact own_retNW X160 hx hS (by rw [e160]; omega) hlk (1 : Int32) hret (Or.inl rfl) rfl (hb hby at_184) (by decide) (by decide) ⟨rfl, N160⟩
                  · have c161i : ¬ r160.toInt = 0 := own_i_ne c161
                    exfalso; omega
                · have c159i : ¬ r150.toInt = 0 := own_i_ne c159
                  exfalso; omega
              · have c149i : ¬ r148.toInt = 0 := own_i_ne c149
                refine own_stW (fun _ k => XS.ifNo X148.here hx rfl (hb hby at_145) rfl ((if0 _ _).trans (feq c149).1) k) ?_
                show own_GoesW p e below s _ _ (T148.setTop (mkF m 148 #[iv p0, iv p1, iv p2, iv p3, iv p4, iv x5, iv x6, rv b101, iv (p4 &&& (3 : Int32)), rv b124, .unset] []))
                refine own_stW (fun _ k => XS.iconst X148.here hx rfl (hb hby at_148) k) ?_
                show own_GoesW p e below s _ _ (T148.setTop (mkF m 149 #[iv p0, iv p1, iv p2, iv p3, iv p4, iv x5, iv x6, rv b101, iv (p4 &&& (3 : Int32)), rv b124, .unset] [(.int (1 : Int32))]))
                refine own_stW (fun _ k => XS.goto X148.here hx rfl (pc0 := 149) (pc' := 153) rfl (hb hby at_149) (by decide) (by decide) k) ?_
                show own_GoesW p e below s _ _ (T148.setTop (mkF m 153 #[iv p0, iv p1, iv p2, iv p3, iv p4, iv x5, iv x6, rv b101, iv (p4 &&& (3 : Int32)), rv b124, .unset] [(.int (1 : Int32))]))
                refine own_stW (fun _ k => XS.istore X148.here hx rfl (hb hby at_153) rfl (l' := #[iv p0, iv p1, iv p2, iv p3, iv p4, iv x5, iv x6, rv b101, iv (p4 &&& (3 : Int32)), rv b124, iv (1 : Int32)]) rfl k) ?_
                show own_GoesW p e below s _ _ (T148.setTop (mkF m 155 #[iv p0, iv p1, iv p2, iv p3, iv p4, iv x5, iv x6, rv b101, iv (p4 &&& (3 : Int32)), rv b124, iv (1 : Int32)] []))
                refine own_stW (fun _ k => XS.aload X148.here hx rfl (hb hby at_155) rfl rfl  k) ?_
                show own_GoesW p e below s _ _ (T148.setTop (mkF m 157 #[iv p0, iv p1, iv p2, iv p3, iv p4, iv x5, iv x6, rv b101, iv (p4 &&& (3 : Int32)), rv b124, iv (1 : Int32)] [(.ref b101)]))
                refine own_stW (fun _ k => XS.aload X148.here hx rfl (hb hby at_157) rfl rfl  k) ?_
                show own_GoesW p e below s _ _ (T148.setTop (mkF m 159 #[iv p0, iv p1, iv p2, iv p3, iv p4, iv x5, iv x6, rv b101, iv (p4 &&& (3 : Int32)), rv b124, iv (1 : Int32)] [(.ref b124), (.ref b101)]))
                have f163 := ((((Fd107.ext E124).keep K125 nin0).keep K128 nin0).keep K130 (ninS (own_ne (by omega)) nin0))
                have f164 := ((((Fi107.ext E124).keep K125 nin0).keep K128 nin0).keep K130 (ninS (own_ne (by omega)) nin0))
                have f165 := ((((((Y102.keep K105 (fun _ q => nomatch q)).keep K107 (own_Pl1 f108 (hw _ (List.mem_of_getElem? (i := 1) rfl)) (by decide))).ext E124).keep K125 (fun _ q => nomatch q)).keep K128 (fun _ q => nomatch q)).keep K130 (own_Pl1 f131 (hw _ (List.mem_of_getElem? (i := 1) rfl)) (by decide)))
                have f166 := (((((Y105.keep K107 (own_Pl1 f108 (hw _ (List.mem_of_getElem? (i := 1) rfl)) (by decide))).ext E124).keep K125 (fun _ q => nomatch q)).keep K128 (fun _ q => nomatch q)).keep K130 (own_Pl1 f131 (hw _ (List.mem_of_getElem? (i := 1) rfl)) (by decide)))
                have f167 := ((Y125.keep K128 (fun _ q => nomatch q)).keep K130 (own_Pl1 f131 (hw _ (List.mem_of_getElem? (i := 1) rfl)) (by decide)))
                have f168 := (Y128.keep K130 (own_Pl1 f131 (hw _ (List.mem_of_getElem? (i := 1) rfl)) (by decide)))
                have f169 := (own_sta_keep (own_sta_keep f129 K128 own_pl0) K130 (own_pl1 f131))
                have f170 := ((((A107.ext E124).keep K125).keep K128).keep K130)
                obtain ⟨v162, T162, L162, X162, Q162, st162⟩ := own_callV X148 hx hZ (C := "com/example/brigid/brigid/trustcenter/Identifier") (y := (⟨"com/example/brigid/brigid/trustcenter/Identifier", "equals", "(Ljava/lang/Object;)Z"⟩ : MethodName)) hown (hw _ (List.mem_of_getElem? (i := 51) rfl)) (hw _ (List.mem_of_getElem? (i := 52) rfl)) (hw _ (List.mem_of_getElem? (i := 54) rfl)) (hw _ (List.mem_of_getElem? (i := 53) rfl)) (hw _ (List.mem_of_getElem? (i := 2) rfl)) (hw _ (List.mem_of_getElem? (i := 55) rfl)) (by decide) (W := 0) (rest := []) (argsL := [(.ref b124)]) (a := b101) (rmEI l Z a0 hw [] b101 b124 a102 a105 a125 a128 n102 n105 n125 n128 g102 g105 g125 g128 cs T130.heap n0 (by omega) A130 f163 f164 Fd130 Fi130 f165 f166 f167 f168 G102.n4 G105.n4 G125.n4 G128.n4 f169 hcs) (by decide) (by decide) (by decide) (by decide) e148 f170 own_pd6 rfl (g := (mkF m 159 #[iv p0, iv p1, iv p2, iv p3, iv p4, iv x5, iv x6, rv b101, iv (p4 &&& (3 : Int32)), rv b124, iv (1 : Int32)] [(.ref b124), (.ref b101)])) rfl (by rw [hml]; rfl) rfl (by show 2 * 0 + _ ≤ _; exact Nat.le_of_eq rfl) (hb hby at_159)
                obtain ⟨r162, rfl, hr162, N162q, e162⟩ := Q162
                have o162 := own_01 hr162
                have i162 := (own_iff hr162).trans (and_congr (own_same_iff G102 G125) (own_same_iff G105 G128))
                have j162 := i162.trans (and_congr i134.symm i148.symm)
                have N162 := Fr.app N148 N162q
                refine own_stW st162 ?_
                show own_GoesW p e below s _ _ (T162.setTop (mkF m 162 #[iv p0, iv p1, iv p2, iv p3, iv p4, iv x5, iv x6, rv b101, iv (p4 &&& (3 : Int32)), rv b124, iv (1 : Int32)] [(.int r162)]))
                refine own_stW (fun _ k => XS.iload X162.here hx rfl (hb hby at_162) rfl  k) ?_
                show own_GoesW p e below s _ _ (T162.setTop (mkF m 164 #[iv p0, iv p1, iv p2, iv p3, iv p4, iv x5, iv x6, rv b101, iv (p4 &&& (3 : Int32)), rv b124, iv (1 : Int32)] [(.int (1 : Int32)), (.int r162)]))
                by_cases c171 : r162 = (1 : Int32)
                · have c171i : r162.toInt = 1 := own_i_eq c171
                  refine own_stW (fun _ k => XS.icmpNo X162.here hx rfl (hb hby at_164) rfl (teq c171).2 k) ?_
                  show own_GoesW p e below s _ _ (T162.setTop (mkF m 167 #[iv p0, iv p1, iv p2, iv p3, iv p4, iv x5, iv x6, rv b101, iv (p4 &&& (3 : Int32)), rv b124, iv (1 : Int32)] []))
                  refine own_stW (fun _ k => XS.aload X162.here hx rfl (hb hby at_167) rfl rfl  k) ?_
                  show own_GoesW p e below s _ _ (T162.setTop (mkF m 169 #[iv p0, iv p1, iv p2, iv p3, iv p4, iv x5, iv x6, rv b101, iv (p4 &&& (3 : Int32)), rv b124, iv (1 : Int32)] [(.ref b124)]))
                  refine own_stW (fun _ k => XS.aload X162.here hx rfl (hb hby at_169) rfl rfl  k) ?_
                  show own_GoesW p e below s _ _ (T162.setTop (mkF m 171 #[iv p0, iv p1, iv p2, iv p3, iv p4, iv x5, iv x6, rv b101, iv (p4 &&& (3 : Int32)), rv b124, iv (1 : Int32)] [(.ref b101), (.ref b124)]))
                  obtain ⟨v172, T172, L172, X172, Q172, st172⟩ := own_callV X162 hx hZ (C := "com/example/brigid/brigid/trustcenter/Identifier") (y := (⟨"com/example/brigid/brigid/trustcenter/Identifier", "equals", "(Ljava/lang/Object;)Z"⟩ : MethodName)) hown (hw _ (List.mem_of_getElem? (i := 51) rfl)) (hw _ (List.mem_of_getElem? (i := 52) rfl)) (hw _ (List.mem_of_getElem? (i := 54) rfl)) (hw _ (List.mem_of_getElem? (i := 53) rfl)) (hw _ (List.mem_of_getElem? (i := 2) rfl)) (hw _ (List.mem_of_getElem? (i := 55) rfl)) (by decide) (W := 0) (rest := []) (argsL := [(.ref b101)]) (a := b124) (rmEI l Z a0 hw [] b124 b101 a125 a128 a102 a105 n125 n128 n102 n105 g125 g128 g102 g105 cs T130.heap n0 (by omega) f170 Fd130 Fi130 f163 f164 f167 f168 f165 f166 G125.n4 G128.n4 G102.n4 G105.n4 f169 hcs) (by decide) (by decide) (by decide) (by decide) e162 A130 own_pd6 rfl (g := (mkF m 171 #[iv p0, iv p1, iv p2, iv p3, iv p4, iv x5, iv x6, rv b101, iv (p4 &&& (3 : Int32)), rv b124, iv (1 : Int32)] [(.ref b101), (.ref b124)])) rfl (by rw [hml]; rfl) rfl (by show 2 * 0 + _ ≤ _; exact Nat.le_of_eq rfl) (hb hby at_171)
                  obtain ⟨r172, rfl, hr172, N172q, e172⟩ := Q172
                  have o172 := own_01 hr172
                  have i172 := (own_iff hr172).trans (and_congr (own_same_iff G125 G102) (own_same_iff G128 G105))
                  have j172 := i172.trans (and_congr (own_SAME_comm.trans i134.symm) (own_SAME_comm.trans i148.symm))
                  have N172 := Fr.app N162 N172q
                  refine own_stW st172 ?_
                  show own_GoesW p e below s _ _ (T172.setTop (mkF m 174 #[iv p0, iv p1, iv p2, iv p3, iv p4, iv x5, iv x6, rv b101, iv (p4 &&& (3 : Int32)), rv b124, iv (1 : Int32)] [(.int r172)]))
                  refine own_stW (fun _ k => XS.iload X172.here hx rfl (hb hby at_174) rfl  k) ?_
                  show own_GoesW p e below s _ _ (T172.setTop (mkF m 176 #[iv p0, iv p1, iv p2, iv p3, iv p4, iv x5, iv x6, rv b101, iv (p4 &&& (3 : Int32)), rv b124, iv (1 : Int32)] [(.int (1 : Int32)), (.int r172)]))
                  by_cases c173 : r172 = (1 : Int32)
                  · have c173i : r172.toInt = 1 := own_i_eq c173
                    refine own_stW (fun _ k => XS.icmpNo X172.here hx rfl (hb hby at_176) rfl (teq c173).2 k) ?_
                    show own_GoesW p e below s _ _ (T172.setTop (mkF m 179 #[iv p0, iv p1, iv p2, iv p3, iv p4, iv x5, iv x6, rv b101, iv (p4 &&& (3 : Int32)), rv b124, iv (1 : Int32)] []))
                    refine own_stW (fun _ k => XS.iconst X172.here hx rfl (hb hby at_179) k) ?_
                    show own_GoesW p e below s _ _ (T172.setTop (mkF m 180 #[iv p0, iv p1, iv p2, iv p3, iv p4, iv x5, iv x6, rv b101, iv (p4 &&& (3 : Int32)), rv b124, iv (1 : Int32)] [(.int (1 : Int32))]))
                    refine own_stW (fun _ k => XS.goto X172.here hx rfl (pc0 := 180) (pc' := 184) rfl (hb hby at_180) (by decide) (by decide) k) ?_
                    show own_GoesW p e below s _ _ (T172.setTop (mkF m 184 #[iv p0, iv p1, iv p2, iv p3, iv p4, iv x5, iv x6, rv b101, iv (p4 &&& (3 : Int32)), rv b124, iv (1 : Int32)] [(.int (1 : Int32))]))
                    exact own_retNW X172 hx hS (by rw [e172]; omega) hlk (1 : Int32) hret (Or.inl rfl) rfl (hb hby at_184) (by decide) (by decide) ⟨rfl, N172⟩
                  · have c173i : ¬ r172.toInt = 1 := own_i_ne c173
                    exfalso; omega
                · have c171i : ¬ r162.toInt = 1 := own_i_ne c171
                  exfalso; omega
    refine own_stW (fun _ k => XS.iload X.here hx rfl (hb hby at_14) rfl  k) ?_
    show own_GoesW p e below s _ _ (T.setTop (mkF m 16 #[iv p0, iv p1, iv p2, iv p3, iv p4, iv x5, .unset, .unset, .unset, .unset, .unset] [(.int p4)]))
    refine own_stW (fun _ k => XS.bipush X.here hx rfl (hb hby at_16) k) ?_
    show own_GoesW p e below s _ _ (T.setTop (mkF m 18 #[iv p0, iv p1, iv p2, iv p3, iv p4, iv x5, .unset, .unset, .unset, .unset, .unset] [(.int (8 : Int32)), (.int p4)]))
    refine own_stW (fun _ k => XS.iand X.here hx rfl (hb hby at_18) rfl k) ?_
    show own_GoesW p e below s _ _ (T.setTop (mkF m 19 #[iv p0, iv p1, iv p2, iv p3, iv p4, iv x5, .unset, .unset, .unset, .unset, .unset] [(.int (p4 &&& (8 : Int32)))]))
    by_cases c174 : (p4 &&& (8 : Int32)) = (0 : Int32)
    · have c174i : (p4 &&& (8 : Int32)).toInt = 0 := own_i_eq c174
      refine own_stW (fun _ k => XS.ifYes X.here hx rfl (pc0 := 19) (pc' := 26) rfl (hb hby at_19) rfl ((if0 _ _).trans (teq c174).1) (by decide) (by decide) k) ?_
      show own_GoesW p e below s _ _ (T.setTop (mkF m 26 #[iv p0, iv p1, iv p2, iv p3, iv p4, iv x5, .unset, .unset, .unset, .unset, .unset] []))
      refine own_stW (fun _ k => XS.iloadN X.here hx rfl (hb hby at_26) rfl  k) ?_
      show own_GoesW p e below s _ _ (T.setTop (mkF m 27 #[iv p0, iv p1, iv p2, iv p3, iv p4, iv x5, .unset, .unset, .unset, .unset, .unset] [(.int p3)]))
      exact J27 p3
    · have c174i : ¬ (p4 &&& (8 : Int32)).toInt = 0 := own_i_ne c174
      refine own_stW (fun _ k => XS.ifNo X.here hx rfl (hb hby at_19) rfl ((if0 _ _).trans (feq c174).1) k) ?_
      show own_GoesW p e below s _ _ (T.setTop (mkF m 22 #[iv p0, iv p1, iv p2, iv p3, iv p4, iv x5, .unset, .unset, .unset, .unset, .unset] []))
      refine own_stW (fun _ k => XS.iloadN X.here hx rfl (hb hby at_22) rfl  k) ?_
      show own_GoesW p e below s _ _ (T.setTop (mkF m 23 #[iv p0, iv p1, iv p2, iv p3, iv p4, iv x5, .unset, .unset, .unset, .unset, .unset] [(.int p1)]))
      refine own_stW (fun _ k => XS.goto X.here hx rfl (pc0 := 23) (pc' := 27) rfl (hb hby at_23) (by decide) (by decide) k) ?_
      show own_GoesW p e below s _ _ (T.setTop (mkF m 27 #[iv p0, iv p1, iv p2, iv p3, iv p4, iv x5, .unset, .unset, .unset, .unset, .unset] [(.int p1)]))
      exact J27 p1
  refine own_stW (fun _ k => XS.iload X.here hx rfl (hb hby at_0) rfl  k) ?_
  show own_GoesW p e below s _ _ (T.setTop (mkF m 2 #[iv p0, iv p1, iv p2, iv p3, iv p4, .unset, .unset, .unset, .unset, .unset, .unset] [(.int p4)]))
  refine own_stW (fun _ k => XS.iconst X.here hx rfl (hb hby at_2) k) ?_
  show own_GoesW p e below s _ _ (T.setTop (mkF m 3 #[iv p0, iv p1, iv p2, iv p3, iv p4, .unset, .unset, .unset, .unset, .unset, .unset] [(.int (4 : Int32)), (.int p4)]))
  refine own_stW (fun _ k => XS.iand X.here hx rfl (hb hby at_3) rfl k) ?_
  show own_GoesW p e below s _ _ (T.setTop (mkF m 4 #[iv p0, iv p1, iv p2, iv p3, iv p4, .unset, .unset, .unset, .unset, .unset, .unset] [(.int (p4 &&& (4 : Int32)))]))
  by_cases c175 : (p4 &&& (4 : Int32)) = (0 : Int32)
  · have c175i : (p4 &&& (4 : Int32)).toInt = 0 := own_i_eq c175
    refine own_stW (fun _ k => XS.ifYes X.here hx rfl (pc0 := 4) (pc' := 11) rfl (hb hby at_4) rfl ((if0 _ _).trans (teq c175).1) (by decide) (by decide) k) ?_
    show own_GoesW p e below s _ _ (T.setTop (mkF m 11 #[iv p0, iv p1, iv p2, iv p3, iv p4, .unset, .unset, .unset, .unset, .unset, .unset] []))
    refine own_stW (fun _ k => XS.iloadN X.here hx rfl (hb hby at_11) rfl  k) ?_
    show own_GoesW p e below s _ _ (T.setTop (mkF m 12 #[iv p0, iv p1, iv p2, iv p3, iv p4, .unset, .unset, .unset, .unset, .unset, .unset] [(.int p2)]))
    exact J12 p2
  · have c175i : ¬ (p4 &&& (4 : Int32)).toInt = 0 := own_i_ne c175
    refine own_stW (fun _ k => XS.ifNo X.here hx rfl (hb hby at_4) rfl ((if0 _ _).trans (feq c175).1) k) ?_
    show own_GoesW p e below s _ _ (T.setTop (mkF m 7 #[iv p0, iv p1, iv p2, iv p3, iv p4, .unset, .unset, .unset, .unset, .unset, .unset] []))
    refine own_stW (fun _ k => XS.iloadN X.here hx rfl (hb hby at_7) rfl  k) ?_
    show own_GoesW p e below s _ _ (T.setTop (mkF m 8 #[iv p0, iv p1, iv p2, iv p3, iv p4, .unset, .unset, .unset, .unset, .unset, .unset] [(.int p0)]))
    refine own_stW (fun _ k => XS.goto X.here hx rfl (pc0 := 8) (pc' := 12) rfl (hb hby at_8) (by decide) (by decide) k) ?_
    show own_GoesW p e below s _ _ (T.setTop (mkF m 12 #[iv p0, iv p1, iv p2, iv p3, iv p4, .unset, .unset, .unset, .unset, .unset, .unset] [(.int p0)]))
    exact J12 p0
set_option maxRecDepth 65536 in
set_option maxHeartbeats 40000000 in
theorem comes_1 {Post : Tables → Env → Array Value → State → Outcome → State → Prop} (hpost : ∀ tb e args s v u, (limb_1_1.after args s (.returned v) u = true ∧ limb_1_2.after args s (.returned v) u = true ∧ True) → ReturnedEndW s (.returned v) u (Jvm.fieldLocs frame_1_writes args s ++ Jvm.arrayLocs frame_1_arrays args s ++ Jvm.staticLocs frame_1_statics s) 40 1216 → Post tb e args s (.returned v) u) :
    ArmFor flags0 classFile x code maxLocals ret World_1 tables_1 room_1 Calls_1 rest_1 Pre_1 Post := by
  intro l hfl _ _ p e ha hc hk s m args below hf hA hF happ hP
  obtain ⟨hcalls, hrest, hpre⟩ := hP
  obtain ⟨-, -, -, hnamed, -, -, -, hat⟩ := (Spec.applies_iff hf).mp happ
  obtain ⟨hg, hn⟩ := and_e (Cond.before_iff.mp (show (Jvm.Cond.and given_1 narrow_1).before args s = true from hpre))
  obtain ⟨hcnt, q0⟩ := and_e hg
  obtain ⟨u0, q1⟩ := and_e q0
  obtain ⟨u1, q2⟩ := and_e q1
  obtain ⟨u2, q3⟩ := and_e q2
  obtain ⟨u3, q4⟩ := and_e q3
  obtain ⟨w0, w1, w2, w3, w4, rfl⟩ : ∃ w0 w1 w2 w3 w4 : Value, args = #[w0, w1, w2, w3, w4] := by
    have hs : args.size = 5 := by simpa [Cond.value, given_1] using hcnt
    obtain ⟨L⟩ := args
    match L, hs with
    | [w0, w1, w2, w3, w4], _ => exact ⟨w0, w1, w2, w3, w4, rfl⟩
  have hw := fun d (hd : d ∈ tables_1) => atoms_spec (ws := Jvm.Cond.code x code maxLocals ret :: tables_1) hat d (List.mem_cons_of_mem _ hd)
  have hfit : Fit s := fun {y c} hc i hi => by
    obtain ⟨ha, rfl⟩ := Array.getElem?_eq_some_iff.mp hc
    have q := List.all_eq_true.mp ((Array.all_eq_true_iff_forall_mem.mp hF) _ (Array.getElem_mem ha)) i (List.mem_range.mpr hi)
    simpa [Array.getElem?_eq_getElem hi] using q
  obtain ⟨hsets, hown0⟩ := atoms_of _ (rest_1_c_eq ▸ (show rest_1_c.before _ s = true from hrest))
  obtain ⟨i0, ei0⟩ := is_v u0
  obtain rfl : w0 = (.int i0) := Option.some.inj ei0
  obtain ⟨i1, ei1⟩ := is_v u1
  obtain rfl : w1 = (.int i1) := Option.some.inj ei1
  obtain ⟨i2, ei2⟩ := is_v u2
  obtain rfl : w2 = (.int i2) := Option.some.inj ei2
  obtain ⟨i3, ei3⟩ := is_v u3
  obtain rfl : w3 = (.int i3) := Option.some.inj ei3
  obtain ⟨i4, ei4⟩ := is_v q4
  obtain rfl : w4 = (.int i4) := Option.some.inj ei4
  obtain ⟨cs, S1, hcs⟩ := own_compact (Cond.before_iff.mp (hsets _ (List.mem_of_getElem? (i := 1) rfl))) (Cond.before_iff.mp (hsets _ (List.mem_of_getElem? (i := 2) rfl))) (hsets _ (List.mem_of_getElem? (i := 0) rfl))
  have CH : Jvm.Lit.constHeld s "java/lang/String" 7 := hcalls.1 ("java/lang/String", 7) (by simp [consts_1])
  obtain ⟨n, o, h1, h2, h3, _, L, rfl, ⟨rfl, N⟩, hq⟩ := rm0 l s _ hw tables_1 i0 i1 i2 i3 i4 cs s.heap s.heap.size (Nat.le_refl _) S1 hcs (fun _ _ q => q) CH (hsets _ (List.mem_of_getElem? (i := 2) rfl)) p e ha hc hk s m _ below hf ((Spec.applies_iff_loose hf).mp happ).1 ⟨rfl, State.Warmed39.refl s, rfl, Or.inl IB.start⟩ trivial
  refine ⟨n, _, h1, h2, h3, hpost _ _ _ _ _ _ ⟨Cond.after_iff.mpr rfl, Cond.after_iff.mpr (eq_i res_at (Term.int_eval (1)) rfl), trivial⟩ ⟨hq.1, hq.2.1, hq.2.2.1, (hq.2.2.2.sift fun y hy => Or.inr (N y hy)).mono (by decide) (by decide)⟩⟩
theorem main_1_1 : Claimed_1_1 := comes_1 fun _ _ _ _ _ _ h hF => ⟨h.1, hF⟩
theorem main_1_2 : Claimed_1_2 := comes_1 fun _ _ _ _ _ _ h hF => ⟨h.2.1, hF⟩
end Jvm.Pilot.@@N@@
namespace Jvm.Pilot.@@N@@
open Jvm Jvm.ClassFile Sem Op Lib Jvm.Free Jvm.Stand Jvm.Pilot.@@N@@.Jvm.D
/-! MADE BY PROGRAM (witnessworld.py) out of the Statement's table words and the real class files: 20 classes; the members and pool entries that the words name. The judged class is class 1, her method 1. -/
namespace start1
open Jvm.ClassFile
def u (s : String) : CpInfo := .utf8 (stringToUtf16 s)
/-- a pool by its gaps: so many unusable entries, then the entry; so many at the end -/
def gap : Nat → List CpInfo → List CpInfo
  | 0, r => r
  | n + 1, r => .unusable :: gap n r
def poolList (es : List (Nat × CpInfo)) (last : Nat) : List CpInfo := es.foldr (fun e r => gap e.1 (e.2 :: r)) (gap last [])
def pool (es : List (Nat × CpInfo)) (last : Nat) : Array CpInfo := ⟨poolList es last⟩
def fileOf (pool : Array CpInfo) (this : Nat) (attrs : Array Attribute := #[]) (ms : Array MethodInfo := #[]) (fl : Nat := 33) (sup : Nat := 0) (ifs : Array Nat := #[]) (fds : Array FieldInfo := #[]) : ClassFile where
  minorVersion := 0
  majorVersion := 65
  constantPool := pool
  accessFlags := fl
  thisClass := this
  superClass := sup
  interfaces := ifs
  fields := fds
  methods := ms
  attributes := attrs
def plain (name : String) (sup : Option ClassId) : Class where
  name := name
  kind := .ordinary
  loader := none
  accessFlags := 33
  super := sup
  interfaces := #[]
  cf := none
  fields := #[]
  methods := #[]
  instanceTypes := #[]
  staticTypes := #[]
  resolved := #[]
  callSites := []
  init := .initialized
  statics := none
  mirror := none

def pool0 : Array CpInfo := pool [(5, u "<init>"), (0, u "()V"), (1, .class_ 10), (1, u "java/lang/Object")] 113

def k0c0 : Code := { maxStack := 0, maxLocals := 1, code := object_method_1_code, exceptionTable := #[], attributes := #[] }
def k0m0 : Method := { name := "<init>", desc := "()V", sig := { parameters := [], returnType := none }, accessFlags := 1, code := some k0c0 }
/-- java/lang/Object -/
def k0 : Class := { plain "java/lang/Object" none with
  accessFlags := 33
  interfaces := #[]
  cf := some (fileOf pool0 8 #[] #[{ accessFlags := 1, nameIndex := 5, descriptorIndex := 6, attributes := #[] }] 33 0 #[] #[])
  fields := #[]
  methods := #[k0m0]
  instanceTypes := #[]
  staticTypes := #[]
  resolved := Array.replicate 124 none
  statics := none }

def pool1 : Array CpInfo := pool [(2, .class_ 4), (1, u "java/lang/Object"), (0, u "<init>"), (0, u "()V"), (0, .class_ 8), (0, u "com/example/brigid/brigid/trustcenter/Identifier"), (0, .methodref 10 11), (0, .class_ 12), (0, .nameAndType 13 14), (0, u "com/example/brigid/brigid/trustcenter/IdentifierEqualsPinLaw"), (0, u "str"), (0, u "(I)Ljava/lang/String;"), (0, .methodref 7 16), (0, .nameAndType 5 17), (0, u "(Ljava/lang/String;Ljava/lang/String;)V"), (0, .methodref 7 19), (0, .nameAndType 20 21), (0, u "equals"), (0, u "(Ljava/lang/Object;)Z"), (0, .methodref 10 23), (0, .nameAndType 24 25), (0, u "same"), (0, u "(II)Z"), (0, .class_ 27), (0, u "java/lang/String"), (0, .methodref 26 29), (0, .nameAndType 5 30), (0, u "([C)V"), (2, u "law"), (0, u "(IIIII)Z")] 3

def k1m0 : Method := { name := "<init>", desc := "()V", sig := { parameters := [], returnType := none }, accessFlags := 1, code := none }
def k1c1 : Code := { maxStack := 4, maxLocals := 11, code := code, exceptionTable := #[], attributes := #[] }
def k1m1 : Method := { name := "law", desc := "(IIIII)Z", sig := { parameters := [.int, .int, .int, .int, .int], returnType := some .boolean }, accessFlags := 9, code := some k1c1 }
def k1c2 : Code := { maxStack := 6, maxLocals := 5, code := method_3_code, exceptionTable := #[], attributes := #[] }
def k1m2 : Method := { name := "str", desc := "(I)Ljava/lang/String;", sig := { parameters := [.int], returnType := some (.object "java/lang/String") }, accessFlags := 10, code := some k1c2 }
def k1c3 : Code := { maxStack := 3, maxLocals := 4, code := method_4_code, exceptionTable := #[], attributes := #[] }
def k1m3 : Method := { name := "same", desc := "(II)Z", sig := { parameters := [.int, .int], returnType := some .boolean }, accessFlags := 10, code := some k1c3 }
/-- com/example/brigid/brigid/trustcenter/IdentifierEqualsPinLaw -/
def k1 : Class := { plain "com/example/brigid/brigid/trustcenter/IdentifierEqualsPinLaw" (some 0) with
  accessFlags := 49
  interfaces := #[]
  cf := some (fileOf pool1 10 #[] #[{ accessFlags := 1, nameIndex := 5, descriptorIndex := 6, attributes := #[] }, { accessFlags := 9, nameIndex := 33, descriptorIndex := 34, attributes := #[] }, { accessFlags := 10, nameIndex := 13, descriptorIndex := 14, attributes := #[] }, { accessFlags := 10, nameIndex := 24, descriptorIndex := 25, attributes := #[] }] 49 2 #[] #[])
  fields := #[]
  methods := #[k1m0, k1m1, k1m2, k1m3]
  instanceTypes := #[]
  staticTypes := #[]
  resolved := Array.replicate 38 none
  statics := none }

def pool2 : Array CpInfo := pool [(1, .methodref 2 3), (0, .class_ 4), (0, .nameAndType 5 6), (0, u "java/lang/Object"), (0, u "<init>"), (0, u "()V"), (0, .fieldref 8 9), (0, .class_ 10), (0, .nameAndType 11 12), (0, u "com/example/brigid/brigid/trustcenter/Identifier"), (0, u "domain"), (0, u "Ljava/lang/String;"), (0, .fieldref 8 14), (0, .nameAndType 15 12), (0, u "id"), (0, .methodref 17 18), (0, .class_ 19), (0, .nameAndType 20 21), (0, u "java/lang/String"), (0, u "equals"), (0, u "(Ljava/lang/Object;)Z"), (6, u "(Ljava/lang/String;Ljava/lang/String;)V")] 10

def k2c0 : Code := { maxStack := 2, maxLocals := 3, code := prog_13_method_1_code, exceptionTable := #[], attributes := #[] }
def k2m0 : Method := { name := "<init>", desc := "(Ljava/lang/String;Ljava/lang/String;)V", sig := { parameters := [(.object "java/lang/String"), (.object "java/lang/String")], returnType := none }, accessFlags := 0, code := some k2c0 }
def k2c1 : Code := { maxStack := 2, maxLocals := 3, code := prog_13_method_4_code, exceptionTable := #[], attributes := #[] }
def k2m1 : Method := { name := "equals", desc := "(Ljava/lang/Object;)Z", sig := { parameters := [(.object "java/lang/Object")], returnType := some .boolean }, accessFlags := 1, code := some k2c1 }
/-- com/example/brigid/brigid/trustcenter/Identifier -/
def k2 : Class := { plain "com/example/brigid/brigid/trustcenter/Identifier" (some 0) with
  accessFlags := 32
  interfaces := #[]
  cf := some (fileOf pool2 8 #[] #[{ accessFlags := 0, nameIndex := 5, descriptorIndex := 28, attributes := #[] }, { accessFlags := 1, nameIndex := 20, descriptorIndex := 21, attributes := #[] }] 32 2 #[] #[{ accessFlags := 18, nameIndex := 11, descriptorIndex := 12, attributes := #[] }, { accessFlags := 18, nameIndex := 15, descriptorIndex := 12, attributes := #[] }])
  fields := #[{ name := "domain", type := (.object "java/lang/String"), accessFlags := 18, slot := 0, constantValue := 0 }, { name := "id", type := (.object "java/lang/String"), accessFlags := 18, slot := 1, constantValue := 0 }]
  methods := #[k2m0, k2m1]
  instanceTypes := #[(.object "java/lang/String"), (.object "java/lang/String")]
  staticTypes := #[]
  resolved := Array.replicate 39 none
  statics := none }

def pool3 : Array CpInfo := pool [(1, .class_ 2), (0, u "java/io/Serializable"), (0, .class_ 4), (0, u "java/lang/Object")] 2

/-- java/io/Serializable -/
def k3 : Class := { plain "java/io/Serializable" (some 0) with
  accessFlags := 1537
  interfaces := #[]
  cf := some (fileOf pool3 1 #[] #[] 1537 3 #[] #[])
  fields := #[]
  methods := #[]
  instanceTypes := #[]
  staticTypes := #[]
  resolved := Array.replicate 7 none
  statics := none }

def pool4 : Array CpInfo := pool [(1, .class_ 2), (0, u "java/lang/Comparable"), (0, .class_ 4), (0, u "java/lang/Object")] 7

/-- java/lang/Comparable -/
def k4 : Class := { plain "java/lang/Comparable" (some 0) with
  accessFlags := 1537
  interfaces := #[]
  cf := some (fileOf pool4 1 #[] #[] 1537 3 #[] #[])
  fields := #[]
  methods := #[]
  instanceTypes := #[]
  staticTypes := #[]
  resolved := Array.replicate 12 none
  statics := none }

def pool5 : Array CpInfo := pool [(2, .class_ 4), (1, u "java/lang/CharSequence"), (42, .class_ 48), (0, u "java/lang/CharSequence$1CodePointIterator"), (10, .class_ 60), (0, u "java/lang/CharSequence$1CharIterator"), (5, .class_ 67), (0, u "java/lang/Object")] 63

/-- java/lang/CharSequence -/
def k5 : Class := { plain "java/lang/CharSequence" (some 0) with
  accessFlags := 1537
  interfaces := #[]
  cf := some (fileOf pool5 2 #[.nestMembers #[47, 59]] #[] 1537 66 #[] #[])
  fields := #[]
  methods := #[]
  instanceTypes := #[]
  staticTypes := #[]
  resolved := Array.replicate 131 none
  statics := none }

def pool6 : Array CpInfo := pool [(1, .class_ 2), (0, u "java/lang/constant/Constable"), (0, .class_ 4), (0, u "java/lang/Object")] 6

/-- java/lang/constant/Constable -/
def k6 : Class := { plain "java/lang/constant/Constable" (some 0) with
  accessFlags := 1537
  interfaces := #[]
  cf := some (fileOf pool6 1 #[] #[] 1537 3 #[] #[])
  fields := #[]
  methods := #[]
  instanceTypes := #[]
  staticTypes := #[]
  resolved := Array.replicate 11 none
  statics := none }

def pool7 : Array CpInfo := pool [(1, .class_ 2), (0, u "java/lang/constant/ConstantDesc"), (0, .class_ 4), (0, u "java/lang/Object")] 32

/-- java/lang/constant/ConstantDesc -/
def k7 : Class := { plain "java/lang/constant/ConstantDesc" (some 0) with
  accessFlags := 1537
  interfaces := #[]
  cf := some (fileOf pool7 1 #[] #[] 1537 3 #[] #[])
  fields := #[]
  methods := #[]
  instanceTypes := #[]
  staticTypes := #[]
  resolved := Array.replicate 37 none
  statics := none }

def pool8 : Array CpInfo := pool [(1, .methodref 2 3), (0, .class_ 4), (0, .nameAndType 5 6), (0, u "java/lang/Object"), (0, u "<init>"), (0, u "()V"), (0, .string 8), (0, u ""), (0, .fieldref 10 11), (0, .class_ 12), (0, .nameAndType 13 14), (0, u "java/lang/String"), (0, u "value"), (0, u "[B"), (0, .fieldref 10 16), (0, .nameAndType 17 18), (0, u "coder"), (0, u "B"), (2, u "hash"), (0, u "I"), (2, u "hashIsZero"), (0, u "Z"), (0, .methodref 10 28), (0, .nameAndType 5 29), (0, u "([CIILjava/lang/Void;)V"), (8, .fieldref 10 39), (0, .nameAndType 40 26), (0, u "COMPACT_STRINGS"), (1, .class_ 44), (1, u "java/lang/StringUTF16"), (0, u "compress"), (1, .methodref 42 48), (0, .nameAndType 49 50), (0, u "coderFromArrayLen"), (0, u "([BI)B"), (56, .class_ 109), (1, u "java/lang/StringLatin1"), (67, .methodref 42 178), (0, .nameAndType 45 179), (0, u "([CII)[B"), (361, .methodref 107 542), (0, .nameAndType 543 544), (0, u "equals"), (0, u "([B[B)Z"), (28, u "(Ljava/lang/Object;)Z"), (1, .class_ 576), (0, u "java/lang/CharSequence"), (22, u "CASE_INSENSITIVE_ORDER"), (0, u "Ljava/util/Comparator;"), (409, u "([C)V"), (90, u "serialPersistentFields"), (0, u "[Ljava/io/ObjectStreamField;"), (0, .class_ 1104), (0, u "java/lang/String$CaseInsensitiveComparator"), (1, .class_ 1107), (0, u "java/io/Serializable"), (0, .class_ 1109), (0, u "java/lang/Comparable"), (0, .class_ 1111), (0, u "java/lang/constant/Constable"), (0, .class_ 1113), (0, u "java/lang/constant/ConstantDesc"), (2, u "serialVersionUID"), (0, u "J"), (3, u "REPL"), (0, u "C"), (2, u "LATIN1"), (1, u "UTF16")] 323

def k8m0 : Method := { name := "<init>", desc := "()V", sig := { parameters := [], returnType := none }, accessFlags := 1, code := none }
def k8c1 : Code := { maxStack := 5, maxLocals := 2, code := jdk_42_method_3_code, exceptionTable := #[], attributes := #[] }
def k8m1 : Method := { name := "<init>", desc := "([C)V", sig := { parameters := [(.array .char)], returnType := none }, accessFlags := 1, code := some k8c1 }
def k8c2 : Code := { maxStack := 2, maxLocals := 3, code := jdk_42_method_66_code, exceptionTable := #[], attributes := #[] }
def k8m2 : Method := { name := "equals", desc := "(Ljava/lang/Object;)Z", sig := { parameters := [(.object "java/lang/Object")], returnType := some .boolean }, accessFlags := 1, code := some k8c2 }
def k8c3 : Code := { maxStack := 4, maxLocals := 6, code := jdk_42_method_149_code, exceptionTable := #[], attributes := #[] }
def k8m3 : Method := { name := "<init>", desc := "([CIILjava/lang/Void;)V", sig := { parameters := [(.array .char), .int, .int, (.object "java/lang/Void")], returnType := none }, accessFlags := 2, code := some k8c3 }
/-- java/lang/String -/
def k8 : Class := { plain "java/lang/String" (some 0) with
  accessFlags := 49
  interfaces := #[3, 4, 5, 6, 7]
  cf := some (fileOf pool8 10 #[.nestMembers #[1103]] #[{ accessFlags := 1, nameIndex := 5, descriptorIndex := 6, attributes := #[] }, { accessFlags := 1, nameIndex := 5, descriptorIndex := 1010, attributes := #[] }, { accessFlags := 1, nameIndex := 543, descriptorIndex := 573, attributes := #[] }, { accessFlags := 2, nameIndex := 5, descriptorIndex := 29, attributes := #[] }] 49 2 #[1106, 1108, 575, 1110, 1112] #[{ accessFlags := 18, nameIndex := 13, descriptorIndex := 14, attributes := #[] }, { accessFlags := 18, nameIndex := 17, descriptorIndex := 18, attributes := #[] }, { accessFlags := 2, nameIndex := 21, descriptorIndex := 22, attributes := #[] }, { accessFlags := 2, nameIndex := 25, descriptorIndex := 26, attributes := #[] }, { accessFlags := 26, nameIndex := 1116, descriptorIndex := 1117, attributes := #[] }, { accessFlags := 24, nameIndex := 40, descriptorIndex := 26, attributes := #[] }, { accessFlags := 26, nameIndex := 1101, descriptorIndex := 1102, attributes := #[] }, { accessFlags := 26, nameIndex := 1121, descriptorIndex := 1122, attributes := #[] }, { accessFlags := 25, nameIndex := 599, descriptorIndex := 600, attributes := #[] }, { accessFlags := 24, nameIndex := 1125, descriptorIndex := 18, attributes := #[] }, { accessFlags := 24, nameIndex := 1127, descriptorIndex := 18, attributes := #[] }])
  fields := #[{ name := "value", type := (.array .byte), accessFlags := 18, slot := 0, constantValue := 0 }, { name := "coder", type := .byte, accessFlags := 18, slot := 1, constantValue := 0 }, { name := "hash", type := .int, accessFlags := 2, slot := 2, constantValue := 0 }, { name := "hashIsZero", type := .boolean, accessFlags := 2, slot := 3, constantValue := 0 }, { name := "serialVersionUID", type := .long, accessFlags := 26, slot := 0, constantValue := 0 }, { name := "COMPACT_STRINGS", type := .boolean, accessFlags := 24, slot := 1, constantValue := 0 }, { name := "serialPersistentFields", type := (.array (.object "java/io/ObjectStreamField")), accessFlags := 26, slot := 2, constantValue := 0 }, { name := "REPL", type := .char, accessFlags := 26, slot := 3, constantValue := 0 }, { name := "CASE_INSENSITIVE_ORDER", type := (.object "java/util/Comparator"), accessFlags := 25, slot := 4, constantValue := 0 }, { name := "LATIN1", type := .byte, accessFlags := 24, slot := 5, constantValue := 0 }, { name := "UTF16", type := .byte, accessFlags := 24, slot := 6, constantValue := 0 }]
  methods := #[k8m0, k8m1, k8m2, k8m3]
  instanceTypes := #[(.array .byte), .byte, .int, .boolean]
  staticTypes := #[.long, .boolean, (.array (.object "java/io/ObjectStreamField")), .char, (.object "java/util/Comparator"), .byte, .byte]
  resolved := Array.replicate 1451 none
  statics := some 0 }

def pool9 : Array CpInfo := pool [(6, .class_ 8), (1, u "java/lang/Object"), (0, u "<init>"), (0, u "()V"), (1, .class_ 14), (1, u "java/lang/StringUTF16"), (31, u "$assertionsDisabled"), (0, u "Z"), (13, u "HI_BYTE_SHIFT"), (0, u "I"), (2, u "LO_BYTE_SHIFT"), (49, .methodref 12 116), (0, .nameAndType 117 118), (0, u "compress"), (0, u "([CI[BII)I"), (3, u "([CII)[B"), (138, u "coderFromArrayLen"), (0, u "([BI)B"), (106, .class_ 371), (1, u "java/lang/StringUTF16$LinesSpliterator"), (58, u "MAX_LENGTH"), (196, .class_ 628), (0, u "java/lang/StringUTF16$CodePointsSpliterator"), (0, .class_ 630), (0, u "java/lang/StringUTF16$CharsSpliterator")] 4

def k9m0 : Method := { name := "<init>", desc := "()V", sig := { parameters := [], returnType := none }, accessFlags := 0, code := none }
def k9c1 : Code := { maxStack := 2, maxLocals := 2, code := jdk_52_method_15_code, exceptionTable := #[], attributes := #[] }
def k9m1 : Method := { name := "coderFromArrayLen", desc := "([BI)B", sig := { parameters := [(.array .byte), .int], returnType := some .byte }, accessFlags := 8, code := some k9c1 }
def k9c2 : Code := { maxStack := 5, maxLocals := 6, code := jdk_52_method_16_code, exceptionTable := #[], attributes := #[] }
def k9m2 : Method := { name := "compress", desc := "([CII)[B", sig := { parameters := [(.array .char), .int, .int], returnType := some (.array .byte) }, accessFlags := 9, code := some k9c2 }
def k9c3 : Code := { maxStack := 3, maxLocals := 7, code := jdk_52_method_21_code, exceptionTable := #[], attributes := #[] }
def k9m3 : Method := { name := "compress", desc := "([CI[BII)I", sig := { parameters := [(.array .char), .int, (.array .byte), .int, .int], returnType := some .int }, accessFlags := 9, code := some k9c3 }
/-- java/lang/StringUTF16 -/
def k9 : Class := { plain "java/lang/StringUTF16" (some 0) with
  accessFlags := 48
  interfaces := #[]
  cf := some (fileOf pool9 12 #[.nestMembers #[627, 629, 369]] #[{ accessFlags := 0, nameIndex := 9, descriptorIndex := 10, attributes := #[] }, { accessFlags := 8, nameIndex := 261, descriptorIndex := 262, attributes := #[] }, { accessFlags := 9, nameIndex := 117, descriptorIndex := 122, attributes := #[] }, { accessFlags := 9, nameIndex := 117, descriptorIndex := 118, attributes := #[] }] 48 6 #[] #[{ accessFlags := 26, nameIndex := 61, descriptorIndex := 62, attributes := #[] }, { accessFlags := 26, nameIndex := 65, descriptorIndex := 62, attributes := #[] }, { accessFlags := 24, nameIndex := 430, descriptorIndex := 62, attributes := #[] }, { accessFlags := 4120, nameIndex := 46, descriptorIndex := 47, attributes := #[] }])
  fields := #[{ name := "HI_BYTE_SHIFT", type := .int, accessFlags := 26, slot := 0, constantValue := 0 }, { name := "LO_BYTE_SHIFT", type := .int, accessFlags := 26, slot := 1, constantValue := 0 }, { name := "MAX_LENGTH", type := .int, accessFlags := 24, slot := 2, constantValue := 0 }, { name := "$assertionsDisabled", type := .boolean, accessFlags := 4120, slot := 3, constantValue := 0 }]
  methods := #[k9m0, k9m1, k9m2, k9m3]
  instanceTypes := #[]
  staticTypes := #[.int, .int, .int, .boolean]
  resolved := Array.replicate 635 none
  statics := none }

def pool10 : Array CpInfo := pool [(4, .class_ 6), (1, u "java/lang/Object"), (0, u "<init>"), (0, u "()V"), (5, .class_ 16), (1, u "java/lang/StringLatin1"), (104, u "$assertionsDisabled"), (0, u "Z"), (98, .class_ 223), (1, u "java/lang/StringLatin1$LinesSpliterator"), (57, u "equals"), (0, u "([B[B)Z"), (107, .class_ 391), (0, u "java/lang/StringLatin1$CharsSpliterator")] 3

def k10m0 : Method := { name := "<init>", desc := "()V", sig := { parameters := [], returnType := none }, accessFlags := 0, code := none }
def k10c1 : Code := { maxStack := 3, maxLocals := 3, code := jdk_43_method_13_code, exceptionTable := #[], attributes := #[] }
def k10m1 : Method := { name := "equals", desc := "([B[B)Z", sig := { parameters := [(.array .byte), (.array .byte)], returnType := some .boolean }, accessFlags := 9, code := some k10c1 }
/-- java/lang/StringLatin1 -/
def k10 : Class := { plain "java/lang/StringLatin1" (some 0) with
  accessFlags := 48
  interfaces := #[]
  cf := some (fileOf pool10 14 #[.nestMembers #[390, 221]] #[{ accessFlags := 0, nameIndex := 7, descriptorIndex := 8, attributes := #[] }, { accessFlags := 9, nameIndex := 281, descriptorIndex := 282, attributes := #[] }] 48 4 #[] #[{ accessFlags := 4120, nameIndex := 121, descriptorIndex := 122, attributes := #[] }])
  fields := #[{ name := "$assertionsDisabled", type := .boolean, accessFlags := 4120, slot := 0, constantValue := 0 }]
  methods := #[k10m0, k10m1]
  instanceTypes := #[]
  staticTypes := #[.boolean]
  resolved := Array.replicate 395 none
  statics := none }

def pool11 : Array CpInfo := pool [(2, .class_ 4), (1, u "java/lang/Object"), (0, u "<init>"), (0, u "()V"), (17, .class_ 26), (1, u "jdk/internal/util/Preconditions"), (28, .class_ 56), (0, u "jdk/internal/util/Preconditions$4"), (57, .class_ 115), (0, u "jdk/internal/util/Preconditions$1"), (7, u "SIOOBE_FORMATTER"), (0, u "Ljava/util/function/BiFunction;"), (0, .class_ 126), (0, u "jdk/internal/util/Preconditions$2"), (3, u "AIOOBE_FORMATTER"), (0, .class_ 132), (0, u "jdk/internal/util/Preconditions$3"), (3, u "IOOBE_FORMATTER")] 57

def k11m0 : Method := { name := "<init>", desc := "()V", sig := { parameters := [], returnType := none }, accessFlags := 1, code := none }
/-- jdk/internal/util/Preconditions -/
def k11 : Class := { plain "jdk/internal/util/Preconditions" (some 0) with
  accessFlags := 33
  interfaces := #[]
  cf := some (fileOf pool11 24 #[.nestMembers #[55, 131, 125, 114]] #[{ accessFlags := 1, nameIndex := 5, descriptorIndex := 6, attributes := #[] }] 33 2 #[] #[{ accessFlags := 25, nameIndex := 123, descriptorIndex := 124, attributes := #[] }, { accessFlags := 25, nameIndex := 130, descriptorIndex := 124, attributes := #[] }, { accessFlags := 25, nameIndex := 136, descriptorIndex := 124, attributes := #[] }])
  fields := #[{ name := "SIOOBE_FORMATTER", type := (.object "java/util/function/BiFunction"), accessFlags := 25, slot := 0, constantValue := 0 }, { name := "AIOOBE_FORMATTER", type := (.object "java/util/function/BiFunction"), accessFlags := 25, slot := 1, constantValue := 0 }, { name := "IOOBE_FORMATTER", type := (.object "java/util/function/BiFunction"), accessFlags := 25, slot := 2, constantValue := 0 }]
  methods := #[k11m0]
  instanceTypes := #[]
  staticTypes := #[(.object "java/util/function/BiFunction"), (.object "java/util/function/BiFunction"), (.object "java/util/function/BiFunction")]
  resolved := Array.replicate 194 none
  statics := some 1 }

def pool12 : Array CpInfo := pool [(9, u "<init>"), (6, .class_ 18), (1, u "java/lang/Object"), (0, u "()V"), (1, .class_ 23), (1, u "jdk/internal/util/ArraysSupport"), (0, u "LOG2_ARRAY_LONG_INDEX_SCALE"), (0, u "I"), (2, u "U"), (0, u "Ljdk/internal/misc/Unsafe;"), (8, u "BIG_ENDIAN"), (0, u "Z"), (8, u "LOG2_BYTE_BIT_SIZE"), (4, u "LOG2_ARRAY_INT_INDEX_SCALE"), (54, u "JLA"), (0, u "Ljdk/internal/access/JavaLangAccess;"), (11, u "LOG2_ARRAY_BOOLEAN_INDEX_SCALE"), (9, u "LOG2_ARRAY_BYTE_INDEX_SCALE"), (5, u "LOG2_ARRAY_CHAR_INDEX_SCALE"), (5, u "LOG2_ARRAY_SHORT_INDEX_SCALE"), (18, u "LOG2_ARRAY_FLOAT_INDEX_SCALE"), (24, u "LOG2_ARRAY_DOUBLE_INDEX_SCALE"), (89, u "T_BOOLEAN"), (2, u "T_CHAR"), (1, u "T_FLOAT"), (1, u "T_DOUBLE"), (1, u "T_BYTE"), (1, u "T_SHORT"), (1, u "T_INT"), (1, u "T_LONG"), (1, u "SOFT_MAX_ARRAY_LENGTH")] 83

def k12m0 : Method := { name := "<init>", desc := "()V", sig := { parameters := [], returnType := none }, accessFlags := 2, code := none }
/-- jdk/internal/util/ArraysSupport -/
def k12 : Class := { plain "jdk/internal/util/ArraysSupport" (some 0) with
  accessFlags := 33
  interfaces := #[]
  cf := some (fileOf pool12 21 #[] #[{ accessFlags := 2, nameIndex := 9, descriptorIndex := 19, attributes := #[] }] 33 16 #[] #[{ accessFlags := 24, nameIndex := 28, descriptorIndex := 29, attributes := #[] }, { accessFlags := 26, nameIndex := 38, descriptorIndex := 39, attributes := #[] }, { accessFlags := 25, nameIndex := 121, descriptorIndex := 25, attributes := #[] }, { accessFlags := 25, nameIndex := 131, descriptorIndex := 25, attributes := #[] }, { accessFlags := 25, nameIndex := 137, descriptorIndex := 25, attributes := #[] }, { accessFlags := 25, nameIndex := 143, descriptorIndex := 25, attributes := #[] }, { accessFlags := 25, nameIndex := 53, descriptorIndex := 25, attributes := #[] }, { accessFlags := 25, nameIndex := 24, descriptorIndex := 25, attributes := #[] }, { accessFlags := 25, nameIndex := 162, descriptorIndex := 25, attributes := #[] }, { accessFlags := 25, nameIndex := 187, descriptorIndex := 25, attributes := #[] }, { accessFlags := 26, nameIndex := 48, descriptorIndex := 25, attributes := #[] }, { accessFlags := 25, nameIndex := 277, descriptorIndex := 25, attributes := #[] }, { accessFlags := 25, nameIndex := 280, descriptorIndex := 25, attributes := #[] }, { accessFlags := 25, nameIndex := 282, descriptorIndex := 25, attributes := #[] }, { accessFlags := 25, nameIndex := 284, descriptorIndex := 25, attributes := #[] }, { accessFlags := 25, nameIndex := 286, descriptorIndex := 25, attributes := #[] }, { accessFlags := 25, nameIndex := 288, descriptorIndex := 25, attributes := #[] }, { accessFlags := 25, nameIndex := 290, descriptorIndex := 25, attributes := #[] }, { accessFlags := 25, nameIndex := 292, descriptorIndex := 25, attributes := #[] }, { accessFlags := 26, nameIndex := 108, descriptorIndex := 109, attributes := #[] }, { accessFlags := 25, nameIndex := 294, descriptorIndex := 25, attributes := #[] }])
  fields := #[{ name := "U", type := (.object "jdk/internal/misc/Unsafe"), accessFlags := 24, slot := 0, constantValue := 0 }, { name := "BIG_ENDIAN", type := .boolean, accessFlags := 26, slot := 1, constantValue := 0 }, { name := "LOG2_ARRAY_BOOLEAN_INDEX_SCALE", type := .int, accessFlags := 25, slot := 2, constantValue := 0 }, { name := "LOG2_ARRAY_BYTE_INDEX_SCALE", type := .int, accessFlags := 25, slot := 3, constantValue := 0 }, { name := "LOG2_ARRAY_CHAR_INDEX_SCALE", type := .int, accessFlags := 25, slot := 4, constantValue := 0 }, { name := "LOG2_ARRAY_SHORT_INDEX_SCALE", type := .int, accessFlags := 25, slot := 5, constantValue := 0 }, { name := "LOG2_ARRAY_INT_INDEX_SCALE", type := .int, accessFlags := 25, slot := 6, constantValue := 0 }, { name := "LOG2_ARRAY_LONG_INDEX_SCALE", type := .int, accessFlags := 25, slot := 7, constantValue := 0 }, { name := "LOG2_ARRAY_FLOAT_INDEX_SCALE", type := .int, accessFlags := 25, slot := 8, constantValue := 0 }, { name := "LOG2_ARRAY_DOUBLE_INDEX_SCALE", type := .int, accessFlags := 25, slot := 9, constantValue := 0 }, { name := "LOG2_BYTE_BIT_SIZE", type := .int, accessFlags := 26, slot := 10, constantValue := 0 }, { name := "T_BOOLEAN", type := .int, accessFlags := 25, slot := 11, constantValue := 0 }, { name := "T_CHAR", type := .int, accessFlags := 25, slot := 12, constantValue := 0 }, { name := "T_FLOAT", type := .int, accessFlags := 25, slot := 13, constantValue := 0 }, { name := "T_DOUBLE", type := .int, accessFlags := 25, slot := 14, constantValue := 0 }, { name := "T_BYTE", type := .int, accessFlags := 25, slot := 15, constantValue := 0 }, { name := "T_SHORT", type := .int, accessFlags := 25, slot := 16, constantValue := 0 }, { name := "T_INT", type := .int, accessFlags := 25, slot := 17, constantValue := 0 }, { name := "T_LONG", type := .int, accessFlags := 25, slot := 18, constantValue := 0 }, { name := "JLA", type := (.object "jdk/internal/access/JavaLangAccess"), accessFlags := 26, slot := 19, constantValue := 0 }, { name := "SOFT_MAX_ARRAY_LENGTH", type := .int, accessFlags := 25, slot := 20, constantValue := 0 }]
  methods := #[k12m0]
  instanceTypes := #[]
  staticTypes := #[(.object "jdk/internal/misc/Unsafe"), .boolean, .int, .int, .int, .int, .int, .int, .int, .int, .int, .int, .int, .int, .int, .int, .int, .int, .int, (.object "jdk/internal/access/JavaLangAccess"), .int]
  resolved := Array.replicate 378 none
  statics := none }

def pool13 : Array CpInfo := pool [(1, u "java/lang/Cloneable"), (0, .class_ 1), (0, u "java/lang/Object"), (0, .class_ 3)] 3

/-- java/lang/Cloneable -/
def k13 : Class := { plain "java/lang/Cloneable" (some 0) with
  accessFlags := 1537
  interfaces := #[]
  cf := some (fileOf pool13 2 #[] #[] 1537 4 #[] #[])
  fields := #[]
  methods := #[]
  instanceTypes := #[]
  staticTypes := #[]
  resolved := Array.replicate 8 none
  statics := none }

/-- the primitive byte -/
def k14 : Class := { plain "byte" none with kind := .primitive 'B', accessFlags := 0x411 }
/-- [B -/
def k15 : Class := { plain "[B" (some 0) with kind := .array 14 .byte, interfaces := #[13, 3], accessFlags := 1041 }

/-- the primitive char -/
def k16 : Class := { plain "char" none with kind := .primitive 'C', accessFlags := 0x411 }
/-- [C -/
def k17 : Class := { plain "[C" (some 0) with kind := .array 16 .char, interfaces := #[13, 3], accessFlags := 1041 }

/-- the primitive int -/
def k18 : Class := { plain "int" none with kind := .primitive 'I', accessFlags := 0x411 }
/-- [I -/
def k19 : Class := { plain "[I" (some 0) with kind := .array 18 .int, interfaces := #[13, 3], accessFlags := 1041 }

def heap : Heap := #[{ cls := 8, slots := #[.long 0, .int 1, .null, .int 0, .null, .int 0, .int 0], vm := .statics 8 },
  { cls := 11, slots := #[.null, .null, .null], vm := .statics 11 }]
def classes : Array Class := #[k0, k1, k2, k3, k4, k5, k6, k7, k8, k9, k10, k11, k12, k13, k14, k15, k16, k17, k18, k19]
def interned : List (Array UInt16 × Addr) := []
def slotsUsed : Nat := 10
def theMethod : MethodId := ⟨1, 1⟩
def args0 : Array Value := #[.int 1, .int 2, .int 3, .int 4, .int 5]
def aboutOver (below : List Frame) : State where
  vm := { classes := classes, interned := interned.toArray }
  heap := heap
  slotsUsed := slotsUsed
  threads := #[{ frames := .invoking theMethod args0 :: below }]
def below0 : List Frame := [.native { method := ⟨0, 0⟩, args := #[] }]
def about1 : State := aboutOver below0
def p0 : Program := .bare "" "" ""
def e0 : Env := launch0.env 0 0 0
theorem w_frames : about1.frames = Frame.invoking theMethod args0 :: below0 := rfl
set_option maxRecDepth 65536 in
theorem w_args : argsFit about1.vm theMethod args0 = true := by decide +kernel
set_option maxRecDepth 65536 in
theorem w_heap : heapFits about1 = true := by decide +kernel
set_option maxRecDepth 65536 in
theorem w_runnable : about1.curStatus? = some .runnable := by decide +kernel
set_option maxRecDepth 65536 in
theorem w_alone : about1.alone = true := by decide +kernel
set_option maxRecDepth 65536 in
theorem w_named : about1.methodNamed? x = some theMethod := by decide +kernel
set_option maxRecDepth 65536 in
theorem w_hears : about1.hears theMethod below0 = true := by decide +kernel
set_option maxRecDepth 65536 in
theorem w_ripe : about1.ripe theMethod args0 below0 = true := by decide +kernel
theorem w_running : about1.status = .running := rfl
set_option maxRecDepth 65536 in
theorem w_room : about1.hasRoom e0.platform room_1 = true :=
  launch0.hasRoom_least _ room_1 (by decide +kernel) (by decide +kernel) (by decide +kernel) (by decide +kernel) (by decide +kernel) (by decide +kernel)
theorem allAtoms_all (ts : List Jvm.Cond) (a : Array Jvm.Value) (st : Jvm.State) : (allAtoms ts).before a st = ts.all (fun c => c.before a st) := by
  induction ts with
  | nil => rfl
  | cons c t ih =>
    show (Jvm.Cond.and c (allAtoms t)).before a st = _
    rw [Jvm.Cond.before_and, ih, List.all_cons]
def words1 : List Jvm.Cond := Jvm.Cond.code x code maxLocals ret :: tables_1
/-- a 'code' word, met by the world's own term for the bytes: nothing is compared byte by byte -/
theorem code_word {y : MethodName} {bytes : ByteArray} {mx : Nat} {rt : Option FieldType} {a : Array Value} {s : State} {m : MethodId} {meth : Method} {c : Code} (h1 : s.methodNamed? y = some m) (h2 : s.vm.method? m = some meth) (h3 : meth.code = some c) (h4 : c.code = bytes)
    (h5 : (c.maxLocals == mx && c.exceptionTable.isEmpty && decide (c.maxStack ≤ mostOperands) && decide (meth.sig.returnType = rt) && !meth.locks && decide (parseMethodDescriptor y.desc = some meth.sig)) = true) : (Jvm.Cond.code y bytes mx rt).before a s = true := by
  simp only [Bool.and_eq_true, beq_iff_eq, Bool.not_eq_true', decide_eq_true_eq] at h5
  obtain ⟨⟨⟨⟨⟨g1, g2⟩, g3⟩, g4⟩, g5⟩, g6⟩ := h5
  simp [Cond.before, Cond.holds, Cond.value, h1, h2, h3, h4, g1, g2, g3, g4, g5, g6]
def isCode : Jvm.Cond → Bool
  | .code _ _ _ _ => true
  | _ => false
theorem all_split {L : List Jvm.Cond} {P : Jvm.Cond → Bool} (h1 : L.all (fun c => isCode c || P c) = true) (h2 : ∀ c ∈ L.filter isCode, P c = true) : L.all P = true := by
  refine List.all_eq_true.mpr fun c hc => ?_
  have h := List.all_eq_true.mp h1 c hc
  rcases Bool.eq_false_or_eq_true (isCode c) with hi | hi
  · exact h2 c (List.mem_filter.mpr ⟨hc, hi⟩)
  · simpa [hi] using h
set_option maxRecDepth 65536 in
theorem w_c0 : (Jvm.Cond.code x code maxLocals ret).before args0 about1 = true := code_word (m := ⟨1, 1⟩) (meth := k1m1) (c := k1c1) (by decide +kernel) rfl rfl rfl (by decide +kernel)
set_option maxRecDepth 65536 in
theorem w_c1 : (Jvm.Cond.code ({ cls := "com/example/brigid/brigid/trustcenter/IdentifierEqualsPinLaw", name := "str", desc := "(I)Ljava/lang/String;" } : Jvm.MethodName) method_3_code (5 : Nat) (Option.some (Jvm.ClassFile.FieldType.object "java/lang/String"))).before args0 about1 = true := code_word (m := ⟨1, 2⟩) (meth := k1m2) (c := k1c2) (by decide +kernel) rfl rfl rfl (by decide +kernel)
set_option maxRecDepth 65536 in
theorem w_c2 : (Jvm.Cond.code ({ cls := "java/lang/String", name := "<init>", desc := "([C)V" } : Jvm.MethodName) jdk_42_method_3_code (2 : Nat) (Option.none : Option Jvm.ClassFile.FieldType)).before args0 about1 = true := code_word (m := ⟨8, 1⟩) (meth := k8m1) (c := k8c1) (by decide +kernel) rfl rfl rfl (by decide +kernel)
set_option maxRecDepth 65536 in
theorem w_c3 : (Jvm.Cond.code ({ cls := "java/lang/String", name := "<init>", desc := "([CIILjava/lang/Void;)V" } : Jvm.MethodName) jdk_42_method_149_code (6 : Nat) (Option.none : Option Jvm.ClassFile.FieldType)).before args0 about1 = true := code_word (m := ⟨8, 3⟩) (meth := k8m3) (c := k8c3) (by decide +kernel) rfl rfl rfl (by decide +kernel)
set_option maxRecDepth 65536 in
theorem w_c4 : (Jvm.Cond.code ({ cls := "java/lang/Object", name := "<init>", desc := "()V" } : Jvm.MethodName) object_method_1_code (1 : Nat) (Option.none : Option Jvm.ClassFile.FieldType)).before args0 about1 = true := code_word (m := ⟨0, 0⟩) (meth := k0m0) (c := k0c0) (by decide +kernel) rfl rfl rfl (by decide +kernel)
set_option maxRecDepth 65536 in
theorem w_c5 : (Jvm.Cond.code ({ cls := "java/lang/StringUTF16", name := "compress", desc := "([CII)[B" } : Jvm.MethodName) jdk_52_method_16_code (6 : Nat) (Option.some (Jvm.ClassFile.FieldType.array Jvm.ClassFile.FieldType.byte))).before args0 about1 = true := code_word (m := ⟨9, 2⟩) (meth := k9m2) (c := k9c2) (by decide +kernel) rfl rfl rfl (by decide +kernel)
set_option maxRecDepth 65536 in
theorem w_c6 : (Jvm.Cond.code ({ cls := "java/lang/StringUTF16", name := "compress", desc := "([CI[BII)I" } : Jvm.MethodName) jdk_52_method_21_code (7 : Nat) (Option.some Jvm.ClassFile.FieldType.int)).before args0 about1 = true := code_word (m := ⟨9, 3⟩) (meth := k9m3) (c := k9c3) (by decide +kernel) rfl rfl rfl (by decide +kernel)
set_option maxRecDepth 65536 in
theorem w_c7 : (Jvm.Cond.code ({ cls := "java/lang/StringUTF16", name := "coderFromArrayLen", desc := "([BI)B" } : Jvm.MethodName) jdk_52_method_15_code (2 : Nat) (Option.some Jvm.ClassFile.FieldType.byte)).before args0 about1 = true := code_word (m := ⟨9, 1⟩) (meth := k9m1) (c := k9c1) (by decide +kernel) rfl rfl rfl (by decide +kernel)
set_option maxRecDepth 65536 in
theorem w_c8 : (Jvm.Cond.code ({ cls := "com/example/brigid/brigid/trustcenter/Identifier", name := "<init>", desc := "(Ljava/lang/String;Ljava/lang/String;)V" } : Jvm.MethodName) prog_13_method_1_code (3 : Nat) (Option.none : Option Jvm.ClassFile.FieldType)).before args0 about1 = true := code_word (m := ⟨2, 0⟩) (meth := k2m0) (c := k2c0) (by decide +kernel) rfl rfl rfl (by decide +kernel)
set_option maxRecDepth 65536 in
theorem w_c9 : (Jvm.Cond.code ({ cls := "com/example/brigid/brigid/trustcenter/IdentifierEqualsPinLaw", name := "same", desc := "(II)Z" } : Jvm.MethodName) method_4_code (4 : Nat) (Option.some Jvm.ClassFile.FieldType.boolean)).before args0 about1 = true := code_word (m := ⟨1, 3⟩) (meth := k1m3) (c := k1c3) (by decide +kernel) rfl rfl rfl (by decide +kernel)
set_option maxRecDepth 65536 in
theorem w_c10 : (Jvm.Cond.code ({ cls := "com/example/brigid/brigid/trustcenter/Identifier", name := "equals", desc := "(Ljava/lang/Object;)Z" } : Jvm.MethodName) prog_13_method_4_code (3 : Nat) (Option.some Jvm.ClassFile.FieldType.boolean)).before args0 about1 = true := code_word (m := ⟨2, 1⟩) (meth := k2m1) (c := k2c1) (by decide +kernel) rfl rfl rfl (by decide +kernel)
set_option maxRecDepth 65536 in
theorem w_c11 : (Jvm.Cond.code ({ cls := "java/lang/String", name := "equals", desc := "(Ljava/lang/Object;)Z" } : Jvm.MethodName) jdk_42_method_66_code (3 : Nat) (Option.some Jvm.ClassFile.FieldType.boolean)).before args0 about1 = true := code_word (m := ⟨8, 2⟩) (meth := k8m2) (c := k8c2) (by decide +kernel) rfl rfl rfl (by decide +kernel)
set_option maxRecDepth 65536 in
theorem w_c12 : (Jvm.Cond.code ({ cls := "java/lang/StringLatin1", name := "equals", desc := "([B[B)Z" } : Jvm.MethodName) jdk_43_method_13_code (3 : Nat) (Option.some Jvm.ClassFile.FieldType.boolean)).before args0 about1 = true := code_word (m := ⟨10, 1⟩) (meth := k10m1) (c := k10c1) (by decide +kernel) rfl rfl rfl (by decide +kernel)
def codes1 : List Jvm.Cond := [Jvm.Cond.code x code maxLocals ret, Jvm.Cond.code ({ cls := "com/example/brigid/brigid/trustcenter/IdentifierEqualsPinLaw", name := "str", desc := "(I)Ljava/lang/String;" } : Jvm.MethodName) method_3_code (5 : Nat) (Option.some (Jvm.ClassFile.FieldType.object "java/lang/String")), Jvm.Cond.code ({ cls := "java/lang/String", name := "<init>", desc := "([C)V" } : Jvm.MethodName) jdk_42_method_3_code (2 : Nat) (Option.none : Option Jvm.ClassFile.FieldType), Jvm.Cond.code ({ cls := "java/lang/String", name := "<init>", desc := "([CIILjava/lang/Void;)V" } : Jvm.MethodName) jdk_42_method_149_code (6 : Nat) (Option.none : Option Jvm.ClassFile.FieldType), Jvm.Cond.code ({ cls := "java/lang/Object", name := "<init>", desc := "()V" } : Jvm.MethodName) object_method_1_code (1 : Nat) (Option.none : Option Jvm.ClassFile.FieldType), Jvm.Cond.code ({ cls := "java/lang/StringUTF16", name := "compress", desc := "([CII)[B" } : Jvm.MethodName) jdk_52_method_16_code (6 : Nat) (Option.some (Jvm.ClassFile.FieldType.array Jvm.ClassFile.FieldType.byte)), Jvm.Cond.code ({ cls := "java/lang/StringUTF16", name := "compress", desc := "([CI[BII)I" } : Jvm.MethodName) jdk_52_method_21_code (7 : Nat) (Option.some Jvm.ClassFile.FieldType.int), Jvm.Cond.code ({ cls := "java/lang/StringUTF16", name := "coderFromArrayLen", desc := "([BI)B" } : Jvm.MethodName) jdk_52_method_15_code (2 : Nat) (Option.some Jvm.ClassFile.FieldType.byte), Jvm.Cond.code ({ cls := "com/example/brigid/brigid/trustcenter/Identifier", name := "<init>", desc := "(Ljava/lang/String;Ljava/lang/String;)V" } : Jvm.MethodName) prog_13_method_1_code (3 : Nat) (Option.none : Option Jvm.ClassFile.FieldType), Jvm.Cond.code ({ cls := "com/example/brigid/brigid/trustcenter/IdentifierEqualsPinLaw", name := "same", desc := "(II)Z" } : Jvm.MethodName) method_4_code (4 : Nat) (Option.some Jvm.ClassFile.FieldType.boolean), Jvm.Cond.code ({ cls := "com/example/brigid/brigid/trustcenter/Identifier", name := "equals", desc := "(Ljava/lang/Object;)Z" } : Jvm.MethodName) prog_13_method_4_code (3 : Nat) (Option.some Jvm.ClassFile.FieldType.boolean), Jvm.Cond.code ({ cls := "java/lang/String", name := "equals", desc := "(Ljava/lang/Object;)Z" } : Jvm.MethodName) jdk_42_method_66_code (3 : Nat) (Option.some Jvm.ClassFile.FieldType.boolean), Jvm.Cond.code ({ cls := "java/lang/StringLatin1", name := "equals", desc := "([B[B)Z" } : Jvm.MethodName) jdk_43_method_13_code (3 : Nat) (Option.some Jvm.ClassFile.FieldType.boolean)]
set_option maxRecDepth 65536 in
theorem codes_eq : words1.filter isCode = codes1 := rfl
theorem w_codes : ∀ c ∈ words1.filter isCode, c.before args0 about1 = true := by
  rw [codes_eq]
  intro c hc
  simp only [codes1, List.mem_cons, List.not_mem_nil, or_false] at hc
  rcases hc with rfl | rfl | rfl | rfl | rfl | rfl | rfl | rfl | rfl | rfl | rfl | rfl | rfl
  · exact w_c0
  · exact w_c1
  · exact w_c2
  · exact w_c3
  · exact w_c4
  · exact w_c5
  · exact w_c6
  · exact w_c7
  · exact w_c8
  · exact w_c9
  · exact w_c10
  · exact w_c11
  · exact w_c12
set_option maxRecDepth 65536 in
theorem w_t1 : (words1.take 24).all (fun c => isCode c || c.before args0 about1) = true := by decide +kernel
set_option maxRecDepth 65536 in
theorem w_t2 : ((words1.drop 24).take 24).all (fun c => isCode c || c.before args0 about1) = true := by decide +kernel
set_option maxRecDepth 65536 in
theorem w_t3 : ((words1.drop 24).drop 24).all (fun c => isCode c || c.before args0 about1) = true := by decide +kernel
theorem w_tables : (allAtoms (Jvm.Cond.code x code maxLocals ret :: tables_1)).before args0 about1 = true := by
  rw [allAtoms_all]
  show words1.all (fun c => c.before args0 about1) = true
  refine all_split ?_ w_codes
  rw [← List.take_append_drop 24 words1, List.all_append, w_t1, ← List.take_append_drop 24 (words1.drop 24), List.all_append, w_t2, w_t3]
  rfl
set_option maxRecDepth 65536 in
theorem w_rest : rest_1_c.before args0 about1 = true := by decide +kernel
set_option maxRecDepth 65536 in
theorem w_case : (Jvm.Cond.and given_1 narrow_1).before args0 about1 = true := by decide +kernel
set_option maxRecDepth 65536 in
theorem w_consts : constsHeld consts_1 about1 := Jvm.Lit.constsHeldB_iff.mp (by decide +kernel)
theorem w_applies : (headSpec (Jvm.Cond.code x code maxLocals ret :: tables_1) room_1).applies x e0.platform about1 = true :=
  (Spec.applies_iff w_frames).mpr ⟨w_running, w_runnable, w_alone, w_named, w_hears, w_ripe, w_room, w_tables⟩
theorem atStart : AtStart classFile x code maxLocals ret World_1 tables_1 room_1 Calls_1 rest_1 Pre_1 launch0 p0 e0 about1 theMethod args0 below0 :=
  ⟨lists_1, trivial, launch0.admits_env _ _ _, launch0.least_env, fairChoices_fair.cas, fairChoices_fair.clock, w_frames, w_args, w_heap, w_applies, ⟨w_consts, trivial⟩, w_rest, w_case⟩
end start1
theorem witness_1 : WitnessClaimed_1 := ⟨start1.p0, start1.e0, start1.about1, start1.theMethod, start1.args0, start1.below0, start1.atStart⟩
end Jvm.Pilot.@@N@@
